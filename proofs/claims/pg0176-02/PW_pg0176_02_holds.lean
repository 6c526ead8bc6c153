import PyProof.Rows.All
import Wide.All
import OpenK.AllK
import Wide.FinOn
import PySem.Challenge.RW_pg0176_02
set_option Elab.async false
set_option compiler.extract_closed false
section TLHead
open PySem PySem.W PyProof.Rows
set_option maxRecDepth 100000
set_option maxHeartbeats 8000000
namespace Mine
open_top hd for PySem.Challenge.rw_pg0176_02
end Mine
end TLHead
section TLCon
open PySem PySem.W PyProof.Rows PySem.Calls PySem.Spec
set_option maxRecDepth 100000
set_option maxHeartbeats 8000000
namespace Mine
abbrev Led := List (Addr × Obj)
/-- no address of the first stands in the second -/
def Off (l r : Led) : Prop := ∀ p ∈ l, ∀ q ∈ r, p.1 ≠ q.1
/-- what a call of a def does: from a ledger with led at its head to a ledger with another head -/
def Con (w : World) (d : Nat) (f : Addr) (vs : List Value) (led : Led) (Out : Value → Led → Prop) : Prop :=
  ∀ (mean : ExcName → Option Value) (mg mb : PySem.Str → Option Value) (dp un : Nat) (gd : Option (List Code)) (cn : PySem.Str) (cs : Scope) (a : Addr) (ccd : Value) (cl : List (PySem.Str × Addr)) (outer : List Env) (A₀ : Around) (base h₀ : Heap) (L : Addr) (m : PySem.Str → Option Value) (s : Shared) (Q E : Value → Shared → Prop) (rest : Led),
    Below A₀ base outer h₀ → Fr h₀ L s.heap m → (hd.heap_39 w.params).In h₀ → News h₀ L s.heap (led ++ rest) → Top hd.view_39 (looseW hd.view_39 []) mean mg mb h₀ → cs.kind = .function → Off led rest → dp + d < recursionLimit → un + 8 * d < cLine →
    (∀ r led' h' tk', Fr h₀ L h' m → News h₀ L h' (led' ++ rest) → Off led' rest → Out r led' → Q r { s with heap := h', toks := tk' }) →
    wpAny (model PySem.Challenge.rw_pg0176_02.row.prog w) (ktrTop dp un gd cn cs L a ccd cl outer) (call (.ref f) vs) Q E s
section
variable {w : World} {d : Nat} {f : Addr} {vs : List Value} {mean : ExcName → Option Value} {mg mb : PySem.Str → Option Value} {dp un : Nat} {gd : Option (List Code)} {cn : PySem.Str} {cs : Scope} {a : Addr} {ccd : Value} {cl : List (PySem.Str × Addr)} {outer : List Env} {A₀ : Around} {base h₀ : Heap} {L : Addr} {m : PySem.Str → Option Value} {s : Shared} {Q E : Value → Shared → Prop} {news : Led}
/-- a call that leaves no object behind -/
theorem call0 {P : Value → Prop} (C : Con w d f vs [] (fun r led' => led' = [] ∧ P r)) (B : Below A₀ base outer h₀) (F : Fr h₀ L s.heap m) (X : (hd.heap_39 w.params).In h₀) (N : News h₀ L s.heap news) (T : Top hd.view_39 (looseW hd.view_39 []) mean mg mb h₀) (hk : cs.kind = .function)
    (h1 : dp + d < recursionLimit) (h2 : un + 8 * d < cLine) (h : ∀ r h' tk', Fr h₀ L h' m → News h₀ L h' news → P r → Q r { s with heap := h', toks := tk' }) :
    wpAny (model PySem.Challenge.rw_pg0176_02.row.prog w) (ktrTop dp un gd cn cs L a ccd cl outer) (call (.ref f) vs) Q E s :=
  C mean mg mb dp un gd cn cs a ccd cl outer A₀ base h₀ L m s Q E news B F X (by simpa using N) T hk (fun _ h => nomatch h) h1 h2 fun r led' h' tk' F' N' _ ho => h r h' tk' F' (by rw [ho.1] at N'; simpa using N') ho.2
end
end Mine
end TLCon
section TLKit
open PySem PySem.W PyProof.Rows PySem.Calls PySem.Spec
set_option maxRecDepth 100000
set_option maxHeartbeats 8000000
namespace Mine
/-- a goal put by: the walk stops at it -/
structure Hold (P : Prop) : Prop where
  out : P
def tx (l : List Nat) : PySem.Str := ⟨l.toArray⟩
theorem tx_length (l : List Nat) : (tx l).length = l.length := by simp [tx, PySem.Str.length]

section loops
variable {prog : Program} {w : World} {A : Around} {E : Value → Shared → Prop} {s : Shared} {env : Env} {h₀ : Heap} {x : PySem.Str} {body : List Stmt} {Q : Flow → Shared → Prop}
def TEnd (h₀ : Heap) (L : Addr) (J : (PySem.Str → Option Value) → Led → Prop) (I : Addr) (oI : Obj) (s₁ s₂ : Shared) : Prop :=
  ∃ h' tk m' nx, s₂ = { s₁ with heap := h', toks := tk } ∧ Fr h₀ L h' m' ∧ News h₀ L h' ((I, oI) :: nx) ∧ (∀ p ∈ nx, p.1 ≠ I) ∧ J m' nx
theorem TEnd.mk {L : Addr} {J : (PySem.Str → Option Value) → Led → Prop} {I : Addr} {oI : Obj} {s₁ : Shared} {h' : Heap} {tk : Nat} {m' : PySem.Str → Option Value} {nx : Led} (F : Fr h₀ L h' m') (N : News h₀ L h' ((I, oI) :: nx)) (hI : ∀ p ∈ nx, p.1 ≠ I) (hj : J m' nx) :
    TEnd h₀ L J I oI s₁ { s₁ with heap := h', toks := tk } := ⟨h', tk, m', nx, rfl, F, N, hI, hj⟩
def TurnP (h₀ : Heap) (L : Addr) (J : (PySem.Str → Option Value) → Led → Prop) (I : Addr) (oI : Obj) (s₁ : Shared) (Q : Flow → Shared → Prop) (f : Flow) (s₂ : Shared) : Prop :=
  match f with
  | .ret v => Q (.ret v) s₂
  | .brk => Q .next s₂
  | _ => TEnd h₀ L J I oI s₁ s₂

theorem loop_led {I : Addr} {fp wr : List Addr} {n : Nat} {P : Nat → Value → Prop} {St : Nat → Heap → Prop} {m₀ : PySem.Str → Option Value} {news : Led} (J : Nat → (PySem.Str → Option Value) → Led → Prop) (cst : Led)
    (W : Walks prog w A I fp wr n P St) (hwI : wr = [I]) (hI0 : h₀.get? I = none) (hob : ∀ i h, St i h → ∃ o, h.get? I = some o)
    (hLf : env.locals ∉ fp) (hst : St 0 s.heap) (F : Fr h₀ env.locals s.heap m₀) (N : News h₀ env.locals s.heap news) (hnI : ∀ p ∈ news, p.1 ≠ I) (hj : J 0 m₀ news)
    (hfp : ∀ b ∈ fp, b = I ∨ (∃ q, h₀.get? b = some q) ∨ ∃ o, (b, o) ∈ cst) (hc : ∀ i m nx, J i m nx → ∀ p ∈ cst, p ∈ nx)
    (turn : ∀ i v m₁ news₁ h tk oI, i < n → P i v → J i m₁ news₁ → (∀ p ∈ news₁, p.1 ≠ I) → Fr h₀ env.locals h (fun y => if y = x then some v else m₁ y) → News h₀ env.locals h ((I, oI) :: news₁) →
      wpAny (model prog w) A (execs body env) (TurnP h₀ env.locals (J (i + 1)) I oI { s with heap := h, toks := tk } Q) E { s with heap := h, toks := tk })
    (done : ∀ m₁ news₁ h tk, J n m₁ news₁ → Fr h₀ env.locals h m₁ → News h₀ env.locals h news₁ → Q .next { s with heap := h, toks := tk }) :
    LoopAtV prog w A h₀ env x body Q E (.ref I) s := by
  subst hwI
  refine ⟨I, fp, [I], n, P, St, m₀, news, J, rfl, W, hLf, ?_, ?_, hst, F, N, hj, ?_, ?_⟩
  · intro b hb; rw [List.mem_singleton.mp hb]; exact hI0
  · intro p hp hm; exact hnI p hp (List.mem_singleton.mp hm)
  · rintro i v m₁ news₁ s₁ own ⟨hh', tk', rfl⟩ hin hP hJ hoff hown hget hall hst' F₁ N₁
    obtain ⟨oI, hoI⟩ := hob _ _ hst'
    have hIfp : I ∈ fp := W.sub I (List.mem_singleton.mpr rfl)
    have hIown : (I, oI) ∈ own := hall I hIfp hI0 oI hoI
    have hnI₁ : ∀ p ∈ news₁, p.1 ≠ I := fun p hp e => hoff p hp (List.mem_singleton.mpr e)
    have N₂ : News h₀ env.locals hh' ((I, oI) :: news₁) := fun p hp => by
      rcases List.mem_cons.mp hp with e | hp
      · rw [e]; exact N₁ _ (List.mem_append_left _ hIown)
      · exact N₁ _ (List.mem_append_right _ hp)
    refine wpAny_mono (turn i v m₁ news₁ hh' tk' oI hin hP hJ hnI₁ F₁ N₂) (fun f s₂ p => ?_) fun _ _ e => e
    have fin : (∃ h' tk m' nx, s₂ = { s with heap := h', toks := tk } ∧ Fr h₀ env.locals h' m' ∧ News h₀ env.locals h' ((I, oI) :: nx) ∧ (∀ p ∈ nx, p.1 ≠ I) ∧ J (i + 1) m' nx) →
        LoopStepU h₀ env.locals [I] own (J (i + 1)) { s with heap := hh', toks := tk' } .next s₂ := by
      rintro ⟨h', tk, m', nx, e, F', N', hn, hJ'⟩
      refine ⟨rfl, h', tk, m', nx, e, F', fun p hp => ?_, fun p hp hq => hn p hp (List.mem_singleton.mp hq), hJ'⟩
      rcases List.mem_append.mp hp with hp | hp
      · have h2 : hh'.get? p.1 = some p.2 := hget p hp
        rcases hfp p.1 (hown p hp) with e1 | ⟨q, hq⟩ | ⟨o, ho⟩
        · have e2 : p.2 = oI := by
            rw [e1] at h2
            exact Option.some.inj (h2.symm.trans hoI)
          have e3 : p = (I, oI) := Prod.ext e1 e2
          rw [e3]; exact N' _ (List.mem_cons.mpr (.inl rfl))
        · have h3 := (N₁ p (List.mem_append_left _ hp)).2.2
          rw [hq] at h3; cases h3
        · have h4 := (N₁ (p.1, o) (List.mem_append_right _ (hc _ _ _ hJ _ ho))).1
          have e2 : o = p.2 := Option.some.inj (h4.symm.trans h2)
          have h5 : p ∈ nx := by
            have := hc _ _ _ hJ' _ ho
            rw [e2] at this; exact this
          exact N' p (List.mem_cons_of_mem _ h5)
      · exact N' p (List.mem_cons_of_mem _ hp)
    cases f with
    | ret v => exact .ret p
    | brk => exact .brk p
    | next => exact .next (fin p)
    | cont => exact .cont (fin p)
  · rintro h' tk m' news' F' N' _ hJ
    exact done m' news' h' tk hJ F' N'

/-- a for over a list that the ledger holds -/
theorem iter_led {l : Addr} {vs : List Value} {nn : Nat} {m₀ : PySem.Str → Option Value} {news : Led} (J : Nat → (PySem.Str → Option Value) → Led → Prop)
    (hh : A.handled = none) (F : Fr h₀ env.locals s.heap m₀) (N : News h₀ env.locals s.heap news) (hj : J 0 m₀ news)
    (hJ : ∀ i m nx, J i m nx → (l, listOf vs.toArray nn) ∈ nx)
    (turn : ∀ i v m₁ news₁ h tk I oI, vs[i]? = some v → J i m₁ news₁ → (∀ p ∈ news₁, p.1 ≠ I) → Fr h₀ env.locals h (fun y => if y = x then some v else m₁ y) → News h₀ env.locals h ((I, oI) :: news₁) →
      wpAny (model prog w) A (execs body env) (TurnP h₀ env.locals (J (i + 1)) I oI { s with heap := h, toks := tk } Q) E { s with heap := h, toks := tk })
    (done : ∀ m₁ news₁ h tk, J vs.length m₁ news₁ → Fr h₀ env.locals h m₁ → News h₀ env.locals h news₁ → Q .next { s with heap := h, toks := tk }) :
    wpAny (model prog w) A (pyIter (.ref l)) (fun it s₂ => LoopAtV prog w A h₀ env x body Q E it s₂) E s := by
  have hl := hJ 0 m₀ news hj
  have hol : s.heap.get? l = some (listOf vs.toArray nn) := (N _ hl).1
  have hls : s.heap.IsList l vs.toArray := ⟨_, hol, rfl, nn, rfl⟩
  have hne : l ≠ s.heap.objs.size := Nat.ne_of_lt (Heap.lt_size hol)
  refine wpAny_pyIter_list hls ?_
  have W := Walks.list (prog := prog) (w := w) hh s.heap.objs.size l hne vs.toArray
  have hlen : vs.toArray.size = vs.length := by simp
  rw [hlen] at W
  have hLI : env.locals ≠ s.heap.objs.size := Nat.ne_of_lt F.ns.lt
  refine loop_led J [(l, listOf vs.toArray nn)] W rfl (next_is_new F) ?_ ?_ ⟨⟨_, Heap.get?_push_size _ rfl, rfl, rfl⟩, hls.at fun o e => Heap.get?_push_of_some _ e⟩ (F.push _) (fun p hp => ⟨Heap.get?_push_of_some _ (N p hp).1, (N p hp).2⟩) (fun p hp => Nat.ne_of_lt (Heap.lt_size (N p hp).1)) hj ?_ ?_ ?_ ?_
  · rintro i h ⟨⟨o, ho, _⟩, _⟩; exact ⟨o, ho⟩
  · intro hm
    rcases List.mem_cons.mp hm with e | hm
    · exact hLI e
    · exact (N _ hl).2.1 ((List.mem_singleton.mp hm).symm)
  · intro b hb
    rcases List.mem_cons.mp hb with e | hb
    · exact .inl e
    · rw [List.mem_singleton.mp hb]; exact .inr (.inr ⟨_, List.mem_singleton.mpr rfl⟩)
  · intro i m nx hJ' p hp
    rw [List.mem_singleton.mp hp]; exact hJ i m nx hJ'
  · intro i v m₁ news₁ h tk oI hi hP hJ' hn F₁ N₁
    exact turn i v m₁ news₁ h tk _ oI (by simpa using hP) hJ' hn F₁ N₁
  · exact done

/-- a for over range(a, b) -/
theorem iter_rng {r : Addr} {a₀ b₀ : Int} {t₀ u₀ v₀ : Tok} {n : Nat} {m₀ : PySem.Str → Option Value} {news : Led} (J : Nat → (PySem.Str → Option Value) → Led → Prop)
    (hh : A.handled = none) (hr : IsRange s.heap r a₀ b₀ 1 t₀ u₀ v₀) (hsmall : Builtin.Range.small a₀ b₀ 1 = true) (hn : Builtin.Range.rangeSize a₀ b₀ 1 = (n : Int)) (F : Fr h₀ env.locals s.heap m₀) (N : News h₀ env.locals s.heap news) (hj : J 0 m₀ news)
    (turn : ∀ i t m₁ news₁ h tk I oI, i < n → J i m₁ news₁ → (∀ p ∈ news₁, p.1 ≠ I) → Fr h₀ env.locals h (fun y => if y = x then some (.int (a₀ + (i : Int)) t) else m₁ y) → News h₀ env.locals h ((I, oI) :: news₁) →
      wpAny (model prog w) A (execs body env) (TurnP h₀ env.locals (J (i + 1)) I oI { s with heap := h, toks := tk } Q) E { s with heap := h, toks := tk })
    (done : ∀ m₁ news₁ h tk, J n m₁ news₁ → Fr h₀ env.locals h m₁ → News h₀ env.locals h news₁ → Q .next { s with heap := h, toks := tk }) :
    wpAny (model prog w) A (pyIter (.ref r)) (fun it s₂ => LoopAtV prog w A h₀ env x body Q E it s₂) E s := by
  refine wpAny_pyIter_range hr hsmall ?_
  have W : Walks prog w A s.heap.objs.size [s.heap.objs.size] [s.heap.objs.size] n (fun i v => i < n ∧ ∃ t, v = .int (a₀ + i * 1) t)
      (fun i h => IsRangeIter h s.heap.objs.size (a₀ + (i : Nat) * 1) ((n : Int) - (i : Nat)) 1) := (Walks.range hh _ a₀ 1 n).bound
  refine loop_led J [] W rfl (next_is_new F) (fun i h hs => ⟨_, hs⟩) ?_ (by show IsRangeIter _ _ _ _ _; rw [hn]; simpa using Heap.get?_push_size _ rfl) (F.push _) (fun p hp => ⟨Heap.get?_push_of_some _ (N p hp).1, (N p hp).2⟩) (fun p hp => Nat.ne_of_lt (Heap.lt_size (N p hp).1)) hj (fun b hb => .inl (List.mem_singleton.mp hb)) (fun _ _ _ _ _ hp => nomatch hp) ?_ done
  · intro hm
    exact absurd F.ns.lt ((List.mem_singleton.mp hm) ▸ Nat.lt_irrefl _)
  · rintro i v m₁ news₁ h tk oI hi ⟨_, t, rfl⟩ hJ' hn' F₁ N₁
    rw [Int.mul_one] at F₁
    exact turn i t m₁ news₁ h tk _ oI hi hJ' hn' F₁ N₁
/-- a for over range(b) -/
theorem iter_rng0 {r : Addr} {b₀ : Int} {t₀ u₀ v₀ : Tok} {n : Nat} {m₀ : PySem.Str → Option Value} {news : Led} (J : Nat → (PySem.Str → Option Value) → Led → Prop)
    (hh : A.handled = none) (hr : IsRange s.heap r 0 b₀ 1 t₀ u₀ v₀) (hb : b₀ = (n : Int)) (hn : n < 2 ^ 60) (F : Fr h₀ env.locals s.heap m₀) (N : News h₀ env.locals s.heap news) (hj : J 0 m₀ news)
    (turn : ∀ i t m₁ news₁ h tk I oI, i < n → J i m₁ news₁ → (∀ p ∈ news₁, p.1 ≠ I) → Fr h₀ env.locals h (fun y => if y = x then some (.int (i : Int) t) else m₁ y) → News h₀ env.locals h ((I, oI) :: news₁) →
      wpAny (model prog w) A (execs body env) (TurnP h₀ env.locals (J (i + 1)) I oI { s with heap := h, toks := tk } Q) E { s with heap := h, toks := tk })
    (done : ∀ m₁ news₁ h tk, J n m₁ news₁ → Fr h₀ env.locals h m₁ → News h₀ env.locals h news₁ → Q .next { s with heap := h, toks := tk }) :
    wpAny (model prog w) A (pyIter (.ref r)) (fun it s₂ => LoopAtV prog w A h₀ env x body Q E it s₂) E s := by
  subst hb
  refine iter_rng (n := n) J hh hr (small_one (by (first | lia | omega)) (by (first | lia | omega)) (by (first | lia | omega)) (by (first | lia | omega))) (by rw [rangeSize_nat]; (first | lia | omega)) F N hj (fun i t m₁ nx h tk I oI hi hJ hI F₁ N₁ => ?_) done
  rw [Int.zero_add] at F₁
  exact turn i t m₁ nx h tk I oI hi hJ hI F₁ N₁
end loops
end Mine
end TLKit
section TLTxt
open PySem PySem.W PyProof.Rows PySem.Calls PySem.Spec
set_option maxRecDepth 100000
set_option maxHeartbeats 8000000
namespace Mine
open PySem.Builtin.Str
theorem tx_cps (l : List Nat) : (tx l).cps.toList = l := by simp [tx]
theorem tx_inj {a b : List Nat} (h : tx a = tx b) : a = b := by
  have := congrArg (fun x => x.cps.toList) h
  simpa [tx] using this
theorem str_tx (x : PySem.Str) : x = tx x.cps.toList := PySem.Str.ext' (by simp [tx])
theorem tx_ext {x : PySem.Str} {l : List Nat} (h : x.cps.toList = l) : x = tx l := by rw [str_tx x, h]
def dotsL : List Nat → List Nat
  | [] => [46, 46, 46]
  | c :: r => 46 :: 46 :: 46 :: c :: dotsL r
theorem dotsL_length (p : List Nat) : (dotsL p).length = 4 * p.length + 3 := by
  induction p with
  | nil => rfl
  | cons c r ih => simp only [dotsL, List.length_cons, ih]; (first | lia | omega)
theorem dotsL_drop (p : List Nat) : ∀ i, i ≤ p.length → (dotsL p).drop (4 * i) = dotsL (p.drop i) := by
  induction p with
  | nil => intro i h; simp at h; subst h; rfl
  | cons c r ih =>
    intro i h
    cases i with
    | zero => rfl
    | succ i =>
      rw [show 4 * (i + 1) = 4 * i + 4 by (first | lia | omega)]
      simp only [dotsL, List.drop_succ_cons]
      exact ih i (by simpa using h)
abbrev d3 : PySem.Str := tx [46, 46, 46]
theorem dots_at {p : List Nat} (hp : ∀ c ∈ p, c ≠ 46) {k : Nat} (hk : k + 3 ≤ 4 * p.length + 3) : subAt (tx (dotsL p)) d3 k = decide (k % 4 = 0) := by
  rw [StrLaws.subAt_eq, tx_cps, tx_cps, tx_length]
  have e : k = 4 * (k / 4) + k % 4 := by (first | lia | omega)
  have hd := dotsL_drop p (k / 4) (by (first | lia | omega))
  generalize hq : k / 4 = q at *
  generalize hr : k % 4 = r at *
  rw [e, ← List.drop_drop, hd]
  have hr4 : r < 4 := by (first | lia | omega)
  cases hpd : p.drop q with
  | nil =>
    have hl : p.length ≤ q := by simpa using hpd
    have : r = 0 := by (first | lia | omega)
    subst this; rfl
  | cons c t =>
    have hc : c ≠ 46 := hp c (List.mem_of_mem_drop (i := q) (by rw [hpd]; exact List.mem_cons_self ..))
    match r, hr4 with
    | 0, _ => simp [dotsL]
    | 1, _ => simp [dotsL, hc]
    | 2, _ => cases t <;> simp [dotsL, hc]
    | 3, _ => cases t <;> simp [dotsL, hc]
theorem dv0 (a : Nat) : (4 * a + 3) / 4 = a := by rw [Nat.mul_add_div (by decide)]; rfl
theorem dv1 (a r : Nat) (h1 : 1 ≤ r) (h2 : r ≤ 4) : (4 * a + r + 3) / 4 = a + 1 := by
  rw [Nat.add_assoc, Nat.mul_add_div (by decide)]
  have h3 : r = 1 ∨ r = 2 ∨ r = 3 ∨ r = 4 := by omega
  rcases h3 with rfl | rfl | rfl | rfl <;> rfl
theorem occ_dots {p : List Nat} (hp : ∀ c ∈ p, c ≠ 46) : ∀ (m lo : Nat) (arr : Array Nat) (free : Nat), lo + m = 4 * p.length + 4 → arr.toList = (List.range ((lo + 3) / 4)).map (4 * ·) → free ≤ 4 * ((lo + 3) / 4) - 1 →
    (forIn (List.range' lo m) (arr, free) (StrLaws.occBody (tx (dotsL p)) d3 (tx (dotsL p)).length ((tx (dotsL p)).length + 1))).run.fst.toList = (List.range (p.length + 1)).map (4 * ·) := by
  intro m
  induction m with
  | zero =>
    intro lo arr free h1 h2 _
    obtain rfl : lo = 4 * (p.length + 1) := h1
    rw [dv0] at h2
    exact h2
  | succ m ih =>
    intro lo arr free h1 h2 h3
    rw [List.range'_succ, List.forIn_cons]
    have hsz : arr.size = (lo + 3) / 4 := by
      have := congrArg List.length h2
      simpa using this
    have hlen : (tx (dotsL p)).length = 4 * p.length + 3 := by rw [tx_length, dotsL_length]
    obtain ⟨a, r, hr, rfl⟩ : ∃ a r, r < 4 ∧ lo = 4 * a + r := ⟨lo / 4, lo % 4, Nat.mod_lt _ (by decide), (Nat.div_add_mod lo 4).symm⟩
    have hnx : 4 * a + r + 1 + m = 4 * p.length + 4 := by rw [← h1, Nat.add_assoc, Nat.add_comm 1 m]
    have hd3 : d3.length = 3 := rfl
    rcases Nat.eq_zero_or_pos r with rfl | hr0
    · simp only [Nat.add_zero] at *
      rw [dv0] at h2 h3 hsz
      have hap : a ≤ p.length := by clear h2 h3 hsz ih; omega
      have h4 : 4 * a ≤ 4 * p.length := Nat.mul_le_mul_left 4 hap
      unfold StrLaws.occBody
      rw [if_pos ⟨⟨⟨by show arr.size < _; rw [hsz, hlen]; clear h2 h3 ih; omega, by show free ≤ 4 * a; exact Nat.le_trans h3 (Nat.sub_le ..)⟩, by rw [hlen, hd3]; exact Nat.add_le_add_right h4 3⟩, by rw [dots_at hp (Nat.add_le_add_right h4 3)]; exact decide_eq_true (Nat.mul_mod_right 4 a)⟩]
      refine ih (4 * a + 1) _ _ hnx ?_ ?_
      · rw [Array.toList_push, h2, dv1 a 1 (Nat.le_refl _) (by decide), List.range_succ, List.map_append]
        rfl
      · show 4 * a + d3.length ≤ _
        rw [dv1 a 1 (Nat.le_refl _) (by decide), hd3]
        exact Nat.le_refl _
    · have h5 : (4 * a + r + 1 + 3) / 4 = a + 1 := dv1 a (r + 1) (Nat.le_add_left ..) hr
      rw [dv1 a r hr0 (Nat.le_of_lt hr)] at h2 h3
      unfold StrLaws.occBody
      rw [if_neg (by
        rintro ⟨⟨_, h6⟩, h7⟩
        rw [hlen, hd3] at h6
        rw [dots_at hp h6, Nat.mul_add_mod, Nat.mod_eq_of_lt hr] at h7
        exact Nat.ne_of_gt hr0 (of_decide_eq_true h7))]
      refine ih (4 * a + r + 1) _ _ hnx ?_ ?_
      · rw [h2, h5]
      · show free ≤ _
        rw [h5]; exact h3
theorem occ_dots_all {p : List Nat} (hp : ∀ c ∈ p, c ≠ 46) : occurrences (tx (dotsL p)) d3 0 (tx (dotsL p)).length ((tx (dotsL p)).length + 1) = (List.range (p.length + 1)).map (4 * ·) := by
  rw [StrLaws.occ_eq]
  refine occ_dots hp _ _ _ _ ?_ (by rfl) (by (first | lia | omega))
  rw [tx_length, dotsL_length]; (first | lia | omega)
theorem dots_in {p : List Nat} (hp : ∀ c ∈ p, c ≠ 46) : (occurrences (tx (dotsL p)) d3 0 (tx (dotsL p)).length 1).isEmpty = false := by
  have h := (StrLaws.found_iff (tx (dotsL p)) d3).mpr ⟨0, by rw [tx_length, tx_length, dotsL_length]; simp only [List.length_cons, List.length_nil]; (first | lia | omega), by rw [dots_at hp (by (first | lia | omega))]; rfl⟩
  simpa using h
/-- the texts that '...' parts dots into -/
def wsL (p : List Nat) : List (List Nat) := [] :: (p.map fun c => [c]) ++ [[]]
theorem dotsL_sub (p : List Nat) : ∀ i, i < p.length → ((dotsL p).drop (4 * i + 3)).take 1 = [p.getD i 0] := by
  intro i h
  rw [← List.drop_drop, dotsL_drop p i (by (first | lia | omega))]
  have e : p.drop i = p[i] :: p.drop (i + 1) := List.drop_eq_getElem_cons h
  rw [e]
  simp [dotsL, h]
theorem split_dots {p : List Nat} (hp : ∀ c ∈ p, c ≠ 46) : Txt.split (tx (dotsL p)) d3 = (wsL p).map tx := by
  have hlen : (tx (dotsL p)).length = 4 * p.length + 3 := by rw [tx_length, dotsL_length]
  have hk : Builtin.Str.strKind d3 = 1 := by decide +kernel
  have hk' : 1 ≤ Builtin.Str.strKind (tx (dotsL p)) := by unfold Builtin.Str.strKind; split <;> (try split) <;> (first | lia | omega)
  have h3 : d3.length = 3 := rfl
  unfold Txt.split
  rw [if_neg (by rw [hk, hlen, h3]; simp; (first | lia | omega)), occ_dots_all hp, if_neg (by simp)]
  unfold partsBetween
  rw [hlen, h3]
  have e1 : (0 :: ((List.range (p.length + 1)).map (4 * ·)).map (· + 3)) = 0 :: ((List.range p.length).map fun i => 4 * i + 3) ++ [4 * p.length + 3] := by
    rw [List.range_succ]; simp
  have e2 : ((List.range (p.length + 1)).map (4 * ·)) ++ [4 * p.length + 3] = 0 :: ((List.range p.length).map fun i => 4 * i + 4) ++ [4 * p.length + 3] := by
    rw [List.range_succ_eq_map]; simp; (first | lia | omega)
  show ((0 :: ((List.range (p.length + 1)).map (4 * ·)).map (· + 3)).zip (((List.range (p.length + 1)).map (4 * ·)) ++ [4 * p.length + 3])).map _ = _
  rw [e1, e2]
  simp only [List.cons_append, List.zip_cons_cons, List.map_cons, wsL]
  rw [List.zip_append (by simp), List.map_append, List.map_append, List.cons.injEq]
  refine ⟨tx_ext (by rw [StrLaws.strSub_toList, Nat.sub_self, List.take_zero]), ?_⟩
  congr 1
  · apply List.ext_getElem
    · simp
    · intro i h1 h2
      have hi : i < p.length := by simpa using h1
      simp only [List.getElem_map, List.getElem_zip, List.getElem_range]
      refine tx_ext ?_
      rw [StrLaws.strSub_toList, tx_cps, show 4 * i + 4 - (4 * i + 3) = 1 by (first | lia | omega), dotsL_sub p i hi]
      simp [hi]
  · simp only [List.zip_cons_cons, List.zip_nil_left, List.map_cons, List.map_nil, List.cons.injEq, and_true]
    exact tx_ext (by rw [StrLaws.strSub_toList, Nat.sub_self, List.take_zero])
end Mine
end TLTxt
section TLRule
open PySem PySem.W PyProof.Rows PySem.Calls PySem.Spec
set_option maxRecDepth 100000
set_option maxHeartbeats 8000000
namespace Mine
section rules
variable {prog : Program} {w : World} {A : Around} {E : Value → Shared → Prop} {s : Shared} {h₀ : Heap} {L : Addr} {news : Led}
theorem led_list {a : Addr} {vs : List Value} {n : Nat} {h : Heap} (N : News h₀ L h news) (hm : (a, listOf vs.toArray n) ∈ news) : h.IsList a vs.toArray := ⟨_, (N _ hm).1, rfl, n, rfl⟩
theorem len_led {a : Addr} {vs : List Value} {n : Nat} {Q : Value → Shared → Prop} (N : News h₀ L s.heap news) (hm : (a, listOf vs.toArray n) ∈ news) (hfit : vs.length < 2 ^ 62)
    (h : ∀ t' tk, Q (.int (vs.length : Int) t') { s with toks := tk }) : wpAny (model prog w) A (call (.builtin "len") [.ref a]) Q E s :=
  len_list (led_list N hm) (by simp; (first | lia | omega)) (by simpa using h _ _)
theorem truth_led {a : Addr} {vs : List Value} {n : Nat} {Q : Bool → Shared → Prop} (N : News h₀ L s.heap news) (hm : (a, listOf vs.toArray n) ∈ news) (hfit : vs.length < 2 ^ 62)
    (h : ∀ tk, Q (!vs.isEmpty) { s with toks := tk }) : wpAny (model prog w) A (truthy (.ref a)) Q E s :=
  wpAny_truthy_list (led_list N hm) (by simp; (first | lia | omega)) (by simpa using h _)
theorem item_led {value slice : Expr} {a : Addr} {vs : List Value} {n : Nat} {k : Int} {u : Tok} {x : Value} {Q : Value → Shared → Prop} (N : News h₀ L s.heap news) (hm : (a, listOf vs.toArray n) ∈ news)
    (h0 : 0 ≤ k) (hfit : k < 2 ^ 63) (hx : vs[k.toNat]? = some x) (h : Q x s)
    (hs : subscripted slice false (.ref a) (.int k u) = operate [.ref a, .int k u] (getItem (.ref a) (.int k u)) := by with_unfolding_all rfl) (hg : ∀ r, letTemporaryGo value (.ref a) r = pure () := by intro _; with_unfolding_all rfl) :
    wpAny (model prog w) A (subscriptTail value slice (.ref a) (.int k u)) Q E s :=
  item_list (led_list N hm) h0 hfit (by simpa using hx) h hs hg
theorem item_led_neg {value slice : Expr} {a : Addr} {vs : List Value} {n : Nat} {k : Int} {u : Tok} {x : Value} {Q : Value → Shared → Prop} (N : News h₀ L s.heap news) (hm : (a, listOf vs.toArray n) ∈ news)
    (h0 : k < 0) (h1 : -(vs.length : Int) ≤ k) (hfit : -(2 ^ 63) ≤ k) (hx : vs[(k + vs.length).toNat]? = some x) (h : Q x s)
    (hs : subscripted slice false (.ref a) (.int k u) = operate [.ref a, .int k u] (getItem (.ref a) (.int k u)) := by with_unfolding_all rfl) (hg : ∀ r, letTemporaryGo value (.ref a) r = pure () := by intro _; with_unfolding_all rfl) :
    wpAny (model prog w) A (subscriptTail value slice (.ref a) (.int k u)) Q E s :=
  subscriptTail_builtin (led_list N hm).typeIs slot_list_getitem.lookup (wpAny_getItem_list_neg (led_list N hm) h0 (by simpa using h1) hfit (by simpa using hx) h) hs hg
theorem item_strs {value slice : Expr} {a : Addr} {vs : List Value} {xs : List PySem.Str} {n : Nat} {k : Int} {u : Tok} {x : PySem.Str} {Q : Value → Shared → Prop} (N : News h₀ L s.heap news) (hm : (a, listOf vs.toArray n) ∈ news) (hS : StrsAre vs xs)
    (h0 : 0 ≤ k) (hfit : k < 2 ^ 63) (hx : xs[k.toNat]? = some x) (h : ∀ t, Q (.str x t) s)
    (hs : subscripted slice false (.ref a) (.int k u) = operate [.ref a, .int k u] (getItem (.ref a) (.int k u)) := by with_unfolding_all rfl) (hg : ∀ r, letTemporaryGo value (.ref a) r = pure () := by intro _; with_unfolding_all rfl) :
    wpAny (model prog w) A (subscriptTail value slice (.ref a) (.int k u)) Q E s := by
  obtain ⟨t, ht⟩ := hS.get _ _ hx
  exact item_led N hm h0 hfit ht (h t) hs hg
theorem item_strs_neg {value slice : Expr} {a : Addr} {vs : List Value} {xs : List PySem.Str} {n : Nat} {k : Int} {u : Tok} {x : PySem.Str} {Q : Value → Shared → Prop} (N : News h₀ L s.heap news) (hm : (a, listOf vs.toArray n) ∈ news) (hS : StrsAre vs xs)
    (h0 : k < 0) (h1 : -(xs.length : Int) ≤ k) (hfit : -(2 ^ 63) ≤ k) (hx : xs[(k + xs.length).toNat]? = some x) (h : ∀ t, Q (.str x t) s)
    (hs : subscripted slice false (.ref a) (.int k u) = operate [.ref a, .int k u] (getItem (.ref a) (.int k u)) := by with_unfolding_all rfl) (hg : ∀ r, letTemporaryGo value (.ref a) r = pure () := by intro _; with_unfolding_all rfl) :
    wpAny (model prog w) A (subscriptTail value slice (.ref a) (.int k u)) Q E s := by
  rw [← hS.length] at h1 hx
  obtain ⟨t, ht⟩ := hS.get _ _ hx
  exact item_led_neg N hm h0 h1 hfit ht (h t) hs hg
theorem len_strs {a : Addr} {vs : List Value} {xs : List PySem.Str} {n k : Nat} {Q : Value → Shared → Prop} (N : News h₀ L s.heap news) (hm : (a, listOf vs.toArray n) ∈ news) (hS : StrsAre vs xs) (hk : xs.length = k) (hfit : k < 2 ^ 62)
    (h : ∀ t' tk, Q (.int (k : Int) t') { s with toks := tk }) : wpAny (model prog w) A (call (.builtin "len") [.ref a]) Q E s :=
  len_led N hm (by rw [hS.length, hk]; exact hfit) (by rw [hS.length, hk]; exact h)
theorem gives_find4 (x y : PySem.Str) (i j : Int) (t u v v' : Tok) : Gives (Builtin.«str.find» ⟨[.str x t, .str y u, .int i v, .int j v'], []⟩) (.int (match Builtin.Str.occurrences x y (fromIndex x.length i) (min (fromIndex x.length j) x.length) 1 with | k :: _ => (k : Int) | [] => -1)) := by
  show Gives (match Builtin.Str.occurrences x y (fromIndex x.length i) (min (fromIndex x.length j) x.length) 1 with | k :: _ => retInt k | [] => (do rule "str.find.not-found"; retInt (-1))) _
  cases Builtin.Str.occurrences x y (fromIndex x.length i) (min (fromIndex x.length j) x.length) 1 with
  | nil => exact .rule (.of_eq rfl)
  | cons k _ => exact .of_eq rfl
theorem find4 {x y : PySem.Str} {i : Int} {t u v v' : Tok} {j : Int} (hj : j = (x.length : Int)) {Q : Value → Shared → Prop} (h : ∀ t' tk, Q (.int (Txt.find3 x y i) t') { s with toks := tk }) :
    wpAny (model prog w) A (call (.builtin "str.find") [.str x t, .str y u, .int i v, .int j v']) Q E s := by
  subst hj
  refine call_gives F.slot_str_find (typeIs_str _ _ _) F.entry_str_find (F.args_str_find_4 _ _ _ _) (gives_find4 x y i _ t u v v') ?_
  have e : min (fromIndex x.length (x.length : Int)) x.length = x.length := by unfold fromIndex; (first | lia | omega)
  rw [e]
  exact h _ _
theorem split_led {m : PySem.Str → Option Value} {x y : PySem.Str} {t u : Tok} {Q : Value → Shared → Prop} (F : Fr h₀ L s.heap m) (N : News h₀ L s.heap news) (hy : (y.length == 0) = false) (hsz : x.length + 2 ≤ sizeLine)
    (h : ∀ D vs h' k, (∀ p ∈ news, p.1 < D) → StrsAre vs (Txt.split x y) → Fr h₀ L h' m → News h₀ L h' ((D, listOf vs.toArray 0) :: news) → Q (.ref D) { s with heap := h', toks := k }) :
    wpAny (model prog w) A (call (.builtin "str.split") [.str x t, .str y u]) Q E s := by
  refine splitN1 F N hy (fun l h' k e F' N' => ?_) hsz
  refine h _ _ h' k (fun p hp => Heap.lt_size (N p hp).1) ?_ F' N'
  have := strsAre_of_values l
  rwa [e] at this
end rules
/-- what a frame's map holds -/
def Has (m : PySem.Str → Option Value) (ps : List (PySem.Str × Value)) : Prop := ∀ q ∈ ps, m q.1 = some q.2
theorem kst_self {m₁ : PySem.Str → Option Value} {ps : List (PySem.Str × Value)} (hk : Has m₁ ps) : kstB m₁ ps = m₁ := funext fun _ => kstB_eq hk fun _ => rfl
theorem fr_in {h₀ h : Heap} {L : Addr} {x : PySem.Str} {v : Option Value} {m₁ : PySem.Str → Option Value} {ps : List (PySem.Str × Value)} (hk : Has m₁ ps) (F : Fr h₀ L h (fun y => if y = x then v else m₁ y)) : Fr h₀ L h (fun y => if y = x then v else kstB m₁ ps y) := by
  rw [kst_self hk]; exact F
theorem fr_out {h₀ h : Heap} {L : Addr} {m₁ : PySem.Str → Option Value} {ps : List (PySem.Str × Value)} (hk : Has m₁ ps) (F : Fr h₀ L h m₁) : Fr h₀ L h (kstB m₁ ps) := by
  rw [kst_self hk]; exact F
theorem ps_nil {m : PySem.Str → Option Value} : Has m [] := fun _ h => nomatch h
theorem ps_cons {m : PySem.Str → Option Value} {a : PySem.Str} {v : Value} {ps : List (PySem.Str × Value)} (h : m a = some v) (r : Has m ps) : Has m ((a, v) :: ps) := List.forall_mem_cons.mpr ⟨h, r⟩
theorem off_nil {r : Led} : Off [] r := fun _ h => nomatch h
theorem News.tl {h₀ h : Heap} {L : Addr} {p : Addr × Obj} {l : Led} (N : News h₀ L h (p :: l)) : News h₀ L h l := fun q hq => N q (List.mem_cons_of_mem _ hq)
theorem News.sub {h₀ h : Heap} {L : Addr} {l l' : Led} (N : News h₀ L h l) (hs : ∀ p ∈ l', p ∈ l) : News h₀ L h l' := fun q hq => N q (hs q hq)

end Mine
end TLRule
section TLEll
open PySem PySem.W PyProof.Rows PySem.Calls PySem.Spec
set_option maxRecDepth 100000
set_option maxHeartbeats 8000000
namespace Mine
section ell
local macro_rules | `(tactic| walk_at "call builtin:len") => `(tactic| (k_here; (with_reducible show wpAny _ _ (call (Value.builtin "len") [Value.ref _]) _ _ _); refine Hold.out ?_))
local macro_rules | `(tactic| walk_at $k:str) => if ["exec For Name Name cons nil", "subscriptTail Name Constant ref int", "subscriptTail Name UnaryOp ref int", "call builtin:str.split", "call builtin:str.find", "pyIter ref"].contains k.getString then `(tactic| refine Hold.out ?_) else Lean.Macro.throwUnsupported
local macro_rules | `(tactic| walk_at "TurnP") => `(tactic| dsimp only [TurnP])
theorem sub_skip {c : Nat} {r g : List Nat} {pos : Nat} (h : ∀ v, pos ≤ v → v < g.length → g.getD v 0 ≠ c) : ¬ (c :: r).Sublist (g.drop pos) := by
  intro hs
  have hm : c ∈ g.drop pos := hs.subset (List.mem_cons_self ..)
  obtain ⟨i, hi, e⟩ := List.mem_iff_getElem.mp hm
  rw [List.getElem_drop] at e
  rw [List.length_drop] at hi
  refine h (pos + i) (by (first | lia | omega)) (by (first | lia | omega)) ?_
  rw [List.getD_eq_getElem?_getD, List.getElem?_eq_getElem (by (first | lia | omega))]
  simpa using e
theorem sub_take {c : Nat} {r g : List Nat} : ∀ {k pos : Nat}, pos ≤ k → k < g.length → g.getD k 0 = c → (∀ v, pos ≤ v → v < k → g.getD v 0 ≠ c) → ((c :: r).Sublist (g.drop pos) ↔ r.Sublist (g.drop (k + 1))) := by
  intro k pos hpk hk hc hn
  obtain ⟨n, rfl⟩ : ∃ n, k = pos + n := ⟨k - pos, by (first | lia | omega)⟩
  induction n generalizing pos with
  | zero =>
    have hd : g.drop pos = g[pos] :: g.drop (pos + 1) := List.drop_eq_getElem_cons (by (first | lia | omega))
    have hc' : g[pos]'(by (first | lia | omega)) = c := by
      have := hc; rw [List.getD_eq_getElem?_getD, List.getElem?_eq_getElem hk] at this; simpa using this
    rw [hd, hc', List.cons_sublist_cons]
  | succ n ih =>
    have hd : g.drop pos = g[pos] :: g.drop (pos + 1) := List.drop_eq_getElem_cons (by (first | lia | omega))
    have hne : g[pos]'(by (first | lia | omega)) ≠ c := by
      have := hn pos (Nat.le_refl _) (by (first | lia | omega))
      rw [List.getD_eq_getElem?_getD, List.getElem?_eq_getElem (by (first | lia | omega))] at this; simpa using this
    have h1 : (c :: r).Sublist (g.drop pos) ↔ (c :: r).Sublist (g.drop (pos + 1)) := by
      rw [hd]
      constructor
      · intro h
        rcases List.sublist_cons_iff.mp h with h | ⟨r', e, _⟩
        · exact h
        · exact absurd (List.cons.inj e).1.symm hne
      · exact fun h => h.cons _
    rw [h1, ih (pos := pos + 1) (by (first | lia | omega)) (by (first | lia | omega)) (by rw [show pos + 1 + n = pos + (n + 1) by (first | lia | omega)]; exact hc) (fun v h2 h3 => hn v (by (first | lia | omega)) (by (first | lia | omega)))]
    rw [show pos + 1 + n + 1 = pos + (n + 1) + 1 by (first | lia | omega)]
theorem find_none {g : List Nat} {pos : Nat} (h : pos ≤ g.length) : Txt.find3 (tx g) (tx []) (pos : Int) = pos := by
  have hf : fromIndex (tx g).length (pos : Int) = pos := by unfold fromIndex; rw [tx_length]; (first | lia | omega)
  unfold Txt.find3
  rw [hf]
  rcases StrLaws.occ_head_from (tx g) (tx []) pos 1 (Nat.le_refl 1) with ⟨_, hn⟩ | ⟨k, r, h0, hlo, hk, hn⟩
  · exact absurd ⟨by rw [tx_length, tx_length]; simpa using h, by rw [StrLaws.subAt_eq, tx_length, tx_cps, tx_cps]; simp⟩ (hn pos (Nat.le_refl _))
  · rw [h0]
    by_cases e : k = pos
    · rw [e]
    · exact absurd ⟨by rw [tx_length, tx_length]; simpa using h, by rw [StrLaws.subAt_eq, tx_length, tx_cps, tx_cps]; simp⟩ (hn pos (Nat.le_refl _) (by (first | lia | omega)))
theorem find_sign {g : List Nat} {pos c : Nat} (h : pos ≤ g.length) :
    (Txt.find3 (tx g) (tx [c]) (pos : Int) = -1 ∧ ∀ r, ¬ (c :: r).Sublist (g.drop pos)) ∨
    ∃ k : Nat, Txt.find3 (tx g) (tx [c]) (pos : Int) = k ∧ k < g.length ∧ ∀ r, ((c :: r).Sublist (g.drop pos) ↔ r.Sublist (g.drop (k + 1))) := by
  have hf : fromIndex (tx g).length (pos : Int) = pos := by unfold fromIndex; rw [tx_length]; (first | lia | omega)
  have hg : ∀ v, (tx g).cps.getD v 0 = g.getD v 0 := fun v => by simp [tx]
  rcases StrLaws.find3_spec (tx g) c (pos : Int) with ⟨h1, h2⟩ | ⟨k, h1, h2, h3, h4, h5⟩
  · rw [hf, tx_length] at h2
    exact .inl ⟨h1, fun r => sub_skip fun v a b => by rw [← hg]; exact h2 v a b⟩
  · rw [hf] at h2 h5
    rw [tx_length] at h3
    exact .inr ⟨k, h1, h3, fun r => sub_take h2 h3 (by rw [← hg]; exact h4) fun v a b => by rw [← hg]; exact h5 v a b⟩
theorem wsL_get {p : List Nat} {i : Nat} {x : PySem.Str} (h : ((wsL p).map tx)[i]? = some x) : ∃ y, x = tx y ∧ (y = [] ∨ ∃ c, y = [c]) ∧ (wsL p).drop i = y :: (wsL p).drop (i + 1) := by
  rw [List.getElem?_map] at h
  cases hy : (wsL p)[i]? with
  | none => rw [hy] at h; cases h
  | some y =>
    rw [hy] at h
    obtain ⟨hlt, e⟩ := List.getElem?_eq_some_iff.mp hy
    refine ⟨y, (Option.some.inj h).symm, ?_, by rw [← e]; exact List.drop_eq_getElem_cons hlt⟩
    have hm : y ∈ wsL p := List.mem_of_getElem? hy
    simp only [wsL, List.mem_append, List.mem_cons, List.mem_map, List.not_mem_nil, or_false] at hm
    rcases hm with (rfl | ⟨c, _, rfl⟩) | rfl
    · exact .inl rfl
    · exact .inr ⟨c, rfl⟩
    · exact .inl rfl
theorem wsL_flat (p : List Nat) : (wsL p).flatten = p := by
  have : (p.map fun c => [c]).flatten = p := by
    induction p with
    | nil => rfl
    | cons c r ih => simp only [List.map_cons, List.flatten_cons, ih]; rfl
  simp [wsL, this]

inductive JEll (D : Addr) (vs : List Value) (rest : Led) (p g : List Nat) (u : Tok) (i : Nat) (m : PySem.Str → Option Value) (nx : Led) : Prop
  | mk (h1 : nx = (D, listOf vs.toArray 0) :: rest) (pos : Nat) (z : Int) (t te : Tok) (h2 : Has m [(PySem.Str.ofString "startpos", Value.int z t), (PySem.Str.ofString "got", Value.str (tx g) u), (PySem.Str.ofString "endpos", Value.int ((tx g).length : Int) te)]) (h3 : z = (pos : Int)) (h4 : pos ≤ g.length) (h5 : (p.Sublist g ↔ (((wsL p).drop i).flatten).Sublist (g.drop pos))) : JEll D vs rest p g u i m nx
theorem ell_ok (w : World) (p g : List Nat) (t u : Tok) (hp : ∀ c ∈ p, c ≠ 46) (hl : p.length ≤ 8) (hg : g.length ≤ 8) :
   Con w 2 21 [.str (tx (dotsL p)) t, .str (tx g) u] [] (fun r led' => led' = [] ∧ ∃ b, r = .bool b ∧ (b = true ↔ p.Sublist g)) := by
  w_top off
  unfold Con
  k_fill
  intro mean mg mb dp un gd cn cs a ccd cl outer A₀ base h₀ L m s Q E rest B F X N T hk ho hdp hun ret
  simp only [List.nil_append] at N
  have hin := dots_in hp
  have hsp := split_dots hp
  have hdl : (tx (dotsL p)).length = 4 * p.length + 3 := by rw [tx_length, dotsL_length]
  have hgl := tx_length g
  rw [show d3 = PySem.Str.ofString "..." by decide +kernel] at hin hsp
  refine wpAny_call ?_
  k_dflt cell_enter
  k_steps
  -- the split
  refine ⟨?_⟩
  refine split_led (by assumption) (by assumption) (by decide +kernel) (by rw [hdl, sizeLine_eq]; (first | lia | omega)) ?_
  intro D vs h1 k1 hD hS F2 N2
  rw [hsp] at hS
  have hwl : ((wsL p).map tx).length = p.length + 2 := by simp [wsL]
  k_steps
  refine ⟨?_⟩
  refine len_strs (by assumption) (by k_mem) hS hwl (by (first | lia | omega)) ?_
  intro _ _
  k_steps
  refine ⟨?_⟩
  refine item_strs (by assumption) (by k_mem) hS (by decide) (by decide) (by rfl) ?_
  intro _
  k_steps
  refine ⟨?_⟩
  refine item_strs_neg (by assumption) (by k_mem) hS (by decide) (by rw [hwl]; (first | lia | omega)) (by decide) (x := tx []) (by rw [hwl, show (-1 + ((p.length + 2 : Nat) : Int)).toNat = p.length + 1 by (first | lia | omega)]; simp [wsL]) ?_
  intro _
  k_steps
  refine ⟨?_⟩
  rename Fr _ _ _ _ => F9
  rename News _ _ _ _ => N9
  with_unfolding_all refine' For_invVF F9 ?k1 ?k2 ?_
  case k1 => exact rfl
  case k2 => exact rfl
  k_steps
  refine ⟨?_⟩
  have N9' := News.tl N9
  have hvl : vs.length = p.length + 2 := by rw [hS.length, hwl]
  refine iter_led (vs := vs) (nn := 0) (JEll D vs rest p g u) (by rfl) (by assumption) (by assumption) ?j0 ?jl ?turn ?done
  case j0 =>
    exact ⟨rfl, 0, _, _, _, ps_cons rfl (ps_cons rfl (ps_cons rfl ps_nil)), rfl, Nat.zero_le _, by rw [List.drop_zero, List.drop_zero, wsL_flat]⟩
  case jl =>
    rintro i m nx ⟨rfl, _⟩
    exact List.mem_cons_self ..
  case turn =>
    rintro i v m₁ nx h tk I oI hv ⟨rfl, pos, _, tp, te, hm, rfl, hpos, hsub⟩ hI F1 N1
    obtain ⟨x, ty, rfl, hx⟩ := hS.item i v hv
    obtain ⟨y, rfl, hy, hdr⟩ := wsL_get hx
    rw [hdr, List.flatten_cons] at hsub
    replace F1 := fr_in hm F1
    clear F9 N9 N9' hm
    have hfnd : ∃ z, Txt.find3 (tx g) (tx y) (pos : Int) = z ∧ ((z = -1 ∧ ¬ p.Sublist g) ∨ ∃ k : Nat, z + ((tx y).length : Int) = k ∧ 0 ≤ z ∧ k ≤ g.length ∧ (p.Sublist g ↔ (((wsL p).drop (i + 1)).flatten).Sublist (g.drop k))) := by
      refine ⟨_, rfl, ?_⟩
      rcases hy with rfl | ⟨c, rfl⟩
      · exact .inr ⟨pos, by rw [find_none hpos, tx_length]; simp, by rw [find_none hpos]; (first | lia | omega), hpos, by simpa using hsub⟩
      · rcases find_sign (c := c) hpos with ⟨e, hn⟩ | ⟨k, e, hk, hn⟩
        · exact .inl ⟨e, fun h => hn _ (hsub.mp h)⟩
        · exact .inr ⟨k + 1, by rw [e, tx_length]; simp, by rw [e]; (first | lia | omega), hk, hsub.trans (hn _)⟩
    obtain ⟨z, hz, hzz⟩ := hfnd
    k_steps
    refine ⟨?_⟩
    refine find4 rfl ?_
    intro tz tkz
    rw [hz]
    k_steps
    · refine ret _ [] _ _ (by assumption) (News.tl (News.tl (by assumption))) off_nil ⟨rfl, false, rfl, ?_⟩
      rcases hzz with ⟨_, h⟩ | ⟨k, _, h, _⟩
      · simp [h]
      · (first | lia | omega)
    · rcases hzz with ⟨h, _⟩ | ⟨k, hk1, _, hk2, hk3⟩
      · (first | lia | omega)
      · exact TEnd.mk (by assumption) (by assumption) hI ⟨rfl, k, _, _, _, ps_cons rfl (ps_cons rfl (ps_cons rfl ps_nil)), hk1, hk2, hk3⟩
  case done =>
    rintro m₁ nx h tk ⟨rfl, pos, _, tp, te, hm, rfl, hpos, hsub⟩ F1 N1
    rw [List.drop_of_length_le (by rw [hvl]; simp [wsL])] at hsub
    replace F1 := fr_out hm F1
    replace N1 := News.tl N1
    clear F9 N9 N9' hm
    k_steps
    exact ret _ [] _ _ (by assumption) (by assumption) (fun _ h => nomatch h) ⟨rfl, true, rfl, by simp [hsub]⟩
end ell
end Mine
end TLEll
section TLSub
open PySem PySem.W PyProof.Rows PySem.Calls PySem.Spec
set_option maxRecDepth 100000
set_option maxHeartbeats 8000000
namespace Mine
section subst
theorem subst_ok (w : World) (x y : Nat) (t u : Tok) (hx : x = 97 ∨ x = 98 ∨ x = 99) (hy : y = 97 ∨ y = 98 ∨ y = 99) :
   Con w 2 56 [.str (tx [x]) t, .str (tx [y]) u] [] (fun r led' => led' = [] ∧ ∃ t', r = .int (if x = y then 0 else 2) t') := by
  w_top off
  unfold Con
  k_fill
  intro mean mg mb dp un gd cn cs a ccd cl outer A₀ base h₀ L m s Q E rest B F X N T hk ho hdp hun ret
  simp only [List.nil_append] at N
  refine wpAny_call ?_
  k_dflt cell_enter
  rcases hx with rfl | rfl | rfl <;> rcases hy with rfl | rfl | rfl
  k_steps
  all_goals exact ret _ [] _ _ (by assumption) (by assumption) off_nil ⟨rfl, _, rfl⟩
end subst
end Mine
end TLSub
section TLSlice
open PySem PySem.W PyProof.Rows PySem.Calls PySem.Spec
set_option maxRecDepth 100000
set_option maxHeartbeats 8000000
namespace Mine
open PySem.Builtin.Str
def clipN (v : Option Int) (n dflt : Nat) : Nat := match v with
  | none => dflt
  | some i => (max 0 (min (if i < 0 then i + (n : Int) else i) (n : Int))).toNat
theorem clipN_le (v : Option Int) (n d : Nat) (h : d ≤ n) : clipN v n d ≤ n := by
  unfold clipN; split
  · exact h
  · (first | lia | omega)
theorem slice_tx (l : List Nat) (lo hi : Option Int) : Txt.slice (tx l) lo hi = tx ((l.drop (clipN lo l.length 0)).take (clipN hi l.length l.length - clipN lo l.length 0)) := by
  have key : strSliceIndices lo hi 1 l.length = (List.range (clipN hi l.length l.length - clipN lo l.length 0)).map fun k => clipN lo l.length 0 + k := by
    have gen : ∀ (a b : Int) (A B : Nat), a = (A : Int) → b = (B : Int) → sliceRange a b 1 = (List.range (B - A)).map fun k => A + k := by
      rintro _ _ A B rfl rfl
      unfold sliceRange
      simp only [show (1 : Int) > 0 by decide, if_true]
      have e3 : (if (A : Int) < (B : Int) then ((B : Int) - (A : Int) + 1 - 1) / 1 else 0).toNat = B - A := by
        split <;> (try rw [Int.ediv_one]) <;> (first | lia | omega)
      rw [e3]
      refine List.map_congr_left fun k _ => ?_
      (first | lia | omega)
    unfold strSliceIndices
    simp only [show (1 : Int) > 0 by decide, if_true]
    refine gen _ _ _ _ ?_ ?_
    · cases lo with
      | none => rfl
      | some i => simp only [clipN]; (first | lia | omega)
    · cases hi with
      | none => rfl
      | some i => simp only [clipN]; (first | lia | omega)
  have hb : clipN lo l.length 0 ≤ l.length := clipN_le _ _ _ (Nat.zero_le _)
  have hc : clipN hi l.length l.length ≤ l.length := clipN_le _ _ _ (Nat.le_refl _)
  unfold Txt.slice
  rw [tx_length, key]
  split
  · rename_i h
    simp only [beq_self_eq_true, Bool.true_and, List.length_map, List.length_range, beq_iff_eq] at h
    have h0 : clipN lo l.length 0 = 0 ∨ l.length = 0 := by (first | lia | omega)
    congr 1
    rcases h0 with h0 | h0
    · rw [h0, List.drop_zero, List.take_of_length_le (by (first | lia | omega))]
    · have : l = [] := List.length_eq_zero_iff.mp h0
      subst this; simp
  · refine tx_ext ?_
    have : (tx l).cps = l.toArray := rfl
    rw [this]
    simp only [List.getElem?_toArray]
    rw [StrLaws.picks]
    (first | lia | omega)
theorem clip_nat (k n d : Nat) : clipN (some (k : Int)) n d = min k n := by
  show (max 0 (min (if (k : Int) < 0 then (k : Int) + (n : Int) else (k : Int)) (n : Int))).toNat = min k n
  rw [if_neg (Int.not_lt.mpr (Int.natCast_nonneg k))]
  rcases Nat.le_total k n with h | h
  · rw [Nat.min_eq_left h, Int.min_eq_left (Int.ofNat_le.mpr h), Int.max_eq_right (Int.natCast_nonneg _), Int.toNat_natCast]
  · rw [Nat.min_eq_right h, Int.min_eq_right (Int.ofNat_le.mpr h), Int.max_eq_right (Int.natCast_nonneg _), Int.toNat_natCast]
theorem slice_from (l : List Nat) (k : Nat) : Txt.slice (tx l) (some (k : Int)) none = tx (l.drop k) := by
  rw [slice_tx]
  congr 1
  have h : clipN none l.length l.length = l.length := rfl
  rw [h, clip_nat, kmk_drop_min, List.take_of_length_le (by rw [List.length_drop]; exact Nat.sub_le_sub_left (Nat.min_le_left ..) _)]
theorem slice_to (l : List Nat) (k : Nat) : Txt.slice (tx l) none (some (k : Int)) = tx (l.take k) := by
  rw [slice_tx]
  congr 1
  have h : clipN none l.length 0 = 0 := rfl
  rw [h, List.drop_zero, Nat.sub_zero, clip_nat, kmk_take_min]
theorem slice_upneg (l : List Nat) (k : Nat) (h1 : 1 ≤ k) : Txt.slice (tx l) none (some (-(k : Int))) = tx (l.take (l.length - k)) := by
  rw [slice_tx]
  congr 1
  have h : clipN none l.length 0 = 0 := rfl
  rw [h, List.drop_zero, Nat.sub_zero]
  have : clipN (some (-(k : Int))) l.length l.length = l.length - k := by simp only [clipN]; (first | lia | omega)
  rw [this]
theorem slice_all (l : List Nat) : Txt.slice (tx l) none none = tx l := by
  rw [slice_tx]
  congr 1
  simp [clipN]
theorem slice_two (l : List Nat) (i j : Nat) (hij : i ≤ j) : Txt.slice (tx l) (some (i : Int)) (some (j : Int)) = tx ((l.drop i).take (j - i)) := by
  rw [slice_tx]
  congr 1
  rw [clip_nat, clip_nat, kmk_drop_min, List.take_eq_take_iff, List.length_drop]
  rcases Nat.le_total j l.length with h | h
  · rw [Nat.min_eq_left h, Nat.min_eq_left (Nat.le_trans hij h)]
  · rw [Nat.min_eq_right h]
    rcases Nat.le_total i l.length with h2 | h2
    · rw [Nat.min_eq_left h2, Nat.min_self, Nat.min_eq_right (Nat.sub_le_sub_right h i)]
    · rw [Nat.min_eq_right h2, Nat.sub_self, Nat.sub_eq_zero_of_le h2, Nat.min_zero, Nat.min_zero]
section
variable {prog : Program} {w : World} {A : Around} {E : Value → Shared → Prop} {s : Shared} {h₀ : Heap} {L : Addr} {m : PySem.Str → Option Value} {news : Led} {l : List Nat} {t : Tok} {value slice : Expr} {Q : Value → Shared → Prop}
theorem sl_from {i : Int} {k : Nat} {ui : Tok} (hF : Fr h₀ L s.heap m) (hN : News h₀ L s.heap news) (hi : i = (k : Int)) (h : ∀ h' t' k', Fr h₀ L h' m → News h₀ L h' news → (tx (l.drop k)).length = l.length - k → Q (.str (tx (l.drop k)) t') { s with heap := h', toks := k' }) (hsz : l.length ≤ 100000)
    (hs : subscripted slice false (.str (tx l) t) (.ref s.heap.objs.size) = operate [.ref s.heap.objs.size, .str (tx l) t] (getItem (.str (tx l) t) (.ref s.heap.objs.size)) := by with_unfolding_all rfl)
    (ht : ∀ r, letTemporaryGo value (.str (tx l) t) r = pure () := by intro _; with_unfolding_all rfl) :
    wpAny (model prog w) A (subscriptTail value slice (.str (tx l) t) (.ref s.heap.objs.size)) Q E { s with heap := s.heap.push { cls := .type "slice", data := .fields #[.int i ui, .none, .none] } } := by
  subst hi
  exact slice_strN_sn hF hN (by rw [slice_from]; exact fun h' t' k' F N => h h' t' k' F N (by rw [tx_length, List.length_drop])) hs ht (by rw [tx_length, sizeLine_eq]; (first | lia | omega))
theorem sl_to {i : Int} {k : Nat} {ui : Tok} (hF : Fr h₀ L s.heap m) (hN : News h₀ L s.heap news) (hi : i = (k : Int)) (h : ∀ h' t' k', Fr h₀ L h' m → News h₀ L h' news → (tx (l.take k)).length = min k l.length → Q (.str (tx (l.take k)) t') { s with heap := h', toks := k' }) (hsz : l.length ≤ 100000)
    (hs : subscripted slice false (.str (tx l) t) (.ref s.heap.objs.size) = operate [.ref s.heap.objs.size, .str (tx l) t] (getItem (.str (tx l) t) (.ref s.heap.objs.size)) := by with_unfolding_all rfl)
    (ht : ∀ r, letTemporaryGo value (.str (tx l) t) r = pure () := by intro _; with_unfolding_all rfl) :
    wpAny (model prog w) A (subscriptTail value slice (.str (tx l) t) (.ref s.heap.objs.size)) Q E { s with heap := s.heap.push { cls := .type "slice", data := .fields #[.none, .int i ui, .none] } } := by
  subst hi
  exact slice_strN_ns hF hN (by rw [slice_to]; exact fun h' t' k' F N => h h' t' k' F N (by rw [tx_length, List.length_take])) hs ht (by rw [tx_length, sizeLine_eq]; (first | lia | omega))
theorem sl_upneg {i : Int} {k : Nat} {ui : Tok} (hF : Fr h₀ L s.heap m) (hN : News h₀ L s.heap news) (hi : i = -(k : Int)) (hk : 1 ≤ k) (h : ∀ h' t' k', Fr h₀ L h' m → News h₀ L h' news → (tx (l.take (l.length - k))).length = l.length - k → Q (.str (tx (l.take (l.length - k))) t') { s with heap := h', toks := k' }) (hsz : l.length ≤ 100000)
    (hs : subscripted slice false (.str (tx l) t) (.ref s.heap.objs.size) = operate [.ref s.heap.objs.size, .str (tx l) t] (getItem (.str (tx l) t) (.ref s.heap.objs.size)) := by with_unfolding_all rfl)
    (ht : ∀ r, letTemporaryGo value (.str (tx l) t) r = pure () := by intro _; with_unfolding_all rfl) :
    wpAny (model prog w) A (subscriptTail value slice (.str (tx l) t) (.ref s.heap.objs.size)) Q E { s with heap := s.heap.push { cls := .type "slice", data := .fields #[.none, .int i ui, .none] } } := by
  subst hi
  exact slice_strN_ns hF hN (by rw [slice_upneg _ _ hk]; exact fun h' t' k' F N => h h' t' k' F N (by rw [tx_length, List.length_take]; (first | lia | omega))) hs ht (by rw [tx_length, sizeLine_eq]; (first | lia | omega))
theorem sl_all (hF : Fr h₀ L s.heap m) (hN : News h₀ L s.heap news) (h : ∀ h' t' k', Fr h₀ L h' m → News h₀ L h' news → (tx l).length = l.length → Q (.str (tx l) t') { s with heap := h', toks := k' }) (hsz : l.length ≤ 100000)
    (hs : subscripted slice false (.str (tx l) t) (.ref s.heap.objs.size) = operate [.ref s.heap.objs.size, .str (tx l) t] (getItem (.str (tx l) t) (.ref s.heap.objs.size)) := by with_unfolding_all rfl)
    (ht : ∀ r, letTemporaryGo value (.str (tx l) t) r = pure () := by intro _; with_unfolding_all rfl) :
    wpAny (model prog w) A (subscriptTail value slice (.str (tx l) t) (.ref s.heap.objs.size)) Q E { s with heap := s.heap.push { cls := .type "slice", data := .fields #[.none, .none, .none] } } :=
  slice_strN_nn hF hN (by rw [slice_all]; exact fun h' t' k' F N => h h' t' k' F N (tx_length l)) hs ht (by rw [tx_length, sizeLine_eq]; (first | lia | omega))
theorem sl_two {i j : Int} {a b : Nat} {ui uj : Tok} (hF : Fr h₀ L s.heap m) (hN : News h₀ L s.heap news) (hi : i = (a : Int)) (hj : j = (b : Int)) (hab : a ≤ b) (h : ∀ h' t' k', Fr h₀ L h' m → News h₀ L h' news → Q (.str (tx ((l.drop a).take (b - a))) t') { s with heap := h', toks := k' }) (hsz : l.length ≤ 100000)
    (hs : subscripted slice false (.str (tx l) t) (.ref s.heap.objs.size) = operate [.ref s.heap.objs.size, .str (tx l) t] (getItem (.str (tx l) t) (.ref s.heap.objs.size)) := by with_unfolding_all rfl)
    (ht : ∀ r, letTemporaryGo value (.str (tx l) t) r = pure () := by intro _; with_unfolding_all rfl) :
    wpAny (model prog w) A (subscriptTail value slice (.str (tx l) t) (.ref s.heap.objs.size)) Q E { s with heap := s.heap.push { cls := .type "slice", data := .fields #[.int i ui, .int j uj, .none] } } := by
  subst hi; subst hj
  exact slice_strN_ss hF hN (by rw [slice_two _ _ _ hab]; exact h) hs ht (by rw [tx_length, sizeLine_eq]; (first | lia | omega))
end
section whiles
variable {prog : Program} {w : World} {A : Around} {E : Value → Shared → Prop} {Q : Flow → Shared → Prop} {s : Shared} {env : Env} {h₀ : Heap} {L : Addr}
def WEnd (h₀ : Heap) (L : Addr) (s : Shared) (J : Nat → (PySem.Str → Option Value) → Led → Prop) (n : Nat) (s₃ : Shared) : Prop :=
  ∃ h' tk m₂ news₂ n', s₃ = { s with heap := h', toks := tk } ∧ Fr h₀ L h' m₂ ∧ News h₀ L h' news₂ ∧ n' < n ∧ J n' m₂ news₂
theorem WEnd.mk {J : Nat → (PySem.Str → Option Value) → Led → Prop} {n : Nat} {h' : Heap} {tk : Nat} {m₂ : PySem.Str → Option Value} {news₂ : Led} (F : Fr h₀ L h' m₂) (N : News h₀ L h' news₂) (n' : Nat) (hn : n' < n) (hj : J n' m₂ news₂) : WEnd h₀ L s J n { s with heap := h', toks := tk } :=
  ⟨h', tk, m₂, news₂, n', rfl, F, N, hn, hj⟩
def WOut (h₀ : Heap) (L : Addr) (s : Shared) (X : (PySem.Str → Option Value) → Led → Prop) (s₃ : Shared) : Prop :=
  ∃ h' tk m₂ news₂, s₃ = { s with heap := h', toks := tk } ∧ Fr h₀ L h' m₂ ∧ News h₀ L h' news₂ ∧ X m₂ news₂
theorem WOut.mk {X : (PySem.Str → Option Value) → Led → Prop} {h' : Heap} {tk : Nat} {m₂ : PySem.Str → Option Value} {news₂ : Led} (F : Fr h₀ L h' m₂) (N : News h₀ L h' news₂) (hx : X m₂ news₂) : WOut h₀ L s X { s with heap := h', toks := tk } :=
  ⟨h', tk, m₂, news₂, rfl, F, N, hx⟩
def WTurn (h₀ : Heap) (L : Addr) (s : Shared) (J : Nat → (PySem.Str → Option Value) → Led → Prop) (X : (PySem.Str → Option Value) → Led → Prop) (Q : Flow → Shared → Prop) (n : Nat) (f : Flow) (s₃ : Shared) : Prop :=
  match f with
  | .ret v => Q (.ret v) s₃
  | .brk => WOut h₀ L s X s₃
  | _ => WEnd h₀ L s J n s₃
theorem while_led {test : Expr} {body : List Stmt} {pos : Pos} {m : PySem.Str → Option Value} {news : Led} (J : Nat → (PySem.Str → Option Value) → Led → Prop) (X : (PySem.Str → Option Value) → Led → Prop) {n₀ : Nat}
    (F : Fr h₀ L s.heap m) (N : News h₀ L s.heap news) (hJ : J n₀ m news)
    (turn : ∀ n m₁ news₁ h₁ tk₁, Fr h₀ L h₁ m₁ → News h₀ L h₁ news₁ → J n m₁ news₁ →
      wpAny (model prog w) A (isTrue test env (eval test env)) (fun b s₂ =>
        if b = true then wpAny (model prog w) A (execs body env) (WTurn h₀ L s J X Q n) E s₂ else WOut h₀ L s X s₂) E { s with heap := h₁, toks := tk₁ })
    (done : ∀ m₁ news₁ h tk, X m₁ news₁ → Fr h₀ L h m₁ → News h₀ L h news₁ → Q .next { s with heap := h, toks := tk })
    (hE : PassesOwn (model prog w) A env E := by passes_own) :
    wpAny (model prog w) A (exec (.While test body [] pos) env) Q E s := by
  have out : ∀ s₂, WOut h₀ L s X s₂ → Q .next s₂ := by
    rintro s₂ ⟨h', tk, m₂, nx, rfl, F', N', hx⟩
    exact done m₂ nx h' tk hx F' N'
  refine While_inv2 J F N hJ (fun n m₁ news₁ h₁ tk₁ F₁ N₁ J₁ => wpAny_mono (turn n m₁ news₁ h₁ tk₁ F₁ N₁ J₁) (fun b s₂ h => ?_) fun _ _ x => x) hE
  cases b with
  | false => simp only [Bool.false_eq_true, if_false] at h ⊢; exact out _ h
  | true =>
    simp only [if_true] at h ⊢
    refine wpAny_mono h (fun f s₃ p => ?_) fun _ _ x => x
    cases f with
    | ret v => exact p
    | brk => exact out _ p
    | next => exact p
    | cont => exact p
/-- a cut: some statements, then the rest from what is known -/
def CutP (h₀ : Heap) (L : Addr) (s : Shared) (X : (PySem.Str → Option Value) → Led → Prop) (Q : Flow → Shared → Prop) (f : Flow) (s₃ : Shared) : Prop :=
  match f with
  | .next => WOut h₀ L s X s₃
  | f => Q f s₃
theorem execs_split0 {M : Model} (Mid : Shared → Prop) (Γ : PySem.Ctx) (hΓ : Γ.In A) : ∀ (n : Nat) (l : List Stmt) (p : Pos) (s : Shared),
    Sem.wp M Γ (execs (l.take n) env) (fun f _ s' => match f with | .next => Mid s' | f => Q f s') (fun e _ s' => E e s') p s →
    (∀ s', Mid s' → wpAny M A (execs (l.drop n) env) Q E s') → Sem.wp M Γ (execs l env) (fun f _ s' => Q f s') (fun e _ s' => E e s') p s
  | 0, l, p, s, h1, h => h s h1 Γ p hΓ
  | n + 1, [], p, s, h1, h => h s h1 Γ p hΓ
  | n + 1, st :: l, p, s, h1, h => by
    rw [List.take_succ_cons, execs_cons, Sem.wp_bind'] at h1
    rw [execs_cons, Sem.wp_bind']
    refine Sem.wp_mono M Γ _ (fun f p' s' h' => ?_) (fun _ _ _ h' => h') _ _ h1
    cases f with
    | next => exact execs_split0 Mid Γ hΓ n l p' s' h' h
    | cont => exact h'
    | brk => exact h'
    | ret v => exact h'
theorem cut_led {M : Model} {m₀ : PySem.Str → Option Value} (n : Nat) {l : List Stmt} (_F : Fr h₀ L s.heap m₀) (X : (PySem.Str → Option Value) → Led → Prop) (h1 : wpAny M A (execs (l.take n) env) (CutP h₀ L s X Q) E s)
    (h2 : ∀ m' nx h tk, X m' nx → Fr h₀ L h m' → News h₀ L h nx → wpAny M A (execs (l.drop n) env) Q E { s with heap := h, toks := tk }) : wpAny M A (execs l env) Q E s := fun Γ p hΓ =>
  execs_split0 (WOut h₀ L s X) Γ hΓ n l p s (Sem.wp_mono M Γ _ (fun f p' s' h' => by cases f <;> exact h') (fun _ _ _ h' => h') _ _ (h1 Γ p hΓ)) fun s' hm => by
    obtain ⟨h', tk, m₂, nx, rfl, F, N, hx⟩ := hm
    exact h2 m₂ nx h' tk hx F N
end whiles
end Mine
end TLSlice
section TLInts
open PySem PySem.W PyProof.Rows PySem.Calls PySem.Spec
set_option maxRecDepth 100000
set_option maxHeartbeats 8000000
namespace Mine
section
variable {prog : Program} {w : World} {A : Around} {E : Value → Shared → Prop} {s : Shared} {h₀ : Heap} {L D : Addr} {m : PySem.Str → Option Value} {news : Led}
theorem upd_news {h h' : Heap} {news' : Led} {o o' : Obj} (N : News h₀ L h news) (hs : Heap.SameBut D h h') (ho : h'.get? D = some o') (hm : (D, o) ∈ news) (hn : ∀ p ∈ news', p = (D, o') ∨ (p ∈ news ∧ p.1 ≠ D)) : News h₀ L h' news' := fun p hp => by
  rcases hn p hp with rfl | ⟨a, b⟩
  · exact ⟨ho, (N _ hm).2⟩
  · exact ⟨(hs.2 p.1 b).trans (N p a).1, (N p a).2⟩
theorem listOf_update {h : Heap} {its : Array Value} {n : Nat} (ho : h.get? D = some (listOf its n)) (f : Array Value → Array Value) : ∃ n', (h.update D (Obj.mapSeq f)).get? D = some (listOf (f its) n') := ⟨_, PySem.IsL.update ho f⟩
theorem item_ints {value slice : Expr} {vs : List Value} {ns : List Int} {n : Nat} {k x : Int} {u : Tok} {Q : Value → Shared → Prop} (N : News h₀ L s.heap news) (hm : (D, listOf vs.toArray n) ∈ news) (hS : IntsAre vs ns)
    (h0 : 0 ≤ k) (hfit : k < 2 ^ 63) (hx : ns[k.toNat]? = some x) (h : ∀ t, Q (.int x t) s)
    (hs : subscripted slice false (.ref D) (.int k u) = operate [.ref D, .int k u] (getItem (.ref D) (.int k u)) := by with_unfolding_all rfl) (hg : ∀ r, letTemporaryGo value (.ref D) r = pure () := by intro _; with_unfolding_all rfl) :
    wpAny (model prog w) A (subscriptTail value slice (.ref D) (.int k u)) Q E s := by
  obtain ⟨t, ht⟩ := hS.get _ _ hx
  exact item_led N hm h0 hfit ht (h t) hs hg
theorem set_led {vs : List Value} {n : Nat} {k : Int} {t : Tok} {x : Value} {Q : Unit → Shared → Prop} (F : Fr h₀ L s.heap m) (N : News h₀ L s.heap news) (hm : (D, listOf vs.toArray n) ∈ news) (h0 : 0 ≤ k) (h1 : k < vs.length) (hfit : k < 2 ^ 63)
    (h : ∀ h' n', Fr h₀ L h' m → (∀ news', (∀ p ∈ news', p = (D, listOf (vs.set k.toNat x).toArray n') ∨ (p ∈ news ∧ p.1 ≠ D)) → News h₀ L h' news') → Q () { s with heap := h' }) :
    wpAny (model prog w) A (setItem (.ref D) (.int k t) x) Q E s := by
  have z := N _ hm
  refine ki_setAt z.1 h0 hfit (by simpa using h1) ?_
  obtain ⟨n', e⟩ := listOf_update z.1 (·.setIfInBounds k.toNat x)
  have e2 : vs.toArray.setIfInBounds k.toNat x = (vs.set k.toNat x).toArray := by simp
  rw [e2] at e
  exact h _ n' (F.change (Heap.SameBut.update ..) z.2.1 z.2.2) fun news' hn => upd_news N (Heap.SameBut.update ..) e hm hn
theorem append_led {vs : List Value} {n : Nat} {x : Value} {Q : Value → Shared → Prop} (F : Fr h₀ L s.heap m) (N : News h₀ L s.heap news) (hm : (D, listOf vs.toArray n) ∈ news) (hsz : vs.length ≤ 100000)
    (h : ∀ h' n', Fr h₀ L h' m → (∀ news', (∀ p ∈ news', p = (D, listOf (vs ++ [x]).toArray n') ∨ (p ∈ news ∧ p.1 ≠ D)) → News h₀ L h' news') → Q .none { s with heap := h' }) :
    wpAny (model prog w) A (call (.builtin "list.append") [.ref D, x]) Q E s := by
  have z := N _ hm
  refine append_at (hsz := by rw [sizeLine_eq, List.size_toArray]; (first | lia | omega)) z.1 fun h' hs' ho' => ?_
  have e2 : vs.toArray.push x = (vs ++ [x]).toArray := by simp
  rw [e2] at ho'
  exact h _ (n + 1) (F.change hs' z.2.1 z.2.2) fun news' hn => upd_news N hs' ho' hm hn
theorem ints_of {vs : List Value} : ∀ {ns : List Int}, vs.length = ns.length → (∀ (i : Nat) (v : Value), vs[i]? = some v → ∃ t, v = Value.int (ns.getD i 0) t) → IntsAre vs ns := by
  induction vs with
  | nil => intro ns h _; cases ns with
    | nil => exact .nil
    | cons => simp at h
  | cons v vs ih => intro ns h hv; cases ns with
    | nil => simp at h
    | cons a r =>
      obtain ⟨t, e⟩ := hv 0 v rfl
      have e' : v = .int a t := by simpa using e
      subst e'
      exact .cons _ _ (ih (by simpa using h) fun i v' e => by simpa using hv (i + 1) v' (by simpa using e))
theorem list_rng {r : Addr} {a b c : Int} {t₀ u₀ v₀ : Tok} {n : Nat} {Q : Value → Shared → Prop} (hh : A.handled = none) (F : Fr h₀ L s.heap m) (N : News h₀ L s.heap news) (hr : IsRange s.heap r a b c t₀ u₀ v₀) (hsmall : Builtin.Range.small a b c = true) (hn : Builtin.Range.rangeSize a b c = (n : Int)) (hz : n ≤ 2 ^ 24)
    (h : ∀ D us k h' tk, Fr h₀ L h' m → News h₀ L h' ((D, listOf (List.toArray us) k) :: news) → (∀ p ∈ news, p.1 < D) → IntsAre us ((List.range n).map fun (i : Nat) => a + (i : Int) * c) → Q (.ref D) { s with heap := h', toks := tk }) :
    wpAny (model prog w) A (call (.type "list") [.ref r]) Q E s := by
  refine call_list_range hh hr hsmall hn hz fun h' tk acc k hk hD hI => ?_
  have hD' : h'.get? s.heap.objs.size = some (listOf (List.toArray acc.toList) k) := by
    rw [Array.toArray_toList]
    exact hD
  refine h _ acc.toList k h' tk (F.keeps hk) (news_pushed F N hk hD' rfl) (fun p hp => Heap.lt_size (N p hp).1) (ints_of (by rw [Array.length_toList, hI.1]; simp) fun j v hj => ?_)
  have hj' : acc[j]? = some v := by rw [← hj, Array.getElem?_toList]
  obtain ⟨t, rfl⟩ := hI.2 j v hj'
  have hlt : j < n := by
    have := (Array.getElem?_eq_some_iff.mp hj').1
    rw [hI.1] at this; exact this
  exact ⟨t, by simp [hlt]⟩
theorem item_tx (l : List Nat) {k : Nat} (h : k < l.length) : Txt.item (tx l) (k : Int) = tx [l.getD k 0] := by
  rw [item_meets ⟨Int.natCast_nonneg _, by rw [tx_length]; exact_mod_cast h⟩]
  simp [tx]
theorem item_text {value slice : Expr} {l : List Nat} {t u : Tok} {z : Int} {k : Nat} {Q : Value → Shared → Prop} (hz : z = (k : Int)) (hk : k < l.length) (hl : l.length ≤ 100000) (h : ∀ t' tk, Q (.str (tx [l.getD k 0]) t') { s with toks := tk })
    (hs : subscripted slice false (.str (tx l) t) (.int z u) = operate [.str (tx l) t, .int z u] (getItem (.str (tx l) t) (.int z u)) := by with_unfolding_all rfl)
    (ht : ∀ r, letTemporaryGo value (.str (tx l) t) r = pure () := by intro _; with_unfolding_all rfl) :
    wpAny (model prog w) A (subscriptTail value slice (.str (tx l) t) (.int z u)) Q E s := by
  subst hz
  exact KXi.item (n := l.length) (tx_length l) (by (first | lia | omega)) (by (first | lia | omega)) (by (first | lia | omega)) (fun _ => by rw [item_tx l hk]; exact h _ _) hs ht
end
end Mine
end TLInts
section TLPureD
set_option maxRecDepth 100000
namespace Mine
/-- the table of edits: a sign put in or taken out costs 2, another sign 2 -/
def D (x y : List Nat) : Nat → Nat → Nat
  | 0, j => 2 * j
  | i + 1, 0 => 2 * (i + 1)
  | i + 1, j + 1 => min (min (D x y i (j + 1)) (D x y (i + 1) j) + 2) (D x y i j + if y.getD j 0 = x.getD i 0 then 0 else 2)
termination_by i j => i + j
theorem D_zero (x y : List Nat) (j : Nat) : D x y 0 j = 2 * j := by rw [D]
theorem D_col (x y : List Nat) (i : Nat) : D x y i 0 = 2 * i := by
  cases i <;> rw [D]
theorem D_succ (x y : List Nat) (i j : Nat) : D x y (i + 1) (j + 1) = min (min (D x y i (j + 1)) (D x y (i + 1) j) + 2) (D x y i j + if y.getD j 0 = x.getD i 0 then 0 else 2) := by
  rw [D]
/-- what the loop holds as the value to the left -/
def left (x y : List Nat) (i j : Nat) : Nat := if i = 0 then 2 * j else D x y i (j + 1)
theorem min_aux (j a c : Nat) (h : c ≤ 2) : min (min (2 * j) a + 2) (2 * j + c) = min (min (2 * (j + 1)) a + 2) (2 * j + c) := by
  have h2 : 2 * j ≤ 2 * (j + 1) := Nat.mul_le_mul_left 2 (Nat.le_succ j)
  rcases Nat.le_total (2 * j) a with h1 | h1
  · rw [Nat.min_eq_left h1, Nat.min_eq_right (Nat.add_le_add_left h _), Nat.min_eq_right (Nat.add_le_add (Nat.le_min.mpr ⟨h2, h1⟩) h)]
  · rw [Nat.min_eq_right h1, Nat.min_eq_right (Nat.le_trans h1 h2)]
theorem D_cell (x y : List Nat) (i j : Nat) : min (min (left x y i j) (D x y (i + 1) j) + 2) (D x y i j + if y.getD j 0 = x.getD i 0 then 0 else 2) = D x y (i + 1) (j + 1) := by
  rw [D_succ]
  unfold left
  split
  · rename_i h
    subst h
    rw [D_zero, D_zero]
    exact min_aux _ _ _ (by split <;> decide)
  · rfl
theorem left_succ (x y : List Nat) (i j : Nat) : left x y (i + 1) j = D x y (i + 1) (j + 1) := by unfold left; rw [if_neg (by (first | lia | omega))]
theorem cell_aux (a b c d : Nat) (t : Int) (ht : t = (d : Int)) : (if ((c : Int) + t) < (if (b : Int) < (a : Int) then (b : Int) else (a : Int)) + 2 then (c : Int) + t else (if (b : Int) < (a : Int) then (b : Int) else (a : Int)) + 2) = ((min (min a b + 2) (c + d) : Nat) : Int) := by
  subst ht
  by_cases h : b < a
  · rw [if_pos (show (b : Int) < (a : Int) by exact_mod_cast h), Nat.min_eq_right (Nat.le_of_lt h)]
    clear h; (first | lia | omega)
  · rw [if_neg (show ¬ (b : Int) < (a : Int) by exact_mod_cast h), Nat.min_eq_left (Nat.le_of_not_lt h)]
    clear h; (first | lia | omega)
theorem cell_eq {x y : List Nat} {i j : Nat} {dist res : Int} (hd : dist = (D x y i j : Int)) (hr : res = (left x y i j : Int)) :
    (if (dist + if y.getD j 0 = x.getD i 0 then 0 else 2) < (if (D x y (i + 1) j : Int) < res then (D x y (i + 1) j : Int) else res) + 2 then dist + if y.getD j 0 = x.getD i 0 then 0 else 2
      else (if (D x y (i + 1) j : Int) < res then (D x y (i + 1) j : Int) else res) + 2) = (D x y (i + 1) (j + 1) : Int) := by
  rw [← D_cell x y i j, hd, hr]
  exact cell_aux _ _ _ _ _ (by split <;> rfl)
theorem row_set {x y : List Nat} {i j n : Nat} (hi : i < n) : ((List.range n).map fun i' => if i' < i then (D x y (i' + 1) (j + 1) : Int) else (D x y (i' + 1) j : Int)).set i (D x y (i + 1) (j + 1) : Int) = (List.range n).map fun i' => if i' < i + 1 then (D x y (i' + 1) (j + 1) : Int) else (D x y (i' + 1) j : Int) := by
  apply List.ext_getElem
  · simp
  · intro k h1 h2
    rw [List.getElem_set]
    simp only [List.getElem_map, List.getElem_range]
    by_cases hk : i = k
    · subst hk; rw [if_pos rfl, if_pos (by (first | lia | omega))]
    · rw [if_neg hk]
      by_cases h3 : k < i
      · rw [if_pos h3, if_pos (by (first | lia | omega))]
      · rw [if_neg h3, if_neg (by (first | lia | omega))]
theorem D_le (x y : List Nat) : ∀ n i j, i + j ≤ n → D x y i j ≤ 2 * (i + j)
  | n, 0, j, _ => by rw [D_zero]; (first | lia | omega)
  | n, i + 1, 0, _ => by rw [D_col]; (first | lia | omega)
  | 0, i + 1, j + 1, h => by (first | lia | omega)
  | n + 1, i + 1, j + 1, h => by
    rw [D_succ]
    have := D_le x y n i (j + 1) (by (first | lia | omega))
    exact Nat.le_trans (Nat.min_le_left ..) (Nat.le_trans (Nat.add_le_add_right (Nat.le_trans (Nat.min_le_left ..) this) 2) (Nat.le_of_eq (by rw [← Nat.mul_succ, Nat.add_right_comm])))
def Trim (a b x y : List Nat) : Prop := ∃ α γ, a = α ++ x ++ γ ∧ b = α ++ y ++ γ ∧ (x = [] ∨ y = [] ∨ (x.getD 0 0 ≠ y.getD 0 0 ∧ x.getD (x.length - 1) 0 ≠ y.getD (y.length - 1) 0))
def LevD (x y : List Nat) (mc r : Int) : Prop :=
  (mc < 2 * ((y.length : Int) - x.length) ∧ r = mc + 1) ∨
  (2 * ((y.length : Int) - x.length) ≤ mc ∧
    (((∃ j < y.length, ∀ i < x.length, mc < (D x y (i + 1) (j + 1) : Int)) ∧ r = mc + 1) ∨
     ((∀ j < y.length, ∃ i < x.length, (D x y (i + 1) (j + 1) : Int) ≤ mc) ∧ r = (D x y x.length y.length : Int))))
def LevT (x y : List Nat) (mc r : Int) : Prop :=
  ((x = [] ∨ y = []) ∧ r = 2 * ((x.length : Int) + y.length)) ∨
  (x ≠ [] ∧ y ≠ [] ∧ ((y.length < x.length ∧ LevD y x mc r) ∨ (x.length ≤ y.length ∧ LevD x y mc r)))
def LevR (a b : List Nat) (mc r : Int) : Prop := (a = b ∧ r = 0) ∨ (a ≠ b ∧ ∃ x y, Trim a b x y ∧ LevT x y mc r)
/-- the trimming, as the two loops leave it -/
theorem trim_of {a b x y : List Nat} {k j : Nat} (hk1 : k ≤ a.length) (hk2 : k ≤ b.length) (hab : a.take k = b.take k) (hx : a.drop k = x) (hy : b.drop k = y)
    (htr : x = [] ∨ y = [] ∨ (k < a.length ∧ k < b.length ∧ a.getD k 0 ≠ b.getD k 0)) (hj1 : j ≤ x.length) (hj2 : j ≤ y.length) (hxy : x.drop (x.length - j) = y.drop (y.length - j))
    (htr2 : x.length = j ∨ y.length = j ∨ (j < x.length ∧ j < y.length ∧ x.getD (x.length - 1 - j) 0 ≠ y.getD (y.length - 1 - j) 0)) :
    Trim a b (x.take (x.length - j)) (y.take (y.length - j)) := by
  refine ⟨a.take k, x.drop (x.length - j), ?_, ?_, ?_⟩
  · rw [List.append_assoc, List.take_append_drop, ← hx, List.take_append_drop]
  · rw [List.append_assoc, hxy, List.take_append_drop, ← hy, hab, List.take_append_drop]
  · rcases htr2 with h | h | ⟨h1, h2, h3⟩
    · exact .inl (by rw [h, Nat.sub_self, List.take_zero])
    · exact .inr (.inl (by rw [h, Nat.sub_self, List.take_zero]))
    · rcases htr with h | h | ⟨_, _, h4⟩
      · rw [h] at h1; simp at h1
      · rw [h] at h2; simp at h2
      · refine .inr (.inr ⟨?_, ?_⟩)
        · have e1 : (x.take (x.length - j)).getD 0 0 = a.getD k 0 := by
            rw [← hx]; simp [List.getD_eq_getElem?_getD, List.getElem?_take]
            rw [if_pos (by rw [← List.length_drop, hx]; exact Nat.sub_pos_of_lt h1)]
          have e2 : (y.take (y.length - j)).getD 0 0 = b.getD k 0 := by
            rw [← hy]; simp [List.getD_eq_getElem?_getD, List.getElem?_take]
            rw [if_pos (by rw [← List.length_drop, hy]; exact Nat.sub_pos_of_lt h2)]
          rw [e1, e2]; exact h4
        · have e1 : (x.take (x.length - j)).getD ((x.take (x.length - j)).length - 1) 0 = x.getD (x.length - 1 - j) 0 := by
            rw [List.length_take, Nat.min_eq_left (Nat.sub_le ..), Nat.sub_right_comm]
            simp only [List.getD_eq_getElem?_getD, List.getElem?_take]
            rw [if_pos (by clear hxy hab hk1 hk2 h3 h4; (first | lia | omega))]
          have e2 : (y.take (y.length - j)).getD ((y.take (y.length - j)).length - 1) 0 = y.getD (y.length - 1 - j) 0 := by
            rw [List.length_take, Nat.min_eq_left (Nat.sub_le ..), Nat.sub_right_comm]
            simp only [List.getD_eq_getElem?_getD, List.getElem?_take]
            rw [if_pos (by clear hxy hab hk1 hk2 h3 h4; (first | lia | omega))]
          rw [e1, e2]; exact h3
end Mine
end TLPureD
section TLLev
open PySem PySem.W PyProof.Rows PySem.Calls PySem.Spec
set_option maxRecDepth 100000
set_option maxHeartbeats 1000000
namespace Mine
section lev
theorem rng2 {n : Nat} (h1 : 1 ≤ n) (h8 : n ≤ 8) : Builtin.Range.small 2 (2 * ((n : Int) + 1)) 2 = true ∧ Builtin.Range.rangeSize 2 (2 * ((n : Int) + 1)) 2 = (n : Int) := by
  have : n = 1 ∨ n = 2 ∨ n = 3 ∨ n = 4 ∨ n = 5 ∨ n = 6 ∨ n = 7 ∨ n = 8 := by (first | lia | omega)
  rcases this with rfl | rfl | rfl | rfl | rfl | rfl | rfl | rfl <;> exact ⟨by decide, by decide⟩
theorem getD_mem {l : List Nat} {j : Nat} (h : j < l.length) : l.getD j 0 ∈ l := by
  rw [List.getD_eq_getElem?_getD, List.getElem?_eq_getElem h]; exact List.getElem_mem h
theorem tx_beq (a b : List Nat) : (tx a == tx b) = (a == b) := by
  rw [Bool.eq_iff_iff, beq_iff_eq, beq_iff_eq]
  exact ⟨tx_inj, fun h => by rw [h]⟩
theorem take_more {a b : List Nat} {k : Nat} (h : a.take k = b.take k) (h1 : k < a.length) (h2 : k < b.length) (he : a.getD k 0 = b.getD k 0) : a.take (k + 1) = b.take (k + 1) := by
  rw [List.take_succ_eq_append_getElem h1, List.take_succ_eq_append_getElem h2, h]
  simp only [List.getD_eq_getElem?_getD, List.getElem?_eq_getElem h1, List.getElem?_eq_getElem h2, Option.getD_some] at he
  rw [he]
theorem item_tx_neg (l : List Nat) {k : Nat} (h : k < l.length) : Txt.item (tx l) (-(k : Int) - 1) = tx [l.getD (l.length - 1 - k) 0] := by
  have h1 : seqIndex? (-(k : Int) - 1) (tx l).length = some (l.length - 1 - k) := by
    unfold seqIndex?
    rw [tx_length]
    have h2 : (-(k : Int) - 1) < 0 := by (first | lia | omega)
    have h3 : (-(k : Int) - 1 + (l.length : Int)) = ((l.length - 1 - k : Nat) : Int) := by (first | lia | omega)
    simp only [h2, if_true, h3]
    have h4 : ((l.length - 1 - k : Nat) : Int) < (l.length : Int) := by (first | lia | omega)
    have h5 : (0 : Int) ≤ ((l.length - 1 - k : Nat) : Int) := by (first | lia | omega)
    simp [h4, h5]
  unfold Txt.item Txt.charAt
  rw [h1]
  have h5 : l.length - 1 - k < l.length := by (first | lia | omega)
  simp [tx, h5]
theorem drop_more {x y : List Nat} {k : Nat} (h : x.drop (x.length - k) = y.drop (y.length - k)) (h1 : k < x.length) (h2 : k < y.length) (he : x.getD (x.length - 1 - k) 0 = y.getD (y.length - 1 - k) 0) : x.drop (x.length - (k + 1)) = y.drop (y.length - (k + 1)) := by
  have e1 : x.drop (x.length - (k + 1)) = x.getD (x.length - 1 - k) 0 :: x.drop (x.length - k) := by
    rw [List.drop_eq_getElem_cons (by (first | lia | omega)), show x.length - (k + 1) + 1 = x.length - k by (first | lia | omega)]
    simp [List.getD_eq_getElem?_getD, show x.length - (k + 1) = x.length - 1 - k by (first | lia | omega), show x.length - 1 - k < x.length by (first | lia | omega)]
  have e2 : y.drop (y.length - (k + 1)) = y.getD (y.length - 1 - k) 0 :: y.drop (y.length - k) := by
    rw [List.drop_eq_getElem_cons (by (first | lia | omega)), show y.length - (k + 1) + 1 = y.length - k by (first | lia | omega)]
    simp [List.getD_eq_getElem?_getD, show y.length - (k + 1) = y.length - 1 - k by (first | lia | omega), show y.length - 1 - k < y.length by (first | lia | omega)]
  rw [e1, e2, h, he]
local macro_rules | `(tactic| walk_at $k:str) => if ["exec While BoolOp cons nil", "exec For Name Call cons nil", "pyIter ref", "call type:list", "subscriptTail Name Name str int", "subscriptTail Name Name ref int", "setItem ref int int", "call ref"].contains k.getString then `(tactic| refine Hold.out ?_) else Lean.Macro.throwUnsupported
local macro_rules | `(tactic| walk_at "TurnP") => `(tactic| dsimp only [TurnP])
local macro_rules | `(tactic| walk_at "CutP") => `(tactic| dsimp only [CutP])
local macro_rules | `(tactic| walk_at "ite") => `(tactic| refine ite_pos (by assumption) ?_)
local macro_rules | `(tactic| walk_at "WTurn") => `(tactic| dsimp only [WTurn])
local macro_rules | `(tactic| walk_at "subscriptTail Name Slice str ref") => `(tactic| ((with_reducible show wpAny _ _ (subscriptTail _ (Expr.Slice (some _) none none _) _ _) _ _ _); refine' sl_from (s := ⟨_, _, _, _, _⟩) ?F ?N ?hi ?_ ?sz; (case F => k_asm); (case N => k_asm); (case hi => rfl); (case sz => (first | (first | lia | omega) | (simp only [List.length_drop, List.length_take]; (first | lia | omega)))); intro _ _ _ _ _ _; (try dsimp only)))
local macro_rules | `(tactic| walk_at "subscriptTail Name Slice str ref") => `(tactic| ((with_reducible show wpAny _ _ (subscriptTail _ (Expr.Slice none (some _) none _) _ _) _ _ _); first
  | (refine' sl_all (s := ⟨_, _, _, _, _⟩) ?F ?N ?_ ?sz; (case F => k_asm); (case N => k_asm); (case sz => (first | lia | omega)); intro _ _ _ _ _ _; (try dsimp only))
  | (refine' sl_upneg (s := ⟨_, _, _, _, _⟩) ?F ?N ?hi ?h1 ?_ ?sz; (case F => k_asm); (case N => k_asm); (case hi => first | rfl | assumption); (case h1 => (first | lia | omega)); (case sz => (first | lia | omega)); intro _ _ _ _ _ _; (try dsimp only))))
theorem has_of {h₀ h : Heap} {L : Addr} {m : PySem.Str → Option Value} (F : Fr h₀ L h m) (ps : List (PySem.Str × Value)) (hp : Has m ps) : Has m ps := hp
inductive L1 (a b : List Nat) (mc : Int) (rest : Led) (n : Nat) (m : PySem.Str → Option Value) (nx : Led) : Prop
  | mk (h1 : nx = rest) (k : Nat) (z : Int) (tk ta tb tm : Tok) (h2 : Has m [(PySem.Str.ofString "pre", Value.int z tk), (PySem.Str.ofString "a", Value.str (tx a) ta), (PySem.Str.ofString "b", Value.str (tx b) tb), (PySem.Str.ofString "max_cost", Value.int mc tm)]) (h3 : z = (k : Int)) (h4 : n = a.length - k) (h5 : k ≤ a.length) (h6 : k ≤ b.length) (h7 : a.take k = b.take k) : L1 a b mc rest n m nx
inductive L2 (a b : List Nat) (mc : Int) (rest : Led) (m : PySem.Str → Option Value) (nx : Led) : Prop
  | mk (h1 : nx = rest) (k : Nat) (z : Int) (tk ta tb tm : Tok) (h2 : Has m [(PySem.Str.ofString "pre", Value.int z tk), (PySem.Str.ofString "a", Value.str (tx a) ta), (PySem.Str.ofString "b", Value.str (tx b) tb), (PySem.Str.ofString "max_cost", Value.int mc tm)]) (h3 : z = (k : Int)) (h4 : k ≤ a.length) (h5 : k ≤ b.length) (h6 : a.take k = b.take k) (h7 : (a.drop k = [] ∨ b.drop k = [] ∨ (k < a.length ∧ k < b.length ∧ a.getD k 0 ≠ b.getD k 0))) : L2 a b mc rest m nx
inductive L3 (x y : List Nat) (mc : Int) (nx : Led) (n : Nat) (m : PySem.Str → Option Value) (nx' : Led) : Prop
  | mk (h1 : nx' = nx) (j : Nat) (z : Int) (tk ta tb tm : Tok) (h2 : Has m [(PySem.Str.ofString "post", Value.int z tk), (PySem.Str.ofString "a", Value.str (tx x) ta), (PySem.Str.ofString "b", Value.str (tx y) tb), (PySem.Str.ofString "max_cost", Value.int mc tm)]) (h3 : z = -(j : Int)) (h4 : n = x.length - j) (h5 : j ≤ x.length) (h6 : j ≤ y.length) (h7 : x.drop (x.length - j) = y.drop (y.length - j)) : L3 x y mc nx n m nx'
inductive L4 (x y : List Nat) (mc : Int) (nx : Led) (m : PySem.Str → Option Value) (nx' : Led) : Prop
  | mk (h1 : nx' = nx) (j : Nat) (z : Int) (tk ta tb tm : Tok) (h2 : Has m [(PySem.Str.ofString "post", Value.int z tk), (PySem.Str.ofString "a", Value.str (tx x) ta), (PySem.Str.ofString "b", Value.str (tx y) tb), (PySem.Str.ofString "max_cost", Value.int mc tm)]) (h3 : z = -(j : Int)) (h4 : j ≤ x.length) (h5 : j ≤ y.length) (h6 : x.drop (x.length - j) = y.drop (y.length - j)) (h7 : (x.length = j ∨ y.length = j ∨ (j < x.length ∧ j < y.length ∧ x.getD (x.length - 1 - j) 0 ≠ y.getD (y.length - 1 - j) 0))) : L4 x y mc nx m nx'
inductive L5 (x y : List Nat) (j : Nat) (mc : Int) (nx' : Led) (m : PySem.Str → Option Value) (nx : Led) : Prop
  | mk (h1 : nx = nx') (p q : List Nat) (ta tb tm : Tok) (h2 : Has m [(PySem.Str.ofString "a", Value.str (tx p) ta), (PySem.Str.ofString "b", Value.str (tx q) tb), (PySem.Str.ofString "max_cost", Value.int mc tm)]) (h3 : p = x.take (x.length - j)) (h4 : q = y.take (y.length - j)) : L5 x y j mc nx' m nx
inductive L6 (p q : List Nat) (mc : Int) (nx3 : Led) (m : PySem.Str → Option Value) (nx : Led) : Prop
  | mk (h1 : nx = nx3) (p' q' : List Nat) (ta tb tm : Tok) (h2 : Has m [(PySem.Str.ofString "a", Value.str (tx p') ta), (PySem.Str.ofString "b", Value.str (tx q') tb), (PySem.Str.ofString "max_cost", Value.int mc tm)]) (h3 : (∀ c ∈ p', c = 97 ∨ c = 98 ∨ c = 99)) (h4 : (∀ c ∈ q', c = 97 ∨ c = 98 ∨ c = 99)) (h5 : 1 ≤ p'.length) (h6 : p'.length ≤ q'.length) (h7 : q'.length ≤ 8) (h8 : ∀ r, LevD p' q' mc r → LevT p q mc r) : L6 p q mc nx3 m nx
inductive L7 (p' q' : List Nat) (mc : Int) (R : Addr) (nx4 : Led) (j : Nat) (m : PySem.Str → Option Value) (nx : Led) : Prop
  | mk (vs : List Value) (kR : Nat) (res : Int) (x1 x2 x3 x4 : Tok) (h1 : nx = (R, listOf vs.toArray kR) :: nx4) (h2 : Has m [(PySem.Str.ofString "a", Value.str (tx p') x1), (PySem.Str.ofString "b", Value.str (tx q') x2), (PySem.Str.ofString "max_cost", Value.int mc x3), (PySem.Str.ofString "row", Value.ref R), (PySem.Str.ofString "result", Value.int res x4)]) (h3 : IntsAre vs ((List.range p'.length).map fun i => (D p' q' (i + 1) j : Int))) (h4 : res = (if j = 0 then 0 else (D p' q' p'.length j : Int))) (h5 : ∀ j' < j, ∃ i < p'.length, (D p' q' (i + 1) (j' + 1) : Int) ≤ mc) : L7 p' q' mc R nx4 j m nx
inductive L8 (p' q' : List Nat) (mc : Int) (I R : Addr) (oI : Obj) (nx4 : Led) (j : Nat) (i : Nat) (m : PySem.Str → Option Value) (nx : Led) : Prop
  | mk (vs : List Value) (kR : Nat) (dist res mn : Int) (x1 x2 x3 x4 x5 x6 x7 : Tok) (h1 : nx = (I, oI) :: (R, listOf vs.toArray kR) :: nx4) (h2 : Has m [(PySem.Str.ofString "a", Value.str (tx p') x1), (PySem.Str.ofString "b", Value.str (tx q') x2), (PySem.Str.ofString "max_cost", Value.int mc x3), (PySem.Str.ofString "row", Value.ref R), (PySem.Str.ofString "result", Value.int res x4), (PySem.Str.ofString "distance", Value.int dist x5), (PySem.Str.ofString "minimum", Value.int mn x6), (PySem.Str.ofString "bchar", Value.str (tx [q'.getD j 0]) x7)]) (h3 : IntsAre vs ((List.range p'.length).map fun i' => if i' < i then (D p' q' (i' + 1) (j + 1) : Int) else (D p' q' (i' + 1) j : Int))) (h4 : dist = (D p' q' i j : Int)) (h5 : res = (left p' q' i j : Int)) (h6 : (∀ i' < i, mn ≤ (D p' q' (i' + 1) (j + 1) : Int))) (h7 : (mn = 9223372036854775807 ∨ ∃ i' < i, mn = (D p' q' (i' + 1) (j + 1) : Int))) : L8 p' q' mc I R oI nx4 j i m nx
theorem lev_ok (w : World) (a b : List Nat) (mc : Int) (t u v : Tok) (ha : ∀ c ∈ a, c = 97 ∨ c = 98 ∨ c = 99) (hb : ∀ c ∈ b, c = 97 ∨ c = 98 ∨ c = 99) (hla : a.length ≤ 8) (hlb : b.length ≤ 8) (hmc : 0 ≤ mc) (hmc' : mc ≤ 100) :
   Con w 4 63 [.str (tx a) t, .str (tx b) u, .int mc v] [] (fun r led' => led' = [] ∧ ∃ z tz, r = .int z tz ∧ LevR a b mc z) := by
  w_top off
  unfold Con
  k_fill
  intro mean mg mb dp un gd cn cs ad ccd cl outer A₀ base h₀ L m s Q E rest B F X N T hk ho hdp hun ret
  simp only [List.nil_append] at N
  have hal := tx_length a
  have hbl := tx_length b
  refine wpAny_call ?_
  k_dflt cell_enter
  k_steps
  · rename (tx a == tx b) = true => he
    exact ret _ [] _ _ (by assumption) (by assumption) off_nil ⟨rfl, _, _, rfl, .inl ⟨tx_inj (eq_of_beq he), rfl⟩⟩
  rename (tx a == tx b) = false => hne
  have hab0 : a ≠ b := fun h => by rw [h] at hne; simp at hne
  refine ⟨?_⟩
  rename Fr _ _ _ _ => F1
  rename News _ _ _ _ => N1
  refine while_led (n₀ := a.length) (L1 a b mc rest)
    (L2 a b mc rest) F1 N1 ?j0 ?turn ?done
  case j0 => exact ⟨rfl, 0, _, _, _, _, _, ps_cons rfl (ps_cons rfl (ps_cons rfl (ps_cons rfl ps_nil))), rfl, rfl, Nat.zero_le _, Nat.zero_le _, rfl⟩
  case turn =>
    rintro n m₁ nx h tk F2 N2 ⟨rfl, k, _, t1, t2, t3, t4, hm, rfl, rfl, hka, hkb, hab⟩
    replace F2 := fr_out hm F2
    clear F1 N1 hm
    k_steps
    · refine ⟨?_⟩
      have hk1 : k < a.length := by (first | lia | omega)
      have hk2 : k < b.length := by (first | lia | omega)
      refine item_text rfl hk1 (by (first | lia | omega)) ?_
      intro _ _
      dsimp only
      k_steps
      refine ⟨?_⟩
      refine item_text rfl hk2 (by (first | lia | omega)) ?_
      intro _ _
      dsimp only
      k_steps
      · rename (tx [_] == tx [_]) = true => he
        rw [tx_beq] at he
        have he' : a.getD k 0 = b.getD k 0 := by simpa using he
        exact WEnd.mk (by assumption) (by assumption) (a.length - (k + 1)) (by (first | lia | omega)) ⟨rfl, k + 1, _, _, _, _, _, ps_cons rfl (ps_cons rfl (ps_cons rfl (ps_cons rfl ps_nil))), rfl, rfl, hk1, hk2, take_more hab hk1 hk2 he'⟩
      · rename (tx [_] == tx [_]) = false => he
        rw [tx_beq] at he
        exact WOut.mk (by assumption) (by assumption) ⟨rfl, k, _, _, _, _, _, ps_cons rfl (ps_cons rfl (ps_cons rfl (ps_cons rfl ps_nil))), rfl, hka, hkb, hab, .inr (.inr ⟨hk1, hk2, by simpa using he⟩)⟩
    · exact WOut.mk (by assumption) (by assumption) ⟨rfl, k, _, _, _, _, _, ps_cons rfl (ps_cons rfl (ps_cons rfl (ps_cons rfl ps_nil))), rfl, hka, hkb, hab, .inr (.inl (List.length_eq_zero_iff.mp (by rw [List.length_drop]; (first | lia | omega))))⟩
    · exact WOut.mk (by assumption) (by assumption) ⟨rfl, k, _, _, _, _, _, ps_cons rfl (ps_cons rfl (ps_cons rfl (ps_cons rfl ps_nil))), rfl, hka, hkb, hab, .inl (List.length_eq_zero_iff.mp (by rw [List.length_drop]; (first | lia | omega)))⟩
  case done =>
    rintro m₁ nx h tk ⟨rfl, k, _, t1, t2, t3, t4, hm, rfl, hka, hkb, hab, htr⟩ F2 N2
    replace F2 := fr_out hm F2
    clear F1 N1 hm
    k_steps
    refine ⟨?_⟩
    have hlx : (a.drop k).length = a.length - k := List.length_drop ..
    have hly : (b.drop k).length = b.length - k := List.length_drop ..
    have htx := tx_length (a.drop k)
    have hty := tx_length (b.drop k)
    have hx8 : (a.drop k).length ≤ 8 := Nat.le_trans (by rw [hlx]; exact Nat.sub_le ..) hla
    have hy8 : (b.drop k).length ≤ 8 := Nat.le_trans (by rw [hly]; exact Nat.sub_le ..) hlb
    generalize hx : a.drop k = x at *
    generalize hy : b.drop k = y at *
    rename Fr _ _ _ _ => F1
    rename News _ _ _ _ => N1
    refine while_led (n₀ := x.length) (L3 x y mc nx)
      (L4 x y mc nx) F1 N1 ?j0 ?turn ?done
    case j0 =>
      exact ⟨rfl, 0, 0, _, _, _, _, ps_cons rfl (ps_cons rfl (ps_cons rfl (ps_cons rfl ps_nil))), rfl, rfl, Nat.zero_le _, Nat.zero_le _, by rw [Nat.sub_zero, Nat.sub_zero, List.drop_length, List.drop_length]⟩
    case turn =>
      rintro n m₂ nx' h' tk' F2 N2 ⟨rfl, j, z, u1, u2, u3, u4, hm, hz, rfl, hjx, hjy, hxy⟩
      replace F2 := fr_out hm F2
      clear F1 N1 hm htr hab hka hkb hlx hly hx hy hla hlb hal hbl
      have hzj : z - 1 = -(j : Int) - 1 := by rw [hz]
      have fin : ∀ {b₁ : Bool}, (Txt.item (tx x) (z - 1) == Txt.item (tx y) (z - 1)) = b₁ → j < x.length → j < y.length → (x.getD (x.length - 1 - j) 0 == y.getD (y.length - 1 - j) 0) = b₁ := by
        intro b₁ he h1 h2
        rw [hzj, item_tx_neg x h1, item_tx_neg y h2, tx_beq] at he
        simpa using he
      have hzc : (z = 0 ∧ j = 0) ∨ (z ≠ 0 ∧ 1 ≤ j) := by clear hjx hjy hxy fin htx hty; (first | lia | omega)
      rcases hzc with ⟨hz0, hj0⟩ | ⟨hz0, hj0⟩
      all_goals (try (subst hz0))
      all_goals (try have hzt : (z != 0) = true := by simpa using hz0)
      all_goals k_steps
      all_goals first
        | (rename (Txt.item _ _ == Txt.item _ _) = true => he
           have hk1 : j < x.length := by (first | lia | omega)
           have hk2 : j < y.length := by (first | lia | omega)
           have he' := fin he hk1 hk2
           exact WEnd.mk (by assumption) (by assumption) (x.length - (j + 1)) (by (first | lia | omega)) ⟨rfl, j + 1, _, _, _, _, _, ps_cons rfl (ps_cons rfl (ps_cons rfl (ps_cons rfl ps_nil))), by (first | lia | omega), rfl, hk1, hk2, drop_more hxy hk1 hk2 (beq_iff_eq.mp he')⟩)
        | (rename (Txt.item _ _ == Txt.item _ _) = false => he
           have hk1 : j < x.length := by (first | lia | omega)
           have hk2 : j < y.length := by (first | lia | omega)
           have he' := fin he hk1 hk2
           exact WOut.mk (by assumption) (by assumption) ⟨rfl, j, _, _, _, _, _, ps_cons rfl (ps_cons rfl (ps_cons rfl (ps_cons rfl ps_nil))), by (first | lia | omega), hjx, hjy, hxy, .inr (.inr ⟨hk1, hk2, by simpa using he'⟩)⟩)
        | exact WOut.mk (by assumption) (by assumption) ⟨rfl, j, _, _, _, _, _, ps_cons rfl (ps_cons rfl (ps_cons rfl (ps_cons rfl ps_nil))), by (first | lia | omega), hjx, hjy, hxy, .inl (by (first | lia | omega))⟩
        | exact WOut.mk (by assumption) (by assumption) ⟨rfl, j, _, _, _, _, _, ps_cons rfl (ps_cons rfl (ps_cons rfl (ps_cons rfl ps_nil))), by (first | lia | omega), hjx, hjy, hxy, .inr (.inl (by (first | lia | omega)))⟩
    case done =>
      rintro m₂ nx' h' tk' ⟨rfl, j, z, u1, u2, u3, u4, hm, hz, hjx, hjy, hxy, htr2⟩ F2 N2
      replace F2 := fr_out hm F2
      clear F1 N1 hm
      have htrim := trim_of hka hkb hab hx hy htr hjx hjy hxy htr2
      have hpl : (x.take (x.length - j)).length ≤ 8 := by rw [List.length_take]; exact Nat.le_trans (Nat.min_le_right ..) hx8
      have hql : (y.take (y.length - j)).length ≤ 8 := by rw [List.length_take]; exact Nat.le_trans (Nat.min_le_right ..) hy8
      have hpc : ∀ c ∈ x.take (x.length - j), c = 97 ∨ c = 98 ∨ c = 99 := fun c hc => ha c (List.mem_of_mem_drop (by rw [hx]; exact List.mem_of_mem_take hc))
      have hqc : ∀ c ∈ y.take (y.length - j), c = 97 ∨ c = 98 ∨ c = 99 := fun c hc => hb c (List.mem_of_mem_drop (by rw [hy]; exact List.mem_of_mem_take hc))
      refine cut_led 2 F2 (L5 x y j mc nx') ?c1 ?c2
      case c1 =>
        clear htrim hpl hql hpc hqc htr htr2 hxy hab hka hkb hlx hly hx hy hla hlb hal hbl
        dsimp only [List.take]
        have hzc : (z = 0 ∧ j = 0) ∨ (z ≠ 0 ∧ 1 ≤ j) := by clear hjx hjy htx hty; (first | lia | omega)
        rcases hzc with ⟨hz0, hj0⟩ | ⟨hz0, hj0⟩
        all_goals (try (subst hz0))
        all_goals (try (subst hj0))
        all_goals (try have hzt : (z != 0) = true := by simpa using hz0)
        all_goals k_steps
        · exact WOut.mk (by assumption) (by assumption) ⟨rfl, _, _, _, _, _, ps_cons rfl (ps_cons rfl (ps_cons rfl ps_nil)), by rw [Nat.sub_zero, List.take_length], by rw [Nat.sub_zero, List.take_length]⟩
        · exact WOut.mk (by assumption) (by assumption) ⟨rfl, _, _, _, _, _, ps_cons rfl (ps_cons rfl (ps_cons rfl ps_nil)), rfl, rfl⟩
      case c2 =>
        rintro m₃ nx3 h3 tk3 ⟨rfl, p, q, v1, v2, v3, hm, hp, hq⟩ F3 N3
        rw [← hp] at htrim hpl hpc
        rw [← hq] at htrim hql hqc
        clear hp hq htr2 hxy hjx hjy F2 N2 hz htr hx hy hlx hly htx hty hka hkb hab hx8 hy8
        replace F3 := fr_out hm F3
        clear hm
        have hpt := tx_length p
        have hqt := tx_length q
        dsimp only [List.drop]
        refine cut_led 3 F3 (L6 p q mc nx3) ?d1 ?d2
        case d1 =>
          dsimp only [List.take]
          have hret : ∀ (z : Int) (tz : Tok) (h' : Heap) (tk' : Nat), p.length = 0 ∨ q.length = 0 → z = 2 * (((tx p).length : Int) + ((tx q).length : Int)) → Fr h₀ L h' m → News h₀ L h' nx3 → Q (Value.int z tz) { s with heap := h', toks := tk' } := by
            intro z tz h' tk' h0 hz F' N'
            refine ret _ [] _ _ F' N' off_nil ⟨rfl, _, _, rfl, .inr ⟨hab0, p, q, htrim, .inl ⟨?_, ?_⟩⟩⟩
            · rcases h0 with h0 | h0
              · exact .inl (List.length_eq_zero_iff.mp h0)
              · exact .inr (List.length_eq_zero_iff.mp h0)
            · rw [hz, hpt, hqt]
          k_steps
          · have h1 : p ≠ [] := fun h => by subst h; simp at hpt; (first | lia | omega)
            have h2 : q ≠ [] := fun h => by subst h; simp at hqt; (first | lia | omega)
            exact WOut.mk (by assumption) (News.tl (by assumption)) ⟨rfl, q, p, _, _, _, ps_cons rfl (ps_cons rfl (ps_cons rfl ps_nil)), hqc, hpc, by (first | lia | omega), by (first | lia | omega), hpl, fun r hr => .inr ⟨h1, h2, .inl ⟨by (first | lia | omega), hr⟩⟩⟩
          · have h1 : p ≠ [] := fun h => by subst h; simp at hpt; (first | lia | omega)
            have h2 : q ≠ [] := fun h => by subst h; simp at hqt; (first | lia | omega)
            exact WOut.mk (by assumption) (by assumption) ⟨rfl, p, q, _, _, _, ps_cons rfl (ps_cons rfl (ps_cons rfl ps_nil)), hpc, hqc, by (first | lia | omega), by (first | lia | omega), hql, fun r hr => .inr ⟨h1, h2, .inr ⟨by (first | lia | omega), hr⟩⟩⟩
          · exact hret _ _ _ _ (.inr (by (first | lia | omega))) rfl (by assumption) (by assumption)
          · exact hret _ _ _ _ (.inl (by (first | lia | omega))) rfl (by assumption) (by assumption)
        case d2 =>
          rintro m₄ nx4 h4 tk4 ⟨rfl, p', q', w1, w2, w3, hm, hpc', hqc', hp1, hpq, hq8, hfin⟩ F4 N4
          clear F3 N3 hpc hqc hpl hql hpt hqt
          replace F4 := fr_out hm F4
          clear hm
          have hpt := tx_length p'
          have hqt := tx_length q'
          dsimp only [List.drop]
          have hfin2 : ∀ (z : Int) (tz : Tok) (h' : Heap) (tk' : Nat), LevD p' q' mc z → Fr h₀ L h' m → News h₀ L h' nx4 → Q (Value.int z tz) { s with heap := h', toks := tk' } := by
            intro z tz h' tk' hz F' N'
            exact ret _ [] _ _ F' N' off_nil ⟨rfl, _, _, rfl, .inr ⟨hab0, p, q, htrim, hfin _ hz⟩⟩
          clear hfin htrim ret
          k_steps
          · refine hfin2 _ _ _ _ (.inl ⟨by (first | lia | omega), rfl⟩) (by assumption) (by assumption)
          refine ⟨?_⟩
          rename IsRange _ _ _ _ _ _ _ _ => hrg
          rw [hpt] at hrg
          refine list_rng (n := p'.length) (by rfl) (by assumption) (by assumption) hrg ?_ ?_ (by (first | lia | omega)) ?_
          · exact (rng2 hp1 (by (first | lia | omega))).1
          · exact (rng2 hp1 (by (first | lia | omega))).2
          clear hrg
          intro R us kR h5 tk5 F5 N5 hR hI5
          dsimp only
          k_steps
          refine ⟨?_⟩
          rename Fr _ _ _ _ => F6
          rename News _ _ _ _ => N6
          with_unfolding_all refine' For_invVF F6 ?k1 ?k2 ?_
          case k1 => exact rfl
          case k2 => exact rfl
          k_steps
          refine ⟨?_⟩
          rename IsRange _ _ _ _ _ _ _ _ => hrg
          refine iter_rng0 (n := q'.length) (L7 p' q' mc R nx4)
            (by rfl) hrg (by rw [hqt]) (by (first | lia | omega)) (by assumption) (by assumption) ?j0 ?turn ?done
          case j0 =>
            refine ⟨us, kR, 0, _, _, _, _, rfl, ps_cons rfl (ps_cons rfl (ps_cons rfl (ps_cons rfl (ps_cons rfl ps_nil)))), ?_, rfl, fun _ h => absurd h (Nat.not_lt_zero _)⟩
            have e : ((List.range p'.length).map fun i => (D p' q' (i + 1) 0 : Int)) = (List.range p'.length).map fun (i : Nat) => 2 + (i : Int) * 2 := List.map_congr_left fun i _ => by rw [D_col]; (first | lia | omega)
            rw [e]; exact hI5
          case done =>
            rintro m₅ nx5 h7 tk7 ⟨vs, kR', res, x1, x2, x3, x4, rfl, hm, hI, hres, hrow⟩ F7 N7
            replace F7 := fr_out hm F7
            clear hm hrg hI5
            try clear F6 N6
            try clear F5 N5
            k_steps
            refine hfin2 _ _ _ _ (.inr ⟨by (first | lia | omega), .inr ⟨hrow, ?_⟩⟩) (by assumption) (News.tl (by assumption))
            rw [hres, if_neg (by (first | lia | omega))]
          case turn =>
            rintro j tj m₅ nx5 h7 tk7 I oI hj ⟨vs, kR', res, x1, x2, x3, x4, rfl, hm, hI, hres, hrow⟩ hnI F7 N7
            replace F7 := fr_in hm F7
            have hRI : R ≠ I := hnI _ (List.mem_cons_self ..)
            have hRn : ∀ p ∈ nx4, p.1 ≠ R := fun p hp => Nat.ne_of_lt (hR p hp)
            clear hm hrg hI5
            try clear F6 N6
            try clear F5 N5
            k_steps
            refine ⟨?_⟩
            refine item_text rfl hj (by (first | lia | omega)) ?_
            intro _ _
            k_steps
            refine ⟨?_⟩
            rename Fr _ _ _ _ => F8
            rename News _ _ _ _ => N8
            with_unfolding_all refine' For_invVF F8 ?k1 ?k2 ?_
            case k1 => exact rfl
            case k2 => exact rfl
            k_steps
            refine ⟨?_⟩
            rename IsRange _ _ _ _ _ _ _ _ => hrg
            refine iter_rng0 (n := p'.length) (L8 p' q' mc I R oI nx4 j)
              (by rfl) hrg (by rw [hpt]) (by (first | lia | omega)) (by assumption) (by assumption) ?i0 ?iturn ?idone
            case i0 =>
              refine ⟨vs, kR', _, _, _, _, _, _, _, _, _, _, rfl, ps_cons rfl (ps_cons rfl (ps_cons rfl (ps_cons rfl (ps_cons rfl (ps_cons rfl (ps_cons rfl (ps_cons rfl ps_nil))))))), ?_, ?_, ?_, fun _ h => absurd h (Nat.not_lt_zero _), .inl rfl⟩
              · simpa using hI
              · rw [D_zero]; (first | lia | omega)
              · unfold left; rw [if_pos rfl]; (first | lia | omega)
            case idone =>
              rintro m₆ nx6 h8 tk8 ⟨vs, kR'', dist, res, mn, x1, x2, x3, x4, x5, x6, x7, rfl, hm, hI, hdist, hres, hmn, hmn2⟩ F9 N9
              replace F9 := fr_out hm F9
              clear hm hrg
              try clear F8 N8
              k_steps
              · refine hfin2 _ _ _ _ (.inr ⟨by (first | lia | omega), .inl ⟨⟨j, hj, fun i hi => ?_⟩, rfl⟩⟩) (by assumption) (News.tl (News.tl (by assumption)))
                have := hmn i hi; (first | lia | omega)
              · refine TEnd.mk (by assumption) (by assumption) (fun p hp => ?_) ⟨vs, kR'', _, _, _, _, _, rfl, ps_cons rfl (ps_cons rfl (ps_cons rfl (ps_cons rfl (ps_cons rfl ps_nil)))), ?_, ?_, ?_⟩
                · rcases List.mem_cons.mp hp with rfl | hp
                  · exact hRI
                  · exact hnI p (List.mem_cons_of_mem _ hp)
                · have e : ((List.range p'.length).map fun i' => if i' < p'.length then (D p' q' (i' + 1) (j + 1) : Int) else (D p' q' (i' + 1) j : Int)) = (List.range p'.length).map fun i' => (D p' q' (i' + 1) (j + 1) : Int) := List.map_congr_left fun i' hi' => by rw [if_pos (List.mem_range.mp hi')]
                  rw [← e]; exact hI
                · rw [hres, if_neg (by (first | lia | omega))]; unfold left; rw [if_neg (by (first | lia | omega))]
                · intro j' hj'
                  by_cases hjj : j' < j
                  · exact hrow j' hjj
                  · obtain rfl : j' = j := by (first | lia | omega)
                    rcases hmn2 with h | ⟨i', hi', h⟩
                    · (first | lia | omega)
                    · exact ⟨i', hi', by (first | lia | omega)⟩
            case iturn =>
              rintro i ti m₆ nx6 h8 tk8 I2 oI2 hi ⟨vs, kR'', dist, res, mn, x1, x2, x3, x4, x5, x6, x7, rfl, hm, hI, hdist, hres, hmn, hmn2⟩ hnI2 F9 N9
              replace F9 := fr_in hm F9
              clear hm hrg
              try clear F8 N8
              k_steps
              refine ⟨?_⟩
              refine item_text rfl hi (by (first | lia | omega)) ?_
              intro _ _
              dsimp only
              k_steps
              refine ⟨?_⟩
              have hc1 : q'.getD j 0 = 97 ∨ q'.getD j 0 = 98 ∨ q'.getD j 0 = 99 := hqc' _ (getD_mem hj)
              have hc2 : p'.getD i 0 = 97 ∨ p'.getD i 0 = 98 ∨ p'.getD i 0 = 99 := hpc' _ (getD_mem hi)
              with_unfolding_all refine' call0 (subst_ok w _ _ _ _ hc1 hc2) ?cB ?cF ?cX ?cN ?cT ?ck ?cd ?cu ?_
              case cB => k_asm
              case cF => k_asm
              case cX => k_asm
              case cN => k_asm
              case cT => k_asm
              case ck => rfl
              case cd => ktr_room
              case cu => ktr_units
              rintro _ h9 tk9 F10 N10 ⟨tsub, rfl⟩
              dsimp only
              k_steps
              refine ⟨?_⟩
              refine item_ints (x := (D p' q' (i + 1) j : Int)) (by assumption) (by k_mem) hI (by (first | lia | omega)) (by (first | lia | omega)) (by simp [hi]) ?_
              intro _
              k_steps
              refine ⟨?_⟩
              have hvl : vs.length = p'.length := by rw [hI.length]; simp
              refine set_led (by assumption) (by assumption) (by k_mem) (by (first | lia | omega)) (by (first | lia | omega)) (by (first | lia | omega)) ?_
              intro h10 n10 F11 N11
              have hRI2 : R ≠ I2 := hnI2 _ (List.mem_cons_of_mem _ (List.mem_cons_self ..))
              have hII2 : I ≠ I2 := hnI2 _ (List.mem_cons_self ..)
              replace N11 := N11 ((I2, oI2) :: (I, oI) :: (R, listOf _ n10) :: nx4) (by
                intro p hp
                rcases List.mem_cons.mp hp with rfl | hp
                · exact .inr ⟨by k_mem, fun h => hRI2 h.symm⟩
                · rcases List.mem_cons.mp hp with rfl | hp
                  · exact .inr ⟨by k_mem, fun h => hRI h.symm⟩
                  · rcases List.mem_cons.mp hp with rfl | hp
                    · exact .inl rfl
                    · exact .inr ⟨by exact List.mem_cons_of_mem _ (List.mem_cons_of_mem _ (List.mem_cons_of_mem _ hp)), hRn p hp⟩)
              dsimp only
              have hcell := cell_eq hdist hres
              have hI' : ∀ (V : Int) (t' : Tok), V = (D p' q' (i + 1) (j + 1) : Int) → IntsAre (vs.set ((i : Int)).toNat (Value.int V t')) ((List.range p'.length).map fun i' => if i' < i + 1 then (D p' q' (i' + 1) (j + 1) : Int) else (D p' q' (i' + 1) j : Int)) := by
                rintro V t' rfl
                rw [← row_set hi]
                exact ints_set hI i
              have hnn : ∀ o : Obj, ∀ p ∈ ((I, oI) :: (R, o) :: nx4 : Led), p.1 ≠ I2 := by
                intro o p hp
                rcases List.mem_cons.mp hp with rfl | hp
                · exact hII2
                · rcases List.mem_cons.mp hp with rfl | hp
                  · exact hRI2
                  · exact hnI2 p (List.mem_cons_of_mem _ (List.mem_cons_of_mem _ hp))
              k_steps
              · rename _ < mn => hlt
                rw [hcell] at hlt
                refine TEnd.mk (by assumption) (by assumption) (hnn _) ⟨_, n10, _, _, _, _, _, _, _, _, _, _, rfl, ps_cons rfl (ps_cons rfl (ps_cons rfl (ps_cons rfl (ps_cons rfl (ps_cons rfl (ps_cons rfl (ps_cons rfl ps_nil))))))), hI' _ _ hcell, rfl, ?_, ?_, ?_⟩
                · rw [left_succ]; exact hcell
                · intro i' hi'
                  rw [hcell]
                  by_cases h : i' < i
                  · have := hmn i' h; (first | lia | omega)
                  · obtain rfl : i' = i := by (first | lia | omega)
                    exact Int.le_refl _
                · exact .inr ⟨i, Nat.lt_succ_self _, hcell⟩
              · rename ¬ (_ < mn) => hlt
                rw [hcell] at hlt
                refine TEnd.mk (by assumption) (by assumption) (hnn _) ⟨_, n10, _, _, _, _, _, _, _, _, _, _, rfl, ps_cons rfl (ps_cons rfl (ps_cons rfl (ps_cons rfl (ps_cons rfl (ps_cons rfl (ps_cons rfl (ps_cons rfl ps_nil))))))), hI' _ _ hcell, rfl, ?_, ?_, ?_⟩
                · rw [left_succ]; exact hcell
                · intro i' hi'
                  by_cases h : i' < i
                  · exact hmn i' h
                  · obtain rfl : i' = i := by (first | lia | omega)
                    (first | lia | omega)
                · rcases hmn2 with h | ⟨i', h1, h2⟩
                  · exact .inl h
                  · exact .inr ⟨i', by (first | lia | omega), h2⟩
end lev
end Mine
end TLLev
section TLTup
open PySem PySem.W PyProof.Rows PySem.Calls PySem.Spec
set_option maxRecDepth 100000
set_option maxHeartbeats 8000000
namespace Mine
/-- what the heap holds: how many, and the text -/
abbrev Ent := Int × List Nat
def ltE (a b : Ent) : Bool := if a.1 = b.1 then (if a.2 = b.2 then false else decide (a.2 < b.2)) else decide (a.1 < b.1)
def tupO (e : Ent) (t u : Tok) (n : Nat) : Obj := { cls := .type "tuple", data := .seq #[.int e.1 t, .str (tx e.2) u] n }
section
variable {prog : Program} {w : World} {A : Around} {E : Value → Shared → Prop} {s : Shared}
theorem eqB_int {i j : Int} {t u : Tok} {Q : Bool → Shared → Prop} (h : Q (decide (i = j)) s) : wpAny (model prog w) A (eqBool (.int i t) (.int j u)) Q E s := by
  refine wpAny_eqBool_int ?_
  have e : (i == j) = decide (i = j) := by
    by_cases h : i = j <;> simp [h]
  rw [e]; exact h
theorem tup_lt_tree {a b : Addr} {x y : Ent} {t u t' u' : Tok} {n n' : Nat} {P : PySem.Fin → Shared → Prop} (ha : s.heap.get? a = some (tupO x t u n)) (hb : s.heap.get? b = some (tupO y t' u' n')) (h : P (.done (.ret (.bool (ltE x y)))) s) :
    wpAny (model prog w) A (Builtin.«tuple.__lt__» ⟨[.ref a, .ref b], []⟩) P E s := by
  show wpAny _ _ (isInstance (.ref b) (.type "tuple") >>= _) _ _ s
  refine wpAny_bind (wpAny_isInstance (T := "tuple") ⟨_, hb, rfl⟩ isSubtype_tuple_tuple ?_)
  simp only [Bool.not_true, Bool.false_eq_true, if_false]
  refine wpAny_bind (wpAny_tupleItemsOf ha rfl ?_)
  refine wpAny_bind (wpAny_tupleItemsOf hb rfl ?_)
  refine wpAny_bind ?_
  show wpAny _ _ (forIn [((Value.int x.1 t), (Value.int y.1 t')), (.str (tx x.2) u, .str (tx y.2) u')] _ _) _ _ s
  rw [List.forIn_cons]
  refine wpAny_bind (wpAny_bind (eqB_int ?_))
  by_cases e1 : x.1 = y.1
  · rw [decide_eq_true e1]
    simp only [Bool.not_true, Bool.false_eq_true, if_false]
    refine wpAny_pure ?_
    dsimp only
    rw [List.forIn_cons]
    refine wpAny_bind (wpAny_bind (eqBool_str ?_))
    by_cases e2 : x.2 = y.2
    · have e3 : (tx x.2 == tx y.2) = true := by rw [e2]; simp
      rw [e3]
      simp only [Bool.not_true, Bool.false_eq_true, if_false]
      refine wpAny_pure ?_
      dsimp only
      rw [List.forIn_nil]
      refine wpAny_pure ?_
      have e4 : ltE x y = false := by unfold ltE; rw [if_pos e1, if_pos e2]
      rw [e4] at h
      exact wpAny_pure h
    · have e3 : (tx x.2 == tx y.2) = false := by
        rw [beq_eq_false_iff_ne]; exact fun e => e2 (tx_inj e)
      rw [e3]
      simp only [Bool.not_false, if_true]
      have e4 : ltE x y = decide (x.2 < y.2) := by unfold ltE; rw [if_pos e1, if_neg e2]
      rw [e4] at h
      refine wpAny_bind (wpAny_rule (wpAny_bind ?_))
      refine lt_str (t := u) (u := u') ?_
      exact wpAny_bind (wpAny_pure (wpAny_pure (wpAny_pure (wpAny_pure h))))
  · rw [decide_eq_false e1]
    simp only [Bool.not_false, if_true]
    have e4 : ltE x y = decide (x.1 < y.1) := by unfold ltE; rw [if_neg e1]
    rw [e4] at h
    refine wpAny_bind (wpAny_rule (wpAny_bind ?_))
    refine lt_int (t := t) (u := t') ?_
    exact wpAny_bind (wpAny_pure (wpAny_pure (wpAny_pure (wpAny_pure h))))
theorem tup_lt {a b : Addr} {x y : Ent} {t u t' u' : Tok} {n n' : Nat} {Q : Value → Shared → Prop} (hu : A.units < cLine) (ha : s.heap.get? a = some (tupO x t u n)) (hb : s.heap.get? b = some (tupO y t' u' n')) (h : Q (.bool (ltE x y)) s) :
    wpAny (model prog w) A (compareOp .Lt (.ref a) (.ref b)) Q E s := by
  have ta : s.TypeIs (.ref a) "tuple" := ⟨_, ha, rfl⟩
  have tb : s.TypeIs (.ref b) "tuple" := ⟨_, hb, rfl⟩
  show wpAny _ _ (richCompare .Lt (.ref a) (.ref b)) _ _ _
  exact wpAny_richCompare_same_room (op := .Lt) ta tb F.slot_tuple_lt (wpAny_call_entry F.slot_tuple_lt ta F.entry_tuple_lt (tup_lt_tree ha hb ⟨_, rfl, (fun e => nomatch e), h⟩) (F.args_tuple_lt_2 _ _)) hu
end
end Mine
end TLTup
section TLPureH
open PySem PySem.W PyProof.Rows PySem.Calls PySem.Spec
namespace Mine
section heap
theorem ltE_iff (a b : Ent) : ltE a b = true ↔ a.1 < b.1 ∨ (a.1 = b.1 ∧ a.2 < b.2) := by
  unfold ltE
  by_cases h : a.1 = b.1
  · by_cases h2 : a.2 = b.2
    · simp [h, h2, List.lt_irrefl]
    · simp [h, h2]
  · simp [h]
def leE (a b : Ent) : Prop := ltE b a = false
theorem leE_iff (a b : Ent) : leE a b ↔ a.1 < b.1 ∨ (a.1 = b.1 ∧ a.2 ≤ b.2) := by
  unfold leE
  rw [← Bool.not_eq_true, ltE_iff]
  constructor
  · intro h
    by_cases h1 : a.1 < b.1
    · exact .inl h1
    · refine .inr ⟨by (first | lia | omega), ?_⟩
      by_cases h2 : b.2 < a.2
      · exact absurd (.inr ⟨by (first | lia | omega), h2⟩) h
      · exact List.not_lt.mp h2
  · rintro (h | ⟨h1, h2⟩) (h3 | ⟨h3, h4⟩)
    · (first | lia | omega)
    · (first | lia | omega)
    · (first | lia | omega)
    · exact absurd h4 (List.not_lt.mpr h2)
theorem leE_refl (a : Ent) : leE a a := (leE_iff _ _).mpr (.inr ⟨rfl, List.le_refl _⟩)
theorem leE_trans {a b c : Ent} (h1 : leE a b) (h2 : leE b c) : leE a c := by
  rw [leE_iff] at *
  rcases h1 with h1 | ⟨h1, h3⟩ <;> rcases h2 with h2 | ⟨h2, h4⟩
  · exact .inl (by (first | lia | omega))
  · exact .inl (by (first | lia | omega))
  · exact .inl (by (first | lia | omega))
  · exact .inr ⟨by (first | lia | omega), List.le_trans h3 h4⟩
theorem leE_of_lt {a b : Ent} (h : ltE a b = true) : leE a b := by
  rw [leE_iff]; rw [ltE_iff] at h
  rcases h with h | ⟨h, h2⟩
  · exact .inl h
  · exact .inr ⟨h, List.le_of_lt h2⟩
theorem leE_antisymm {a b : Ent} (h1 : leE a b) (h2 : leE b a) : a = b := by
  rw [leE_iff] at *
  rcases h1 with h1 | ⟨h1, h3⟩ <;> rcases h2 with h2 | ⟨h2, h4⟩
  · (first | lia | omega)
  · (first | lia | omega)
  · (first | lia | omega)
  · exact Prod.ext h1 (List.le_antisymm h3 h4)
abbrev gE (es : List Ent) (i : Nat) : Ent := es.getD i (0, [])
theorem gE_set {es : List Ent} {p : Nat} {x : Ent} (hp : p < es.length) (i : Nat) : gE (es.set p x) i = if i = p then x else gE es i := by
  unfold gE
  rw [List.getD_eq_getElem?_getD, List.getElem?_set]
  by_cases h : p = i
  · subst h; simp [hp]
  · rw [if_neg h, if_neg (fun e => h e.symm), ← List.getD_eq_getElem?_getD]
def Heaped (es : List Ent) : Prop := ∀ i, 0 < i → i < es.length → leE (gE es ((i - 1) / 2)) (gE es i)
/-- a heap but for the place p, which may be too small for its parent -/
def HeapX (es : List Ent) (p : Nat) : Prop := (∀ i, 0 < i → i < es.length → i ≠ p → leE (gE es ((i - 1) / 2)) (gE es i)) ∧ ∀ i, 0 < i → i < es.length → (i - 1) / 2 = p → 0 < p → leE (gE es ((p - 1) / 2)) (gE es i)
/-- a heap but for the place p, which may be anything -/
def HeapY (es : List Ent) (p : Nat) : Prop := (∀ i, 0 < i → i < es.length → i ≠ p → (i - 1) / 2 ≠ p → leE (gE es ((i - 1) / 2)) (gE es i)) ∧ ∀ i, 0 < i → i < es.length → (i - 1) / 2 = p → 0 < p → leE (gE es ((p - 1) / 2)) (gE es i)
theorem HeapX.done {es : List Ent} {p : Nat} (h : HeapX es p) (hp : p = 0 ∨ leE (gE es ((p - 1) / 2)) (gE es p)) : Heaped es := fun i h0 hi => by
  by_cases e : i = p
  · subst e
    rcases hp with rfl | hp
    · (first | lia | omega)
    · exact hp
  · exact h.1 i h0 hi e
/-- the step up: the place takes its parent's item -/
theorem HeapX.step {es : List Ent} {p : Nat} {x : Ent} (hp : p < es.length) (h0 : 0 < p) (h : HeapX (es.set p x) p) (hlt : ltE x (gE es ((p - 1) / 2)) = true) : HeapX ((es.set p (gE es ((p - 1) / 2))).set ((p - 1) / 2) x) ((p - 1) / 2) := by
  have hq : (p - 1) / 2 < (es.set p (gE es ((p - 1) / 2))).length := by simp; (first | lia | omega)
  have hle := leE_of_lt hlt
  refine ⟨fun i h1 h2 h3 => ?_, fun i h1 h2 h3 h4 => ?_⟩
  · simp only [List.length_set] at h2
    rw [gE_set hq, gE_set hq, gE_set hp, gE_set hp, if_neg h3]
    by_cases e : i = p
    · subst e; rw [if_pos rfl, if_pos rfl]; exact hle
    · rw [if_neg e]
      have := h.1 i h1 (by simpa using h2) e
      rw [gE_set hp, gE_set hp, if_neg e] at this
      by_cases e2 : (i - 1) / 2 = (p - 1) / 2
      · rw [if_pos e2]
        rw [e2, if_neg (by (first | lia | omega))] at this
        exact leE_trans hle this
      · rw [if_neg e2]
        by_cases e3 : (i - 1) / 2 = p
        · rw [if_pos e3]
          have := h.2 i h1 (by simpa using h2) e3 h0
          rw [gE_set hp, gE_set hp, if_neg e, if_neg (by (first | lia | omega))] at this
          exact this
        · rw [if_neg e3]
          rw [if_neg e3] at this
          exact this
  · simp only [List.length_set] at h2
    have hb : leE (gE es (((p - 1) / 2 - 1) / 2)) (gE es ((p - 1) / 2)) := by
      have := h.1 ((p - 1) / 2) h4 (by simp; (first | lia | omega)) (by (first | lia | omega))
      rw [gE_set hp, gE_set hp, if_neg (by (first | lia | omega)), if_neg (by (first | lia | omega))] at this
      exact this
    rw [gE_set hq, gE_set hq, gE_set hp, gE_set hp, if_neg (by (first | lia | omega)), if_neg (by (first | lia | omega)), if_neg (by (first | lia | omega))]
    by_cases e : i = p
    · rw [if_pos e]; exact hb
    · rw [if_neg e]
      have := h.1 i h1 (by simpa using h2) e
      rw [gE_set hp, gE_set hp, if_neg e, if_neg (by (first | lia | omega)), h3] at this
      exact leE_trans hb this
theorem perm_step {es : List Ent} {p q : Nat} {x : Ent} (hp : p < es.length) (hq : q < es.length) (hne : q ≠ p) : ((es.set p (gE es q)).set q x).Perm (es.set p x) := by
  have key : ∀ (l : List Ent) (a b : Nat), a < b → b < l.length → ∀ x y : Ent, ((l.set a x).set b y).Perm ((l.set a y).set b x) := by
    intro l
    induction l with
    | nil => intro a b _ h; simp at h
    | cons c l ih =>
      intro a b hab hb x y
      cases b with
      | zero => (first | lia | omega)
      | succ b =>
        cases a with
        | zero =>
          simp only [List.set_cons_zero, List.set_cons_succ]
          have hb' : b < l.length := by simpa using hb
          have k2 : ∀ (l : List Ent) (b : Nat), b < l.length → ∀ x y : Ent, (x :: l.set b y).Perm (y :: l.set b x) := by
            intro l
            induction l with
            | nil => intro b h; simp at h
            | cons d l ih =>
              intro b hb x y
              cases b with
              | zero => simp only [List.set_cons_zero]; exact List.Perm.swap _ _ _
              | succ b =>
                simp only [List.set_cons_succ]
                exact (List.Perm.swap _ _ _).trans (((ih b (by simpa using hb) x y).cons d).trans (List.Perm.swap _ _ _))
          exact k2 l b hb' x y
        | succ a =>
          simp only [List.set_cons_succ]
          exact (ih a b (by (first | lia | omega)) (by simpa using hb) x y).cons c
  have e : es.set p x = (es.set p x).set q (gE es q) := by
    apply List.ext_getElem?
    intro i
    rw [List.getElem?_set (l := es.set p x), List.length_set]
    by_cases h : q = i
    · subst h
      rw [if_pos rfl, if_pos hq, List.getElem?_set, if_neg (fun e => hne e.symm)]
      simp [gE, hq]
    · rw [if_neg h]
  rw [e]
  rcases Nat.lt_or_gt_of_ne hne with h | h
  · have e1 : (es.set p (gE es q)).set q x = (es.set q x).set p (gE es q) := List.set_comm _ _ (by (first | lia | omega))
    have e2 : (es.set p x).set q (gE es q) = (es.set q (gE es q)).set p x := List.set_comm _ _ (by (first | lia | omega))
    rw [e1, e2]
    exact key es q p h hp x (gE es q)
  · exact key es p q h hq (gE es q) x
/-- the step down: the place takes its lesser child's item -/
theorem HeapY.step {es : List Ent} {p c : Nat} {x : Ent} (hc : c < es.length) (hpar : (c - 1) / 2 = p) (h0 : 0 < c) (h : HeapY (es.set p x) p) (hmin : ∀ i, 0 < i → i < es.length → (i - 1) / 2 = p → leE (gE es c) (gE es i)) : HeapY ((es.set p (gE es c)).set c x) c := by
  have hp : p < es.length := by (first | lia | omega)
  have hq : c < (es.set p (gE es c)).length := by simpa using hc
  refine ⟨fun i h1 h2 h3 h4 => ?_, fun i h1 h2 h3 h4 => ?_⟩
  · simp only [List.length_set] at h2
    rw [gE_set hq, gE_set hq, gE_set hp, gE_set hp, if_neg h3, if_neg h4]
    by_cases e : i = p
    · subst e
      rw [if_pos rfl, if_neg (by (first | lia | omega))]
      have := h.2 c h0 (by simpa using hc) hpar h1
      rw [gE_set hp, gE_set hp, if_neg (by (first | lia | omega)), if_neg (by (first | lia | omega))] at this
      exact this
    · rw [if_neg e]
      by_cases e2 : (i - 1) / 2 = p
      · rw [if_pos e2]; exact hmin i h1 h2 e2
      · rw [if_neg e2]
        have := h.1 i h1 (by simpa using h2) e e2
        rw [gE_set hp, gE_set hp, if_neg e, if_neg e2] at this
        exact this
  · simp only [List.length_set] at h2
    rw [gE_set hq, gE_set hq, gE_set hp, gE_set hp, hpar, if_neg (by (first | lia | omega)), if_pos rfl, if_neg (by (first | lia | omega)), if_neg (by (first | lia | omega))]
    have := h.1 i h1 (by simpa using h2) (by (first | lia | omega)) (by (first | lia | omega))
    rw [gE_set hp, gE_set hp, if_neg (by (first | lia | omega)), if_neg (by (first | lia | omega)), h3] at this
    exact this
theorem HeapY.leaf {es : List Ent} {p : Nat} (h : HeapY es p) (hl : es.length ≤ 2 * p + 1) : HeapX es p := ⟨fun i h0 hi hp => h.1 i h0 hi hp (by (first | lia | omega)), h.2⟩
theorem Heaped.least {es : List Ent} (h : Heaped es) : ∀ i, i < es.length → leE (gE es 0) (gE es i) := by
  intro i
  induction i using Nat.strongRecOn with
  | _ i ih =>
    intro hi
    by_cases h0 : i = 0
    · subst h0; exact leE_refl _
    · exact leE_trans (ih ((i - 1) / 2) (by (first | lia | omega)) (by (first | lia | omega))) (h i (by (first | lia | omega)) hi)
theorem heap_push {es : List Ent} (x : Ent) (h : Heaped es) : HeapX (es ++ [x]) es.length := by
  have g1 : ∀ i, i < es.length → gE (es ++ [x]) i = gE es i := fun i hi => by unfold gE; rw [List.getD_eq_getElem?_getD, List.getElem?_append_left hi, ← List.getD_eq_getElem?_getD]
  refine ⟨fun i h1 h2 h3 => ?_, fun i h1 h2 h3 h4 => ?_⟩
  · simp only [List.length_append, List.length_singleton] at h2
    rw [g1 i (by (first | lia | omega)), g1 _ (by (first | lia | omega))]
    exact h i h1 (by (first | lia | omega))
  · simp only [List.length_append, List.length_singleton] at h2
    (first | lia | omega)
theorem heap_top {es : List Ent} (x : Ent) (h : Heaped es) : HeapY ((es.take (es.length - 1)).set 0 x) 0 := by
  refine ⟨fun i h1 h2 h3 h4 => ?_, fun i h1 h2 h3 h4 => absurd h4 (Nat.lt_irrefl _)⟩
  have hl : (es.take (es.length - 1)).length = es.length - 1 := by rw [List.length_take, Nat.min_eq_left (Nat.sub_le ..)]
  rw [List.length_set, hl] at h2
  have h5 : (i - 1) / 2 < es.length - 1 := Nat.lt_of_le_of_lt (Nat.le_trans (Nat.div_le_self ..) (Nat.sub_le ..)) h2
  have h0 : 0 < (es.take (es.length - 1)).length := by rw [hl]; exact Nat.lt_trans h1 h2
  have g1 : ∀ i, i < es.length - 1 → gE (es.take (es.length - 1)) i = gE es i := fun i hi => by unfold gE; rw [List.getD_eq_getElem?_getD, List.getElem?_take_of_lt hi, ← List.getD_eq_getElem?_getD]
  rw [gE_set h0, gE_set h0, if_neg h3, if_neg h4, g1 i h2, g1 _ h5]
  exact h i h1 (Nat.lt_of_lt_of_le h2 (Nat.sub_le ..))
end heap
end Mine
end TLPureH
section TLSift
open PySem PySem.W PyProof.Rows PySem.Calls PySem.Spec
set_option maxRecDepth 100000
set_option maxHeartbeats 1000000
namespace Mine
section sift
/-- the values are the entries' tuples -/
def TupsA (tups : Led) (vs : List Value) (es : List Ent) : Prop := vs.length = es.length ∧ ∀ i, i < es.length → ∃ a t u n, vs[i]? = some (.ref a) ∧ (a, tupO (gE es i) t u n) ∈ tups
theorem TupsA.set {tups : Led} {vs : List Value} {es : List Ent} {p : Nat} {a : Addr} {x : Ent} {t u : Tok} {n : Nat} (h : TupsA tups vs es) (hp : p < es.length) (ha : (a, tupO x t u n) ∈ tups) : TupsA tups (vs.set p (.ref a)) (es.set p x) := by
  refine ⟨by simp [h.1], fun i hi => ?_⟩
  rw [gE_set hp]
  by_cases e : i = p
  · subst e
    refine ⟨a, t, u, n, ?_, by rw [if_pos rfl]; exact ha⟩
    rw [List.getElem?_set, if_pos rfl, if_pos (by rw [h.1]; exact hp)]
  · obtain ⟨b, t', u', n', h1, h2⟩ := h.2 i (by simpa using hi)
    refine ⟨b, t', u', n', ?_, by rw [if_neg e]; exact h2⟩
    rw [List.getElem?_set, if_neg (fun h => e h.symm)]
    exact h1
theorem callL {w : World} {d : Nat} {f : Addr} {vs : List Value} {mean : ExcName → Option Value} {mg mb : PySem.Str → Option Value} {dp un : Nat} {gd : Option (List Code)} {cn : PySem.Str} {cs : Scope} {a : Addr} {ccd : Value} {cl : List (PySem.Str × Addr)} {outer : List Env} {A₀ : Around} {base h₀ : Heap} {L : Addr} {m : PySem.Str → Option Value} {s : Shared} {Q E : Value → Shared → Prop} {led rest : Led} {Out : Value → Led → Prop} (C : Con w d f vs led Out) (B : Below A₀ base outer h₀) (F : Fr h₀ L s.heap m) (X : (hd.heap_39 w.params).In h₀) (N : News h₀ L s.heap (led ++ rest)) (T : Top hd.view_39 (looseW hd.view_39 []) mean mg mb h₀) (hk : cs.kind = .function) (ho : Off led rest)
    (h1 : dp + d < recursionLimit) (h2 : un + 8 * d < cLine) (h : ∀ r led' h' tk', Fr h₀ L h' m → News h₀ L h' (led' ++ rest) → Off led' rest → Out r led' → Q r { s with heap := h', toks := tk' }) :
    wpAny (model PySem.Challenge.rw_pg0176_02.row.prog w) (ktrTop dp un gd cn cs L a ccd cl outer) (call (.ref f) vs) Q E s :=
  C mean mg mb dp un gd cn cs a ccd cl outer A₀ base h₀ L m s Q E rest B F X N T hk ho h1 h2 h
theorem News.led {h₀ h' : Heap} {L H : Addr} {o o' o₁ : Obj} {tups rest : Led} (h : ∀ news', (∀ p ∈ news', p = (H, o') ∨ (p ∈ ((H, o) :: (tups ++ rest) : Led) ∧ p.1 ≠ H)) → News h₀ L h' news') (hH : ∀ q ∈ tups, q.1 ≠ H) (ho : Off ((H, o₁) :: tups) rest) : News h₀ L h' ((H, o') :: (tups ++ rest)) :=
  h _ fun p hp => by
    rcases List.mem_cons.mp hp with rfl | hp
    · exact .inl rfl
    · refine .inr ⟨List.mem_cons_of_mem _ hp, ?_⟩
      rcases List.mem_append.mp hp with hp | hp
      · exact hH p hp
      · exact fun e => ho (H, o₁) (List.mem_cons_self ..) p hp e.symm
theorem Off.led {H : Addr} {o o' : Obj} {tups rest : Led} (ho : Off ((H, o) :: tups) rest) : Off ((H, o') :: tups) rest := fun p hp q hq => by
  rcases List.mem_cons.mp hp with rfl | hp
  · exact ho (H, o) (List.mem_cons_self ..) q hq
  · exact ho p (List.mem_cons_of_mem _ hp) q hq
theorem par_eq {n : Nat} (h : 0 < n) : ((n : Int) - 1).fdiv (2 ^ Int.toNat 1) = (((n - 1) / 2 : Nat) : Int) := by
  rw [show ((n : Int) - 1) = ((n - 1 : Nat) : Int) by (first | lia | omega)]
  rw [Int.fdiv_eq_ediv_of_nonneg _ (by decide)]
  show ((n - 1 : Nat) : Int) / 2 = _
  (first | lia | omega)
local macro_rules | `(tactic| walk_at $k:str) => if ["subscriptTail Name Name ref int", "setItem ref int int", "exec While Compare cons nil", "compareOp Lt ref ref"].contains k.getString then `(tactic| refine Hold.out ?_) else Lean.Macro.throwUnsupported
local macro_rules | `(tactic| walk_at "WTurn") => `(tactic| dsimp only [WTurn])
inductive JSd (H a : Addr) (tups rest : Led) (es : List Ent) (x : Ent) (n : Nat) (m : PySem.Str → Option Value) (nx : Led) : Prop
  | mk (vs' : List Value) (es' : List Ent) (z : Int) (n' : Nat) (t1 t2 : Tok) (h1 : nx = (H, listOf vs'.toArray n') :: (tups ++ rest)) (h2 : Has m [(PySem.Str.ofString "heap", Value.ref H), (PySem.Str.ofString "startpos", Value.int 0 t1), (PySem.Str.ofString "pos", Value.int z t2), (PySem.Str.ofString "newitem", Value.ref a)]) (h3 : z = (n : Int)) (h4 : n < es'.length) (h5 : es'.length = es.length) (h6 : TupsA tups vs' es') (h7 : HeapX (es'.set n x) n) (h8 : (es'.set n x).Perm es) : JSd H a tups rest es x n m nx
inductive KSd (H a : Addr) (tups rest : Led) (es : List Ent) (x : Ent) (m : PySem.Str → Option Value) (nx : Led) : Prop
  | mk (n : Nat) (vs' : List Value) (es' : List Ent) (z : Int) (n' : Nat) (t1 t2 : Tok) (h1 : nx = (H, listOf vs'.toArray n') :: (tups ++ rest)) (h2 : Has m [(PySem.Str.ofString "heap", Value.ref H), (PySem.Str.ofString "startpos", Value.int 0 t1), (PySem.Str.ofString "pos", Value.int z t2), (PySem.Str.ofString "newitem", Value.ref a)]) (h3 : z = (n : Int)) (h4 : n < es'.length) (h5 : es'.length = es.length) (h6 : TupsA tups vs' es') (h7 : Heaped (es'.set n x)) (h8 : (es'.set n x).Perm es) : KSd H a tups rest es x m nx
theorem siftdown_ok (w : World) (H : Addr) (nn : Nat) (tups : Led) (vs : List Value) (es : List Ent) (p : Nat) (z0 zp : Int) (t u : Tok) (hz0 : z0 = 0) (hzp : zp = (p : Int)) (hH : ∀ q ∈ tups, q.1 ≠ H) (hT : TupsA tups vs es) (hp : p < es.length) (hl : es.length ≤ 100) (hX : HeapX es p) :
   Con w 2 42 [.ref H, .int z0 t, .int zp u] ((H, listOf vs.toArray nn) :: tups) (fun r led' => r = .none ∧ ∃ vs' es' n', led' = (H, listOf vs'.toArray n') :: tups ∧ TupsA tups vs' es' ∧ Heaped es' ∧ es'.Perm es) := by
  subst hz0 hzp
  w_top off
  unfold Con
  k_fill
  intro mean mg mb dp un gd cn cs ad ccd cl outer A₀ base h₀ L m s Q E rest B F X N T hk ho hdp hun ret
  simp only [List.cons_append] at N
  refine wpAny_call ?_
  k_dflt cell_enter
  k_steps
  refine ⟨?_⟩
  obtain ⟨a, ta, ua, na, hva, hma⟩ := hT.2 p hp
  generalize hx : gE es p = x at hma
  refine item_led (by assumption) (List.mem_cons_self ..) (by (first | lia | omega)) (by (first | lia | omega)) (show vs[((p : Nat) : Int).toNat]? = some (Value.ref a) by simpa using hva) ?_
  k_steps
  refine ⟨?_⟩
  rename Fr _ _ _ _ => F1
  rename News _ _ _ _ => N1
  refine while_led (n₀ := p) (JSd H a tups rest es x)
    (KSd H a tups rest es x) (by assumption) (by assumption) ?j0 ?turn ?done
  case j0 =>
    have e : es.set p x = es := by
      apply List.ext_getElem?
      intro i
      rw [List.getElem?_set]
      by_cases h : p = i
      · subst h; rw [if_pos rfl, if_pos hp, ← hx]; simp [gE, hp]
      · rw [if_neg h]
    exact ⟨vs, es, _, _, _, _, rfl, ps_cons rfl (ps_cons rfl (ps_cons rfl (ps_cons rfl ps_nil))), rfl, hp, rfl, hT, by rw [e]; exact hX, by rw [e]⟩
  case turn =>
    rintro n m₁ nx h tk F2 N2 ⟨vs', es', z, n', t1, t2, rfl, hm, rfl, hn, hle, hT', hX', hP'⟩
    replace F2 := fr_out hm F2
    clear F1 N1 hm
    k_steps
    · refine ⟨?_⟩
      dsimp only
      have hn0 : 0 < n := by (first | lia | omega)
      have hz : ((n : Int) - 1).fdiv (2 ^ Int.toNat 1) = (((n - 1) / 2 : Nat) : Int) := par_eq hn0
      generalize ((n : Int) - 1).fdiv (2 ^ Int.toNat 1) = zq at *
      subst hz
      have hq : (n - 1) / 2 < es'.length := by (first | lia | omega)
      obtain ⟨b, tb, ub, nb, hvb, hmb⟩ := hT'.2 ((n - 1) / 2) hq
      refine item_led (by assumption) (List.mem_cons_self ..) (by (first | lia | omega)) (by (first | lia | omega)) (show vs'[((((n - 1) / 2 : Nat)) : Int).toNat]? = some (Value.ref b) by rw [Int.toNat_natCast]; exact hvb) ?_
      k_steps
      refine ⟨?_⟩
      dsimp only
      rename News _ _ _ _ => N3
      have gA := (N3 (a, tupO x ta ua na) (List.mem_cons_of_mem _ (List.mem_append_left _ hma))).1
      have gB := (N3 (b, tupO (gE es' ((n - 1) / 2)) tb ub nb) (List.mem_cons_of_mem _ (List.mem_append_left _ hmb))).1
      refine tup_lt (by ktr_units) gA gB ?_
      have hcases : ltE x (gE es' ((n - 1) / 2)) = true ∨ ltE x (gE es' ((n - 1) / 2)) = false := by cases ltE x (gE es' ((n - 1) / 2)) <;> simp
      rcases hcases with hlt | hlt <;> rw [hlt]
      · k_steps
        dsimp only
        refine set_led (by assumption) (by assumption) (List.mem_cons_self ..) (by (first | lia | omega)) (by rw [hT'.1]; (first | lia | omega)) (by (first | lia | omega)) ?_
        intro h5 n5 F5 N5
        dsimp only
        have hN := News.led N5 hH ho
        clear N5 N3 gA gB
        rw [Int.toNat_natCast] at hN
        k_steps
        exact WEnd.mk (by assumption) (by assumption) ((n - 1) / 2) (by (first | lia | omega)) ⟨vs'.set n (.ref b), es'.set n (gE es' ((n - 1) / 2)), _, _, _, _, rfl, ps_cons rfl (ps_cons rfl (ps_cons rfl (ps_cons rfl ps_nil))), rfl, by simpa using hq, by simpa using hle, hT'.set hn hmb, HeapX.step hn hn0 hX' hlt, (perm_step hn hq (by (first | lia | omega))).trans hP'⟩
      · k_steps
        exact WOut.mk (by assumption) (by assumption) ⟨n, vs', es', _, _, _, _, rfl, ps_cons rfl (ps_cons rfl (ps_cons rfl (ps_cons rfl ps_nil))), rfl, hn, hle, hT', hX'.done (.inr (by rw [gE_set hn, gE_set hn, if_pos rfl, if_neg (by (first | lia | omega))]; exact hlt)), hP'⟩
    · exact WOut.mk (by assumption) (by assumption) ⟨n, vs', es', _, _, _, _, rfl, ps_cons rfl (ps_cons rfl (ps_cons rfl (ps_cons rfl ps_nil))), rfl, hn, hle, hT', hX'.done (.inl (by (first | lia | omega))), hP'⟩
  case done =>
    rintro m₁ nx h tk ⟨n, vs', es', z, n', t1, t2, rfl, hm, rfl, hn, hle, hT', hX', hP'⟩ F2 N2
    replace F2 := fr_out hm F2
    clear F1 N1 hm
    k_steps
    dsimp only
    refine set_led (by assumption) (by assumption) (List.mem_cons_self ..) (by (first | lia | omega)) (by rw [hT'.1]; (first | lia | omega)) (by (first | lia | omega)) ?_
    intro h5 n5 F5 N5
    dsimp only
    have hN := News.led N5 hH ho
    clear N5 N2
    k_steps
    refine ret _ ((H, listOf (vs'.set ((n : Nat) : Int).toNat (Value.ref a)).toArray n5) :: tups) _ _ (by assumption) (by assumption) (Off.led ho) ⟨rfl, _, _, _, rfl, hT'.set hn hma, hX', hP'⟩
end sift
end Mine
end TLSift
section TLSiftu
open PySem PySem.W PyProof.Rows PySem.Calls PySem.Spec
set_option maxRecDepth 100000
set_option maxHeartbeats 1000000
namespace Mine
section siftu
local macro_rules | `(tactic| walk_at $k:str) => if ["subscriptTail Name Name ref int", "setItem ref int int", "exec While Compare cons nil", "compareOp Lt ref ref", "call ref", "call builtin:len"].contains k.getString then `(tactic| refine Hold.out ?_) else Lean.Macro.throwUnsupported
local macro_rules | `(tactic| walk_at "no such step") => `(tactic| skip)
local macro_rules | `(tactic| walk_at "WTurn") => `(tactic| dsimp only [WTurn])
inductive JSu (H a : Addr) (tups rest : Led) (es : List Ent) (x : Ent) (n : Nat) (m : PySem.Str → Option Value) (nx : Led) : Prop
  | mk (p : Nat) (vs' : List Value) (es' : List Ent) (z zc ze : Int) (n' : Nat) (t1 t2 t3 t4 : Tok) (h1 : nx = (H, listOf vs'.toArray n') :: (tups ++ rest)) (h2 : Has m [(PySem.Str.ofString "heap", Value.ref H), (PySem.Str.ofString "endpos", Value.int ze t1), (PySem.Str.ofString "startpos", Value.int 0 t2), (PySem.Str.ofString "pos", Value.int z t3), (PySem.Str.ofString "childpos", Value.int zc t4), (PySem.Str.ofString "newitem", Value.ref a)]) (h3 : z = (p : Int)) (h4 : zc = 2 * (p : Int) + 1) (h5 : ze = (es.length : Int)) (h6 : p + n = es.length) (h7 : p < es'.length) (h8 : es'.length = es.length) (h9 : TupsA tups vs' es') (h10 : HeapY (es'.set p x) p) (h11 : (es'.set p x).Perm es) : JSu H a tups rest es x n m nx
inductive KSu (H a : Addr) (tups rest : Led) (es : List Ent) (x : Ent) (m : PySem.Str → Option Value) (nx : Led) : Prop
  | mk (p : Nat) (vs' : List Value) (es' : List Ent) (z : Int) (n' : Nat) (t2 t3 : Tok) (h1 : nx = (H, listOf vs'.toArray n') :: (tups ++ rest)) (h2 : Has m [(PySem.Str.ofString "heap", Value.ref H), (PySem.Str.ofString "startpos", Value.int 0 t2), (PySem.Str.ofString "pos", Value.int z t3), (PySem.Str.ofString "newitem", Value.ref a)]) (h3 : z = (p : Int)) (h4 : p < es'.length) (h5 : es'.length = es.length) (h6 : TupsA tups vs' es') (h7 : HeapX (es'.set p x) p) (h8 : (es'.set p x).Perm es) : KSu H a tups rest es x m nx
theorem siftup_ok (w : World) (H : Addr) (nn : Nat) (tups : Led) (vs : List Value) (es : List Ent) (z0 : Int) (t : Tok) (hz0 : z0 = 0) (hH : ∀ q ∈ tups, q.1 ≠ H) (hT : TupsA tups vs es) (hp : 0 < es.length) (hl : es.length ≤ 100) (hX : HeapY es 0) :
   Con w 4 49 [.ref H, .int z0 t] ((H, listOf vs.toArray nn) :: tups) (fun r led' => r = .none ∧ ∃ vs' es' n', led' = (H, listOf vs'.toArray n') :: tups ∧ TupsA tups vs' es' ∧ Heaped es' ∧ es'.Perm es) := by
  subst hz0
  w_top off
  unfold Con
  k_fill
  intro mean mg mb dp un gd cn cs ad ccd cl outer A₀ base h₀ L m s Q E rest B F X N T hk ho hdp hun ret
  simp only [List.cons_append] at N
  refine wpAny_call ?_
  k_dflt cell_enter
  k_steps
  refine ⟨?_⟩
  refine len_led (by assumption) (List.mem_cons_self ..) (by rw [hT.1]; (first | lia | omega)) ?_
  intro tl tkl
  try dsimp only
  k_steps
  refine ⟨?_⟩
  obtain ⟨a, ta, ua, na, hva, hma⟩ := hT.2 0 hp
  generalize hx : gE es 0 = x at hma
  refine item_led (by assumption) (List.mem_cons_self ..) (by (first | lia | omega)) (by (first | lia | omega)) (show vs[(0 : Int).toNat]? = some (Value.ref a) by simpa using hva) ?_
  k_steps
  refine ⟨?_⟩
  rename Fr _ _ _ _ => F1
  rename News _ _ _ _ => N1
  have hvl := hT.1
  refine while_led (n₀ := es.length) (JSu H a tups rest es x)
    (KSu H a tups rest es x) (by assumption) (by assumption) ?j0 ?turn ?done
  case j0 =>
    have e : es.set 0 x = es := by
      apply List.ext_getElem?
      intro i
      rw [List.getElem?_set]
      by_cases h : 0 = i
      · subst h; rw [if_pos rfl, if_pos hp, ← hx]; simp [gE, hp]
      · rw [if_neg h]
    exact ⟨0, vs, es, _, _, _, _, _, _, _, _, rfl, ps_cons rfl (ps_cons rfl (ps_cons rfl (ps_cons rfl (ps_cons rfl (ps_cons rfl ps_nil))))), rfl, rfl, by (first | lia | omega), by (first | lia | omega), hp, rfl, hT, by rw [e]; exact hX, by rw [e]⟩
  case turn =>
    rintro n m₁ nx h tk F2 N2 ⟨p, vs', es', z, zc, ze, n', t1, t2, t3, t4, rfl, hm, rfl, rfl, rfl, hpn, hpe, hle, hT', hX', hP'⟩
    replace F2 := fr_out hm F2
    clear F1 N1 hm
    have hvl' := hT'.1
    k_steps
    · refine ⟨?_⟩
      try dsimp only
      obtain ⟨b, tb, ub, nb, hvb, hmb⟩ := hT'.2 (2 * p + 1) (by (first | lia | omega))
      obtain ⟨c, tc, uc, nc, hvc, hmc⟩ := hT'.2 (2 * p + 1 + 1) (by (first | lia | omega))
      refine item_led (by assumption) (List.mem_cons_self ..) (by (first | lia | omega)) (by (first | lia | omega)) (show vs'[(2 * (p : Int) + 1).toNat]? = some (Value.ref b) by rw [show (2 * (p : Int) + 1).toNat = 2 * p + 1 by (first | lia | omega)]; exact hvb) ?_
      k_steps
      refine ⟨?_⟩
      try dsimp only
      refine item_led (by assumption) (List.mem_cons_self ..) (by (first | lia | omega)) (by (first | lia | omega)) (show vs'[(2 * (p : Int) + 1 + 1).toNat]? = some (Value.ref c) by rw [show (2 * (p : Int) + 1 + 1).toNat = 2 * p + 1 + 1 by (first | lia | omega)]; exact hvc) ?_
      k_steps
      refine ⟨?_⟩
      try dsimp only
      rename News _ _ _ _ => N3
      have gA := (N3 (b, tupO (gE es' (2 * p + 1)) tb ub nb) (List.mem_cons_of_mem _ (List.mem_append_left _ hmb))).1
      have gB := (N3 (c, tupO (gE es' (2 * p + 1 + 1)) tc uc nc) (List.mem_cons_of_mem _ (List.mem_append_left _ hmc))).1
      refine tup_lt (by ktr_units) gA gB ?_
      have hcases : ltE (gE es' (2 * p + 1)) (gE es' (2 * p + 1 + 1)) = true ∨ ltE (gE es' (2 * p + 1)) (gE es' (2 * p + 1 + 1)) = false := by cases ltE (gE es' (2 * p + 1)) (gE es' (2 * p + 1 + 1)) <;> simp
      clear gA gB
      rcases hcases with hlt | hlt <;> rw [hlt]
      · have hmin : ∀ i, 0 < i → i < es'.length → (i - 1) / 2 = p → leE (gE es' (2 * p + 1)) (gE es' i) := by
          intro i h1 h2 h3
          have : i = 2 * p + 1 ∨ i = 2 * p + 1 + 1 := by (first | lia | omega)
          rcases this with rfl | rfl
          · exact leE_refl _
          · exact leE_of_lt hlt
        k_steps
        refine ⟨?_⟩
        try dsimp only
        refine item_led (by assumption) (List.mem_cons_self ..) (by (first | lia | omega)) (by (first | lia | omega)) (show vs'[(2 * (p : Int) + 1 : Int).toNat]? = some (Value.ref b) by rw [show (2 * (p : Int) + 1 : Int).toNat = 2 * p + 1 by (first | lia | omega)]; exact hvb) ?_
        k_steps
        try dsimp only
        refine set_led (by assumption) (by assumption) (List.mem_cons_self ..) (by (first | lia | omega)) (by (first | lia | omega)) (by (first | lia | omega)) ?_
        intro h5 n5 F5 N5
        try dsimp only
        have hN := News.led N5 hH ho
        clear N5
        rw [Int.toNat_natCast] at hN
        k_steps
        exact WEnd.mk (by assumption) (by assumption) (es.length - (2 * p + 1)) (by (first | lia | omega)) ⟨2 * p + 1, vs'.set p (.ref b), es'.set p (gE es' (2 * p + 1)), _, _, _, _, _, _, _, _, rfl, ps_cons rfl (ps_cons rfl (ps_cons rfl (ps_cons rfl (ps_cons rfl (ps_cons rfl ps_nil))))), by (first | lia | omega), by (first | lia | omega), rfl, by (first | lia | omega), by simp; (first | lia | omega), by simpa using hle, hT'.set hpe hmb, HeapY.step (by (first | lia | omega)) (by (first | lia | omega)) (by (first | lia | omega)) hX' hmin, (perm_step hpe (by (first | lia | omega)) (by (first | lia | omega))).trans hP'⟩
      · have hmin : ∀ i, 0 < i → i < es'.length → (i - 1) / 2 = p → leE (gE es' (2 * p + 1 + 1)) (gE es' i) := by
          intro i h1 h2 h3
          have : i = 2 * p + 1 ∨ i = 2 * p + 1 + 1 := by (first | lia | omega)
          rcases this with rfl | rfl
          · exact hlt
          · exact leE_refl _
        k_steps
        refine ⟨?_⟩
        try dsimp only
        refine item_led (by assumption) (List.mem_cons_self ..) (by (first | lia | omega)) (by (first | lia | omega)) (show vs'[(2 * (p : Int) + 1 + 1 : Int).toNat]? = some (Value.ref c) by rw [show (2 * (p : Int) + 1 + 1 : Int).toNat = 2 * p + 1 + 1 by (first | lia | omega)]; exact hvc) ?_
        k_steps
        try dsimp only
        refine set_led (by assumption) (by assumption) (List.mem_cons_self ..) (by (first | lia | omega)) (by (first | lia | omega)) (by (first | lia | omega)) ?_
        intro h5 n5 F5 N5
        try dsimp only
        have hN := News.led N5 hH ho
        clear N5
        rw [Int.toNat_natCast] at hN
        k_steps
        exact WEnd.mk (by assumption) (by assumption) (es.length - (2 * p + 1 + 1)) (by (first | lia | omega)) ⟨2 * p + 1 + 1, vs'.set p (.ref c), es'.set p (gE es' (2 * p + 1 + 1)), _, _, _, _, _, _, _, _, rfl, ps_cons rfl (ps_cons rfl (ps_cons rfl (ps_cons rfl (ps_cons rfl (ps_cons rfl ps_nil))))), by (first | lia | omega), by (first | lia | omega), rfl, by (first | lia | omega), by simp; (first | lia | omega), by simpa using hle, hT'.set hpe hmc, HeapY.step (by (first | lia | omega)) (by (first | lia | omega)) (by (first | lia | omega)) hX' hmin, (perm_step hpe (by (first | lia | omega)) (by (first | lia | omega))).trans hP'⟩
    · obtain ⟨b, tb, ub, nb, hvb, hmb⟩ := hT'.2 (2 * p + 1) (by (first | lia | omega))
      have hmin : ∀ i, 0 < i → i < es'.length → (i - 1) / 2 = p → leE (gE es' (2 * p + 1)) (gE es' i) := by
        intro i h1 h2 h3
        have : i = 2 * p + 1 := by (first | lia | omega)
        subst this
        exact leE_refl _
      refine ⟨?_⟩
      try dsimp only
      refine item_led (by assumption) (List.mem_cons_self ..) (by (first | lia | omega)) (by (first | lia | omega)) (show vs'[(2 * (p : Int) + 1 : Int).toNat]? = some (Value.ref b) by rw [show (2 * (p : Int) + 1 : Int).toNat = 2 * p + 1 by (first | lia | omega)]; exact hvb) ?_
      k_steps
      try dsimp only
      refine set_led (by assumption) (by assumption) (List.mem_cons_self ..) (by (first | lia | omega)) (by (first | lia | omega)) (by (first | lia | omega)) ?_
      intro h5 n5 F5 N5
      try dsimp only
      have hN := News.led N5 hH ho
      clear N5
      rw [Int.toNat_natCast] at hN
      k_steps
      exact WEnd.mk (by assumption) (by assumption) (es.length - (2 * p + 1)) (by (first | lia | omega)) ⟨2 * p + 1, vs'.set p (.ref b), es'.set p (gE es' (2 * p + 1)), _, _, _, _, _, _, _, _, rfl, ps_cons rfl (ps_cons rfl (ps_cons rfl (ps_cons rfl (ps_cons rfl (ps_cons rfl ps_nil))))), by (first | lia | omega), by (first | lia | omega), rfl, by (first | lia | omega), by simp; (first | lia | omega), by simpa using hle, hT'.set hpe hmb, HeapY.step (by (first | lia | omega)) (by (first | lia | omega)) (by (first | lia | omega)) hX' hmin, (perm_step hpe (by (first | lia | omega)) (by (first | lia | omega))).trans hP'⟩
    · exact WOut.mk (by assumption) (by assumption) ⟨p, vs', es', _, _, _, _, rfl, ps_cons rfl (ps_cons rfl (ps_cons rfl (ps_cons rfl ps_nil))), rfl, hpe, hle, hT', hX'.leaf (by simp; (first | lia | omega)), hP'⟩
  case done =>
    rintro m₁ nx h tk ⟨p, vs', es', z, n', t2, t3, rfl, hm, rfl, hpe, hle, hT', hX', hP'⟩ F2 N2
    replace F2 := fr_out hm F2
    clear F1 N1 hm
    have hvl' := hT'.1
    k_steps
    try dsimp only
    refine set_led (by assumption) (by assumption) (List.mem_cons_self ..) (by (first | lia | omega)) (by (first | lia | omega)) (by (first | lia | omega)) ?_
    intro h5 n5 F5 N5
    try dsimp only
    have hN := News.led N5 hH ho
    clear N5 N2
    rw [Int.toNat_natCast] at hN
    have hT2 := hT'.set hpe hma
    k_steps
    refine ⟨?_⟩
    try dsimp only
    with_unfolding_all refine' callL (rest := rest) (siftdown_ok w H n5 tups _ _ p 0 p _ _ rfl rfl hH hT2 (by simpa using hpe) (by simp; (first | lia | omega)) hX') ?cB ?cF ?cX ?cN ?cT ?ck (Off.led ho) ?cd ?cu ?_
    case cB => k_asm
    case cF => k_asm
    case cX => k_asm
    case cN => k_asm
    case cT => k_asm
    case ck => rfl
    case cd => ktr_room
    case cu => ktr_units
    rintro r led' h6 tk6 F6 N6 ho6 ⟨rfl, vs6, es6, n6, rfl, hT6, hH6, hP6⟩
    try dsimp only
    k_steps
    exact ret _ _ _ _ (by assumption) (by assumption) ho6 ⟨rfl, _, _, _, rfl, hT6, hH6, hP6.trans hP'⟩
end siftu
end Mine
end TLSiftu
section TLHeap
open PySem PySem.W PyProof.Rows PySem.Calls PySem.Spec
set_option maxRecDepth 100000
set_option maxHeartbeats 1000000
namespace Mine
section heap2
theorem gE_left {es fs : List Ent} {i : Nat} (hi : i < es.length) : gE (es ++ fs) i = gE es i := by
  unfold gE; rw [List.getD_eq_getElem?_getD, List.getElem?_append_left hi, ← List.getD_eq_getElem?_getD]
theorem TupsA.push {tups : Led} {vs : List Value} {es : List Ent} {a : Addr} {x : Ent} {t u : Tok} {n : Nat} (h : TupsA tups vs es) (ha : (a, tupO x t u n) ∈ tups) : TupsA tups (vs ++ [.ref a]) (es ++ [x]) := by
  refine ⟨by simp [h.1], fun i hi => ?_⟩
  simp only [List.length_append, List.length_singleton] at hi
  by_cases e : i < es.length
  · rw [gE_left e, List.getElem?_append_left (by rw [h.1]; exact e)]
    exact h.2 i e
  · obtain rfl : i = es.length := by (first | lia | omega)
    refine ⟨a, t, u, n, ?_, ?_⟩
    · rw [← h.1]; simp
    · have : gE (es ++ [x]) es.length = x := by simp [gE]
      rw [this]; exact ha
theorem TupsA.take {tups : Led} {vs : List Value} {es : List Ent} {k : Nat} (h : TupsA tups vs es) : TupsA tups (vs.take k) (es.take k) := by
  refine ⟨by simp [h.1], fun i hi => ?_⟩
  simp only [List.length_take] at hi
  obtain ⟨a, t, u, n, h1, h2⟩ := h.2 i (by (first | lia | omega))
  refine ⟨a, t, u, n, by rw [List.getElem?_take_of_lt (by (first | lia | omega))]; exact h1, ?_⟩
  have : gE (es.take k) i = gE es i := by unfold gE; rw [List.getD_eq_getElem?_getD, List.getElem?_take_of_lt (by (first | lia | omega)), ← List.getD_eq_getElem?_getD]
  rw [this]; exact h2
theorem pop_perm {es : List Ent} (h : 1 < es.length) : es.Perm (gE es 0 :: (es.take (es.length - 1)).set 0 (gE es (es.length - 1))) := by
  match es, h with
  | x :: r, h =>
    have hr : r ≠ [] := fun e => by subst e; simp at h
    obtain ⟨mid, xl, rfl⟩ : ∃ mid xl, r = mid ++ [xl] := ⟨r.dropLast, r.getLast hr, (List.dropLast_concat_getLast hr).symm⟩
    have e1 : gE (x :: (mid ++ [xl])) ((x :: (mid ++ [xl])).length - 1) = xl := by simp [gE]
    have e2 : (x :: (mid ++ [xl])).take ((x :: (mid ++ [xl])).length - 1) = x :: mid := by simp
    rw [e1, e2]
    simp only [List.set_cons_zero]
    show (x :: (mid ++ [xl])).Perm (x :: xl :: mid)
    exact (List.perm_append_singleton xl mid).cons x
theorem Heaped.least_mem {es : List Ent} (h : Heaped es) {y : Ent} (hy : y ∈ es) : leE (gE es 0) y := by
  obtain ⟨i, hi, rfl⟩ := List.getElem_of_mem hy
  have := h.least i hi
  have e : gE es i = es[i] := by simp [gE, hi]
  rwa [e] at this
local macro_rules | `(tactic| walk_at $k:str) => if ["subscriptTail Name Name ref int", "call builtin:len", "call ref", "call builtin:list.pop", "call builtin:list.append", "setItem ref int int", "truthy ref"].contains k.getString then `(tactic| refine Hold.out ?_) else Lean.Macro.throwUnsupported
section
variable {prog : Program} {w : World} {A : Around} {E : Value → Shared → Prop} {s : Shared} {h₀ : Heap} {L D : Addr} {m : PySem.Str → Option Value} {news : Led}
theorem popAt_led {vs : List Value} {n k : Nat} {i : Int} {u : Tok} {y : Value} {Q : Value → Shared → Prop} (F : Fr h₀ L s.heap m) (N : News h₀ L s.heap news) (hm : (D, listOf vs.toArray n) ∈ news) (hf : Builtin.List.listFitsIndex i = true) (hk : seqIndex? i vs.length = some k) (hy : vs[k]? = some y) (hsz : vs.length ≤ 100000)
    (h : ∀ h' n', Fr h₀ L h' m → (∀ news', (∀ p ∈ news', p = (D, listOf (vs.eraseIdx k).toArray n') ∨ (p ∈ news ∧ p.1 ≠ D)) → News h₀ L h' news') → Q y { s with heap := h' }) :
    wpAny (model prog w) A (call (.builtin "list.pop") [.ref D, .int i u]) Q E s := by
  have z := N _ hm
  have hk' : seqIndex? i vs.toArray.size = some k := by simpa using hk
  have hlt : k < vs.length := (List.getElem?_eq_some_iff.mp hy).1
  refine call_meets PySem.F.slot_list_pop ⟨_, z.1, rfl⟩ PySem.F.entry_list_pop (PySem.F.args_list_pop_2 _ _) (PySem.MeetsSeq.list_pop_at D _ n i u k y hf hk' (by simpa using hy) (by rw [sizeLine_eq, List.size_toArray]; (first | lia | omega))) ⟨z.1, ?_⟩
  obtain ⟨n', e⟩ := listOf_update z.1 (fun xs => xs.eraseIdxIfInBounds k)
  have e2 : vs.toArray.eraseIdxIfInBounds k = (vs.eraseIdx k).toArray := by
    unfold Array.eraseIdxIfInBounds
    rw [dif_pos (by simpa using hlt)]
    apply Array.toList_inj.mp
    rw [Array.toList_eraseIdx]
  rw [e2] at e
  exact h _ n' (F.change (Heap.SameBut.update ..) z.2.1 z.2.2) fun news' hn => upd_news N (Heap.SameBut.update ..) e hm hn
theorem pop_led {us : List Value} {n : Nat} {y : Value} {Q : Value → Shared → Prop} (F : Fr h₀ L s.heap m) (N : News h₀ L s.heap news) (hm : (D, listOf (us ++ [y]).toArray n) ∈ news) (hsz : us.length ≤ 100000)
    (h : ∀ h' n', Fr h₀ L h' m → (∀ news', (∀ p ∈ news', p = (D, listOf us.toArray n') ∨ (p ∈ news ∧ p.1 ≠ D)) → News h₀ L h' news') → Q y { s with heap := h' }) :
    wpAny (model prog w) A (call (.builtin "list.pop") [.ref D]) Q E s := by
  have z := N _ hm
  have hs : (us ++ [y]).toArray.size - 1 = us.length := by simp
  refine call_meets PySem.F.slot_list_pop ⟨_, z.1, rfl⟩ PySem.F.entry_list_pop (PySem.F.args_list_pop_1 _) (PySem.MeetsSeq.list_pop_last D _ n y (by rw [hs]; simp) (by rw [sizeLine_eq, List.size_toArray]; simp; (first | lia | omega))) ⟨z.1, ?_⟩
  rw [hs]
  obtain ⟨n', e⟩ := listOf_update z.1 (fun xs => xs.eraseIdxIfInBounds us.length)
  have e2 : (us ++ [y]).toArray.eraseIdxIfInBounds us.length = us.toArray := by
    unfold Array.eraseIdxIfInBounds
    rw [dif_pos (by simp)]
    apply Array.toList_inj.mp
    rw [Array.toList_eraseIdx]
    simp [List.eraseIdx_append_of_length_le]
  rw [e2] at e
  exact h _ n' (F.change (Heap.SameBut.update ..) z.2.1 z.2.2) fun news' hn => upd_news N (Heap.SameBut.update ..) e hm hn
end
local macro_rules | `(tactic| walk_at "no such step") => `(tactic| skip)
theorem push_ok (w : World) (H : Addr) (nn : Nat) (tups : Led) (vs : List Value) (es : List Ent) (a : Addr) (x : Ent) (ta ua : Tok) (na : Nat) (hH : ∀ q ∈ tups, q.1 ≠ H) (hT : TupsA tups vs es) (hl : es.length < 100) (hX : Heaped es) (ha : (a, tupO x ta ua na) ∈ tups) :
   Con w 4 28 [.ref H, .ref a] ((H, listOf vs.toArray nn) :: tups) (fun r led' => r = .none ∧ ∃ vs' es' n', led' = (H, listOf vs'.toArray n') :: tups ∧ TupsA tups vs' es' ∧ Heaped es' ∧ es'.Perm (es ++ [x])) := by
  w_top off
  unfold Con
  k_fill
  intro mean mg mb dp un gd cn cs ad ccd cl outer A₀ base h₀ L m s Q E rest B F X N T hk ho hdp hun ret
  simp only [List.cons_append] at N
  have hvl := hT.1
  refine wpAny_call ?_
  k_dflt cell_enter
  k_steps
  refine ⟨?_⟩
  refine append_led (by assumption) (by assumption) (List.mem_cons_self ..) (by (first | lia | omega)) ?_
  intro h5 n5 F5 N5
  try dsimp only
  have hN := News.led N5 hH ho
  clear N5
  k_steps
  refine ⟨?_⟩
  try dsimp only
  refine len_led (by assumption) (List.mem_cons_self ..) (by simp; (first | lia | omega)) ?_
  intro tl tkl
  try dsimp only
  k_steps
  refine ⟨?_⟩
  try dsimp only
  with_unfolding_all refine' callL (rest := rest) (siftdown_ok w H n5 tups _ _ es.length 0 _ _ _ rfl (by simp; (first | lia | omega)) hH (hT.push ha) (by simp) (by simp; (first | lia | omega)) (heap_push x hX)) ?cB ?cF ?cX ?cN ?cT ?ck (Off.led ho) ?cd ?cu ?_
  case cB => k_asm
  case cF => k_asm
  case cX => k_asm
  case cN => k_asm
  case cT => k_asm
  case ck => rfl
  case cd => ktr_room
  case cu => ktr_units
  rintro r led' h6 tk6 F6 N6 ho6 ⟨rfl, vs6, es6, n6, rfl, hT6, hH6, hP6⟩
  try dsimp only
  k_steps
  exact ret _ _ _ _ (by assumption) (by assumption) ho6 ⟨rfl, _, _, _, rfl, hT6, hH6, hP6⟩
theorem pop_ok (w : World) (H : Addr) (nn : Nat) (tups : Led) (vs : List Value) (es : List Ent) (hH : ∀ q ∈ tups, q.1 ≠ H) (hT : TupsA tups vs es) (h0 : 0 < es.length) (hl : es.length ≤ 100) (hX : Heaped es) :
   Con w 6 35 [.ref H] ((H, listOf vs.toArray nn) :: tups) (fun r led' => ∃ x a t u n vs' es' n', r = .ref a ∧ (a, tupO x t u n) ∈ tups ∧ led' = (H, listOf vs'.toArray n') :: tups ∧ TupsA tups vs' es' ∧ Heaped es' ∧ es.Perm (x :: es') ∧ ∀ y ∈ es', leE x y) := by
  w_top off
  unfold Con
  k_fill
  intro mean mg mb dp un gd cn cs ad ccd cl outer A₀ base h₀ L m s Q E rest B F X N T hk ho hdp hun ret
  simp only [List.cons_append] at N
  have hvl := hT.1
  refine wpAny_call ?_
  k_dflt cell_enter
  k_steps
  refine ⟨?_⟩
  try dsimp only
  obtain ⟨us, y, rfl⟩ : ∃ us y, vs = us ++ [y] := by
    have : vs ≠ [] := fun e => by subst e; simp at hvl; (first | lia | omega)
    exact ⟨vs.dropLast, vs.getLast this, (List.dropLast_concat_getLast this).symm⟩
  simp only [List.length_append, List.length_singleton] at hvl
  obtain ⟨a, ta, ua, na, hva, hma⟩ := hT.2 us.length (by (first | lia | omega))
  have hya : y = .ref a := by simpa using hva
  subst hya
  refine pop_led (by assumption) (by assumption) (List.mem_cons_self ..) (by (first | lia | omega)) ?_
  intro h5 n5 F5 N5
  try dsimp only
  have hN := News.led N5 hH ho
  clear N5
  have hT5 := hT.take (k := us.length)
  rw [List.take_left' rfl] at hT5
  have hel : us.length = es.length - 1 := by (first | lia | omega)
  k_steps
  refine ⟨?_⟩
  try dsimp only
  refine truth_led (by assumption) (List.mem_cons_self ..) (by (first | lia | omega)) ?_
  intro tkt
  try dsimp only
  cases us with
  | nil =>
    have e1 : es = [gE es 0] := by
      match es, hvl with
      | [x], _ => rfl
    have he : (!([] : List Value).isEmpty) = false := rfl
    rw [he]
    k_steps
    refine ret _ _ _ _ (by assumption) (by assumption) (Off.led ho) ⟨_, _, _, _, _, [], [], _, rfl, hma, rfl, ⟨rfl, fun i hi => absurd hi (Nat.not_lt_zero _)⟩, fun i _ hi => absurd hi (Nat.not_lt_zero _), ?_, fun y hy => nomatch hy⟩
    show es.Perm [gE es 0]
    rw [← e1]
  | cons v us' =>
    have he : (!(v :: us').isEmpty) = true := rfl
    rw [he]
    obtain ⟨b, tb, ub, nb, hvb, hmb⟩ := hT.2 0 h0
    have hvb' : v = .ref b := by simpa using hvb
    subst hvb'
    k_steps
    have hul : (Value.ref b :: us').length = es.length - 1 := hel
    have hu1 : us'.length + 1 = es.length - 1 := hel
    refine set_led (by assumption) (by assumption) (List.mem_cons_self ..) (by (first | lia | omega)) (by simp) (by (first | lia | omega)) ?_
    intro h6 n6 F6 N6
    try dsimp only
    have hN := News.led N6 hH ho
    clear N6
    have hT6 := TupsA.set hT5 (p := 0) (by simp; (first | lia | omega)) hma
    have e0 : (0 : Int).toNat = 0 := rfl
    rw [e0] at hN
    have hX6 : HeapY ((es.take (es.length - 1)).set 0 (gE es (es.length - 1))) 0 := heap_top _ hX
    rw [← hul] at hX6
    have hP0 := pop_perm (es := es) (by (first | lia | omega))
    rw [← hul] at hP0
    k_steps
    refine ⟨?_⟩
    try dsimp only
    with_unfolding_all refine' callL (rest := rest) (siftup_ok w H n6 tups _ _ 0 _ rfl hH hT6 (by simp; (first | lia | omega)) (by simp; (first | lia | omega)) hX6) ?cB ?cF ?cX ?cN ?cT ?ck (Off.led ho) ?cd ?cu ?_
    case cB => k_asm
    case cF => k_asm
    case cX => k_asm
    case cN => k_asm
    case cT => k_asm
    case ck => rfl
    case cd => ktr_room
    case cu => ktr_units
    rintro r led' h7 tk7 F7 N7 ho7 ⟨rfl, vs7, es7, n7, rfl, hT7, hH7, hP7⟩
    try dsimp only
    k_steps
    have hP8 := hP0.trans (hP7.symm.cons _)
    exact ret _ _ _ _ (by assumption) (by assumption) ho7 ⟨_, _, _, _, _, _, _, _, rfl, hmb, rfl, hT7, hH7, hP8, fun y hy => hX.least_mem (hP8.mem_iff.mpr (List.mem_cons_of_mem _ hy))⟩
end heap2
end Mine
end TLHeap
section TLItems
open PySem PySem.W PyProof.Rows PySem.Calls PySem.Spec
set_option maxRecDepth 100000
set_option maxHeartbeats 1000000
namespace Mine
section items
variable {prog : Program} {w : World} {A : Around} {E : Value → Shared → Prop} {h₀ : Heap} {env : Env} {target : Expr} {body : List Stmt} {Q : Flow → Shared → Prop} {s : Shared}
/-- the turns of a written row, by one invariant -/
theorem items_inv {ws : List (Addr × String)} {keep : Led} (xs : List Itm) (J : Nat → (PySem.Str → Option Value) → Led → Prop) (hk : ∀ i m nx, J i m nx → SubL keep nx)
    (turn : ∀ i a v h tk m nx, xs[i]? = some a → a.Is v h → J i m nx → Fr h₀ env.locals h m → AllObj ws (fun its => News h₀ env.locals h (its ++ nx) →
      wpAny (model prog w) A (assign target env v) (fun _ s₂ => wpAny (model prog w) A (execs body env) (UnrPostW h₀ env.locals { s with heap := h, toks := tk } its (J (i + 1)) Q) E s₂) E { s with heap := h, toks := tk }))
    (done : ∀ m nx h tk, J xs.length m nx → Fr h₀ env.locals h m → News h₀ env.locals h nx → Q .next { s with heap := h, toks := tk }) :
    ∀ (k : Nat) (ys : List Itm) m nx, k ≤ xs.length → xs.drop k = ys → J k m nx → ItemsRest prog w A E h₀ env target body Q s ws keep ys m nx := by
  intro k ys
  induction ys generalizing k with
  | nil =>
    intro m nx hkl e hj h tk F N
    have hle : xs.length ≤ k := List.drop_eq_nil_iff.mp e
    obtain rfl : k = xs.length := by (first | lia | omega)
    exact done m nx h tk hj F N
  | cons a r ih =>
    intro m nx hkl e hj v h tk ha F
    have hk1 : xs[k]? = some a := by rw [← List.head?_drop, e]; rfl
    have hk2 : xs.drop (k + 1) = r := by rw [← List.tail_drop, e]; rfl
    have t := turn k a v h tk m nx hk1 ha hj F
    have mono : ∀ (ws : List (Addr × String)) (f g : Led → Prop), (∀ its, f its → g its) → AllObj ws f → AllObj ws g := by
      intro ws
      induction ws with
      | nil => intro f g hfg hf; exact hfg _ hf
      | cons w ws ih2 =>
        intro f g hfg hf o ho
        exact ih2 _ _ (fun its => hfg _) (hf o ho)
    refine mono ws _ _ (fun its hits N => ?_) t
    refine wpAny_mono (hits N) (fun _ s₂ h2 => wpAny_mono h2 (fun f s₃ h3 => ?_) fun _ _ x => x) fun _ _ x => x
    have fin : UnrEndW h₀ env.locals { s with heap := h, toks := tk } its (J (k + 1)) s₃ → UnrEndW h₀ env.locals { s with heap := h, toks := tk } its (fun m' n' => SubL keep n' ∧ ItemsRest prog w A E h₀ env target body Q s ws keep r m' n') s₃ := by
      rintro ⟨h', tk', m', n', e1, F', N', off, hj'⟩
      exact ⟨h', tk', m', n', e1, F', N', off, hk _ _ _ hj', ih (k + 1) m' n' (by have := (List.getElem?_eq_some_iff.mp hk1).1; (first | lia | omega)) hk2 hj'⟩
    cases f with
    | ret v => exact h3
    | brk => exact h3
    | next => exact fin h3
    | cont => exact fin h3
end items
end Mine
end TLItems
section TLLaw1
open PySem PySem.W PyProof.Rows PySem.Calls PySem.Spec
set_option maxRecDepth 100000
set_option maxHeartbeats 1000000
namespace Mine
section law1
def joinL : List Nat → List Nat
  | [] => []
  | [x] => [x]
  | x :: y :: r => x :: 46 :: 46 :: 46 :: joinL (y :: r)
theorem dots_join : ∀ {p : List Nat}, p ≠ [] → dotsL p = [46, 46, 46] ++ joinL p ++ [46, 46, 46]
  | [x], _ => rfl
  | x :: y :: r, _ => by
    have ih := dots_join (p := y :: r) (by simp)
    rw [dotsL, ih]
    simp [joinL]
theorem tx_append (a b : List Nat) : tx a ++ tx b = tx (a ++ b) := PySem.Str.ext' (by simp [tx, PySem.Str.cps_append])
theorem join_tx (p : List Nat) : Txt.join (PySem.Str.ofString "...") (signs (tx p)) = tx (joinL p) := by
  show PySem.Builtin.Str.glued _ _ = _
  rw [StrLaws.glued_eq_join]
  have e : signs (tx p) = p.map fun n => tx [n] := by simp [signs, tx]
  rw [e]
  induction p with
  | nil => rfl
  | cons x r ih =>
    cases r with
    | nil => rfl
    | cons y r =>
      show tx [x] ++ PySem.Str.ofString "..." ++ PySem.Str.join (PySem.Str.ofString "...") ((y :: r).map fun n => tx [n]) = _
      rw [ih (by simp [signs, tx])]
      rw [show PySem.Str.ofString "..." = tx [46, 46, 46] from rfl, tx_append, tx_append]
      rfl
section
variable {prog : Program} {w : World} {A : Around} {E : Value → Shared → Prop} {s : Shared} {Q : Value → Shared → Prop}
theorem add_tx {a b : List Nat} {x y : PySem.Str} {t u : Tok} (hx : x = tx a) (hy : y = tx b) (hs : a.length + b.length ≤ 100000) (h : ∀ t' k, Q (.str (tx (a ++ b)) t') { s with toks := k }) : wpAny (model prog w) A (binaryOp .Add (.str x t) (.str y u)) Q E s := by
  subst hx hy
  exact KOpn.add (by rw [tx_length, tx_length]; (first | lia | omega)) fun t' k _ => by rw [tx_append]; exact h t' k
end
local macro_rules | `(tactic| walk_at "binaryOp Add str str") => `(tactic| refine Hold.out ?_)
theorem dots_ok (w : World) (p : List Nat) (t : Tok) (hp : ∀ c ∈ p, c = 97 ∨ c = 98 ∨ c = 99) (hl : p.length ≤ 8) (hp0 : p ≠ []) :
   Con w 2 82 [.str (tx p) t] [] (fun r led' => led' = [] ∧ ∃ t', r = .str (tx (dotsL p)) t') := by
  w_top off
  unfold Con
  k_fill
  intro mean mg mb dp un gd cn cs ad ccd cl outer A₀ base h₀ L m s Q E rest B F X N T hk ho hdp hun ret
  simp only [List.nil_append] at N
  have hpl := tx_length p
  refine wpAny_call ?_
  k_dflt cell_enter
  k_steps
  refine ⟨?_⟩
  have hjl : (joinL p).length + 6 = 4 * p.length + 3 := by rw [← dotsL_length, dots_join hp0]; simp
  refine add_tx (a := [46, 46, 46]) rfl (join_tx p) (by simp; (first | lia | omega)) ?_
  intro _ _
  try dsimp only
  k_steps
  refine ⟨?_⟩
  refine add_tx (b := [46, 46, 46]) rfl rfl (by simp; (first | lia | omega)) ?_
  intro _ _
  try dsimp only
  k_steps
  rw [← dots_join hp0]
  exact ret _ [] _ _ (by assumption) (by assumption) off_nil ⟨rfl, _, rfl⟩
end law1
end Mine
end TLLaw1
section TLComp
open PySem PySem.W PyProof.Rows PySem.Calls PySem.Spec
set_option maxRecDepth 100000
set_option maxHeartbeats 1000000
namespace Mine
section comp
variable {prog : Program} {w : World} {A : Around} {s : Shared} {h₀ : Heap} {L : Addr} {m : PySem.Str → Option Value} {env : Env} {ct elt : Expr} {x : PySem.Str} {scope : Scope} {cl : List (PySem.Str × Addr)} {S : Led → Prop} {P : Nat → Value → Prop} {Fin : List Value → Led → Prop} {news : Led}
/-- a list comprehension with a test, by an invariant -/
theorem comp_T {n : Nat} (J : Nat → List Value → Led → Prop) (j0 : J 0 [] news)
    (turn : ∀ i v I oI C oC D m₂ ys nx h tk (E' : Value → Shared → Prop), i < n → P i v → J i ys nx → LCg.NsObj oC m₂ → m₂ x = some v → Fr h₀ L h m → News h₀ L h ((I, oI) :: (C, oC) :: (D, LCg.lst ys) :: nx) → LCg.Off3 I C D nx → ((@Ne Nat I C) ∧ (@Ne Nat I D) ∧ (@Ne Nat C D)) →
      wpAny (model prog w) A (isTrue ct (compEnvC scope cl C env) (eval ct (compEnvC scope cl C env))) (fun b s' => if b = true then wpAny (model prog w) A (eval elt (compEnvC scope cl C env)) (LCg.CompEnd h₀ L m { s with heap := h, toks := tk } I oI C oC D (LCg.lst ys) S (fun y nx' => J (i + 1) (ys ++ [y]) nx')) E' s'
        else LCg.CompEnd h₀ L m { s with heap := h, toks := tk } I oI C oC D (LCg.lst ys) S (fun _ nx' => J (i + 1) ys nx') Value.none s') E' { s with heap := h, toks := tk })
    (fin : ∀ ys nx, J n ys nx → Fin ys nx) : LCt.CompRestT prog w A h₀ L m env ct elt x scope cl s S P Fin n 0 [] news := by
  have key : ∀ (j i : Nat) (ys : List Value) (nx : Led), i + j = n → J i ys nx → LCt.CompRestT prog w A h₀ L m env ct elt x scope cl s S P Fin j i ys nx := by
    intro j
    induction j with
    | zero =>
      intro i ys nx hi hy
      have e : i = n := by (first | lia | omega)
      subst e
      exact LCt.CompRestT.zero (fin ys nx hy)
    | succ j ih =>
      intro i ys nx hi hy
      refine LCt.CompRestT.succ ?_
      intro v I oI C oC D m₂ h tk E' hv hC hx F N off ne
      refine wpAny_mono (turn i v I oI C oC D m₂ ys nx h tk E' (by (first | lia | omega)) hv hy hC hx F N off ne) (fun b s₂ hq => ?_) fun _ _ e => e
      cases b with
      | true =>
        simp only [if_true] at hq ⊢
        refine wpAny_mono hq (fun y s₃ hr => ?_) fun _ _ e => e
        obtain ⟨h', tk', nw, e, F', N', off', hS, hr'⟩ := hr
        exact ⟨h', tk', nw, e, F', N', off', hS, ih (i + 1) _ _ (by (first | lia | omega)) hr'⟩
      | false =>
        simp only [Bool.false_eq_true, if_false] at hq ⊢
        obtain ⟨h', tk', nw, e, F', N', off', hS, hr'⟩ := hq
        exact ⟨h', tk', nw, e, F', N', off', hS, ih (i + 1) _ _ (by (first | lia | omega)) hr'⟩
  exact key n 0 [] news (by (first | lia | omega)) j0
/-- a list comprehension without a test, by an invariant -/
theorem comp_U {n : Nat} (J : Nat → List Value → Led → Prop) (j0 : J 0 [] news)
    (turn : ∀ i v I oI C oC D m₂ ys nx h tk (E' : Value → Shared → Prop), i < n → P i v → J i ys nx → LCg.NsObj oC m₂ → m₂ x = some v → Fr h₀ L h m → News h₀ L h ((I, oI) :: (C, oC) :: (D, LCg.lst ys) :: nx) → LCg.Off3 I C D nx → ((@Ne Nat I C) ∧ (@Ne Nat I D) ∧ (@Ne Nat C D)) →
      wpAny (model prog w) A (eval elt (compEnvC scope cl C env)) (LCg.CompEnd h₀ L m { s with heap := h, toks := tk } I oI C oC D (LCg.lst ys) S (fun y nx' => J (i + 1) (ys ++ [y]) nx')) E' { s with heap := h, toks := tk })
    (fin : ∀ ys nx, J n ys nx → Fin ys nx) : LCg.CompRest prog w A h₀ L m env elt x scope cl s S P Fin n 0 [] news := by
  have key : ∀ (j i : Nat) (ys : List Value) (nx : Led), i + j = n → J i ys nx → LCg.CompRest prog w A h₀ L m env elt x scope cl s S P Fin j i ys nx := by
    intro j
    induction j with
    | zero =>
      intro i ys nx hi hy
      have e : i = n := by (first | lia | omega)
      subst e
      exact LCg.CompRest.zero (fin ys nx hy)
    | succ j ih =>
      intro i ys nx hi hy
      refine LCg.CompRest.succ ?_
      intro v I oI C oC D m₂ h tk E' hv hC hx F N off ne
      refine wpAny_mono (turn i v I oI C oC D m₂ ys nx h tk E' (by (first | lia | omega)) hv hy hC hx F N off ne) (fun y s₃ hr => ?_) fun _ _ e => e
      obtain ⟨h', tk', nw, e, F', N', off', hS, hr'⟩ := hr
      exact ⟨h', tk', nw, e, F', N', off', hS, ih (i + 1) _ _ (by (first | lia | omega)) hr'⟩
  exact key n 0 [] news (by (first | lia | omega)) j0
/-- the values are the texts -/
abbrev TxA (vs : List Value) (ls : List (List Nat)) : Prop := StrsAre vs (ls.map tx)
theorem TxA.snoc {vs : List Value} {ls : List (List Nat)} {l : List Nat} {t : Tok} (h : TxA vs ls) : TxA (vs ++ [.str (tx l) t]) (ls ++ [l]) := by
  unfold TxA
  rw [List.map_append]
  exact StrsAre.append' h (.cons _ _ .nil)
theorem TxA.len {vs : List Value} {ls : List (List Nat)} (h : TxA vs ls) : vs.length = ls.length := by
  rw [StrsAre.length h, List.length_map]
theorem TxA.at {vs : List Value} {ls : List (List Nat)} (h : TxA vs ls) {i : Nat} (hi : i < ls.length) : ∃ t, vs[i]? = some (.str (tx (ls.getD i [])) t) :=
  StrsAre.get h i _ (by simp [hi])
end comp
end Mine
end TLComp
section TLShort
open PySem PySem.W PyProof.Rows PySem.Calls PySem.Spec
set_option maxRecDepth 100000
set_option maxHeartbeats 1000000
namespace Mine
section law1
/-- the texts that come of p by one sign taken out, each once -/
def shortL (p : List Nat) : List (List Nat) := ((List.range p.length).filter fun i => (p.drop i).take 1 != (p.drop (i + 1)).take 1).map fun i => p.take i ++ p.drop (i + 1)
def shortN (p : List Nat) (n : Nat) : List (List Nat) := ((List.range n).filter fun i => (p.drop i).take 1 != (p.drop (i + 1)).take 1).map fun i => p.take i ++ p.drop (i + 1)
theorem shortN_succ (p : List Nat) (n : Nat) : shortN p (n + 1) = if ((p.drop n).take 1 != (p.drop (n + 1)).take 1) = true then shortN p n ++ [p.take n ++ p.drop (n + 1)] else shortN p n := by
  unfold shortN
  rw [List.range_succ, List.filter_append]
  cases h : ((p.drop n).take 1 != (p.drop (n + 1)).take 1) <;> simp [h]
theorem bne_tx (a b : List Nat) : (tx a != tx b) = (a != b) := by
  show (!(tx a == tx b)) = (!(a == b))
  congr 1
  rw [Bool.eq_iff_iff, beq_iff_eq, beq_iff_eq]
  exact ⟨tx_inj, fun h => by rw [h]⟩
local macro_rules | `(tactic| walk_at $k:str) => if ["CompSrcT", "CompEnd"].contains k.getString then `(tactic| refine Hold.out ?_) else Lean.Macro.throwUnsupported
local macro_rules | `(tactic| walk_at "no such step") => `(tactic| skip)
theorem off1_mem {D : Addr} : ∀ {l : Led}, LCg.Off1 D l → ∀ p ∈ l, p.1 ≠ D
  | [], _, _, h => nomatch h
  | _ :: _, x, p, h => by
    rcases List.mem_cons.mp h with rfl | h
    · exact x.1
    · exact off1_mem x.2 p h
theorem shorter_ok (w : World) (p : List Nat) (t : Tok) (hp : ∀ c ∈ p, c = 97 ∨ c = 98 ∨ c = 99) (hl : p.length ≤ 8) :
   Con w 2 75 [.str (tx p) t] [] (fun r led' => ∃ D us n, r = .ref D ∧ led' = [(D, listOf (List.toArray us) n)] ∧ TxA us (shortL p)) := by
  w_top off
  unfold Con
  k_fill
  intro mean mg mb dp un gd cn cs ad ccd cl outer A₀ base h₀ L m s Q E rest B F X N T hk ho hdp hun ret
  simp only [List.nil_append] at N
  have hpl := tx_length p
  refine wpAny_call ?_
  k_dflt (refine' code_defC ?k1 ?k2 ?k3 ?k4 ?k5 ?kA ?kF ?kK ?k6 ?k7 ?k8 ?k9 ?kB ?kD ?_ ?c2 ?c3 ?c4; (case kA => exact rfl); (case kF => exact rfl); (case kK => assumption); (case k1 => k_asm); (case k2 => k_asm); (case k3 => k_asm); (case k4 => k_asm); (case k5 => k_asm); (case k6 => k_is); (case k7 => k_is); (case k8 => ktr_room); (case k9 => exact BindsTo.of_eq rfl); (case kB => exact rfl); (case kD => decide +kernel); (case c2 => exact rfl); (case c3 => exact rfl); (case c4 => exact rfl); k_whole; intro g' L' h' tk' cells' FG' F' N' Y' B' X' T' l1; k_cells Y'; (try simp only [List.cons_append, List.nil_append] at N'); (try dsimp only); (try k_lift B'); (try k_fold))
  k_steps
  refine ⟨?_⟩
  rename IsRange _ _ _ _ _ _ _ _ => hrg
  rw [hpl] at hrg
  k_dflt refine LCt.CompSrcT.range (n := p.length) (by rfl) (by k_asm) (by k_asm) hrg (small_one (by (first | lia | omega)) (by (first | lia | omega)) (by (first | lia | omega)) (by (first | lia | omega))) (by rw [rangeSize_nat]; (first | lia | omega)) (by rw [PySem.sizeLine_eq]; (first | lia | omega)) ?_
  intro g
  rename Obj => oc
  refine comp_T (fun i ys nx => nx = (L' + 1, oc) :: rest ∧ TxA ys (shortN p i)) ⟨rfl, .nil⟩ ?_ ?_
  · rintro i _ I oI C oC D m₂ ys nx h tk E' hi ⟨ti, rfl⟩ ⟨rfl, hys⟩ hC hx F2 N2 off ne
    rw [Int.zero_add] at hx
    have e1 : ((i : Int) + 1) = ((i + 1 : Nat) : Int) := by (first | lia | omega)
    have e2 : ((i : Int) + 2) = ((i + 2 : Nat) : Int) := by (first | lia | omega)
    dsimp only
    k_steps
    · refine ⟨?_⟩
      rename (_ != _) = true => he
      rw [e1, e2, slice_two p i (i + 1) (by (first | lia | omega)), slice_two p (i + 1) (i + 2) (by (first | lia | omega)), bne_tx, show i + 1 - i = 1 by (first | lia | omega), show i + 2 - (i + 1) = 1 by (first | lia | omega)] at he
      refine LCg.CompEnd.intro (by assumption) (by assumption) _ (fun p hp => hp) off trivial ⟨rfl, ?_⟩
      rw [shortN_succ, if_pos he, e1, slice_to, slice_from, tx_append]
      exact TxA.snoc hys
    · refine ⟨?_⟩
      rename (_ != _) = false => he
      rw [e1, e2, slice_two p i (i + 1) (by (first | lia | omega)), slice_two p (i + 1) (i + 2) (by (first | lia | omega)), bne_tx, show i + 1 - i = 1 by (first | lia | omega), show i + 2 - (i + 1) = 1 by (first | lia | omega)] at he
      refine LCg.CompEnd.intro (by assumption) (by assumption) _ (fun p hp => hp) off trivial ⟨rfl, ?_⟩
      rw [shortN_succ, if_neg (by rw [he]; exact Bool.false_ne_true)]
      exact hys
  · rintro ys nx ⟨rfl, hys⟩
    k_steps
    rename _ ∧ LCg.Off1 _ _ => ho1
    rename News h₀ _ _ _ => kN
    refine ret _ [(_, listOf (List.toArray ys) ys.length)] _ _ (by assumption) (News.sub kN ?_) (fun p hp q hq => ?_) ⟨_, ys, _, rfl, rfl, hys⟩
    · intro p hp
      rcases List.mem_cons.mp hp with rfl | hp
      · exact List.mem_cons_self ..
      · exact List.mem_cons_of_mem _ (List.mem_cons_of_mem _ hp)
    · rw [List.mem_singleton.mp hp]
      exact fun e => off1_mem ho1.2 q hq e.symm
end law1
end Mine
end TLShort
section TLLonger
open PySem PySem.W PyProof.Rows PySem.Calls PySem.Spec
set_option maxRecDepth 100000
set_option maxHeartbeats 1000000
namespace Mine
section law1
section iters
variable {prog : Program} {w : World} {A : Around} {E : Value → Shared → Prop} {s : Shared} {env : Env} {h₀ : Heap} {x : PySem.Str} {body : List Stmt} {Q : Flow → Shared → Prop}
/-- a for over the signs of a text -/
theorem iter_str {y : PySem.Str} {l : List Nat} {t₀ : Tok} {m₀ : PySem.Str → Option Value} {news : Led} (J : Nat → (PySem.Str → Option Value) → Led → Prop)
    (hh : A.handled = none) (hy : y = tx l) (ha : ∀ c ∈ l, c < 128) (F : Fr h₀ env.locals s.heap m₀) (N : News h₀ env.locals s.heap news) (hj : J 0 m₀ news)
    (turn : ∀ i c u m₁ news₁ h tk I oI, l[i]? = some c → J i m₁ news₁ → (∀ p ∈ news₁, p.1 ≠ I) → Fr h₀ env.locals h (fun y => if y = x then some (.str (tx [c]) u) else m₁ y) → News h₀ env.locals h ((I, oI) :: news₁) →
      wpAny (model prog w) A (execs body env) (TurnP h₀ env.locals (J (i + 1)) I oI { s with heap := h, toks := tk } Q) E { s with heap := h, toks := tk })
    (done : ∀ m₁ news₁ h tk, J l.length m₁ news₁ → Fr h₀ env.locals h m₁ → News h₀ env.locals h news₁ → Q .next { s with heap := h, toks := tk }) :
    wpAny (model prog w) A (pyIter (.str y t₀)) (fun it s₂ => LoopAtV prog w A h₀ env x body Q E it s₂) E s := by
  subst hy
  have ha' : (tx l).cps.all (· < 128) = true := by
    simp only [tx, List.all_toArray, List.all_eq_true, decide_eq_true_eq]
    exact ha
  refine wpAny_pyIter_ascii ha' ?_
  have W := Walks.strAscii (prog := prog) (w := w) hh s.heap.objs.size (tx l) t₀
  have hlen : (tx l).cps.size = l.length := by simp [tx]
  rw [hlen] at W
  refine loop_led J [] W rfl (next_is_new F) (fun i h hs => ⟨_, hs.choose_spec.1⟩) ?_ ⟨_, Heap.get?_push_size _ rfl, rfl, rfl⟩ (F.push _) (fun p hp => ⟨Heap.get?_push_of_some _ (N p hp).1, (N p hp).2⟩) (fun p hp => Nat.ne_of_lt (Heap.lt_size (N p hp).1)) hj (fun b hb => .inl (List.mem_singleton.mp hb)) (fun _ _ _ _ _ hp => nomatch hp) ?_ done
  · intro hm
    exact absurd F.ns.lt ((List.mem_singleton.mp hm) ▸ Nat.lt_irrefl _)
  · rintro i v m₁ news₁ h tk oI hi ⟨c, u, hc, rfl⟩ hJ' hn' F₁ N₁
    exact turn i c u m₁ news₁ h tk _ oI (by simpa [tx] using hc) hJ' hn' F₁ N₁
end iters
/-- what longer has after the first n places and k signs of the next -/
def longK (p : List Nat) (i : Nat) (k : Nat) : List (List Nat) := (([97, 98, 99].take k).filter fun c => (p.drop i).take 1 != [c]).map fun c => p.take i ++ [c] ++ p.drop i
def longN (p : List Nat) (n : Nat) : List (List Nat) := (List.range n).flatMap fun i => longK p i 3
def longL (p : List Nat) : List (List Nat) := longN p (p.length + 1)
theorem longN_succ (p : List Nat) (n : Nat) : longN p (n + 1) = longN p n ++ longK p n 3 := by
  unfold longN
  rw [List.range_succ, List.flatMap_append]
  simp
theorem longK_succ (p : List Nat) (i k c : Nat) (h : [97, 98, 99][k]? = some c) : longK p i (k + 1) = if ((p.drop i).take 1 != [c]) = true then longK p i k ++ [p.take i ++ [c] ++ p.drop i] else longK p i k := by
  unfold longK
  rw [List.take_add_one (l := [97, 98, 99]), h]
  cases hc : ((p.drop i).take 1 != [c]) <;> simp [List.filter_append, hc]
local macro_rules | `(tactic| walk_at $k:str) => if ["pyIter ref", "pyIter str", "exec For Name Constant cons nil", "call builtin:list.append", "binaryOp Add str str"].contains k.getString then `(tactic| refine Hold.out ?_) else Lean.Macro.throwUnsupported
local macro_rules | `(tactic| walk_at "no such step") => `(tactic| skip)
local macro_rules | `(tactic| walk_at "TurnP") => `(tactic| dsimp only [TurnP])
inductive JLo (D : Addr) (rest : Led) (p : List Nat) (i : Nat) (m : PySem.Str → Option Value) (nx : Led) : Prop
  | mk (us : List Value) (k : Nat) (t1 : Tok) (h1 : nx = (D, listOf us.toArray k) :: rest) (h2 : Has m [(PySem.Str.ofString "word", Value.str (tx p) t1), (PySem.Str.ofString "longer", Value.ref D)]) (h3 : TxA us (longN p i)) (h4 : us.length ≤ 3 * i) : JLo D rest p i m nx
inductive JLk (D I : Addr) (oI : Obj) (rest : Led) (p : List Nat) (i : Nat) (kk : Nat) (m : PySem.Str → Option Value) (nx : Led) : Prop
  | mk (us : List Value) (k : Nat) (t1 t2 : Tok) (h1 : nx = (I, oI) :: (D, listOf us.toArray k) :: rest) (h2 : Has m [(PySem.Str.ofString "word", Value.str (tx p) t1), (PySem.Str.ofString "longer", Value.ref D), (PySem.Str.ofString "i", Value.int (i : Int) t2)]) (h3 : TxA us (longN p i ++ longK p i kk)) (h4 : us.length ≤ 3 * i + kk) : JLk D I oI rest p i kk m nx
theorem longer_ok (w : World) (p : List Nat) (t : Tok) (hp : ∀ c ∈ p, c = 97 ∨ c = 98 ∨ c = 99) (hl : p.length ≤ 8) :
   Con w 2 70 [.str (tx p) t] [] (fun r led' => ∃ D us n, r = .ref D ∧ led' = [(D, listOf (List.toArray us) n)] ∧ TxA us (longL p) ∧ us.length ≤ 30) := by
  w_top off
  unfold Con
  k_fill
  intro mean mg mb dp un gd cn cs ad ccd cl outer A₀ base h₀ L m s Q E rest B F X N T hk ho hdp hun ret
  simp only [List.nil_append] at N
  have hpl := tx_length p
  refine wpAny_call ?_
  k_dflt cell_enter
  k_steps
  refine ⟨?_⟩
  rename_i D hA l1 hB FA NA hC tkC t1 u1 v1 hrg F1 N1 hkk
  rw [hpl] at hrg
  clear FA NA hkk
  refine iter_rng0 (n := p.length + 1) (JLo D rest p)
    (by rfl) hrg (by (first | lia | omega)) (by (first | lia | omega)) (by assumption) (by assumption) ?j0 ?turn ?done
  case j0 => exact ⟨[], _, _, rfl, ps_cons rfl (ps_cons rfl ps_nil), .nil, Nat.zero_le _⟩
  case done =>
    rintro m₁ nx h tk ⟨us, k, t1, rfl, hm, hT, hul⟩ F2 N2
    replace F2 := fr_out hm F2
    clear F1 N1 hm
    k_steps
    refine ret _ [(D, listOf us.toArray k)] _ _ (by assumption) (by assumption) (fun p hp q hq => ?_) ⟨D, us, k, rfl, rfl, hT, by (first | lia | omega)⟩
    rw [List.mem_singleton.mp hp]
    exact fun e => Nat.lt_irrefl _ (e ▸ l1 q hq)
  case turn =>
    rintro i ti m₁ nx h tk I oI hi ⟨us, k, t1, rfl, hm, hT, hul⟩ hnI F2 N2
    replace F2 := fr_in hm F2
    clear F1 N1 hm hrg
    have hDI : D ≠ I := hnI _ (List.mem_cons_self ..)
    have hDr : ∀ p ∈ rest, p.1 ≠ D := fun p hp => Nat.ne_of_lt (l1 p hp)
    k_steps
    refine ⟨?_⟩
    rename Fr _ _ _ _ => F3
    rename News _ _ _ _ => N3
    with_unfolding_all refine' For_invVF F3 ?k1 ?k2 ?_
    case k1 => exact rfl
    case k2 => exact rfl
    k_steps
    refine ⟨?_⟩
    refine iter_str (l := [97, 98, 99]) (JLk D I oI rest p i)
      (by rfl) rfl (by decide) (by assumption) (by assumption) ?i0 ?iturn ?idone
    case i0 => exact ⟨us, k, _, _, rfl, ps_cons rfl (ps_cons rfl (ps_cons rfl ps_nil)), by simpa [longK] using hT, by (first | lia | omega)⟩
    case idone =>
      rintro m₂ nx h2 tk2 ⟨us, k, t1, t2, rfl, hm, hT, hul⟩ F4 N4
      replace F4 := fr_out hm F4
      clear F3 N3 hm
      k_steps
      refine TEnd.mk (by assumption) (by assumption) (fun q hq => ?_) ⟨us, k, _, rfl, ps_cons rfl (ps_cons rfl ps_nil), by rw [longN_succ]; exact hT, by simp at hul; (first | lia | omega)⟩
      rcases List.mem_cons.mp hq with rfl | hq
      · exact hDI
      · exact hnI q (List.mem_cons_of_mem _ hq)
    case iturn =>
      rintro kk c uc m₂ nx h2 tk2 I2 oI2 hc ⟨us, k, t1, t2, rfl, hm, hT, hul⟩ hnI2 F4 N4
      replace F4 := fr_in hm F4
      clear F3 N3 hm
      have e1 : ((i : Int) + 1) = ((i + 1 : Nat) : Int) := by (first | lia | omega)
      have hoff2 : ∀ {o' : Obj}, ∀ q ∈ ((I, oI) :: (D, o') :: rest : Led), q.1 ≠ I2 := by
        intro o' q hq
        rcases List.mem_cons.mp hq with rfl | hq
        · exact hnI2 (I, oI) (List.mem_cons_self ..)
        · rcases List.mem_cons.mp hq with rfl | hq
          · exact hnI2 (D, listOf us.toArray k) (List.mem_cons_of_mem _ (List.mem_cons_self ..))
          · exact hnI2 q (List.mem_cons_of_mem _ (List.mem_cons_of_mem _ hq))
      have hkk : kk < 3 := by have := (List.getElem?_eq_some_iff.mp hc).1; simpa using this
      k_steps
      · refine ⟨?_⟩
        rename (_ != _) = true => he
        rw [e1, slice_two p i (i + 1) (by (first | lia | omega)), bne_tx, show i + 1 - i = 1 by (first | lia | omega)] at he
        refine add_tx (a := p.take i) (slice_to p i) rfl (by simp; (first | lia | omega)) ?_
        intro _ _
        try dsimp only
        k_steps
        refine ⟨?_⟩
        refine add_tx (b := p.drop i) rfl (slice_from p i) (by simp; (first | lia | omega)) ?_
        intro tu ku
        try dsimp only
        k_steps
        refine ⟨?_⟩
        refine append_led (D := D) (vs := us) (n := k) (by assumption) (by assumption) (by k_mem) (by (first | lia | omega)) ?_
        intro h5 n5 F5 N5
        try dsimp only
        have hN := N5 ((I2, oI2) :: (I, oI) :: (D, listOf (us ++ [Value.str (tx (p.take i ++ [c] ++ p.drop i)) tu]).toArray n5) :: rest) (by
          intro q hq
          rcases List.mem_cons.mp hq with rfl | hq
          · exact .inr ⟨List.mem_cons_self .., Ne.symm (hnI2 _ (List.mem_cons_of_mem _ (List.mem_cons_self ..)))⟩
          · rcases List.mem_cons.mp hq with rfl | hq
            · exact .inr ⟨List.mem_cons_of_mem _ (List.mem_cons_self ..), hDI.symm⟩
            · rcases List.mem_cons.mp hq with rfl | hq
              · exact .inl rfl
              · exact .inr ⟨List.mem_cons_of_mem _ (List.mem_cons_of_mem _ (List.mem_cons_of_mem _ hq)), hDr q hq⟩)
        clear N5
        k_steps
        refine TEnd.mk (by assumption) (by assumption) (fun q hq => ?_) ⟨_, n5, _, _, rfl, ps_cons rfl (ps_cons rfl (ps_cons rfl ps_nil)), ?_, by simp; (first | lia | omega)⟩
        · exact hoff2 q hq
        · rw [longK_succ p i kk c hc, if_pos he, ← List.append_assoc]
          exact TxA.snoc hT
      · rename (_ != _) = false => he
        rw [e1, slice_two p i (i + 1) (by (first | lia | omega)), bne_tx, show i + 1 - i = 1 by (first | lia | omega)] at he
        refine TEnd.mk (by assumption) (by assumption) hnI2 ⟨us, k, _, _, rfl, ps_cons rfl (ps_cons rfl (ps_cons rfl ps_nil)), ?_, by (first | lia | omega)⟩
        rw [longK_succ p i kk c hc, if_neg (by rw [he]; exact Bool.false_ne_true)]
        exact hT
end law1
end Mine
end TLLonger
section TLDraws
open PySem PySem.W PyProof.Rows PySem.Calls PySem.Spec
set_option maxRecDepth 100000
set_option maxHeartbeats 1000000
namespace Mine
section law1
/-- what the draws' def is told: the script's list stands in the base -/
def ConB (w : World) (d : Nat) (f : Addr) (vs : List Value) (S : Addr) (us : List Value) (Out : Value → Led → Prop) : Prop :=
  ∀ (mean : ExcName → Option Value) (mg mb : PySem.Str → Option Value) (dp un : Nat) (gd : Option (List Code)) (cn : PySem.Str) (cs : Scope) (a : Addr) (ccd : Value) (cl : List (PySem.Str × Addr)) (outer : List Env) (A₀ : Around) (base h₀ : Heap) (L : Addr) (m : PySem.Str → Option Value) (s : Shared) (Q E : Value → Shared → Prop) (rest : Led),
    Below A₀ base outer h₀ → Fr h₀ L s.heap m → (hd.heap_39 w.params).In h₀ → News h₀ L s.heap rest → Top hd.view_39 (looseW hd.view_39 []) mean mg mb h₀ → cs.kind = .function → h₀.IsList S us.toArray → dp + d < recursionLimit → un + 8 * d < cLine →
    (∀ r led' h' tk', Fr h₀ L h' m → News h₀ L h' (led' ++ rest) → Off led' rest → Out r led' → Q r { s with heap := h', toks := tk' }) →
    wpAny (model PySem.Challenge.rw_pg0176_02.row.prog w) (ktrTop dp un gd cn cs L a ccd cl outer) (call (.ref f) vs) Q E s
local macro_rules | `(tactic| walk_at $k:str) => if ["pyIter ref", "call type:enumerate", "eval ListComp", "subscriptTail Name Slice ref ref", "CompSrc", "CompEnd", "call builtin:list.append", "call builtin:sum"].contains k.getString then `(tactic| refine Hold.out ?_) else Lean.Macro.throwUnsupported
theorem News.mid {h₀ h' : Heap} {L D : Addr} {o o' : Obj} {pre0 pre post : Led} (h : ∀ news', (∀ p ∈ news', p = (D, o') ∨ (p ∈ (pre0 ++ (pre ++ (D, o) :: post) : Led) ∧ p.1 ≠ D)) → News h₀ L h' news') (h1 : ∀ q ∈ pre, q.1 ≠ D) (h2 : ∀ q ∈ post, q.1 ≠ D) : News h₀ L h' (pre ++ (D, o') :: post) :=
  h _ fun p hp => by
    rcases List.mem_append.mp hp with hp | hp
    · exact .inr ⟨List.mem_append_right _ (List.mem_append_left _ hp), h1 p hp⟩
    · rcases List.mem_cons.mp hp with rfl | hp
      · exact .inl rfl
      · exact .inr ⟨List.mem_append_right _ (List.mem_append_right _ (List.mem_cons_of_mem _ hp)), h2 p hp⟩
theorem enum_obj {h₀ h : Heap} {L EL : Addr} {r : Led} {n : Nat} {xs : List Value} {is : List Int} (N : News h₀ L h ((EL, listOf (List.toArray xs) n) :: r)) (hI : IntsAre xs is) : ∃ (EO : Obj) (vs : List Value), News h₀ L h ((EL, EO) :: r) ∧ EO.cls = .type "list" ∧ EO.data = .seq (List.toArray vs) n ∧ IntsAre vs is := ⟨_, xs, N, rfl, rfl, hI⟩
theorem picked_ints {vs : List Value} {ns : List Int} (hI : IntsAre vs ns) (lo hi st : Option Int) : ∃ ms, IntsAre (slicePick vs.toArray lo hi st).toList ms := by
  have key : ∀ l : List Nat, ∃ ms, IntsAre (l.filterMap (vs.toArray[·]?)) ms := by
    intro l
    induction l with
    | nil => exact ⟨[], .nil⟩
    | cons a r ih =>
      obtain ⟨ms, h⟩ := ih
      cases e : vs.toArray[a]? with
      | none => exact ⟨ms, by rw [List.filterMap_cons, e]; exact h⟩
      | some v =>
        obtain ⟨k, t, rfl, _⟩ := hI.at a v (by simpa using e)
        exact ⟨k :: ms, by rw [List.filterMap_cons, e]; exact .cons k t h⟩
  exact key _
local macro_rules | `(tactic| walk_at "UnrPostW") => `(tactic| dsimp only [UnrPostW])
inductive JDr (S D EL : Addr) (EO : Obj) (rest : Led) (i : Nat) (m : PySem.Str → Option Value) (nx : Led) : Prop
  | mk (us : List Value) (k : Nat) (is : List Int) (h1 : nx = (EL, EO) :: (D, listOf us.toArray k) :: rest) (h2 : Has m [(PySem.Str.ofString "script", Value.ref S), (PySem.Str.ofString "draws", Value.ref D)]) (h3 : IntsAre us is) (h4 : is.length = i) : JDr S D EL EO rest i m nx
theorem draws_ok (w : World) (S : Addr) (vs : List Value) (ns : List Int) (hI : IntsAre vs ns) (hl : ns.length ≤ 63) :
   ConB w 4 87 [.ref S] S vs (fun r led' => ∃ D us n is, r = .ref D ∧ led' = [(D, listOf (List.toArray us) n)] ∧ IntsAre us is ∧ is.length = 8) := by
  w_top off
  unfold ConB
  k_fill
  intro mean mg mb dp un gd cn cs ad ccd cl outer A₀ base h₀ L m s Q E rest B F X N T hk hS hdp hun ret
  refine wpAny_call ?_
  k_dflt cell_enter
  k_steps
  rename_i tkz D hA l1 hB EL hC FA NA l2
  refine ⟨?_⟩
  have hls : IntsAre vs ns := hI
  obtain ⟨oS, hoS, rS⟩ := hS
  rename Fr h₀ _ _ _ => FG
  have hSg := FG.keep _ _ hoS
  obtain ⟨EO, es, NB, hEc, hEd, hEi⟩ := enum_obj (is := [0, 0, 0, 1, 2, 5, 3, 2]) NA (by repeat' constructor)
  clear NA
  have hel : es.length = 8 := hEi.length
  with_unfolding_all refine ktu_enum (by rfl) FA NB (List.mem_cons_self ..) hEc hEd rfl ?_
  intro I lI
  refine items_inv _ (JDr S D EL EO rest) ?hk ?turn ?done 0 _ _ _ (Nat.zero_le _) rfl ?j0
  case hk =>
    rintro i m nx ⟨us, k, is, rfl, _⟩
    exact ⟨List.mem_cons_self .., trivial⟩
  case j0 => exact ⟨[], 0, [], rfl, ps_cons rfl (ps_cons rfl ps_nil), .nil, rfl⟩
  case done =>
    rintro m₁ nx h tk ⟨us, k, is, rfl, hm, hU, hUl⟩ F2 N2
    replace F2 := fr_out hm F2
    clear FA NB hm
    k_steps
    refine ret _ [(D, listOf us.toArray k)] _ _ (by assumption) (News.tl (by assumption)) (fun p hp q hq => ?_) ⟨D, us, k, is, rfl, rfl, hU, hUl.trans (by rw [enumItems_length, hel])⟩
    rw [List.mem_singleton.mp hp]
    exact fun e => Nat.lt_irrefl _ (e ▸ l1 q hq)
  case turn =>
    rintro i a v h tk m₁ nx hia hav ⟨us, k, is, rfl, hm, hU, hUl⟩ F2
    have hi8 : i < 8 := by
      have := (List.getElem?_eq_some_iff.mp hia).1
      rw [enumItems_length, hel] at this; exact this
    obtain ⟨o, u, hx⟩ : ∃ o u, es[i]? = some (Value.int o u) := by
      have h1 : i < es.length := by (first | lia | omega)
      obtain ⟨o, u, _, h2⟩ := hEi.at i es[i] (List.getElem?_eq_getElem h1)
      refine ⟨o, u, ?_⟩
      rename es[i] = _ => h3
      rw [List.getElem?_eq_getElem h1, h3]
    have ha := (Option.some.inj (hia.symm.trans (enumItems_get es 0 i hx)))
    subst ha
    obtain ⟨TT, tT, rfl, hTup⟩ := hav
    rw [Nat.zero_add] at hTup
    replace F2 := fr_out hm F2
    clear FA NB hm hia
    intro o1 ho1 o2 ho2 NN
    simp only [List.cons_append, List.nil_append] at NN
    k_steps
    refine ⟨?_⟩
    k_dflt refine LCg.ListComp_U (F₀ := by k_asm) (by rfl) (by decide) (by rfl) (by decide) (by rfl) ?_
    k_steps
    refine ⟨?_⟩
    rename Fr _ _ _ _ => F3
    rename News _ _ _ _ => N3
    obtain ⟨ms, hms⟩ := picked_ints hI (some (i : Int)) (some 16) (some 8)
    have hsz := slicePick_size_le vs.toArray (some (i : Int)) (some 16) (some 8)
    have hvl := hI.length
    have hvs : vs.toArray.size = vs.length := List.size_toArray ..
    generalize hzs : (slicePick vs.toArray (some (i : Int)) (some 16) (some 8)).toList = zs at hms
    have hzl : zs.length ≤ 63 := by rw [← hzs, Array.length_toList]; (first | lia | omega)
    k_dflt (refine' kmk_slice3_lit F3 N3 ⟨oS, F3.keep _ _ hSg, rS⟩ ?zp ?zq ?zk ?zo hzs ?_ ?zs ?zt ?zz; (case zp => kmk_part); (case zq => kmk_part); (case zk => kmk_part); (case zo => decide); (case zs => with_unfolding_all rfl); (case zt => kmk_pure); (case zz => (rw [PySem.sizeLine_eq, List.size_toArray]; (first | lia | omega))))
    intro D2 h5 F5 N5 l5
    dsimp only
    k_steps
    refine ⟨?_⟩
    k_dflt refine LCg.CompSrc.ledger (by rfl) (by k_asm) (by k_asm) (List.mem_cons_self ..) (by rw [PySem.sizeLine_eq, List.size_toArray]; (first | lia | omega)) ?_
    intro g6
    refine comp_U (fun j ys nx => nx = (D2, listOf zs.toArray 0) :: (I + 1, o1) :: (I, o2) :: (EL, EO) :: (D, listOf us.toArray k) :: rest ∧ ∃ ys', IntsAre ys ys' ∧ ys'.length = j) ⟨rfl, [], .nil, rfl⟩ ?_ ?_
    · rintro j v I3 oI3 C3 oC3 D3 m₂ ys nx h7 tk7 E7 hj hv ⟨rfl, ys', hys, hyl⟩ hC hx F7 N7 off ne
      obtain ⟨n7, t7, rfl, _⟩ := hms.at j v (by simpa using hv)
      clear F5 N5
      dsimp only
      k_steps
      refine ⟨?_⟩
      exact LCg.CompEnd.intro (by assumption) (by assumption) _ (fun p hp => hp) off (.inr ⟨_, List.mem_cons_self .., rfl, _, rfl⟩) ⟨rfl, ys' ++ [n7.fmod 1000], IntsAre.append hys (.cons _ _ .nil), by simp [hyl]⟩
    · rintro ys nx ⟨rfl, ys', hys, hyl⟩
      k_steps
      refine ⟨?_⟩
      rename Fr _ _ _ _ => F8
      rename News _ _ _ _ => N8
      rename _ ∧ _ => o8
      clear F3 N3 F5 N5
      k_dflt refine LSm.sum_ints F8 N8 (by rfl) (News.isList N8 (List.mem_cons_self ..)) hys ?_
      intro h9 tk9 t9 F9 N9
      dsimp only
      clear F8 N8
      k_steps
      refine ⟨?_⟩
      refine append_led (D := D) (vs := us) (n := k) (by assumption) (by assumption) (by k_mem) (by have := hU.length; (first | lia | omega)) ?_
      intro h10 n10 F10 N10
      dsimp only
      have hDr : ∀ q ∈ rest, q.1 ≠ D := fun q hq => Nat.ne_of_lt (l1 q hq)
      have hDEL : EL ≠ D := Nat.ne_of_gt l2.1
      have lD : D < I := lI (D, listOf #[] 0) (List.mem_cons_of_mem _ (List.mem_cons_self ..))
      have lEL : EL < I := lI (EL, EO) (List.mem_cons_self ..)
      have lr : ∀ q ∈ rest, q.1 < I := fun q hq => lI q (List.mem_cons_of_mem _ (List.mem_cons_of_mem _ hq))
      have hN := News.mid (pre0 := [_, _]) (pre := [(I + 1, o1), (I, o2), (EL, EO)]) N10 (by
        intro q hq
        rcases List.mem_cons.mp hq with rfl | hq
        · exact Nat.ne_of_gt (Nat.lt_succ_of_lt lD)
        rcases List.mem_cons.mp hq with rfl | hq
        · exact Nat.ne_of_gt lD
        · rw [List.mem_singleton.mp hq]; exact hDEL) hDr
      simp only [List.cons_append, List.nil_append] at hN
      clear N10
      have hlt : ∀ {o' : Obj}, ∀ q ∈ ((EL, EO) :: (D, o') :: rest : Led), q.1 < I := by
        intro o' q hq
        rcases List.mem_cons.mp hq with rfl | hq
        · exact lEL
        rcases List.mem_cons.mp hq with rfl | hq
        · exact lD
        · exact lr q hq
      k_steps
      refine ⟨_, _, _, _, rfl, by assumption, hN, fun p hp q hq => ?_, _, _, is ++ [o + ys'.sum], rfl, ps_cons rfl (ps_cons rfl ps_nil), IntsAre.append hU (.cons _ _ .nil), by simp [hUl]⟩
      have h1 := hlt p hp
      rcases List.mem_cons.mp hq with rfl | hq
      · exact Nat.ne_of_lt (Nat.lt_succ_of_lt h1)
      · rw [List.mem_singleton.mp hq]; exact Nat.ne_of_lt h1
end law1
end Mine
end TLDraws
section TLEq
open PySem PySem.W PyProof.Rows PySem.Calls PySem.Spec PyProof.V
set_option maxRecDepth 100000
set_option maxHeartbeats 1000000
namespace Mine
section eqs
theorem ks_canLayAll0 : ∀ ns : List PySem.Str, (∀ n ∈ ns, PyData.strOk n = true) → PyData.canLayAll0 (ns.map PyData.str) = true
  | [], _ => rfl
  | a :: r, h => by simp [PyData.canLayAll0, PyData.canLay0, ks_canLayAll0 r fun n hn => h n (List.mem_cons_of_mem _ hn), h a (List.mem_cons_self ..)]
theorem ks_depthAll : ∀ ns : List PySem.Str, PyData.depthAll (ns.map PyData.str) = 0
  | [] => rfl
  | _ :: r => by simp [PyData.depthAll, PyData.depth, ks_depthAll r]
theorem ks_shaped (ns : List PySem.Str) (h : ∀ n ∈ ns, PyData.strOk n = true) : SeqAt.shaped (.list (ns.map PyData.str)) = true := by
  simp [SeqAt.shaped, PyData.canLay0, PyData.depth, ks_canLayAll0 ns h, ks_depthAll]
theorem ks_sameAll : ∀ ns ms : List PySem.Str, PySem.Spec.sameAll (ns.map PyData.str) (ms.map PyData.str) = decide (ns = ms)
  | [], [] => by simp [PySem.Spec.sameAll]
  | [], _ :: _ => by simp [PySem.Spec.sameAll]
  | _ :: _, [] => by simp [PySem.Spec.sameAll]
  | a :: r, b :: t => by
    simp only [List.map_cons, PySem.Spec.sameAll, PyProof.V.same_str, ks_sameAll r t]
    by_cases h : a = b <;> by_cases h' : r = t <;> simp [h, h']
theorem ks_same (ns ms : List PySem.Str) : PySem.Spec.same (.list (ns.map PyData.str)) (.list (ms.map PyData.str)) = decide (ns = ms) := by
  simp only [PySem.Spec.same]; exact ks_sameAll ns ms
theorem ks_carried : ∀ {vs : List Value} {ns : List PySem.Str}, StrsAre vs ns → CarriedAll vs (ns.map PyData.str)
  | _, _, .nil => .nil
  | _, _, .cons _ t r => .cons (.str _ t) (ks_carried r)
variable {prog : Program} {w : World} {A : Around} {E : Value → Shared → Prop} {s : Shared} {a b : Addr} {xs ys : List Value} {ns ms : List PySem.Str} {Q : Value → Shared → Prop}
theorem ks_ne (ha : s.heap.IsList a xs.toArray) (hb : s.heap.IsList b ys.toArray) (hi : StrsAre xs ns) (hj : StrsAre ys ms) (oi : ∀ n ∈ ns, PyData.strOk n = true) (oj : ∀ n ∈ ms, PyData.strOk n = true) (hu : A.units + 64 < cLine) (h : Q (.bool (!decide (ns = ms))) s) :
    wpAny (model prog w) A (compareOp .NotEq (.ref a) (.ref b)) Q E s :=
  ne_dataH_same (reads_newData ha (ks_carried hi)) (reads_newData hb (ks_carried hj)) (ks_shaped _ oi) (ks_shaped _ oj) hu (SeqAt.noMix_of_shape (.list .str) rfl _ _ (list_map_has fun _ => rfl) (list_map_has fun _ => rfl)) (by rw [ks_same]; exact h)
end eqs
end Mine
end TLEq
section TLPureA
set_option maxRecDepth 100000
namespace Mine
section words
def sg (wd : List Nat) : Prop := ∀ c ∈ wd, c = 97 ∨ c = 98 ∨ c = 99
theorem sg_tl {c : Nat} {r : List Nat} (h : sg (c :: r)) : sg r := fun d hd => h d (List.mem_cons_of_mem _ hd)
theorem shortL_cons (c : Nat) (r : List Nat) : shortL (c :: r) = (if ([c] != r.take 1) = true then [r] else []) ++ (shortL r).map (c :: ·) := by
  unfold shortL
  rw [List.length_cons, List.range_succ_eq_map, List.filter_cons, List.filter_map]
  have e : ((fun i => ((c :: r).drop i).take 1 != ((c :: r).drop (i + 1)).take 1) ∘ Nat.succ) = fun i => (r.drop i).take 1 != (r.drop (i + 1)).take 1 := rfl
  rw [e]
  have e2 : ((c :: r).drop 0).take 1 = [c] := by simp
  have e3 : ((c :: r).drop (0 + 1)).take 1 = r.take 1 := rfl
  rw [e2, e3]
  split
  · rw [List.map_cons, List.map_map, List.map_map]; rfl
  · rw [List.map_map, List.map_map]; rfl
theorem sub_len {a b : List Nat} (h : a.Sublist b) (hl : a.length = b.length) : a = b := h.eq_of_length hl
theorem sub_cons_ne {a b : List Nat} {c d : Nat} (hne : c ≠ d) (h : (c :: a).Sublist (d :: b)) : (c :: a).Sublist b := by
  rcases List.sublist_cons_iff.mp h with h | ⟨r, e, _⟩
  · exact h
  · exact absurd (List.cons.inj e).1 hne
theorem shortL_mem : ∀ {t p : List Nat}, p ∈ shortL t ↔ p.length + 1 = t.length ∧ p.Sublist t
  | [], p => by simp [shortL]
  | c :: r, p => by
    rw [shortL_cons, List.mem_append, List.mem_map]
    constructor
    · rintro (h | ⟨q, hq, rfl⟩)
      · split at h
        · rw [List.mem_singleton.mp h]
          exact ⟨rfl, List.sublist_cons_self ..⟩
        · exact nomatch h
      · obtain ⟨h1, h2⟩ := shortL_mem.mp hq
        exact ⟨by simp only [List.length_cons]; (first | lia | omega), h2.cons_cons c⟩
    · rintro ⟨h1, h2⟩
      have hl : p.length = r.length := by simpa using h1
      have main : ∀ q, p = c :: q → q.Sublist r → ∃ a ∈ shortL r, c :: a = p := fun q e hq => ⟨q, shortL_mem.mpr ⟨by rw [e] at hl; simpa using hl, hq⟩, e.symm⟩
      rcases List.sublist_cons_iff.mp h2 with h | ⟨q, e, hq⟩
      · have e := sub_len h hl
        by_cases ht : ([c] != r.take 1) = true
        · exact .inl (by rw [if_pos ht, e]; exact List.mem_singleton.mpr rfl)
        · refine .inr ?_
          match r, e, ht with
          | [], e, ht => exact absurd rfl ht
          | d :: r', e, ht =>
            have hd : c = d := by simpa using ht
            exact main r' (by rw [e, hd]) (List.sublist_cons_self ..)
      · exact .inr (main q e hq)
theorem shortL_nodup : ∀ t : List Nat, (shortL t).Nodup
  | [] => by simp [shortL]
  | c :: r => by
    rw [shortL_cons]
    have h1 : ((shortL r).map (c :: ·)).Nodup := List.Pairwise.map (R := (· ≠ ·)) _ (fun a b h e => h (List.cons.inj e).2) (shortL_nodup r)
    split
    · rename_i ht
      rw [List.singleton_append, List.nodup_cons]
      refine ⟨fun h => ?_, h1⟩
      obtain ⟨q, _, e⟩ := List.mem_map.mp h
      rw [← e] at ht
      simp at ht
    · exact h1
theorem longK_cons (d : Nat) (r : List Nat) (i : Nat) : longK (d :: r) (i + 1) 3 = (longK r i 3).map (d :: ·) := by
  unfold longK
  rw [List.map_map]; rfl
theorem longL_cons (d : Nat) (r : List Nat) : longL (d :: r) = (([97, 98, 99].filter fun c => [d] != [c]).map fun c => c :: d :: r) ++ (longL r).map (d :: ·) := by
  unfold longL longN
  rw [List.length_cons, List.range_succ_eq_map, List.flatMap_cons, List.flatMap_map, List.map_flatMap]
  congr 1
  · congr 1
    funext i
    exact longK_cons d r i
theorem longL_nil : longL [] = [[97], [98], [99]] := by decide
theorem longL_iff : ∀ {wd q : List Nat}, sg wd → (q ∈ longL wd ↔ wd.Sublist q ∧ q.length = wd.length + 1 ∧ sg q)
  | [], q, _ => by
    rw [longL_nil]
    constructor
    · intro h
      simp only [List.mem_cons, List.not_mem_nil, or_false] at h
      rcases h with rfl | rfl | rfl <;> exact ⟨List.nil_sublist _, rfl, by intro c hc; simp at hc; (first | lia | omega)⟩
    · rintro ⟨_, h2, h3⟩
      match q, h2 with
      | [c], _ =>
        rcases h3 c (List.mem_singleton.mpr rfl) with rfl | rfl | rfl <;> simp
  | d :: r, q, hs => by
    have hr := sg_tl hs
    have hd := hs d (List.mem_cons_self ..)
    rw [longL_cons, List.mem_append, List.mem_map, List.mem_map]
    constructor
    · rintro (⟨c, hc, rfl⟩ | ⟨a, ha, rfl⟩)
      · refine ⟨List.sublist_cons_self .., rfl, ?_⟩
        intro e he
        rcases List.mem_cons.mp he with rfl | he
        · have := (List.mem_filter.mp hc).1
          simpa using this
        · exact hs e he
      · obtain ⟨h1, h2, h3⟩ := (longL_iff hr).mp ha
        refine ⟨h1.cons_cons d, by simp [h2], ?_⟩
        intro e he
        rcases List.mem_cons.mp he with rfl | he
        · exact hd
        · exact h3 e he
    · rintro ⟨h1, h2, h3⟩
      match q, h2 with
      | c :: q', h2 =>
        have hl : q'.length = r.length + 1 := by simpa using h2
        by_cases e : d = c
        · subst e
          exact .inr ⟨q', (longL_iff hr).mpr ⟨List.cons_sublist_cons.mp h1, hl, sg_tl h3⟩, rfl⟩
        · have h4 := sub_len (sub_cons_ne e h1) (by simp [hl])
          refine .inl ⟨c, List.mem_filter.mpr ⟨?_, by simpa using e⟩, by rw [h4]⟩
          have := h3 c (List.mem_cons_self ..)
          simpa using this
theorem longL_nodup : ∀ p : List Nat, (longL p).Nodup
  | [] => by rw [longL_nil]; decide
  | d :: r => by
    rw [longL_cons]
    refine List.nodup_append.mpr ⟨?_, ?_, ?_⟩
    · refine List.Pairwise.map (R := (· ≠ ·)) _ (fun a b h e => h (List.cons.inj e).1) ?_
      exact List.Pairwise.filter _ (by decide)
    · exact List.Pairwise.map (R := (· ≠ ·)) _ (fun a b h e => h (List.cons.inj e).2) (longL_nodup r)
    · intro a ha b hb e
      subst e
      obtain ⟨c, hc, rfl⟩ := List.mem_map.mp ha
      obtain ⟨q, hq, e⟩ := List.mem_map.mp hb
      have h1 := (List.mem_filter.mp hc).2
      have h2 := (List.cons.inj e).1
      subst h2
      simp at h1
end words
end Mine
end TLPureA
section TLPureW
open PySem PySem.W PyProof.Rows PySem.Calls PySem.Spec
set_option maxRecDepth 100000
set_option maxHeartbeats 1000000
namespace Mine
section words
/-- how often each part comes, in the order of its first coming -/
def tally (ps : List (List Nat)) : List (PySem.Str × Int) := ps.foldl (fun c p => kdpPut c (tx p) (kdpLook c (tx p) 0 + 1)) []
def keysOf (ps : List (List Nat)) : List (List Nat) := ps.foldl (fun l p => if p ∈ l then l else l ++ [p]) []
/-- which of the texts hold the part -/
def holds3 (ts : List (List Nat)) (p : List Nat) : List (List Nat) := ts.filter fun t => decide (p.Sublist t)
def entOf (ts : List (List Nat)) (p : List Nat) : Ent := (-((holds3 ts p).length : Int), p)
theorem keysOf_snoc (ps : List (List Nat)) (p : List Nat) : keysOf (ps ++ [p]) = if p ∈ keysOf ps then keysOf ps else keysOf ps ++ [p] := by
  unfold keysOf; rw [List.foldl_append]; rfl
theorem tally_snoc0 (ps : List (List Nat)) (p : List Nat) : tally (ps ++ [p]) = kdpPut (tally ps) (tx p) (kdpLook (tally ps) (tx p) 0 + 1) := by
  unfold tally; rw [List.foldl_append]; rfl
theorem snoc_ind {α : Type} {P : List α → Prop} (h0 : P []) (h1 : ∀ l a, P l → P (l ++ [a])) (l : List α) : P l := by
  have key : ∀ (n : Nat) (l : List α), l.length = n → P l := by
    intro n
    induction n with
    | zero => intro l h; rw [List.length_eq_zero_iff.mp h]; exact h0
    | succ n ih =>
      intro l h
      have hne : l ≠ [] := fun e => by subst e; simp at h
      rw [← List.dropLast_concat_getLast hne]
      exact h1 _ _ (ih _ (by simp [h]))
  exact key _ l rfl
theorem keysOf_mem {ps : List (List Nat)} {p : List Nat} : p ∈ keysOf ps ↔ p ∈ ps := by
  refine snoc_ind (P := fun ps => p ∈ keysOf ps ↔ p ∈ ps) ?_ ?_ ps
  · exact Iff.rfl
  · intro l a ih
    rw [keysOf_snoc]
    split
    · rename_i h
      rw [ih, List.mem_append, List.mem_singleton]
      constructor
      · exact .inl
      · rintro (h1 | rfl)
        · exact h1
        · exact ih.mp h
    · rw [List.mem_append, List.mem_append, ih]
theorem keysOf_nodup (ps : List (List Nat)) : (keysOf ps).Nodup := by
  refine snoc_ind (P := fun ps => (keysOf ps).Nodup) ?_ ?_ ps
  · exact List.nodup_nil
  · intro l a ih
    rw [keysOf_snoc]
    split
    · exact ih
    · rename_i h
      refine List.nodup_append.mpr ⟨ih, by simp, ?_⟩
      intro b hb c hc e
      rw [List.mem_singleton.mp hc] at e
      exact h (e ▸ hb)
theorem tx_eq {a b : List Nat} : tx a = tx b ↔ a = b := ⟨tx_inj, fun h => by rw [h]⟩
theorem look_map (ks : List (List Nat)) (f : List Nat → Int) (p : List Nat) (h : p ∈ ks) : kdpHas (ks.map fun k => (tx k, f k)) (tx p) = true ∧ kdpLook (ks.map fun k => (tx k, f k)) (tx p) 0 = f p := by
  constructor
  · unfold kdpHas
    rw [List.any_map, List.any_eq_true]
    exact ⟨p, h, by simp⟩
  · unfold kdpLook
    induction ks with
    | nil => exact nomatch h
    | cons k ks ih =>
      rw [List.map_cons, List.find?_cons]
      by_cases e : k = p
      · subst e; simp
      · have : decide ((tx k, f k).1 = tx p) = false := by simp [tx_eq, e]
        rw [this]
        exact ih ((List.mem_cons.mp h).resolve_left fun e2 => e e2.symm)
theorem look_none (ks : List (List Nat)) (f : List Nat → Int) (p : List Nat) (h : p ∉ ks) : kdpHas (ks.map fun k => (tx k, f k)) (tx p) = false ∧ kdpLook (ks.map fun k => (tx k, f k)) (tx p) 0 = 0 := by
  have h1 : ∀ x ∈ ks.map (fun k => (tx k, f k)), ¬ (decide (x.1 = tx p)) = true := by
    intro x hx
    obtain ⟨k, hk, rfl⟩ := List.mem_map.mp hx
    simp only [decide_eq_true_eq, tx_eq]
    exact fun e => h (e ▸ hk)
  constructor
  · unfold kdpHas
    rw [List.any_eq_false]
    exact h1
  · unfold kdpLook
    rw [List.find?_eq_none.mpr h1]; rfl
theorem tally_eq (ps : List (List Nat)) : tally ps = (keysOf ps).map fun k => (tx k, (ps.count k : Int)) := by
  refine snoc_ind (P := fun ps => tally ps = (keysOf ps).map fun k => (tx k, (ps.count k : Int))) rfl ?_ ps
  intro l a ih
  rw [tally_snoc0, keysOf_snoc, ih]
  by_cases h : a ∈ keysOf l
  · obtain ⟨h1, h2⟩ := look_map (keysOf l) (fun k => (l.count k : Int)) a h
    rw [if_pos h, h2]
    unfold kdpPut
    have h1' : ((keysOf l).map fun k => (tx k, (l.count k : Int))).any (fun p => decide (p.1 = tx a)) = true := h1
    rw [if_pos h1', List.map_map]
    refine List.map_congr_left fun k _ => ?_
    by_cases e : k = a
    · subst e; simp [List.count_append]
    · have e2 : ¬ a = k := fun x => e x.symm
      simp [tx_eq, e, e2, List.count_append, List.count_cons]
  · obtain ⟨h1, h2⟩ := look_none (keysOf l) (fun k => (l.count k : Int)) a h
    rw [if_neg h, h2]
    unfold kdpPut
    have h1' : ((keysOf l).map fun k => (tx k, (l.count k : Int))).any (fun p => decide (p.1 = tx a)) = false := h1
    rw [if_neg (by rw [h1']; exact Bool.false_ne_true), List.map_append]
    congr 1
    · refine List.map_congr_left fun k hk => ?_
      have e2 : ¬ a = k := fun x => h (x ▸ hk)
      simp [List.count_append, List.count_cons, e2]
    · have h0 : l.count a = 0 := List.count_eq_zero.mpr fun x => h (keysOf_mem.mpr x)
      simp [List.count_append, h0]
theorem look_at {ps : List (List Nat)} {p : List Nat} (h : p ∈ keysOf ps) : kdpHas (tally ps) (tx p) = true ∧ kdpLook (tally ps) (tx p) 0 = (ps.count p : Int) := by
  rw [tally_eq]; exact look_map _ (fun k => (ps.count k : Int)) p h
theorem count_nodup {l : List (List Nat)} (h : l.Nodup) (p : List Nat) : l.count p = if p ∈ l then 1 else 0 := by
  split
  · rename_i hp
    have h1 := List.nodup_iff_count.mp h p
    have h2 := List.count_pos_iff.mpr hp
    (first | lia | omega)
  · rename_i hp
    exact List.count_eq_zero.mpr hp
theorem count_parts {n : Nat} {ts : List (List Nat)} (h : ∀ t ∈ ts, t.length = n + 1) {p : List Nat} (hp : p.length = n) : (ts.flatMap shortL).count p = (holds3 ts p).length := by
  induction ts with
  | nil => rfl
  | cons t ts ih =>
    rw [List.flatMap_cons, List.count_append, ih fun q hq => h q (List.mem_cons_of_mem _ hq), count_nodup (shortL_nodup t)]
    unfold holds3
    rw [List.filter_cons]
    have ht := h t (List.mem_cons_self ..)
    by_cases hs : p.Sublist t
    · rw [if_pos (shortL_mem.mpr ⟨by (first | lia | omega), hs⟩), if_pos (decide_eq_true hs), List.length_cons]; (first | lia | omega)
    · rw [if_neg (fun x => hs (shortL_mem.mp x).2), if_neg (by simpa using hs)]; (first | lia | omega)
end words
end Mine
end TLPureW
section TLPureV
set_option maxRecDepth 100000
set_option maxHeartbeats 1000000
namespace Mine
section lev
theorem low_aux {i j a b c t : Nat} (h1 : 2 * i ≤ a + 2 * (j + 1) ∧ 2 * (j + 1) ≤ a + 2 * i) (h2 : 2 * (i + 1) ≤ b + 2 * j ∧ 2 * j ≤ b + 2 * (i + 1)) (h3 : 2 * i ≤ c + 2 * j ∧ 2 * j ≤ c + 2 * i) : 2 * (i + 1) ≤ min (min a b + 2) (c + t) + 2 * (j + 1) ∧ 2 * (j + 1) ≤ min (min a b + 2) (c + t) + 2 * (i + 1) := by (first | lia | omega)
theorem D_low (x y : List Nat) : ∀ n i j, i + j ≤ n → 2 * i ≤ D x y i j + 2 * j ∧ 2 * j ≤ D x y i j + 2 * i
  | n, 0, j, _ => by rw [D_zero]; (first | lia | omega)
  | n, i + 1, 0, _ => by rw [D_col]; (first | lia | omega)
  | 0, i + 1, j + 1, h => by (first | lia | omega)
  | n + 1, i + 1, j + 1, h => by
    have h1 := D_low x y n i (j + 1) (by (first | lia | omega))
    have h2 := D_low x y n (i + 1) j (by (first | lia | omega))
    have h3 := D_low x y n i j (by (first | lia | omega))
    rw [D_succ]
    exact low_aux h1 h2 h3
/-- at how many of the first n places the two are unlike -/
def ham (x y : List Nat) : Nat → Nat
  | 0 => 0
  | i + 1 => ham x y i + if y.getD i 0 = x.getD i 0 then 0 else 1
theorem ham_succ (x y : List Nat) (i : Nat) : ham x y (i + 1) = ham x y i + if y.getD i 0 = x.getD i 0 then 0 else 1 := rfl
theorem ham_mono (x y : List Nat) {i j : Nat} (h : i ≤ j) : ham x y i ≤ ham x y j := by
  induction j with
  | zero => rw [Nat.le_zero.mp h]; exact Nat.le_refl _
  | succ j ih =>
    by_cases e : i = j + 1
    · rw [e]; exact Nat.le_refl _
    · have := ih (by (first | lia | omega))
      rw [ham_succ]; (first | lia | omega)
theorem D_dia (x y : List Nat) : ∀ i, 4 ≤ D x y i i ∨ 2 * ham x y i ≤ D x y i i
  | 0 => .inr (Nat.zero_le _)
  | i + 1 => by
    have h1 := (D_low x y _ i (i + 1) (Nat.le_refl _)).2
    have h2 := (D_low x y _ (i + 1) i (Nat.le_refl _)).1
    have h3 := D_dia x y i
    rw [D_succ, ham_succ]
    split <;> (first | lia | omega)
theorem ham_take {x y : List Nat} : ∀ {i : Nat}, i ≤ x.length → i ≤ y.length → ham x y i = 0 → x.take i = y.take i
  | 0, _, _, _ => rfl
  | i + 1, h1, h2, h => by
    rw [ham_succ] at h
    have h3 := ham_take (x := x) (y := y) (i := i) (by (first | lia | omega)) (by (first | lia | omega)) (by (first | lia | omega))
    have h4 : y.getD i 0 = x.getD i 0 := by
      by_cases e : y.getD i 0 = x.getD i 0
      · exact e
      · rw [if_neg e] at h; (first | lia | omega)
    rw [List.getD_eq_getElem?_getD, List.getD_eq_getElem?_getD, List.getElem?_eq_getElem (by (first | lia | omega)), List.getElem?_eq_getElem (by (first | lia | omega))] at h4
    rw [List.take_succ_eq_append_getElem (by (first | lia | omega)), List.take_succ_eq_append_getElem (by (first | lia | omega)), h3]
    have h5 : y[i] = x[i] := h4
    rw [h5]
theorem D_near {x y : List Nat} : ∀ {i : Nat}, D x y i (i + 1) < 4 → i ≤ x.length → i + 1 ≤ y.length → (x.take i).Sublist (y.take (i + 1))
  | 0, _, _, _ => by simp
  | i + 1, h, h1, h2 => by
    have g1 := (D_low x y _ i (i + 1 + 1) (Nat.le_refl _)).2
    have g2 := (D_low x y _ i (i + 1) (Nat.le_refl _)).2
    rw [D_succ] at h
    have key : D x y (i + 1) (i + 1) < 2 ∨ (D x y i (i + 1) < 4 ∧ y.getD (i + 1) 0 = x.getD i 0) := by
      by_cases e : y.getD (i + 1) 0 = x.getD i 0
      · rw [if_pos e] at h
        by_cases e2 : D x y i (i + 1) < 4
        · exact .inr ⟨e2, e⟩
        · (first | lia | omega)
      · rw [if_neg e] at h; (first | lia | omega)
    rcases key with h3 | ⟨h3, h4⟩
    · have h5 := D_dia x y (i + 1)
      have h6 := ham_take (x := x) (y := y) (i := i + 1) h1 (by (first | lia | omega)) (by (first | lia | omega))
      rw [h6]
      exact List.take_sublist_take_left (by (first | lia | omega))
    · have h5 := D_near h3 (by (first | lia | omega)) (by (first | lia | omega))
      rw [List.getD_eq_getElem?_getD, List.getD_eq_getElem?_getD, List.getElem?_eq_getElem (by (first | lia | omega)), List.getElem?_eq_getElem (by (first | lia | omega))] at h4
      have h6 : y[i + 1] = x[i] := h4
      rw [List.take_succ_eq_append_getElem (i := i) (by (first | lia | omega)), List.take_succ_eq_append_getElem (i := i + 1) (by (first | lia | omega)), h6]
      exact h5.append (List.Sublist.refl _)
theorem last_sub {a b : List Nat} (h : a.Sublist b) (hl : b.length = a.length + 1) (ha : a ≠ []) (hne : a.getD (a.length - 1) 0 ≠ b.getD (b.length - 1) 0) : ∃ e, b = a ++ [e] := by
  obtain ⟨a', f, rfl⟩ : ∃ a' f, a = a' ++ [f] := ⟨a.dropLast, a.getLast ha, (List.dropLast_concat_getLast ha).symm⟩
  have hb : b ≠ [] := fun e => by subst e; simp at hl
  obtain ⟨b', e, rfl⟩ : ∃ b' e, b = b' ++ [e] := ⟨b.dropLast, b.getLast hb, (List.dropLast_concat_getLast hb).symm⟩
  have hfe : f ≠ e := by
    intro h; apply hne; simp [h]
  have h2 := h.reverse
  rw [List.reverse_append, List.reverse_append] at h2
  have h3 := sub_cons_ne hfe (show (f :: a'.reverse).Sublist (e :: b'.reverse) from h2)
  have h4 := sub_len h3 (by simp only [List.length_cons, List.length_reverse, List.length_append, List.length_nil] at *; (first | lia | omega))
  have h5 := congrArg List.reverse h4
  simp at h5
  exact ⟨e, by rw [h5]⟩
theorem strip_iff (α γ x y : List Nat) : (α ++ x ++ γ).Sublist (α ++ y ++ γ) ↔ x.Sublist y := by
  rw [List.append_assoc, List.append_assoc, List.append_sublist_append_left, List.append_sublist_append_right]
theorem lev_two {p t : List Nat} {z : Int} (hl : t.length = p.length + 1) (h : LevR p t 2 z) : z = 2 ↔ p.Sublist t := by
  rcases h with ⟨rfl, _⟩ | ⟨_, x, y, ⟨α, γ, rfl, rfl, htr⟩, hT⟩
  · (first | lia | omega)
  · have hxy : y.length = x.length + 1 := by simp only [List.length_append] at hl; (first | lia | omega)
    rw [strip_iff]
    have hy0 : y ≠ [] := fun e => by subst e; simp at hxy
    rcases hT with ⟨h1, rfl⟩ | ⟨h1, h2, hT⟩
    · have hx : x = [] := h1.resolve_right hy0
      subst hx
      simp at hxy
      simp [hxy]
    · rcases hT with ⟨h3, _⟩ | ⟨_, hT⟩
      · (first | lia | omega)
      · obtain ⟨h3, h4⟩ : x.getD 0 0 ≠ y.getD 0 0 ∧ x.getD (x.length - 1) 0 ≠ y.getD (y.length - 1) 0 := (htr.resolve_left h1).resolve_left h2
        have hns : ¬ x.Sublist y := by
          intro hs
          obtain ⟨e, he⟩ := last_sub hs hxy h1 h4
          cases x with
          | nil => exact h1 rfl
          | cons c x' => subst he; simp at h3
        refine ⟨fun hz => absurd ?_ hns, fun hs => absurd hs hns⟩
        subst hz
        rcases hT with ⟨h5, _⟩ | ⟨_, ⟨_, h5⟩ | ⟨_, h5⟩⟩
        · (first | lia | omega)
        · (first | lia | omega)
        · have h6 : D x y x.length (x.length + 1) < 4 := by rw [hxy] at h5; (first | lia | omega)
          have := D_near h6 (Nat.le_refl _) (by (first | lia | omega))
          rw [List.take_length, ← hxy, List.take_length] at this
          exact this
end lev
section pair
variable {a b : List Nat} {c d : Nat}
theorem app_ne {α : List Nat} (hcd : c ≠ d) : α ++ c :: a ≠ α ++ d :: b := fun e => hcd (List.cons.inj (List.append_cancel_left e)).1
theorem low_mem (hcd : c ≠ d) (hab : a.length = b.length) : ∀ {α p : List Nat}, p.length = α.length + a.length → (p.Sublist (α ++ c :: a) ∧ p.Sublist (α ++ d :: b) ↔ (p = α ++ a ∧ a.Sublist (d :: b)) ∨ (p = α ++ b ∧ b.Sublist (c :: a)))
  | [], p, hp => by
    simp only [List.length_nil, Nat.zero_add] at hp
    simp only [List.nil_append]
    constructor
    · rintro ⟨h1, h2⟩
      rcases List.sublist_cons_iff.mp h1 with h | ⟨q, e, hq⟩
      · have := sub_len h hp
        subst this
        exact .inl ⟨rfl, h2⟩
      · subst e
        have h3 := sub_len (sub_cons_ne hcd h2) (by (first | lia | omega))
        subst h3
        exact .inr ⟨rfl, h1⟩
    · rintro (⟨rfl, h⟩ | ⟨rfl, h⟩)
      · exact ⟨List.sublist_cons_self .., h⟩
      · exact ⟨h, List.sublist_cons_self ..⟩
  | e :: α, p, hp => by
    simp only [List.length_cons] at hp
    simp only [List.cons_append]
    constructor
    · rintro ⟨h1, h2⟩
      have main : ∀ q, p = e :: q → q.Sublist (α ++ c :: a) → q.Sublist (α ++ d :: b) → (p = e :: (α ++ a) ∧ a.Sublist (d :: b)) ∨ (p = e :: (α ++ b) ∧ b.Sublist (c :: a)) := by
        intro q hq h3 h4
        subst hq
        rcases (low_mem hcd hab (α := α) (p := q) (by simp only [List.length_cons] at hp; (first | lia | omega))).mp ⟨h3, h4⟩ with ⟨e1, h⟩ | ⟨e1, h⟩
        · exact .inl ⟨by rw [e1], h⟩
        · exact .inr ⟨by rw [e1], h⟩
      rcases List.sublist_cons_iff.mp h1 with h | ⟨q, eq1, hq⟩
      · have e1 := sub_len h (by simp; (first | lia | omega))
        rcases List.sublist_cons_iff.mp h2 with h' | ⟨q, eq2, hq⟩
        · have e2 := sub_len h' (by simp; (first | lia | omega))
          exact absurd (e1.symm.trans e2) (app_ne hcd)
        · refine main q eq2 ?_ hq
          have h5 : (e :: q).Sublist (α ++ c :: a) := by rw [← eq2]; exact h
          exact (List.sublist_cons_self e q).trans h5
      · rcases List.sublist_cons_iff.mp h2 with h' | ⟨q', eq2, hq'⟩
        · refine main q eq1 hq ?_
          have h5 : (e :: q).Sublist (α ++ d :: b) := by rw [← eq1]; exact h'
          exact (List.sublist_cons_self e q).trans h5
        · have : q = q' := (List.cons.inj (eq1.symm.trans eq2)).2
          subst this
          exact main q eq1 hq hq'
    · rintro (⟨rfl, h⟩ | ⟨rfl, h⟩)
      · have := (low_mem hcd hab (α := α) (p := α ++ a) (by simp)).mpr (.inl ⟨rfl, h⟩)
        exact ⟨this.1.cons_cons e, this.2.cons_cons e⟩
      · have := (low_mem hcd hab (α := α) (p := α ++ b) (by simp [hab])).mpr (.inr ⟨rfl, h⟩)
        exact ⟨this.1.cons_cons e, this.2.cons_cons e⟩
theorem up_mem (hcd : c ≠ d) (hab : a.length = b.length) : ∀ {α q : List Nat}, q.length = α.length + a.length + 2 → ((α ++ c :: a).Sublist q ∧ (α ++ d :: b).Sublist q ↔ (q = α ++ c :: d :: b ∧ a.Sublist (d :: b)) ∨ (q = α ++ d :: c :: a ∧ b.Sublist (c :: a)))
  | [], [], hq => by simp at hq
  | [], e :: q, hq => by
    simp only [List.length_nil, List.length_cons] at hq
    simp only [List.nil_append]
    constructor
    · rintro ⟨h1, h2⟩
      by_cases e1 : c = e
      · subst e1
        have h3 := sub_len (sub_cons_ne hcd.symm h2) (by simp; (first | lia | omega))
        subst h3
        exact .inl ⟨rfl, List.cons_sublist_cons.mp h1⟩
      · by_cases e2 : d = e
        · subst e2
          have h3 := sub_len (sub_cons_ne hcd h1) (by simp; (first | lia | omega))
          subst h3
          exact .inr ⟨rfl, List.cons_sublist_cons.mp h2⟩
        · have h3 := sub_len (sub_cons_ne e1 h1) (by simp; (first | lia | omega))
          have h4 := sub_len (sub_cons_ne e2 h2) (by simp; (first | lia | omega))
          exact absurd (List.cons.inj (h3.trans h4.symm)).1 hcd
    · rintro (⟨h0, h⟩ | ⟨h0, h⟩)
      · rw [h0]; exact ⟨h.cons_cons c, List.sublist_cons_self ..⟩
      · rw [h0]; exact ⟨List.sublist_cons_self .., h.cons_cons d⟩
  | f :: α, [], hq => by simp at hq
  | f :: α, e :: q, hq => by
    simp only [List.length_cons] at hq
    simp only [List.cons_append]
    by_cases e1 : f = e
    · subst e1
      rw [List.cons_sublist_cons, List.cons_sublist_cons, up_mem hcd hab (α := α) (q := q) (by (first | lia | omega))]
      simp only [List.cons.injEq, true_and]
    · constructor
      · rintro ⟨h1, h2⟩
        have h3 := sub_len (sub_cons_ne e1 h1) (by simp; (first | lia | omega))
        have h4 := sub_len (sub_cons_ne e1 h2) (by simp; (first | lia | omega))
        exact absurd (List.cons.inj (h3.trans h4.symm)).2 (app_ne hcd)
      · rintro (⟨h0, _⟩ | ⟨h0, _⟩)
        · exact absurd (List.cons.inj h0).1.symm e1
        · exact absurd (List.cons.inj h0).1.symm e1
/-- two unlike texts of one length part at a first place -/
theorem part_at : ∀ {x y : List Nat}, x.length = y.length → x ≠ y → ∃ α c a d b, x = α ++ c :: a ∧ y = α ++ d :: b ∧ c ≠ d ∧ a.length = b.length
  | [], [], _, h => absurd rfl h
  | [], _ :: _, h, _ => by simp at h
  | _ :: _, [], h, _ => by simp at h
  | c :: x, d :: y, h, hne => by
    have hl : x.length = y.length := by simpa using h
    by_cases e : c = d
    · subst e
      obtain ⟨α, c', a, d', b, rfl, rfl, h1, h2⟩ := part_at hl (fun e => hne (by rw [e]))
      exact ⟨c :: α, c', a, d', b, rfl, rfl, h1, h2⟩
    · exact ⟨[], c, x, d, y, rfl, rfl, e, hl⟩
/-- no other text stands below all three -/
theorem low_uniq {p q x y z : List Nat} (hpq : p.length = q.length) (hx : x.length = p.length + 1) (hy : y.length = p.length + 1) (hz : z.length = p.length + 1) (hxy : x ≠ y) (hxz : x ≠ z) (hyz : y ≠ z)
    (px : p.Sublist x) (py : p.Sublist y) (pz : p.Sublist z) (qx : q.Sublist x) (qy : q.Sublist y) (qz : q.Sublist z) : p = q := by
  refine Classical.byContradiction fun hne => ?_
  obtain ⟨α, c, a, d, b, rfl, rfl, hcd, hab⟩ := part_at hpq hne
  simp only [List.length_append, List.length_cons] at hx hy hz
  have ux := (up_mem hcd hab (α := α) (q := x) (by (first | lia | omega))).mp ⟨px, qx⟩
  have uy := (up_mem hcd hab (α := α) (q := y) (by (first | lia | omega))).mp ⟨py, qy⟩
  have uz := (up_mem hcd hab (α := α) (q := z) (by (first | lia | omega))).mp ⟨pz, qz⟩
  rcases ux with ⟨ux, _⟩ | ⟨ux, _⟩ <;> rcases uy with ⟨uy, _⟩ | ⟨uy, _⟩ <;> rcases uz with ⟨uz, _⟩ | ⟨uz, _⟩ <;>
    first
    | exact hxy (ux.trans uy.symm)
    | exact hxz (ux.trans uz.symm)
    | exact hyz (uy.trans uz.symm)
end pair
end Mine
end TLPureV
section TLPureP
set_option maxRecDepth 100000
set_option maxHeartbeats 1000000
namespace Mine
section pair
/-- what one, two hold below and above -/
def belowL (x y : List Nat) : List (List Nat) := (shortL x).filter fun p => decide (p ∈ shortL y)
def aboveL (x y : List Nat) : List (List Nat) := (longL x).filter fun q => decide (y.Sublist q)
theorem belowL_nodup (x y : List Nat) : (belowL x y).Nodup := List.Pairwise.filter _ (shortL_nodup x)
theorem aboveL_nodup (x y : List Nat) : (aboveL x y).Nodup := List.Pairwise.filter _ (longL_nodup x)
theorem belowL_mem {x y p : List Nat} (hl : x.length = y.length) : p ∈ belowL x y ↔ p.length + 1 = x.length ∧ p.Sublist x ∧ p.Sublist y := by
  unfold belowL
  rw [List.mem_filter, shortL_mem, decide_eq_true_eq, shortL_mem]
  constructor
  · rintro ⟨⟨h1, h2⟩, _, h3⟩; exact ⟨h1, h2, h3⟩
  · rintro ⟨h1, h2, h3⟩; exact ⟨⟨h1, h2⟩, by (first | lia | omega), h3⟩
theorem aboveL_mem {x y q : List Nat} (hs : sg x) : q ∈ aboveL x y ↔ q.length = x.length + 1 ∧ sg q ∧ x.Sublist q ∧ y.Sublist q := by
  unfold aboveL
  rw [List.mem_filter, longL_iff hs, decide_eq_true_eq]
  constructor
  · rintro ⟨⟨h1, h2, h3⟩, h4⟩; exact ⟨h2, h3, h1, h4⟩
  · rintro ⟨h2, h3, h1, h4⟩; exact ⟨⟨h1, h2, h3⟩, h4⟩
/-- a row without repeats whose members are u, if P, and v, if Q -/
theorem two_len {l : List (List Nat)} {u v : List Nat} {P Q : Prop} [Decidable P] [Decidable Q] (hn : l.Nodup) (hm : ∀ p, p ∈ l ↔ (p = u ∧ P) ∨ (p = v ∧ Q)) (huv : u ≠ v) : l.length = (if P then 1 else 0) + if Q then 1 else 0 := by
  have h : l.Perm ((if P then [u] else []) ++ if Q then [v] else []) := by
    refine (List.perm_ext_iff_of_nodup hn ?_).mpr fun p => ?_
    · by_cases hP : P <;> by_cases hQ : Q <;> simp [hP, hQ, huv]
    · rw [hm, List.mem_append]
      by_cases hP : P <;> by_cases hQ : Q <;> simp [hP, hQ]
  rw [h.length_eq, List.length_append]
  by_cases hP : P <;> by_cases hQ : Q <;> simp [hP, hQ]
theorem one_len {l : List (List Nat)} {u : List Nat} (hn : l.Nodup) (hm : ∀ p, p ∈ l ↔ p = u) : l.length = 1 := by
  have h : l.Perm [u] := (List.perm_ext_iff_of_nodup hn (by simp)).mpr fun p => by rw [hm, List.mem_singleton]
  exact h.length_eq
theorem below_at {α a b γ : List Nat} {c d : Nat} (hcd : c ≠ d) (hab : a.length = b.length) {p : List Nat} : p ∈ belowL (α ++ c :: a) (α ++ d :: b) ↔ (p = α ++ a ∧ a.Sublist (d :: b)) ∨ (p = α ++ b ∧ b.Sublist (c :: a)) := by
  rw [belowL_mem (by simp [hab])]
  constructor
  · rintro ⟨h1, h2⟩
    exact (low_mem hcd hab (by simp at h1; (first | lia | omega))).mp h2
  · intro h
    have hl : p.length = α.length + a.length := by
      rcases h with ⟨rfl, _⟩ | ⟨rfl, _⟩ <;> simp [hab]
    exact ⟨by simp; (first | lia | omega), (low_mem hcd hab hl).mpr h⟩
theorem above_at {α a b : List Nat} {c d : Nat} (hcd : c ≠ d) (hab : a.length = b.length) (hx : sg (α ++ c :: a)) (hy : sg (α ++ d :: b)) {q : List Nat} : q ∈ aboveL (α ++ c :: a) (α ++ d :: b) ↔ (q = α ++ c :: d :: b ∧ a.Sublist (d :: b)) ∨ (q = α ++ d :: c :: a ∧ b.Sublist (c :: a)) := by
  rw [aboveL_mem hx]
  constructor
  · rintro ⟨h1, _, h2⟩
    exact (up_mem hcd hab (by simp at h1; (first | lia | omega))).mp h2
  · intro h
    have hl : q.length = α.length + a.length + 2 := by
      rcases h with ⟨h0, _⟩ | ⟨h0, _⟩
      · rw [h0]; simp; (first | lia | omega)
      · rw [h0]; simp; (first | lia | omega)
    refine ⟨by simp; (first | lia | omega), ?_, (up_mem hcd hab hl).mpr h⟩
    intro e he
    rcases h with ⟨h0, _⟩ | ⟨h0, _⟩
    · rw [h0] at he
      simp only [List.mem_append, List.mem_cons] at he
      rcases he with he | rfl | he
      · exact hx e (by simp [he])
      · exact hx e (by simp)
      · exact hy e (by simp only [List.mem_append, List.mem_cons]; exact .inr he)
    · rw [h0] at he
      simp only [List.mem_append, List.mem_cons] at he
      rcases he with he | rfl | he
      · exact hx e (by simp [he])
      · exact hy e (by simp)
      · exact hx e (by simp only [List.mem_append, List.mem_cons]; exact .inr he)
/-- how many below and above: if the rests are alike -/
theorem same_rest {α a : List Nat} {c d : Nat} (hcd : c ≠ d) (hx : sg (α ++ c :: a)) (hy : sg (α ++ d :: a)) : (belowL (α ++ c :: a) (α ++ d :: a)).length = 1 ∧ (aboveL (α ++ c :: a) (α ++ d :: a)).length = 2 := by
  have h1 : a.Sublist (d :: a) := List.sublist_cons_self ..
  have h2 : a.Sublist (c :: a) := List.sublist_cons_self ..
  refine ⟨one_len (u := α ++ a) (belowL_nodup _ _) fun p => ?_, ?_⟩
  · rw [below_at (γ := []) hcd rfl]
    simp [h1, h2]
  · have := two_len (l := aboveL (α ++ c :: a) (α ++ d :: a)) (u := α ++ c :: d :: a) (v := α ++ d :: c :: a) (P := True) (Q := True) (aboveL_nodup _ _) (fun q => by rw [above_at hcd rfl hx hy]; simp [h1, h2]) (by
      intro e
      have := (List.cons.inj (List.append_cancel_left e)).1
      exact hcd this)
    simpa using this
/-- if they are not -/
theorem other_rest {α a b : List Nat} {c d : Nat} (hcd : c ≠ d) (hab : a.length = b.length) (hne : a ≠ b) (hx : sg (α ++ c :: a)) (hy : sg (α ++ d :: b)) :
    (aboveL (α ++ c :: a) (α ++ d :: b)).length = (belowL (α ++ c :: a) (α ++ d :: b)).length ∧ (belowL (α ++ c :: a) (α ++ d :: b)).length ≤ 2 := by
  have h1 := two_len (l := belowL (α ++ c :: a) (α ++ d :: b)) (u := α ++ a) (v := α ++ b) (P := a.Sublist (d :: b)) (Q := b.Sublist (c :: a)) (belowL_nodup _ _) (fun p => below_at (γ := []) hcd hab) (fun e => hne (List.append_cancel_left e))
  have h2 := two_len (l := aboveL (α ++ c :: a) (α ++ d :: b)) (u := α ++ c :: d :: b) (v := α ++ d :: c :: a) (P := a.Sublist (d :: b)) (Q := b.Sublist (c :: a)) (aboveL_nodup _ _) (fun q => above_at hcd hab hx hy) (by
    intro e
    exact hcd (List.cons.inj (List.append_cancel_left e)).1)
  refine ⟨by rw [h1, h2], ?_⟩
  rw [h1]
  split <;> split <;> (first | lia | omega)
theorem ham_pre (α x y : List Nat) : ∀ n, ham (α ++ x) (α ++ y) (α.length + n) = ham x y n
  | 0 => by
    have key : ∀ k, k ≤ α.length → ham (α ++ x) (α ++ y) k = 0 := by
      intro k
      induction k with
      | zero => intro _; rfl
      | succ k ih =>
        intro h
        rw [ham_succ, ih (by (first | lia | omega))]
        have : (α ++ y).getD k 0 = (α ++ x).getD k 0 := by
          rw [List.getD_eq_getElem?_getD, List.getD_eq_getElem?_getD, List.getElem?_append_left (by (first | lia | omega)), List.getElem?_append_left (by (first | lia | omega))]
        rw [if_pos this]
    exact key _ (Nat.le_refl _)
  | n + 1 => by
    rw [show α.length + (n + 1) = α.length + n + 1 by (first | lia | omega), ham_succ, ham_pre α x y n, ham_succ]
    have e : ∀ l : List Nat, (α ++ l).getD (α.length + n) 0 = l.getD n 0 := fun l => by
      rw [List.getD_eq_getElem?_getD, List.getD_eq_getElem?_getD, List.getElem?_append_right (by (first | lia | omega))]
      congr 2; (first | lia | omega)
    rw [e, e]
theorem ham_suf {x y γ : List Nat} (hl : x.length = y.length) : ∀ n, ham (x ++ γ) (y ++ γ) (x.length + n) = ham x y x.length
  | 0 => by
    have key : ∀ k, k ≤ x.length → ham (x ++ γ) (y ++ γ) k = ham x y k := by
      intro k
      induction k with
      | zero => intro _; rfl
      | succ k ih =>
        intro h
        rw [ham_succ, ham_succ, ih (by (first | lia | omega))]
        have e1 : (x ++ γ).getD k 0 = x.getD k 0 := by
          rw [List.getD_eq_getElem?_getD, List.getD_eq_getElem?_getD, List.getElem?_append_left (by (first | lia | omega))]
        have e2 : (y ++ γ).getD k 0 = y.getD k 0 := by
          rw [List.getD_eq_getElem?_getD, List.getD_eq_getElem?_getD, List.getElem?_append_left (by (first | lia | omega))]
        rw [e1, e2]
    exact key _ (Nat.le_refl _)
  | n + 1 => by
    rw [show x.length + (n + 1) = x.length + n + 1 by (first | lia | omega), ham_succ, ham_suf hl n]
    have e : ∀ l : List Nat, l.length = x.length → (l ++ γ).getD (x.length + n) 0 = γ.getD n 0 := fun l h => by
      rw [List.getD_eq_getElem?_getD, List.getD_eq_getElem?_getD, List.getElem?_append_right (by (first | lia | omega))]
      congr 2; (first | lia | omega)
    rw [e x rfl, e y hl.symm, if_pos rfl]; rfl
theorem ham_trim {α x y γ : List Nat} (hl : x.length = y.length) : ham (α ++ x ++ γ) (α ++ y ++ γ) (α ++ x ++ γ).length = ham x y x.length := by
  rw [List.append_assoc, List.append_assoc, List.length_append, ham_pre, List.length_append, ham_suf hl]
theorem D_off {x y : List Nat} (h : ∀ i, i + 1 < x.length → x.getD (i + 1) 0 = y.getD i 0) : ∀ j, j < x.length → D x y (j + 1) j ≤ 2
  | 0, _ => by rw [D_col]; (first | lia | omega)
  | j + 1, hj => by
    have h1 := D_off h j (by (first | lia | omega))
    rw [D_succ, if_pos (h j hj).symm]; (first | lia | omega)
theorem D_off' {x y : List Nat} (h : ∀ i, i + 1 < x.length → y.getD (i + 1) 0 = x.getD i 0) : ∀ j, j < x.length → D x y j (j + 1) ≤ 2
  | 0, _ => by rw [D_zero]; (first | lia | omega)
  | j + 1, hj => by
    have h1 := D_off' h j (by (first | lia | omega))
    rw [D_succ, if_pos (h j hj)]; (first | lia | omega)
theorem D_four {x y : List Nat} (h : (∀ i, i + 1 < x.length → x.getD (i + 1) 0 = y.getD i 0) ∨ ∀ i, i + 1 < x.length → y.getD (i + 1) 0 = x.getD i 0) (j : Nat) (hj : j < x.length) : D x y (j + 1) (j + 1) ≤ 4 := by
  rw [D_succ]
  refine Nat.le_trans (Nat.min_le_left ..) (Nat.add_le_add_right (m := 2) ?_ 2)
  rcases h with h | h
  · exact Nat.le_trans (Nat.min_le_right ..) (D_off h j hj)
  · exact Nat.le_trans (Nat.min_le_left ..) (D_off' h j hj)
/-- the law of a pair -/
theorem pair_law {x y wd : List Nat} {z : Int} (hl : x.length = y.length) (hwl : wd.length + 1 = x.length) (hne : x ≠ y) (hx : sg x) (hy : sg y) (wx : wd.Sublist x) (wy : wd.Sublist y) (hz : LevR x y 4 z) :
    (ham x y x.length = 1 ∧ z = 2 ∧ (belowL x y).length = 1 ∧ (aboveL x y).length = 2) ∨ (ham x y x.length ≠ 1 ∧ z = 4 ∧ (aboveL x y).length = (belowL x y).length ∧ (belowL x y).length ≤ 2) := by
  rcases hz with ⟨h, _⟩ | ⟨_, u, v, ⟨α, γ, rfl, rfl, htr⟩, hT⟩
  · exact absurd h hne
  have huv : u.length = v.length := by simp only [List.length_append] at hl; (first | lia | omega)
  have hu0 : u ≠ [] := by
    rintro rfl
    have : v = [] := List.length_eq_zero_iff.mp huv.symm
    subst this
    exact hne rfl
  have hv0 : v ≠ [] := by
    rintro rfl
    exact hu0 (List.length_eq_zero_iff.mp huv)
  obtain ⟨h3, h4⟩ := (htr.resolve_left hu0).resolve_left hv0
  have hD : (∃ j < v.length, ∀ i < u.length, (4 : Int) < (D u v (i + 1) (j + 1) : Int)) ∧ z = 4 + 1 ∨ (∀ j < v.length, ∃ i < u.length, (D u v (i + 1) (j + 1) : Int) ≤ 4) ∧ z = (D u v u.length v.length : Int) := by
    rcases hT with ⟨h1, _⟩ | ⟨_, _, hT⟩
    · exact absurd (h1.resolve_left hu0) hv0
    · rcases hT with ⟨h1, _⟩ | ⟨_, hT⟩
      · (first | lia | omega)
      · rcases hT with ⟨h1, _⟩ | ⟨_, hT⟩
        · (first | lia | omega)
        · exact hT
  rw [ham_trim huv]
  obtain ⟨c, u1, rfl⟩ : ∃ c u1, u = c :: u1 := by
    cases u with
    | nil => exact absurd rfl hu0
    | cons a l => exact ⟨a, l, rfl⟩
  obtain ⟨d, v1, rfl⟩ : ∃ d v1, v = d :: v1 := by
    cases v with
    | nil => exact absurd rfl hv0
    | cons a l => exact ⟨a, l, rfl⟩
  clear hT htr hu0 hv0
  rcases u1 with _ | ⟨c', u'⟩
  · have hv1 : v1 = [] := List.length_eq_zero_iff.mp (by simpa using huv.symm)
    subst hv1
    have hcd : c ≠ d := by simpa using h3
    have hdc : ¬ d = c := fun e => hcd e.symm
    have e1 : D [c] [d] 1 1 = 2 := by
      rw [D_succ, D_zero, D_col]
      have : ¬ ([d].getD 0 0 = [c].getD 0 0) := by simpa using hdc
      rw [if_neg this, D_zero]; rfl
    refine .inl ⟨?_, ?_, ?_⟩
    · show ham [c] [d] 1 = 1
      simp [ham, hdc]
    · rcases hD with ⟨⟨j, hj, h⟩, _⟩ | ⟨_, hz⟩
      · have : j = 0 := by simp at hj; (first | lia | omega)
        subst this
        have h5 := h 0 (by simp)
        rw [e1] at h5
        (first | lia | omega)
      · rw [hz]
        show ((D [c] [d] 1 1 : Nat) : Int) = 2
        rw [e1]; rfl
    · have e2 : ∀ k : Nat, α ++ [k] ++ γ = α ++ k :: γ := fun k => by simp
      rw [e2, e2] at *
      exact same_rest hcd hx hy
  · obtain ⟨d', v', rfl⟩ : ∃ d' v', v1 = d' :: v' := by
      cases v1 with
      | nil => simp at huv
      | cons a l => exact ⟨a, l, rfl⟩
    have hcd : c ≠ d := by simpa using h3
    have huv' : u'.length = v'.length := by simpa using huv
    have hl1 : (c :: c' :: u').length = u'.length + 2 := rfl
    have hl2 : (d :: d' :: v').length = u'.length + 2 := by simp [huv']
    have hham : 2 ≤ ham (c :: c' :: u') (d :: d' :: v') (u'.length + 2) := by
      rw [hl1, hl2] at h4
      rw [show u'.length + 2 = u'.length + 1 + 1 by (first | lia | omega), ham_succ, if_neg (fun e => h4 e.symm)]
      have h5 := ham_mono (c :: c' :: u') (d :: d' :: v') (show 0 + 1 ≤ u'.length + 1 by (first | lia | omega))
      rw [ham_succ, if_neg (fun e => h3 e.symm)] at h5
      (first | lia | omega)
    have hlast : (c' :: u').getD u'.length 0 ≠ (d' :: v').getD u'.length 0 := by
      rw [hl1, hl2] at h4
      exact h4
    have hrest : c' :: u' ≠ d' :: v' := fun e => hlast (by rw [e])
    have e2 : ∀ (k : Nat) (r : List Nat), α ++ k :: r ++ γ = α ++ k :: (r ++ γ) := fun k r => by simp
    have hor : (∀ i, i + 1 < (c :: c' :: u').length → (c :: c' :: u').getD (i + 1) 0 = (d :: d' :: v').getD i 0) ∨ ∀ i, i + 1 < (c :: c' :: u').length → (d :: d' :: v').getD (i + 1) 0 = (c :: c' :: u').getD i 0 := by
      have hb := (belowL_mem hl).mpr ⟨hwl, wx, wy⟩
      rw [e2, e2, below_at (γ := []) hcd (by simp [huv'])] at hb
      have strip : ∀ {p q : List Nat}, (p ++ γ).Sublist (q ++ γ) → p.Sublist q := fun h => (List.append_sublist_append_right γ).mp h
      have conc : ∀ {p q : List Nat} {e : Nat}, q = p ++ [e] → ∀ i, i < p.length → p.getD i 0 = q.getD i 0 := by
        intro p q e h i hi
        subst h
        rw [List.getD_eq_getElem?_getD, List.getD_eq_getElem?_getD, List.getElem?_append_left hi]
      rcases hb with ⟨_, hb⟩ | ⟨_, hb⟩
      · obtain ⟨e, he⟩ := last_sub (strip (q := d :: d' :: v') hb) (by simp [huv']) (by simp) (by
          show (c' :: u').getD u'.length 0 ≠ (d :: d' :: v').getD (v'.length + 1) 0
          rw [← huv']
          exact hlast)
        exact .inl fun i hi => conc he i (by simp at hi ⊢; (first | lia | omega))
      · obtain ⟨e, he⟩ := last_sub (strip (q := c :: c' :: u') hb) (by simp [huv']) (by simp) (by
          show (d' :: v').getD v'.length 0 ≠ (c :: c' :: u').getD (u'.length + 1) 0
          rw [← huv']
          exact hlast.symm)
        exact .inr fun i hi => conc he i (by simp at hi ⊢; (first | lia | omega))
    have hfour := D_four hor
    refine .inr ⟨?_, ?_, ?_⟩
    · rw [hl1]; (first | lia | omega)
    · rcases hD with ⟨⟨j, hj, h⟩, _⟩ | ⟨_, hz⟩
      · rw [hl2] at hj
        have h5 := h j (by rw [hl1]; exact hj)
        have h6 := hfour j (by rw [hl1]; exact hj)
        (first | lia | omega)
      · rw [hz, hl1, hl2]
        have h6 := hfour (u'.length + 1) (by rw [hl1]; (first | lia | omega))
        have h7 := D_dia (c :: c' :: u') (d :: d' :: v') (u'.length + 2)
        have e3 : u'.length + 1 + 1 = u'.length + 2 := rfl
        rw [e3] at h6
        (first | lia | omega)
    · rw [e2, e2] at *
      exact other_rest hcd (by simp [huv']) (fun e => hrest (List.append_cancel_right e)) hx hy
end pair
end Mine
end TLPureP
section TLPureT
set_option maxRecDepth 100000
set_option maxHeartbeats 1000000
namespace Mine
section told
/-- three unlike texts that come of the word -/
structure Three (wd x y z : List Nat) : Prop where
  hw : 3 ≤ wd.length ∧ wd.length ≤ 4
  sw : sg wd
  sx : sg x
  sy : sg y
  sz : sg z
  lx : x.length = wd.length + 1
  ly : y.length = wd.length + 1
  lz : z.length = wd.length + 1
  wx : wd.Sublist x
  wy : wd.Sublist y
  wz : wd.Sublist z
  xy : x ≠ y
  xz : x ≠ z
  yz : y ≠ z
theorem three_of {wd x y z : List Nat} (h3 : 3 ≤ wd.length) (h4 : wd.length ≤ 4) (hs : sg wd) (hp : ∃ r, (longL wd).Perm (x :: y :: z :: r)) : Three wd x y z := by
  obtain ⟨r, hr⟩ := hp
  have hm : ∀ t, t ∈ [x, y, z] → wd.Sublist t ∧ t.length = wd.length + 1 ∧ sg t := fun t ht => (longL_iff hs).mp (hr.mem_iff.mpr (List.mem_append_left r ht))
  have hn := hr.nodup_iff.mp (longL_nodup wd)
  simp only [List.nodup_cons, List.mem_cons, not_or] at hn
  obtain ⟨a1, a2, a3⟩ := hm x (by simp)
  obtain ⟨b1, b2, b3⟩ := hm y (by simp)
  obtain ⟨c1, c2, c3⟩ := hm z (by simp)
  exact ⟨⟨h3, h4⟩, hs, a3, b3, c3, a2, b2, c2, a1, b1, c1, hn.1.1, hn.1.2.1, hn.2.1.1⟩
variable {wd x y z : List Nat}
abbrev keys3 (x y z : List Nat) : List (List Nat) := keysOf (shortL x ++ shortL y ++ shortL z)
theorem keys3_mem {p : List Nat} (T : Three wd x y z) : p ∈ keys3 x y z ↔ p.length = wd.length ∧ (p.Sublist x ∨ p.Sublist y ∨ p.Sublist z) := by
  rw [keysOf_mem, List.mem_append, List.mem_append, shortL_mem, shortL_mem, shortL_mem, T.lx, T.ly, T.lz]
  constructor
  · rintro ((⟨h, h1⟩ | ⟨h, h1⟩) | ⟨h, h1⟩)
    · exact ⟨by (first | lia | omega), .inl h1⟩
    · exact ⟨by (first | lia | omega), .inr (.inl h1)⟩
    · exact ⟨by (first | lia | omega), .inr (.inr h1)⟩
  · rintro ⟨h, h1 | h1 | h1⟩
    · exact .inl (.inl ⟨by (first | lia | omega), h1⟩)
    · exact .inl (.inr ⟨by (first | lia | omega), h1⟩)
    · exact .inr ⟨by (first | lia | omega), h1⟩
theorem keys3_len (T : Three wd x y z) : (keys3 x y z).length ≤ 15 := by
  have key : ∀ ps : List (List Nat), (keysOf ps).length ≤ ps.length := fun ps => by
    refine snoc_ind (P := fun ps => (keysOf ps).length ≤ ps.length) (Nat.le_refl _) (fun l a ih => ?_) ps
    rw [keysOf_snoc, List.length_append, List.length_singleton]
    split
    · (first | lia | omega)
    · rw [List.length_append, List.length_singleton]; (first | lia | omega)
  have hs : ∀ p : List Nat, (shortL p).length ≤ p.length := fun p => by
    unfold shortL
    rw [List.length_map]
    exact Nat.le_trans (List.length_filter_le ..) (by rw [List.length_range]; exact Nat.le_refl _)
  have h1 := key (shortL x ++ shortL y ++ shortL z)
  have h2 := hs x
  have h3 := hs y
  have h4 := hs z
  have := T.lx
  have := T.ly
  have := T.lz
  have := T.hw
  simp only [List.length_append] at h1
  show (keysOf (shortL x ++ shortL y ++ shortL z)).length ≤ 15
  (first | lia | omega)
theorem two_keys (T : Three wd x y z) : 2 ≤ (keys3 x y z).length := by
  refine Classical.byContradiction fun hlt => ?_
  have hwk : wd ∈ keys3 x y z := (keys3_mem T).mpr ⟨rfl, .inl T.wx⟩
  have hall : ∀ p ∈ keys3 x y z, p = wd := by
    intro p hp
    match hk : keys3 x y z, hwk, hp, hlt with
    | [a], hwk, hp, _ => rw [List.mem_singleton.mp hp, List.mem_singleton.mp hwk]
    | _ :: _ :: _, _, _, hlt => exact absurd (by simp) hlt
  have main : ∀ t, t.length = wd.length + 1 → (∀ p, p.Sublist t → p.length = wd.length → p = wd) → ∃ e v, wd = e :: v ∧ t = e :: wd := by
    intro t ht hp
    have hw3 := T.hw.1
    match t, ht with
    | c :: r, ht =>
      have hr : r = wd := hp r (List.sublist_cons_self ..) (by simpa using ht)
      subst hr
      obtain ⟨e, v, rfl⟩ : ∃ e v, r = e :: v := by
        match r, hw3 with
        | e :: v, _ => exact ⟨e, v, rfl⟩
      have := hp (c :: v) ((List.sublist_cons_self e v).cons_cons c) rfl
      obtain ⟨rfl, _⟩ := List.cons.inj this
      exact ⟨c, v, rfl, rfl⟩
  obtain ⟨e, v, h1, h2⟩ := main x T.lx fun p hp hl => hall p ((keys3_mem T).mpr ⟨hl, .inl hp⟩)
  obtain ⟨e', v', h3, h4⟩ := main y T.ly fun p hp hl => hall p ((keys3_mem T).mpr ⟨hl, .inr (.inl hp)⟩)
  have : e = e' := (List.cons.inj (h1.symm.trans h3)).1
  exact T.xy (by rw [h2, h4, this])
theorem holds3_len (p : List Nat) : (holds3 [x, y, z] p).length = (if p.Sublist x then 1 else 0) + (if p.Sublist y then 1 else 0) + (if p.Sublist z then 1 else 0) := by
  unfold holds3
  by_cases h1 : p.Sublist x <;> by_cases h2 : p.Sublist y <;> by_cases h3 : p.Sublist z <;> simp [h1, h2, h3]
theorem holds_wd (T : Three wd x y z) : (holds3 [x, y, z] wd).length = 3 := by
  rw [holds3_len, if_pos T.wx, if_pos T.wy, if_pos T.wz]
theorem holds_three (T : Three wd x y z) {p : List Nat} (hl : p.length = wd.length) (h : 3 ≤ (holds3 [x, y, z] p).length) : p = wd := by
  rw [holds3_len] at h
  have h1 : p.Sublist x ∧ p.Sublist y ∧ p.Sublist z := by
    by_cases h1 : p.Sublist x <;> by_cases h2 : p.Sublist y <;> by_cases h3 : p.Sublist z <;> simp [h1, h2, h3] at h ⊢
  exact low_uniq hl (by rw [T.lx, hl]) (by rw [T.ly, hl]) (by rw [T.lz, hl]) T.xy T.xz T.yz h1.1 h1.2.1 h1.2.2 T.wx T.wy T.wz
theorem perm_keys (T : Three wd x y z) : (keys3 x y z).Perm (wd :: (keys3 x y z).filter fun p => decide (p ≠ wd)) := by
  refine (List.perm_ext_iff_of_nodup (keysOf_nodup _) ?_).mpr fun p => ?_
  · refine List.nodup_cons.mpr ⟨?_, List.Pairwise.filter _ (keysOf_nodup _)⟩
    rw [List.mem_filter]
    simp
  · rw [List.mem_cons, List.mem_filter, decide_eq_true_eq]
    have hwk : wd ∈ keys3 x y z := (keys3_mem T).mpr ⟨rfl, .inl T.wx⟩
    by_cases h : p = wd
    · exact ⟨fun _ => .inl h, fun _ => h ▸ hwk⟩
    · exact ⟨fun h1 => .inr ⟨h1, h⟩, fun h1 => (h1.resolve_left h).1⟩
/-- the first that is told is the word -/
theorem told_head (T : Three wd x y z) {told : List Ent} (hs : told.Pairwise leE) (hp : told.Perm ((keys3 x y z).map (entOf [x, y, z]))) :
    ∃ rest, told = (-3, wd) :: rest ∧ rest.Perm (((keys3 x y z).filter fun p => decide (p ≠ wd)).map (entOf [x, y, z])) := by
  have hw : entOf [x, y, z] wd = (-3, wd) := by unfold entOf; rw [holds_wd T]; rfl
  have hwk : wd ∈ keys3 x y z := (keys3_mem T).mpr ⟨rfl, .inl T.wx⟩
  have hwt : ((-3, wd) : Ent) ∈ told := hp.mem_iff.mpr (by rw [← hw]; exact List.mem_map.mpr ⟨wd, hwk, rfl⟩)
  match told, hs, hp, hwt with
  | e :: rest, hs, hp, hwt =>
    have he : e = (-3, wd) := by
      obtain ⟨p, hpk, rfl⟩ := List.mem_map.mp (hp.mem_iff.mp (List.mem_cons_self ..))
      have hle : leE (entOf [x, y, z] p) (-3, wd) := by
        rcases List.mem_cons.mp hwt with h | h
        · rw [← h]; exact leE_refl _
        · exact (List.pairwise_cons.mp hs).1 _ h
      have h3 : 3 ≤ (holds3 [x, y, z] p).length := by
        have h1 : (entOf [x, y, z] p).1 = -((holds3 [x, y, z] p).length : Int) := rfl
        rcases (leE_iff _ _).mp hle with h | ⟨h, _⟩ <;> (rw [h1] at h; simp only at h; (first | lia | omega))
      rw [holds_three T ((keys3_mem T).mp hpk).1 h3, hw]
    refine ⟨rest, by rw [he], ?_⟩
    have h1 := hp.trans ((perm_keys T).map (entOf [x, y, z]))
    rw [List.map_cons, hw, he] at h1
    exact (List.perm_cons _).mp h1
theorem below_wd (T : Three wd x y z) : wd ∈ belowL x y ∧ wd ∈ belowL x z ∧ wd ∈ belowL y z := by
  refine ⟨(belowL_mem (by rw [T.lx, T.ly])).mpr ⟨T.lx.symm, T.wx, T.wy⟩, (belowL_mem (by rw [T.lx, T.lz])).mpr ⟨T.lx.symm, T.wx, T.wz⟩, (belowL_mem (by rw [T.ly, T.lz])).mpr ⟨T.ly.symm, T.wy, T.wz⟩⟩
theorem len_but {l : List (List Nat)} {w : List Nat} (hn : l.Nodup) (hw : w ∈ l) : (l.filter fun p => decide (p ≠ w)).length + 1 = l.length := by
  have h : l.Perm (w :: l.filter fun p => decide (p ≠ w)) := by
    refine (List.perm_ext_iff_of_nodup hn ?_).mpr fun p => ?_
    · refine List.nodup_cons.mpr ⟨?_, List.Pairwise.filter _ hn⟩
      rw [List.mem_filter]
      simp
    · rw [List.mem_cons, List.mem_filter, decide_eq_true_eq]
      by_cases h : p = w
      · subst h; simp [hw]
      · simp [h]
  rw [h.length_eq, List.length_cons]
/-- the texts but the word that two of the three hold -/
theorem twos (T : Three wd x y z) : ((((keys3 x y z).filter fun p => decide (p ≠ wd)).filter fun p => decide ((holds3 [x, y, z] p).length = 2))).length + 3 = (belowL x y).length + (belowL x z).length + (belowL y z).length := by
  have lxy : x.length = y.length := by rw [T.lx, T.ly]
  have lxz : x.length = z.length := by rw [T.lx, T.lz]
  have lyz : y.length = z.length := by rw [T.ly, T.lz]
  have hw := below_wd T
  have n1 := len_but (belowL_nodup x y) hw.1
  have n2 := len_but (belowL_nodup x z) hw.2.1
  have n3 := len_but (belowL_nodup y z) hw.2.2
  have uniq : ∀ p, p.length + 1 = x.length → p.Sublist x → p.Sublist y → p.Sublist z → p = wd := by
    intro p hl h1 h2 h3
    refine holds_three T (by have := T.lx; (first | lia | omega)) ?_
    rw [holds3_len, if_pos h1, if_pos h2, if_pos h3]
    (first | lia | omega)
  have hP : (((keys3 x y z).filter fun p => decide (p ≠ wd)).filter fun p => decide ((holds3 [x, y, z] p).length = 2)).Perm (((belowL x y).filter fun p => decide (p ≠ wd)) ++ (((belowL x z).filter fun p => decide (p ≠ wd)) ++ ((belowL y z).filter fun p => decide (p ≠ wd)))) := by
    refine (List.perm_ext_iff_of_nodup (List.Pairwise.filter _ (List.Pairwise.filter _ (keysOf_nodup _))) ?_).mpr fun p => ?_
    · refine List.nodup_append.mpr ⟨List.Pairwise.filter _ (belowL_nodup ..), List.nodup_append.mpr ⟨List.Pairwise.filter _ (belowL_nodup ..), List.Pairwise.filter _ (belowL_nodup ..), ?_⟩, ?_⟩
      · intro p hp q hq e
        subst e
        rw [List.mem_filter, belowL_mem lxz, decide_eq_true_eq] at hp
        rw [List.mem_filter, belowL_mem lyz] at hq
        exact hp.2 (uniq p hp.1.1 hp.1.2.1 hq.1.2.1 hp.1.2.2)
      · intro p hp q hq e
        subst e
        rw [List.mem_filter, belowL_mem lxy, decide_eq_true_eq] at hp
        rw [List.mem_append, List.mem_filter, List.mem_filter, belowL_mem lxz, belowL_mem lyz] at hq
        rcases hq with hq | hq
        · exact hp.2 (uniq p hp.1.1 hp.1.2.1 hp.1.2.2 hq.1.2.2)
        · exact hp.2 (uniq p hp.1.1 hp.1.2.1 hp.1.2.2 hq.1.2.2)
    · simp only [List.mem_filter, List.mem_append, belowL_mem lxy, belowL_mem lxz, belowL_mem lyz, keys3_mem T, decide_eq_true_eq, holds3_len]
      have hlx := T.lx
      have hl : p.length + 1 = x.length ↔ p.length = wd.length := by (first | lia | omega)
      have hl' : p.length + 1 = y.length ↔ p.length = wd.length := by rw [← lxy]; exact hl
      rw [hl, hl']
      by_cases hpl : p.length = wd.length
      · by_cases hpw : p = wd
        · simp [hpw]
        · have hu := uniq p (hl.mpr hpl)
          by_cases h1 : p.Sublist x <;> by_cases h2 : p.Sublist y <;> by_cases h3 : p.Sublist z <;> simp [h1, h2, h3, hpl, hpw]
          exact hpw (hu h1 h2 h3)
      · simp [hpl]
  rw [hP.length_eq, List.length_append, List.length_append]
  (first | lia | omega)
theorem told_rest (T : Three wd x y z) {rest : List Ent} (hp : rest.Perm (((keys3 x y z).filter fun p => decide (p ≠ wd)).map (entOf [x, y, z]))) {n : Nat} (hn : n + 3 = (belowL x y).length + (belowL x z).length + (belowL y z).length) :
    (rest.filter fun e => decide (e.1 < -1)).map (·.1) = List.replicate n (-2) := by
  have hall : ∀ e ∈ rest, ∃ p, p.length = wd.length ∧ p ≠ wd ∧ e = entOf [x, y, z] p := by
    intro e he
    obtain ⟨p, hpk, rfl⟩ := List.mem_map.mp (hp.mem_iff.mp he)
    have h1 := List.mem_filter.mp hpk
    exact ⟨p, ((keys3_mem T).mp h1.1).1, of_decide_eq_true h1.2, rfl⟩
  have h2 := twos T
  rw [List.eq_replicate_iff]
  constructor
  · rw [List.length_map, (hp.filter _).length_eq, List.filter_map, List.length_map]
    have e : ((keys3 x y z).filter fun p => decide (p ≠ wd)).filter ((fun e : Ent => decide (e.1 < -1)) ∘ entOf [x, y, z]) = ((keys3 x y z).filter fun p => decide (p ≠ wd)).filter fun p => decide ((holds3 [x, y, z] p).length = 2) := by
      refine List.filter_congr fun p hpk => ?_
      have h1 := List.mem_filter.mp hpk
      have h3 : ¬ 3 ≤ (holds3 [x, y, z] p).length := fun h => (of_decide_eq_true h1.2) (holds_three T ((keys3_mem T).mp h1.1).1 h)
      show decide ((-((holds3 [x, y, z] p).length : Int)) < -1) = _
      rw [decide_eq_decide]
      (first | lia | omega)
    rw [e]; (first | lia | omega)
  · intro i hi
    obtain ⟨e, he, rfl⟩ := List.mem_map.mp hi
    have h1 := List.mem_filter.mp he
    obtain ⟨p, hl, hpw, rfl⟩ := hall e h1.1
    have h3 : ¬ 3 ≤ (holds3 [x, y, z] p).length := fun h => hpw (holds_three T hl h)
    have h4 : (entOf [x, y, z] p).1 = -((holds3 [x, y, z] p).length : Int) := rfl
    have h5 := of_decide_eq_true h1.2
    rw [h4] at h5 ⊢
    (first | lia | omega)
end told
end Mine
end TLPureT
section TLSort
open PySem PySem.W PyProof.Rows PySem.Calls PySem.Spec PyProof.V
set_option maxRecDepth 100000
set_option maxHeartbeats 4000000
namespace Mine
section data
/-- an entry as data -/
def tupD (e : Ent) : PyData := .tuple [.int e.1, .str (tx e.2)]
theorem reads_ent {h : Heap} {a : Addr} {e : Ent} {t u : Tok} {n : Nat} (ho : h.get? a = some (tupO e t u n)) : Reads h (.ref a) (tupD e) [] :=
  reads_tuple_at ho rfl rfl (readsAll_cons_val (.int _ _) (readsAll_cons_val (.str _ _) .nil))
theorem TupsA.uncons {tups : Led} {v : Value} {vs : List Value} {e : Ent} {es : List Ent} (h : TupsA tups (v :: vs) (e :: es)) : (∃ a t u n, v = .ref a ∧ (a, tupO e t u n) ∈ tups) ∧ TupsA tups vs es := by
  refine ⟨?_, by have := h.1; simpa using this, fun i hi => ?_⟩
  · obtain ⟨a, t, u, n, h1, h2⟩ := h.2 0 (by simp)
    exact ⟨a, t, u, n, by simpa using h1, h2⟩
  · obtain ⟨a, t, u, n, h1, h2⟩ := h.2 (i + 1) (by simpa using hi)
    exact ⟨a, t, u, n, by simpa using h1, h2⟩
theorem reads_ents {h : Heap} {tups : Led} (hg : ∀ p ∈ tups, h.get? p.1 = some p.2) : ∀ {vs : List Value} {es : List Ent}, TupsA tups vs es → ReadsAll h vs (es.map tupD) []
  | [], [], _ => .nil
  | [], _ :: _, x => by have := x.1; simp at this
  | _ :: _, [], x => by have := x.1; simp at this
  | v :: vs, e :: es, x => by
    obtain ⟨⟨a, t, u, n, rfl, hm⟩, x'⟩ := x.uncons
    exact readsAll_cons_val (reads_ent (hg _ hm)) (reads_ents hg x')
theorem eqv_ent (a b : Ent) : PyData.eqv (tupD a) (tupD b) = decide (a = b) := by
  unfold tupD
  simp only [PyData.eqv, PyData.eqvAll, Bool.and_true]
  by_cases h1 : a.1 = b.1
  · by_cases h2 : a.2 = b.2
    · have : a = b := Prod.ext h1 h2
      simp [this]
    · have h3 : ¬ a = b := fun e => h2 (by rw [e])
      have h4 : ¬ tx a.2 = tx b.2 := fun e => h2 (tx_inj e)
      simp [h3, h4]
  · have h3 : ¬ a = b := fun e => h1 (by rw [e])
    simp [h3, h1]
theorem eqv_ents : ∀ es : List Ent, PyData.eqvAll (es.map tupD) (es.map tupD) = true
  | [] => rfl
  | e :: es => by
    rw [List.map_cons, PyData.eqvAll, eqv_ent, eqv_ents es]; simp
theorem strOk_sg {p : List Nat} (h : sg p) : PyData.strOk (tx p) = true := by
  unfold PyData.strOk tx
  simp only [List.all_toArray, List.all_eq_true, decide_eq_true_eq]
  intro c hc
  rcases h c hc with h | h | h <;> (first | lia | omega)
theorem shaped_ent {e : Ent} (h : sg e.2) : SeqAt.shaped (tupD e) = true := by
  simp [SeqAt.shaped, tupD, PyData.canLay0, PyData.canLayAll0, PyData.depth, PyData.depthAll, strOk_sg h]
theorem canLay_ents : ∀ es : List Ent, (∀ e ∈ es, sg e.2) → PyData.canLayAll0 (es.map tupD) = true
  | [], _ => rfl
  | e :: es, h => by
    rw [List.map_cons, PyData.canLayAll0, canLay_ents es fun x hx => h x (List.mem_cons_of_mem _ hx)]
    simp [tupD, PyData.canLay0, PyData.canLayAll0, strOk_sg (h e (List.mem_cons_self ..))]
theorem depth_ents : ∀ es : List Ent, PyData.depthAll (es.map tupD) ≤ 1
  | [] => Nat.zero_le _
  | e :: es => by
    rw [List.map_cons, PyData.depthAll]
    have h1 := depth_ents es
    have h2 : PyData.depth (tupD e) = 1 := by simp [tupD, PyData.depth, PyData.depthAll]
    (first | lia | omega)
theorem shaped_ents {es : List Ent} (h : ∀ e ∈ es, sg e.2) : SeqAt.shaped (.list (es.map tupD)) = true := by
  have h1 := canLay_ents es h
  have h2 := depth_ents es
  rw [SeqAt.shaped, PyData.canLay0, PyData.depth, h1, Bool.true_and]
  exact decide_eq_true (by (first | lia | omega))
section
variable {prog : Program} {w : World} {A : Around} {E : Value → Shared → Prop} {s : Shared} {a b : Addr} {Q : Value → Shared → Prop}
theorem ent_ne {x y : Ent} {t u t' u' : Tok} {n n' : Nat} (ha : s.heap.get? a = some (tupO x t u n)) (hb : s.heap.get? b = some (tupO y t' u' n')) (hx : sg x.2) (hy : sg y.2) (hu : A.units + 64 < cLine) (h : Q (.bool (!decide (x = y))) s) :
    wpAny (model prog w) A (compareOp .NotEq (.ref a) (.ref b)) Q E s :=
  ne_dataH (reads_ent ha) (reads_ent hb) (shaped_ent hx) (shaped_ent hy) hu (by rw [eqv_ent]; exact h)
theorem ents_ne {h₀ : Heap} {L : Addr} {news tups : Led} {vs : List Value} {es : List Ent} {n n' : Nat} (N : News h₀ L s.heap news) (ha : (a, listOf vs.toArray n) ∈ news) (hb : (b, listOf vs.toArray n') ∈ news) (ht : ∀ p ∈ tups, p ∈ news) (hT : TupsA tups vs es) (hs : ∀ e ∈ es, sg e.2) (hu : A.units + 64 < cLine) (h : Q (.bool false) s) :
    wpAny (model prog w) A (compareOp .NotEq (.ref a) (.ref b)) Q E s := by
  have hr := reads_ents (fun p hp => (N p (ht p hp)).1) hT
  refine ne_dataH (reads_list_at (N _ ha).1 rfl rfl (by simpa using hr)) (reads_list_at (N _ hb).1 rfl rfl (by simpa using hr)) (shaped_ents hs) (shaped_ents hs) hu ?_
  rw [PyData.eqv, eqv_ents]; exact h
end
end data
section sort
theorem asc_id {cmp : Nat → Nat → (Bool → Shared → Prop) → Shared → Prop} {n : Nat} {s : Shared} (hc : ∀ i, i + 1 < n → ∀ C : Bool → Shared → Prop, C false s → cmp (i + 1) i C s) {Q : Nat → Shared → Prop} (hQ : Q n s) :
    ∀ f m, m + 1 + f = n → (kas_asc (List.toArray (List.range n)) f (m + 1)).kasWp cmp Q s
  | 0, m, h => by
    have : m + 1 = n := h
    rw [kas_asc, this]; exact hQ
  | f + 1, m, h => by
    have g1 : (List.toArray (List.range n)).getD (m + 1) 0 = m + 1 := by
      have : m + 1 < n := by (first | lia | omega)
      simp [Array.getD, this]
    have g2 : (List.toArray (List.range n)).getD (m + 1 - 1) 0 = m := by
      have : m < n := by (first | lia | omega)
      simp [Array.getD, this]
    rw [kas_asc]
    show cmp _ _ _ s
    rw [g1, g2]
    refine hc m (by (first | lia | omega)) _ ?_
    simp only [Bool.false_eq_true, if_false]
    exact asc_id hc hQ f (m + 1) (by (first | lia | omega))
theorem sort_id {cmp : Nat → Nat → (Bool → Shared → Prop) → Shared → Prop} {n : Nat} {s : Shared} (h2 : 2 ≤ n) (hc : ∀ i, i + 1 < n → ∀ C : Bool → Shared → Prop, C false s → cmp (i + 1) i C s) {G : Array Nat → Shared → Prop} (hG : G (List.toArray (List.range n)) s) :
    (kas_sort n).kasWp cmp G s := by
  unfold kas_sort
  rw [KasT.kasWp_bind]
  unfold kas_count
  rw [KasT.kasWp_bind]
  refine asc_id hc ?_ (n - 1) 0 (by (first | lia | omega))
  rw [if_pos (by simp)]
  show KasT.kasWp cmp (if n < n then _ else _) G s
  rw [if_neg (Nat.lt_irrefl _)]
  exact hG
variable {prog : Program} {w : World} {A : Around} {E : Value → Shared → Prop} {s : Shared} {a b : Addr}
theorem key_lt {x y : Ent} {t u t' u' : Tok} {n n' : Nat} {C : Bool → Shared → Prop} (ha : s.heap.get? a = some (tupO x t u n)) (hb : s.heap.get? b = some (tupO y t' u' n')) (h : C (ltE x y) s) :
    wpAny (model prog w) A (keyLt' (tuples' true) (.ref a) (.ref b)) C E s := by
  refine kat_lt ha rfl hb rfl ?_
  show KatLex prog w A true (decide (2 < 2)) C [(.int x.1 t, .int y.1 t'), (.str (tx x.2) u, .str (tx y.2) u')] 0 s
  refine kat_cons (wpAny_eqBool_int ?_)
  by_cases e1 : x.1 = y.1
  · have e2 : (x.1 == y.1) = true := by simpa using e1
    rw [e2]
    refine kat_yes (kat_cons (wpAny_eqBool_str ?_))
    by_cases e3 : x.2 = y.2
    · have e4 : decide (tx x.2 = tx y.2) = true := decide_eq_true (by rw [e3])
      rw [e4]
      refine kat_yes (kat_nil ?_)
      have : ltE x y = false := by unfold ltE; rw [if_pos e1, if_pos e3]
      rw [this] at h
      exact h
    · have e4 : decide (tx x.2 = tx y.2) = false := decide_eq_false (fun e => e3 (tx_inj e))
      rw [e4]
      refine kat_no ?_
      show wpAny (model prog w) A (oneLt' false _ _) C _ s
      refine kat_one _ _ (lt_str ?_)
      have : ltE x y = decide (x.2 < y.2) := by unfold ltE; rw [if_pos e1, if_neg e3]
      rw [this] at h
      exact h
  · have e2 : (x.1 == y.1) = false := by simpa using e1
    rw [e2]
    refine kat_no ?_
    show wpAny (model prog w) A (oneLt' true _ _) C _ s
    refine oneLt_int ?_
    have : ltE x y = decide (x.1 < y.1) := by unfold ltE; rw [if_neg e1]
    rw [this] at h
    exact h
theorem firsts_of {h : Heap} {tups : Led} (hg : ∀ p ∈ tups, h.get? p.1 = some p.2) : ∀ {vs : List Value} {es : List Ent}, TupsA tups vs es → ∃ fs : List Value, fs.length = es.length ∧ KatTups h vs fs ∧ ∀ v ∈ fs, ∃ i t, v = Value.int i t
  | [], [], _ => ⟨[], rfl, KatTups.nil, fun _ h => nomatch h⟩
  | [], _ :: _, x => by have := x.1; simp at this
  | _ :: _, [], x => by have := x.1; simp at this
  | v :: vs, e :: es, x => by
    obtain ⟨⟨a, t, u, n, rfl, hm⟩, x'⟩ := x.uncons
    obtain ⟨fs, h1, h2, h3⟩ := firsts_of hg x'
    refine ⟨.int e.1 t :: fs, by simp [h1], KatTups.cons (hg _ hm) rfl rfl rfl h2, fun v hv => ?_⟩
    rcases List.mem_cons.mp hv with rfl | hv
    · exact ⟨_, _, rfl⟩
    · exact h3 v hv
/-- sorted, of what is sorted -/
theorem sorted_led {h₀ : Heap} {L l : Addr} {m : PySem.Str → Option Value} {news tups : Led} {vs : List Value} {es : List Ent} {n : Nat} {Q : Value → Shared → Prop} (F : Fr h₀ L s.heap m) (N : News h₀ L s.heap news) (hl : (l, listOf vs.toArray n) ∈ news) (ht : ∀ p ∈ tups, p ∈ news) (hT : TupsA tups vs es) (hso : es.Pairwise leE) (h2 : 2 ≤ es.length) (h64 : es.length < 64)
    (h : ∀ D k h', Fr h₀ L h' m → News h₀ L h' ((D, listOf vs.toArray k) :: news) → (∀ q ∈ news, q.1 < D) → Q (.ref D) { s with heap := h' }) :
    wpAny (model prog w) A (call (.builtin "sorted") [.ref l]) Q E s := by
  have hvl := hT.1
  refine kat_sorted F N (News.isList N hl) (by (first | lia | omega)) (by (first | lia | omega)) ?_
  intro D e1 h' F' N' lD
  have hg : ∀ p ∈ tups, h'.get? p.1 = some p.2 := fun p hp => (N' p (List.mem_cons_of_mem _ (ht p hp))).1
  obtain ⟨fs, f1, f2, f3⟩ := firsts_of hg hT
  refine kat_kind (T := .type "int") f2 (by (first | lia | omega)) (fun v hv => ?_) rfl ?_
  · obtain ⟨i, t, rfl⟩ := f3 v hv
    exact Looks.of_pure rfl
  · refine sort_id (by (first | lia | omega)) (fun i hi C hC => ?_) ?_
    · obtain ⟨a, t, u, k, hva, hma⟩ := hT.2 i (by (first | lia | omega))
      obtain ⟨a', t', u', k', hva', hma'⟩ := hT.2 (i + 1) (by (first | lia | omega))
      unfold kas_ask
      have e1 : vs.getD i Value.none = .ref a := by rw [List.getD_eq_getElem?_getD, hva]; rfl
      have e2 : vs.getD (i + 1) Value.none = .ref a' := by rw [List.getD_eq_getElem?_getD, hva']; rfl
      rw [e1, e2]
      refine key_lt (hg _ hma') (hg _ hma) ?_
      have hle : leE (gE es i) (gE es (i + 1)) := by
        have h1 : i < es.length := by (first | lia | omega)
        have h3 : i + 1 < es.length := by (first | lia | omega)
        have := List.pairwise_iff_getElem.mp hso i (i + 1) h1 h3 (by (first | lia | omega))
        simpa [gE, h1, h3] using this
      rw [show ltE (gE es (i + 1)) (gE es i) = false from hle]
      exact hC
    · have e3 : (List.toArray (List.range vs.length)).toList.map (fun i => vs.getD i Value.none) = vs := by
        apply List.ext_getElem
        · simp
        · intro i h1 h2
          simp at h1
          simp [h1]
      rw [e3]
      refine KasFin.intro F' N' (UpdF.head fun p hp => Nat.ne_of_lt (lD p hp)) fun h'' c F'' N'' => ?_
      exact h D c h'' F'' N'' lD
end sort
end Mine
end TLSort
section TLPair
open PySem PySem.W PyProof.Rows PySem.Calls PySem.Spec
set_option maxRecDepth 100000
set_option maxHeartbeats 4000000
namespace Mine
section kept
/-- all but the place a stands as it stood -/
def Kept (a : Addr) (h h' : Heap) : Prop := ∀ b o, b ≠ a → h.get? b = some o → h'.get? b = some o
variable {h₀ h h' : Heap} {L a : Addr} {m : PySem.Str → Option Value}
theorem fr_kept (F : Fr h₀ L h m) (k : Kept a h h') (hL : a ≠ L) (h0 : h₀.get? a = none) : Fr h₀ L h' m :=
  ⟨F.ns.at' fun o e => k _ o (Ne.symm hL) e, fun b o e => k b o (fun q => by rw [q, h0] at e; cases e) (F.keep b o e), F.above⟩
theorem news_kept {l l' : Led} {o o' : Obj} (N : News h₀ L h l) (k : Kept a h h') (ho : h'.get? a = some o') (hm : (a, o) ∈ l) (hn : ∀ p ∈ l', p = (a, o') ∨ (p ∈ l ∧ p.1 ≠ a)) : News h₀ L h' l' := fun p hp => by
  rcases hn p hp with rfl | ⟨x, y⟩
  · exact ⟨ho, (N _ hm).2⟩
  · exact ⟨k _ _ y (N p x).1, (N p x).2⟩
end kept
section pcomp
variable {prog : Program} {w : World} {A : Around} {E : Value → Shared → Prop} {h₀ : Heap} {L : Addr} {m : PySem.Str → Option Value} {env : Env}
/-- the iterator over the list, at the place i -/
def itO (ax : Addr) (i : Nat) (o : Obj) : Prop := o.cls = .type "list_iterator" ∧ o.data = .fields #[.ref ax, .int i 0]
/-- what a source of pairs must bring to a comprehension with a test over two names -/
inductive PSrc (prog : Program) (w : World) (A : Around) (h₀ : Heap) (L : Addr) (m : PySem.Str → Option Value) (env : Env) (c elt : Expr) (x y : PySem.Str) (scope : Scope) (cl : List (PySem.Str × Addr)) (Q : Value → Shared → Prop) (xv : Value) (s₁ : Shared) : Prop
  | mk (ax : Addr) (vs : List Value) (k : Nat) (news : Led) (J : Nat → List Value → Prop) (h1 : xv = .ref ax) (h2 : A.handled = none) (h3 : Fr h₀ L s₁.heap m) (h4 : News h₀ L s₁.heap news) (h5 : (ax, listOf vs.toArray k) ∈ news) (h6 : vs.length ≤ 100000) (h7 : J 0 [])
    (turn : ∀ i v, vs[i]? = some v → ∃ (t : Addr) (ot : Obj) (p q : Value) (n : Nat), v = .ref t ∧ (t, ot) ∈ news ∧ ot.cls = .type "tuple" ∧ ot.data = .seq #[p, q] n ∧ ∀ ys I oI C oC D m₂ h tk (E' : Value → Shared → Prop), J i ys → LCg.NsObj oC m₂ → m₂ x = some p → m₂ y = some q → Fr h₀ L h m → News h₀ L h ((I, oI) :: (C, oC) :: (D, LCg.lst ys) :: news) → LCg.Off3 I C D news → ((@Ne Nat I C) ∧ (@Ne Nat I D) ∧ (@Ne Nat C D)) →
        wpAny (model prog w) A (isTrue c (compEnvC scope cl C env) (eval c (compEnvC scope cl C env))) (fun b s' => if b = true then wpAny (model prog w) A (eval elt (compEnvC scope cl C env)) (LCg.CompEnd h₀ L m { s₁ with heap := h, toks := tk } I oI C oC D (LCg.lst ys) (fun nx => nx = news) (fun r _ => J (i + 1) (ys ++ [r]))) E' s'
          else LCg.CompEnd h₀ L m { s₁ with heap := h, toks := tk } I oI C oC D (LCg.lst ys) (fun nx => nx = news) (fun _ _ => J (i + 1) ys) Value.none s') E' { s₁ with heap := h, toks := tk })
    (fin : ∀ D ys h tk, J vs.length ys → Fr h₀ L h m → News h₀ L h ((D, LCg.lst ys) :: news) → LCg.Off1 D news → Q (.ref D) { s₁ with heap := h, toks := tk }) : PSrc prog w A h₀ L m env c elt x y scope cl Q xv s₁
inductive PInv (s₁ : Shared) (h₀ : Heap) (L I C D ax : Addr) (vs : List Value) (news : Led) (m : PySem.Str → Option Value) (J : Nat → List Value → Prop) (n : Nat) (s' : Shared) : Prop
  | mk (h' : Heap) (tk i : Nat) (ys : List Value) (m' : PySem.Str → Option Value) (oI oC : Obj) (e : s' = { s₁ with heap := h', toks := tk }) (h1 : i ≤ vs.length) (h2 : n = vs.length + 1 - i) (h3 : ys.length ≤ i) (h4 : itO ax i oI) (h5 : LCg.NsObj oC m') (h6 : Fr h₀ L h' m) (h7 : News h₀ L h' ((I, oI) :: (C, oC) :: (D, LCg.lst ys) :: news)) (h8 : J i ys) : PInv s₁ h₀ L I C D ax vs news m J n s'
theorem pair_comp {s : Shared} {elt iter c : Expr} {x y : PySem.Str} {px py tp : Pos} {kk : Nat} {scope : Scope} {cl : List (PySem.Str × Addr)} {pos : Pos} {Q : Value → Shared → Prop} (_F : Fr h₀ L s.heap m)
    (hclos : closureFor scope env = pure cl) (hcell : ∀ z ∈ scope.names, z.2 ≠ .cell) (hkind : scope.kind = .function)
    (hnames : ∀ z ∈ scope.names, z.2 = .local → scope.names.lookup z.1 = some .local) (hx : scope.names.lookup x = some .local) (hy : scope.names.lookup y = some .local) (hxy : ¬ x = y)
    (h : wpAny (model prog w) A (eval iter env) (PSrc prog w A h₀ L m env c elt x y scope cl Q) E s)
    (hs : ∀ z, foldedSetIterable iter env z = pure z := by intro _; rfl) :
    wpAny (model prog w) A (eval (.ListComp elt [⟨.Tuple [.Name x px, .Name y py] kk tp, iter, [c], 0⟩] scope pos) env) Q E s := by
  rw [eval_ListComp]
  refine wpAny_comprehension_free (use := none) rfl hs hclos hkind hnames (wpAny_mono h (fun xv s₁ h₁ => ?_) fun _ _ e => e)
  obtain ⟨ax, vs, k, news, J, rfl, hh, F, N, hax, hsz, j0, turn, fin⟩ := h₁
  have hL : L < s₁.heap.objs.size := F.ns.lt
  have hlt : ∀ b o, s₁.heap.get? b = some o → b < s₁.heap.objs.size := fun b o e => Heap.lt_size e
  have h0n : ∀ b, s₁.heap.objs.size ≤ b → h₀.get? b = none := fun b hb => Heap.get?_none_of_le (Nat.le_trans F.above (Nat.le_trans (Nat.le_of_lt hL) hb))
  have hlist : s₁.heap.IsList ax vs.toArray := ⟨_, (N _ hax).1, rfl, k, rfl⟩
  refine wpAny_pyIter_list hlist ?_
  refine wpAny_newObj_type (wpAny_newFunctionEnv hcell (by intro z hz; simp at hz) (fun h₁ hns hsb => ?_) hkind)
  dsimp only at hns hsb ⊢
  have sz1 : ∀ (g : Heap) (o : Obj), (g.push o).objs.size = g.objs.size + 1 := fun g o => Heap.size_push ..
  generalize hg1 : s₁.heap.push { cls := .type "list_iterator", data := .fields #[.ref ax, .int 0 0] } = g1 at *
  generalize hg2 : g1.push { cls := .type "list", dict := none, data := .seq ([] : List Value).toArray } = g2 at *
  have gi : g1.get? s₁.heap.objs.size = some { cls := .type "list_iterator", data := .fields #[.ref ax, .int 0 0] } := by rw [← hg1]; exact Heap.get?_push_size _ rfl
  have gd : g2.get? g1.objs.size = some (LCg.lst []) := by rw [← hg2]; exact Heap.get?_push_size _ rfl
  have zg1 : g1.objs.size = s₁.heap.objs.size + 1 := by rw [← hg1, sz1]
  have zg2 : g2.objs.size = s₁.heap.objs.size + 2 := by rw [← hg2, sz1, zg1]
  have up1 : ∀ b o, s₁.heap.get? b = some o → g1.get? b = some o := fun b o e => by rw [← hg1]; exact Heap.get?_push_of_some _ e
  have up2 : ∀ b o, g1.get? b = some o → g2.get? b = some o := fun b o e => by rw [← hg2]; exact Heap.get?_push_of_some _ e
  have up3 : Kept g2.objs.size g2 h₁ := fun b o hb e => hsb.extBut b o hb (Heap.get?_push_of_some _ e)
  generalize hI : s₁.heap.objs.size = I at *
  generalize hD : g1.objs.size = D at *
  generalize hC : g2.objs.size = C at *
  have ID : @Ne Nat I D := by (first | lia | omega)
  have IC : @Ne Nat I C := by (first | lia | omega)
  have DC : @Ne Nat D C := by (first | lia | omega)
  have IL : @Ne Nat I L := Nat.ne_of_gt hL
  have CL : @Ne Nat C L := by have : @LT.lt Nat _ L I := hL; (first | lia | omega)
  have DL : @Ne Nat D L := by have : @LT.lt Nat _ L I := hL; (first | lia | omega)
  have hI0 : h₀.get? I = none := h0n I (Nat.le_refl _)
  have hD0 : h₀.get? D = none := h0n D (by (first | lia | omega))
  have hC0 : h₀.get? C = none := h0n C (by (first | lia | omega))
  have nI : ∀ p ∈ news, @LT.lt Nat _ p.1 I := fun p hp => hlt _ _ (N p hp).1
  have off : LCg.Off3 I C D news := LCg.Off3.of fun p hp => ⟨Nat.ne_of_lt (nI p hp), by have := nI p hp; show @Ne Nat _ _; (first | lia | omega), by have := nI p hp; show @Ne Nat _ _; (first | lia | omega)⟩
  have offm := off.mem
  obtain ⟨oC, heC, hoC⟩ := LCg.ns_obj hns
  have keep₁ : ∀ b o, @LT.lt Nat _ b C → g2.get? b = some o → h₁.get? b = some o := fun b o hb e => up3 b o (Nat.ne_of_lt hb) e
  have N₁ : News h₀ L h₁ ((I, { cls := .type "list_iterator", data := .fields #[.ref ax, .int 0 0] }) :: (C, oC) :: (D, LCg.lst []) :: news) := by
    refine List.forall_mem_cons.mpr ⟨⟨keep₁ _ _ (by (first | lia | omega)) (up2 _ _ gi), IL, hI0⟩, List.forall_mem_cons.mpr ⟨⟨heC, CL, hC0⟩, List.forall_mem_cons.mpr ⟨⟨keep₁ _ _ (by (first | lia | omega)) gd, DL, hD0⟩, fun p hp => ?_⟩⟩⟩
    have := nI p hp
    exact ⟨keep₁ _ _ (by (first | lia | omega)) (up2 _ _ (up1 _ _ (N p hp).1)), (N p hp).2⟩
  have F₁ : Fr h₀ L h₁ m := F.keeps fun b o e => keep₁ b o (by have : @LT.lt Nat _ b I := hlt b o e; (first | lia | omega)) (up2 _ _ (up1 _ _ e))
  have loop : ∀ s₃ : Shared, s₃ = { s₁ with heap := h₁, toks := s₁.toks + ([] : List (PySem.Str × Value)).length } →
      codeAny (model prog w) A (.compLoop (.ListComp elt [⟨.Tuple [.Name x px, .Name y py] kk tp, iter, [c], 0⟩] scope pos) 0 (.ref I) (.ref D) (compEnvC scope cl C env))
        (compPost (model prog w) A E none Q (.ref D) C) s₃ := by
    rintro s₃ rfl
    refine kct_loop (PInv s₁ h₀ L I C D ax vs news m J) ?_ (vs.length + 1)
      ⟨h₁, _, 0, [], _, _, oC, rfl, Nat.zero_le _, rfl, Nat.le_refl _, ⟨rfl, rfl⟩, hoC, F₁, N₁, j0⟩
    rintro n s' ⟨h', tk, i, ys, m', oI, oC', rfl, hi, rfl, hyl, hoI, hoC', F', N', hJ⟩
    have zI := (N' _ (List.mem_cons_self ..)).1
    have hli : h'.IsListIter I ax i := ⟨oI, zI, hoI.1, hoI.2⟩
    have hla : h'.IsList ax vs.toArray := ⟨_, (N' _ (.tail _ (.tail _ (.tail _ hax)))).1, rfl, k, rfl⟩
    have mid : ∀ {g g' : Heap} {o : Obj} {r : Led}, News h₀ L g ((I, oI) :: (C, oC') :: (D, LCg.lst ys) :: news) → Kept I g g' → g'.get? I = some o → News h₀ L g' ((I, o) :: (C, oC') :: (D, LCg.lst ys) :: news) := fun {g g' o r} N2 k2 e2 => by
      refine news_kept N2 k2 e2 (List.mem_cons_self ..) (List.forall_mem_cons.mpr ⟨.inl rfl, List.forall_mem_cons.mpr ⟨.inr ⟨by k_mem, Ne.symm IC⟩, List.forall_mem_cons.mpr ⟨.inr ⟨by k_mem, Ne.symm ID⟩, fun p hp => .inr ⟨.tail _ (.tail _ (.tail _ hp)), (offm p hp).1⟩⟩⟩⟩)
    by_cases hin : i < vs.length
    · obtain ⟨t, ot, p, q, nt, hv, hmt, hct, hdt, tn⟩ := turn i vs[i] (by simp [hin])
      refine wpAny_pyNext_list_item hli hla (x := .ref t) (by simp [hin, hv]) fun h₂ hli₂ hsb₂ => ?_
      have hli₂' := hli₂
      obtain ⟨oI₂, eI₂, cI₂, dI₂⟩ := hli₂
      have k₂ : Kept I h' h₂ := fun b o hb e => hsb₂.extBut b o hb e
      have N₂ := mid (r := []) N' k₂ eI₂
      have F₂ := fr_kept F' k₂ IL hI0
      dsimp only
      refine wpAny_letOwnedTupleGo_listiter hli₂' ?_
      refine kcp_assign (env := compEnvC scope cl C env) hh ⟨ot, (N₂ _ (.tail _ (.tail _ (.tail _ hmt)))).1, hct, nt, hdt⟩ (lookup_relabel_local hx) (lookup_relabel_local hy) (by simp [compEnvC, relabel, hkind]) (hoC'.ns (N₂ _ (.tail _ (.head _))).1) fun h₃ tk₃ hn₃ k₃' => ?_
      have k₃ : Kept C h₂ h₃ := k₃'
      obtain ⟨oC₃, eC₃, hoC₃⟩ := LCg.ns_obj hn₃
      have F₃ := fr_kept F₂ k₃ CL hC0
      have N₃ : News h₀ L h₃ ((I, oI₂) :: (C, oC₃) :: (D, LCg.lst ys) :: news) := news_kept N₂ k₃ eC₃ (.tail _ (.head _)) (List.forall_mem_cons.mpr ⟨.inr ⟨by k_mem, IC⟩, List.forall_mem_cons.mpr ⟨.inl rfl, List.forall_mem_cons.mpr ⟨.inr ⟨by k_mem, DC⟩, fun p hp => .inr ⟨.tail _ (.tail _ (.tail _ hp)), (offm p hp).2.1⟩⟩⟩⟩)
      refine wpAny_mono (tn ys I oI₂ C oC₃ D _ h₃ _ _ hJ hoC₃ (by simp [hxy]) (by simp) F₃ N₃ off ⟨IC, ID, Ne.symm DC⟩) (fun b s₄ h₄ => ?_) fun _ _ e => e
      cases b with
      | false =>
        simp only [Bool.false_eq_true, if_false] at h₄ ⊢
        obtain ⟨h₅, tk₅, nx, rfl, F₅, N₅, _, rfl, hJ'⟩ := h₄
        exact ⟨vs.length + 1 - (i + 1), by (first | lia | omega), h₅, tk₅, i + 1, ys, _, oI₂, oC₃, rfl, hin, rfl, Nat.le_succ_of_le hyl, ⟨cI₂, dI₂⟩, hoC₃, F₅, N₅, hJ'⟩
      | true =>
        simp only [if_true] at h₄ ⊢
        refine wpAny_mono h₄ (fun r s₅ h₅ => ?_) fun _ _ e => e
        obtain ⟨h₅, tk₅, nx, rfl, F₅, N₅, _, rfl, hJ'⟩ := h₅
        refine append_at (N₅ _ (.tail _ (.tail _ (.head _)))).1 (fun h₆ hsb₆ eD₆ => ?_) (by rw [List.size_toArray, sizeLine_eq]; (first | lia | omega))
        have k₆ : Kept D h₅ h₆ := fun b o hb e => hsb₆.extBut b o hb e
        have N₆ : News h₀ L h₆ ((I, oI₂) :: (C, oC₃) :: (D, LCg.lst (ys ++ [r])) :: nx) := news_kept N₅ k₆ (eD₆.trans (congrArg some (LCg.lst_snoc ys r))) (.tail _ (.tail _ (.head _))) (List.forall_mem_cons.mpr ⟨.inr ⟨by k_mem, ID⟩, List.forall_mem_cons.mpr ⟨.inr ⟨by k_mem, Ne.symm DC⟩, List.forall_mem_cons.mpr ⟨.inl rfl, fun p hp => .inr ⟨.tail _ (.tail _ (.tail _ hp)), (offm p hp).2.2⟩⟩⟩⟩)
        exact ⟨vs.length + 1 - (i + 1), by (first | lia | omega), h₆, tk₅, i + 1, ys ++ [r], _, oI₂, oC₃, rfl, hin, rfl, by rw [List.length_append, List.length_singleton]; (first | lia | omega), ⟨cI₂, dI₂⟩, hoC₃, fr_kept F₅ k₆ DL hD0, N₆, hJ'⟩
    · obtain rfl : i = vs.length := by (first | lia | omega)
      refine wpAny_pyNext_list_end hh hli hla (by simp) fun h₂ ext => ?_
      have k₂ : Kept I h' h₂ := fun b o hb e => ext b o hb e
      have F₂ := fr_kept F' k₂ IL hI0
      have N₂ : News h₀ L h₂ ((C, oC') :: (D, LCg.lst ys) :: news) := fun p hp => by
        have z := N' p (.tail _ hp)
        refine ⟨k₂ _ _ ?_ z.1, z.2⟩
        rcases List.mem_cons.mp hp with rfl | hp
        · exact Ne.symm IC
        rcases List.mem_cons.mp hp with rfl | hp
        · exact Ne.symm ID
        · exact (offm p hp).1
      refine ⟨m', hoC'.ns (N₂ _ (.head _)).1, fun h₃ hsb₃ => ?_⟩
      have k₃ : Kept C h₂ h₃ := fun b o hb e => hsb₃.extBut b o hb e
      refine fin D ys h₃ tk hJ (fr_kept F₂ k₃ CL hC0) (fun p hp => ?_) off.one
      have z := N₂ p (.tail _ hp)
      refine ⟨k₃ _ _ ?_ z.1, z.2⟩
      rcases List.mem_cons.mp hp with rfl | hp
      · exact DC
      · exact (offm p hp).2.1
  exact codeAny_compStart_list (loop _ rfl) (wpAny_pyIter_listiter ⟨_, (N₁ _ (.head _)).1, rfl, rfl⟩ (loop _ rfl))
end pcomp
end Mine
end TLPair
section TLLaw
open PySem PySem.W PyProof.Rows PySem.Calls PySem.Spec
set_option maxRecDepth 100000
set_option maxHeartbeats 4000000
namespace Mine
section law
theorem callB {w : World} {d : Nat} {f : Addr} {vs : List Value} {S : Addr} {us : List Value} {mean : ExcName → Option Value} {mg mb : PySem.Str → Option Value} {dp un : Nat} {gd : Option (List Code)} {cn : PySem.Str} {cs : Scope} {a : Addr} {ccd : Value} {cl : List (PySem.Str × Addr)} {outer : List Env} {A₀ : Around} {base h₀ : Heap} {L : Addr} {m : PySem.Str → Option Value} {s : Shared} {Q E : Value → Shared → Prop} {rest : Led} {Out : Value → Led → Prop} (C : ConB w d f vs S us Out) (B : Below A₀ base outer h₀) (F : Fr h₀ L s.heap m) (X : (hd.heap_39 w.params).In h₀) (N : News h₀ L s.heap rest) (T : Top hd.view_39 (looseW hd.view_39 []) mean mg mb h₀) (hk : cs.kind = .function) (hS : h₀.IsList S us.toArray)
    (h1 : dp + d < recursionLimit) (h2 : un + 8 * d < cLine) (h : ∀ r led' h' tk', Fr h₀ L h' m → News h₀ L h' (led' ++ rest) → Off led' rest → Out r led' → Q r { s with heap := h', toks := tk' }) :
    wpAny (model PySem.Challenge.rw_pg0176_02.row.prog w) (ktrTop dp un gd cn cs L a ccd cl outer) (call (.ref f) vs) Q E s :=
  C mean mg mb dp un gd cn cs a ccd cl outer A₀ base h₀ L m s Q E rest B F X N T hk hS h1 h2 h
theorem strs_vals : ∀ {vs : List Value} {ss : List PySem.Str}, StrsAre vs ss → ∃ l, vs = strValues l ∧ l.map (·.1) = ss
  | _, _, .nil => ⟨[], rfl, rfl⟩
  | _, _, .cons y t h => by
    obtain ⟨l, h1, h2⟩ := strs_vals h
    exact ⟨(y, t) :: l, by rw [h1]; rfl, by rw [← h2]; rfl⟩
theorem join_wd {wd : List Nat} (h3 : 3 ≤ wd.length) (h4 : wd.length ≤ 4) : JoinOk (PySem.Str.ofString "") (wd.map fun c => tx [c]) = true ∧ Txt.join (PySem.Str.ofString "") (wd.map fun c => tx [c]) = tx wd := by
  rcases wd with _ | ⟨a, wd⟩
  · exact absurd h3 (by decide)
  rcases wd with _ | ⟨b, wd⟩
  · exact absurd h3 (by simp)
  rcases wd with _ | ⟨c, wd⟩
  · exact absurd h3 (by simp)
  rcases wd with _ | ⟨d, wd⟩
  · exact ⟨rfl, rfl⟩
  rcases wd with _ | ⟨e, wd⟩
  · exact ⟨rfl, rfl⟩
  · exact absurd h4 (by simp)
theorem item_abc (n : Int) : Txt.item (PySem.Str.ofString "abc") (n.fmod 3) = tx [97 + (n.fmod 3).toNat] := by
  rw [Int.fmod_eq_emod_of_nonneg _ (by decide)]
  have h : n % 3 = 0 ∨ n % 3 = 1 ∨ n % 3 = 2 := by (first | lia | omega)
  rcases h with h | h | h <;> rw [h] <;> rfl
/-- the four cells: two, one, dots, part -/
abbrev cel (L : Addr) (o4 o3 o2 o1 : Obj) : Led := [(L + 1 + 1 + 1 + 1, o4), (L + 1 + 1 + 1, o3), (L + 1 + 1, o2), (L + 1, o1)]
def IsCel (o : Obj) : Prop := ∃ v, o.data = .cell v
theorem cel_of {h₀ h : Heap} {L : Addr} {o4 o3 o2 o1 : Obj} {v4 v3 v2 v1 : Option Value} (N : News h₀ L h (cel L o4 o3 o2 o1)) (d4 : o4.data = .cell v4) (d3 : o3.data = .cell v3) (d2 : o2.data = .cell v2) (d1 : o1.data = .cell v1) :
    ∃ o4 o3 o2 o1, News h₀ L h (cel L o4 o3 o2 o1) ∧ IsCel o4 ∧ IsCel o3 ∧ IsCel o2 ∧ IsCel o1 := ⟨o4, o3, o2, o1, N, ⟨_, d4⟩, ⟨_, d3⟩, ⟨_, d2⟩, ⟨_, d1⟩⟩
/-- after the word -/
inductive XA (L : Addr) (m : PySem.Str → Option Value) (nx : Led) : Prop
  | mk (D : Addr) (us : List Value) (n : Nat) (is : List Int) (wd : List Nat) (t : Tok) (o4 o3 o2 o1 : Obj) (h1 : nx = (D, listOf us.toArray n) :: cel L o4 o3 o2 o1) (h2 : Off [(D, listOf us.toArray n)] (cel L o4 o3 o2 o1)) (h3 : Has m [(PySem.Str.ofString "draws", Value.ref D), (PySem.Str.ofString "word", Value.str (tx wd) t)]) (h4 : IntsAre us is) (h5 : is.length = 8) (h6 : IsCel o4) (h7 : IsCel o3) (h8 : IsCel o2) (h9 : IsCel o1) (h10 : sg wd) (h11 : 3 ≤ wd.length) (h12 : wd.length ≤ 4) : XA L m nx
/-- after the three texts are drawn -/
inductive XB (L : Addr) (m : PySem.Str → Option Value) (nx : Led) : Prop
  | mk (C : Addr) (vs : List Value) (n : Nat) (wd x y z : List Nat) (t : Tok) (o4 o3 o2 o1 : Obj) (h1 : nx = (C, listOf vs.toArray n) :: cel L o4 o3 o2 o1) (h2 : Off [(C, listOf vs.toArray n)] (cel L o4 o3 o2 o1)) (h3 : Has m [(PySem.Str.ofString "came", Value.ref C), (PySem.Str.ofString "word", Value.str (tx wd) t)]) (h4 : TxA vs [x, y, z]) (h5 : IsCel o4) (h6 : IsCel o3) (h7 : IsCel o2) (h8 : IsCel o1) (h9 : sg wd) (h10 : 3 ≤ wd.length) (h11 : wd.length ≤ 4) (h12 : ∃ r, (longL wd).Perm (x :: y :: z :: r)) : XB L m nx
local macro_rules | `(tactic| walk_at $k:str) => if ["exec For Name Subscript cons nil", "exec For", "pyIter ref", "call builtin:list.append", "call builtin:list.pop", "subscriptTail Name Name str int", "exec For Name Name cons nil", "exec For Name Call cons nil", "call ref", "exec Assign cons ListComp", "CompSrcT", "compareOp NotEq ref ref", "subscriptTail Name Name ref str", "eval ListComp", "subscriptTail Name Slice ref ref", "CompSrc", "CompEnd", "call builtin:str.join", "exec While Name cons nil", "truthy ref", "subscriptTail Name Constant ref int", "call builtin:sorted", "compareOp In str ref", "compareOp NotIn str ref", "PSrc"].contains k.getString then `(tactic| refine Hold.out ?_) else Lean.Macro.throwUnsupported
def NeAll (d : Addr) : Led → Prop
  | [] => True
  | p :: r => @Ne Nat p.1 d ∧ NeAll d r
theorem neAll_of {d : Addr} : ∀ {l : Led}, (∀ p ∈ l, p.1 ≠ d) → NeAll d l
  | [], _ => trivial
  | _ :: _, h => ⟨h _ (List.mem_cons_self ..), neAll_of fun q hq => h q (List.mem_cons_of_mem _ hq)⟩
theorem Off.ne1 {a : Addr} {o : Obj} {r : Led} (h : Off [(a, o)] r) : NeAll a r := neAll_of fun q hq e => h (a, o) (List.mem_cons_self ..) q hq e.symm
theorem longK_mem {wd p : List Nat} {i k : Nat} (hs : sg wd) (h : p ∈ longK wd i k) (hi : i ≤ wd.length) : sg p ∧ p.length = wd.length + 1 := by
  unfold longK at h
  obtain ⟨c, hc, rfl⟩ := List.mem_map.mp h
  have hc' := List.mem_of_mem_take (List.mem_filter.mp hc).1
  refine ⟨fun d hd => ?_, by simp; (first | lia | omega)⟩
  simp only [List.mem_append, List.mem_singleton] at hd
  rcases hd with (hd | rfl) | hd
  · exact hs d (List.mem_of_mem_take hd)
  · simpa using hc'
  · exact hs d (List.mem_of_mem_drop hd)
theorem longL_mem {wd p : List Nat} (hs : sg wd) (h : p ∈ longL wd) : sg p ∧ p.length = wd.length + 1 := by
  unfold longL longN at h
  obtain ⟨i, hi, hp⟩ := List.mem_flatMap.mp h
  exact longK_mem hs hp (by have := List.mem_range.mp hi; (first | lia | omega))
theorem tally_snoc (ps : List (List Nat)) (p : List Nat) : tally (ps ++ [p]) = kdpPut (tally ps) (tx p) (kdpLook (tally ps) (tx p) 0 + 1) := by
  unfold tally; rw [List.foldl_append]; rfl
theorem tally_len (ps : List (List Nat)) : (tally ps).length ≤ ps.length := by
  have key : ∀ (ps : List (List Nat)) (c : List (PySem.Str × Int)), (ps.foldl (fun c p => kdpPut c (tx p) (kdpLook c (tx p) 0 + 1)) c).length ≤ c.length + ps.length := by
    intro ps
    induction ps with
    | nil => intro c; exact Nat.le_refl _
    | cons p ps ih =>
      intro c
      have h1 := ih (kdpPut c (tx p) (kdpLook c (tx p) 0 + 1))
      have h2 := kdpPut_len c (tx p) (kdpLook c (tx p) 0 + 1)
      rw [List.foldl_cons, List.length_cons]; (first | lia | omega)
  have := key ps []
  simpa [tally] using this
theorem ne_of_all {d : Addr} : ∀ {l : Led}, NeAll d l → ∀ p ∈ l, p.1 ≠ d
  | [], _, _, h => nomatch h
  | _ :: l, x, p, h => by
    rcases List.mem_cons.mp h with rfl | h
    · exact x.1
    · exact ne_of_all x.2 p h
theorem shortL_len (p : List Nat) : (shortL p).length ≤ p.length := by
  unfold shortL
  rw [List.length_map]
  exact Nat.le_trans (List.length_filter_le ..) (by rw [List.length_range]; exact Nat.le_refl _)
theorem flat_len : ∀ l : List (List Nat), (∀ q ∈ l, q.length ≤ 8) → (l.flatMap shortL).length ≤ 8 * l.length
  | [], _ => Nat.le_refl _
  | q :: l, h => by
    rw [List.flatMap_cons, List.length_append, List.length_cons]
    have h1 := flat_len l fun q hq => h q (List.mem_cons_of_mem _ hq)
    have h2 := shortL_len q
    have h3 := h q (List.mem_cons_self ..)
    (first | lia | omega)
theorem hbnd (l : List (List Nat)) (t : List Nat) (j : Nat) (hl : (∀ q ∈ l, q.length ≤ 8) ∧ l.length ≤ 100) (ht : t.length ≤ 8) : (tally (l.flatMap shortL ++ (shortL t).take j)).length ≤ 16777216 := by
  have h1 := tally_len (l.flatMap shortL ++ (shortL t).take j)
  have h2 := flat_len l hl.1
  have h3 := shortL_len t
  rw [List.length_append, List.length_take] at h1
  (first | lia | omega)
theorem take_snoc {l : List (List Nat)} {j : Nat} (h : j < l.length) : l.take (j + 1) = l.take j ++ [l.getD j []] := by
  rw [List.take_succ_eq_append_getElem h]; simp [h]
theorem offs_of {I : Addr} {o : Obj} : ∀ {l : Led}, NeAll I l → ∀ p ∈ l, ∀ q ∈ ([(I, o)] : Led), p.1 ≠ q.1
  | [], _, _, h, _, _ => nomatch h
  | _ :: l, x, p, h, q, hq => by
    rcases List.mem_cons.mp h with rfl | h
    · rw [List.mem_singleton.mp hq]; exact x.1
    · exact offs_of x.2 p h q hq
/-- after the owners are counted -/
inductive XC (w : World) (L : Addr) (m : PySem.Str → Option Value) (nx : Led) : Prop
  | mk (O C : Addr) (oD : Obj) (kvs : List (PySem.Str × Value)) (vs : List Value) (n : Nat) (wd x y z : List Nat) (t : Tok) (o4 o3 o2 o1 : Obj) (h1 : nx = (O, oD) :: (C, listOf vs.toArray n) :: cel L o4 o3 o2 o1) (h2 : C ≠ O) (h3 : Off [(C, listOf vs.toArray n)] (cel L o4 o3 o2 o1)) (h4 : Off [(O, oD)] (cel L o4 o3 o2 o1)) (h5 : (O == sysModules) = false) (h6 : oD.IsDictOf (PySem.strKind PySem.Challenge.rw_pg0176_02.row.prog w) kvs) (h7 : PyProof.V.FlatPairs PyData.str kvs (kdpD (tally (shortL x ++ shortL y ++ shortL z)))) (h8 : Has m [(PySem.Str.ofString "came", Value.ref C), (PySem.Str.ofString "word", Value.str (tx wd) t), (PySem.Str.ofString "owners", Value.ref O)]) (h9 : TxA vs [x, y, z]) (h10 : IsCel o4) (h11 : IsCel o3) (h12 : IsCel o2) (h13 : IsCel o1) (h14 : sg wd) (h15 : 3 ≤ wd.length) (h16 : wd.length ≤ 4) (h17 : ∃ r, (longL wd).Perm (x :: y :: z :: r)) : XC w L m nx
abbrev celT (L : Addr) (o4 o3 o2 o1 : Obj) (tups : Led) : Led := (L + 1 + 1 + 1 + 1, o4) :: (L + 1 + 1 + 1, o3) :: (L + 1 + 1, o2) :: (L + 1, o1) :: tups
/-- after the heap is laid -/
inductive XD (L : Addr) (m : PySem.Str → Option Value) (nx : Led) : Prop
  | mk (H C : Addr) (us vs : List Value) (k n : Nat) (es : List Ent) (tups : Led) (wd x y z : List Nat) (t : Tok) (o4 o3 o2 o1 : Obj) (h1 : nx = (H, listOf us.toArray k) :: (C, listOf vs.toArray n) :: celT L o4 o3 o2 o1 tups) (h2 : C < H) (h3 : NeAll C (cel L o4 o3 o2 o1)) (h4 : NeAll H (cel L o4 o3 o2 o1)) (h5 : (∀ p ∈ tups, H < p.1 ∧ L + 1 + 1 + 1 + 1 < p.1)) (h6 : TupsA tups us es) (h7 : Heaped es) (h8 : es.Perm ((keysOf (shortL x ++ shortL y ++ shortL z)).map (entOf [x, y, z]))) (h9 : Has m [(PySem.Str.ofString "came", Value.ref C), (PySem.Str.ofString "word", Value.str (tx wd) t), (PySem.Str.ofString "heap", Value.ref H)]) (h10 : TxA vs [x, y, z]) (h11 : IsCel o4) (h12 : IsCel o3) (h13 : IsCel o2) (h14 : IsCel o1) (h15 : sg wd) (h16 : 3 ≤ wd.length) (h17 : wd.length ≤ 4) (h18 : ∃ r, (longL wd).Perm (x :: y :: z :: r)) : XD L m nx
/-- after the heap is told -/
inductive XE (L : Addr) (m : PySem.Str → Option Value) (nx : Led) : Prop
  | mk (TL C : Addr) (ts vs : List Value) (k n : Nat) (tl : List Ent) (tups : Led) (wd x y z : List Nat) (t : Tok) (o4 o3 o2 o1 : Obj) (h1 : nx = (TL, listOf ts.toArray k) :: (C, listOf vs.toArray n) :: celT L o4 o3 o2 o1 tups) (h2 : C < TL) (h3 : NeAll C (cel L o4 o3 o2 o1)) (h4 : NeAll TL (cel L o4 o3 o2 o1)) (h5 : (∀ p ∈ tups, p.1 < TL ∧ C < p.1 ∧ L + 1 + 1 + 1 + 1 < p.1)) (h6 : TupsA tups ts tl) (h7 : tl.Pairwise leE) (h8 : tl.Perm ((keys3 x y z).map (entOf [x, y, z]))) (h9 : Has m [(PySem.Str.ofString "came", Value.ref C), (PySem.Str.ofString "word", Value.str (tx wd) t), (PySem.Str.ofString "told", Value.ref TL)]) (h10 : TxA vs [x, y, z]) (h11 : IsCel o4) (h12 : IsCel o3) (h13 : IsCel o2) (h14 : IsCel o1) (h15 : Three wd x y z) : XE L m nx
/-- the told are the word and the others -/
inductive XF (L : Addr) (m : PySem.Str → Option Value) (nx : Led) : Prop
  | mk (TL C : Addr) (ts vs : List Value) (k n : Nat) (rest : List Ent) (tups : Led) (wd x y z : List Nat) (t : Tok) (o4 o3 o2 o1 : Obj) (h1 : nx = (TL, listOf ts.toArray k) :: (C, listOf vs.toArray n) :: celT L o4 o3 o2 o1 tups) (h2 : C < TL) (h3 : NeAll C (cel L o4 o3 o2 o1)) (h4 : NeAll TL (cel L o4 o3 o2 o1)) (h5 : (∀ p ∈ tups, p.1 < TL ∧ C < p.1 ∧ L + 1 + 1 + 1 + 1 < p.1)) (h6 : TupsA tups ts ((-3, wd) :: rest)) (h7 : rest.Perm (((keys3 x y z).filter fun p => decide (p ≠ wd)).map (entOf [x, y, z]))) (h8 : Has m [(PySem.Str.ofString "came", Value.ref C), (PySem.Str.ofString "word", Value.str (tx wd) t), (PySem.Str.ofString "told", Value.ref TL)]) (h9 : TxA vs [x, y, z]) (h10 : IsCel o4) (h11 : IsCel o3) (h12 : IsCel o2) (h13 : IsCel o1) (h14 : Three wd x y z) : XF L m nx
/-- a pair of texts, and the three pairs -/
def pairO (one two : List Nat) (t u : Tok) : Obj := { cls := .type "tuple", data := .seq #[.str (tx one) t, .str (tx two) u] 0 }
def pairs3 (x y z : List Nat) : List (List Nat × List Nat) := [(x, y), (x, z), (y, z)]
def moreN (l : List (List Nat × List Nat)) : Nat := (l.map fun p => (belowL p.1 p.2).length - 1).sum
structure PairF (wd one two : List Nat) : Prop where
  hw : 3 ≤ wd.length ∧ wd.length ≤ 4
  s1 : sg one
  s2 : sg two
  l1 : one.length = wd.length + 1
  l2 : two.length = wd.length + 1
  w1 : wd.Sublist one
  w2 : wd.Sublist two
  ne : one ≠ two
theorem pair_facts {wd x y z one two : List Nat} (T : Three wd x y z) {j : Nat} (h : (pairs3 x y z)[j]? = some (one, two)) : PairF wd one two := by
  have hm := List.mem_of_getElem? h
  simp only [pairs3, List.mem_cons, List.not_mem_nil, or_false, Prod.mk.injEq] at hm
  rcases hm with ⟨rfl, rfl⟩ | ⟨rfl, rfl⟩ | ⟨rfl, rfl⟩
  · exact ⟨T.hw, T.sx, T.sy, T.lx, T.ly, T.wx, T.wy, T.xy⟩
  · exact ⟨T.hw, T.sx, T.sz, T.lx, T.lz, T.wx, T.wz, T.xz⟩
  · exact ⟨T.hw, T.sy, T.sz, T.ly, T.lz, T.wy, T.wz, T.yz⟩
theorem seq_cel_ne {h₀ h : Heap} {L T c : Addr} {l : Led} {oT oc : Obj} {xs : Array Value} {n : Nat} (N : News h₀ L h l) (hT : (T, oT) ∈ l) (hc : (c, oc) ∈ l) (hs : oT.data = .seq xs n) (hcel : IsCel oc) : @Ne Nat T c := by
  intro e
  have e' : T = c := e
  subst e'
  have h1 := (N _ hT).1
  have h2 := (N _ hc).1
  have h3 : oT = oc := Option.some.inj (h1.symm.trans h2)
  obtain ⟨v, hv⟩ := hcel
  rw [← h3, hs] at hv
  cases hv
/-- the ledger of the pairs, with all but the cells put by -/
theorem pairs_led {h₀ h : Heap} {L PL T1 T2 T3 TL C : Addr} {one two thr : List Nat} {t0 t1 t2 : Tok} {ts vs : List Value} {k n : Nat} {o4 o3 o2 o1 : Obj} {tups : Led} (N : News h₀ L h ((PL, listOf #[.ref T1, .ref T2, .ref T3] 0) :: (T3, pairO two thr t1 t2) :: (T2, pairO one thr t0 t2) :: (T1, pairO one two t0 t1) :: (TL, listOf ts.toArray k) :: (C, listOf vs.toArray n) :: celT L o4 o3 o2 o1 tups))
    (c4 : IsCel o4) (c3 : IsCel o3) (c2 : IsCel o2) (c1 : IsCel o1) (nT : NeAll TL (cel L o4 o3 o2 o1)) (hI : ∀ p ∈ tups, L + 1 + 1 + 1 + 1 < p.1) :
    ∃ (ws : List Value) (R : Led), ws.length = 3 ∧ (PL, listOf ws.toArray 0) ∈ R ∧ (TL, listOf ts.toArray k) ∈ R ∧ (∀ p ∈ tups, p ∈ R) ∧
      (∀ (j : Nat) (v : Value), ws[j]? = some v → ∃ T p q ta tb, v = Value.ref T ∧ (T, pairO p q ta tb) ∈ R ∧ (pairs3 one two thr)[j]? = some (p, q)) ∧
      News h₀ L h (cel L o4 o3 o2 o1 ++ R) ∧ ∀ p ∈ R, @Ne Nat p.1 (L + 1 + 1 + 1 + 1) ∧ @Ne Nat p.1 (L + 1 + 1 + 1) ∧ @Ne Nat p.1 (L + 1 + 1) ∧ @Ne Nat p.1 (L + 1) := by
  refine ⟨[.ref T1, .ref T2, .ref T3], (PL, listOf #[.ref T1, .ref T2, .ref T3] 0) :: (T3, pairO two thr t1 t2) :: (T2, pairO one thr t0 t2) :: (T1, pairO one two t0 t1) :: (TL, listOf ts.toArray k) :: tups, rfl, .head _, by k_mem, fun p hp => .tail _ (.tail _ (.tail _ (.tail _ (.tail _ hp)))), ?_, ?_, ?_⟩
  · intro j v hv
    match j, hv with
    | 0, hv => exact ⟨T1, one, two, t0, t1, (Option.some.inj hv).symm, by k_mem, rfl⟩
    | 1, hv => exact ⟨T2, one, thr, t0, t2, (Option.some.inj hv).symm, by k_mem, rfl⟩
    | 2, hv => exact ⟨T3, two, thr, t1, t2, (Option.some.inj hv).symm, by k_mem, rfl⟩
    | j + 3, hv => exact nomatch hv
  · refine News.sub N (List.forall_mem_append.mpr ⟨?_, ?_⟩)
    · repeat (refine List.forall_mem_cons.mpr ⟨by k_mem, ?_⟩)
      exact fun _ h => nomatch h
    · refine List.forall_mem_cons.mpr ⟨by k_mem, List.forall_mem_cons.mpr ⟨by k_mem, List.forall_mem_cons.mpr ⟨by k_mem, List.forall_mem_cons.mpr ⟨by k_mem, List.forall_mem_cons.mpr ⟨by k_mem, fun p hp => ?_⟩⟩⟩⟩⟩
      exact .tail _ (.tail _ (.tail _ (.tail _ (.tail _ (.tail _ (.tail _ (.tail _ (.tail _ (.tail _ hp)))))))))
  · have key : ∀ {T : Addr} {oT : Obj} {xs : Array Value} {m : Nat}, (T, oT) ∈ (_ : Led) → oT.data = .seq xs m → @Ne Nat T (L + 1 + 1 + 1 + 1) ∧ @Ne Nat T (L + 1 + 1 + 1) ∧ @Ne Nat T (L + 1 + 1) ∧ @Ne Nat T (L + 1) := fun hT hs =>
      ⟨seq_cel_ne N hT (by k_mem) hs c4, seq_cel_ne N hT (by k_mem) hs c3, seq_cel_ne N hT (by k_mem) hs c2, seq_cel_ne N hT (by k_mem) hs c1⟩
    refine List.forall_mem_cons.mpr ⟨key (by k_mem) rfl, List.forall_mem_cons.mpr ⟨key (by k_mem) rfl, List.forall_mem_cons.mpr ⟨key (by k_mem) rfl, List.forall_mem_cons.mpr ⟨key (by k_mem) rfl, List.forall_mem_cons.mpr ⟨key (by k_mem) rfl, fun p hp => ?_⟩⟩⟩⟩⟩
    have h1 : @LT.lt Nat _ (L + 1 + 1 + 1 + 1) p.1 := hI p hp
    (first | lia | omega)
theorem more_sum {wd x y z : List Nat} (T : Three wd x y z) : moreN (pairs3 x y z) + 3 = (belowL x y).length + (belowL x z).length + (belowL y z).length := by
  obtain ⟨h1, h2, h3⟩ := below_wd T
  have g1 := List.length_pos_of_mem h1
  have g2 := List.length_pos_of_mem h2
  have g3 := List.length_pos_of_mem h3
  simp only [moreN, pairs3, List.map_cons, List.map_nil, List.sum_cons, List.sum_nil]
  (first | lia | omega)
theorem more_take {wd x y z one two : List Nat} (T : Three wd x y z) {j : Nat} (h : (pairs3 x y z)[j]? = some (one, two)) : ((moreN ((pairs3 x y z).take (j + 1)) : Nat) : Int) = ((moreN ((pairs3 x y z).take j) : Nat) : Int) + (((belowL one two).length : Int) - 1) := by
  have P := pair_facts T h
  have g1 := List.length_pos_of_mem ((belowL_mem (by rw [P.l1, P.l2])).mpr ⟨P.l1.symm, P.w1, P.w2⟩)
  have e : moreN ((pairs3 x y z).take (j + 1)) = moreN ((pairs3 x y z).take j) + ((belowL one two).length - 1) := by
    unfold moreN
    rw [List.take_add_one, h, List.map_append, List.sum_append]
    simp
  rw [e]; (first | lia | omega)
theorem any_tx (l : List (List Nat)) (p : List Nat) : (l.map tx).any (· == tx p) = decide (p ∈ l) := by
  rw [Bool.eq_iff_iff, List.any_eq_true, decide_eq_true_eq]
  constructor
  · rintro ⟨q, hq, e⟩
    obtain ⟨r, hr, rfl⟩ := List.mem_map.mp hq
    exact tx_inj (beq_iff_eq.mp e) ▸ hr
  · exact fun h => ⟨tx p, List.mem_map.mpr ⟨p, h, rfl⟩, beq_iff_eq.mpr rfl⟩
theorem getD_memL {l : List (List Nat)} {i : Nat} (h : i < l.length) : l.getD i [] ∈ l := by
  rw [List.getD_eq_getElem?_getD, List.getElem?_eq_getElem h]; exact List.getElem_mem h
theorem ham_le (x y : List Nat) : ∀ n, ham x y n ≤ n
  | 0 => Nat.le_refl _
  | n + 1 => by
    have := ham_le x y n
    rw [ham_succ]
    split <;> (first | lia | omega)
theorem tri_ne {prog : Program} {w : World} {A : Around} {E : Value → Shared → Prop} {s : Shared} {a b : Addr} {Q : Value → Shared → Prop} {x y z x' y' z' : Int} {t u v t' u' v' : Tok} {n n' : Nat} (ha : s.heap.get? a = some { cls := .type "tuple", data := .seq #[.int x t, .int y u, .int z v] n }) (hb : s.heap.get? b = some { cls := .type "tuple", data := .seq #[.int x' t', .int y' u', .int z' v'] n' })
    (he : x = x' ∧ y = y' ∧ z = z') (hu : A.units + 64 < cLine) (h : Q (.bool false) s) : wpAny (model prog w) A (compareOp .NotEq (.ref a) (.ref b)) Q E s := by
  have r : ∀ {c : Addr} {x y z : Int} {t u v : Tok} {n : Nat}, s.heap.get? c = some { cls := .type "tuple", data := .seq #[.int x t, .int y u, .int z v] n } → PySem.Reads s.heap (.ref c) (.tuple [.int x, .int y, .int z]) [] := fun hc =>
    reads_tuple_at hc rfl rfl (readsAll_cons_val (.int _ _) (readsAll_cons_val (.int _ _) (readsAll_cons_val (.int _ _) .nil)))
  have sh : ∀ x y z : Int, SeqAt.shaped (.tuple [.int x, .int y, .int z]) = true := fun x y z => by
    simp [SeqAt.shaped, PyData.canLay0, PyData.canLayAll0, PyData.depth, PyData.depthAll]
  refine ne_dataH (r ha) (r hb) (sh _ _ _) (sh _ _ _) hu ?_
  obtain ⟨rfl, rfl, rfl⟩ := he
  have e : PyData.eqv (.tuple [.int x, .int y, .int z]) (.tuple [.int x, .int y, .int z]) = true := by simp [PyData.eqv, PyData.eqvAll]
  rw [e]; exact h
theorem pick1 (v : Value) (vs : List Value) : (slicePick (List.toArray (v :: vs)) (some 1) none none).toList = vs := by
  have e : sliceBounds (some 1) none none (List.toArray (v :: vs)).size = (((1 : Nat) : Int), ((vs.length + 1 : Nat) : Int), 1) := by
    simp only [sliceBounds, Option.getD_none, show (1 : Int) > 0 by decide, if_true, if_neg (show ¬ ((1 : Int) < 0) by decide), List.size_toArray, List.length_cons]
    congr 1
    (first | lia | omega)
  rw [kmk_pick_nat _ e]
  simp
/-- after the pairs -/
inductive XG (L : Addr) (m : PySem.Str → Option Value) (nx : Led) : Prop
  | mk (TL : Addr) (ts : List Value) (k mo : Nat) (rest : List Ent) (tups : Led) (wd x y z : List Nat) (t : Tok) (o4 o3 o2 o1 : Obj) (h1 : nx = (TL, listOf ts.toArray k) :: celT L o4 o3 o2 o1 tups) (h2 : NeAll TL (cel L o4 o3 o2 o1)) (h3 : (∀ p ∈ tups, p.1 < TL ∧ L + 1 + 1 + 1 + 1 < p.1)) (h4 : TupsA tups ts ((-3, wd) :: rest)) (h5 : (rest.filter fun e => decide (e.1 < -1)).map (·.1) = List.replicate mo (-2)) (h6 : rest.length ≤ 15) (h7 : mo ≤ 15) (h8 : Has m [(PySem.Str.ofString "told", Value.ref TL), (PySem.Str.ofString "more", Value.int (mo : Int) t)]) (h9 : IsCel o4) (h10 : IsCel o3) (h11 : IsCel o2) (h12 : IsCel o1) : XG L m nx
theorem lt_of_all {d : Addr} : ∀ {l : Led}, AllLt d l → ∀ p ∈ l, @LT.lt Nat _ p.1 d
  | [], _, _, h => nomatch h
  | _ :: l, x, p, h => by
    rcases List.mem_cons.mp h with rfl | h
    · exact x.1
    · exact lt_of_all x.2 p h
theorem flat_keys : ∀ {kvs : List (PySem.Str × Value)} {c : List (PySem.Str × Int)}, PyProof.V.FlatPairs PyData.str kvs (kdpD c) → kvs.map (·.1) = c.map (·.1)
  | [], [], _ => rfl
  | [], _ :: _, h => nomatch h
  | _ :: _, [], h => nomatch h
  | (k, v) :: kvs, (k', i) :: c, h => by
    have h' : PyProof.V.FlatPairs PyData.str ((k, v) :: kvs) ((PyData.str k', PyData.int i) :: kdpD c) := h
    cases h' with
    | cons hv hr => rw [List.map_cons, List.map_cons, flat_keys hr]
theorem key_at {kvs : List (PySem.Str × Value)} {ps : List (List Nat)} {j : Nat} {kv : PySem.Str × Value} (h : kvs.map (·.1) = (tally ps).map (·.1)) (hj : kvs[j]? = some kv) : ∃ part, (keysOf ps)[j]? = some part ∧ kv.1 = tx part := by
  rw [tally_eq, List.map_map] at h
  have h1 : (kvs.map (·.1))[j]? = some kv.1 := by rw [List.getElem?_map, hj]; rfl
  rw [h, List.getElem?_map] at h1
  obtain ⟨p, hp, e⟩ := Option.map_eq_some_iff.mp h1
  exact ⟨p, hp, e.symm⟩
theorem na_nil {d : Addr} : NeAll d [] := trivial
theorem na_cons {a d : Addr} {o : Obj} {l : Led} (h : @Ne Nat a d) (r : NeAll d l) : NeAll d ((a, o) :: l) := ⟨h, r⟩
theorem cells_ne (L : Nat) : @Ne Nat (L + 1 + 1 + 1 + 1) (L + 1 + 1 + 1) ∧ @Ne Nat (L + 1 + 1 + 1 + 1) (L + 1 + 1) ∧ @Ne Nat (L + 1 + 1 + 1 + 1) (L + 1) ∧ @Ne Nat (L + 1 + 1 + 1) (L + 1 + 1) ∧ @Ne Nat (L + 1 + 1 + 1) (L + 1) ∧ @Ne Nat (L + 1 + 1) (L + 1) := by
  refine ⟨?_, ?_, ?_, ?_, ?_, ?_⟩ <;> omega
local macro_rules | `(tactic| k_ne) => `(tactic| (refine neN ?_; (try dsimp only); first | assumption | exact Ne.symm (by assumption) | exact Nat.ne_of_lt (by assumption) | exact Nat.ne_of_gt (by assumption) | lia | omega))
local macro_rules | `(tactic| k_all) => `(tactic| assumption)
theorem part_facts {wd x y z part : List Nat} (hs : sg wd) (hp : ∃ r, (longL wd).Perm (x :: y :: z :: r)) (h : part ∈ shortL x ++ shortL y ++ shortL z) : sg part ∧ part.length = wd.length := by
  obtain ⟨r, hr⟩ := hp
  have key : ∀ t, t ∈ [x, y, z] → part ∈ shortL t → sg part ∧ part.length = wd.length := by
    intro t ht hpt
    have h1 := longL_mem hs (hr.mem_iff.mpr (List.mem_append_left r (show t ∈ [x, y, z] from ht)))
    have h2 := shortL_mem.mp hpt
    exact ⟨fun c hc => h1.1 c (h2.2.subset hc), by (first | lia | omega)⟩
  simp only [List.mem_append] at h
  rcases h with (h | h) | h
  · exact key x (by simp) h
  · exact key y (by simp) h
  · exact key z (by simp) h
theorem shN {h₀ h : Heap} {L : Addr} {l : Led} (_N : News h₀ L h l) : ∃ l' : Led, l' = l := ⟨l, rfl⟩
theorem getD3 {x y z : List Nat} {i : Nat} (h : i < 3) : [x, y, z].getD i [] ∈ [x, y, z] := by
  have h3 : i = 0 ∨ i = 1 ∨ i = 2 := by (first | lia | omega)
  rcases h3 with rfl | rfl | rfl <;> simp
theorem holds3_snoc {l : List (List Nat)} {i : Nat} (p : List Nat) (h : i < l.length) : holds3 (l.take (i + 1)) p = if p.Sublist (l.getD i []) then holds3 (l.take i) p ++ [l.getD i []] else holds3 (l.take i) p := by
  rw [take_snoc h]
  unfold holds3
  rw [List.filter_append]
  by_cases hs : p.Sublist (l.getD i []) <;> simp only [hs, if_true, if_false, List.filter_cons, List.filter_nil, decide_true, decide_false, Bool.false_eq_true, List.append_nil]
theorem strok3 {wd x y z part : List Nat} (hs : sg wd) (hp : ∃ r, (longL wd).Perm (x :: y :: z :: r)) : ∀ n ∈ (holds3 [x, y, z] part).map tx, PyData.strOk n = true := by
  intro n hn
  obtain ⟨t, ht, rfl⟩ := List.mem_map.mp hn
  obtain ⟨r, hr⟩ := hp
  have h1 := longL_mem hs (hr.mem_iff.mpr (List.mem_append_left r (show t ∈ [x, y, z] from (List.mem_filter.mp ht).1)))
  unfold PyData.strOk tx
  simp only [List.all_toArray, List.all_eq_true, decide_eq_true_eq]
  intro c hc
  rcases h1.1 c hc with h | h | h <;> (first | lia | omega)
theorem flat3 (x y z : List Nat) : [x, y, z].flatMap shortL = shortL x ++ shortL y ++ shortL z := by simp
theorem idx_of (d : Int) {n : Nat} (h0 : (0 : Int) < (n : Int)) (h1 : n ≤ 1000) : Builtin.List.listFitsIndex (d.fmod (n : Int)) = true ∧ seqIndex? (d.fmod (n : Int)) n = some (d.fmod (n : Int)).toNat ∧ (d.fmod (n : Int)).toNat < n := by
  have h2 := Int.fmod_nonneg_of_pos d h0
  have h3 := Int.fmod_lt_of_pos d h0
  generalize d.fmod (n : Int) = z at *
  refine ⟨?_, ?_, by (first | lia | omega)⟩
  · unfold Builtin.List.listFitsIndex
    simp only [Bool.and_eq_true, decide_eq_true_eq]
    (first | lia | omega)
  · unfold seqIndex?
    have h4 : ¬ z < 0 := by (first | lia | omega)
    simp [h4, h2, h3]
theorem TxA.erase : ∀ {vs : List Value} {ls : List (List Nat)} (_ : TxA vs ls) (k : Nat), TxA (vs.eraseIdx k) (ls.eraseIdx k)
  | [], [], h, k => h
  | _ :: _, [], h, k => nomatch h
  | [], _ :: _, h, k => nomatch h
  | v :: vs, l :: ls, h, k => by
    have h' : StrsAre (v :: vs) (tx l :: ls.map tx) := h
    cases h' with
    | cons y t h2 =>
      cases k with
      | zero => exact h2
      | succ k => exact .cons _ t (TxA.erase (vs := vs) (ls := ls) h2 k)
theorem perm_erase : ∀ (l : List (List Nat)) (k : Nat), k < l.length → l.Perm (l.getD k [] :: l.eraseIdx k)
  | x :: l, 0, _ => List.Perm.refl _
  | x :: l, k + 1, h => by
    have ih := perm_erase l k (by simpa using h)
    simp only [List.getD_cons_succ, List.eraseIdx_cons_succ]
    exact (ih.cons x).trans (List.Perm.swap _ _ _)
theorem perm_pop (ct : List (List Nat)) {pl : List (List Nat)} {k : Nat} (h : k < pl.length) : (ct ++ pl).Perm (ct ++ [pl.getD k []] ++ pl.eraseIdx k) := by
  rw [List.append_assoc]
  exact List.Perm.append_left ct (perm_erase pl k h)
theorem longL_len (wd : List Nat) : 3 ≤ (longL wd).length := by
  unfold longL
  rw [longN_succ, List.length_append]
  have : (longK wd wd.length 3).length = 3 := by simp [longK]
  (first | lia | omega)
theorem TupsA.mono {tups tups' : Led} {vs : List Value} {es : List Ent} (h : TupsA tups vs es) (hs : ∀ p ∈ tups, p ∈ tups') : TupsA tups' vs es :=
  ⟨h.1, fun i hi => by
    obtain ⟨a, t, u, n, h1, h2⟩ := h.2 i hi
    exact ⟨a, t, u, n, h1, hs _ h2⟩⟩
theorem off_all {l r : Led} (h : ∀ p ∈ l, NeAll p.1 r) : Off l r := fun p hp q hq e => ne_of_all (h p hp) q hq e.symm
theorem offs_I {I : Addr} {o : Obj} {l : Led} (h : ∀ p ∈ l, @Ne Nat p.1 I) : ∀ p ∈ l, ∀ q ∈ ([(I, o)] : Led), p.1 ≠ q.1 := fun p hp q hq => by
  rw [List.mem_singleton.mp hq]; exact h p hp
local macro_rules | `(tactic| walk_at "TurnP") => `(tactic| dsimp only [TurnP])
local macro_rules | `(tactic| walk_at "call builtin:len") => `(tactic| ((with_reducible show wpAny _ _ (call (Value.builtin "len") [Value.ref _]) _ _ _); refine Hold.out ?_))
local macro_rules | `(tactic| walk_at "UnrPostW") => `(tactic| dsimp only [UnrPostW])
local macro_rules | `(tactic| walk_at "CutP") => `(tactic| dsimp only [CutP])
inductive JB (SL C P : Addr) (zs : List Value) (T : Led) (wd : List Nat) (i : Nat) (m : PySem.Str → Option Value) (nx : Led) : Prop
  | mk (cs qs : List Value) (k1 k2 : Nat) (ct pl : List (List Nat)) (t1 : Tok) (h1 : nx = (SL, listOf (List.toArray zs) 0) :: (C, listOf cs.toArray k1) :: (P, listOf qs.toArray k2) :: T) (h2 : Has m [(PySem.Str.ofString "came", Value.ref C), (PySem.Str.ofString "pile", Value.ref P), (PySem.Str.ofString "word", Value.str (tx wd) t1)]) (h3 : TxA cs ct) (h4 : TxA qs pl) (h5 : ct.length = i) (h6 : (longL wd).Perm (ct ++ pl)) : JB SL C P zs T wd i m nx
inductive JC (w : World) (L O C : Addr) (vs : List Value) (n : Nat) (wd x y z : List Nat) (i : Nat) (m : PySem.Str → Option Value) (nx : Led) : Prop
  | mk (oD : Obj) (kvs : List (PySem.Str × Value)) (t1 : Tok) (o4 o3 o2 o1 : Obj) (h1 : nx = (O, oD) :: (C, listOf vs.toArray n) :: cel L o4 o3 o2 o1) (h2 : Has m [(PySem.Str.ofString "came", Value.ref C), (PySem.Str.ofString "word", Value.str (tx wd) t1), (PySem.Str.ofString "owners", Value.ref O)]) (h3 : oD.IsDictOf (PySem.strKind PySem.Challenge.rw_pg0176_02.row.prog w) kvs) (h4 : PyProof.V.FlatPairs PyData.str kvs (kdpD (tally (([x, y, z].take i).flatMap shortL)))) (h5 : IsCel o4) (h6 : IsCel o3) (h7 : IsCel o2) (h8 : IsCel o1) : JC w L O C vs n wd x y z i m nx
inductive JI (w : World) (L O C I SL : Addr) (oI : Obj) (vs ps : List Value) (n np i : Nat) (wd x y z text : List Nat) (j : Nat) (m : PySem.Str → Option Value) (nx : Led) : Prop
  | mk (oD : Obj) (kvs : List (PySem.Str × Value)) (t1 : Tok) (o4 o3 o2 o1 : Obj) (h1 : nx = (SL, listOf ps.toArray np) :: (I, oI) :: (O, oD) :: (C, listOf vs.toArray n) :: cel L o4 o3 o2 o1) (h2 : Has m [(PySem.Str.ofString "came", Value.ref C), (PySem.Str.ofString "word", Value.str (tx wd) t1), (PySem.Str.ofString "owners", Value.ref O)]) (h3 : oD.IsDictOf (PySem.strKind PySem.Challenge.rw_pg0176_02.row.prog w) kvs) (h4 : PyProof.V.FlatPairs PyData.str kvs (kdpD (tally (([x, y, z].take i).flatMap shortL ++ (shortL text).take j)))) (h5 : IsCel o4) (h6 : IsCel o3) (h7 : IsCel o2) (h8 : IsCel o1) : JI w L O C I SL oI vs ps n np i wd x y z text j m nx
inductive JD (L H O C I : Addr) (oD : Obj) (vs : List Value) (n : Nat) (ps : List (List Nat)) (wd x y z : List Nat) (i : Nat) (m : PySem.Str → Option Value) (nx : Led) : Prop
  | mk (es : List Ent) (us : List Value) (k : Nat) (tups : Led) (t1 : Tok) (o4 o3 o2 o1 : Obj) (h1 : nx = (H, listOf us.toArray k) :: (O, oD) :: (C, listOf vs.toArray n) :: celT L o4 o3 o2 o1 tups) (h2 : Has m [(PySem.Str.ofString "came", Value.ref C), (PySem.Str.ofString "word", Value.str (tx wd) t1), (PySem.Str.ofString "owners", Value.ref O), (PySem.Str.ofString "heap", Value.ref H)]) (h3 : TupsA tups us es) (h4 : Heaped es) (h5 : es.Perm (((keysOf ps).take i).map (entOf [x, y, z]))) (h6 : (∀ p ∈ tups, I < p.1)) (h7 : IsCel o4) (h8 : IsCel o3) (h9 : IsCel o2) (h10 : IsCel o1) : JD L H O C I oD vs n ps wd x y z i m nx
inductive JE (L TL H C : Addr) (vs : List Value) (n : Nat) (es : List Ent) (tups : Led) (o4 o3 o2 o1 : Obj) (wd : List Nat) (n' : Nat) (m : PySem.Str → Option Value) (nx : Led) : Prop
  | mk (us' ts : List Value) (es' tl : List Ent) (k1 k2 : Nat) (t1 : Tok) (h1 : nx = (TL, listOf ts.toArray k1) :: (H, listOf us'.toArray k2) :: (C, listOf vs.toArray n) :: celT L o4 o3 o2 o1 tups) (h2 : Has m [(PySem.Str.ofString "came", Value.ref C), (PySem.Str.ofString "word", Value.str (tx wd) t1), (PySem.Str.ofString "told", Value.ref TL), (PySem.Str.ofString "heap", Value.ref H)]) (h3 : n' = es'.length) (h4 : TupsA tups us' es') (h5 : Heaped es') (h6 : TupsA tups ts tl) (h7 : tl.Pairwise leE) (h8 : (∀ a ∈ tl, ∀ b ∈ es', leE a b)) (h9 : es.Perm (tl ++ es')) : JE L TL H C vs n es tups o4 o3 o2 o1 wd n' m nx
inductive KE (L TL H C : Addr) (vs : List Value) (n : Nat) (es : List Ent) (tups : Led) (o4 o3 o2 o1 : Obj) (wd : List Nat) (m : PySem.Str → Option Value) (nx : Led) : Prop
  | mk (us' ts : List Value) (tl : List Ent) (k1 k2 : Nat) (t1 : Tok) (h1 : nx = (TL, listOf ts.toArray k1) :: (H, listOf us'.toArray k2) :: (C, listOf vs.toArray n) :: celT L o4 o3 o2 o1 tups) (h2 : Has m [(PySem.Str.ofString "came", Value.ref C), (PySem.Str.ofString "word", Value.str (tx wd) t1), (PySem.Str.ofString "told", Value.ref TL)]) (h3 : TupsA tups ts tl) (h4 : tl.Pairwise leE) (h5 : es.Perm tl) : KE L TL H C vs n es tups o4 o3 o2 o1 wd m nx
inductive JG (L TL : Addr) (R : Led) (wd x y z : List Nat) (i : Nat) (m : PySem.Str → Option Value) (nx : Led) : Prop
  | mk (t1 tm : Tok) (o4 o3 o2 o1 : Obj) (h1 : nx = cel L o4 o3 o2 o1 ++ R) (h2 : Has m [(PySem.Str.ofString "word", Value.str (tx wd) t1), (PySem.Str.ofString "told", Value.ref TL), (PySem.Str.ofString "more", Value.int ((moreN ((pairs3 x y z).take i) : Nat) : Int) tm)]) (h3 : IsCel o4) (h4 : IsCel o3) (h5 : IsCel o2) (h6 : IsCel o1) : JG L TL R wd x y z i m nx
/-- a cut of the law's body: the statements come to their end -/
def CutN (h₀ : Heap) (L : Addr) (s : Shared) (X : (PySem.Str → Option Value) → Led → Prop) (f : Flow) (s₃ : Shared) : Prop :=
  match f with
  | .next => WOut h₀ L s X s₃
  | _ => False
theorem cut_law {M : Model} {A : Around} {env : Env} {Q : Flow → Shared → Prop} {E : Value → Shared → Prop} {h₀ : Heap} {L : Addr} {s1 : Shared} {g : Heap} {t : Nat} {m₀ : PySem.Str → Option Value} (n : Nat) {l : List Stmt} (F : Fr h₀ L g m₀) (X : (PySem.Str → Option Value) → Led → Prop)
    (h1 : wpAny M A (execs (l.take n) env) (CutN h₀ L s1 X) (fun _ _ => False) { s1 with heap := g, toks := t })
    (h2 : ∀ m' nx h tk, X m' nx → Fr h₀ L h m' → News h₀ L h nx → wpAny M A (execs (l.drop n) env) Q E { s1 with heap := h, toks := tk }) : wpAny M A (execs l env) Q E { s1 with heap := g, toks := t } :=
  cut_led n F X (wpAny_mono h1 (fun f s₃ hq => by cases f <;> first | exact hq | exact hq.elim) fun _ _ x => x.elim) h2
local macro_rules | `(tactic| walk_at "CutN") => `(tactic| dsimp only [CutN])
theorem law_ok : PySem.Challenge.rw_pg0176_02.Holds := Mine.hd (by
  k_go0
  rename World => w
  rename Shared => s1
  rename News _ _ _ _ => N
  rename Fr _ _ _ _ => F
  rename IntsAre _ _ => hI
  rename Heap.IsList _ _ _ => hS
  rename ¬ _ < _ => hlen
  obtain ⟨o4, o3, o2, o1, N1, c4, c3, c2, c1⟩ := cel_of N (by assumption) (by assumption) (by assumption) (by assumption)
  clear N
  obtain ⟨ce1, ce2, ce3, ce4, ce5, ce6⟩ := cells_ne s1.heap.objs.size
  dsimp only
  refine cut_led 2 F (XA s1.heap.objs.size) ?a1 ?a2
  case a1 =>
    dsimp only [List.take]
    k_steps
    refine ⟨?_⟩
    with_unfolding_all refine' callB (draws_ok w _ _ _ hI (by (first | lia | omega))) ?cB ?cF ?cX ?cN ?cT ?ck ?cS ?cd ?cu ?_
    case cB => k_asm
    case cF => k_asm
    case cX => k_asm
    case cN => k_asm
    case cT => k_asm
    case ck => rfl
    case cS => k_asm
    case cd => decide
    case cu => decide
    rintro r led' h1 tk1 F1 N2 ho1 ⟨D, us, n, is, rfl, rfl, hU, hUl⟩
    clear F N1
    simp only [List.cons_append, List.nil_append] at N2
    dsimp only
    k_steps
    refine ⟨?_⟩
    k_dflt refine LCg.ListComp_U (F₀ := by k_asm) (by rfl) (by decide) (by rfl) (by decide) (by rfl) ?_
    k_steps
    refine ⟨?_⟩
    have hx0 : is[(0 : Int).toNat]? = some (is.getD (Int.toNat 0) 0) := by
      have h0 : 0 < is.length := by (first | lia | omega)
      show is[0]? = some (is.getD 0 0)
      simp [List.getD_eq_getElem?_getD, h0]
    refine item_ints (by assumption) (List.mem_cons_self ..) hU (by decide) (by decide) hx0 ?_
    intro tz
    k_steps
    refine ⟨?_⟩
    rename Fr _ _ _ _ => F3
    rename News _ _ _ _ => N3
    k_dflt (refine' kmk_slice_ints F3 N3 (News.isList N3 (List.mem_cons_self ..)) ?zp ?zq hU (kmk_run hU ?zx ?zy) rfl ?_ ?zs ?zt ?zz; (case zp => kmk_part); (case zq => kmk_part); (case zs => with_unfolding_all rfl); (case zt => kmk_pure); (case zz => (rw [PySem.sizeLine_eq, List.size_toArray, hU.length]; (first | lia | omega))))
    case zx => decide
    case zy =>
      rw [Int.fmod_eq_emod_of_nonneg _ (by decide)]; (first | lia | omega)
    intro D2 zs h5 F5 N5 l5 hzs hzc hzl
    clear hzc hzl F3 N3
    have hlen2 : 3 ≤ ((is.drop (Int.toNat 1)).take (min (4 + (is.getD (Int.toNat 0) 0).fmod 2).toNat is.length - Int.toNat 1)).length ∧ ((is.drop (Int.toNat 1)).take (min (4 + (is.getD (Int.toNat 0) 0).fmod 2).toNat is.length - Int.toNat 1)).length ≤ 4 := by
      rw [Int.fmod_eq_emod_of_nonneg _ (by decide), List.length_take, List.length_drop]
      have e1 : Int.toNat 1 = 1 := rfl
      rw [e1]
      rcases Int.emod_two_eq (is.getD (Int.toNat 0) 0) with h | h <;> rw [h, hUl] <;> decide
    generalize (is.drop (Int.toNat 1)).take (min (4 + (is.getD (Int.toNat 0) 0).fmod 2).toNat is.length - Int.toNat 1) = ms at hzs hlen2
    have hzl := hzs.length
    dsimp only
    k_dflt refine LCg.CompSrc.ledger (by rfl) (by k_asm) (by k_asm) (List.mem_cons_self ..) (by rw [PySem.sizeLine_eq, List.size_toArray]; (first | lia | omega)) ?_
    intro g6
    refine comp_U (fun j ys nx => nx = (D2, listOf zs.toArray 0) :: (D, listOf us.toArray n) :: cel s1.heap.objs.size o4 o3 o2 o1 ∧ TxA ys ((ms.take j).map fun d => [97 + (d.fmod 3).toNat])) ⟨rfl, by simp; exact .nil⟩ ?_ ?_
    · rintro j v I3 oI3 C3 oC3 D3 m₂ ys nx h7 tk7 E7 hj hv ⟨rfl, hys⟩ hC hx F7 N7 off ne
      obtain ⟨n7, t7, rfl, hn7⟩ := hzs.at j v (by simpa using hv)
      clear F5 N5
      dsimp only
      k_steps
      refine ⟨?_⟩
      refine LCg.CompEnd.intro (by assumption) (by assumption) _ (fun p hp => hp) off (.inr ⟨_, List.mem_cons_self .., rfl, _, rfl⟩) ⟨rfl, ?_⟩
      rw [List.take_add_one, hn7, List.map_append]
      rw [item_abc n7]
      exact TxA.snoc hys
    · rintro ys nx ⟨rfl, hys⟩
      k_steps
      refine ⟨?_⟩
      have hsl : zs.toArray.size = ms.length := by rw [List.size_toArray, hzs.length]
      rw [hsl, List.take_length] at hys
      obtain ⟨l, rfl, hl⟩ := strs_vals hys
      have hjt := join_wd (wd := ms.map fun d => 97 + (d.fmod 3).toNat) (by simpa using hlen2.1) (by simpa using hlen2.2)
      have e3 : ((ms.map fun d => [97 + (d.fmod 3).toNat]).map tx) = (ms.map fun d => 97 + (d.fmod 3).toNat).map fun c => tx [c] := by simp
      rename News _ _ _ _ => N9
      refine SC.join (News.isList N9 (List.mem_cons_self ..)) (hl.trans e3) hjt.1 ?_
      intro tj kj
      rw [hjt.2]
      dsimp only
      k_steps
      refine WOut.mk (by assumption) (News.tl (News.tl (by assumption))) ⟨D, us, n, is, _, _, o4, o3, o2, o1, rfl, ho1, ps_cons rfl (ps_cons rfl ps_nil), hU, hUl, c4, c3, c2, c1, ?_, by simpa using hlen2.1, by simpa using hlen2.2⟩
      intro c hc
      obtain ⟨d, _, rfl⟩ := List.mem_map.mp hc
      rw [Int.fmod_eq_emod_of_nonneg _ (by decide)]
      have h : d % 3 = 0 ∨ d % 3 = 1 ∨ d % 3 = 2 := by (first | lia | omega)
      rcases h with h | h | h <;> rw [h] <;> simp
  case a2 =>
    rintro m₁ nx h1 tk1 ⟨D, us, n, is, wd, t, o4, o3, o2, o1, rfl, hDo, hm, hU, hUl, c4, c3, c2, c1, hsg, hw3, hw4⟩ F1 N2
    replace F1 := fr_out hm F1
    clear hm F N1
    dsimp only [List.drop]
    refine cut_law (s1 := s1) 3 F1 (XB s1.heap.objs.size) ?b1 ?b2
    case b1 =>
      dsimp only [List.take]
      k_steps
      refine ⟨?_⟩
      with_unfolding_all refine' callL (led := []) (longer_ok w wd t hsg (by (first | lia | omega))) ?cB ?cF ?cX ?cN ?cT ?ck ?co ?cd ?cu ?_
      case cB => k_asm
      case cF => k_asm
      case cX => k_asm
      case cN => k_asm
      case cT => k_asm
      case ck => rfl
      case co => exact off_nil
      case cd => decide
      case cu => decide
      rintro r led' h2 tk2 F2 N3 ho2 ⟨P, ps, np, rfl, rfl, hPs, hPl⟩
      clear F1 N2
      simp only [List.cons_append, List.nil_append] at N3
      dsimp only
      k_steps
      rename_i C hA l1 hB F3 N4
      refine ⟨?_⟩
      with_unfolding_all refine' For_invVF F3 ?k1 ?k2 ?_
      case k1 => exact rfl
      case k2 => exact rfl
      k_steps
      refine ⟨?_⟩
      k_dflt (refine' kmk_slice_ints F3 N4 (News.isList N4 (by k_mem)) ?bzp ?bzq hU (kmk_from hU ?bzx) rfl ?_ ?bzs ?bzt ?bzz; (case bzp => kmk_part); (case bzq => kmk_part); (case bzs => with_unfolding_all rfl); (case bzt => kmk_pure); (case bzz => (rw [PySem.sizeLine_eq, List.size_toArray, hU.length]; (first | lia | omega))))
      case bzx => decide
      intro SL zs h5 F5 N5 l5 hzs hzc hzl
      clear hzc hzl F3 N4
      have e5 : (is.drop (Int.toNat 5)).length = 3 := by rw [List.length_drop]; show is.length - 5 = 3; (first | lia | omega)
      generalize is.drop (Int.toNat 5) = ms at hzs e5
      dsimp only
      have hzl := hzs.length
      have hll := longL_len wd
      have hl30 : (longL wd).length ≤ 30 := by rw [← hPs.len]; exact hPl
      generalize hT : (D, listOf us.toArray n) :: cel s1.heap.objs.size o4 o3 o2 o1 = T at *
      have hPT : ∀ q ∈ T, q.1 ≠ P := fun q hq e => ho2 (P, listOf ps.toArray np) (List.mem_cons_self ..) q hq e.symm
      have hCT : ∀ q ∈ T, q.1 ≠ C := by
        subst hT
        intro q hq
        simp only [List.mem_cons, List.not_mem_nil, or_false] at hq
        rcases hq with rfl | rfl | rfl | rfl | rfl
        · exact Nat.ne_of_lt l1.2.1
        · exact Nat.ne_of_lt l1.2.2.1
        · exact Nat.ne_of_lt l1.2.2.2.1
        · exact Nat.ne_of_lt l1.2.2.2.2.1
        · exact Nat.ne_of_lt l1.2.2.2.2.2
      have hPC : P ≠ C := Nat.ne_of_lt l1.1
      have hSC : SL ≠ C := Nat.ne_of_gt (l5 (C, listOf #[] 0) (by k_mem))
      have hSP : SL ≠ P := Nat.ne_of_gt (l5 (P, listOf ps.toArray np) (by k_mem))
      refine iter_led (vs := zs) (nn := 0) (JB SL C P zs T wd) (by rfl) F5 N5 ?j0 ?jJ ?jt ?jd
      case j0 => exact ⟨[], ps, _, _, [], longL wd, _, rfl, ps_cons rfl (ps_cons rfl (ps_cons rfl ps_nil)), .nil, hPs, rfl, List.Perm.refl _⟩
      case jJ => rintro i m nx ⟨cs, qs, k1, k2, ct, pl, t1, rfl, _⟩; exact List.mem_cons_self ..
      case jt =>
        rintro i v m₂ nx h6 tk6 I oI hv ⟨cs, qs, k1, k2, ct, pl, t1, rfl, hm, hcs, hqs, hct, hperm⟩ hnI F6 N6
        replace F6 := fr_in hm F6
        obtain ⟨d, td, rfl, _⟩ := hzs.at i v hv
        have hi3 : i < 3 := by have := (List.getElem?_eq_some_iff.mp hv).1; (first | lia | omega)
        clear F5 N5 hm
        have hlen := hperm.length_eq
        rw [List.length_append] at hlen
        have hql := hqs.len
        have hcl := hcs.len
        have hqp : (0 : Int) < (qs.length : Int) := by (first | lia | omega)
        k_steps
        refine ⟨?_⟩
        refine len_led (vs := qs) (by assumption) (by k_mem) (by (first | lia | omega)) ?_
        intro t7 tk7
        dsimp only
        k_steps
        refine ⟨?_⟩
        try dsimp only
        have hidx := idx_of d hqp (by (first | lia | omega))
        generalize d.fmod (qs.length : Int) = z at hidx ⊢
        obtain ⟨hz1, hz2, hz3⟩ := hidx
        obtain ⟨tq, hq⟩ := hqs.at (i := z.toNat) (by (first | lia | omega))
        refine popAt_led (vs := qs) (k := z.toNat) (by assumption) (by assumption) (by k_mem) hz1 hz2 hq (by (first | lia | omega)) ?_
        intro h8 n8 F8 N8
        have hP8 := News.mid (pre0 := []) (pre := [(I, oI), (SL, listOf zs.toArray 0), (C, listOf cs.toArray k1)]) N8 (by
          intro q hq
          rcases List.mem_cons.mp hq with rfl | hq
          · exact Ne.symm (hnI (P, listOf qs.toArray k2) (by k_mem))
          rcases List.mem_cons.mp hq with rfl | hq
          · exact hSP
          · rw [List.mem_singleton.mp hq]; exact hPC.symm) hPT
        simp only [List.cons_append, List.nil_append] at hP8
        clear N8 N6 F6
        dsimp only
        k_steps
        refine ⟨?_⟩
        refine append_led (D := C) (vs := cs) (n := k1) (by assumption) (by assumption) (by k_mem) (by (first | lia | omega)) ?_
        intro h9 n9 F9 N9
        have hP9 := News.mid (pre0 := []) (pre := [(I, oI), (SL, listOf zs.toArray 0)]) N9 (by
          intro q hq
          rcases List.mem_cons.mp hq with rfl | hq
          · exact Ne.symm (hnI (C, listOf cs.toArray k1) (by k_mem))
          · rw [List.mem_singleton.mp hq]; exact hSC) (by
          intro q hq
          rcases List.mem_cons.mp hq with rfl | hq
          · exact hPC
          · exact hCT q hq)
        simp only [List.cons_append, List.nil_append] at hP9
        clear N9 hP8
        dsimp only
        k_steps
        have hI1 := hnI (SL, listOf zs.toArray 0) (by k_mem)
        have hI2 := hnI (C, listOf cs.toArray k1) (by k_mem)
        have hI3 := hnI (P, listOf qs.toArray k2) (by k_mem)
        have hI4 : ∀ q ∈ T, q.1 ≠ I := fun q hq => hnI q (List.mem_cons_of_mem _ (List.mem_cons_of_mem _ (List.mem_cons_of_mem _ hq)))
        refine TEnd.mk (by assumption) hP9 (fun q hq => ?_) ⟨_, _, _, _, ct ++ [pl.getD z.toNat []], pl.eraseIdx z.toNat, _, rfl, ps_cons rfl (ps_cons rfl (ps_cons rfl ps_nil)), TxA.snoc hcs, TxA.erase hqs _, by simp [hct], hperm.trans (perm_pop ct (by (first | lia | omega)))⟩
        rcases List.mem_cons.mp hq with rfl | hq
        · exact hI1
        rcases List.mem_cons.mp hq with rfl | hq
        · exact hI2
        rcases List.mem_cons.mp hq with rfl | hq
        · exact hI3
        · exact hI4 q hq
      case jd =>
        rintro m₂ nx h6 tk6 ⟨cs, qs, k1, k2, ct, pl, t1, rfl, hm, hcs, hqs, hct, hperm⟩ F6 N6
        replace F6 := fr_out hm F6
        clear F5 N5 hm
        k_steps
        have hct3 : ct.length = 3 := hct.trans (hzl.trans e5)
        obtain ⟨x, y, z, rfl⟩ : ∃ x y z, ct = [x, y, z] := by
          match ct, hct3 with
          | [x, y, z], _ => exact ⟨x, y, z, rfl⟩
        subst hT
        refine WOut.mk (by assumption) (News.sub (by assumption) (l' := (C, listOf cs.toArray k1) :: cel s1.heap.objs.size o4 o3 o2 o1) ?_) ⟨C, cs, k1, wd, x, y, z, _, o4, o3, o2, o1, rfl, ?_, ps_cons rfl (ps_cons rfl ps_nil), hcs, c4, c3, c2, c1, hsg, hw3, hw4, pl, hperm⟩
        · intro q hq
          rcases List.mem_cons.mp hq with rfl | hq
          · exact List.mem_cons_of_mem _ (List.mem_cons_self ..)
          · exact List.mem_cons_of_mem _ (List.mem_cons_of_mem _ (List.mem_cons_of_mem _ (List.mem_cons_of_mem _ hq)))
        · intro p hp q hq e
          rw [List.mem_singleton.mp hp] at e
          exact hCT q (List.mem_cons_of_mem _ hq) e.symm
    case b2 =>
      rintro m₁ nx h1 tk1 ⟨C, vs, n, wd, x, y, z, t, o4, o3, o2, o1, rfl, hCo, hm, hvs, c4, c3, c2, c1, hsg, hw3, hw4, hperm⟩ F2 N3
      replace F2 := fr_out hm F2
      clear hm F1 N2 hDo hU hUl
      dsimp only [List.drop]
      refine cut_law (s1 := s1) 2 F2 (XC w s1.heap.objs.size) ?c1 ?c2
      case c1 =>
        dsimp only [List.take]
        k_steps
        rename_i O hA oD lo hs fs hi fi l1 hB F4 N4
        refine ⟨?_⟩
        with_unfolding_all refine' For_invVF F4 ?k1 ?k2 ?_
        case k1 => exact rfl
        case k2 => exact rfl
        k_steps
        refine ⟨?_⟩
        clear hi fi
        have hOC : C ≠ O := Nat.ne_of_lt l1.1
        have l1' := l1
        obtain ⟨nm1, nm2, nm3, nm4, nm5⟩ := l1'
        have hOcel : ∀ {p4 p3 p2 p1 : Obj}, ∀ q ∈ cel s1.heap.objs.size p4 p3 p2 p1, q.1 ≠ O := by
          intro p4 p3 p2 p1 q hq
          simp only [List.mem_cons, List.not_mem_nil, or_false] at hq
          rcases hq with rfl | rfl | rfl | rfl
          · exact Nat.ne_of_lt l1.2.1
          · exact Nat.ne_of_lt l1.2.2.1
          · exact Nat.ne_of_lt l1.2.2.2.1
          · exact Nat.ne_of_lt l1.2.2.2.2
        refine iter_led (vs := vs) (nn := n) (JC w s1.heap.objs.size O C vs n wd x y z) (by rfl) (by assumption) (by assumption) ?j0 ?jJ ?jt ?jd
        case j0 => exact ⟨oD, [], _, o4, o3, o2, o1, rfl, ps_cons rfl (ps_cons rfl (ps_cons rfl ps_nil)), hs, fs, c4, c3, c2, c1⟩
        case jJ => rintro i m nx ⟨oD, kvs, t1, o4, o3, o2, o1, rfl, _⟩; exact List.mem_cons_of_mem _ (List.mem_cons_self ..)
        case jd =>
          rintro m₂ nx h6 tk6 ⟨oD, kvs, t1, o4, o3, o2, o1, rfl, hm, hd, hf, c4, c3, c2, c1⟩ F6 N6
          replace F6 := fr_out hm F6
          clear F4 N4 hm
          k_steps
          refine WOut.mk (by assumption) (by assumption) ⟨O, C, oD, kvs, vs, n, wd, x, y, z, _, o4, o3, o2, o1, rfl, hOC, ?_, ?_, lo, hd, ?_, ps_cons rfl (ps_cons rfl (ps_cons rfl ps_nil)), hvs, c4, c3, c2, c1, hsg, hw3, hw4, hperm⟩
          · have n3 := hCo.ne1
            simp only [NeAll, and_true] at n3
            obtain ⟨nc1, nc2, nc3, nc4⟩ := n3
            intro p hp q hq
            rw [List.mem_singleton.mp hp]
            exact Ne.symm (ne_of_all (d := C) (by (repeat' (first | exact na_nil | refine na_cons (by k_ne) ?_))) q hq)
          · intro p hp q hq
            rw [List.mem_singleton.mp hp]
            exact Ne.symm (hOcel q hq)
          · have e3 : vs.length = 3 := by rw [hvs.len]; rfl
            rw [e3] at hf
            simpa using hf
        case jt =>
          rintro i v m₂ nx h6 tk6 I oI hv ⟨oD, kvs, t1, o4, o3, o2, o1, rfl, hm, hd, hf, c4, c3, c2, c1⟩ hnI F6 N6
          replace F6 := fr_in hm F6
          have hi3 : i < 3 := by have := (List.getElem?_eq_some_iff.mp hv).1; have := hvs.len; simp at this; (first | lia | omega)
          obtain ⟨tv, hv'⟩ := hvs.at (i := i) hi3
          obtain rfl := Option.some.inj (hv.symm.trans hv')
          clear F4 N4 hm hv hv'
          k_steps
          refine ⟨?_⟩
          generalize htx : [x, y, z].getD i [] = text at *
          have hmem : text ∈ longL wd := by
            obtain ⟨r, hr⟩ := hperm
            refine hr.mem_iff.mpr ?_
            have h3 : i = 0 ∨ i = 1 ∨ i = 2 := by (first | lia | omega)
            rcases h3 with rfl | rfl | rfl <;> (subst htx; simp)
          obtain ⟨hts, htl⟩ := longL_mem hsg hmem
          have hmem3 : (∀ q ∈ [x, y, z].take i, q.length ≤ 8) ∧ ([x, y, z].take i).length ≤ 100 := by
            refine ⟨fun q hq => ?_, by simp; (first | lia | omega)⟩
            have hq' := List.mem_of_mem_take hq
            obtain ⟨r, hr⟩ := hperm
            have := (longL_mem hsg (hr.mem_iff.mpr (List.mem_append_left r (show q ∈ [x, y, z] from hq')))).2
            (first | lia | omega)
          rename Fr _ _ _ _ => F7
          rename News _ _ _ _ => N7
          with_unfolding_all refine' For_turns F7 ?_
          k_steps
          refine ⟨?_⟩
          with_unfolding_all refine' callL (led := []) (shorter_ok w text tv hts (by (first | lia | omega))) ?cB ?cF ?cX ?cN ?cT ?ck ?co ?cd ?cu ?_
          case cB => k_asm
          case cF => k_asm
          case cX => k_asm
          case cN => k_asm
          case cT => k_asm
          case ck => rfl
          case co => exact off_nil
          case cd => decide
          case cu => decide
          rintro r led' h8 tk8 F8 N8 ho8 ⟨SL, ps, np, rfl, rfl, hps⟩
          clear F7 N7
          simp only [List.cons_append, List.nil_append] at N8
          dsimp only
          refine iter_listTurns (by rfl) F8 N8 (List.mem_cons_self ..) rfl rfl ?_
          intro I2 lI2
          refine items_inv _ (JI w s1.heap.objs.size O C I SL oI vs ps n np i wd x y z text) ?ihk ?it ?id 0 _ _ _ (Nat.zero_le _) rfl ?i0
          case ihk => rintro j m nx ⟨oD, kvs, t1, o4, o3, o2, o1, rfl, _⟩; exact ⟨List.mem_cons_self .., trivial⟩
          case i0 => exact ⟨oD, kvs, _, o4, o3, o2, o1, rfl, ps_cons rfl (ps_cons rfl (ps_cons rfl ps_nil)), hd, by simpa using hf, c4, c3, c2, c1⟩
          case id =>
            rintro m₃ nx h9 tk9 ⟨oD, kvs, t1, o4, o3, o2, o1, rfl, hm, hd, hf, c4, c3, c2, c1⟩ F9 N9
            replace F9 := fr_out hm F9
            clear hm F8 N8
            have n1 := neAll_of hnI
            simp only [NeAll, and_true] at n1
            obtain ⟨na1, na2, na3, na4, na5, na6⟩ := n1
            k_steps
            refine TEnd.mk (by assumption) (News.tl (by assumption)) (ne_of_all (by (repeat' (first | exact na_nil | refine na_cons (by k_ne) ?_)))) ⟨oD, kvs, _, o4, o3, o2, o1, rfl, ps_cons rfl (ps_cons rfl (ps_cons rfl ps_nil)), hd, ?_, c4, c3, c2, c1⟩
            rw [List.length_map, hps.len, List.take_length] at hf
            rw [take_snoc (by simpa using hi3), htx, List.flatMap_append]
            simpa using hf
          case it =>
            rintro j a v h9 tk9 m₃ nx hja hav ⟨oD, kvs, t1, o4, o3, o2, o1, rfl, hm, hd, hf, c4, c3, c2, c1⟩ F9
            rw [List.getElem?_map] at hja
            obtain ⟨v0, hv0, rfl⟩ := Option.map_eq_some_iff.mp hja
            obtain rfl : v = v0 := hav
            have hjl : j < (shortL text).length := by rw [← hps.len]; exact (List.getElem?_eq_some_iff.mp hv0).1
            obtain ⟨tp, hv1⟩ := hps.at hjl
            obtain rfl := Option.some.inj (hv0.symm.trans hv1)
            generalize hpp : (shortL text).getD j [] = part at *
            clear hv0 hv1
            replace F9 := fr_out hm F9
            clear hm F8 N8
            intro oI2 hoI2 N9
            simp only [List.cons_append, List.nil_append] at N9
            clear hja
            have n1 := neAll_of hnI
            have n2 := ho8.ne1
            have n3 := hCo.ne1
            have n4 := allLt_of lI2
            have n5 : @Ne Nat C O := hOC
            simp only [NeAll, AllLt, and_true] at n1 n2 n3 n4
            obtain ⟨na1, na2, na3, na4, na5, na6⟩ := n1
            obtain ⟨nb1, nb2, nb3, nb4, nb5, nb6, nb7⟩ := n2
            obtain ⟨nc1, nc2, nc3, nc4⟩ := n3
            obtain ⟨nd1, nd2, nd3, nd4, nd5, nd6, nd7, nd8⟩ := n4
            obtain ⟨v1, d1⟩ := c1
            k_steps
            try dsimp only
            refine' kdp_setItem ?F ?N ?U hd hf ?len ?_
            case F => k_asm
            case N => k_asm
            case U => k_updF
            case len => exact hbnd _ _ _ hmem3 (by (first | lia | omega))
            intro h10 oD' kvs' F10 N10 hd' hf'
            try dsimp only at N10
            rename Obj.data _ = Data.cell (some (Value.str (tx part) tp)) => d1'
            k_steps
            refine ⟨_, _, _, _, rfl, by assumption, (show News _ _ _ ([(I2, oI2)] ++ _) from N10), offs_of (by (repeat' (first | exact na_nil | refine na_cons (by k_ne) ?_))), oD', kvs', _, o4, o3, o2, _, rfl, ps_cons rfl (ps_cons rfl (ps_cons rfl ps_nil)), hd', ?_, c4, c3, c2, ⟨_, d1'⟩⟩
            rw [take_snoc hjl, hpp, ← List.append_assoc, tally_snoc]
            exact hf'
      case c2 =>
        rintro m₁ nx h1 tk1 ⟨O, C, oD, kvs, vs, n, wd, x, y, z, t, o4, o3, o2, o1, rfl, hOC, hCo, hOo, lo, hd, hf, hm, hvs, c4, c3, c2, c1, hsg, hw3, hw4, hperm⟩ F3 N4
        replace F3 := fr_out hm F3
        clear hm F2 N3
        dsimp only [List.drop]
        refine cut_law (s1 := s1) 2 F3 (XD s1.heap.objs.size) ?d1 ?d2
        case d1 =>
          dsimp only [List.take]
          k_steps
          rename_i H hA lH hB F5 N5
          refine ⟨?_⟩
          with_unfolding_all refine' For_turns F5 ?_
          k_steps
          refine ⟨?_⟩
          refine kta_keys (knd := PySem.strKind _ w) (enc := PyData.str) (by rfl) F5 N5 (List.mem_cons_of_mem _ (List.mem_cons_self ..)) hd lo (fun k v hk => Value.isStrOf_shape hk) rfl ?_
          intro I lI
          have hkeys := flat_keys hf
          generalize hps : shortL x ++ shortL y ++ shortL z = ps at *
          refine items_inv _ (JD s1.heap.objs.size H O C I oD vs n ps wd x y z) ?ihk ?it ?id 0 _ _ _ (Nat.zero_le _) rfl ?i0
          case ihk => rintro j m nx ⟨es, us, k, tups, t1, o4, o3, o2, o1, rfl, _⟩; exact ⟨List.mem_cons_of_mem _ (List.mem_cons_self ..), trivial⟩
          case i0 => exact ⟨[], [], 0, [], _, o4, o3, o2, o1, rfl, ps_cons rfl (ps_cons rfl (ps_cons rfl (ps_cons rfl ps_nil))), ⟨rfl, fun i h => absurd h (Nat.not_lt_zero i)⟩, fun i _ h => absurd h (Nat.not_lt_zero i), List.Perm.refl _, (fun p hp => nomatch hp), c4, c3, c2, c1⟩
          case id =>
            rintro m₃ nx h9 tk9 ⟨es, us, k, tups, t1, o4, o3, o2, o1, rfl, hm, hT, hH, hP, hI, c4, c3, c2, c1⟩ F9 N9
            replace F9 := fr_out hm F9
            clear hm F5 N5
            have n3 := hCo.ne1
            have n4 := allLt_of lI
            simp only [NeAll, AllLt, and_true] at n3 n4
            have hkl : (kvs.map fun p => Itm.tok (kyVal (PyData.str p.1))).length = (keysOf ps).length := by
              have h1 := congrArg List.length hkeys
              rw [List.length_map, List.length_map, tally_eq, List.length_map] at h1
              rw [List.length_map, h1]
            rw [hkl, List.take_length] at hP
            k_steps
            have hIt : ∀ p ∈ tups, @LT.lt Nat _ I p.1 := fun p hp => hI p hp
            refine WOut.mk (by assumption) (News.sub N9 ?_) ⟨H, C, us, vs, k, n, es, tups, wd, x, y, z, _, o4, o3, o2, o1, rfl, lH.2.1, ?_, ?_, ?_, hT, hH, ?_, ps_cons rfl (ps_cons rfl (ps_cons rfl ps_nil)), hvs, c4, c3, c2, c1, hsg, hw3, hw4, hperm⟩
            · exact List.forall_mem_cons.mpr ⟨by k_mem, fun p hp => .tail _ (.tail _ hp)⟩
            · exact ⟨n3.1, n3.2.1, n3.2.2.1, n3.2.2.2, trivial⟩
            · exact ⟨Nat.ne_of_lt lH.2.2.1, Nat.ne_of_lt lH.2.2.2.1, Nat.ne_of_lt lH.2.2.2.2.1, Nat.ne_of_lt lH.2.2.2.2.2, trivial⟩
            · intro p hp
              have h1 := hIt p hp
              exact ⟨Nat.lt_trans n4.1 h1, Nat.lt_trans n4.2.2.2.1 h1⟩
            · rw [hps]; exact hP
          case it =>
            rintro j a v h9 tk9 m₃ nx hja hav ⟨es, us, k, tups, t1, o4, o3, o2, o1, rfl, hm, hT, hH, hP, hI, c4, c3, c2, c1⟩ F9
            rw [List.getElem?_map] at hja
            obtain ⟨kv, hkv, rfl⟩ := Option.map_eq_some_iff.mp hja
            obtain ⟨tp, rfl⟩ := hav
            obtain ⟨part, hpart, hpk⟩ := key_at hkeys hkv
            rw [hpk]
            dsimp only [kyVal]
            replace F9 := fr_out hm F9
            clear hm F5 N5 hja hkv hpk
            intro oI hoI N9
            simp only [List.cons_append, List.nil_append] at N9
            have n3 := hCo.ne1
            have n6 := hOo.ne1
            have n4 := allLt_of lI
            have n5 : @Ne Nat C O := hOC
            simp only [NeAll, AllLt, and_true] at n3 n4 n6
            obtain ⟨nc1, nc2, nc3, nc4⟩ := n3
            have n4' := n4
            obtain ⟨nd1, nd2, nd3, nd4, nd5, nd6, nd7⟩ := n4'
            obtain ⟨ne1, ne2, ne3, ne4⟩ := n6
            obtain ⟨v1, d1⟩ := c1
            obtain ⟨v2, d2⟩ := c2
            have nt1 : ∀ p ∈ tups, p.1 ≠ s1.heap.objs.size + 1 := fun p hp => Nat.ne_of_gt (Nat.lt_trans nd7 (hI p hp))
            have nt2 : ∀ p ∈ tups, p.1 ≠ s1.heap.objs.size + 1 + 1 := fun p hp => Nat.ne_of_gt (Nat.lt_trans nd6 (hI p hp))
            have lH' := lH
            obtain ⟨nh1, nh2, nh3, nh4, nh5, nh6⟩ := lH'
            have hpf := part_facts hsg hperm (by rw [hps]; exact keysOf_mem.mp (List.mem_of_getElem? hpart))
            obtain ⟨hpsg, hpl⟩ := hpf
            have T3 := three_of hw3 hw4 hsg hperm
            have hp46 : ∀ c ∈ part, c ≠ 46 := fun c hc e => by rcases hpsg c hc with h | h | h <;> (first | lia | omega)
            k_steps
            refine ⟨?_⟩
            with_unfolding_all refine' call0 (dots_ok w part _ hpsg (by (first | lia | omega)) (by intro e; subst e; simp at hpl; (first | lia | omega))) ?cB ?cF ?cX ?cN ?cT ?ck ?cd ?cu ?_
            case cB => k_asm
            case cF => k_asm
            case cX => k_asm
            case cN => k_asm
            case cT => k_asm
            case ck => rfl
            case cd => decide
            case cu => decide
            rintro r h11 tk11 F11 N11 ⟨td, rfl⟩
            dsimp only
            k_steps
            refine ⟨?_⟩
            k_dflt refine LCt.Assign_ListComp_T (F₀ := by k_asm) (by rfl) (by with_unfolding_all rfl) (by with_unfolding_all rfl) (by decide) (by rfl) (by decide) (by rfl) (by rfl) (by rfl) ?_
            k_steps
            refine ⟨?_⟩
            rename News _ _ _ _ => N12
            rename Fr _ _ _ _ => F12
            obtain ⟨T0, hT0⟩ := shN N12
            have hmC : (C, listOf vs.toArray n) ∈ T0 := by rw [hT0]; k_mem
            rw [← hT0] at N12
            have hv3 : vs.toArray.size = 3 := by rw [List.size_toArray, hvs.len]; rfl
            k_dflt refine LCt.CompSrcT.ledger (by rfl) F12 N12 hmC (by rw [PySem.sizeLine_eq, hv3]; decide) ?_
            intro g13
            refine comp_T (fun i ys nx => nx = T0 ∧ TxA ys (holds3 ([x, y, z].take i) part)) ⟨rfl, .nil⟩ ?_ ?_
            · rintro i v I3 oI3 C3 oC3 D3 m₅ ys nx h14 tk14 E14 hi hv ⟨rfl, hys⟩ hC3 hx3 F14 N14 off ne
              rw [hv3] at hi
              obtain ⟨tv, hv'⟩ := hvs.at (i := i) hi
              obtain rfl := Option.some.inj ((show vs[i]? = some v by simpa using hv).symm.trans hv')
              have htl : ([x, y, z].getD i []).length = wd.length + 1 := by
                obtain ⟨r, hr⟩ := hperm
                exact (longL_mem hsg (hr.mem_iff.mpr (List.mem_append_left r (show [x, y, z].getD i [] ∈ [x, y, z] from getD3 hi)))).2
              generalize htx : [x, y, z].getD i [] = text at *
              subst hT0
              clear F12
              k_steps
              refine ⟨?_⟩
              with_unfolding_all refine' call0 (ell_ok w part text _ _ hp46 (by (first | lia | omega)) (by rw [htl]; (first | lia | omega))) ?cB ?cF ?cX ?cN ?cT ?ck ?cd ?cu ?_
              case cB => k_asm
              case cF => k_asm
              case cX => k_asm
              case cN => k_asm
              case cT => k_asm
              case ck => rfl
              case cd => decide
              case cu => decide
              rintro r h15 tk15 F15 N15 ⟨b, rfl, hb⟩
              dsimp only
              clear F14 N14
              cases b with
              | true =>
                k_steps
                refine ⟨?_⟩
                refine LCg.CompEnd.intro (by assumption) (by assumption) _ (fun p hp => hp) off (.inr ⟨_, by k_mem, rfl, _, rfl⟩) ⟨rfl, ?_⟩
                rw [holds3_snoc part (show i < [x, y, z].length from hi), htx, if_pos (hb.mp rfl)]
                exact TxA.snoc hys
              | false =>
                k_steps
                refine ⟨?_⟩
                refine LCg.CompEnd.intro (by assumption) (by assumption) _ (fun p hp => hp) off (.inr ⟨_, by k_mem, rfl, _, rfl⟩) ⟨rfl, ?_⟩
                rw [holds3_snoc part (show i < [x, y, z].length from hi), htx, if_neg (fun h => Bool.false_ne_true (hb.mpr h))]
                exact hys
            · rintro ys nx ⟨rfl, hys⟩
              subst hT0
              k_steps
              rename_i DH hH1 tkH FH NH oH
              refine ⟨?_⟩
              clear F12
              k_dflt refine LCt.Assign_ListComp_T (F₀ := by k_asm) (by rfl) (by with_unfolding_all rfl) (by with_unfolding_all rfl) (by decide) (by rfl) (by decide) (by rfl) (by rfl) (by rfl) ?_
              k_steps
              refine ⟨?_⟩
              rename News _ _ _ _ => N16
              rename Fr _ _ _ _ => F16
              obtain ⟨T1, hT1⟩ := shN N16
              have hmC : (C, listOf vs.toArray n) ∈ T1 := by rw [hT1]; k_mem
              rw [← hT1] at N16
              k_dflt refine LCt.CompSrcT.ledger (by rfl) F16 N16 hmC (by rw [PySem.sizeLine_eq, hv3]; decide) ?_
              intro g17
              refine comp_T (fun i ys nx => nx = T1 ∧ TxA ys (holds3 ([x, y, z].take i) part)) ⟨rfl, .nil⟩ ?_ ?_
              · rintro i v I3 oI3 C3 oC3 D3 m₅ ys' nx h14 tk14 E14 hi hv ⟨rfl, hys'⟩ hC3 hx3 F14 N14 off ne
                rw [hv3] at hi
                obtain ⟨tv, hv'⟩ := hvs.at (i := i) hi
                obtain rfl := Option.some.inj ((show vs[i]? = some v by simpa using hv).symm.trans hv')
                have htl : sg ([x, y, z].getD i []) ∧ ([x, y, z].getD i []).length = wd.length + 1 := by
                  obtain ⟨r, hr⟩ := hperm
                  exact longL_mem hsg (hr.mem_iff.mpr (List.mem_append_left r (show [x, y, z].getD i [] ∈ [x, y, z] from getD3 hi)))
                generalize htx : [x, y, z].getD i [] = text at *
                subst hT1
                clear F16
                k_steps
                refine ⟨?_⟩
                with_unfolding_all refine' call0 (lev_ok w part text 2 _ _ _ hpsg htl.1 (by (first | lia | omega)) (by rw [htl.2]; (first | lia | omega)) (by (first | lia | omega)) (by (first | lia | omega))) ?cB ?cF ?cX ?cN ?cT ?ck ?cd ?cu ?_
                case cB => k_asm
                case cF => k_asm
                case cX => k_asm
                case cN => k_asm
                case cT => k_asm
                case ck => rfl
                case cd => decide
                case cu => decide
                rintro r h15 tk15 F15 N15 ⟨z2, tz2, rfl, hz2⟩
                dsimp only
                clear F14 N14
                have hl2 := lev_two (by (first | lia | omega)) hz2
                k_steps
                · refine ⟨?_⟩
                  rename z2 = 2 => hz
                  refine LCg.CompEnd.intro (by assumption) (by assumption) _ (fun p hp => hp) off (.inr ⟨_, by k_mem, rfl, _, rfl⟩) ⟨rfl, ?_⟩
                  rw [holds3_snoc part (show i < [x, y, z].length from hi), htx, if_pos (hl2.mp hz)]
                  exact TxA.snoc hys'
                · refine ⟨?_⟩
                  rename z2 ≠ 2 => hz
                  refine LCg.CompEnd.intro (by assumption) (by assumption) _ (fun p hp => hp) off (.inr ⟨_, by k_mem, rfl, _, rfl⟩) ⟨rfl, ?_⟩
                  rw [holds3_snoc part (show i < [x, y, z].length from hi), htx, if_neg (fun h => hz (hl2.mpr h))]
                  exact hys'
              · rintro ys' nx ⟨rfl, hys'⟩
                subst hT1
                clear F16
                k_steps
                rename_i DN hN1 tkN FN NN oN
                refine ⟨?_⟩
                rw [hv3] at hys hys'
                have htk : [x, y, z].take 3 = [x, y, z] := rfl
                rw [htk] at hys hys'
                have hok := strok3 (part := part) hsg hperm
                refine ks_ne (News.isList NN (by k_mem)) (News.isList NN (by k_mem)) hys hys' hok hok (by ke_room) ?_
                rw [decide_eq_true rfl]
                k_steps
                refine ⟨?_⟩
                have hnl := hys'.len
                have hn3 : (holds3 [x, y, z] part).length ≤ 3 := List.length_filter_le ..
                refine len_led (vs := ys') (n := ys'.length) NN (List.mem_cons_self ..) (by (first | lia | omega)) ?_
                intro tlen klen
                try dsimp only
                k_steps
                refine ⟨?_⟩
                try dsimp only
                have hcnt := look_at (ps := ps) (List.mem_of_getElem? hpart)
                have hcn2 : (ps.count part : Int) = ((ys'.length : Nat) : Int) := by
                  rw [hnl, ← hps, ← flat3]
                  exact congrArg _ (count_parts (n := wd.length) (fun t ht => by
                    obtain ⟨r, hr⟩ := hperm
                    exact (longL_mem hsg (hr.mem_iff.mpr (List.mem_append_left r (show t ∈ [x, y, z] from ht)))).2) hpl)
                refine kdp_item (c := tally ps) (TabAt.ofNews NN (by k_mem) lo hd hf) hcnt.1 ?_
                intro tcnt
                rw [hcnt.2, hcn2]
                k_steps
                refine ⟨?_⟩
                refine len_led (vs := ys') (n := ys'.length) NN (List.mem_cons_self ..) (by (first | lia | omega)) ?_
                intro tlen2 klen2
                try dsimp only
                k_steps
                rename_i DT hT1 FT NT lT
                refine ⟨?_⟩
                have hkl : (keysOf ps).length ≤ 15 := by rw [← hps]; exact keys3_len T3
                have hel : es.length ≤ 15 := by
                  have h1 := hP.length_eq
                  rw [List.length_map, List.length_take] at h1
                  (first | lia | omega)
                have hent : ((-((ys'.length : Nat) : Int), part) : Ent) = entOf [x, y, z] part := by unfold entOf; rw [hnl]
                have hIt : ∀ p ∈ tups, @LT.lt Nat _ I p.1 := fun p hp => hI p hp
                have hTups : ∀ q ∈ ((DT, tupO (-((ys'.length : Nat) : Int), part) klen2 tp 0) :: tups : Led), @LT.lt Nat _ I q.1 := by
                  intro q hq
                  rcases List.mem_cons.mp hq with rfl | hq
                  · exact lT.2.2.1
                  · exact hIt q hq
                rename Obj.data _ = Data.cell (some (Value.str (tx (dotsL part)) td)) => d2'
                rename Obj.data _ = Data.cell (some (Value.str (tx part) tp)) => d1'
                obtain ⟨p2, p1, q2, q1, NR⟩ : ∃ p2 p1, IsCel p2 ∧ IsCel p1 ∧ News _ s1.heap.objs.size hT1 (((H, listOf us.toArray k) :: (DT, tupO (-((ys'.length : Nat) : Int), part) klen2 tp 0) :: tups) ++ ((I, oI) :: (O, oD) :: (C, listOf vs.toArray n) :: (s1.heap.objs.size + 1 + 1 + 1 + 1, o4) :: (s1.heap.objs.size + 1 + 1 + 1, o3) :: (s1.heap.objs.size + 1 + 1, p2) :: (s1.heap.objs.size + 1, p1) :: [])) := by
                  refine ⟨_, _, ⟨_, d2'⟩, ⟨_, d1'⟩, News.sub NT ?_⟩
                  refine List.forall_mem_append.mpr ⟨List.forall_mem_cons.mpr ⟨by k_mem, List.forall_mem_cons.mpr ⟨by k_mem, fun p hp => ?_⟩⟩, ?_⟩
                  · repeat (first | exact hp | refine List.Mem.tail _ ?_)
                  · repeat (refine List.forall_mem_cons.mpr ⟨by k_mem, ?_⟩)
                    exact fun _ h => nomatch h
                have hDTs : ∀ q ∈ ((DT, tupO (-((ys'.length : Nat) : Int), part) klen2 tp 0) :: tups : Led), @Ne Nat q.1 H := fun q hq => by
                  exact Nat.ne_of_gt (Nat.lt_trans nd1 (hTups q hq))
                have hoff : Off ((H, listOf us.toArray k) :: (DT, tupO (-((ys'.length : Nat) : Int), part) klen2 tp 0) :: tups) ((I, oI) :: (O, oD) :: (C, listOf vs.toArray n) :: (s1.heap.objs.size + 1 + 1 + 1 + 1, o4) :: (s1.heap.objs.size + 1 + 1 + 1, o3) :: (s1.heap.objs.size + 1 + 1, p2) :: (s1.heap.objs.size + 1, p1) :: []) := by
                  refine off_all (List.forall_mem_cons.mpr ⟨?_, fun p hp => ?_⟩)
                  · exact ⟨Nat.ne_of_gt nd1, Nat.ne_of_lt lH.1, Nat.ne_of_lt lH.2.1, Nat.ne_of_lt lH.2.2.1, Nat.ne_of_lt lH.2.2.2.1, Nat.ne_of_lt lH.2.2.2.2.1, Nat.ne_of_lt lH.2.2.2.2.2, trivial⟩
                  · have h1 := hTups p hp
                    exact ⟨Nat.ne_of_lt h1, Nat.ne_of_lt (Nat.lt_trans nd2 h1), Nat.ne_of_lt (Nat.lt_trans nd3 h1), Nat.ne_of_lt (Nat.lt_trans nd4 h1), Nat.ne_of_lt (Nat.lt_trans nd5 h1), Nat.ne_of_lt (Nat.lt_trans nd6 h1), Nat.ne_of_lt (Nat.lt_trans nd7 h1), trivial⟩
                with_unfolding_all refine' callL (push_ok w H k ((DT, tupO (-((ys'.length : Nat) : Int), part) klen2 tp 0) :: tups) us es DT (-((ys'.length : Nat) : Int), part) klen2 tp 0 hDTs (hT.mono fun q hq => List.mem_cons_of_mem _ hq) (by (first | lia | omega)) hH (List.mem_cons_self ..)) ?cB ?cF ?cX NR ?cT ?ck hoff ?cd ?cu ?_
                case cB => k_asm
                case cF => k_asm
                case cX => k_asm
                case cT => k_asm
                case ck => rfl
                case cd => decide
                case cu => decide
                rintro r led' h6 tk6 F6 N6 ho6 ⟨rfl, us6, es6, n6, rfl, hT6, hH6, hP6⟩
                clear NR NT FT
                try dsimp only
                k_steps
                refine ⟨_, _, _, _, rfl, by assumption, (show News _ _ _ ([(I, oI)] ++ _) from News.sub N6 ?_), offs_I ?_, es6, us6, n6, (DT, tupO (-((ys'.length : Nat) : Int), part) klen2 tp 0) :: tups, _, o4, o3, p2, p1, rfl, ps_cons rfl (ps_cons rfl (ps_cons rfl (ps_cons rfl ps_nil))), hT6, hH6, ?_, hTups, c4, c3, q2, q1⟩
                · simp only [List.cons_append, List.nil_append]
                  have e1 : ∀ {l r : Led} {a : Addr × Obj}, a ∈ r → a ∈ l ++ r := fun h => List.mem_append_right _ h
                  refine List.forall_mem_cons.mpr ⟨.tail _ (.tail _ (e1 (by k_mem))), List.forall_mem_cons.mpr ⟨by k_mem, List.forall_mem_cons.mpr ⟨.tail _ (.tail _ (e1 (by k_mem))), List.forall_mem_cons.mpr ⟨.tail _ (.tail _ (e1 (by k_mem))), ?_⟩⟩⟩⟩
                  refine List.forall_mem_cons.mpr ⟨.tail _ (.tail _ (e1 (by k_mem))), List.forall_mem_cons.mpr ⟨.tail _ (.tail _ (e1 (by k_mem))), List.forall_mem_cons.mpr ⟨.tail _ (.tail _ (e1 (by k_mem))), List.forall_mem_cons.mpr ⟨.tail _ (.tail _ (e1 (by k_mem))), ?_⟩⟩⟩⟩
                  exact List.forall_mem_cons.mpr ⟨by k_mem, fun p hp => .tail _ (.tail _ (List.mem_append_left _ hp))⟩
                · refine List.forall_mem_cons.mpr ⟨?_, List.forall_mem_cons.mpr ⟨?_, List.forall_mem_cons.mpr ⟨?_, List.forall_mem_cons.mpr ⟨?_, List.forall_mem_cons.mpr ⟨?_, List.forall_mem_cons.mpr ⟨?_, List.forall_mem_cons.mpr ⟨?_, fun p hp => ?_⟩⟩⟩⟩⟩⟩⟩
                  all_goals try (show @Ne Nat _ I; dsimp only; exact Nat.ne_of_lt (by assumption))
                  exact Nat.ne_of_gt (hTups p hp)
                · refine hP6.trans ?_
                  rw [hent, List.take_add_one, hpart, Option.toList_some, List.map_append]
                  exact hP.append_right _
        case d2 =>
          rintro m₁ nx h1 tk1 ⟨H, C, us, vs, k, n, es, tups, wd, x, y, z, t, o4, o3, o2, o1, rfl, hCH, nC, nH, hI, hT, hH, hP, hm, hvs, c4, c3, c2, c1, hsg, hw3, hw4, hperm⟩ F4 N5
          replace F4 := fr_out hm F4
          clear hm F3 N4
          have T3 := three_of hw3 hw4 hsg hperm
          dsimp only [List.drop]
          refine cut_law (s1 := s1) 2 F4 (XE s1.heap.objs.size) ?e1 ?e2
          case e1 =>
            dsimp only [List.take]
            k_steps
            rename_i TL hA lT hB F5 N6
            refine ⟨?_⟩
            have lT1 : @LT.lt Nat _ H TL := lT.1
            have lT2 : @LT.lt Nat _ C TL := lT.2.1
            have lT3 := lt_of_all lT.2.2.2.2.2.2
            have lT4 : NeAll TL (cel s1.heap.objs.size o4 o3 o2 o1) := ⟨Nat.ne_of_lt lT.2.2.1, Nat.ne_of_lt lT.2.2.2.1, Nat.ne_of_lt lT.2.2.2.2.1, Nat.ne_of_lt lT.2.2.2.2.2.1, trivial⟩
            have lCH : @LT.lt Nat _ C H := hCH
            have hel : es.length ≤ 15 := by
              have h1 := hP.length_eq
              rw [List.length_map] at h1
              have h2 : (keysOf (shortL x ++ shortL y ++ shortL z)).length ≤ 15 := keys3_len T3
              (first | lia | omega)
            have hHt : ∀ q ∈ tups, q.1 ≠ H := fun q hq => Nat.ne_of_gt (hI q hq).1
            refine while_led (n₀ := es.length) (JE s1.heap.objs.size TL H C vs n es tups o4 o3 o2 o1 wd)
              (KE s1.heap.objs.size TL H C vs n es tups o4 o3 o2 o1 wd) (by assumption) (by assumption) ?j0 ?turn ?done
            case j0 => exact ⟨us, [], es, [], _, _, _, rfl, ps_cons rfl (ps_cons rfl (ps_cons rfl (ps_cons rfl ps_nil))), rfl, hT, hH, ⟨rfl, fun i hi => absurd hi (Nat.not_lt_zero _)⟩, .nil, (fun a ha => nomatch ha), List.Perm.refl _⟩
            case done =>
              rintro m₂ nx h6 tk6 ⟨us', ts, tl, k1, k2, t1, rfl, hm, hTl, hso, hpe⟩ F6 N7
              replace F6 := fr_out hm F6
              clear F5 N6 hm
              k_steps
              refine WOut.mk (by assumption) (News.sub N7 ?_) ⟨TL, C, ts, vs, k1, n, tl, tups, wd, x, y, z, _, o4, o3, o2, o1, rfl, lT2, nC, lT4, ?_, hTl, hso, hpe.symm.trans hP, ps_cons rfl (ps_cons rfl (ps_cons rfl ps_nil)), hvs, c4, c3, c2, c1, T3⟩
              · exact List.forall_mem_cons.mpr ⟨by k_mem, fun p hp => .tail _ (.tail _ hp)⟩
              · intro p hp
                have h1 : @LT.lt Nat _ H p.1 := (hI p hp).1
                exact ⟨lT3 p hp, show @LT.lt Nat _ C p.1 by (first | lia | omega), (hI p hp).2⟩
            case turn =>
              rintro n' m₂ nx h6 tk6 F6 N7 ⟨us', ts, es', tl, k1, k2, t1, rfl, hm, rfl, hT', hH', hTl, hso, hle, hpe⟩
              replace F6 := fr_out hm F6
              clear F5 N6 hm
              have hlen := hpe.length_eq
              rw [List.length_append] at hlen
              have hul := hT'.1
              have htl := hTl.1
              k_steps
              refine ⟨?_⟩
              refine truth_led (by assumption) (List.mem_cons_of_mem _ (List.mem_cons_self ..)) (by (first | lia | omega)) ?_
              intro tkt
              try dsimp only
              cases us' with
              | nil =>
                have he : (!([] : List Value).isEmpty) = false := rfl
                rw [he]
                k_steps
                have he' : es' = [] := List.length_eq_zero_iff.mp hul.symm
                subst he'
                rw [List.append_nil] at hpe
                exact WOut.mk (by assumption) (by assumption) ⟨_, ts, tl, _, _, _, rfl, ps_cons rfl (ps_cons rfl (ps_cons rfl ps_nil)), hTl, hso, hpe⟩
              | cons v us'' =>
                have he : (!(v :: us'').isEmpty) = true := rfl
                rw [he]
                have hul' : us''.length + 1 = es'.length := hul
                k_steps
                refine ⟨?_⟩
                obtain ⟨NR, hNR⟩ : ∃ NR : News _ s1.heap.objs.size h6 (((H, listOf (v :: us'').toArray k2) :: tups) ++ ((TL, listOf ts.toArray k1) :: (C, listOf vs.toArray n) :: cel s1.heap.objs.size o4 o3 o2 o1)), True := by
                  refine ⟨News.sub N7 ?_, trivial⟩
                  refine List.forall_mem_append.mpr ⟨List.forall_mem_cons.mpr ⟨by k_mem, fun p hp => ?_⟩, ?_⟩
                  · repeat (first | exact hp | refine List.Mem.tail _ ?_)
                  · repeat (refine List.forall_mem_cons.mpr ⟨by k_mem, ?_⟩)
                    exact fun _ h => nomatch h
                have hoff : Off ((H, listOf (v :: us'').toArray k2) :: tups) ((TL, listOf ts.toArray k1) :: (C, listOf vs.toArray n) :: cel s1.heap.objs.size o4 o3 o2 o1) := by
                  refine off_all (List.forall_mem_cons.mpr ⟨?_, fun p hp => ?_⟩)
                  · exact ⟨Nat.ne_of_gt lT1, Nat.ne_of_lt lCH, nH⟩
                  · have h1 : @LT.lt Nat _ H p.1 := (hI p hp).1
                    have h2 : @LT.lt Nat _ (s1.heap.objs.size + 1 + 1 + 1 + 1) p.1 := (hI p hp).2
                    have h4 := Nat.lt_trans (Nat.lt_succ_self _) h2
                    have h5 := Nat.lt_trans (Nat.lt_succ_self _) h4
                    have h6 := Nat.lt_trans (Nat.lt_succ_self _) h5
                    exact ⟨Nat.ne_of_gt (lT3 p hp), Nat.ne_of_lt (Nat.lt_trans lCH h1), Nat.ne_of_lt h2, Nat.ne_of_lt h4, Nat.ne_of_lt h5, Nat.ne_of_lt h6, trivial⟩
                with_unfolding_all refine' callL (pop_ok w H k2 tups (v :: us'') es' hHt hT' (by (first | lia | omega)) (by (first | lia | omega)) hH') ?cB ?cF ?cX NR ?cT ?ck hoff ?cd ?cu ?_
                case cB => k_asm
                case cF => k_asm
                case cX => k_asm
                case cT => k_asm
                case ck => rfl
                case cd => decide
                case cu => decide
                rintro r led' h7 tk7 F7 N8 ho7 ⟨e, a, ta, ua, na, us7, es7, n7, rfl, hma, rfl, hT7, hH7, hP7, hmin⟩
                clear NR N7 F6
                try dsimp only
                k_steps
                refine ⟨?_⟩
                have N9 := News.sub (l' := (TL, listOf ts.toArray k1) :: (H, listOf us7.toArray n7) :: (C, listOf vs.toArray n) :: celT s1.heap.objs.size o4 o3 o2 o1 tups) N8 (by
                  have e1 : ∀ {l r : Led} {a : Addr × Obj}, a ∈ r → a ∈ l ++ r := fun h => List.mem_append_right _ h
                  refine List.forall_mem_cons.mpr ⟨e1 (by k_mem), List.forall_mem_cons.mpr ⟨List.mem_append_left _ (by k_mem), List.forall_mem_cons.mpr ⟨e1 (by k_mem), List.forall_mem_cons.mpr ⟨e1 (by k_mem), ?_⟩⟩⟩⟩
                  exact List.forall_mem_cons.mpr ⟨e1 (by k_mem), List.forall_mem_cons.mpr ⟨e1 (by k_mem), List.forall_mem_cons.mpr ⟨e1 (by k_mem), fun p hp => List.mem_append_left _ (.tail _ hp)⟩⟩⟩)
                clear N8
                refine append_led (D := TL) (vs := ts) (n := k1) (by assumption) N9 (List.mem_cons_self ..) (by (first | lia | omega)) ?_
                intro h8 n8 F8 N10
                have hN := News.mid (pre0 := []) (pre := []) N10 (fun q hq => nomatch hq) (by
                  refine List.forall_mem_cons.mpr ⟨Nat.ne_of_lt lT1, List.forall_mem_cons.mpr ⟨Nat.ne_of_lt lT2, ?_⟩⟩
                  refine List.forall_mem_cons.mpr ⟨Nat.ne_of_lt lT.2.2.1, List.forall_mem_cons.mpr ⟨Nat.ne_of_lt lT.2.2.2.1, List.forall_mem_cons.mpr ⟨Nat.ne_of_lt lT.2.2.2.2.1, List.forall_mem_cons.mpr ⟨Nat.ne_of_lt lT.2.2.2.2.2.1, fun p hp => Nat.ne_of_lt (lT3 p hp)⟩⟩⟩⟩)
                simp only [List.nil_append] at hN
                clear N10 N9
                try dsimp only
                k_steps
                have hle7 := hP7.length_eq
                simp only [List.length_cons] at hle7
                refine WEnd.mk (by assumption) (by assumption) es7.length (by (first | lia | omega)) ⟨us7, ts ++ [.ref a], es7, tl ++ [e], _, _, _, rfl, ps_cons rfl (ps_cons rfl (ps_cons rfl (ps_cons rfl ps_nil))), rfl, hT7, hH7, hTl.push hma, ?_, ?_, ?_⟩
                · refine List.pairwise_append.mpr ⟨hso, by simp, fun p hp q hq => ?_⟩
                  rw [List.mem_singleton.mp hq]
                  exact hle p hp e (hP7.mem_iff.mpr (List.mem_cons_self ..))
                · intro p hp q hq
                  rcases List.mem_append.mp hp with hp | hp
                  · exact hle p hp q (hP7.mem_iff.mpr (List.mem_cons_of_mem _ hq))
                  · rw [List.mem_singleton.mp hp]; exact hmin q hq
                · refine hpe.trans ?_
                  rw [List.append_assoc]
                  exact List.Perm.append_left tl hP7
          case e2 =>
            rintro m₁ nx h1 tk1 ⟨TL, C, ts, vs, k, n, tl, tups, wd, x, y, z, t, o4, o3, o2, o1, rfl, hCT, nC, nT, hI, hT, hso, hP, hm, hvs, c4, c3, c2, c1, T3⟩ F5 N6
            replace F5 := fr_out hm F5
            clear hm F4 N5
            dsimp only [List.drop]
            refine cut_law (s1 := s1) 1 F5 (XF s1.heap.objs.size) ?f1 ?f2
            case f1 =>
              dsimp only [List.take]
              obtain ⟨rest, rfl, hrest⟩ := told_head T3 hso hP
              have htl := hT.1
              obtain ⟨a, ta, ua, na, hva, hma⟩ := hT.2 0 (by simp)
              have h2r := two_keys T3
              have h15 := keys3_len T3
              have hrl := hP.length_eq
              rw [List.length_map] at hrl
              have hsgr : ∀ e ∈ ((-3, wd) :: rest : List Ent), sg e.2 := by
                intro e he
                obtain ⟨p, hpk, rfl⟩ := List.mem_map.mp (hP.mem_iff.mp he)
                obtain ⟨_, hp⟩ := (keys3_mem T3).mp hpk
                rcases hp with hp | hp | hp
                · exact fun c hc => T3.sx c (hp.subset hc)
                · exact fun c hc => T3.sy c (hp.subset hc)
                · exact fun c hc => T3.sz c (hp.subset hc)
              k_steps
              refine ⟨?_⟩
              refine item_led N6 (List.mem_cons_self ..) (by decide) (by decide) (show ts[(0 : Int).toNat]? = some (Value.ref a) from hva) ?_
              k_steps
              refine ⟨?_⟩
              rename News _ _ _ _ => NT
              have hma' : (a, tupO (-3, wd) ta ua na) ∈ tups := hma
              refine ent_ne (x := (-3, wd)) (y := (-3, wd)) (NT _ (.tail _ (.tail _ (.tail _ (.tail _ (.tail _ (.tail _ (.tail _ hma')))))))).1 (NT _ (List.mem_cons_self ..)).1 T3.sw T3.sw (by ke_room) ?_
              rw [decide_eq_true rfl]
              k_steps
              refine ⟨?_⟩
              rename News _ _ _ _ => N7
              rename Fr _ _ _ _ => F7
              refine sorted_led (tups := tups) (es := (-3, wd) :: rest) (vs := ts) (n := k) F7 N7 (by k_mem) (fun p hp => .tail _ (.tail _ (.tail _ (.tail _ (.tail _ (.tail _ (.tail _ hp))))))) hT hso (by (first | lia | omega)) (by (first | lia | omega)) ?_
              intro D2 k2 h8 F8 N8 l8
              clear N7 F7
              k_steps
              refine ⟨?_⟩
              refine ents_ne (tups := tups) (es := (-3, wd) :: rest) (vs := ts) (n := k) (n' := k2) N8 (by k_mem) (List.mem_cons_self ..) (fun p hp => .tail _ (.tail _ (.tail _ (.tail _ (.tail _ (.tail _ (.tail _ (.tail _ hp)))))))) hT hsgr (by ke_room) ?_
              k_steps
              refine WOut.mk (by assumption) (News.tl (News.tl (by assumption))) ⟨TL, C, ts, vs, k, n, rest, tups, wd, x, y, z, _, o4, o3, o2, o1, rfl, hCT, nC, nT, hI, hT, hrest, ps_cons rfl (ps_cons rfl (ps_cons rfl ps_nil)), hvs, c4, c3, c2, c1, T3⟩
            case f2 =>
              rintro m₁ nx h1 tk1 ⟨TL, C, ts, vs, k, n, rest, tups, wd, x, y, z, t, o4, o3, o2, o1, rfl, hCT, nC, nT, hI, hT, hrest, hm, hvs, c4, c3, c2, c1, T3⟩ F6 N7
              replace F6 := fr_out hm F6
              clear hm F5 N6
              dsimp only [List.drop]
              refine cut_law (s1 := s1) 2 F6 (XG s1.heap.objs.size) ?g1 ?g2
              case g1 =>
                dsimp only [List.take]
                obtain ⟨t0, hc0⟩ := hvs.at (i := 0) (by simp)
                obtain ⟨t1, hc1⟩ := hvs.at (i := 1) (by simp)
                obtain ⟨t2, hc2⟩ := hvs.at (i := 2) (by simp)
                k_steps
                refine ⟨?_⟩
                refine item_led (by assumption) (by k_mem) (by decide) (by decide) (show vs[(0 : Int).toNat]? = _ from hc0) ?_
                k_steps
                refine ⟨?_⟩
                refine item_led (by assumption) (by k_mem) (by decide) (by decide) (show vs[(1 : Int).toNat]? = _ from hc1) ?_
                k_steps
                refine ⟨?_⟩
                refine item_led (by assumption) (by k_mem) (by decide) (by decide) (show vs[(0 : Int).toNat]? = _ from hc0) ?_
                k_steps
                refine ⟨?_⟩
                refine item_led (by assumption) (by k_mem) (by decide) (by decide) (show vs[(2 : Int).toNat]? = _ from hc2) ?_
                k_steps
                refine ⟨?_⟩
                refine item_led (by assumption) (by k_mem) (by decide) (by decide) (show vs[(1 : Int).toNat]? = _ from hc1) ?_
                k_steps
                refine ⟨?_⟩
                refine item_led (by assumption) (by k_mem) (by decide) (by decide) (show vs[(2 : Int).toNat]? = _ from hc2) ?_
                k_steps
                refine ⟨?_⟩
                rename_i PL hG FG NG lG
                obtain ⟨ws, R, hwl, hPLm, hTLm, htR, hPO, NR, RC⟩ := pairs_led (one := x) (two := y) (thr := z) NG c4 c3 c2 c1 nT (fun p hp => (hI p hp).2.2)
                clear NG
                refine iter_listTurns (by rfl) FG NR (List.mem_append_right _ hPLm) rfl rfl ?_
                intro I lI
                have lIR : ∀ p ∈ R, @LT.lt Nat _ p.1 I := fun p hp => lI p (List.mem_append_right _ hp)
                have lI4 := allLt_of (l := cel s1.heap.objs.size o4 o3 o2 o1) (d := I) fun p hp => lI p (List.mem_append_left _ hp)
                simp only [AllLt, and_true] at lI4
                obtain ⟨g4, g3, g2, g1⟩ := lI4
                refine items_inv _ (JG s1.heap.objs.size TL R wd x y z) ?ihk ?it ?id 0 _ _ _ (Nat.zero_le _) rfl ?i0
                case ihk => rintro j m nx ⟨t1, tm, o4, o3, o2, o1, rfl, _⟩; exact ⟨List.mem_append_right _ hPLm, trivial⟩
                case i0 => exact ⟨_, _, o4, o3, o2, o1, rfl, ps_cons rfl (ps_cons rfl (ps_cons rfl ps_nil)), c4, c3, c2, c1⟩
                case id =>
                  rintro m₃ nx h9 tk9 ⟨t1, tm, o4, o3, o2, o1, rfl, hm, c4, c3, c2, c1⟩ F9 N9
                  replace F9 := fr_out hm F9
                  clear hm FG NR
                  k_steps
                  have hrl : rest.length ≤ 15 := by
                    rw [hrest.length_eq, List.length_map]
                    exact Nat.le_trans (List.length_filter_le ..) (keys3_len T3)
                  have hmo := more_sum T3
                  have hre := told_rest T3 hrest hmo
                  have hml : moreN (pairs3 x y z) ≤ 15 := by
                    have h1 := congrArg List.length hre
                    rw [List.length_map, List.length_replicate] at h1
                    have h2 := List.length_filter_le (fun e : Ent => decide (e.1 < -1)) rest
                    (first | lia | omega)
                  have e3 : (pairs3 x y z).take (ws.map Itm.val).length = pairs3 x y z := by rw [List.length_map, hwl]; rfl
                  rw [e3] at F9
                  refine WOut.mk (by assumption) (News.sub N9 ?_) ⟨TL, ts, k, moreN (pairs3 x y z), rest, tups, wd, x, y, z, _, o4, o3, o2, o1, rfl, nT, fun p hp => ⟨(hI p hp).1, (hI p hp).2.2⟩, hT, hre, hrl, hml, ps_cons rfl (ps_cons rfl ps_nil), c4, c3, c2, c1⟩
                  refine List.forall_mem_cons.mpr ⟨List.mem_append_right _ hTLm, ?_⟩
                  refine List.forall_mem_cons.mpr ⟨by k_mem, List.forall_mem_cons.mpr ⟨by k_mem, List.forall_mem_cons.mpr ⟨by k_mem, List.forall_mem_cons.mpr ⟨by k_mem, fun p hp => ?_⟩⟩⟩⟩
                  exact List.mem_append_right _ (htR p hp)
                case it =>
                  rintro j a v h9 tk9 m₃ nx hja hav ⟨t1, tm, o4, o3, o2, o1, rfl, hm, c4, c3, c2, c1⟩ F9
                  rw [List.getElem?_map] at hja
                  obtain ⟨v0, hv0, rfl⟩ := Option.map_eq_some_iff.mp hja
                  obtain rfl : v = v0 := hav
                  obtain ⟨TP, one, two, ta, tb, rfl, hTP, hpr⟩ := hPO j v hv0
                  have hpf := pair_facts T3 hpr
                  replace F9 := fr_out hm F9
                  clear hm FG NR hja hv0
                  intro oI hoI N9
                  simp only [List.cons_append, List.nil_append] at N9
                  obtain ⟨v1, d1⟩ := c1
                  obtain ⟨v2, d2⟩ := c2
                  obtain ⟨v3, d3⟩ := c3
                  obtain ⟨v4, d4⟩ := c4
                  have NP : News _ _ _ ((TP, pairO one two ta tb) :: (I, oI) :: (s1.heap.objs.size + 1 + 1 + 1 + 1, o4) :: (s1.heap.objs.size + 1 + 1 + 1, o3) :: (s1.heap.objs.size + 1 + 1, o2) :: (s1.heap.objs.size + 1, o1) :: R) := News.sub N9 (List.forall_mem_cons.mpr ⟨.tail _ (.tail _ (.tail _ (.tail _ (.tail _ hTP)))), fun p hp => hp⟩)
                  clear N9
                  obtain ⟨TC4, TC3, TC2, TC1⟩ : @Ne Nat TP (s1.heap.objs.size + 1 + 1 + 1 + 1) ∧ @Ne Nat TP (s1.heap.objs.size + 1 + 1 + 1) ∧ @Ne Nat TP (s1.heap.objs.size + 1 + 1) ∧ @Ne Nat TP (s1.heap.objs.size + 1) := RC _ hTP
                  have nt4 : ∀ p ∈ R, p.1 ≠ s1.heap.objs.size + 1 + 1 + 1 + 1 := fun p hp => (RC p hp).1
                  have nt3 : ∀ p ∈ R, p.1 ≠ s1.heap.objs.size + 1 + 1 + 1 := fun p hp => (RC p hp).2.1
                  have nt2 : ∀ p ∈ R, p.1 ≠ s1.heap.objs.size + 1 + 1 := fun p hp => (RC p hp).2.2.1
                  have nt1 : ∀ p ∈ R, p.1 ≠ s1.heap.objs.size + 1 := fun p hp => (RC p hp).2.2.2
                  have fw := hpf.hw
                  have fl1 := hpf.l1
                  have fl2 := hpf.l2
                  k_steps
                  refine ⟨?_⟩
                  with_unfolding_all refine' call0 (dots_ok w two _ hpf.s2 (by (first | lia | omega)) (by intro e; subst e; simp at fl2)) ?cB ?cF ?cX ?cN ?cT ?ck ?cd ?cu ?_
                  case cB => k_asm
                  case cF => k_asm
                  case cX => k_asm
                  case cN => k_asm
                  case cT => k_asm
                  case ck => rfl
                  case cd => decide
                  case cu => decide
                  rintro r h11 tk11 F11 N11 ⟨td, rfl⟩
                  dsimp only
                  k_steps
                  refine ⟨?_⟩
                  rename Obj.data _ = Data.cell (some (Value.str (tx one) ta)) => dq3
                  rename Obj.data _ = Data.cell (some (Value.str (tx two) tb)) => dq4
                  rename Obj.data _ = Data.cell (some (Value.str (tx (dotsL two)) td)) => dq2
                  k_dflt refine LCt.Assign_ListComp_T (F₀ := by k_asm) (by rfl) (by with_unfolding_all rfl) (by with_unfolding_all rfl) (by decide) (by rfl) (by decide) (by rfl) (by rfl) (by rfl) ?_
                  k_steps
                  refine ⟨?_⟩
                  with_unfolding_all refine' callL (led := []) (shorter_ok w one _ hpf.s1 (by (first | lia | omega))) ?cB ?cF ?cX ?cN ?cT ?ck ?co ?cd ?cu ?_
                  case cB => k_asm
                  case cF => k_asm
                  case cX => k_asm
                  case cN => k_asm
                  case cT => k_asm
                  case ck => rfl
                  case co => exact off_nil
                  case cd => decide
                  case cu => decide
                  rintro r led' h12 tk12 F12 N12 ho12 ⟨SL, ps, np, rfl, rfl, hps⟩
                  simp only [List.cons_append, List.nil_append] at N12
                  dsimp only
                  k_steps
                  refine ⟨?_⟩
                  obtain ⟨T0, hT0⟩ := shN N12
                  have hmS : (SL, listOf ps.toArray np) ∈ T0 := by rw [hT0]; exact List.mem_cons_self ..
                  rw [← hT0] at N12
                  have hpsz : ps.toArray.size = (shortL one).length := by rw [List.size_toArray, hps.len]
                  have hsl := shortL_len one
                  k_dflt refine LCt.CompSrcT.ledger (by rfl) F12 N12 hmS (by rw [PySem.sizeLine_eq, hpsz]; (first | lia | omega)) ?_
                  intro g13
                  refine comp_T (fun i ys nx => nx = T0 ∧ TxA ys (((shortL one).take i).filter fun p => decide (p ∈ shortL two))) ⟨rfl, .nil⟩ ?_ ?_
                  · rintro i v I3 oI3 C3 oC3 D3 m₅ ys nx h14 tk14 E14 hi hv ⟨rfl, hys⟩ hC3 hx3 F14 N14 off ne
                    rw [hpsz] at hi
                    obtain ⟨tv, hv'⟩ := hps.at (i := i) hi
                    obtain rfl := Option.some.inj ((show ps[i]? = some v by simpa using hv).symm.trans hv')
                    have htk := take_snoc hi
                    generalize htx : (shortL one).getD i [] = part at *
                    subst hT0
                    clear F12 hv hv'
                    k_steps
                    refine ⟨?_⟩
                    with_unfolding_all refine' callL (led := []) (shorter_ok w two _ hpf.s2 (by (first | lia | omega))) ?cB ?cF ?cX ?cN ?cT ?ck ?co ?cd ?cu ?_
                    case cB => k_asm
                    case cF => k_asm
                    case cX => k_asm
                    case cN => k_asm
                    case cT => k_asm
                    case ck => rfl
                    case co => exact off_nil
                    case cd => decide
                    case cu => decide
                    rintro r led' h15 tk15 F15 N15 ho15 ⟨SL2, ps2, np2, rfl, rfl, hps2⟩
                    clear F14 N14
                    simp only [List.cons_append, List.nil_append] at N15
                    dsimp only
                    k_steps
                    refine ⟨?_⟩
                    refine in_list_strs (News.isList N15 (List.mem_cons_self ..)) hps2 ?_
                    have hany : ((shortL two).map tx).any (· == tx part) = decide (part ∈ shortL two) := any_tx _ _
                    rw [hany]
                    by_cases hin : part ∈ shortL two
                    · rw [decide_eq_true hin]
                      k_steps
                      refine ⟨?_⟩
                      refine LCg.CompEnd.intro (by assumption) (by assumption) _ (fun p hp => .tail _ hp) off (.inr ⟨_, List.mem_cons_self .., rfl, _, rfl⟩) ⟨rfl, ?_⟩
                      rw [htk, List.filter_append, List.filter_cons, if_pos (decide_eq_true hin)]
                      exact TxA.snoc hys
                    · rw [decide_eq_false hin]
                      k_steps
                      refine ⟨?_⟩
                      refine LCg.CompEnd.intro (by assumption) (by assumption) _ (fun p hp => .tail _ hp) off (.inr ⟨_, List.mem_cons_self .., rfl, _, rfl⟩) ⟨rfl, ?_⟩
                      rw [htk, List.filter_append, List.filter_cons, if_neg (by simpa using hin), List.filter_nil, List.append_nil]
                      exact hys
                  · rintro ys nx ⟨rfl, hys⟩
                    subst hT0
                    clear F12 N12
                    rw [hpsz, List.take_length] at hys
                    have hyb : TxA ys (belowL one two) := hys
                    clear hys
                    k_steps
                    refine ⟨?_⟩
                    k_dflt refine LCt.Assign_ListComp_T (F₀ := by k_asm) (by rfl) (by with_unfolding_all rfl) (by with_unfolding_all rfl) (by decide) (by rfl) (by decide) (by rfl) (by rfl) (by rfl) ?_
                    k_steps
                    refine ⟨?_⟩
                    with_unfolding_all refine' callL (led := []) (longer_ok w one _ hpf.s1 (by (first | lia | omega))) ?cB ?cF ?cX ?cN ?cT ?ck ?co ?cd ?cu ?_
                    case cB => k_asm
                    case cF => k_asm
                    case cX => k_asm
                    case cN => k_asm
                    case cT => k_asm
                    case ck => rfl
                    case co => exact off_nil
                    case cd => decide
                    case cu => decide
                    rintro r led' h22 tk22 F22 N22 ho22 ⟨SU, qs, nq, rfl, rfl, hqs, hql⟩
                    simp only [List.cons_append, List.nil_append] at N22
                    dsimp only
                    k_steps
                    refine ⟨?_⟩
                    obtain ⟨T1, hT1⟩ := shN N22
                    have hmU : (SU, listOf qs.toArray nq) ∈ T1 := by rw [hT1]; exact List.mem_cons_self ..
                    rw [← hT1] at N22
                    have hqsz : qs.toArray.size = (longL one).length := by rw [List.size_toArray, hqs.len]
                    have hqsl := hqs.len
                    k_dflt refine LCt.CompSrcT.ledger (by rfl) F22 N22 hmU (by rw [PySem.sizeLine_eq, hqsz]; (first | lia | omega)) ?_
                    intro g23
                    refine comp_T (fun i ys nx => nx = T1 ∧ TxA ys (((longL one).take i).filter fun q => decide (two.Sublist q))) ⟨rfl, .nil⟩ ?_ ?_
                    · rintro i v I3 oI3 C3 oC3 D3 m₅ ys2 nx h24 tk24 E24 hi hv ⟨rfl, hys2⟩ hC3 hx3 F24 N24 off ne
                      rw [hqsz] at hi
                      obtain ⟨tv, hv'⟩ := hqs.at (i := i) hi
                      obtain rfl := Option.some.inj ((show qs[i]? = some v by simpa using hv).symm.trans hv')
                      have htk := take_snoc hi
                      have htm : (longL one).getD i [] ∈ longL one := getD_memL hi
                      generalize htx : (longL one).getD i [] = text at *
                      have htl := longL_mem hpf.s1 htm
                      subst hT1
                      clear F22 hv hv'
                      k_steps
                      refine ⟨?_⟩
                      with_unfolding_all refine' call0 (ell_ok w two text _ _ (fun c hc e => by rcases hpf.s2 c hc with h | h | h <;> (first | lia | omega)) (by (first | lia | omega)) (by (first | lia | omega))) ?cB ?cF ?cX ?cN ?cT ?ck ?cd ?cu ?_
                      case cB => k_asm
                      case cF => k_asm
                      case cX => k_asm
                      case cN => k_asm
                      case cT => k_asm
                      case ck => rfl
                      case cd => decide
                      case cu => decide
                      rintro r h25 tk25 F25 N25 ⟨b, rfl, hb⟩
                      dsimp only
                      clear F24 N24
                      cases b with
                      | true =>
                        k_steps
                        refine ⟨?_⟩
                        refine LCg.CompEnd.intro (by assumption) (by assumption) _ (fun p hp => hp) off (.inr ⟨_, List.mem_cons_self .., rfl, _, rfl⟩) ⟨rfl, ?_⟩
                        rw [htk, List.filter_append, List.filter_cons, if_pos (decide_eq_true (hb.mp rfl))]
                        exact TxA.snoc hys2
                      | false =>
                        k_steps
                        refine ⟨?_⟩
                        refine LCg.CompEnd.intro (by assumption) (by assumption) _ (fun p hp => hp) off (.inr ⟨_, List.mem_cons_self .., rfl, _, rfl⟩) ⟨rfl, ?_⟩
                        rw [htk, List.filter_append, List.filter_cons, if_neg (by rw [decide_eq_true_eq]; exact fun h => Bool.false_ne_true (hb.mpr h)), List.filter_nil, List.append_nil]
                        exact hys2
                    · rintro ys2 nx ⟨rfl, hys2⟩
                      subst hT1
                      clear F22 N22
                      rw [hqsz, List.take_length] at hys2
                      have hya : TxA ys2 (aboveL one two) := hys2
                      clear hys2
                      k_steps
                      refine ⟨?_⟩
                      k_dflt refine LCt.ListComp_T (F₀ := by k_asm) (by rfl) (by decide) (by rfl) (by decide) (by rfl) ?_
                      have hol := tx_length one
                      k_steps
                      refine ⟨?_⟩
                      rename IsRange _ _ _ _ _ _ _ _ => hrg
                      rw [hol] at hrg
                      rename News _ _ _ _ => N32
                      rename Fr _ _ _ _ => F32
                      obtain ⟨T2, hT2⟩ := shN N32
                      rw [← hT2] at N32
                      k_dflt refine LCt.CompSrcT.range (n := one.length) (by rfl) F32 N32 hrg (small_one (by (first | lia | omega)) (by (first | lia | omega)) (by (first | lia | omega)) (by (first | lia | omega))) (by rw [rangeSize_nat]; (first | lia | omega)) (by rw [PySem.sizeLine_eq]; (first | lia | omega)) ?_
                      intro g33
                      refine comp_T (fun i ys nx => nx = T2 ∧ ys.length = ham one two i) ⟨rfl, rfl⟩ ?_ ?_
                      · rintro i _ I3 oI3 C3 oC3 D3 m₅ ys3 nx h34 tk34 E34 hi ⟨ti, rfl⟩ ⟨rfl, hys3⟩ hC3 hx3 F34 N34 off ne
                        rw [Int.zero_add] at hx3
                        subst hT2
                        clear F32
                        dsimp only
                        k_steps
                        refine ⟨?_⟩
                        refine item_text (l := one) (k := i) rfl (by (first | lia | omega)) (by (first | lia | omega)) ?_
                        intro t35 tk35
                        try dsimp only
                        k_steps
                        refine ⟨?_⟩
                        refine item_text (l := two) (k := i) rfl (by (first | lia | omega)) (by (first | lia | omega)) ?_
                        intro t36 tk36
                        try dsimp only
                        k_steps
                        · refine ⟨?_⟩
                          rename (_ != _) = true => he
                          rw [bne_tx] at he
                          refine LCg.CompEnd.intro (by assumption) (by assumption) _ (fun p hp => hp) off trivial ⟨rfl, ?_⟩
                          rw [List.length_append, hys3, ham_succ, if_neg (fun e => by rw [e] at he; simp at he)]; rfl
                        · refine ⟨?_⟩
                          rename (_ != _) = false => he
                          rw [bne_tx] at he
                          refine LCg.CompEnd.intro (by assumption) (by assumption) _ (fun p hp => hp) off trivial ⟨rfl, ?_⟩
                          rw [hys3, ham_succ, if_pos (by simpa using Eq.symm (by simpa using he : one.getD i 0 = two.getD i 0))]
                          rfl
                      · rintro ys3 nx ⟨rfl, hys3⟩
                        subst hT2
                        clear F32 N32 hrg
                        k_steps
                        refine ⟨?_⟩
                        rename News _ _ _ _ => N42
                        refine len_led (vs := ys3) (n := ys3.length) N42 (List.mem_cons_self ..) (by rw [hys3]; have := ham_le one two one.length; (first | lia | omega)) ?_
                        intro t43 tk43
                        try dsimp only
                        generalize ys3.length = n3 at hys3 ⊢
                        k_steps
                        refine ⟨?_⟩
                        with_unfolding_all refine' call0 (lev_ok w one two 4 _ _ _ hpf.s1 hpf.s2 (by (first | lia | omega)) (by (first | lia | omega)) (by (first | lia | omega)) (by (first | lia | omega))) ?cB ?cF ?cX ?cN ?cT ?ck ?cd ?cu ?_
                        case cB => k_asm
                        case cF => k_asm
                        case cX => k_asm
                        case cN => k_asm
                        case cT => k_asm
                        case ck => rfl
                        case cd => decide
                        case cu => decide
                        rintro r h45 tk45 F45 N45 ⟨zf, tzf, rfl, hzf⟩
                        dsimp only
                        have hpair := pair_law (by rw [fl1, fl2]) fl1.symm hpf.ne hpf.s1 hpf.s2 hpf.w1 hpf.w2 hzf
                        rw [← hys3] at hpair
                        have hbl := hyb.len
                        have hal := hya.len
                        rw [← hbl, ← hal] at hpair
                        have hmore := more_take T3 hpr
                        rw [← hbl] at hmore
                        rcases hpair with ⟨hh, rfl, hb1, ha2⟩ | ⟨hh, rfl, hab, hb2⟩
                        · k_steps
                          refine ⟨?_⟩
                          refine len_led (vs := ys) (n := ys.length) (by assumption) (by k_mem) (by (first | lia | omega)) ?_
                          intro t51 tk51
                          try dsimp only
                          k_steps
                          refine ⟨?_⟩
                          refine len_led (vs := ys2) (n := ys2.length) (by assumption) (by k_mem) (by (first | lia | omega)) ?_
                          intro t52 tk52
                          try dsimp only
                          k_steps
                          refine ⟨?_⟩
                          rename News _ _ _ _ => N53
                          refine tri_ne (N53 _ (.tail _ (.head _))).1 (N53 _ (.head _)).1 ⟨rfl, by (first | lia | omega), by (first | lia | omega)⟩ (by ke_room) ?_
                          k_steps
                          refine ⟨?_⟩
                          refine len_led (vs := ys) (n := ys.length) (by assumption) (by k_mem) (by (first | lia | omega)) ?_
                          intro t55 tk55
                          try dsimp only
                          k_steps
                          rename News _ _ _ _ => NZ
                          refine ⟨_, _, _, _, rfl, by assumption, (show News _ _ _ ([(I, oI)] ++ _) from News.sub NZ ?_), offs_I ?_, _, _, _, _, _, _, rfl, ps_cons rfl (ps_cons rfl (ps_cons (by rw [hmore]; rfl) ps_nil)), ⟨_, dq4⟩, ⟨_, dq3⟩, ⟨_, dq2⟩, ⟨_, d1⟩⟩
                          · refine List.forall_mem_cons.mpr ⟨by k_mem, List.forall_mem_cons.mpr ⟨by k_mem, List.forall_mem_cons.mpr ⟨by k_mem, List.forall_mem_cons.mpr ⟨by k_mem, List.forall_mem_cons.mpr ⟨by k_mem, fun p hp => ?_⟩⟩⟩⟩⟩
                            repeat (first | exact hp | refine List.Mem.tail _ ?_)
                          · refine List.forall_mem_cons.mpr ⟨?_, List.forall_mem_cons.mpr ⟨?_, List.forall_mem_cons.mpr ⟨?_, List.forall_mem_cons.mpr ⟨?_, fun p hp => Nat.ne_of_lt (lIR p hp)⟩⟩⟩⟩
                            all_goals (show @Ne Nat _ I; dsimp only; exact Nat.ne_of_lt (by assumption))
                        · have hn3 : ¬ ((n3 : Nat) : Int) = 1 := by (first | lia | omega)
                          k_steps
                          · exact absurd (by assumption) hn3
                          refine ⟨?_⟩
                          refine len_led (vs := ys2) (n := ys2.length) (by assumption) (by k_mem) (by (first | lia | omega)) ?_
                          intro t51 tk51
                          try dsimp only
                          k_steps
                          refine ⟨?_⟩
                          refine len_led (vs := ys) (n := ys.length) (by assumption) (by k_mem) (by (first | lia | omega)) ?_
                          intro t52 tk52
                          try dsimp only
                          rw [hab]
                          k_steps
                          refine ⟨?_⟩
                          refine len_led (vs := ys) (n := ys.length) (by assumption) (by k_mem) (by (first | lia | omega)) ?_
                          intro t53 tk53
                          try dsimp only
                          k_steps
                          refine ⟨?_⟩
                          have hwb : wd ∈ belowL one two := (belowL_mem (by rw [fl1, fl2])).mpr ⟨fl1.symm, hpf.w1, hpf.w2⟩
                          rename News _ _ _ _ => N54
                          refine notin_list_strs (News.isList N54 (by k_mem)) hyb ?_
                          rw [any_tx, decide_eq_true hwb]
                          k_steps
                          refine ⟨?_⟩
                          refine len_led (vs := ys) (n := ys.length) (by assumption) (by k_mem) (by (first | lia | omega)) ?_
                          intro t55 tk55
                          try dsimp only
                          k_steps
                          rename News _ _ _ _ => NZ
                          refine ⟨_, _, _, _, rfl, by assumption, (show News _ _ _ ([(I, oI)] ++ _) from News.sub NZ ?_), offs_I ?_, _, _, _, _, _, _, rfl, ps_cons rfl (ps_cons rfl (ps_cons (by rw [hmore]; rfl) ps_nil)), ⟨_, dq4⟩, ⟨_, dq3⟩, ⟨_, dq2⟩, ⟨_, d1⟩⟩
                          · refine List.forall_mem_cons.mpr ⟨by k_mem, List.forall_mem_cons.mpr ⟨by k_mem, List.forall_mem_cons.mpr ⟨by k_mem, List.forall_mem_cons.mpr ⟨by k_mem, List.forall_mem_cons.mpr ⟨by k_mem, fun p hp => ?_⟩⟩⟩⟩⟩
                            repeat (first | exact hp | refine List.Mem.tail _ ?_)
                          · refine List.forall_mem_cons.mpr ⟨?_, List.forall_mem_cons.mpr ⟨?_, List.forall_mem_cons.mpr ⟨?_, List.forall_mem_cons.mpr ⟨?_, fun p hp => Nat.ne_of_lt (lIR p hp)⟩⟩⟩⟩
                            all_goals (show @Ne Nat _ I; dsimp only; exact Nat.ne_of_lt (by assumption))
              case g2 =>
                rintro m₁ nx h1 tk1 ⟨TL, ts, k, mo, rest, tups, wd, x, y, z, t, o4, o3, o2, o1, rfl, nT, hI, hT, hrep, hrl, hml, hm, c4, c3, c2, c1⟩ F7 N8
                replace F7 := fr_out hm F7
                clear hm F6 N7
                dsimp only [List.drop]
                obtain ⟨v0, ts', rfl⟩ : ∃ v0 ts', ts = v0 :: ts' := by
                  have h1 := hT.1
                  match ts, h1 with
                  | v :: r, _ => exact ⟨v, r, rfl⟩
                have hT' := hT.uncons.2
                have htl' := hT'.1
                k_steps
                refine ⟨?_⟩
                k_dflt refine pair_comp F7 (by rfl) (by decide) (by rfl) (by decide) (by rfl) (by rfl) (by decide) ?_
                k_steps
                refine ⟨?_⟩
                rename News _ _ _ _ => N9
                rename Fr _ _ _ _ => F9
                k_dflt (refine' kmk_slice_lit F9 N9 (News.isList N9 (List.mem_cons_self ..)) ?hzp ?hzq (pick1 v0 ts') ?_ ?hzs ?hzt ?hzz; (case hzp => kmk_part); (case hzq => kmk_part); (case hzs => with_unfolding_all rfl); (case hzt => kmk_pure); (case hzz => (rw [PySem.sizeLine_eq, List.size_toArray, List.length_cons]; (first | lia | omega))))
                intro SL h10 F10 N10 l10
                clear F9 N9
                dsimp only
                k_steps
                refine ⟨?_⟩
                refine ⟨SL, ts', 0, _, fun i ys => IntsAre ys (((rest.take i).filter fun e => decide (e.1 < -1)).map (·.1)), rfl, by rfl, F10, N10, List.mem_cons_self .., by (first | lia | omega), .nil, ?_, ?_⟩
                · intro i v hv
                  have hil : i < rest.length := by
                    have := (List.getElem?_eq_some_iff.mp hv).1
                    (first | lia | omega)
                  obtain ⟨ta, tt, tu, tn, hva, hma⟩ := hT'.2 i hil
                  obtain rfl := Option.some.inj (hv.symm.trans hva)
                  have hge : gE rest i = rest[i] := by simp [gE, hil]
                  refine ⟨ta, _, .int (gE rest i).1 tt, .str (tx (gE rest i).2) tu, tn, rfl, .tail _ (.tail _ (.tail _ (.tail _ (.tail _ (.tail _ hma))))), rfl, rfl, ?_⟩
                  have htk : ((rest.take (i + 1)).filter fun e => decide (e.1 < -1)).map (·.1) = ((rest.take i).filter fun e => decide (e.1 < -1)).map (·.1) ++ if (gE rest i).1 < -1 then [(gE rest i).1] else [] := by
                    rw [List.take_succ_eq_append_getElem hil, List.filter_append, List.map_append, hge]
                    congr 1
                    by_cases h : rest[i].1 < -1
                    · rw [if_pos h, List.filter_cons, if_pos (decide_eq_true h)]; rfl
                    · rw [if_neg h, List.filter_cons, if_neg (by simpa using h)]; rfl
                  generalize (gE rest i).1 = lk at *
                  generalize (gE rest i).2 = pt at *
                  intro ys I3 oI3 C3 oC3 D3 m₅ h14 tk14 E14 hJ hC3 hx3 hy3 F14 N14 off ne
                  clear F10
                  k_steps
                  · refine ⟨?_⟩
                    rename lk < -1 => hlk
                    refine LCg.CompEnd.intro (by assumption) (by assumption) _ (fun p hp => hp) off rfl ?_
                    show IntsAre _ _
                    rw [htk, if_pos hlk]
                    exact IntsAre.append hJ (.cons _ _ .nil)
                  · refine ⟨?_⟩
                    rename ¬ lk < -1 => hlk
                    refine LCg.CompEnd.intro (by assumption) (by assumption) _ (fun p hp => hp) off rfl ?_
                    show IntsAre _ _
                    rw [htk, if_neg hlk, List.append_nil]
                    exact hJ
                · intro DC ys h15 tk15 hJ F15 N15 o15
                  rw [htl', List.take_length, hrep] at hJ
                  clear F10 N10
                  k_steps
                )
end law
end Mine
end TLLaw
theorem PySem.Challenge.cw_pg0176_02_holds : PySem.Challenge.rw_pg0176_02.Holds := by
  exact Mine.law_ok
