import PyProof.Rows.All
import Wide.All
import OpenK.AllK
import Wide.FinOn
import Lean
import PySem.Challenge.RW_sw0040_01
open PySem PySem.W PyProof.Rows
set_option Elab.async false
set_option maxRecDepth 100000
set_option maxHeartbeats 8000000
namespace Mine
open_top hd for PySem.Challenge.rw_sw0040_01
theorem pr22 {α β γ δ : Type} {P : (α × β) × γ × δ → Prop} (h : ∀ a b c d, P ((a, b), c, d)) (x : (α × β) × γ × δ) : P x := h x.1.1 x.1.2 x.2.1 x.2.2
theorem pr233 {α β γ δ ε ζ η θ : Type} {P : (α × β) × (γ × δ × ε) × (ζ × η × θ) → Prop} (h : ∀ a b c d e f g i, P ((a, b), (c, d, e), (f, g, i))) (x : (α × β) × (γ × δ × ε) × (ζ × η × θ)) : P x := h x.1.1 x.1.2 x.2.1.1 x.2.1.2.1 x.2.1.2.2 x.2.2.1 x.2.2.2.1 x.2.2.2.2
theorem pr222 {α β γ δ ε ζ : Type} {P : ((α × β) × (γ × δ)) × (ε × ζ) → Prop} (h : ∀ a b c d e f, P (((a, b), (c, d)), (e, f))) (x : ((α × β) × (γ × δ)) × (ε × ζ)) : P x := h x.1.1.1 x.1.1.2 x.1.2.1 x.1.2.2 x.2.1 x.2.2
theorem pr3232 {α β γ δ ε ζ η θ ι κ : Type} {P : (α × β × γ) × (δ × ε) × (ζ × η × θ) × (ι × κ) → Prop} (h : ∀ a b c d e f g i j k, P ((a, b, c), (d, e), (f, g, i), (j, k))) (x : (α × β × γ) × (δ × ε) × (ζ × η × θ) × (ι × κ)) : P x := h x.1.1 x.1.2.1 x.1.2.2 x.2.1.1 x.2.1.2 x.2.2.1.1 x.2.2.1.2.1 x.2.2.1.2.2 x.2.2.2.1 x.2.2.2.2
section
variable {prog : Program} {w : World} {A : Around} {E : Value → Shared → Prop} {s : Shared} {env : Env} {h₀ : Heap} {x : Str} {body : List Stmt} {Q : Flow → Shared → Prop}
/-- a turn's end: the iterator stands as it stood, the word holds of the frame and the ledger -/
noncomputable def Turn9 (h₀ : Heap) (L I : Addr) (oI : Obj) (J : (Str → Option Value) → List (Addr × Obj) → Prop) (s : Shared) (Q : Flow → Shared → Prop) (f : Flow) (s₂ : Shared) : Prop :=
  match f with
  | .ret v => Q (.ret v) s₂
  | .brk => Q .next s₂
  | _ => ∃ h' tk m' nx, s₂ = { s with heap := h', toks := tk } ∧ Fr h₀ L h' m' ∧ News h₀ L h' ((I, oI) :: nx) ∧ (∀ p ∈ nx, p.1 ≠ I) ∧ J m' nx
theorem Turn9.next {L I : Addr} {oI : Obj} {J : (Str → Option Value) → List (Addr × Obj) → Prop} {h' : Heap} {tk : Nat} {m' : Str → Option Value} {nx : List (Addr × Obj)}
    (F : Fr h₀ L h' m') (N : News h₀ L h' ((I, oI) :: nx)) (hn : ∀ p ∈ nx, p.1 ≠ I) (hj : J m' nx) : Turn9 h₀ L I oI J s Q .next { s with heap := h', toks := tk } := ⟨h', tk, m', nx, rfl, F, N, hn, hj⟩
theorem loop9 {I : Addr} {fp : List Addr} {n : Nat} {P : Nat → Value → Prop} {St : Nat → Heap → Prop} {m₀ : Str → Option Value} {news : List (Addr × Obj)} (J : Nat → (Str → Option Value) → List (Addr × Obj) → Prop)
    (W : Walks prog w A I fp [I] n P St) (hLf : env.locals ∉ fp) (hI : h₀.get? I = none) (hnw : ∀ p ∈ news, p.1 ≠ I) (hst : St 0 s.heap) (F : Fr h₀ env.locals s.heap m₀) (N : News h₀ env.locals s.heap news) (hj : J 0 m₀ news)
    (hIo : ∀ i h, St i h → ∃ o, h.get? I = some o)
    (hfp : ∀ b ∈ fp, b = I ∨ h₀.get? b ≠ none ∨ ∃ o, ∀ i m nx, J i m nx → (b, o) ∈ nx)
    (turn : ∀ i v m₁ nx h tk oI, i < n → P i v → J i m₁ nx → (∀ p ∈ nx, p.1 ≠ I) → Fr h₀ env.locals h (fun y => if y = x then some v else m₁ y) → News h₀ env.locals h ((I, oI) :: nx) →
      wpAny (model prog w) A (execs body env) (Turn9 h₀ env.locals I oI (J (i + 1)) s Q) E { s with heap := h, toks := tk })
    (done : ∀ m₁ nx h tk, J n m₁ nx → (∀ p ∈ nx, p.1 ≠ I) → Fr h₀ env.locals h m₁ → News h₀ env.locals h nx → Q .next { s with heap := h, toks := tk }) :
    LoopAtV prog w A h₀ env x body Q E (.ref I) s := by
  refine ⟨I, fp, [I], n, P, St, m₀, news, J, rfl, W, hLf, fun b hb => by rw [List.mem_singleton.mp hb]; exact hI, fun p hp hq => hnw p hp (List.mem_singleton.mp hq), hst, F, N, hj, ?_, ?_⟩
  · rintro i v m₁ nx s₁ own ⟨h, tk, rfl⟩ hin hP hJ hoff hown hget hall hst₁ F₁ N₁
    have hoff' : ∀ p ∈ nx, p.1 ≠ I := fun p hp q => hoff p hp (List.mem_singleton.mpr q)
    obtain ⟨oI, hoI⟩ := hIo _ _ hst₁
    have hm := hall I (W.sub I (List.mem_singleton.mpr rfl)) hI oI hoI
    have N₂ : News h₀ env.locals h ((I, oI) :: nx) := fun p hp => by
      rcases List.mem_cons.mp hp with rfl | hp
      · exact N₁ _ (List.mem_append_left _ hm)
      · exact N₁ _ (List.mem_append_right _ hp)
    refine wpAny_mono (turn i v m₁ nx h tk oI hin hP hJ hoff' F₁ N₂) (fun f s₂ p => ?_) fun _ _ e => e
    have fin : (∃ h' tk' m' nx', s₂ = { s with heap := h', toks := tk' } ∧ Fr h₀ env.locals h' m' ∧ News h₀ env.locals h' ((I, oI) :: nx') ∧ (∀ p ∈ nx', p.1 ≠ I) ∧ J (i + 1) m' nx') →
        LoopStepU h₀ env.locals [I] own (J (i + 1)) { s with heap := h, toks := tk } .next s₂ := by
      rintro ⟨h', tk', m', nx', rfl, F', N', hn', hJ'⟩
      refine ⟨rfl, h', tk', m', nx', rfl, F', fun p hp => ?_, fun p hp q => hn' p hp (List.mem_singleton.mp q), hJ'⟩
      rcases List.mem_append.mp hp with hp | hp
      · have hg := hget p hp
        rcases hfp p.1 (hown p hp) with e | e | ⟨o, ho⟩
        · have e2 : p = (I, oI) := Prod.ext e (by have : h.get? I = some p.2 := e ▸ hg; exact Option.some.inj (this.symm.trans hoI))
          rw [e2]; exact N' _ List.mem_cons_self
        · exact absurd (N₁ p (List.mem_append_left _ hp)).2.2 e
        · have e2 : p = (p.1, o) := Prod.ext rfl (Option.some.inj (hg.symm.trans (N₁ _ (List.mem_append_right _ (ho i m₁ nx hJ))).1))
          rw [e2]; exact N' _ (List.mem_cons_of_mem _ (ho _ _ _ hJ'))
      · exact N' p (List.mem_cons_of_mem _ hp)
    cases f with
    | ret v => exact .ret p
    | brk => exact .brk p
    | next => exact .next (fin p)
    | cont => exact .cont (fin p)
  · rintro h' tk m' nx' F' N' hn' hJ'
    exact done m' nx' h' tk hJ' (fun p hp q => hn' p hp (List.mem_singleton.mpr q)) F' N'
theorem range9 {r : Addr} {a b : Int} {t₀ u₀ v₀ : Tok} {n : Nat} {m₀ : Str → Option Value} {news : List (Addr × Obj)} (J : Nat → (Str → Option Value) → List (Addr × Obj) → Prop)
    (hh : A.handled = none) (hr : IsRange s.heap r a b 1 t₀ u₀ v₀) (hsmall : Builtin.Range.small a b 1 = true) (hn : Builtin.Range.rangeSize a b 1 = (n : Int)) (F : Fr h₀ env.locals s.heap m₀) (N : News h₀ env.locals s.heap news) (hj : J 0 m₀ news)
    (turn : ∀ I oI i t m₁ nx h tk, i < n → (∀ p ∈ news, p.1 < I) → J i m₁ nx → (∀ p ∈ nx, p.1 ≠ I) → Fr h₀ env.locals h (fun y => if y = x then some (.int (a + (i : Nat)) t) else m₁ y) → News h₀ env.locals h ((I, oI) :: nx) →
      wpAny (model prog w) A (execs body env) (Turn9 h₀ env.locals I oI (J (i + 1)) s Q) E { s with heap := h, toks := tk })
    (done : ∀ m₁ nx h tk, J n m₁ nx → Fr h₀ env.locals h m₁ → News h₀ env.locals h nx → Q .next { s with heap := h, toks := tk }) :
    wpAny (model prog w) A (pyIter (.ref r)) (fun it s₂ => LoopAtV prog w A h₀ env x body Q E it s₂) E s := by
  have low : ∀ p ∈ news, p.1 < s.heap.objs.size := fun p hp => Heap.lt_size (N p hp).1
  refine wpAny_pyIter_range hr hsmall (loop9 J (Walks.range (w := w) hh s.heap.objs.size a 1 n) (fun hm => Nat.ne_of_lt F.ns.lt (by simpa using hm)) (next_is_new F) (fun p hp => Nat.ne_of_lt (low p hp)) ?start (F.push _) (N.pushKeep _) hj
    (fun _ _ st => ⟨_, st⟩) (fun b hb => .inl (List.mem_singleton.mp hb)) (fun i v m₁ nx h tk oI hin hv hJ hoff F₁ N₁ => ?step) fun m₁ nx h tk hJ _ F₁ N₁ => done m₁ nx h tk hJ F₁ N₁)
  case start =>
    rw [hn]
    have := Heap.get?_push_size s.heap (o := { cls := .type "range_iterator", data := .fields #[rawInt a, rawInt (n : Int), rawInt 1] }) rfl
    simpa [IsRangeIter] using this
  case step =>
    obtain ⟨t, rfl⟩ := hv
    exact turn _ oI i t m₁ nx h tk hin low hJ hoff (by simpa only [Int.mul_one] using F₁) N₁
theorem list9 {l : Addr} {vs : List Value} {nn : Nat} {m₀ : Str → Option Value} {news : List (Addr × Obj)} (J : Nat → (Str → Option Value) → List (Addr × Obj) → Prop)
    (hh : A.handled = none) (hl : (l, listOf vs.toArray nn) ∈ news) (hJl : ∀ i m nx, J i m nx → (l, listOf vs.toArray nn) ∈ nx) (F : Fr h₀ env.locals s.heap m₀) (N : News h₀ env.locals s.heap news) (hj : J 0 m₀ news)
    (turn : ∀ I oI i v m₁ nx h tk, vs[i]? = some v → (∀ p ∈ news, p.1 < I) → J i m₁ nx → (∀ p ∈ nx, p.1 ≠ I) → Fr h₀ env.locals h (fun y => if y = x then some v else m₁ y) → News h₀ env.locals h ((I, oI) :: nx) →
      wpAny (model prog w) A (execs body env) (Turn9 h₀ env.locals I oI (J (i + 1)) s Q) E { s with heap := h, toks := tk })
    (done : ∀ m₁ nx h tk, J vs.length m₁ nx → Fr h₀ env.locals h m₁ → News h₀ env.locals h nx → Q .next { s with heap := h, toks := tk }) :
    wpAny (model prog w) A (pyIter (.ref l)) (fun it s₂ => LoopAtV prog w A h₀ env x body Q E it s₂) E s := by
  have low : ∀ p ∈ news, p.1 < s.heap.objs.size := fun p hp => Heap.lt_size (N p hp).1
  have is0 : s.heap.IsList l vs.toArray := ⟨_, (N _ hl).1, rfl, nn, rfl⟩
  refine wpAny_pyIter_list is0 (loop9 J (n := vs.length) (List.size_toArray ▸ Walks.list (w := w) hh s.heap.objs.size l (Nat.ne_of_lt (low _ hl)) vs.toArray) (fun hm => ?away) (next_is_new F) (fun p hp => Nat.ne_of_lt (low p hp))
    ⟨⟨_, Heap.get?_push_size _ rfl, rfl, rfl⟩, _, Heap.get?_push_of_some _ (N _ hl).1, rfl, nn, rfl⟩ (F.push _) (N.pushKeep _) hj (fun _ _ st => ⟨_, st.1.choose_spec.1⟩) (fun b hb => ?own)
    (fun i v m₁ nx h tk oI _ hv hJ hoff F₁ N₁ => turn _ oI i v m₁ nx h tk (by simpa using hv) low hJ hoff F₁ N₁) fun m₁ nx h tk hJ _ F₁ N₁ => done m₁ nx h tk hJ F₁ N₁)
  case away =>
    rcases (by simpa using hm : env.locals = s.heap.objs.size ∨ env.locals = l) with e | e
    · exact Nat.ne_of_lt F.ns.lt e
    · exact (N _ hl).2.1 e.symm
  case own =>
    rcases (by simpa using hb : b = s.heap.objs.size ∨ b = l) with e | rfl
    · exact .inl e
    · exact .inr (.inr ⟨_, hJl⟩)
end
/-- the word of a loop: what stands in the ledger, the names that a turn changes, the names that it forgets -/
noncomputable def KJ9 {σ : Type} (Led : σ → List (Addr × Obj)) (ps : σ → List (Str × Value)) (x : Str) (stored : List Str) (m₀ : Str → Option Value) (P : Nat → σ → Prop) (i : Nat) (m : Str → Option Value) (nx : List (Addr × Obj)) : Prop :=
  ∃ c : σ, nx = Led c ∧ (∀ p ∈ ps c, m p.1 = some p.2) ∧ (∀ z, z ≠ x → (∀ p ∈ ps c, z ≠ p.1) → stored.contains z = false → m z = m₀ z) ∧ P i c
section
variable {prog : Program} {w : World} {A : Around} {E : Value → Shared → Prop} {s : Shared} {env : Env} {h₀ : Heap} {x : Str} {body : List Stmt} {Q : Flow → Shared → Prop}
  {σ : Type} {m₀ : Str → Option Value} (Led : σ → List (Addr × Obj)) (ps : σ → List (Str × Value)) (stored : List Str) (P : Nat → σ → Prop)
theorem turn9_end {Led : σ → List (Addr × Obj)} {ps : σ → List (Str × Value)} {stored : List Str} {P : Nat → σ → Prop} {L I : Addr} {oI : Obj} {i : Nat} {h' : Heap} {tk : Nat} {m' : Str → Option Value} {nw : List (Addr × Obj)} (c : σ)
    (F : Fr h₀ L h' m') (N : News h₀ L h' nw) (hn : ∀ p ∈ (I, oI) :: Led c, p ∈ nw) (hI : ∀ p ∈ Led c, p.1 ≠ I) (hk : ∀ p ∈ ps c, m' p.1 = some p.2)
    (hr : ∀ z, z ≠ x → (∀ p ∈ ps c, z ≠ p.1) → stored.contains z = false → m' z = m₀ z) (hp : P i c) : Turn9 h₀ L I oI (KJ9 Led ps x stored m₀ P i) s Q .next { s with heap := h', toks := tk } :=
  Turn9.next F (fun p hq => N p (hn p hq)) hI ⟨c, rfl, hk, hr, hp⟩
theorem rangeS9 {r : Addr} {a b : Int} {t₀ u₀ v₀ : Tok} {n : Nat} (c₀ : σ)
    (hh : A.handled = none) (hr : IsRange s.heap r a b 1 t₀ u₀ v₀) (hsmall : Builtin.Range.small a b 1 = true) (hn : Builtin.Range.rangeSize a b 1 = (n : Int)) (F : Fr h₀ env.locals s.heap m₀) (N : News h₀ env.locals s.heap (Led c₀)) (hk : ∀ p ∈ ps c₀, m₀ p.1 = some p.2) (hp : P 0 c₀)
    (turn : ∀ I oI i t (c : σ) (u : Str → Option Value) h tk, i < n → (∀ p ∈ Led c₀, p.1 < I) → P i c → (∀ p ∈ Led c, p.1 ≠ I) → Fr h₀ env.locals h (fun y => if y = x then some (.int (a + (i : Nat)) t) else kstB (fun z => if stored.contains z then u z else m₀ z) (ps c) y) → News h₀ env.locals h ((I, oI) :: Led c) →
      wpAny (model prog w) A (execs body env) (Turn9 h₀ env.locals I oI (KJ9 Led ps x stored m₀ P (i + 1)) s Q) E { s with heap := h, toks := tk })
    (done : ∀ (c : σ) (u : Str → Option Value) h tk, P n c → Fr h₀ env.locals h (fun y => if y = x then u y else kstB (fun z => if stored.contains z then u z else m₀ z) (ps c) y) → News h₀ env.locals h (Led c) → Q .next { s with heap := h, toks := tk }) :
    wpAny (model prog w) A (pyIter (.ref r)) (fun it s₂ => LoopAtV prog w A h₀ env x body Q E it s₂) E s := by
  refine range9 (KJ9 Led ps x stored m₀ P) hh hr hsmall hn F N ⟨c₀, rfl, hk, fun _ _ _ _ => rfl, hp⟩ ?_ ?_
  · rintro I oI i t m₁ nx h tk hin hlt ⟨c, rfl, h1, h2, hp'⟩ hoff F₁ N₁
    exact turn I oI i t c m₁ h tk hin hlt hp' hoff (kst_fr h1 h2 F₁) N₁
  · rintro m₁ nx h tk ⟨c, rfl, h1, h2, hp'⟩ F₁ N₁
    exact done c m₁ h tk hp' (kst_frOut h1 h2 F₁) N₁
theorem listS9 {l : Addr} {vs : List Value} {nn : Nat} (c₀ : σ)
    (hh : A.handled = none) (hl : ∀ c, (l, listOf vs.toArray nn) ∈ Led c) (F : Fr h₀ env.locals s.heap m₀) (N : News h₀ env.locals s.heap (Led c₀)) (hk : ∀ p ∈ ps c₀, m₀ p.1 = some p.2) (hp : P 0 c₀)
    (turn : ∀ I oI i v (c : σ) (u : Str → Option Value) h tk, vs[i]? = some v → (∀ p ∈ Led c₀, p.1 < I) → P i c → (∀ p ∈ Led c, p.1 ≠ I) → Fr h₀ env.locals h (fun y => if y = x then some v else kstB (fun z => if stored.contains z then u z else m₀ z) (ps c) y) → News h₀ env.locals h ((I, oI) :: Led c) →
      wpAny (model prog w) A (execs body env) (Turn9 h₀ env.locals I oI (KJ9 Led ps x stored m₀ P (i + 1)) s Q) E { s with heap := h, toks := tk })
    (done : ∀ (c : σ) (u : Str → Option Value) h tk, P vs.length c → Fr h₀ env.locals h (fun y => if y = x then u y else kstB (fun z => if stored.contains z then u z else m₀ z) (ps c) y) → News h₀ env.locals h (Led c) → Q .next { s with heap := h, toks := tk }) :
    wpAny (model prog w) A (pyIter (.ref l)) (fun it s₂ => LoopAtV prog w A h₀ env x body Q E it s₂) E s := by
  refine list9 (KJ9 Led ps x stored m₀ P) hh (hl c₀) (fun i m nx ⟨c, e, _⟩ => e ▸ hl c) F N ⟨c₀, rfl, hk, fun _ _ _ _ => rfl, hp⟩ ?_ ?_
  · rintro I oI i v m₁ nx h tk hin hlt ⟨c, rfl, h1, h2, hp'⟩ hoff F₁ N₁
    exact turn I oI i v c m₁ h tk hin hlt hp' hoff (kst_fr h1 h2 F₁) N₁
  · rintro m₁ nx h tk ⟨c, rfl, h1, h2, hp'⟩ F₁ N₁
    exact done c m₁ h tk hp' (kst_frOut h1 h2 F₁) N₁
end
theorem Turn9.ret {h₀ : Heap} {L I : Addr} {oI : Obj} {J : (Str → Option Value) → List (Addr × Obj) → Prop} {s s₂ : Shared} {Q : Flow → Shared → Prop} {v : Value} (h : Q (.ret v) s₂) : Turn9 h₀ L I oI J s Q (.ret v) s₂ := h
section
open StrLaws Builtin Builtin.Str
/-- the codes of a text -/
abbrev cpl (x : Str) : List Nat := x.cps.toList
theorem cpl_length (x : Str) : (cpl x).length = x.length := by simp [cpl, Str.length]
theorem cpl_append (x y : Str) : cpl (x ++ y) = cpl x ++ cpl y := by show (x.cps ++ y.cps).toList = _; simp
theorem cpl_ext {x y : Str} (h : cpl x = cpl y) : x = y := by
  cases x; cases y; simp only [cpl] at h; rw [Array.toList_inj.mp h]
abbrev dots9 : Str := Str.ofString "..."
theorem cpl_dots : cpl dots9 = [46, 46, 46] := by decide +kernel
theorem len_dots : dots9.length = 3 := by decide +kernel
theorem at_dots (x : Str) (n k : Nat) : At x dots9 n k ↔ k + 3 ≤ n ∧ ((cpl x).drop k).take 3 = [46, 46, 46] := by
  unfold At
  rw [subAt_eq, len_dots, beq_iff_eq]
  have := cpl_dots
  unfold cpl at this
  rw [this]
noncomputable def joinL : List (List Nat) → List Nat
  | [] => []
  | [p] => p
  | p :: q :: r => p ++ 46 :: 46 :: 46 :: joinL (q :: r)
theorem joinL_join : ∀ ps : List Str, cpl (Str.join dots9 ps) = joinL (ps.map cpl)
  | [] => rfl
  | [p] => rfl
  | p :: q :: r => by
    show cpl (p ++ dots9 ++ Str.join dots9 (q :: r)) = _
    rw [cpl_append, cpl_append, cpl_dots, joinL_join (q :: r)]
    simp [joinL]
theorem noDots_in {p t : List Nat} (h : 46 ∉ p) {j : Nat} (hj : j < p.length) : ((p ++ t).drop j).take 3 ≠ [46, 46, 46] := by
  intro e
  have h1 : (p ++ t)[j]? = some 46 := by
    have := congrArg (fun l => l[0]?) e
    simpa [List.getElem?_take, List.getElem?_drop] using this
  rw [List.getElem?_append_left hj] at h1
  exact h (List.mem_of_getElem? h1)
theorem parts_join (x : Str) : ∀ (ps : List Str) (a f : Nat) (cuts : List Nat), ps ≠ [] → (∀ p ∈ ps, 46 ∉ cpl p) → a ≤ x.length → (cpl x).drop a = joinL (ps.map cpl) →
    ChainG x dots9 x.length a cuts f → (∀ k, f ≤ k → ¬ At x dots9 x.length k) → partsFrom x dots9.length a cuts = ps
  | [], _, _, _, h, _, _, _, _, _ => absurd rfl h
  | [p], a, f, cuts, _, hp, ha, hx, hc, hn => by
    have hp' := hp p List.mem_cons_self
    have hx' : (cpl x).drop a = cpl p := hx
    have hl : x.length - a = p.length := by
      have := congrArg List.length hx'
      rw [List.length_drop, cpl_length, cpl_length] at this; exact this
    cases cuts with
    | nil =>
      show [strSub x a x.length] = [p]
      congr 1
      refine cpl_ext ?_
      show (strSub x a x.length).cps.toList = _
      rw [strSub_toList]
      show ((cpl x).drop a).take (x.length - a) = _
      rw [hx', hl, ← cpl_length p, List.take_length]
    | cons c r =>
      exfalso
      obtain ⟨h1, h2, _, _⟩ := hc
      rw [at_dots] at h2
      obtain ⟨h3, h4⟩ := h2
      have h5 : (cpl x).drop c = (cpl p).drop (c - a) := by rw [← hx', List.drop_drop]; congr 1; clear ha hx hp' hx' hl h3 h4; omega
      rw [h5] at h4
      have := noDots_in (t := []) hp' (j := c - a) (by rw [cpl_length]; clear hx hp' hx' h4 h5; omega)
      rw [List.append_nil] at this
      exact this h4
  | p :: q :: r, a, f, cuts, _, hp, ha, hx, hc, hn => by
    have hp' := hp p List.mem_cons_self
    have hx' : (cpl x).drop a = cpl p ++ 46 :: 46 :: 46 :: joinL ((q :: r).map cpl) := hx
    have hlen : x.length - a = p.length + (3 + (joinL ((q :: r).map cpl)).length) := by
      have := congrArg List.length hx'
      rw [List.length_drop, cpl_length, List.length_append, cpl_length] at this
      simp only [List.length_cons] at this
      clear ha hx hp' hx'; omega
    have hdrop : ∀ k, a ≤ k → (cpl x).drop k = (cpl p ++ 46 :: 46 :: 46 :: joinL ((q :: r).map cpl)).drop (k - a) := fun k hk => by
      rw [← hx', List.drop_drop]; congr 1; clear ha hx hp' hx' hlen; omega
    have hAt : At x dots9 x.length (a + p.length) := by
      rw [at_dots]
      refine ⟨by clear hx hp' hx'; omega, ?_⟩
      rw [hdrop _ (by clear ha hx hp' hx' hlen; omega), show a + p.length - a = (cpl p).length by rw [cpl_length]; clear ha hx hp' hx' hlen; omega, List.drop_left]
      rfl
    have hno : ∀ k, a ≤ k → k < a + p.length → ¬ At x dots9 x.length k := fun k h1 h2 h3 => by
      rw [at_dots, hdrop k h1] at h3
      exact noDots_in hp' (by rw [cpl_length]; clear ha hx hp' hx' hlen h3; omega) h3.2
    cases cuts with
    | nil =>
      have e : f = a := hc
      exact absurd hAt (hn _ (by clear ha hx hp' hx' hlen; omega))
    | cons c rest =>
      obtain ⟨h1, h2, h3, h4⟩ := hc
      have ec : c = a + p.length := by
        rcases Nat.lt_trichotomy c (a + p.length) with h | h | h
        · exact absurd h2 (hno c h1 h)
        · exact h
        · exact absurd hAt (h3 _ (by clear ha hx hp' hx' hlen h1 h; omega) h)
      subst ec
      show strSub x a (a + p.length) :: partsFrom x dots9.length (a + p.length + dots9.length) rest = p :: q :: r
      rw [parts_join x (q :: r) _ f rest (by simp) (fun p hp'' => hp p (List.mem_cons_of_mem _ hp'')) (by rw [len_dots]; clear hx hp' hx' h1; omega) ?_ h4 hn]
      · congr 1
        refine cpl_ext ?_
        show (strSub x a (a + p.length)).cps.toList = _
        rw [strSub_toList]
        show ((cpl x).drop a).take (a + p.length - a) = _
        rw [hx', show a + p.length - a = (cpl p).length by rw [cpl_length]; clear ha hx hp' hx' hlen h1; omega, List.take_left]
      · rw [hdrop _ (by clear ha hx hp' hx' hlen h1; omega), len_dots, show a + p.length + 3 - a = (cpl p).length + 3 by rw [cpl_length]; clear ha hx hp' hx' hlen h1; omega, ← List.drop_drop, List.drop_left]
        rfl
theorem kind_dots (x : Str) : ¬ (Builtin.Str.strKind x < Builtin.Str.strKind dots9) := by
  have : Builtin.Str.strKind dots9 = 1 := by decide +kernel
  rw [this]
  unfold Builtin.Str.strKind
  split
  · clear this; omega
  · split <;> (clear this; omega)
theorem split_dots (ps : List Str) (h2 : 2 ≤ ps.length) (hp : ∀ p ∈ ps, 46 ∉ cpl p) :
    Txt.split (Str.join dots9 ps) dots9 = ps ∧ (occurrences (Str.join dots9 ps) dots9 0 (Str.join dots9 ps).length 1).isEmpty = false := by
  obtain ⟨f, hc, hn⟩ := occ_tight (Str.join dots9 ps) dots9 (by rw [len_dots]; clear h2; omega)
  have hparts := parts_join (Str.join dots9 ps) ps 0 f _ (by intro e; rw [e] at h2; simp at h2) hp (Nat.zero_le _) (by rw [List.drop_zero]; exact joinL_join ps) hc hn
  have hAt : ∃ i, i + dots9.length ≤ (Str.join dots9 ps).length ∧ subAt (Str.join dots9 ps) dots9 i = true := by
    match ps, h2 with
    | p :: q :: r, _ =>
      refine ⟨p.length, ?_⟩
      show At _ _ _ _
      rw [at_dots, joinL_join]
      show p.length + 3 ≤ (Str.join dots9 (p :: q :: r)).length ∧ ((cpl p ++ 46 :: 46 :: 46 :: joinL ((q :: r).map cpl)).drop p.length).take 3 = _
      constructor
      · rw [← cpl_length (Str.join _ _), joinL_join]
        show p.length + 3 ≤ (cpl p ++ 46 :: 46 :: 46 :: joinL ((q :: r).map cpl)).length
        rw [List.length_append, cpl_length]; simp only [List.length_cons]; clear h2 hparts; omega
      · rw [← cpl_length p, List.drop_left]; rfl
  have hone : (occurrences (Str.join dots9 ps) dots9 0 (Str.join dots9 ps).length 1).isEmpty = false := by
    have := (found_iff (Str.join dots9 ps) dots9).mpr hAt
    simpa using this
  refine ⟨?_, hone⟩
  unfold Txt.split
  obtain ⟨i, hi, hs⟩ := hAt
  rw [if_neg (by simp only [Bool.or_eq_true, decide_eq_true_eq, not_or]; exact ⟨by clear h2 hparts hone hs; omega, kind_dots _⟩)]
  rw [if_neg, partsBetween_eq]
  · exact hparts
  · intro he
    rw [List.isEmpty_iff] at he
    rw [he] at hc
    have e : f = 0 := hc
    exact hn i (by clear h2 hparts hone hi hs he; omega) ⟨hi, hs⟩

theorem occ1_stuck (s sub : Str) (hi k : Nat) : ∀ (l : List Nat) (f : Nat), (forIn l ((#[k] : Array Nat), f) (occBody s sub hi 1)).run.fst = #[k]
  | [], _ => rfl
  | a :: l, f => by
    rw [List.forIn_cons]
    unfold occBody
    rw [if_neg (by rintro ⟨⟨⟨h, _⟩, _⟩, _⟩; exact absurd h (by simp))]
    exact occ1_stuck s sub hi k l f
theorem occ1_run (s sub : Str) (hi : Nat) : ∀ (m cur f : Nat), f ≤ cur → (forIn (List.range' cur m) ((#[] : Array Nat), f) (occBody s sub hi 1)).run.fst.toList = ((List.range' cur m).find? fun i => decide (i + sub.length ≤ hi) && subAt s sub i).toList
  | 0, _, _, _ => rfl
  | m + 1, cur, f, hf => by
    rw [List.range'_succ, List.forIn_cons, List.find?_cons]
    unfold occBody
    by_cases hc : cur + sub.length ≤ hi ∧ subAt s sub cur = true
    · rw [if_pos ⟨⟨⟨by simp, hf⟩, hc.1⟩, hc.2⟩]
      rw [show (decide (cur + sub.length ≤ hi) && subAt s sub cur) = true by rw [decide_eq_true hc.1, hc.2]; rfl]
      show (forIn (List.range' (cur + 1) m) ((#[cur] : Array Nat), cur + sub.length) (occBody s sub hi 1)).run.fst.toList = _
      rw [occ1_stuck]; rfl
    · rw [if_neg (by rintro ⟨⟨_, h1⟩, h2⟩; exact hc ⟨h1, h2⟩)]
      rw [show (decide (cur + sub.length ≤ hi) && subAt s sub cur) = false by
        rw [Bool.and_eq_false_iff]
        by_cases h1 : cur + sub.length ≤ hi
        · exact .inr (by simpa using fun h2 => hc ⟨h1, h2⟩)
        · exact .inl (decide_eq_false h1)]
      exact occ1_run s sub hi m (cur + 1) f (by clear hc; omega)
/-- the first place from lo on at which sub stands within hi -/
noncomputable def first9 (s sub : List Nat) (lo hi : Nat) : Option Nat := (List.range' lo (hi + 1 - lo)).find? fun i => decide (i + sub.length ≤ hi) && ((s.drop i).take sub.length == sub)
theorem occ1 (s sub : Str) (lo hi : Nat) : occurrences s sub lo hi 1 = (first9 (cpl s) (cpl sub) lo hi).toList := by
  rw [occ_eq, occ1_run s sub hi _ lo lo (Nat.le_refl _)]
  unfold first9
  congr 1
  congr 1
  funext i
  rw [subAt_eq, cpl_length]
noncomputable def posOr (o : Option Nat) : Int := match o with | some k => (k : Int) | none => -1
theorem gives_find4 (x y : Str) (a b : Nat) (hb : b ≤ x.length) (t u v v2 : Tok) : Gives (Builtin.«str.find» ⟨[.str x t, .str y u, .int (a : Int) v, .int (b : Int) v2], []⟩) (.int (posOr (first9 (cpl x) (cpl y) a b))) := by
  have e : (match occurrences x y a b 1 with | k :: _ => (k : Int) | [] => -1) = posOr (first9 (cpl x) (cpl y) a b) := by
    rw [occ1]; cases first9 (cpl x) (cpl y) a b <;> rfl
  rw [← e]
  show Gives (match occurrences x y (max 0 (if (a : Int) < 0 then (a : Int) + x.length else (a : Int))).toNat (min (max 0 (if (b : Int) < 0 then (b : Int) + x.length else (b : Int))).toNat x.length) 1 with | k :: _ => retInt k | [] => (do rule "str.find.not-found"; retInt (-1))) _
  have ea : (max 0 (if (a : Int) < 0 then (a : Int) + x.length else (a : Int))).toNat = a := by rw [if_neg (by clear hb e; omega)]; clear hb e; omega
  have eb : (min (max 0 (if (b : Int) < 0 then (b : Int) + x.length else (b : Int))).toNat x.length) = b := by rw [if_neg (by clear hb e ea; omega)]; clear e ea; omega
  rw [ea, eb]
  cases occurrences x y a b 1 with
  | nil => exact .rule (.of_eq rfl)
  | cons k _ => exact .of_eq rfl
theorem find4 {prog : Program} {w : World} {A : Around} {E : Value → Shared → Prop} {s : Shared} {x y : Str} {a b : Nat} {t u v v2 : Tok} {Q : Value → Shared → Prop} (hb : b ≤ x.length) (hq : Q (.int (posOr (first9 (cpl x) (cpl y) a b)) s.toks) { s with toks := s.toks + 1 }) :
    wpAny (model prog w) A (call (.builtin "str.find") [.str x t, .str y u, .int (a : Int) v, .int (b : Int) v2]) Q E s :=
  call_gives F.slot_str_find (typeIs_str _ _ _) F.entry_str_find (F.args_str_find_4 _ _ _ _) (gives_find4 x y a b hb t u v v2) hq
end
/-- what the search for the parts one behind the other gives -/
noncomputable def ellGo (g : List Nat) (e : Nat) : List (List Nat) → Nat → Bool
  | [], _ => true
  | w :: r, sp => match first9 g w sp e with
    | none => false
    | some k => ellGo g e r (k + w.length)
theorem ellGo_none {g : List Nat} {e : Nat} {ys : List Str} {i sp : Nat} {y : Str} (hy : ys[i]? = some y) (h : first9 g (cpl y) sp e = none) : ellGo g e ((ys.drop i).map cpl) sp = false := by
  have hi := (List.getElem?_eq_some_iff.mp hy).1
  rw [List.drop_eq_getElem_cons hi, List.map_cons, (List.getElem?_eq_some_iff.mp hy).2]
  show (match first9 g (cpl y) sp e with | none => false | some k => ellGo g e _ (k + (cpl y).length)) = false
  rw [h]
theorem ellGo_some {g : List Nat} {e : Nat} {ys : List Str} {i sp k : Nat} {y : Str} (hy : ys[i]? = some y) (h : first9 g (cpl y) sp e = some k) : ellGo g e ((ys.drop i).map cpl) sp = ellGo g e ((ys.drop (i + 1)).map cpl) (k + y.length) := by
  have hi := (List.getElem?_eq_some_iff.mp hy).1
  rw [List.drop_eq_getElem_cons hi, List.map_cons, (List.getElem?_eq_some_iff.mp hy).2]
  show (match first9 g (cpl y) sp e with | none => false | some k => ellGo g e _ (k + (cpl y).length)) = _
  rw [h, cpl_length]
theorem first9_nil (g : List Nat) (sp e : Nat) (h : sp ≤ e) : first9 g [] sp e = some sp := by
  unfold first9
  rw [show e + 1 - sp = (e - sp) + 1 by omega, List.range'_succ, List.find?_cons]
  simp [h]
theorem startswith_len {g q : Str} (h : Txt.startswith g q = true) : q.length ≤ g.length := by
  unfold Txt.startswith at h
  simp only [Bool.and_eq_true, decide_eq_true_eq] at h
  omega
theorem endswith_len {g q : Str} (h : Txt.endswith g q = true) : q.length ≤ g.length := by
  unfold Txt.endswith at h
  simp only [Bool.and_eq_true, decide_eq_true_eq] at h
  omega
theorem cpl_nil_of_len {q : Str} (h : q.length = 0) : cpl q = [] := List.eq_nil_of_length_eq_zero (by rw [cpl_length]; exact h)
theorem startswith_nil {g q : Str} (h : q.length = 0) : Txt.startswith g q = true := by
  unfold Txt.startswith
  rw [StrLaws.subAt_eq, show q.cps.toList = [] from cpl_nil_of_len h, h]
  simp
theorem endswith_nil {g q : Str} (h : q.length = 0) : Txt.endswith g q = true := by
  unfold Txt.endswith
  rw [StrLaws.subAt_eq, show q.cps.toList = [] from cpl_nil_of_len h, h]
  simp
theorem ellGo_nils (g : List Nat) (e : Nat) : ∀ (ws : List (List Nat)) (sp : Nat), (∀ w ∈ ws, w = []) → sp ≤ e → ellGo g e ws sp = true
  | [], _, _, _ => rfl
  | w :: r, sp, h, hs => by
    have hw := h w List.mem_cons_self
    subst hw
    unfold ellGo
    rw [first9_nil g sp e hs]
    exact ellGo_nils g e r sp (fun w hw => h w (List.mem_cons_of_mem _ hw)) hs
theorem ends_nil {vs : List Value} {mid : List Str} (h : StrsAre vs (⟨#[]⟩ :: (mid ++ [⟨#[]⟩]))) : vs.length = mid.length + 2 ∧ (∃ t, vs[0]? = some (.str ⟨#[]⟩ t)) ∧ ∃ t, vs[mid.length + 1]? = some (.str ⟨#[]⟩ t) := by
  have hl := h.len_eq
  simp only [List.length_cons, List.length_append, List.length_nil] at hl
  refine ⟨by omega, ?_, ?_⟩
  · have h0 : 0 < vs.length := by omega
    obtain ⟨y, t, e, hy⟩ := h.item _ _ (List.getElem?_eq_getElem h0)
    simp at hy
    exact ⟨t, by rw [List.getElem?_eq_getElem h0, e, hy]⟩
  · have h0 : mid.length + 1 < vs.length := by omega
    obtain ⟨y, t, e, hy⟩ := h.item _ _ (List.getElem?_eq_getElem h0)
    simp at hy
    exact ⟨t, by rw [List.getElem?_eq_getElem h0, e, hy]⟩
theorem join_em1 (x : Str) : x ++ dots9 = Str.join dots9 [x, ⟨#[]⟩] := by
  refine cpl_ext ?_
  rw [joinL_join, cpl_append, cpl_dots]
  rfl
theorem join_em2 (x : Str) : dots9 ++ x = Str.join dots9 [⟨#[]⟩, x] := by
  refine cpl_ext ?_
  rw [joinL_join, cpl_append, cpl_dots]
  rfl
theorem em1_facts {x : Str} (hx : 46 ∉ cpl x) : (Builtin.Str.occurrences (x ++ dots9) dots9 0 (x ++ dots9).length 1).isEmpty = false ∧ Txt.split (x ++ dots9) dots9 = [x, ⟨#[]⟩] := by
  rw [join_em1]
  have h := split_dots [x, ⟨#[]⟩] (by simp) (by intro p hp; simp at hp; rcases hp with rfl | rfl; exact hx; simp [cpl])
  exact ⟨h.2, h.1⟩
theorem em2_facts {x : Str} (hx : 46 ∉ cpl x) : (Builtin.Str.occurrences (dots9 ++ x) dots9 0 (dots9 ++ x).length 1).isEmpty = false ∧ Txt.split (dots9 ++ x) dots9 = [⟨#[]⟩, x] := by
  rw [join_em2]
  have h := split_dots [⟨#[]⟩, x] (by simp) (by intro p hp; simp at hp; rcases hp with rfl | rfl; simp [cpl]; exact hx)
  exact ⟨h.2, h.1⟩
theorem cpl_to {x : Str} {j : Int} (h0 : 0 ≤ j) (h1 : j ≤ x.length) : cpl (Txt.slice x none (some j)) = (cpl x).take j.toNat := by
  have h := slice_closes_to (x := x) (j := j) ⟨h0, by rw [show x.cps.toList = cpl x from rfl, cpl_length]; exact h1⟩
  rw [beq_iff_eq] at h
  rw [h]
  simp [cpl]
theorem cpl_from {x : Str} {i : Int} (h0 : 0 ≤ i) : cpl (Txt.slice x (some i) none) = (cpl x).drop i.toNat := by
  by_cases h : i ≤ x.length
  · rw [slice_from_eq h0 h rfl]
    show (((cpl x).drop i.toNat).take _).toArray.toList = _
    rw [List.toList_toArray]
    exact List.take_of_length_le (by rw [List.length_drop, cpl_length]; omega)
  · rw [slice_beyond (by clear h0; omega), List.drop_eq_nil_of_le (by rw [cpl_length]; omega)]
    rfl
theorem cpl_mid {x : Str} {i j : Int} (h0 : 0 ≤ i) (h1 : i ≤ j) (h2 : j ≤ x.length) : cpl (Txt.slice x (some i) (some j)) = ((cpl x).drop i.toNat).take (j - i).toNat := by
  have h := slice_closes (x := x) (i := i) (j := j) ⟨h0, h1, by rw [show x.cps.toList = cpl x from rfl, cpl_length]; exact h2⟩
  rw [beq_iff_eq] at h
  rw [h]
theorem not_mem_take {l : List Nat} {c n : Nat} (h : c ∉ l) : c ∉ l.take n := fun hm => h (List.mem_of_mem_take hm)
theorem not_mem_drop {l : List Nat} {c n : Nat} (h : c ∉ l) : c ∉ l.drop n := fun hm => h (List.mem_of_mem_drop hm)
theorem startswith_eq (g q : Str) : Txt.startswith g q = (cpl q).isPrefixOf (cpl g) := by
  unfold Txt.startswith
  rw [StrLaws.subAt_eq, List.drop_zero, Nat.zero_add, Bool.eq_iff_iff, Bool.and_eq_true, decide_eq_true_eq, beq_iff_eq, List.isPrefixOf_iff_prefix]
  show q.length ≤ g.length ∧ (cpl g).take q.length = cpl q ↔ cpl q <+: cpl g
  rw [List.prefix_iff_eq_take, cpl_length]
  constructor
  · rintro ⟨_, h⟩; exact h.symm
  · intro h
    refine ⟨?_, h.symm⟩
    have := congrArg List.length h
    rw [List.length_take, cpl_length, cpl_length] at this
    clear h; omega
theorem endswith_eq (g q : Str) : Txt.endswith g q = (cpl q).isSuffixOf (cpl g) := by
  unfold Txt.endswith
  rw [StrLaws.subAt_eq, Nat.zero_add, Bool.eq_iff_iff, Bool.and_eq_true, decide_eq_true_eq, beq_iff_eq, List.isSuffixOf_iff_suffix]
  show q.length ≤ g.length ∧ ((cpl g).drop (g.length - q.length)).take q.length = cpl q ↔ cpl q <:+ cpl g
  constructor
  · rintro ⟨h1, h⟩
    rw [List.take_of_length_le (by rw [List.length_drop, cpl_length]; clear h; omega)] at h
    rw [← h]
    exact List.drop_suffix _ _
  · intro h
    have hl := h.length_le
    rw [cpl_length, cpl_length] at hl
    refine ⟨hl, ?_⟩
    rw [List.take_of_length_le (by rw [List.length_drop, cpl_length]; omega)]
    obtain ⟨t, ht⟩ := h
    have hlen := congrArg List.length ht
    rw [List.length_append, cpl_length, cpl_length] at hlen
    rw [← ht, show g.length - q.length = t.length by clear ht; omega, List.drop_left]
theorem join9 {prog : Program} {w : World} {A : Around} {E : Value → Shared → Prop} {s : Shared} {sep : Str} {t : Tok} {a : Addr} {vs : List Value} {ys : List Str} {Q : Value → Shared → Prop} (hl : s.heap.IsList a vs.toArray) (hs : StrsAre vs ys)
    (hz : (ys.map (·.length)).sum + ys.length * sep.length ≤ 10000) (h : ∀ t' k, Q (.str (Str.join sep ys) t') { s with toks := k }) : wpAny (model prog w) A (call (.builtin "str.join") [.str sep t, .ref a]) Q E s := by
  obtain ⟨l, rfl, rfl⟩ := strsAre_values hs
  have hok : Builtin.Str.tooLong ((l.map (·.1)).toArray.foldl (fun x p => x + p.length + sep.length) 0) = false := by
    rw [StrLaws.joinTotal]
    unfold Builtin.Str.tooLong
    rw [sizeLine_eq]
    simp only [decide_eq_false_iff_not]
    omega
  refine call_meets F.slot_str_join (typeIs_str _ _ _) F.entry_str_join (F.args_str_join_2 _ _) (meets_str_join_list sep t a l hok) ⟨hl, post_join l ⟨joinFit_length hok, fun t' k => ?_⟩⟩
  show Q (.str (Builtin.Str.glued sep (l.map (·.1))) t') _
  rw [StrLaws.glued_eq_join]
  exact h t' k
theorem strsAre_rep (y : Str) (t : Tok) : ∀ k : Nat, StrsAre (List.replicate k [Value.str y t]).flatten (List.replicate k y)
  | 0 => .nil
  | k + 1 => by
    rw [List.replicate_succ, List.replicate_succ]
    exact .cons y t (strsAre_rep y t k)
section
variable {prog : Program} {w : World} {A : Around} {E : Value → Shared → Prop} {s : Shared} {env : Env} {h₀ : Heap} {x : Str} {body : List Stmt} {Q : Flow → Shared → Prop}
  {σ : Type} {m₀ : Str → Option Value} (Led : σ → List (Addr × Obj)) (ps : σ → List (Str × Value)) (stored : List Str) (P : Nat → σ → Prop)
/-- a loop over a list of texts -/
theorem strS9 {l : Addr} {vs : List Value} {ys : List Str} {nn : Nat} (c₀ : σ)
    (hh : A.handled = none) (hl : ∀ c, (l, listOf vs.toArray nn) ∈ Led c) (F : Fr h₀ env.locals s.heap m₀) (N : News h₀ env.locals s.heap (Led c₀)) (hk : ∀ p ∈ ps c₀, m₀ p.1 = some p.2) (hp : P 0 c₀)
    (hys : StrsAre vs ys)
    (turn : ∀ I oI i yy ty (c : σ) (u : Str → Option Value) h tk, ys[i]? = some yy → (∀ p ∈ Led c₀, p.1 < I) → P i c → (∀ p ∈ Led c, p.1 ≠ I) → Fr h₀ env.locals h (fun y => if y = x then some (.str yy ty) else kstB (fun z => if stored.contains z then u z else m₀ z) (ps c) y) → News h₀ env.locals h ((I, oI) :: Led c) →
      wpAny (model prog w) A (execs body env) (Turn9 h₀ env.locals I oI (KJ9 Led ps x stored m₀ P (i + 1)) s Q) E { s with heap := h, toks := tk })
    (done : ∀ (c : σ) (u : Str → Option Value) h tk, P vs.length c → Fr h₀ env.locals h (fun y => if y = x then u y else kstB (fun z => if stored.contains z then u z else m₀ z) (ps c) y) → News h₀ env.locals h (Led c) → Q .next { s with heap := h, toks := tk }) :
    wpAny (model prog w) A (pyIter (.ref l)) (fun it s₂ => LoopAtV prog w A h₀ env x body Q E it s₂) E s := by
  refine listS9 (x := x) Led ps stored P c₀ hh hl F N hk hp ?_ done
  intro I oI i v c u h tk hv
  obtain ⟨y, ty, rfl, hy⟩ := hys.item _ _ hv
  exact turn I oI i y ty c u h tk hy
end
section
variable {prog : Program} {w : World} {A : Around} {E : Value → Shared → Prop} {s : Shared} {env : Env} {h₀ : Heap}
/-- enumerate(l) is laid at I + 1, behind the list's iterator at I; nothing of it is drawn yet -/
noncomputable def EnumAt9 (h₀ : Heap) (L l : Addr) (m₀ : Str → Option Value) (news : List (Addr × Obj)) (s : Shared) (xv : Value) (s₁ : Shared) : Prop :=
  ∃ (I : Addr) (g : Heap) (tk : Nat), xv = .ref (I + 1) ∧ s₁ = { s with heap := g, toks := tk } ∧ IsEnum g (I + 1) I 0 .none ∧ g.IsListIter I l 0 ∧ @LT.lt Nat _ L I ∧ (∀ p ∈ news, @LT.lt Nat _ p.1 I) ∧ Fr h₀ L g m₀ ∧ News h₀ L g news
theorem enumAt9 {L l : Addr} {m₀ : Str → Option Value} {news : List (Addr × Obj)} {items : Array Value} {nn : Nat} (F : Fr h₀ L s.heap m₀) (N : News h₀ L s.heap news) (hl : (l, listOf items nn) ∈ news) :
    wpAny (model prog w) A (call (.type "enumerate") [.ref l]) (EnumAt9 h₀ L l m₀ news s) E s :=
  call_enumerate_list (items := items) ⟨_, (N _ hl).1, rfl, nn, rfl⟩ fun g he hi _ hk => ⟨s.heap.objs.size, g, s.toks, rfl, rfl, he, hi, F.ns.lt, fun _ hp => Heap.lt_size (N _ hp).1, F.keeps hk, N.grown hk⟩
/-- two names laid one over the other, put before any frame that parts from m₀ in them alone -/
theorem two9 {xi xv : Str} {a b : Value} {u m₀ : Str → Option Value} (hu : ∀ y, y ≠ xi → y ≠ xv → u y = m₀ y) :
    (fun y => if y = xv then some b else if y = xi then some a else u y) = fun y => if y = xv then some b else if y = xi then some a else m₀ y :=
  funext fun y => if h1 : y = xv then by simp only [if_pos h1] else if h2 : y = xi then by simp only [if_neg h1, if_pos h2] else by simp only [if_neg h1, if_neg h2, hu y h2 h1]
/-- `for xi, xv in enumerate(l)` that is always left by its body, so that what stands in its else-part is never reached: P holds ahead of each turn and not behind the last item -/
theorem forEnum9 {Q : Flow → Shared → Prop} {xi xv : Str} {pi pv pt pos : Pos} {x1 : Nat} {iter : Expr} {body orelse : List Stmt} {l : Addr} {items : Array Value} {nn : Nat} {m₀ : Str → Option Value} {news : List (Addr × Obj)} (P : Nat → Prop)
    (_F : Fr h₀ env.locals s.heap m₀) (_N : News h₀ env.locals s.heap news) (hh : A.handled = none) (hxi : env.kindOf xi = some .local) (hxv : env.kindOf xv = some .local)
    (hp : (env.scope.kind == .class || (env.scope.kind == .module && env.locals != env.globals)) = false) (hl : (l, listOf items nn) ∈ news)
    (hev : wpAny (model prog w) A (eval iter env) (EnumAt9 h₀ env.locals l m₀ news s) E s) (h0 : P 0)
    (turn : ∀ i v t g tk, items[i]? = some v → P i → Fr h₀ env.locals g (fun y => if y = xv then some v else if y = xi then some (.int (i : Nat) t) else m₀ y) → News h₀ env.locals g news →
      wpAny (model prog w) A (execs body env) (fun f s₂ => match f with
        | .ret v => Q (.ret v) s₂
        | .brk => Q .next s₂
        | _ => P (i + 1) ∧ s₂ = { s with heap := g, toks := s₂.toks }) E { s with heap := g, toks := tk })
    (hend : ∀ i, P i → i < items.size)
    (hs : ∀ x, foldedSetIterable iter env x = pure x := by intro _; rfl)
    (hE : PassesOwn (model prog w) A env E := by passes_own) :
    wpAny (model prog w) A (exec (.For (.Tuple [.Name xi pi, .Name xv pv] x1 pt) iter body orelse pos) env) Q E s := by
  refine wpAny_For (wpAny_mono hev ?_ fun _ _ x => x) hs
  rintro _ _ ⟨I, g, tk, rfl, rfl, he, hi, aL, low, F, N⟩
  refine wpAny_pyIter_enum he ?_
  have W := KTurns.ofWalksU (elts := [.Name xi pi, .Name xv pv]) (k := x1) (pos := pt) (WalksT.enumerate (prog := prog) (w := w) hh (I + 1) I l (Nat.succ_ne_self I) (Nat.ne_of_lt (Nat.lt_succ_of_lt (low _ hl))) (Nat.ne_of_lt (low _ hl)) items).toU
  have apart : ∀ b : Nat, b < I → b ∉ [I + 1, I] := fun b hb hm => by
    simp only [List.mem_cons, List.not_mem_nil, or_false] at hm
    omega
  have offL : ∀ b ∈ [I + 1, I, l], b ≠ env.locals := fun b hb e => by
    simp only [List.mem_cons, List.not_mem_nil, or_false] at hb
    rcases hb with rfl | rfl | rfl
    · exact Nat.lt_asymm aL (e ▸ Nat.lt_succ_self I)
    · exact Nat.ne_of_gt aL e
    · exact (N _ hl).2.1 e
  refine codeAny_forLoop_any (fun left s' => ∃ (i : Nat) (g : Heap) (tk : Nat) (u : Str → Option Value), s' = { s with heap := g, toks := tk } ∧ i + left = items.size ∧ P i ∧
    (((∃ old, IsEnum g (I + 1) I i old) ∧ g.IsListIter I l i ∧ g.IsList l items) ∧ Fr h₀ env.locals g u ∧ News h₀ env.locals g news ∧ ∀ y, y ≠ xi → y ≠ xv → u y = m₀ y)) ?_ items.size
    ⟨0, g, tk, m₀, rfl, Nat.zero_add _, h0, ⟨⟨_, he⟩, hi, _, (N _ hl).1, rfl, nn, rfl⟩, F, N, fun _ _ _ => rfl⟩
  clear he hi F N g tk
  rintro left _ ⟨i, g, tk, u, rfl, hsum, hP, st, F, N, hu⟩
  have hlt := hend i hP
  refine W.item i _ _ _ hlt st fun v g₁ tk₁ md k₁ => W.go i v _ _ _ md ?_
  rintro g₂ ⟨T, _, rfl, ⟨t, v, hv, rfl⟩, hT⟩ st₂ k₂
  have up : ∀ b o, @LT.lt Nat _ b I → g.get? b = some o → g₂.get? b = some o := fun b o hb e => k₂ b o (apart b hb) (k₁ b o (apart b hb) e)
  have F₂ : Fr h₀ env.locals g₂ u := ⟨F.ns.at' fun o => up _ o aL, fun b o e => up b o (Nat.lt_trans (Nat.lt_of_lt_of_le (Heap.lt_size e) F.above) aL) (F.keep b o e), F.above⟩
  refine kcp_assign hh hT hxi hxv hp F₂.ns fun g₃ tk₃ ns₃ k₃ => ?_
  have F₃ : Fr h₀ env.locals g₃ _ := ⟨ns₃, fun b o e => k₃ b o (Nat.ne_of_lt (Nat.lt_of_lt_of_le (Heap.lt_size e) F.above)) (F₂.keep b o e), F.above⟩
  have N₃ : News h₀ env.locals g₃ news := fun p hp => ⟨k₃ _ _ (N p hp).2.1 (up _ _ (low p hp) (N p hp).1), (N p hp).2⟩
  rw [two9 hu] at F₃
  refine wpAny_mono (wpAny_passesOwn hE (turn i v t g₃ tk₃ hv hP F₃ N₃)) (fun f s₃ q => ?_) fun _ _ x => x
  have more (q : P (i + 1) ∧ s₃ = { s with heap := g₃, toks := s₃.toks }) : ∃ m, m < left ∧ ∃ (i : Nat) (g : Heap) (tk : Nat) (u : Str → Option Value), s₃ = { s with heap := g, toks := tk } ∧ i + m = items.size ∧ P i ∧
      (((∃ old, IsEnum g (I + 1) I i old) ∧ g.IsListIter I l i ∧ g.IsList l items) ∧ Fr h₀ env.locals g u ∧ News h₀ env.locals g news ∧ ∀ y, y ≠ xi → y ≠ xv → u y = m₀ y) :=
    ⟨left - 1, by omega, i + 1, g₃, _, _, q.2, by omega, q.1, W.frame (i + 1) g₂ g₃ st₂ fun b hb o => k₃ b o (offL b hb), F₃, N₃, fun y h1 h2 => by simp only [if_neg h1, if_neg h2]⟩
  cases f with
  | ret v => exact q
  | brk => exact q
  | next => exact more q
  | cont => exact more q
end
theorem room9 {dp d R : Nat} (h : d ≤ 20) (hd : dp + 20 < R) : dp + d < R := Nat.lt_of_le_of_lt (Nat.add_le_add_left h dp) hd
theorem units9 {un d R : Nat} (h : 20 * d ≤ 500) (hu : un + 500 < R) : un + 20 * d < R := Nat.lt_of_le_of_lt (Nat.add_le_add_left h un) hu
theorem filt9 (p : Int → Bool) : ∀ (ks l : List Int), ks.foldl (fun l k => if p k then l ++ [k] else l) l = l ++ ks.filter p
  | [], l => by simp
  | k :: ks, l => by
    rw [List.foldl_cons, filt9 p ks]
    cases h : p k <;> simp [h]
theorem mem_slice {x : Str} {l u : Option Int} {c : Nat} (h : c ∉ cpl x) : c ∉ cpl (Txt.slice x l u) := by
  intro hm
  unfold Txt.slice at hm
  split at hm
  · exact h hm
  · simp only [cpl] at hm
    obtain ⟨i, _, hi⟩ := List.mem_filterMap.mp hm
    exact h (Array.mem_toList_iff.mpr (Array.mem_of_getElem? hi))
theorem cpl_midE {x : Str} {i j : Int} (h0 : 0 ≤ j) (h1 : j ≤ i) (h2 : j ≤ x.length) : cpl (Txt.slice x (some i) (some j)) = [] := by
  have e : Builtin.Str.strSliceIndices (some i) (some j) 1 x.length = [] := by
    have a1 : ¬ i < 0 := by omega
    have a2 : ¬ j < 0 := by omega
    simp [Builtin.Str.strSliceIndices, sliceRange, a1, a2]
    omega
  unfold Txt.slice
  rw [e]
  split
  · rename_i h
    refine List.eq_nil_of_length_eq_zero ?_
    rw [cpl_length]
    simp at h
    omega
  · rfl
theorem cpl_mid' {x : Str} {i j : Int} (h0 : 0 ≤ i) (h1 : 0 ≤ j) (h2 : j ≤ x.length) : cpl (Txt.slice x (some i) (some j)) = ((cpl x).drop i.toNat).take (j - i).toNat := by
  by_cases h : i ≤ j
  · exact cpl_mid h0 h h2
  · rw [cpl_midE h1 (by omega) h2, show (j - i).toNat = 0 by omega, List.take_zero]
theorem head9 {P : Prop} {h₀ h : Heap} {L x : Addr} {o : Obj} {nx : List (Addr × Obj)} (_N : News h₀ L h ((x, o) :: nx)) (k : ∀ x', x' = x → P) : P := k x rfl
section
variable {prog : Program} {w : World} {A : Around} {h₀ : Heap} {L : Addr} {m : Str → Option Value} {env : Env} {elt : Expr} {x : Str} {scope : Scope} {cl : List (Str × Addr)} {s : Shared} {S : List (Addr × Obj) → Prop} {P : Nat → Value → Prop} {Fin : List Value → List (Addr × Obj) → Prop} {news : List (Addr × Obj)}
/-- a comprehension without a test whose i-th element is f i -/
theorem comp9 {n : Nat} (f : Nat → Value)
    (turn : ∀ i v I oI C oC D m₂ ys h tk (E' : Value → Shared → Prop), i < n → P i v → LCg.NsObj oC m₂ → m₂ x = some v → Fr h₀ L h m → News h₀ L h ((I, oI) :: (C, oC) :: (D, LCg.lst ys) :: news) → LCg.Off3 I C D news → ((@Ne Nat I C) ∧ (@Ne Nat I D) ∧ (@Ne Nat C D)) →
      wpAny (model prog w) A (eval elt (compEnvC scope cl C env)) (LCg.CompEnd h₀ L m { s with heap := h, toks := tk } I oI C oC D (LCg.lst ys) S (fun y news' => news' = news ∧ y = f i)) E' { s with heap := h, toks := tk })
    (fin : Fin ((List.range n).map f) news) : LCg.CompRest prog w A h₀ L m env elt x scope cl s S P Fin n 0 [] news :=
  let rec from9 : (left i : Nat) → i + left = n → LCg.CompRest prog w A h₀ L m env elt x scope cl s S P Fin left i ((List.range i).map f) news
    | 0, i, e => .zero (by rw [show i = n from e]; exact fin)
    | left + 1, i, e => .succ fun v I oI C oC D m₂ g tk E' hv hC hx F N off ne =>
      wpAny_mono (turn i v I oI C oC D m₂ _ g tk E' (by omega) hv hC hx F N off ne) (fun y s₂ q => by
        have next := from9 left (i + 1) (by omega)
        rw [List.range_succ, List.map_append] at next
        rcases q with ⟨g', tk', _, q1, q2, q3, q4, q5, rfl, rfl⟩
        exact ⟨g', tk', _, q1, q2, q3, q4, q5, next⟩) fun _ _ x => x
  from9 n 0 (Nat.zero_add n)
end
/-- the comparisons answered by lt -/
noncomputable def runT {α : Type} (lt : Nat → Nat → Bool) : KasT α → α
  | .ret a => a
  | .ask i j k => runT lt (k (lt i j))
noncomputable def okT {α : Type} (n : Nat) : KasT α → Bool
  | .ret _ => true
  | .ask i j k => decide (i < n) && decide (j < n) && okT n (k true) && okT n (k false)
theorem wp_runT {α : Type} {cmp : Nat → Nat → (Bool → Shared → Prop) → Shared → Prop} {lt : Nat → Nat → Bool} {n : Nat} {Q : α → Shared → Prop} {s : Shared}
    (hc : ∀ i j (C : Bool → Shared → Prop), i < n → j < n → C (lt i j) s → cmp i j C s) : ∀ (t : KasT α), okT n t = true → Q (runT lt t) s → t.kasWp cmp Q s
  | .ret _, _, h => h
  | .ask i j k, ho, h => by
    simp only [okT, Bool.and_eq_true, decide_eq_true_eq] at ho
    obtain ⟨⟨⟨h1, h2⟩, h3⟩, h4⟩ := ho
    refine hc i j _ h1 h2 (wp_runT hc (k (lt i j)) ?_ h)
    cases lt i j
    · exact h4
    · exact h3
theorem okT_sort : ∀ n, 2 ≤ n → n ≤ 6 → okT n (kas_sort n) = true := by
  intro n h1 h2
  have h : n = 2 ∨ n = 3 ∨ n = 4 ∨ n = 5 ∨ n = 6 := by omega
  rcases h with rfl | rfl | rfl | rfl | rfl <;> decide +kernel
section
variable {prog : Program} {w : World} {A : Around} {E : Value → Shared → Prop} {s : Shared}
/-- what is drawn of v lies in a new list at the heap's end, when `+=` of v to the empty list there tells it -/
theorem collect9 {Q : List Value → Shared → Prop} {v : Value}
    (h : codeAny (model prog w) A (.builtin "list.__iadd__" ⟨[.ref s.heap.objs.size, v], []⟩)
      (fun q s' => q = .ok (.ret (.ref s.heap.objs.size)) ∧ ∃ xs k, s'.heap.get? s.heap.objs.size = some (listOf xs k) ∧ Q xs.toList s') { s with heap := s.heap.push (listOf #[] 0) }) :
    wpAny (model prog w) A (collect v) Q E s := by
  refine wpAny_bind (wpAny_runValue (codeAny_builtin entry_proto_collect' ?_))
  rw [Around.under_plainId PySem.F.plain_proto_collect _]
  refine wpAny_bind (wpAny_newObj_type (wpAny_pure ⟨plainId_quiet PySem.F.plain_list_iadd _, codeAny_mono h ?_⟩))
  rintro _ s' ⟨rfl, xs, k, ho, hq⟩
  exact wpAny_bind (wpAny_load ho (wpAny_pure hq))
theorem collect_range9 {Q : List Value → Shared → Prop} {r : Addr} {a b c : Int} {t u v : Tok} {n : Nat} (hh : A.handled = none) (hr : IsRange s.heap r a b c t u v) (hsmall : Builtin.Range.small a b c = true)
    (hn : Builtin.Range.rangeSize a b c = n) (hlen : n ≤ 2 ^ 24)
    (hQ : ∀ h' tk acc', (∀ b o, s.heap.get? b = some o → h'.get? b = some o) → ItemsOf (fun i v => ∃ t, v = .int (a + i * c) t) acc' n → Q acc'.toList { s with heap := h', toks := tk }) :
    wpAny (model prog w) A (collect (.ref r)) Q E s := by
  refine collect9 (codeAny_builtin entry_list_iadd' ?_)
  rw [Around.under_plainId PySem.F.plain_list_iadd _]
  exact wpAny_extend_range (s := { s with heap := s.heap.push (listOf #[] 0) })
    (R := fun q s' => q = .ok (.ret (.ref s.heap.objs.size)) ∧ ∃ xs k, s'.heap.get? s.heap.objs.size = some (listOf xs k) ∧ Q xs.toList s') hh (Heap.get?_push_of_some _ hr) hsmall hn hlen _ (.ref s.heap.objs.size) 0 (Heap.get?_push_size _ rfl)
    fun g tk xs k old at9 is9 => ⟨rfl, xs, k, at9, hQ g tk xs (fun b o e => old b o (Nat.ne_of_lt (Heap.lt_size e)) (Heap.get?_push_of_some _ e)) is9⟩
end
local macro_rules | `(tactic| is_list) => `(tactic| exact News.isList (by assumption) (by assumption))
local macro_rules | `(tactic| k_room) => `(tactic| ktr_room)
local macro_rules | `(tactic| k_all) => `(tactic| with_reducible assumption)
local macro_rules | `(tactic| k_mem) => `(tactic| first | with_reducible assumption | with_reducible exact List.mem_cons_self | (with_reducible refine List.mem_cons_of_mem _ ?_; k_mem) | (with_reducible refine List.mem_append_right _ ?_; k_mem))
local macro_rules | `(tactic| walk_at $s:str) => `(tactic| (k_here; k_dflt (k_extra $s)))
theorem fill9_claim : (fun w : World => (_root_.Mine.hd.heap_39 w.params, PySem.Challenge.rw_sw0040_01)) = fun w : World => (_root_.Mine.hd.heap_39 w.params, PySem.Challenge.rw_sw0040_01) := by k_fill; rfl
abbrev prog9 : Program := PySem.Challenge.rw_sw0040_01.row.prog
/-- what a call gives, in whatever frame of the law's run it stands -/
noncomputable def Spec9 (w : World) (d : Nat) (news : List (Addr × Obj)) (t : Sem Value) (Post : Value → List (Addr × Obj) → Prop) : Prop :=
  ∀ (p : Program) (loose : List Str) (mean : ExcName → Option Value) (mg mb : Str → Option Value) (dp un : Nat) (gd : Option (List Code)) (cn : Str) (cs : Scope) (a : Addr) (ccd : Value) (cl : List (Str × Addr)) (outer : List Env) (A₀ : Around) (base h₀ : Heap) (L : Addr) (m : Str → Option Value) (s : Shared) (Q E : Value → Shared → Prop),
    Below A₀ base outer h₀ → Fr h₀ L s.heap m → (_root_.Mine.hd.heap_39 w.params).In h₀ → News h₀ L s.heap news → Top p loose mean mg mb h₀ → cs.kind = .function → dp + d < recursionLimit → un + 20 * d < cLine →
    (∀ v news' h' tk', Post v news' → Fr h₀ L h' m → News h₀ L h' news' → Q v { s with heap := h', toks := tk' }) →
    wpAny (model prog9 w) (ktrTop dp un gd cn cs L a ccd cl outer) t Q E s
/-- a contract is shown with the caller's scope opened: it is a def's -/
theorem Spec9.of {w : World} {d : Nat} {news : List (Addr × Obj)} {t : Sem Value} {Post : Value → List (Addr × Obj) → Prop}
    (H : ∀ (p : Program) (loose : List Str) (mean : ExcName → Option Value) (mg mb : Str → Option Value) (dp un : Nat) (gd : Option (List Code)) (cn : Str) (nm : List (Str × NameKind)) (gn co : Bool) (mo : List (Str × Const)) (a : Addr) (ccd : Value) (cl : List (Str × Addr)) (outer : List Env) (A₀ : Around) (base h₀ : Heap) (L : Addr) (m : Str → Option Value) (s : Shared) (Q E : Value → Shared → Prop),
      Below A₀ base outer h₀ → Fr h₀ L s.heap m → (_root_.Mine.hd.heap_39 w.params).In h₀ → News h₀ L s.heap news → Top p loose mean mg mb h₀ → dp + d < recursionLimit → un + 20 * d < cLine →
      (∀ v news' h' tk', Post v news' → Fr h₀ L h' m → News h₀ L h' news' → Q v { s with heap := h', toks := tk' }) →
      wpAny (model prog9 w) (ktrTop dp un gd cn ⟨.function, nm, gn, co, mo⟩ L a ccd cl outer) t Q E s) : Spec9 w d news t Post := by
  intro p loose mean mg mb dp un gd cn ⟨_, nm, gn, co, mo⟩ a ccd cl outer A₀ base h₀ L m s Q E B F X N T hk hd hu ret
  cases hk
  exact H p loose mean mg mb dp un gd cn nm gn co mo a ccd cl outer A₀ base h₀ L m s Q E B F X N T hd hu ret
theorem Spec9.use {w : World} {d : Nat} {news : List (Addr × Obj)} {t : Sem Value} {Post : Value → List (Addr × Obj) → Prop} (H : Spec9 w d news t Post)
    {p : Program} {loose : List Str} {mean : ExcName → Option Value} {mg mb : Str → Option Value} {dp un : Nat} {gd : Option (List Code)} {cn : Str} {cs : Scope} {a : Addr} {ccd : Value} {cl : List (Str × Addr)} {outer : List Env} {A₀ : Around} {base h₀ : Heap} {L : Addr} {m : Str → Option Value} {s : Shared} {Q E : Value → Shared → Prop}
    (B : Below A₀ base outer h₀) (F : Fr h₀ L s.heap m) (X : (_root_.Mine.hd.heap_39 w.params).In h₀) (N : News h₀ L s.heap news) (T : Top p loose mean mg mb h₀) (hk : cs.kind = .function) (hd : dp + d < recursionLimit) (hu : un + 20 * d < cLine)
    (ret : ∀ v news' h' tk', Post v news' → Fr h₀ L h' m → News h₀ L h' news' → Q v { s with heap := h', toks := tk' }) :
    wpAny (model prog9 w) (ktrTop dp un gd cn cs L a ccd cl outer) t Q E s := H p loose mean mg mb dp un gd cn cs a ccd cl outer A₀ base h₀ L m s Q E B F X N T hk hd hu ret
/-- a contract used, with the one value that the call gives put in (so no case is made at the place of use) -/
theorem Spec9.useV {w : World} {d : Nat} {news : List (Addr × Obj)} {t : Sem Value} {v₀ : Value} (H : Spec9 w d news t (fun v nw => news = nw ∧ v = v₀))
    {p : Program} {loose : List Str} {mean : ExcName → Option Value} {mg mb : Str → Option Value} {dp un : Nat} {gd : Option (List Code)} {cn : Str} {cs : Scope} {a : Addr} {ccd : Value} {cl : List (Str × Addr)} {outer : List Env} {A₀ : Around} {base h₀ : Heap} {L : Addr} {m : Str → Option Value} {s : Shared} {Q E : Value → Shared → Prop}
    (B : Below A₀ base outer h₀) (F : Fr h₀ L s.heap m) (X : (_root_.Mine.hd.heap_39 w.params).In h₀) (N : News h₀ L s.heap news) (T : Top p loose mean mg mb h₀) (hk : cs.kind = .function) (hd : dp + d < recursionLimit) (hu : un + 20 * d < cLine)
    (ret : ∀ h' tk', Fr h₀ L h' m → News h₀ L h' news → Q v₀ { s with heap := h', toks := tk' }) :
    wpAny (model prog9 w) (ktrTop dp un gd cn cs L a ccd cl outer) t Q E s := H p loose mean mg mb dp un gd cn cs a ccd cl outer A₀ base h₀ L m s Q E B F X N T hk hd hu (fun _ _ h' tk' q F' N' => by obtain ⟨rfl, rfl⟩ := q; exact ret h' tk' F' N')
theorem Spec9.useT {w : World} {d : Nat} {news : List (Addr × Obj)} {t : Sem Value} {g : Tok → Value} (H : Spec9 w d news t (fun v nw => news = nw ∧ ∃ t', v = g t'))
    {p : Program} {loose : List Str} {mean : ExcName → Option Value} {mg mb : Str → Option Value} {dp un : Nat} {gd : Option (List Code)} {cn : Str} {cs : Scope} {a : Addr} {ccd : Value} {cl : List (Str × Addr)} {outer : List Env} {A₀ : Around} {base h₀ : Heap} {L : Addr} {m : Str → Option Value} {s : Shared} {Q E : Value → Shared → Prop}
    (B : Below A₀ base outer h₀) (F : Fr h₀ L s.heap m) (X : (_root_.Mine.hd.heap_39 w.params).In h₀) (N : News h₀ L s.heap news) (T : Top p loose mean mg mb h₀) (hk : cs.kind = .function) (hd : dp + d < recursionLimit) (hu : un + 20 * d < cLine)
    (ret : ∀ t9 h' tk', Fr h₀ L h' m → News h₀ L h' news → Q (g t9) { s with heap := h', toks := tk' }) :
    wpAny (model prog9 w) (ktrTop dp un gd cn cs L a ccd cl outer) t Q E s := H p loose mean mg mb dp un gd cn cs a ccd cl outer A₀ base h₀ L m s Q E B F X N T hk hd hu (fun _ _ h' tk' q F' N' => by obtain ⟨rfl, t9, rfl⟩ := q; exact ret t9 h' tk' F' N')
theorem Spec9.useL {w : World} {d : Nat} {news : List (Addr × Obj)} {t : Sem Value} {g : Tok → Value} {P1 P2 : Array Value → List (Addr × Obj) → Prop} {f : Array Value → List (Addr × Obj) → List (Addr × Obj)} (H : Spec9 w d news t (fun v nw => (∃ t', v = g t') ∧ ∃ c e, P1 c e ∧ P2 c e ∧ nw = f c e))
    {p : Program} {loose : List Str} {mean : ExcName → Option Value} {mg mb : Str → Option Value} {dp un : Nat} {gd : Option (List Code)} {cn : Str} {cs : Scope} {a : Addr} {ccd : Value} {cl : List (Str × Addr)} {outer : List Env} {A₀ : Around} {base h₀ : Heap} {L : Addr} {m : Str → Option Value} {s : Shared} {Q E : Value → Shared → Prop}
    (B : Below A₀ base outer h₀) (F : Fr h₀ L s.heap m) (X : (_root_.Mine.hd.heap_39 w.params).In h₀) (N : News h₀ L s.heap news) (T : Top p loose mean mg mb h₀) (hk : cs.kind = .function) (hd : dp + d < recursionLimit) (hu : un + 20 * d < cLine)
    (ret : ∀ t9 c e h' tk', P1 c e → P2 c e → Fr h₀ L h' m → News h₀ L h' (f c e) → Q (g t9) { s with heap := h', toks := tk' }) :
    wpAny (model prog9 w) (ktrTop dp un gd cn cs L a ccd cl outer) t Q E s := H p loose mean mg mb dp un gd cn cs a ccd cl outer A₀ base h₀ L m s Q E B F X N T hk hd hu (fun _ _ h' tk' q F' N' => by obtain ⟨⟨t9, rfl⟩, c, e, h1, h2, rfl⟩ := q; exact ret t9 c e h' tk' h1 h2 F' N')
theorem Spec9.useI {w : World} {d : Nat} {news : List (Addr × Obj)} {t : Sem Value} {v₀ : Value} {P1 : List Value → Prop} {f : List Value → List (Addr × Obj)} (H : Spec9 w d news t (fun v nw => v = v₀ ∧ ∃ c, P1 c ∧ nw = f c))
    {p : Program} {loose : List Str} {mean : ExcName → Option Value} {mg mb : Str → Option Value} {dp un : Nat} {gd : Option (List Code)} {cn : Str} {cs : Scope} {a : Addr} {ccd : Value} {cl : List (Str × Addr)} {outer : List Env} {A₀ : Around} {base h₀ : Heap} {L : Addr} {m : Str → Option Value} {s : Shared} {Q E : Value → Shared → Prop}
    (B : Below A₀ base outer h₀) (F : Fr h₀ L s.heap m) (X : (_root_.Mine.hd.heap_39 w.params).In h₀) (N : News h₀ L s.heap news) (T : Top p loose mean mg mb h₀) (hk : cs.kind = .function) (hd : dp + d < recursionLimit) (hu : un + 20 * d < cLine)
    (ret : ∀ c h' tk', P1 c → Fr h₀ L h' m → News h₀ L h' (f c) → Q v₀ { s with heap := h', toks := tk' }) :
    wpAny (model prog9 w) (ktrTop dp un gd cn cs L a ccd cl outer) t Q E s := H p loose mean mg mb dp un gd cn cs a ccd cl outer A₀ base h₀ L m s Q E B F X N T hk hd hu (fun _ _ h' tk' q F' N' => by obtain ⟨rfl, c, h1, rfl⟩ := q; exact ret c h' tk' h1 F' N')
noncomputable def bis (P : Nat → Bool) : Nat → Nat → Nat → Nat
  | 0, lo, _ => lo
  | f + 1, lo, hi => if lo < hi then (if P ((lo + hi) / 2) then bis P f ((lo + hi) / 2 + 1) hi else bis P f lo ((lo + hi) / 2)) else lo
theorem fdiv2 (a b : Nat) : ((a : Int) + (b : Int)).fdiv 2 = (((a + b) / 2 : Nat) : Int) := by
  rw [← Int.natCast_add]; exact (Int.ofNat_fdiv (a + b) 2).symm
theorem bis_t {P : Nat → Bool} {n lo hi f r : Nat} (h : lo < hi) (hP : P ((lo + hi) / 2) = true) (b2 : hi ≤ n) (b3 : hi - lo ≤ f) (b4 : bis P f lo hi = r) :
    (lo + hi) / 2 + 1 ≤ hi ∧ hi ≤ n ∧ ∃ f, hi - ((lo + hi) / 2 + 1) ≤ f ∧ bis P f ((lo + hi) / 2 + 1) hi = r := by
  cases f with
  | zero => (clear hP b4; omega)
  | succ f =>
    simp only [bis, if_pos h, hP, if_true] at b4
    exact ⟨by clear hP b2 b3 b4; omega, b2, f, by clear hP b2 b4; omega, b4⟩
theorem bis_f {P : Nat → Bool} {n lo hi f r : Nat} (h : lo < hi) (hP : P ((lo + hi) / 2) = false) (b2 : hi ≤ n) (b3 : hi - lo ≤ f) (b4 : bis P f lo hi = r) :
    lo ≤ (lo + hi) / 2 ∧ (lo + hi) / 2 ≤ n ∧ ∃ f, (lo + hi) / 2 - lo ≤ f ∧ bis P f lo ((lo + hi) / 2) = r := by
  cases f with
  | zero => (clear hP b4; omega)
  | succ f =>
    simp only [bis, if_pos h, hP, Bool.false_eq_true, if_false] at b4
    exact ⟨by clear hP b2 b3 b4; omega, by clear hP b3 b4; omega, f, by clear hP b2 b4; omega, b4⟩
theorem bis_done {P : Nat → Bool} {lo hi f r : Nat} (h : ¬ lo < hi) (b4 : bis P f lo hi = r) : lo = r := by
  cases f with
  | zero => exact b4
  | succ f => simp only [bis, if_neg h] at b4; exact b4
theorem getD_mem9 {ns : List Int} (i : Nat) (h : i < ns.length) : ns.getD i 0 ∈ ns := by
  rw [List.getD_eq_getElem?_getD, List.getElem?_eq_getElem h]; exact List.getElem_mem h
theorem b2i_lt_true {b : Bool} (h : PyProof.Rows.b2i b < PyProof.Rows.b2i true) : b = false := by cases b <;> first | rfl | exact absurd h (by decide)
theorem b2i_nlt_true {b : Bool} (h : ¬ (PyProof.Rows.b2i b < PyProof.Rows.b2i true)) : b = true := by cases b <;> first | rfl | exact absurd (by decide) h
noncomputable def strLt (a b : Str) : Bool := decide (a.cps.toList < b.cps.toList)
theorem not_strLt_f {a b : Str} (h : a.cps.toList < b.cps.toList) : (!strLt a b) = false := by unfold strLt; rw [decide_eq_true h]; rfl
theorem not_strLt_t {a b : Str} (h : ¬ (a.cps.toList < b.cps.toList)) : (!strLt a b) = true := by unfold strLt; rw [decide_eq_false h]; rfl
noncomputable def insAt (ns : List Int) (k : Nat) (x : Int) : List Int := ns.take k ++ x :: ns.drop k
theorem bis_le (P : Nat → Bool) : ∀ (f lo hi : Nat), lo ≤ hi → bis P f lo hi ≤ hi
  | 0, lo, hi, h => h
  | f + 1, lo, hi, h => by
    unfold bis
    split
    · split
      · exact bis_le P f _ _ (by clear h; omega)
      · exact Nat.le_trans (bis_le P f _ _ (by clear h; omega)) (by clear h; omega)
    · exact h
theorem kl_ins_nat {vs : List Value} {ns : List Int} (hi : IntsAre vs ns) {k : Nat} (hk : k ≤ ns.length) (x : Int) (t : Tok) : IntsAre (kl_ins vs (k : Int) (.int x t)) (insAt ns k x) := by
  unfold kl_ins insAt
  have hl := hi.length
  rw [if_neg (by clear hk hl; omega), Int.toNat_natCast, Nat.min_eq_left (by omega)]
  exact (hi.take k).append (.cons x t (hi.drop k))
/-- a part that is shown later -/
noncomputable def Hold9 (P : Prop) : Prop := P
theorem Hold9.out {P : Prop} (h : Hold9 P) : P := h
theorem Hold9.mk {P : Prop} (h : P) : Hold9 P := h
theorem bis_congr {P P' : Nat → Bool} : ∀ (f lo hi n : Nat), hi ≤ n → (∀ i, i < n → P i = P' i) → bis P f lo hi = bis P' f lo hi
  | 0, _, _, _, _, _ => rfl
  | f + 1, lo, hi, n, hn, h => by
    unfold bis
    by_cases hl : lo < hi
    · rw [if_pos hl, if_pos hl, h _ (by omega), bis_congr f _ hi n hn h, bis_congr f lo _ n (by omega) h]
    · rw [if_neg hl, if_neg hl]
/-- the table of a def's inner code: not yet laid, or with the one lambda's code in it -/
noncomputable def TabOk9 (qual : Str) (line col : Nat) (ps : Array Value) (news : List (Addr × Obj)) : Prop :=
  ps = #[] ∨ ∃ c' oc vs t, ps = #[rawInt (line : Int), rawInt (col : Int), .ref c'] ∧ (c', oc) ∈ news ∧ oc.data = .fields vs ∧ vs[1]? = some (.str qual t)
theorem TabOk9.mono {qual : Str} {line col : Nat} {ps : Array Value} {news news' : List (Addr × Obj)} (h : TabOk9 qual line col ps news) (hs : ∀ p ∈ news, p ∈ news') : TabOk9 qual line col ps news' := by
  rcases h with h | ⟨c', oc, vs, t, h1, h2, h3, h4⟩
  · exact .inl h
  · exact .inr ⟨c', oc, vs, t, h1, hs _ h2, h3, h4⟩
/-- from the i-th statement of the law on, with these names and this ledger, the law comes to True -/
noncomputable def At9 (w : World) (i : Nat) (L : Addr) (ps : List (Str × Value)) (led : List (Addr × Obj)) : Prop :=
  ∀ (params : Arguments) (body : List Stmt) (scope : Scope) (dV kV doc pm ct oc : Value) (an od : Option Addr) (osl : Array (Option Value)),
    List.lookup 104 (_root_.Mine.hd.heap_39 w.params) = some ⟨oc, od, .func (fnOf (Str.ofString "law") (Str.ofString "law") params body scope dV kV doc pm an (.ref 103) ct), osl⟩ →
  ∀ (p : Program) (loose : List Str) (mean : ExcName → Option Value) (mg mb : Str → Option Value) (dp un : Nat) (gd : Option (List Code)) (fa : Addr) (outer : List Env) (A₀ : Around) (base h₀ : Heap) (u : Str → Option Value) (s : Shared) (Q : Flow → Shared → Prop) (E : Value → Shared → Prop),
    Below A₀ base outer h₀ → Fr h₀ L s.heap (kstB u ps) → (_root_.Mine.hd.heap_39 w.params).In h₀ → News h₀ L s.heap led → Top p loose mean mg mb h₀ → dp + 20 < recursionLimit → un + 500 < cLine →
    PassesOwn (model prog9 w) (ktrTop dp un gd (Str.ofString "law") scope L fa (.ref 103) (cellsFrom (L + 1) scope.names []) outer) (envOfC (Str.ofString "law") scope L fa (.ref 103)) E →
    (∀ h' tk m' nx a b c, Fr h₀ L h' m' → News h₀ L h' nx → (94, tabObj a) ∈ nx → (87, tabObj b) ∈ nx → (101, tabObj c) ∈ nx → Q (.ret (.bool true)) { s with heap := h', toks := tk }) →
    wpAny (model prog9 w) (ktrTop dp un gd (Str.ofString "law") scope L fa (.ref 103) (cellsFrom (L + 1) scope.names []) outer) (execs (body.drop i) (envOfC (Str.ofString "law") scope L fa (.ref 103))) Q E s
/-- the same, with the law's text put in -/
noncomputable def At9K (w : World) (i : Nat) (L : Addr) (ps : List (Str × Value)) (led : List (Addr × Obj)) : Prop := by
  refine' (fun (params : Arguments) (body : List Stmt) (scope : Scope) (dV kV doc pm ct oc : Value) (an od : Option Addr) (osl : Array (Option Value))
    (_h : List.lookup 104 (_root_.Mine.hd.heap_39 w.params) = some ⟨oc, od, .func (fnOf (Str.ofString "law") (Str.ofString "law") params body scope dV kV doc pm an (.ref 103) ct), osl⟩) =>
    List.lookup 104 (_root_.Mine.hd.heap_39 w.params) = some ⟨oc, od, .func (fnOf (Str.ofString "law") (Str.ofString "law") params body scope dV kV doc pm an (.ref 103) ct), osl⟩ →
  ∀ (p : Program) (loose : List Str) (mean : ExcName → Option Value) (mg mb : Str → Option Value) (dp un : Nat) (gd : Option (List Code)) (fa : Addr) (outer : List Env) (A₀ : Around) (base h₀ : Heap) (u : Str → Option Value) (s : Shared) (Q : Flow → Shared → Prop) (E : Value → Shared → Prop),
    Below A₀ base outer h₀ → Fr h₀ L s.heap (kstB u ps) → (_root_.Mine.hd.heap_39 w.params).In h₀ → News h₀ L s.heap led → Top p loose mean mg mb h₀ → dp + 20 < recursionLimit → un + 500 < cLine →
    PassesOwn (model prog9 w) (ktrTop dp un gd (Str.ofString "law") scope L fa (.ref 103) (cellsFrom (L + 1) scope.names []) outer) (envOfC (Str.ofString "law") scope L fa (.ref 103)) E →
    (∀ h' tk m' nx a b c, Fr h₀ L h' m' → News h₀ L h' nx → (94, tabObj a) ∈ nx → (87, tabObj b) ∈ nx → (101, tabObj c) ∈ nx → Q (.ret (.bool true)) { s with heap := h', toks := tk }) →
    wpAny (model prog9 w) (ktrTop dp un gd (Str.ofString "law") scope L fa (.ref 103) (cellsFrom (L + 1) scope.names []) outer) (execs (body.drop i) (envOfC (Str.ofString "law") scope L fa (.ref 103))) Q E s) _ _ _ _ _ _ _ _ _ _ _ _ ?h9
  case h9 =>
    have e9 := (show List.lookup 104 (_root_.Mine.hd.heap_39 w.params) = some _ by k_is)
    exact e9
theorem At9.mk {w : World} {i : Nat} {L : Addr} {ps : List (Str × Value)} {led : List (Addr × Obj)} (h : At9K w i L ps led) : At9 w i L ps led := by
  intro params body scope dV kV doc pm ct oc an od osl hK
  have hK' := hK
  rw [show List.lookup 104 (_root_.Mine.hd.heap_39 w.params) = some _ by k_is] at hK
  cases hK
  exact h hK'
theorem At9.use {w : World} {i : Nat} {L : Addr} {ps : List (Str × Value)} {led : List (Addr × Obj)} (H : At9 w i L ps led)
    {params : Arguments} {body : List Stmt} {scope : Scope} {dV kV doc pm ct oc : Value} {an od : Option Addr} {osl : Array (Option Value)}
    (hK : List.lookup 104 (_root_.Mine.hd.heap_39 w.params) = some ⟨oc, od, .func (fnOf (Str.ofString "law") (Str.ofString "law") params body scope dV kV doc pm an (.ref 103) ct), osl⟩)
    {p : Program} {loose : List Str} {mean : ExcName → Option Value} {mg mb : Str → Option Value} {dp un : Nat} {gd : Option (List Code)} {fa : Addr} {outer : List Env} {A₀ : Around} {base h₀ : Heap} {m : Str → Option Value} {s : Shared} {Q : Flow → Shared → Prop} {E : Value → Shared → Prop} {nx : List (Addr × Obj)}
    (B : Below A₀ base outer h₀) (F : Fr h₀ L s.heap m) (X : (_root_.Mine.hd.heap_39 w.params).In h₀) (N : News h₀ L s.heap nx) (T : Top p loose mean mg mb h₀) (hd : dp + 20 < recursionLimit) (hu : un + 500 < cLine)
    (hE : PassesOwn (model prog9 w) (ktrTop dp un gd (Str.ofString "law") scope L fa (.ref 103) (cellsFrom (L + 1) scope.names []) outer) (envOfC (Str.ofString "law") scope L fa (.ref 103)) E)
    (hfin : ∀ h' tk m' nx a b c, Fr h₀ L h' m' → News h₀ L h' nx → (94, tabObj a) ∈ nx → (87, tabObj b) ∈ nx → (101, tabObj c) ∈ nx → Q (.ret (.bool true)) { s with heap := h', toks := tk })
    (hps : ∀ p ∈ ps, m p.1 = some p.2) (hled : ∀ p ∈ led, p ∈ nx) :
    wpAny (model prog9 w) (ktrTop dp un gd (Str.ofString "law") scope L fa (.ref 103) (cellsFrom (L + 1) scope.names []) outer) (execs (body.drop i) (envOfC (Str.ofString "law") scope L fa (.ref 103))) Q E s := by
  have e : kstB m ps = m := by
    funext y
    exact kstB_eq hps fun _ => rfl
  exact H params body scope dV kV doc pm ct oc an od osl hK p loose mean mg mb dp un gd fa outer A₀ base h₀ m s Q E B (by rw [e]; exact F) X (fun p hp => N p (hled p hp)) T hd hu hE hfin
theorem bl_c (w : World) (news : List (Addr × Obj)) (l : Addr) (vs : List Value) (ns : List Int) (n : Nat) (x : Int) (tx : Tok) (hm : (l, listOf vs.toArray n) ∈ news) (hi : IntsAre vs ns) (hlen : ns.length < 100) :
    Spec9 w 1 news (call (.ref 50) [.ref l, .int x tx]) (fun v nw => news = nw ∧ ∃ t, v = .int (bis (fun i => decide (ns.getD i 0 < x)) ns.length 0 ns.length) t) := by
  refine Spec9.of ?_
  k_with_none
  intro p loose mean mg mb dp un gd cn nm gn co mo a ccd cl outer A₀ base h₀ L m s Q E B F X N T hd hu hret
  refine wpAny_call ?_
  w_strict (k_dflt k_enter)
  generalize hW : Stmt.While _ _ _ _ = W
  k_steps

  subst hW
  rename Fr _ _ _ _ => F2
  rename News _ _ _ _ => N2
  with_unfolding_all refine' ksw_while (σ := (Nat × Nat) × (Tok × Tok)) (fun _ => news) (fun c => [("lo", .int (c.1.1 : Int) c.2.1), ("hi", .int (c.1.2 : Int) c.2.2)]) (fun _ => True) ["mid"] (fun c => c.1.1 ≤ c.1.2 ∧ c.1.2 ≤ ns.length ∧ ∃ f, c.1.2 - c.1.1 ≤ f ∧ bis (fun i => decide (ns.getD i 0 < x)) f c.1.1 c.1.2 = bis (fun i => decide (ns.getD i 0 < x)) ns.length 0 ns.length) (fun c => c.1.2 - c.1.1) ((0, ns.length), (_, _)) F2 N2 trivial ?hk ?hp ?turn
  case hk =>
    kst_all
  case hp => exact ⟨Nat.zero_le _, Nat.le_refl _, ns.length, Nat.le_refl _, rfl⟩
  case turn =>
    clear F2 N2
    refine pr22 ?_
    intro lo hi tl th u9 h9 tk9 hb0 hb F9 N9
    dsimp only [kstB] at hb F9
    have b1 := hb.1
    have b2 := hb.2.1
    obtain ⟨f, hf⟩ := hb.2.2
    have b3 := hf.1
    have b4 := hf.2
    clear hb0 hf hb
    k_steps
    · rename Fr _ _ _ _ => F3
      rename News _ _ _ _ => N3
      rename _ < x => hlt
      have hlh : lo < hi := by omega
      rw [fdiv2] at hlt F3
      rw [Int.toNat_natCast] at hlt
      refine' ksw_end (((lo + hi) / 2 + 1, hi), (_, _)) F3 N3 (fun p hp => hp) trivial ?hk ?hr ?hp ?hm
      case hk =>
        kst_all
      case hr => ksw_same
      case hp => exact bis_t hlh (by simpa using hlt) b2 b3 b4
      case hm => ksw_less
    · rename Fr _ _ _ _ => F3
      rename News _ _ _ _ => N3
      rename ¬ (_ < x) => hlt
      have hlh : lo < hi := by omega
      rw [fdiv2] at hlt F3
      rw [Int.toNat_natCast] at hlt
      refine' ksw_end ((lo, (lo + hi) / 2), (_, _)) F3 N3 (fun p hp => hp) trivial ?hk ?hr ?hp ?hm
      case hk =>
        kst_all
      case hr => ksw_same
      case hp => exact bis_f hlh (by simpa using hlt) b2 b3 b4
      case hm => ksw_less
    · have e := bis_done (by omega) b4
      exact hret _ _ _ _ ⟨rfl, tl, by rw [← e]⟩ (by assumption) (by assumption)
theorem blb_c (w : World) (d : Nat) (news : List (Addr × Obj)) (l lam : Addr) (vs : List Value) (ns : List Int) (n : Nat) (kf : Int → Bool) {oc : Value} {od : Option Addr} {fd : FuncData} {sl : Array (Option Value)}
    (hm : (l, listOf vs.toArray n) ∈ news) (hlam : (lam, (⟨oc, od, .func fd, sl⟩ : Obj)) ∈ news) (hi : IntsAre vs ns) (hlen : ns.length < 100)
    (hkey : ∀ i ∈ ns, ∀ t, Spec9 w d news (call (.ref lam) [.int i t]) (fun v nw => news = nw ∧ v = .bool (kf i))) :
    Spec9 w (d + 1) news (call (.ref 50) [.ref l, .bool true] [("key", .ref lam)]) (fun v nw => news = nw ∧ ∃ t, v = .int (bis (fun i => !kf (ns.getD i 0)) ns.length 0 ns.length) t) := by
  refine Spec9.of ?_
  k_with_none
  k_with "callWith ref" => (first | (refine' callWith_F (by exact FnAt.of (by k_asm) (by k_mem)) ?_; k_whole) | (refine' callWith_F0 (by exact FnAt.of (by k_asm) (by k_mem)) ?_; k_whole; try dsimp only [List.nil_append, List.cons_append]))
  intro p loose mean mg mb dp un gd cn nm gn co mo a ccd cl outer A₀ base h₀ L m s Q E B F X N T hd hu hret
  refine wpAny_call ?_
  w_strict (k_dflt k_enter)
  generalize hW : Stmt.While _ _ _ _ = W
  generalize hW2 : Stmt.While _ _ _ _ = W2
  k_steps
  subst hW2
  rename Fr _ _ _ _ => F2
  rename News _ _ _ _ => N2
  with_unfolding_all refine' ksw_while (σ := (Nat × Nat) × (Tok × Tok)) (fun _ => news) (fun c => [("lo", .int (c.1.1 : Int) c.2.1), ("hi", .int (c.1.2 : Int) c.2.2)]) (fun _ => True) ["mid"] (fun c => c.1.1 ≤ c.1.2 ∧ c.1.2 ≤ ns.length ∧ ∃ f, c.1.2 - c.1.1 ≤ f ∧ bis (fun i => !kf (ns.getD i 0)) f c.1.1 c.1.2 = bis (fun i => !kf (ns.getD i 0)) ns.length 0 ns.length) (fun c => c.1.2 - c.1.1) ((0, ns.length), (_, _)) F2 N2 trivial ?hk ?hp ?turn
  case hk => kst_all
  case hp => exact ⟨Nat.zero_le _, Nat.le_refl _, ns.length, Nat.le_refl _, rfl⟩
  case turn =>
    clear F2 N2
    refine pr22 ?_
    intro lo hi tl th u9 h9 tk9 hb0 hb F9 N9
    dsimp only [kstB] at hb F9
    have b1 := hb.1
    have b2 := hb.2.1
    obtain ⟨f, hf⟩ := hb.2.2
    have b3 := hf.1
    have b4 := hf.2
    clear hb0 hf hb
    k_with "call ref" => (refine' Spec9.useV (hkey _ ?mem _) ?B ?F ?X ?N ?T ?hk ?hd ?hu ?_; (case B => k_asm); (case F => k_asm); (case X => k_asm); (case N => k_asm); (case T => k_asm); (case hk => exact rfl); (case hd => ktr_room); (case hu => ktr_units); (case mem => exact getD_mem9 _ (by first | omega | (rw [fdiv2, Int.toNat_natCast]; omega))); intro h9 tk9 F9 N9; (try k_fold))
    k_steps
    · rename Fr _ _ _ _ => F3
      rename News _ _ _ _ => N3
      rename PyProof.Rows.b2i _ < _ => hlt
      have hlh : lo < hi := by omega
      rw [fdiv2] at hlt F3
      rw [Int.toNat_natCast] at hlt
      refine' ksw_end (((lo + hi) / 2 + 1, hi), (_, _)) F3 N3 (fun p hp => hp) trivial ?hk ?hr ?hp ?hm
      case hk => kst_all
      case hr => ksw_same
      case hp => exact bis_t hlh (by rw [b2i_lt_true hlt]; rfl) b2 b3 b4
      case hm => ksw_less
    · rename Fr _ _ _ _ => F3
      rename News _ _ _ _ => N3
      rename ¬ (PyProof.Rows.b2i _ < _) => hlt
      have hlh : lo < hi := by omega
      rw [fdiv2] at hlt F3
      rw [Int.toNat_natCast] at hlt
      refine' ksw_end ((lo, (lo + hi) / 2), (_, _)) F3 N3 (fun p hp => hp) trivial ?hk ?hr ?hp ?hm
      case hk => kst_all
      case hr => ksw_same
      case hp => exact bis_f hlh (by rw [b2i_nlt_true hlt]; rfl) b2 b3 b4
      case hm => ksw_less
    · have e := bis_done (by omega) b4
      exact hret _ _ _ _ ⟨rfl, tl, by rw [← e]⟩ (by assumption) (by assumption)
theorem bls_c (w : World) (d : Nat) (news : List (Addr × Obj)) (l lam : Addr) (vs : List Value) (ns : List Int) (n : Nat) (kf : Int → Str) (x : Str) (tx t0 : Tok) {oc : Value} {od : Option Addr} {fd : FuncData} {sl : Array (Option Value)}
    (hm : (l, listOf vs.toArray n) ∈ news) (hlam : (lam, (⟨oc, od, .func fd, sl⟩ : Obj)) ∈ news) (hi : IntsAre vs ns) (hlen : ns.length < 100)
    (hkey : ∀ i ∈ ns, ∀ t, Spec9 w d news (call (.ref lam) [.int i t]) (fun v nw => news = nw ∧ ∃ t', v = .str (kf i) t')) :
    Spec9 w (d + 1) news (call (.ref 50) [.ref l, .str x tx, .int 0 t0, .none] [("key", .ref lam)]) (fun v nw => news = nw ∧ ∃ t, v = .int (bis (fun i => strLt (kf (ns.getD i 0)) x) ns.length 0 ns.length) t) := by
  refine Spec9.of ?_
  k_with_none
  k_with "callWith ref" => (first | (refine' callWith_F (by exact FnAt.of (by k_asm) (by k_mem)) ?_; k_whole) | (refine' callWith_F0 (by exact FnAt.of (by k_asm) (by k_mem)) ?_; k_whole; try dsimp only [List.nil_append, List.cons_append]))
  intro p loose mean mg mb dp un gd cn nm gn co mo a ccd cl outer A₀ base h₀ L m s Q E B F X N T hd hu hret
  refine wpAny_call ?_
  w_strict (k_dflt k_enter)
  generalize hW : Stmt.While _ _ _ _ = W
  generalize hW2 : Stmt.While _ _ _ _ = W2
  k_steps
  subst hW2
  rename Fr _ _ _ _ => F2
  rename News _ _ _ _ => N2
  with_unfolding_all refine' ksw_while (σ := (Nat × Nat) × (Tok × Tok)) (fun _ => news) (fun c => [("lo", .int (c.1.1 : Int) c.2.1), ("hi", .int (c.1.2 : Int) c.2.2)]) (fun _ => True) ["mid"] (fun c => c.1.1 ≤ c.1.2 ∧ c.1.2 ≤ ns.length ∧ ∃ f, c.1.2 - c.1.1 ≤ f ∧ bis (fun i => strLt (kf (ns.getD i 0)) x) f c.1.1 c.1.2 = bis (fun i => strLt (kf (ns.getD i 0)) x) ns.length 0 ns.length) (fun c => c.1.2 - c.1.1) ((0, ns.length), (_, _)) F2 N2 trivial ?hk ?hp ?turn
  case hk => kst_all
  case hp => exact ⟨Nat.zero_le _, Nat.le_refl _, ns.length, Nat.le_refl _, rfl⟩
  case turn =>
    clear F2 N2
    refine pr22 ?_
    intro lo hi tl th u9 h9 tk9 hb0 hb F9 N9
    dsimp only [kstB] at hb F9
    have b1 := hb.1
    have b2 := hb.2.1
    obtain ⟨f, hf⟩ := hb.2.2
    have b3 := hf.1
    have b4 := hf.2
    clear hb0 hf hb
    k_with "call ref" => (refine' Spec9.useT (hkey _ ?mem _) ?B ?F ?X ?N ?T ?hk ?hd ?hu ?_; (case B => k_asm); (case F => k_asm); (case X => k_asm); (case N => k_asm); (case T => k_asm); (case hk => exact rfl); (case hd => ktr_room); (case hu => ktr_units); (case mem => exact getD_mem9 _ (by first | omega | (rw [fdiv2, Int.toNat_natCast]; omega))); intro t9 h9 tk9 F9 N9; (try k_fold))
    k_steps
    · rename Fr _ _ _ _ => F3
      rename News _ _ _ _ => N3
      rename _ < x.cps.toList => hlt
      have hlh : lo < hi := by omega
      rw [fdiv2] at hlt F3
      rw [Int.toNat_natCast] at hlt
      refine' ksw_end (((lo + hi) / 2 + 1, hi), (_, _)) F3 N3 (fun p hp => hp) trivial ?hk ?hr ?hp ?hm
      case hk => kst_all
      case hr => ksw_same
      case hp => exact bis_t hlh (decide_eq_true hlt) b2 b3 b4
      case hm => ksw_less
    · rename Fr _ _ _ _ => F3
      rename News _ _ _ _ => N3
      rename ¬ (_ < x.cps.toList) => hlt
      have hlh : lo < hi := by omega
      rw [fdiv2] at hlt F3
      rw [Int.toNat_natCast] at hlt
      refine' ksw_end ((lo, (lo + hi) / 2), (_, _)) F3 N3 (fun p hp => hp) trivial ?hk ?hr ?hp ?hm
      case hk => kst_all
      case hr => ksw_same
      case hp => exact bis_f hlh (decide_eq_false hlt) b2 b3 b4
      case hm => ksw_less
    · have e := bis_done (by omega) b4
      exact hret _ _ _ _ ⟨rfl, tl, by rw [← e]⟩ (by assumption) (by assumption)
theorem brs_c (w : World) (d : Nat) (news : List (Addr × Obj)) (l lam : Addr) (vs : List Value) (ns : List Int) (n : Nat) (kf : Int → Str) (x : Str) (tx t0 : Tok) {oc : Value} {od : Option Addr} {fd : FuncData} {sl : Array (Option Value)}
    (hm : (l, listOf vs.toArray n) ∈ news) (hlam : (lam, (⟨oc, od, .func fd, sl⟩ : Obj)) ∈ news) (hi : IntsAre vs ns) (hlen : ns.length < 100)
    (hkey : ∀ i ∈ ns, ∀ t, Spec9 w d news (call (.ref lam) [.int i t]) (fun v nw => news = nw ∧ ∃ t', v = .str (kf i) t')) :
    Spec9 w (d + 1) news (call (.ref 32) [.ref l, .str x tx, .int 0 t0, .none] [("key", .ref lam)]) (fun v nw => news = nw ∧ ∃ t, v = .int (bis (fun i => !strLt x (kf (ns.getD i 0))) ns.length 0 ns.length) t) := by
  refine Spec9.of ?_
  k_with_none
  k_with "callWith ref" => (first | (refine' callWith_F (by exact FnAt.of (by k_asm) (by k_mem)) ?_; k_whole) | (refine' callWith_F0 (by exact FnAt.of (by k_asm) (by k_mem)) ?_; k_whole; try dsimp only [List.nil_append, List.cons_append]))
  intro p loose mean mg mb dp un gd cn nm gn co mo a ccd cl outer A₀ base h₀ L m s Q E B F X N T hd hu hret
  refine wpAny_call ?_
  w_strict (k_dflt k_enter)
  generalize hW : Stmt.While _ _ _ _ = W
  generalize hW2 : Stmt.While _ _ _ _ = W2
  k_steps
  subst hW2
  rename Fr _ _ _ _ => F2
  rename News _ _ _ _ => N2
  with_unfolding_all refine' ksw_while (σ := (Nat × Nat) × (Tok × Tok)) (fun _ => news) (fun c => [("lo", .int (c.1.1 : Int) c.2.1), ("hi", .int (c.1.2 : Int) c.2.2)]) (fun _ => True) ["mid"] (fun c => c.1.1 ≤ c.1.2 ∧ c.1.2 ≤ ns.length ∧ ∃ f, c.1.2 - c.1.1 ≤ f ∧ bis (fun i => !strLt x (kf (ns.getD i 0))) f c.1.1 c.1.2 = bis (fun i => !strLt x (kf (ns.getD i 0))) ns.length 0 ns.length) (fun c => c.1.2 - c.1.1) ((0, ns.length), (_, _)) F2 N2 trivial ?hk ?hp ?turn
  case hk => kst_all
  case hp => exact ⟨Nat.zero_le _, Nat.le_refl _, ns.length, Nat.le_refl _, rfl⟩
  case turn =>
    clear F2 N2
    refine pr22 ?_
    intro lo hi tl th u9 h9 tk9 hb0 hb F9 N9
    dsimp only [kstB] at hb F9
    have b1 := hb.1
    have b2 := hb.2.1
    obtain ⟨f, hf⟩ := hb.2.2
    have b3 := hf.1
    have b4 := hf.2
    clear hb0 hf hb
    k_with "call ref" => (refine' Spec9.useT (hkey _ ?mem _) ?B ?F ?X ?N ?T ?hk ?hd ?hu ?_; (case B => k_asm); (case F => k_asm); (case X => k_asm); (case N => k_asm); (case T => k_asm); (case hk => exact rfl); (case hd => ktr_room); (case hu => ktr_units); (case mem => exact getD_mem9 _ (by first | omega | (rw [fdiv2, Int.toNat_natCast]; omega))); intro t9 h9 tk9 F9 N9; (try k_fold))
    k_steps
    · rename Fr _ _ _ _ => F3
      rename News _ _ _ _ => N3
      rename x.cps.toList < _ => hlt
      have hlh : lo < hi := by omega
      rw [fdiv2] at hlt F3
      rw [Int.toNat_natCast] at hlt
      refine' ksw_end ((lo, (lo + hi) / 2), (_, _)) F3 N3 (fun p hp => hp) trivial ?hk ?hr ?hp ?hm
      case hk => kst_all
      case hr => ksw_same
      case hp => exact bis_f hlh (not_strLt_f hlt) b2 b3 b4
      case hm => ksw_less
    · rename Fr _ _ _ _ => F3
      rename News _ _ _ _ => N3
      rename ¬ (x.cps.toList < _) => hlt
      have hlh : lo < hi := by omega
      rw [fdiv2] at hlt F3
      rw [Int.toNat_natCast] at hlt
      refine' ksw_end (((lo + hi) / 2 + 1, hi), (_, _)) F3 N3 (fun p hp => hp) trivial ?hk ?hr ?hp ?hm
      case hk => kst_all
      case hr => ksw_same
      case hp => exact bis_t hlh (not_strLt_t hlt) b2 b3 b4
      case hm => ksw_less
    · have e := bis_done (by omega) b4
      exact hret _ _ _ _ ⟨rfl, tl, by rw [← e]⟩ (by assumption) (by assumption)
theorem add_c (w : World) (d : Nat) (news : List (Addr × Obj)) (x y : Int) (tx ty : Tok) : Spec9 w (d + 1) news (call (.ref 71) [.int x tx, .int y ty]) (fun v nw => news = nw ∧ ∃ t, v = .int (x + y) t) := by
  refine Spec9.of ?_
  k_with_none
  intro p loose mean mg mb dp un gd cn nm gn co mo a ccd cl outer A₀ base h₀ L m s Q E B F X N T hd hu hret
  refine wpAny_call ?_
  w_strict (k_dflt k_enter)
  k_steps
  exact hret _ _ _ _ ⟨rfl, _, rfl⟩ (by assumption) (by assumption)
theorem sub_c (w : World) (d : Nat) (news : List (Addr × Obj)) (x y : Int) (tx ty : Tok) : Spec9 w (d + 1) news (call (.ref 78) [.int x tx, .int y ty]) (fun v nw => news = nw ∧ ∃ t, v = .int (x - y) t) := by
  refine Spec9.of ?_
  k_with_none
  intro p loose mean mg mb dp un gd cn nm gn co mo a ccd cl outer A₀ base h₀ L m s Q E B F X N T hd hu hret
  refine wpAny_call ?_
  w_strict (k_dflt k_enter)
  k_steps
  exact hret _ _ _ _ ⟨rfl, _, rfl⟩ (by assumption) (by assumption)
theorem not_c (w : World) (d : Nat) (news : List (Addr × Obj)) (b : Bool) : Spec9 w (d + 1) news (call (.ref 64) [.bool b]) (fun v nw => news = nw ∧ v = .bool (!b)) := by
  refine Spec9.of ?_
  k_with_none
  intro p loose mean mg mb dp un gd cn nm gn co mo a ccd cl outer A₀ base h₀ L m s Q E B F X N T hd hu hret
  refine wpAny_call ?_
  w_strict (k_dflt k_enter)
  k_steps
  all_goals exact hret _ _ _ _ ⟨rfl, rfl⟩ (by assumption) (by assumption)
theorem codeHd_a {w : World} {h : Heap} (X : (_root_.Mine.hd.heap_39 w.params).In h) : CodeHd h 91 87 := ⟨_, _, _, _, _, _, _, _, _, X 91 _ (by k_is), rfl, rfl, rfl, rfl, rfl, rfl, rfl, rfl, by decide⟩
theorem codeHd_b {w : World} {h : Heap} (X : (_root_.Mine.hd.heap_39 w.params).In h) : CodeHd h 98 94 := ⟨_, _, _, _, _, _, _, _, _, X 98 _ (by k_is), rfl, rfl, rfl, rfl, rfl, rfl, rfl, rfl, by decide⟩
theorem codeHd_l {w : World} {h : Heap} (X : (_root_.Mine.hd.heap_39 w.params).In h) : CodeHd h 103 101 := ⟨_, _, _, _, _, _, _, _, _, X 103 _ (by k_is), rfl, rfl, rfl, rfl, rfl, rfl, rfl, rfl, by decide⟩
theorem tab_case {qual : Str} {line col : Nat} {ps : Array Value} {rest news : List (Addr × Obj)} (h : TabOk9 qual line col ps rest) (hs : ∀ p ∈ rest, p ∈ news) {pos : Pos} (h1 : pos.line = line) (h2 : pos.col = col) :
    TriplesOk ps.toList ∧ (codeAmong pos ps.toList = none ∨ ∃ c' oc vs t, codeAmong pos ps.toList = some (.ref c') ∧ (c', oc) ∈ news ∧ oc.data = .fields vs ∧ vs[1]? = some (.str qual t)) := by
  subst h1 h2
  rcases h with rfl | ⟨c', oc, vs, t, rfl, hm, hd, hv⟩
  · exact ⟨True.intro, .inl rfl⟩
  · exact ⟨True.intro, .inr ⟨c', oc, vs, t, by simp [codeAmong, rawInt], hs _ hm, hd, hv⟩⟩
theorem fin9 {qual : Str} {line col : Nat} {ps ps' : Array Value} {rest news ex : List (Addr × Obj)} {P c' f : Addr} {oc : Obj} {vs : Array Value} {t : Tok} {pos : Pos} (h : TabOk9 qual line col ps rest) (hs : ∀ p ∈ rest, p ∈ news) (hP : (P, tabObj ps) ∈ news)
    (hcs : (ps' = ps ∧ ex = [] ∧ codeAmong pos ps.toList = some (.ref c') ∧ (c', oc) ∈ news) ∨ (ps' = ps ++ #[rawInt pos.line, rawInt pos.col, .ref c'] ∧ ex = [(c', oc)] ∧ codeAmong pos ps.toList = none ∧ (∀ q ∈ news, q.1 < c') ∧ c' < f))
    (hd : oc.data = .fields vs) (hv : vs[1]? = some (.str qual t)) (h1 : pos.line = line) (h2 : pos.col = col) :
    TabOk9 qual line col ps' (ex ++ rest) ∧ ∀ p ∈ ex, p.1 ≠ P ∧ ∀ r ∈ rest, r.1 < p.1 := by
  subst h1 h2
  rcases hcs with ⟨rfl, rfl, -, -⟩ | ⟨rfl, rfl, hn, hl, -⟩
  · exact ⟨h, fun _ hp => nomatch hp⟩
  · refine ⟨?_, ?_⟩
    · rcases h with rfl | ⟨c9, oc9, vs9, t9, rfl, -⟩
      · exact .inr ⟨c', oc, vs, t, rfl, List.mem_cons_self, hd, hv⟩
      · simp [codeAmong, rawInt] at hn
    · intro p hp
      rw [List.mem_singleton.mp hp]
      exact ⟨Nat.ne_of_gt (hl _ hP), fun r hr => hl r (hs r hr)⟩
theorem updSame9 {d : Addr} {o : Obj} {l : List (Addr × Obj)} {g : Obj → List (Addr × Obj)} (U : UpdF d o l g) : g o = l := by
  obtain ⟨pre, post, e, hg, -, -⟩ := U.split
  rw [e, hg]
/-- a lambda is made: its code is new, or it lies in the table already -/
theorem lam9 {M : Model} {A : Around} {E : Value → Shared → Prop} {s : Shared} {h₀ : Heap} {L a c P : Addr} {m mg mb : Str → Option Value} {cn : Str} {cs : Scope} {ccd : Value} {cl : List (Str × Addr)} {news : List (Addr × Obj)} {g : Obj → List (Addr × Obj)}
    {p : Program} {loose : List Str} {mean : ExcName → Option Value} {name qual : Str} {params : Arguments} {body : Expr} {scope : Scope} {ps : Array Value} {pos : Pos} {firstLine : Nat} {clos : List (Str × Addr)} {Q : Value → Shared → Prop}
    (F : Fr h₀ L s.heap m) (N : News h₀ L s.heap news) (T : Top p loose mean mg mb h₀) (C : CodeHd h₀ c P) (hcd : ccd = .ref c) (U : UpdF P (tabObj ps) news g) (ht : TriplesOk ps.toList)
    (hcl : closureFor scope (envX cn cs L a ccd cl) = pure clos)
    (hcase : codeAmong pos ps.toList = none ∨ ∃ c' oc vs t, codeAmong pos ps.toList = some (.ref c') ∧ (c', oc) ∈ news ∧ oc.data = .fields vs ∧ vs[1]? = some (.str qual t))
    (h : ∀ f c' oc vs t ctv h' tk ps' ex, Fr h₀ L h' m → News h₀ L h' ((f, kla_obj name qual params body scope clos ((mg "__name__").getD .none) c' ctv) :: (ex ++ g (tabObj ps'))) →
      (c', oc) ∈ (ex ++ g (tabObj ps')) → oc.data = .fields vs → vs[1]? = some (.str qual t) → (∀ q ∈ news, q.1 < f) →
      ((ps' = ps ∧ ex = [] ∧ codeAmong pos ps.toList = some (.ref c') ∧ (c', oc) ∈ news) ∨ (ps' = ps ++ #[rawInt pos.line, rawInt pos.col, .ref c'] ∧ ex = [(c', oc)] ∧ codeAmong pos ps.toList = none ∧ (∀ q ∈ news, q.1 < c') ∧ c' < f)) → Q (.ref f) { s with heap := h', toks := tk }) :
    wpAny M A (makeFunction name qual params (.expr body) scope (envX cn cs L a ccd cl) [] [] [] pos firstLine) Q E s := by
  rcases hcase with hn | ⟨c', oc, vs, t, hf, hm, hd, hv⟩
  · refine kla_nest F N T C hcd U ht hn hcl fun f c' oc vs t ctv h' tk F' N' hd hv h1 h2 => ?_
    exact h f c' oc vs t ctv h' tk _ [(c', oc)] F' N' (List.mem_cons_self) hd hv (fun q hq => Nat.lt_trans (h1 q hq) h2) (.inr ⟨rfl, rfl, hn, h1, h2⟩)
  · have hmem : (P, tabObj ps) ∈ news := by
      obtain ⟨pre, post, e, -, -, -⟩ := U.split
      rw [e]
      exact List.mem_append_right _ List.mem_cons_self
    refine kla_hit F N T C hcd hmem ht hf hcl fun f ctv h' tk F' N' h1 => ?_
    refine h f c' oc vs t ctv h' tk ps [] F' ?_ ?_ hd hv h1 (.inl ⟨rfl, rfl, hf, hm⟩)
    · rw [List.nil_append, updSame9 U]; exact N'
    · rw [List.nil_append, updSame9 U]; exact hm
theorem ir_c (w : World) (d : Nat) (rest : List (Addr × Obj)) (l lam : Addr) (vs : List Value) (ns : List Int) (n : Nat) (kf : Int → Str) (x : Int) (tx : Tok) {oc : Value} {od : Option Addr} {fd : FuncData} {sl : Array (Option Value)}
    (hoff : ∀ p ∈ rest, p.1 ≠ l) (hlam : (lam, (⟨oc, od, .func fd, sl⟩ : Obj)) ∈ rest) (hi : IntsAre vs ns) (hlen : ns.length < 100)
    (hkey : ∀ i, i ∈ x :: ns → ∀ t, Spec9 w d ((l, listOf vs.toArray n) :: rest) (call (.ref lam) [.int i t]) (fun v nw => (l, listOf vs.toArray n) :: rest = nw ∧ ∃ t', v = .str (kf i) t')) :
    Spec9 w (d + 2) ((l, listOf vs.toArray n) :: rest) (call (.ref 23) [.ref l, .int x tx] [("key", .ref lam)])
      (fun v nw => v = .none ∧ ∃ vs', IntsAre vs' (insAt ns (bis (fun i => !strLt (kf x) (kf (ns.getD i 0))) ns.length 0 ns.length) x) ∧ nw = (l, listOf vs'.toArray (n + 1)) :: rest) := by
  have hm : (l, listOf vs.toArray n) ∈ (l, listOf vs.toArray n) :: rest := List.mem_cons_self
  have hlam' : (lam, (⟨oc, od, .func fd, sl⟩ : Obj)) ∈ (l, listOf vs.toArray n) :: rest := List.mem_cons_of_mem _ hlam
  have hb := fun tx t0 => brs_c w d _ l lam vs ns n kf (kf x) tx t0 hm hlam' hi hlen fun i hi t => hkey i (List.mem_cons_of_mem _ hi) t
  refine Spec9.of ?_
  k_with_none
  k_with "callWith ref" => (first | (refine' callWith_F (by exact FnAt.of (by k_asm) (by k_mem)) ?_; k_whole) | (refine' callWith_F0 (by exact FnAt.of (by k_asm) (by k_mem)) ?_; k_whole; try dsimp only [List.nil_append, List.cons_append]))
  intro p loose mean mg mb dp un gd cn nm gn co mo a ccd cl outer A₀ base h₀ L m s Q E B F X N T hd hu hret
  refine wpAny_call ?_
  w_strict (k_dflt k_enter)
  k_with "call ref" => (refine' Spec9.useT (hkey _ List.mem_cons_self _) ?B ?F ?X ?N ?T ?hk ?hd ?hu ?_; (case B => k_asm); (case F => k_asm); (case X => k_asm); (case N => k_asm); (case T => k_asm); (case hk => exact rfl); (case hd => ktr_room); (case hu => ktr_units); intro t9 h9 tk9 F9 N9; (try k_fold))
  k_with "call ref" => (refine' Spec9.useT (hb _ _) ?B ?F ?X ?N ?T ?hk ?hd ?hu ?_; (case B => k_asm); (case F => k_asm); (case X => k_asm); (case N => k_asm); (case T => k_asm); (case hk => exact rfl); (case hd => ktr_room); (case hu => ktr_units); intro t9 h9 tk9 F9 N9; (try k_fold))
  k_steps
  have hk9 := bis_le (fun i => !strLt (kf x) (kf (ns.getD i 0))) ns.length 0 ns.length (Nat.zero_le _)
  generalize bis (fun i => !strLt (kf x) (kf (ns.getD i 0))) ns.length 0 ns.length = k at *
  have hl9 := hi.length
  refine kl_insert (its := vs.toArray) (by assumption) (by assumption) (by simp [Builtin.List.listFitsIndex]; omega) rfl (Upd.head hoff) (by rw [sizeLine_eq]; simp; omega) ?_
  intro h9 F9 N9
  k_steps
  exact hret _ _ _ _ ⟨rfl, _, kl_ins_nat hi hk9 x tx, rfl⟩ (by assumption) (by assumption)
theorem il_c (w : World) (d : Nat) (rest : List (Addr × Obj)) (l lam : Addr) (vs : List Value) (ns : List Int) (n : Nat) (kf : Int → Str) (x : Int) (tx : Tok) {oc : Value} {od : Option Addr} {fd : FuncData} {sl : Array (Option Value)}
    (hoff : ∀ p ∈ rest, p.1 ≠ l) (hlam : (lam, (⟨oc, od, .func fd, sl⟩ : Obj)) ∈ rest) (hi : IntsAre vs ns) (hlen : ns.length < 100)
    (hkey : ∀ i, i ∈ x :: ns → ∀ t, Spec9 w d ((l, listOf vs.toArray n) :: rest) (call (.ref lam) [.int i t]) (fun v nw => (l, listOf vs.toArray n) :: rest = nw ∧ ∃ t', v = .str (kf i) t')) :
    Spec9 w (d + 2) ((l, listOf vs.toArray n) :: rest) (call (.ref 41) [.ref l, .int x tx] [("key", .ref lam)])
      (fun v nw => v = .none ∧ ∃ vs', IntsAre vs' (insAt ns (bis (fun i => strLt (kf (ns.getD i 0)) (kf x)) ns.length 0 ns.length) x) ∧ nw = (l, listOf vs'.toArray (n + 1)) :: rest) := by
  have hm : (l, listOf vs.toArray n) ∈ (l, listOf vs.toArray n) :: rest := List.mem_cons_self
  have hlam' : (lam, (⟨oc, od, .func fd, sl⟩ : Obj)) ∈ (l, listOf vs.toArray n) :: rest := List.mem_cons_of_mem _ hlam
  have hb := fun tx t0 => bls_c w d _ l lam vs ns n kf (kf x) tx t0 hm hlam' hi hlen fun i hi t => hkey i (List.mem_cons_of_mem _ hi) t
  refine Spec9.of ?_
  k_with_none
  k_with "callWith ref" => (first | (refine' callWith_F (by exact FnAt.of (by k_asm) (by k_mem)) ?_; k_whole) | (refine' callWith_F0 (by exact FnAt.of (by k_asm) (by k_mem)) ?_; k_whole; try dsimp only [List.nil_append, List.cons_append]))
  intro p loose mean mg mb dp un gd cn nm gn co mo a ccd cl outer A₀ base h₀ L m s Q E B F X N T hd hu hret
  refine wpAny_call ?_
  w_strict (k_dflt k_enter)
  k_with "call ref" => (refine' Spec9.useT (hkey _ List.mem_cons_self _) ?B ?F ?X ?N ?T ?hk ?hd ?hu ?_; (case B => k_asm); (case F => k_asm); (case X => k_asm); (case N => k_asm); (case T => k_asm); (case hk => exact rfl); (case hd => ktr_room); (case hu => ktr_units); intro t9 h9 tk9 F9 N9; (try k_fold))
  k_with "call ref" => (refine' Spec9.useT (hb _ _) ?B ?F ?X ?N ?T ?hk ?hd ?hu ?_; (case B => k_asm); (case F => k_asm); (case X => k_asm); (case N => k_asm); (case T => k_asm); (case hk => exact rfl); (case hd => ktr_room); (case hu => ktr_units); intro t9 h9 tk9 F9 N9; (try k_fold))
  k_steps
  have hk9 := bis_le (fun i => strLt (kf (ns.getD i 0)) (kf x)) ns.length 0 ns.length (Nat.zero_le _)
  generalize bis (fun i => strLt (kf (ns.getD i 0)) (kf x)) ns.length 0 ns.length = k at *
  have hl9 := hi.length
  refine kl_insert (its := vs.toArray) (by assumption) (by assumption) (by simp [Builtin.List.listFitsIndex]; omega) rfl (Upd.head hoff) (by rw [sizeLine_eq]; simp; omega) ?_
  intro h9 F9 N9
  k_steps
  exact hret _ _ _ _ ⟨rfl, _, kl_ins_nat hi hk9 x tx, rfl⟩ (by assumption) (by assumption)
theorem em1_c (w : World) (d : Nat) (news : List (Addr × Obj)) (W q g : Str) (tw tg : Tok) (hin : (Builtin.Str.occurrences W (Str.ofString "...") 0 W.length 1).isEmpty = false) (hsp : Txt.split W (Str.ofString "...") = [q, ⟨#[]⟩]) (hq : q.length < 1000) (hW : W.length < 1000) (hg : g.length < 1000) :
    Spec9 w (d + 1) news (call (.ref 57) [.str W tw, .str g tg]) (fun v nw => news = nw ∧ v = .bool (Txt.startswith g q)) := by
  refine Spec9.of ?_
  k_with_none
  intro p loose mean mg mb dp un gd cn nm gn co mo a ccd cl outer A₀ base h₀ L m s Q E B F X N T hd hu hret
  refine wpAny_call ?_
  w_strict (k_dflt k_enter)
  generalize hFOR : Stmt.For _ _ _ _ _ = FOR
  k_with "call builtin:str.split" => (refine KSpl.split1 (by k_asm) (by k_asm) (by decide) ?_ (by rw [sizeLine_eq]; omega); intro D' l' h' k' e' a' F' N' l1; rw [hsp] at e'; kspl_open e'; simp only [strValues, List.map_cons, List.map_nil] at N' a'; (try k_sweep))
  k_with "exec For" => (refine For_invVF (by assumption) (by rfl) (by rfl) ?_)
  k_with "Turn9" => (refine Turn9.ret ?_; (try dsimp only))
  k_steps
  any_goals (subst hFOR; k_steps)
  · rename Txt.startswith g q = true => hst
    have := startswith_len hst
    omega
  · rename Txt.startswith g q = true => hst
    have hlen9 := startswith_len hst
    rename Fr _ _ _ _ => F2
    rename News _ _ _ _ => N2
    have hR : ellGo (cpl g) g.length (([⟨#[]⟩] : List Str).map cpl) q.length = true := ellGo_nils _ _ _ _ (by simp [cpl]) hlen9
    have hyl : ∀ y ∈ ([⟨#[]⟩] : List Str), y.length < 1000 := by intro y hy; simp at hy; (try rcases hy with rfl | rfl) <;> first | omega | (subst hy; decide)
    (with_unfolding_all refine' strS9 (ys := [⟨#[]⟩]) (σ := Nat × Tok) (fun _ => _) (fun c => [("startpos", .int (c.1 : Int) c.2)]) [] (fun i c => ellGo (cpl g) g.length ((([⟨#[]⟩] : List Str).drop i).map cpl) c.1 = true) (q.length, _) (by rfl) (by intro c9; k_mem) F2 N2 ?hk hR (by repeat constructor) ?turn ?done)
    case hk => kst_all
    case turn =>
      clear F2 N2
      rintro I9 oI9 i9 y9 ty9 ⟨sp, ts⟩ u9 h9 tk9 hy9 hlt9 hp9 hoff9 F9 N9
      dsimp only [kstB] at hp9 hoff9 F9 N9
      have hyl9 := hyl _ (List.mem_of_getElem? hy9)
      k_steps
      refine find4 (b := g.length) (by omega) ?_
      cases hf9 : first9 (cpl g) (cpl y9) sp g.length with
      | none => exact absurd (hp9.symm.trans (ellGo_none hy9 hf9)) (by decide)
      | some k9 =>
        dsimp only [posOr]
        k_steps
        refine' turn9_end (k9 + y9.length, _) (by assumption) (by assumption) (fun p hp => hp) hoff9 ?hk ?hr ?hp
        case hk => kst_all
        case hr => kst_same
        case hp => exact (ellGo_some hy9 hf9).symm.trans hp9
    case done =>
      rintro ⟨sp, ts⟩ u9 h9 tk9 hp9 F9 N9
      dsimp only [kstB] at hp9 F9 N9
      k_steps
      exact hret _ _ _ _ ⟨rfl, by rw [hst]⟩ (by assumption) (cb_drop (by assumption) (by kcj_all))
  · rename Txt.startswith g q = false => hst
    exact hret _ _ _ _ ⟨rfl, by rw [hst]⟩ (by assumption) (cb_drop (by assumption) (by kcj_all))
  · have hq0 : q.length = 0 := by omega
    have hst : Txt.startswith g q = true := startswith_nil hq0
    rename Fr _ _ _ _ => F2
    rename News _ _ _ _ => N2
    have hR : ellGo (cpl g) g.length (([q, ⟨#[]⟩] : List Str).map cpl) 0 = true := ellGo_nils _ _ _ _ (by simp [cpl_nil_of_len hq0, cpl]) (Nat.zero_le _)
    have hyl : ∀ y ∈ ([q, ⟨#[]⟩] : List Str), y.length < 1000 := by intro y hy; simp at hy; (try rcases hy with rfl | rfl) <;> first | omega | (subst hy; decide)
    (with_unfolding_all refine' strS9 (ys := [q, ⟨#[]⟩]) (σ := Nat × Tok) (fun _ => _) (fun c => [("startpos", .int (c.1 : Int) c.2)]) [] (fun i c => ellGo (cpl g) g.length ((([q, ⟨#[]⟩] : List Str).drop i).map cpl) c.1 = true) (0, _) (by rfl) (by intro c9; k_mem) F2 N2 ?hk hR (by repeat constructor) ?turn ?done)
    case hk => kst_all
    case turn =>
      clear F2 N2
      rintro I9 oI9 i9 y9 ty9 ⟨sp, ts⟩ u9 h9 tk9 hy9 hlt9 hp9 hoff9 F9 N9
      dsimp only [kstB] at hp9 hoff9 F9 N9
      have hyl9 := hyl _ (List.mem_of_getElem? hy9)
      k_steps
      refine find4 (b := g.length) (by omega) ?_
      cases hf9 : first9 (cpl g) (cpl y9) sp g.length with
      | none => exact absurd (hp9.symm.trans (ellGo_none hy9 hf9)) (by decide)
      | some k9 =>
        dsimp only [posOr]
        k_steps
        refine' turn9_end (k9 + y9.length, _) (by assumption) (by assumption) (fun p hp => hp) hoff9 ?hk ?hr ?hp
        case hk => kst_all
        case hr => kst_same
        case hp => exact (ellGo_some hy9 hf9).symm.trans hp9
    case done =>
      rintro ⟨sp, ts⟩ u9 h9 tk9 hp9 F9 N9
      dsimp only [kstB] at hp9 F9 N9
      k_steps
      exact hret _ _ _ _ ⟨rfl, by rw [hst]⟩ (by assumption) (cb_drop (by assumption) (by kcj_all))
theorem em2_c (w : World) (d : Nat) (news : List (Addr × Obj)) (W q g : Str) (tw tg : Tok) (hin : (Builtin.Str.occurrences W (Str.ofString "...") 0 W.length 1).isEmpty = false) (hsp : Txt.split W (Str.ofString "...") = [⟨#[]⟩, q]) (hq : q.length < 1000) (hW : W.length < 1000) (hg : g.length < 1000) :
    Spec9 w (d + 1) news (call (.ref 57) [.str W tw, .str g tg]) (fun v nw => news = nw ∧ v = .bool (Txt.endswith g q)) := by
  refine Spec9.of ?_
  k_with_none
  intro p loose mean mg mb dp un gd cn nm gn co mo a ccd cl outer A₀ base h₀ L m s Q E B F X N T hd hu hret
  refine wpAny_call ?_
  w_strict (k_dflt k_enter)
  generalize hFOR : Stmt.For _ _ _ _ _ = FOR
  k_with "call builtin:str.split" => (refine KSpl.split1 (by k_asm) (by k_asm) (by decide) ?_ (by rw [sizeLine_eq]; omega); intro D' l' h' k' e' a' F' N' l1; rw [hsp] at e'; kspl_open e'; simp only [strValues, List.map_cons, List.map_nil] at N' a'; (try k_sweep))
  k_with "exec For" => (refine For_invVF (by assumption) (by rfl) (by rfl) ?_)
  k_with "Turn9" => (refine Turn9.ret ?_; (try dsimp only))
  k_steps
  any_goals (subst hFOR; k_steps)
  · rename Txt.endswith g q = true => hst
    have := endswith_len hst
    omega
  · rename Txt.endswith g q = true => hst
    have hlen9 := endswith_len hst
    rename Fr _ _ _ _ => F2
    rename News _ _ _ _ => N2
    rw [show ((g.length : Int) - (q.length : Int)) = ((g.length - q.length : Nat) : Int) by omega] at F2
    have hR : ellGo (cpl g) (g.length - q.length) (([⟨#[]⟩] : List Str).map cpl) 0 = true := ellGo_nils _ _ _ _ (by simp [cpl]) (Nat.zero_le _)
    have hyl : ∀ y ∈ ([⟨#[]⟩] : List Str), y.length < 1000 := by intro y hy; simp at hy; (try rcases hy with rfl | rfl) <;> first | omega | (subst hy; decide)
    (with_unfolding_all refine' strS9 (ys := [⟨#[]⟩]) (σ := Nat × Tok) (fun _ => _) (fun c => [("startpos", .int (c.1 : Int) c.2)]) [] (fun i c => ellGo (cpl g) (g.length - q.length) ((([⟨#[]⟩] : List Str).drop i).map cpl) c.1 = true) (0, _) (by rfl) (by intro c9; k_mem) F2 N2 ?hk hR (by repeat constructor) ?turn ?done)
    case hk => kst_all
    case turn =>
      clear F2 N2
      rintro I9 oI9 i9 y9 ty9 ⟨sp, ts⟩ u9 h9 tk9 hy9 hlt9 hp9 hoff9 F9 N9
      dsimp only [kstB] at hp9 hoff9 F9 N9
      have hyl9 := hyl _ (List.mem_of_getElem? hy9)
      k_steps
      refine find4 (b := (g.length - q.length)) (by omega) ?_
      cases hf9 : first9 (cpl g) (cpl y9) sp (g.length - q.length) with
      | none => exact absurd (hp9.symm.trans (ellGo_none hy9 hf9)) (by decide)
      | some k9 =>
        dsimp only [posOr]
        k_steps
        refine' turn9_end (k9 + y9.length, _) (by assumption) (by assumption) (fun p hp => hp) hoff9 ?hk ?hr ?hp
        case hk => kst_all
        case hr => kst_same
        case hp => exact (ellGo_some hy9 hf9).symm.trans hp9
    case done =>
      rintro ⟨sp, ts⟩ u9 h9 tk9 hp9 F9 N9
      dsimp only [kstB] at hp9 F9 N9
      k_steps
      exact hret _ _ _ _ ⟨rfl, by rw [hst]⟩ (by assumption) (cb_drop (by assumption) (by kcj_all))
  · rename Txt.endswith g q = false => hst
    exact hret _ _ _ _ ⟨rfl, by rw [hst]⟩ (by assumption) (cb_drop (by assumption) (by kcj_all))
  · have hq0 : q.length = 0 := by omega
    have hst : Txt.endswith g q = true := endswith_nil hq0
    rename Fr _ _ _ _ => F2
    rename News _ _ _ _ => N2
    have hR : ellGo (cpl g) g.length (([⟨#[]⟩, q] : List Str).map cpl) 0 = true := ellGo_nils _ _ _ _ (by simp [cpl_nil_of_len hq0, cpl]) (Nat.zero_le _)
    have hyl : ∀ y ∈ ([⟨#[]⟩, q] : List Str), y.length < 1000 := by intro y hy; simp at hy; (try rcases hy with rfl | rfl) <;> first | omega | (subst hy; decide)
    (with_unfolding_all refine' strS9 (ys := [⟨#[]⟩, q]) (σ := Nat × Tok) (fun _ => _) (fun c => [("startpos", .int (c.1 : Int) c.2)]) [] (fun i c => ellGo (cpl g) g.length ((([⟨#[]⟩, q] : List Str).drop i).map cpl) c.1 = true) (0, _) (by rfl) (by intro c9; k_mem) F2 N2 ?hk hR (by repeat constructor) ?turn ?done)
    case hk => kst_all
    case turn =>
      clear F2 N2
      rintro I9 oI9 i9 y9 ty9 ⟨sp, ts⟩ u9 h9 tk9 hy9 hlt9 hp9 hoff9 F9 N9
      dsimp only [kstB] at hp9 hoff9 F9 N9
      have hyl9 := hyl _ (List.mem_of_getElem? hy9)
      k_steps
      refine find4 (b := g.length) (by omega) ?_
      cases hf9 : first9 (cpl g) (cpl y9) sp g.length with
      | none => exact absurd (hp9.symm.trans (ellGo_none hy9 hf9)) (by decide)
      | some k9 =>
        dsimp only [posOr]
        k_steps
        refine' turn9_end (k9 + y9.length, _) (by assumption) (by assumption) (fun p hp => hp) hoff9 ?hk ?hr ?hp
        case hk => kst_all
        case hr => kst_same
        case hp => exact (ellGo_some hy9 hf9).symm.trans hp9
    case done =>
      rintro ⟨sp, ts⟩ u9 h9 tk9 hp9 F9 N9
      dsimp only [kstB] at hp9 F9 N9
      k_steps
      exact hret _ _ _ _ ⟨rfl, by rw [hst]⟩ (by assumption) (cb_drop (by assumption) (by kcj_all))
theorem em3_c (w : World) (d : Nat) (news : List (Addr × Obj)) (W g : Str) (mid : List Str) (tw tg : Tok) (hin : (Builtin.Str.occurrences W (Str.ofString "...") 0 W.length 1).isEmpty = false) (hsp : Txt.split W (Str.ofString "...") = ⟨#[]⟩ :: (mid ++ [⟨#[]⟩])) (hmid : ∀ y ∈ mid, y.length < 1000) (hmlen : mid.length < 1000) (hW : W.length < 1000) (hg : g.length < 1000) :
    Spec9 w (d + 1) news (call (.ref 57) [.str W tw, .str g tg]) (fun v nw => news = nw ∧ v = .bool (ellGo (cpl g) g.length ((⟨#[]⟩ :: (mid ++ [⟨#[]⟩])).map cpl) 0)) := by
  refine Spec9.of ?_
  k_with_none
  intro p loose mean mg mb dp un gd cn nm gn co mo a ccd cl outer A₀ base h₀ L m s Q E B F X N T hd hu hret
  refine wpAny_call ?_
  w_strict (k_dflt k_enter)
  generalize hFOR : Stmt.For _ _ _ _ _ = FOR
  k_with "call builtin:str.split" => (refine KSpl.split1 (by k_asm) (by k_asm) (by decide) ?_ (by rw [sizeLine_eq]; omega); intro D' l' h' k' e' a' F' N' l1; rw [e', hsp] at a'; clear e'; generalize strValues l' = vs' at N' a'; obtain ⟨hv1, ⟨t1, hv2⟩, ⟨t2, hv3⟩⟩ := ends_nil a'; (try k_sweep))
  k_with "call builtin:len" => (refine len_list (by is_list) (by rw [List.size_toArray]; omega) ?_; rw [List.size_toArray, hv1])
  k_with "subscriptTail" => first
    | (refine' item_litK ?k1 ?k2 ?k3 hv2 ?_ ?k6; (case k1 => is_list); (case k2 => decide); (case k3 => decide); (case k6 => with_unfolding_all rfl))
    | (refine' kde_neg ?k1 ?k2 ?k3 ?k4 hv3 ?_ ?k6; (case k1 => is_list); (case k2 => decide); (case k3 => decide); (case k4 => (unfold seqIndex?; simp [hv1]; omega)); (case k6 => with_unfolding_all rfl))
  k_with "exec For" => (refine For_invVF (by assumption) (by rfl) (by rfl) ?_)
  k_with "Turn9" => (refine Turn9.ret ?_; (try dsimp only))
  k_steps
  any_goals (subst hFOR; k_steps)
  rename Fr _ _ _ _ => F2
  rename News _ _ _ _ => N2
  have hyl : ∀ y ∈ ((⟨#[]⟩ :: (mid ++ [⟨#[]⟩]) : List Str)), y.length < 1000 := by
    intro y hy
    simp only [List.mem_cons, List.mem_append, List.not_mem_nil, or_false] at hy
    rcases hy with rfl | hy | rfl
    · decide
    · exact hmid y hy
    · decide
  (with_unfolding_all refine' strS9 (ys := ⟨#[]⟩ :: (mid ++ [⟨#[]⟩])) (σ := Nat × Tok) (fun _ => _) (fun c => [("startpos", .int (c.1 : Int) c.2)]) [] (fun i c => ellGo (cpl g) g.length (((⟨#[]⟩ :: (mid ++ [⟨#[]⟩]) : List Str).drop i).map cpl) c.1 = ellGo (cpl g) g.length ((⟨#[]⟩ :: (mid ++ [⟨#[]⟩]) : List Str).map cpl) 0) (0, _) (by rfl) (by intro c9; k_mem) F2 N2 ?hk (by rfl) a' ?turn ?done)
  case hk => kst_all
  case turn =>
    clear F2 N2
    rintro I9 oI9 i9 y9 ty9 ⟨sp, ts⟩ u9 h9 tk9 hy9 hlt9 hp9 hoff9 F9 N9
    dsimp only [kstB] at hp9 hoff9 F9 N9
    have hyl9 := hyl _ (List.mem_of_getElem? hy9)
    k_with "call builtin:len" => fail
    k_steps
    refine find4 (b := g.length) (by omega) ?_
    cases hf9 : first9 (cpl g) (cpl y9) sp g.length with
    | none =>
      have hR := hp9.symm.trans (ellGo_none hy9 hf9)
      dsimp only [posOr]
      k_steps
      exact hret _ _ _ _ ⟨rfl, by rw [hR]⟩ (by assumption) (cb_drop (by assumption) (by kcj_all))
    | some k9 =>
      dsimp only [posOr]
      k_steps
      refine' turn9_end (k9 + y9.length, _) (by assumption) (by assumption) (fun p hp => hp) hoff9 ?hk ?hr ?hp
      case hk => kst_all
      case hr => kst_same
      case hp => exact (ellGo_some hy9 hf9).symm.trans hp9
  case done =>
    rintro ⟨sp, ts⟩ u9 h9 tk9 hp9 F9 N9
    dsimp only [kstB] at hp9 F9 N9
    have hR : ellGo (cpl g) g.length ((⟨#[]⟩ :: (mid ++ [⟨#[]⟩]) : List Str).map cpl) 0 = true := by
      rw [← hp9, hv1, show mid.length + 2 = (⟨#[]⟩ :: (mid ++ [⟨#[]⟩]) : List Str).length by simp, List.drop_length]; rfl
    k_steps
    exact hret _ _ _ _ ⟨rfl, by rw [hR]⟩ (by assumption) (cb_drop (by assumption) (by kcj_all))
theorem ix_c (w : World) (d : Nat) (news : List (Addr × Obj)) (l : Addr) (bs : List Bool) (n k : Nat) (hm : (l, listOf (bs.map Value.bool).toArray n) ∈ news) (_hlen : bs.length < 100) (hk9 : bs[k]? = some true) (hb9 : ∀ i, i < k → bs[i]? = some false) :
    Spec9 w (d + 1) news (call (.ref 85) [.ref l, .bool true]) (fun v nw => news = nw ∧ ∃ t, v = .int (k : Int) t) := by
  refine Spec9.of ?_
  k_with_none
  intro p loose mean mg mb dp un gd cn nm gn co mo a ccd cl outer A₀ base h₀ L m s Q E B F X N T hd hu hret
  refine wpAny_call ?_
  w_strict (k_dflt k_enter)
  k_steps
  rename Fr _ _ _ _ => F2
  rename News _ _ _ _ => N2
  refine forEnum9 (P := fun i => i ≤ k) F2 N2 (by rfl) (by rfl) (by rfl) (by rfl) hm ?hev (Nat.zero_le _) ?turn ?hend
  case hev =>
    k_with "call type:enumerate" => (refine enumAt9 F2 N2 hm)
    k_steps
  case hend =>
    intro i hi
    have := (List.getElem?_eq_some_iff.mp hk9).1
    simp only [List.size_toArray, List.length_map]; omega
  case turn =>
    intro i v t h tk hv hP F9 N9
    have hvb : ∃ b, v = .bool b ∧ bs[i]? = some b := by
      have h1 : (bs.map Value.bool)[i]? = some v := by simpa only [List.getElem?_toArray] using hv
      rw [List.getElem?_map] at h1
      cases hb : bs[i]? with
      | none => rw [hb] at h1; cases h1
      | some b => rw [hb] at h1; cases h1; exact ⟨b, rfl, rfl⟩
    obtain ⟨b, rfl, hb⟩ := hvb
    cases b with
    | false =>
      have hik : i + 1 ≤ k := by
        rcases Nat.lt_or_ge i k with h | h
        · exact h
        · have : i = k := by omega
          subst this; rw [hk9] at hb; cases hb
      k_steps
    | true =>
      have hik : i = k := by
        rcases Nat.lt_or_ge i k with h | h
        · rw [hb9 i h] at hb; cases hb
        · omega
      k_steps
      exact hret _ _ _ _ ⟨rfl, t, by rw [hik]⟩ (by assumption) (by assumption)
noncomputable def qual_ah : Str := Str.ofString "_law_alike_ahead" ++ Str.ofString ".<locals>." ++ Str.ofString "<lambda>"
theorem ah_c (w : World) (ps : Array Value) (rest : List (Addr × Obj)) (q g : Str) (tq tg : Tok) (hps : TabOk9 qual_ah 100 40 ps rest) (hoff : ∀ p ∈ rest, p.1 ≠ 87) (h46 : 46 ∉ cpl q) (hq : q.length < 100) (hg : g.length < 100) :
    Spec9 w 10 ((87, tabObj ps) :: rest) (call (.ref 92) [.str q tq, .str g tg]) (fun v nw => (∃ t, v = .int (bis (fun j => ((cpl q).take (j + 1)).isPrefixOf (cpl g)) q.length 0 q.length : Nat) t) ∧ ∃ ps' ex, TabOk9 qual_ah 100 40 ps' (ex ++ rest) ∧ (∀ p ∈ ex, p.1 ≠ 87 ∧ ∀ r ∈ rest, r.1 < p.1) ∧ nw = (87, tabObj ps') :: (ex ++ rest)) := by
  have hbis : ∀ n m : Nat, n = q.length → m = q.length → bis (fun i => !(fun k => !Txt.startswith g (Txt.slice q none (some k))) ((rangeKs 1 n).getD i 0)) m 0 m = bis (fun j => ((cpl q).take (j + 1)).isPrefixOf (cpl g)) q.length 0 q.length := by
    rintro n m rfl rfl
    refine bis_congr _ _ _ q.length (Nat.le_refl _) fun i hi => ?_
    rw [kll_at hi]
    simp only [Bool.not_not]
    rw [startswith_eq, cpl_to (by omega) (by omega), show ((1 : Int) + (i : Int)).toNat = i + 1 by omega]
  refine Spec9.of ?_
  k_with_none
  intro p loose mean mg mb dp un gd cn nm gn co mo a ccd cl outer A₀ base h₀ L m s Q E B F X N T hd hu hret
  refine wpAny_call ?_
  w_strict (k_dflt k_enter)
  have C9 := codeHd_a (by assumption)
  k_with "eval Lambda" => (refine' kla_eval ?d0 ?_; (case d0 => exact rfl); refine' lam9 ?LF ?LN ?LT ?LC ?Lcd ?LU ?Lt ?Lcl ?Lcase ?Lh; (case LF => k_asm); (case LN => k_asm); (case LT => k_asm); (case Lcd => exact rfl); (case LC => kn_code); (case LU => k_updF); (case Lt => exact (tab_case (news := rest) hps (fun p hp => hp) (pos := ⟨100, 40, 0, 0⟩) rfl rfl).1); (case Lcl => exact rfl); (case Lcase => exact (tab_case hps (fun p hp => by repeat (first | exact hp | refine List.mem_cons_of_mem _ ?_)) rfl rfl).2); (case' Lh => (intro f7 c7 oc7 vs7 t7 ct7 h7 tk7 ps7 ex7 F7 N7 hm7 d17 d27 l17 hcs7; (try dsimp only at N7 hm7); have hf7 := fin9 hps (fun p hp => by repeat (first | exact hp | refine List.mem_cons_of_mem _ ?_)) (by k_mem) hcs7 d17 d27 rfl rfl; clear hcs7; (try k_lt l17))))
  k_with "call ref" => (refine' Spec9.useT (blb_c w 5 _ _ _ _ _ _ (fun k => !Txt.startswith g (Txt.slice q none (some k))) ?hmnil ?hlamnil ?hinil ?hlennil (Hold9.out ?hkeynil)) ?zB ?zF ?zX ?zN ?zT ?zk ?zd ?zu ?zr; (case zB => k_asm); (case zF => k_asm); (case zX => k_asm); (case zN => k_asm); (case zT => k_asm); (case zk => first | exact rfl | assumption); (case zd => ktr_room); (case zu => ktr_units); (case hmnil => k_mem); (case hlamnil => k_mem); (case hinil => assumption); (case hlennil => (rw [rangeKs_length]; omega)); (case' zr => (intro t9 h9 tk9 F9 N9; (try k_fold))))
  k_steps
  rotate_left
  · refine Hold9.mk ?_
    intro i hi9 t
    have hi8 := mem_rangeKs hi9
    have hsl := cpl_to (x := q) (j := i) (by omega) (by omega)
    have h46i : 46 ∉ cpl (Txt.slice q none (some i)) := by rw [hsl]; exact not_mem_take h46
    have hsl2 : (Txt.slice q none (some i)).length ≤ q.length := Txt.slice_le q none (some i)
    refine Spec9.of ?_
    intro p2 loose2 mean2 mg2 mb2 dp2 un2 gd2 cn2 nm2 gn2 co2 mo2 a2 ccd2 cl2 outer2 A2 base2 h2 L2 m2 s2 Q2 E2 B2 F2 X2 N2 T2 hd2 hu2 hret2
    refine wpAny_call ?_
    w_strict (k_dflt kla_enter)
    k_with_none
    k_with "call ref" => (refine Spec9.useV (not_c w 1 _ _) (by k_asm) (by k_asm) (by k_asm) (by k_asm) (by k_asm) (by first | exact rfl | assumption) (by ktr_room) (by ktr_units) ?_; (intro h9 tk9 F9 N9; (try k_fold)))
    k_with "call ref" => (refine Spec9.useV (em1_c w 1 _ _ _ _ _ _ (em1_facts h46i).1 (em1_facts h46i).2 (by omega) (by simp only [Str.length_append, len_dots]; omega) (by omega)) (by k_asm) (by k_asm) (by k_asm) (by k_asm) (by k_asm) (by first | exact rfl | assumption) (by ktr_room) (by ktr_units) ?_; (intro h9 tk9 F9 N9; (try k_fold)))
    k_steps
    exact hret2 _ _ _ _ ⟨rfl, rfl⟩ (by assumption) (by assumption)
  · rename News _ _ _ _ => N8
    refine hret _ _ _ _ ⟨⟨_, congrArg (fun k : Nat => Value.int (k : Int) _) (hbis _ _ (by omega) (by rw [rangeKs_length]; omega))⟩, _, _, hf7.1, hf7.2, rfl⟩ (by assumption) (fun p hp => N8 p ?_)
    simp only [List.mem_cons, List.mem_append] at hp ⊢
    rcases hp with h | h | h <;> simp [h]
noncomputable def qual_bh : Str := Str.ofString "_law_alike_behind" ++ Str.ofString ".<locals>." ++ Str.ofString "<lambda>"
theorem bh_c (w : World) (ps : Array Value) (rest : List (Addr × Obj)) (q g : Str) (tq tg : Tok) (hps : TabOk9 qual_bh 103 40 ps rest) (hoff : ∀ p ∈ rest, p.1 ≠ 94) (h46 : 46 ∉ cpl q) (hq : q.length < 100) (hg : g.length < 100) :
    Spec9 w 10 ((94, tabObj ps) :: rest) (call (.ref 99) [.str q tq, .str g tg]) (fun v nw => (∃ t, v = .int (bis (fun j => ((cpl q).drop (q.length - (j + 1))).isSuffixOf (cpl g)) q.length 0 q.length : Nat) t) ∧ ∃ ps' ex, TabOk9 qual_bh 103 40 ps' (ex ++ rest) ∧ (∀ p ∈ ex, p.1 ≠ 94 ∧ ∀ r ∈ rest, r.1 < p.1) ∧ nw = (94, tabObj ps') :: (ex ++ rest)) := by
  have hbis : ∀ n m : Nat, n = q.length → m = q.length → bis (fun i => !(fun k => !Txt.endswith g (Txt.slice q (some ((q.length : Int) - k)) none)) ((rangeKs 1 n).getD i 0)) m 0 m = bis (fun j => ((cpl q).drop (q.length - (j + 1))).isSuffixOf (cpl g)) q.length 0 q.length := by
    rintro n m rfl rfl
    refine bis_congr _ _ _ q.length (Nat.le_refl _) fun i hi => ?_
    rw [kll_at hi]
    simp only [Bool.not_not]
    rw [endswith_eq, cpl_from (by omega), show ((q.length : Int) - (1 + (i : Int))).toNat = q.length - (i + 1) by omega]
  refine Spec9.of ?_
  k_with_none
  intro p loose mean mg mb dp un gd cn nm gn co mo a ccd cl outer A₀ base h₀ L m s Q E B F X N T hd hu hret
  refine wpAny_call ?_
  w_strict (k_dflt k_enter)
  have C9 := codeHd_b (by assumption)
  k_with "eval Lambda" => (refine' kla_eval ?d0 ?_; (case d0 => exact rfl); refine' lam9 ?LF ?LN ?LT ?LC ?Lcd ?LU ?Lt ?Lcl ?Lcase ?Lh; (case LF => k_asm); (case LN => k_asm); (case LT => k_asm); (case Lcd => exact rfl); (case LC => kn_code); (case LU => k_updF); (case Lt => exact (tab_case (news := rest) hps (fun p hp => hp) (pos := ⟨103, 40, 0, 0⟩) rfl rfl).1); (case Lcl => exact rfl); (case Lcase => exact (tab_case hps (fun p hp => by repeat (first | exact hp | refine List.mem_cons_of_mem _ ?_)) rfl rfl).2); (case' Lh => (intro f7 c7 oc7 vs7 t7 ct7 h7 tk7 ps7 ex7 F7 N7 hm7 d17 d27 l17 hcs7; (try dsimp only at N7 hm7); have hf7 := fin9 hps (fun p hp => by repeat (first | exact hp | refine List.mem_cons_of_mem _ ?_)) (by k_mem) hcs7 d17 d27 rfl rfl; clear hcs7; (try k_lt l17))))
  k_with "call ref" => (refine' Spec9.useT (blb_c w 5 _ _ _ _ _ _ (fun k => !Txt.endswith g (Txt.slice q (some ((q.length : Int) - k)) none)) ?hmnil ?hlamnil ?hinil ?hlennil (Hold9.out ?hkeynil)) ?zB ?zF ?zX ?zN ?zT ?zk ?zd ?zu ?zr; (case zB => k_asm); (case zF => k_asm); (case zX => k_asm); (case zN => k_asm); (case zT => k_asm); (case zk => first | exact rfl | assumption); (case zd => ktr_room); (case zu => ktr_units); (case hmnil => k_mem); (case hlamnil => k_mem); (case hinil => assumption); (case hlennil => (rw [rangeKs_length]; omega)); (case' zr => (intro t9 h9 tk9 F9 N9; (try k_fold))))
  k_steps
  rotate_left
  · refine Hold9.mk ?_
    intro i hi9 t
    have hi8 := mem_rangeKs hi9
    have hsl := cpl_from (x := q) (i := (q.length : Int) - i) (by omega)
    have h46i : 46 ∉ cpl (Txt.slice q (some ((q.length : Int) - i)) none) := by rw [hsl]; exact not_mem_drop h46
    have hsl2 : (Txt.slice q (some ((q.length : Int) - i)) none).length ≤ q.length := Txt.slice_le q (some ((q.length : Int) - i)) none
    refine Spec9.of ?_
    intro p2 loose2 mean2 mg2 mb2 dp2 un2 gd2 cn2 nm2 gn2 co2 mo2 a2 ccd2 cl2 outer2 A2 base2 h2 L2 m2 s2 Q2 E2 B2 F2 X2 N2 T2 hd2 hu2 hret2
    refine wpAny_call ?_
    w_strict (k_dflt kla_enter)
    k_with_none
    k_with "call ref" => (refine Spec9.useV (not_c w 1 _ _) (by k_asm) (by k_asm) (by k_asm) (by k_asm) (by k_asm) (by first | exact rfl | assumption) (by ktr_room) (by ktr_units) ?_; (intro h9 tk9 F9 N9; (try k_fold)))
    k_with "call ref" => (refine Spec9.useV (em2_c w 1 _ _ _ _ _ _ (em2_facts h46i).1 (em2_facts h46i).2 (by omega) (by simp only [Str.length_append, len_dots]; omega) (by omega)) (by k_asm) (by k_asm) (by k_asm) (by k_asm) (by k_asm) (by first | exact rfl | assumption) (by ktr_room) (by ktr_units) ?_; (intro h9 tk9 F9 N9; (try k_fold)))
    k_steps
    exact hret2 _ _ _ _ ⟨rfl, rfl⟩ (by assumption) (by assumption)
  · rename News _ _ _ _ => N8
    refine hret _ _ _ _ ⟨⟨_, congrArg (fun k : Nat => Value.int (k : Int) _) (hbis _ _ (by omega) (by rw [rangeKs_length]; omega))⟩, _, _, hf7.1, hf7.2, rfl⟩ (by assumption) (fun p hp => N8 p ?_)
    simp only [List.mem_cons, List.mem_append] at hp ⊢
    rcases hp with h | h | h <;> simp [h]
theorem Spec9.weaken {w : World} {d : Nat} {news news0 : List (Addr × Obj)} {t : Sem Value} {Post Post0 : Value → List (Addr × Obj) → Prop} (H : Spec9 w d news0 t Post0) (hs : ∀ p ∈ news0, p ∈ news)
    (hp : ∀ v nw, Post0 v nw → ∃ nw', (∀ p ∈ nw', p ∈ nw) ∧ Post v nw') : Spec9 w d news t Post := by
  intro p loose mean mg mb dp un gd cn cs a ccd cl outer A₀ base h₀ L m s Q E B F X N T hk hd hu hret
  refine H p loose mean mg mb dp un gd cn cs a ccd cl outer A₀ base h₀ L m s Q E B F X (fun p hp => N p (hs p hp)) T hk hd hu ?_
  intro v nw h' tk' hv F' N'
  obtain ⟨nw', h1, h2⟩ := hp v nw hv
  exact hret v nw' h' tk' h2 F' (fun p hp => N' p (h1 p hp))
/-- an object that is no code object of that name -/
noncomputable def NoCode9 (o : Obj) : Prop := ∀ vs, o.data = .fields vs → ∀ q t, vs[1]? ≠ some (.str q t)
theorem TabOk9.shift {qual : Str} {line col : Nat} {ps : Array Value} {news news' : List (Addr × Obj)} (h : TabOk9 qual line col ps news) (hs : ∀ p ∈ news, p ∈ news' ∨ NoCode9 p.2) : TabOk9 qual line col ps news' := by
  rcases h with h | ⟨c', oc, vs, t, h1, h2, h3, h4⟩
  · exact .inl h
  · rcases hs _ h2 with h5 | h5
    · exact .inr ⟨c', oc, vs, t, h1, h5, h3, h4⟩
    · exact absurd h4 (h5 vs h3 qual t)
theorem TabOk9.noCode {qual : Str} {line col : Nat} {ps : Array Value} {news : List (Addr × Obj)} (h : TabOk9 qual line col ps news) : NoCode9 (tabObj ps) := by
  intro vs hvs q t
  cases hvs
  rcases h with rfl | ⟨c', oc, vs', t', rfl, -⟩
  · exact fun e => nomatch e
  · exact fun e => by simp [rawInt] at e
theorem noCode_list (vs : List Value) (n : Nat) : NoCode9 (listOf vs.toArray n) := fun _ h => nomatch h
/-- the tables of the law's two helpers are in order -/
noncomputable def Tabs9 (pa pb : Array Value) (led : List (Addr × Obj)) : Prop :=
  TabOk9 qual_ah 100 40 pb led ∧ TabOk9 qual_bh 103 40 pa led ∧ ∀ p ∈ led, p.1 ≠ 87 ∧ p.1 ≠ 94
noncomputable def pre9 (q g : Str) : Nat := bis (fun j => ((cpl q).take (j + 1)).isPrefixOf (cpl g)) q.length 0 q.length
noncomputable def suf9 (q g : Str) : Nat := bis (fun j => ((cpl q).drop (q.length - (j + 1))).isSuffixOf (cpl g)) q.length 0 q.length
theorem ah_L (w : World) (x : Addr × Obj) (pa pb : Array Value) (ex R : List (Addr × Obj)) (q g : Str) (tq tg : Tok) (hT : Tabs9 pa pb (ex ++ R)) (hx : NoCode9 x.2) (hx1 : x.1 ≠ 87 ∧ x.1 ≠ 94) (ho : ∀ p ∈ ex ++ R, p.1 ≠ x.1) (h46 : 46 ∉ cpl q) (hq : q.length < 100) (hg : g.length < 100) :
    Spec9 w 10 (x :: (94, tabObj pa) :: (87, tabObj pb) :: (ex ++ R)) (call (.ref 92) [.str q tq, .str g tg])
      (fun v nw => (∃ t, v = .int (pre9 q g : Nat) t) ∧ ∃ pb' ex', Tabs9 pa pb' (ex' ++ R) ∧ (∀ p ∈ ex' ++ R, p.1 ≠ x.1) ∧ nw = x :: (94, tabObj pa) :: (87, tabObj pb') :: (ex' ++ R)) := by
  refine (ah_c w pb (x :: (94, tabObj pa) :: (ex ++ R)) q g tq tg (hT.1.mono (fun p hp => List.mem_cons_of_mem _ (List.mem_cons_of_mem _ hp))) ?_ h46 hq hg).weaken ?_ ?_
  · intro p hp
    rcases List.mem_cons.mp hp with rfl | hp
    · exact hx1.1
    · rcases List.mem_cons.mp hp with rfl | hp
      · exact fun e => nomatch e
      · exact (hT.2.2 p hp).1
  · intro p hp
    simp only [List.mem_cons] at hp ⊢
    rcases hp with h | h | h | h
    · exact .inr (.inr (.inl h))
    · exact .inl h
    · exact .inr (.inl h)
    · exact .inr (.inr (.inr h))
  · rintro v nw ⟨hv, ps', e', h1, h2, rfl⟩
    refine ⟨x :: (94, tabObj pa) :: (87, tabObj ps') :: ((e' ++ ex) ++ R), ?_, hv, ps', e' ++ ex, ⟨?_, ?_, ?_⟩, ?_, rfl⟩
    · intro p hp
      simp only [List.mem_cons, List.mem_append] at hp ⊢
      rcases hp with h | h | h | (h | h) | h
      · exact .inr (.inr (.inl h))
      · exact .inr (.inr (.inr (.inl h)))
      · exact .inl h
      · exact .inr (.inl h)
      · exact .inr (.inr (.inr (.inr (.inl h))))
      · exact .inr (.inr (.inr (.inr (.inr h))))
    · refine h1.shift ?_
      intro p hp
      simp only [List.mem_cons, List.mem_append] at hp ⊢
      rcases hp with h | h | h | h | h
      · exact .inl (.inl (.inl h))
      · exact .inr (h ▸ hx)
      · exact .inr (by rw [h]; exact hT.2.1.noCode)
      · exact .inl (.inl (.inr h))
      · exact .inl (.inr h)
    · refine hT.2.1.mono ?_
      intro p hp
      rw [List.append_assoc]
      exact List.mem_append_right _ hp
    · intro p hp
      rw [List.append_assoc] at hp
      rcases List.mem_append.mp hp with h | h
      · exact ⟨(h2 p h).1, Nat.ne_of_gt ((h2 p h).2 (94, tabObj pa) (List.mem_cons_of_mem _ List.mem_cons_self))⟩
      · exact hT.2.2 p h
    · intro p hp
      rw [List.append_assoc] at hp
      rcases List.mem_append.mp hp with h | h
      · exact Nat.ne_of_gt ((h2 p h).2 x List.mem_cons_self)
      · exact ho p h
theorem bh_L (w : World) (x : Addr × Obj) (pa pb : Array Value) (ex R : List (Addr × Obj)) (q g : Str) (tq tg : Tok) (hT : Tabs9 pa pb (ex ++ R)) (hx : NoCode9 x.2) (hx1 : x.1 ≠ 87 ∧ x.1 ≠ 94) (ho : ∀ p ∈ ex ++ R, p.1 ≠ x.1) (hR : ∃ p ∈ R, 87 < p.1) (h46 : 46 ∉ cpl q) (hq : q.length < 100) (hg : g.length < 100) :
    Spec9 w 10 (x :: (94, tabObj pa) :: (87, tabObj pb) :: (ex ++ R)) (call (.ref 99) [.str q tq, .str g tg])
      (fun v nw => (∃ t, v = .int (suf9 q g : Nat) t) ∧ ∃ pa' ex', Tabs9 pa' pb (ex' ++ R) ∧ (∀ p ∈ ex' ++ R, p.1 ≠ x.1) ∧ nw = x :: (94, tabObj pa') :: (87, tabObj pb) :: (ex' ++ R)) := by
  refine (bh_c w pa (x :: (87, tabObj pb) :: (ex ++ R)) q g tq tg (hT.2.1.mono (fun p hp => List.mem_cons_of_mem _ (List.mem_cons_of_mem _ hp))) ?_ h46 hq hg).weaken ?_ ?_
  · intro p hp
    rcases List.mem_cons.mp hp with rfl | hp
    · exact hx1.2
    · rcases List.mem_cons.mp hp with rfl | hp
      · exact fun e => nomatch e
      · exact (hT.2.2 p hp).2
  · intro p hp
    simp only [List.mem_cons] at hp ⊢
    rcases hp with h | h | h | h
    · exact .inr (.inl h)
    · exact .inl h
    · exact .inr (.inr (.inl h))
    · exact .inr (.inr (.inr h))
  · rintro v nw ⟨hv, ps', e', h1, h2, rfl⟩
    refine ⟨x :: (94, tabObj ps') :: (87, tabObj pb) :: ((e' ++ ex) ++ R), ?_, hv, ps', e' ++ ex, ⟨?_, ?_, ?_⟩, ?_, rfl⟩
    · intro p hp
      simp only [List.mem_cons, List.mem_append] at hp ⊢
      rcases hp with h | h | h | (h | h) | h
      · exact .inr (.inr (.inl h))
      · exact .inl h
      · exact .inr (.inr (.inr (.inl h)))
      · exact .inr (.inl h)
      · exact .inr (.inr (.inr (.inr (.inl h))))
      · exact .inr (.inr (.inr (.inr (.inr h))))
    · refine hT.1.mono ?_
      intro p hp
      rw [List.append_assoc]
      exact List.mem_append_right _ hp
    · refine h1.shift ?_
      intro p hp
      simp only [List.mem_cons, List.mem_append] at hp ⊢
      rcases hp with h | h | h | h | h
      · exact .inl (.inl (.inl h))
      · exact .inr (h ▸ hx)
      · exact .inr (by rw [h]; exact hT.1.noCode)
      · exact .inl (.inl (.inr h))
      · exact .inl (.inr h)
    · intro p hp
      rw [List.append_assoc] at hp
      rcases List.mem_append.mp hp with h | h
      · obtain ⟨r, hr, hlt⟩ := hR
        exact ⟨Nat.ne_of_gt (Nat.lt_trans hlt ((h2 p h).2 r (List.mem_cons_of_mem _ (List.mem_cons_of_mem _ (List.mem_append_right _ hr))))), (h2 p h).1⟩
      · exact hT.2.2 p h
    · intro p hp
      rw [List.append_assoc] at hp
      rcases List.mem_append.mp hp with h | h
      · exact Nat.ne_of_gt ((h2 p h).2 x List.mem_cons_self)
      · exact ho p h
theorem addr_ne9 {h₀ h : Heap} {L : Addr} {nx : List (Addr × Obj)} (N : News h₀ L h nx) {p q : Addr × Obj} (hp : p ∈ nx) (hq : q ∈ nx) (hne : p.2 ≠ q.2) : p.1 ≠ q.1 := by
  intro e
  have h1 := (N p hp).1
  have h2 := (N q hq).1
  rw [e, h2] at h1
  exact hne (Option.some.inj h1).symm
noncomputable def okA (n : Nat) : KasT (Array Nat) → Bool
  | .ret a => a.toList.all (fun i => decide (i < n))
  | .ask _ _ k => okA n (k true) && okA n (k false)
theorem okA_run {lt : Nat → Nat → Bool} {n : Nat} : ∀ (t : KasT (Array Nat)), okA n t = true → ∀ i ∈ (runT lt t).toList, i < n
  | .ret a, h => by
    intro i hi
    have hi' : i ∈ a.toList := hi
    simp only [okA, List.all_eq_true, decide_eq_true_eq] at h
    exact h i hi'
  | .ask i j k, h => by
    simp only [okA, Bool.and_eq_true] at h
    refine okA_run (k (lt i j)) ?_
    cases lt i j
    · exact h.2
    · exact h.1
theorem okA_sort : ∀ n, 2 ≤ n → n ≤ 6 → okA n (kas_sort n) = true := by
  intro n h1 h2
  have h : n = 2 ∨ n = 3 ∨ n = 4 ∨ n = 5 ∨ n = 6 := by omega
  rcases h with rfl | rfl | rfl | rfl | rfl <;> decide +kernel
theorem strsAre_get {vs : List Value} {ss : List Str} (h : StrsAre vs ss) : ∀ {i : Nat}, i < ss.length → ∃ t, vs.getD i Value.none = .str (ss.getD i ⟨#[]⟩) t := by
  induction h with
  | nil => intro i hi; simp at hi
  | cons x t r ih =>
    intro i hi
    cases i with
    | zero => exact ⟨t, rfl⟩
    | succ i => exact ih (by simpa using hi)
section
variable {prog : Program} {w : World} {A : Around} {E : Value → Shared → Prop} {s : Shared} {h₀ : Heap} {L : Addr} {m : Str → Option Value} {news rest : List (Addr × Obj)}
theorem keys9 {f : Value} {kS : Addr} {n : Nat} {kf : Int → Str} {Fin : List Value → Nat → Shared → Prop} (hoff : ∀ p ∈ rest, p.1 ≠ kS)
    (hcall : ∀ (nw : List (Addr × Obj)) (i : Int) (ti : Tok) (s' : Shared) (C : Value → Shared → Prop), i ∈ rangeKs 0 n → (∀ p ∈ rest, p ∈ nw) → Fr h₀ L s'.heap m → News h₀ L s'.heap nw →
      (∀ t' h' tk', Fr h₀ L h' m → News h₀ L h' nw → C (.str (kf i) t') { s' with heap := h', toks := tk' }) → wpAny (model prog w) A (call f [.int i ti]) C (fun _ _ => False) s') :
    ∀ (r : List Value) (is : List Int) (ks : List Value) (kz : List Str) (e : Nat) (s' : Shared), IntsAre r is → (∀ i ∈ is, i ∈ rangeKs 0 n) → StrsAre ks kz → Fr h₀ L s'.heap m → News h₀ L s'.heap ((kS, seqObj "list" ks.toArray e) :: rest) →
      (∀ ks' e' h' tk', StrsAre ks' (kz ++ is.map kf) → Fr h₀ L h' m → News h₀ L h' ((kS, seqObj "list" ks'.toArray e') :: rest) → Fin ks' e' { s' with heap := h', toks := tk' }) →
      KatKeys prog w A h₀ L m kS f Fin r ks e s' := by
  intro r is ks kz e s' hi
  induction hi generalizing ks kz e s' with
  | nil =>
    intro _ hk F' N' fin
    refine KatKeys.nil ?_
    exact fin ks e s'.heap s'.toks (by simpa using hk) F' N'
  | cons x t r ih =>
    intro hm hk F' N' fin
    refine KatKeys.cons (hcall _ x t s' _ (hm x List.mem_cons_self) (fun p hp => List.mem_cons_of_mem _ hp) F' N' ?_)
    intro t' h' tk' F1 N1
    refine KatBack.intro F1 N1 (UpdF.head hoff) ?_
    intro h2 c F2 N2
    refine ih (ks ++ [.str (kf x) t']) (kz ++ [kf x]) c { s' with heap := h2, toks := tk' } (fun i hi => hm i (List.mem_cons_of_mem _ hi)) (kct_snoc hk) F2 N2 ?_
    intro ks' e' h3 tk3 hk3 F3 N3
    exact fin ks' e' h3 tk3 (by simpa [List.append_assoc] using hk3) F3 N3
theorem sortedR9 {Q : Value → Shared → Prop} {kw : List (Str × Value)} {f : Value} {r : Addr} {t u v : Tok} {n : Nat} (F : Fr h₀ L s.heap m) (N : News h₀ L s.heap news) (hh : A.handled = none) (hr : IsRange s.heap r 0 (n : Int) 1 t u v) (h2 : 2 ≤ n) (h6 : n ≤ 6)
    (ha1 : argsOk "sorted" ⟨[.ref r], kw⟩) (ha2 : ∀ x, argsOk "list.sort" ⟨[.ref x], kw⟩) (ht : ∀ x, Builtin.«list.sort» ⟨[.ref x], kw⟩ = ksk_tree x f false) (kf : Int → Str)
    (hcall : ∀ (nw : List (Addr × Obj)) (i : Int) (ti : Tok) (s' : Shared) (C : Value → Shared → Prop), i ∈ rangeKs 0 n → (∀ p ∈ news, p ∈ nw) → Fr h₀ L s'.heap m → News h₀ L s'.heap nw →
      (∀ t' h' tk', Fr h₀ L h' m → News h₀ L h' nw → C (.str (kf i) t') { s' with heap := h', toks := tk' }) → wpAny (model prog w) A.in1.in1 (call f [.int i ti]) C (fun _ _ => False) s')
    (h : ∀ D vs' c h' tk, IntsAre vs' ((runT (fun i j : Nat => strLt (kf (i : Int)) (kf (j : Int))) (kas_sort n)).toList.map fun i : Nat => (i : Int)) → Fr h₀ L h' m → News h₀ L h' ((D, listOf vs'.toArray c) :: news) → (∀ q ∈ news, q.1 < D) → Q (.ref D) { s with heap := h', toks := tk }) :
    wpAny (model prog w) A (call (.builtin "sorted") [.ref r] kw) Q E s := by
  refine call_function_entry_kw kind_sorted plain_sorted entry_sorted ha1 ?_
  unfold Builtin.«sorted»
  refine wpAny_bind (m := checkCount "sorted" 1 1 _) (wpAny_pure ?_)
  refine wpAny_bind (collect_range9 (A := A.in1) hh hr (small_one (by omega) (by omega) (by omega) (by omega)) (n := n) (by rw [rangeSize_nat]; omega) (by omega) ?_)
  intro h1 tk1 acc hk hacc
  have hI : IntsAre acc.toList (rangeKs 0 n) := kll_ints _ _ _ (by rw [Array.length_toList]; exact hacc.1) fun j v hj => by
    obtain ⟨t, e⟩ := hacc.2 j v (by rw [← hj, Array.getElem?_toList])
    exact ⟨t, by rw [e]⟩
  have F1 : Fr h₀ L h1 m := F.keeps hk
  have N1 : News h₀ L h1 news := fun p hp => ⟨hk _ _ (N p hp).1, (N p hp).2⟩
  have hvl : acc.toList.length = n := by rw [hI.length, rangeKs_length]
  generalize hvs : acc.toList = vs at hI hvl
  refine wpAny_bind (wpAny_newList ?_ (by rw [hvl, sizeLine_eq]; omega))
  have hoL : (h1.push (seqObj "list" vs.toArray 0)).get? h1.objs.size = some (seqObj "list" vs.toArray 0) := Heap.get?_push_size _ rfl
  have keep : ∀ b o, h1.get? b = some o → (h1.push (seqObj "list" vs.toArray 0)).get? b = some o := fun b o q => Heap.get?_push_of_some _ q
  have hL : L < h1.objs.size := F1.ns.lt
  refine wpAny_bind (wpAny_holding (wpAny_call_entry_kw slot_list_sort ⟨_, hoL, rfl⟩ entry_list_sort ?body (ha2 _)))
  case body =>
    have ht' := ht h1.objs.size
    show wpAny (model prog w) A.in1.in1 (Builtin.«list.sort» ⟨[.ref h1.objs.size], kw⟩) _ _ _
    rw [ht']
    refine kat_keyed (b := false) (s := { s with heap := h1.push (seqObj "list" vs.toArray 0), toks := tk1 }) (F1.keeps keep) (fun p hp => ⟨keep _ _ (N1 p hp).1, (N1 p hp).2⟩) hoL (Nat.ne_of_gt hL) (Heap.get?_none_of_le (Nat.le_trans F1.above (Nat.le_of_lt hL)))
      (fun p hp => Nat.ne_of_lt (Heap.lt_size (N1 p hp).1)) (by omega) (by omega) fun kS e1 h' F' N' l0 l1 => ?_
    refine keys9 (rest := (h1.objs.size, seqObj "list" #[] e1) :: news) (n := n) (kf := kf) ?_ (fun nw i ti s' C hi hs => hcall nw i ti s' C hi fun p hp => hs p (List.mem_cons_of_mem _ hp)) vs (rangeKs 0 n) [] [] 0 _ hI (fun _ h => h) .nil F' N' ?_
    · intro p hp
      rcases List.mem_cons.mp hp with rfl | hp
      · exact Nat.ne_of_lt l0
      · exact Nat.ne_of_lt (l1 p hp)
    · intro ks e h3 tk3 hks F3 N3
      rw [List.nil_append] at hks
      have hkl : ks.length = n := by rw [hks.length, List.length_map, rangeKs_length]
      refine kas_kind (T := .type "str") (by omega) ?_ rfl rfl ?_
      · intro v hv
        obtain ⟨i, hi, rfl⟩ := List.mem_iff_getElem.mp hv
        obtain ⟨t, e⟩ := strsAre_get hks (i := i) (by rw [List.length_map, rangeKs_length]; omega)
        rw [List.getD_eq_getElem?_getD, List.getElem?_eq_getElem hi, Option.getD_some] at e
        rw [e]
        exact Looks.of_pure rfl
      · rw [hvl]
        refine wp_runT (lt := fun i j : Nat => strLt (kf (i : Int)) (kf (j : Int))) (n := n) ?_ _ (okT_sort n h2 h6) ?_
        · intro i j C hi hj hC
          show wpAny _ _ (keyLt' oneType' (ks.getD i Value.none) (ks.getD j Value.none)) _ _ _
          have hg : ∀ k : Nat, k < n → ((rangeKs 0 n).map kf).getD k ⟨#[]⟩ = kf (k : Int) := by
            intro k hk
            rw [List.getD_eq_getElem?_getD, List.getElem?_map, rangeKs, List.getElem?_map, List.getElem?_range hk]
            simp
          obtain ⟨t1, e1⟩ := strsAre_get hks (i := i) (by rw [List.length_map, rangeKs_length]; omega)
          obtain ⟨t2, e2⟩ := strsAre_get hks (i := j) (by rw [List.length_map, rangeKs_length]; omega)
          rw [e1, e2, hg i hi, hg j hj]
          exact kas_lt_str hC
        · refine KatFin.intro F3 N3 (UpdF.head ?_) fun h4 c4 F4 N4 => KasFin.intro F4 N4 (UpdF.tail ?_ (UpdF.head ?_)) fun h5 c5 F5 N5 => ?_
          · intro p hp
            rcases List.mem_cons.mp hp with rfl | hp
            · exact Nat.ne_of_lt l0
            · exact Nat.ne_of_lt (l1 p hp)
          · exact Nat.ne_of_gt l0
          · exact fun p hp => Nat.ne_of_lt (Heap.lt_size (N1 p hp).1)
          · refine ⟨_, rfl, wpAny_pure ⟨_, rfl, h _ _ c5 h5 tk3 ?_ F5 (fun p hp => N5 p (List.mem_cons_of_mem _ hp)) (fun q hq => Heap.lt_size (N1 q hq).1)⟩⟩
            have hlt := okA_run (lt := fun i j : Nat => strLt (kf (i : Int)) (kf (j : Int))) _ (okA_sort n h2 h6)
            show IntsAre (List.map (fun i => (katRev false vs).getD i Value.none) _) _
            generalize (runT (fun i j : Nat => strLt (kf (i : Int)) (kf (j : Int))) (kas_sort n)).toList = zs at hlt
            clear N5 F5
            induction zs with
            | nil => exact .nil
            | cons z zs ih =>
              have hz := hlt z List.mem_cons_self
              have hgz : (rangeKs 0 n)[z]? = some (z : Int) := by
                rw [rangeKs, List.getElem?_map, List.getElem?_range hz]
                simp
              obtain ⟨t, e⟩ := hI.get z _ hgz
              rw [List.map_cons, List.map_cons, show (katRev false vs).getD z Value.none = .int (z : Int) t from by
                show vs.getD z Value.none = _
                rw [List.getD_eq_getElem?_getD, e, Option.getD_some]]
              exact .cons _ _ (ih fun i hi => hlt i (List.mem_cons_of_mem _ hi))
end
theorem newsRange9 {h₀ h h' : Heap} {L : Addr} {m : Str → Option Value} {news : List (Addr × Obj)} {a b c : Int} {t u v : Tok} (F : Fr h₀ L h m) (R : IsRange h' h.objs.size a b c t u v) (N : News h₀ L h' news) :
    News h₀ L h' ((h.objs.size, { cls := .type "range", dict := none, data := .fields #[.int a t, .int b u, .int c v], slots := #[] }) :: news) := by
  intro p hp
  rcases List.mem_cons.mp hp with rfl | hp
  · exact ⟨R, Nat.ne_of_gt F.ns.lt, Heap.get?_none_of_le (Nat.le_trans F.above (Nat.le_of_lt F.ns.lt))⟩
  · exact N p hp
theorem rangeOf9 {h₀ h : Heap} {L r : Addr} {news : List (Addr × Obj)} {a b c : Int} {t u v : Tok} (N : News h₀ L h news) (hm : (r, ({ cls := .type "range", dict := none, data := .fields #[.int a t, .int b u, .int c v], slots := #[] } : Obj)) ∈ news) : IsRange h r a b c t u v := (N _ hm).1
theorem rangeLt9 {h₀ h h' : Heap} {L : Addr} {m : Str → Option Value} {a b c : Int} {t u v : Tok} (F : Fr h₀ L h m) (_R : IsRange h' h.objs.size a b c t u v) : @LT.lt Nat _ L h.objs.size := F.ns.lt
theorem sub_nil9 {α : Type} {nx : List α} : ∀ p ∈ ([] : List α), p ∈ nx := fun _ h => nomatch h
theorem sub_cons9 {α : Type} {x : α} {r nx : List α} (h : x ∈ nx) (t : ∀ p ∈ r, p ∈ nx) : ∀ p ∈ x :: r, p ∈ nx := fun p hp => (List.mem_cons.mp hp).elim (fun e => e ▸ h) (t p)
theorem off_cons9 {l : Addr} {x : Addr × Obj} {r : List (Addr × Obj)} (h : x.1 ≠ l) (t : ∀ p ∈ r, p.1 ≠ l) : ∀ p ∈ x :: r, p.1 ≠ l := fun p hp => (List.mem_cons.mp hp).elim (fun e => e ▸ h) (t p)
noncomputable def insRs (kf : Int → Str) : Nat → List Int
  | 0 => []
  | k + 1 => insAt (insRs kf k) (bis (fun i => !strLt (kf (k : Int)) (kf ((insRs kf k).getD i 0))) (insRs kf k).length 0 (insRs kf k).length) (k : Int)
noncomputable def insLs (kf : Int → Str) : Nat → List Int
  | 0 => []
  | k + 1 => insAt (insLs kf k) (bis (fun i => strLt (kf ((insLs kf k).getD i 0)) (kf (k : Int))) (insLs kf k).length 0 (insLs kf k).length) (k : Int)
theorem insAt_len (ns : List Int) (k : Nat) (x : Int) (h : k ≤ ns.length) : (insAt ns k x).length = ns.length + 1 := by
  unfold insAt
  rw [List.length_append, List.length_cons, List.length_take, List.length_drop]
  omega
theorem insAt_mem {ns : List Int} {k : Nat} {x y : Int} (h : y ∈ insAt ns k x) : y = x ∨ y ∈ ns := by
  unfold insAt at h
  rcases List.mem_append.mp h with h | h
  · exact .inr (List.mem_of_mem_take h)
  · rcases List.mem_cons.mp h with h | h
    · exact .inl h
    · exact .inr (List.mem_of_mem_drop h)
theorem insRs_len (kf : Int → Str) : ∀ k, (insRs kf k).length = k
  | 0 => rfl
  | k + 1 => by
    unfold insRs
    rw [insAt_len _ _ _ (bis_le _ _ _ _ (Nat.zero_le _)), insRs_len kf k]
theorem insLs_len (kf : Int → Str) : ∀ k, (insLs kf k).length = k
  | 0 => rfl
  | k + 1 => by
    unfold insLs
    rw [insAt_len _ _ _ (bis_le _ _ _ _ (Nat.zero_le _)), insLs_len kf k]
theorem insRs_mem (kf : Int → Str) : ∀ k, ∀ y ∈ insRs kf k, 0 ≤ y ∧ y < (k : Int)
  | 0, y, h => nomatch h
  | k + 1, y, h => by
    rcases insAt_mem h with rfl | h
    · omega
    · have := insRs_mem kf k y h
      omega
theorem insLs_mem (kf : Int → Str) : ∀ k, ∀ y ∈ insLs kf k, 0 ≤ y ∧ y < (k : Int)
  | 0, y, h => nomatch h
  | k + 1, y, h => by
    rcases insAt_mem h with rfl | h
    · omega
    · have := insLs_mem kf k y h
      omega
section
variable {P : Prop} {h₀ h : Heap} {L : Addr} {x1 x2 x3 x4 x5 x6 x7 : Addr × Obj} {R : List (Addr × Obj)}
end
noncomputable def qual_l : Str := Str.ofString "law" ++ Str.ofString ".<locals>." ++ Str.ofString "<lambda>"
noncomputable def Full9 (ps : Array Value) (ex : List (Addr × Obj)) : Prop :=
  ∃ c1 c2 oc1 oc2 vs1 vs2 t1 t2, ps = #[rawInt 124, rawInt 33, .ref c1, rawInt 125, rawInt 33, .ref c2] ∧ (c1, oc1) ∈ ex ∧ (c2, oc2) ∈ ex ∧ oc1.data = .fields vs1 ∧ vs1[1]? = some (.str qual_l t1) ∧ oc2.data = .fields vs2 ∧ vs2[1]? = some (.str qual_l t2)
/-- the law's inner codes: none yet, or the loop's two -/
noncomputable def Two9 (i : Nat) (ps : Array Value) (ex : List (Addr × Obj)) : Prop := (i = 0 ∧ ps = #[]) ∨ Full9 ps ex
noncomputable def One9 (ps : Array Value) (ex : List (Addr × Obj)) : Prop :=
  (∃ c1 oc1 vs1 t1, ps = #[rawInt 124, rawInt 33, .ref c1] ∧ (c1, oc1) ∈ ex ∧ oc1.data = .fields vs1 ∧ vs1[1]? = some (.str qual_l t1)) ∨ Full9 ps ex
theorem Full9.mono {ps : Array Value} {ex ex' : List (Addr × Obj)} (h : Full9 ps ex) (hs : ∀ p ∈ ex, p ∈ ex') : Full9 ps ex' := by
  obtain ⟨c1, c2, oc1, oc2, vs1, vs2, t1, t2, e, m1, m2, r⟩ := h
  exact ⟨c1, c2, oc1, oc2, vs1, vs2, t1, t2, e, hs _ m1, hs _ m2, r⟩
noncomputable def Case9 (pos : Pos) (ps : Array Value) (news : List (Addr × Obj)) : Prop := codeAmong pos ps.toList = none ∨ ∃ c' oc vs t, codeAmong pos ps.toList = some (.ref c') ∧ (c', oc) ∈ news ∧ oc.data = .fields vs ∧ vs[1]? = some (.str qual_l t)
noncomputable def Next9 (pos : Pos) (ps ps' : Array Value) (news ex : List (Addr × Obj)) (c' f : Addr) (oc : Obj) : Prop :=
  (ps' = ps ∧ ex = [] ∧ codeAmong pos ps.toList = some (.ref c') ∧ (c', oc) ∈ news) ∨ (ps' = ps ++ #[rawInt pos.line, rawInt pos.col, .ref c'] ∧ ex = [(c', oc)] ∧ codeAmong pos ps.toList = none ∧ (∀ q ∈ news, q.1 < c') ∧ c' < f)
section
variable {pos : Pos} {ps ps' : Array Value} {news ex ex' : List (Addr × Obj)} {c' f : Addr} {oc : Obj} {vs : Array Value} {t : Tok} {i : Nat}
theorem two_tri (h : Two9 i ps ex) : TriplesOk ps.toList := by
  rcases h with ⟨-, rfl⟩ | ⟨c1, c2, oc1, oc2, vs1, vs2, t1, t2, rfl, -⟩ <;> exact True.intro
theorem one_tri (h : One9 ps ex) : TriplesOk ps.toList := by
  rcases h with ⟨c1, oc1, vs1, t1, rfl, -⟩ | ⟨c1, c2, oc1, oc2, vs1, vs2, t1, t2, rfl, -⟩ <;> exact True.intro
theorem two_case (h : Two9 i ps ex) (hs : ∀ p ∈ ex, p ∈ news) (h1 : pos.line = 124) (h2 : pos.col = 33) : Case9 pos ps news := by
  rcases h with ⟨-, rfl⟩ | ⟨c1, c2, oc1, oc2, vs1, vs2, t1, t2, rfl, m1, m2, q1, q2, q3, q4⟩
  · exact .inl rfl
  · exact .inr ⟨c1, oc1, vs1, t1, by simp [codeAmong, rawInt, h1, h2], hs _ m1, q1, q2⟩
theorem one_case (h : One9 ps ex) (hs : ∀ p ∈ ex, p ∈ news) (h1 : pos.line = 125) (h2 : pos.col = 33) : Case9 pos ps news := by
  rcases h with ⟨c1, oc1, vs1, t1, rfl, -⟩ | ⟨c1, c2, oc1, oc2, vs1, vs2, t1, t2, rfl, m1, m2, q1, q2, q3, q4⟩
  · exact .inl (by simp [codeAmong, rawInt, h1])
  · exact .inr ⟨c2, oc2, vs2, t2, by simp [codeAmong, rawInt, h1, h2], hs _ m2, q3, q4⟩
theorem two_next (h : Two9 i ps ex) (n : Next9 pos ps ps' news ex' c' f oc) (h1 : pos.line = 124) (h2 : pos.col = 33) (hd : oc.data = .fields vs) (hv : vs[1]? = some (.str qual_l t)) : One9 ps' (ex' ++ ex) := by
  rcases n with ⟨rfl, rfl, hf, -⟩ | ⟨rfl, rfl, hn, -, -⟩
  · rcases h with ⟨-, rfl⟩ | h
    · cases hf
    · exact .inr h
  · rcases h with ⟨-, rfl⟩ | ⟨c1, c2, oc1, oc2, vs1, vs2, t1, t2, rfl, -⟩
    · exact .inl ⟨c', oc, vs, t, by rw [h1, h2]; rfl, List.mem_cons_self, hd, hv⟩
    · simp [codeAmong, rawInt, h1, h2] at hn
theorem one_next (h : One9 ps ex) (n : Next9 pos ps ps' news ex' c' f oc) (h1 : pos.line = 125) (h2 : pos.col = 33) (hd : oc.data = .fields vs) (hv : vs[1]? = some (.str qual_l t)) : Full9 ps' (ex' ++ ex) := by
  rcases n with ⟨rfl, rfl, hf, -⟩ | ⟨rfl, rfl, hn, -, -⟩
  · rcases h with ⟨c1, oc1, vs1, t1, rfl, -⟩ | h
    · simp [codeAmong, rawInt, h1] at hf
    · exact h
  · rcases h with ⟨c1, oc1, vs1, t1, rfl, m1, q1, q2⟩ | ⟨c1, c2, oc1, oc2, vs1, vs2, t1, t2, rfl, -⟩
    · exact ⟨c1, c', oc1, oc, vs1, vs, t1, t, by rw [h1, h2]; rfl, List.mem_cons_of_mem _ m1, List.mem_cons_self, q1, q2, hd, hv⟩
    · simp [codeAmong, rawInt, h1, h2] at hn
theorem off_next {l : Addr} {o : Obj} (h : ∀ p ∈ ex, p.1 ≠ l) (hm : (l, o) ∈ news) (n : Next9 pos ps ps' news ex' c' f oc) : ∀ p ∈ ex' ++ ex, p.1 ≠ l := by
  intro p hp
  rcases List.mem_append.mp hp with hp | hp
  · rcases n with ⟨-, rfl, -⟩ | ⟨-, rfl, -, hl, -⟩
    · exact nomatch hp
    · rw [List.mem_singleton.mp hp]
      exact Nat.ne_of_gt (hl _ hm)
  · exact h p hp
end
theorem stat13 {L x : Addr} {Z a b : Array Value} {on os ow ot : Obj} {EX : List (Addr × Obj)} (hx : @LT.lt Nat _ (L + 1 + 1 + 1 + 1) x) (hL : @LT.lt Nat _ 104 L) (h : ∀ p ∈ EX, p.1 ≠ x) :
    ∀ p ∈ (101, tabObj Z) :: (L + 1 + 1 + 1, on) :: (L + 1, os) :: (L + 1 + 1 + 1 + 1, ow) :: (L + 1 + 1, ot) :: (94, tabObj a) :: (87, tabObj b) :: EX, p.1 ≠ x := by
  refine off_cons9 ?_ (off_cons9 ?_ (off_cons9 ?_ (off_cons9 ?_ (off_cons9 ?_ (off_cons9 ?_ (off_cons9 ?_ h)))))) <;> (dsimp only; refine neN ?_; omega)
theorem stat101 {L : Addr} {a b : Array Value} {on os ow ot : Obj} {EX : List (Addr × Obj)} (hL : @LT.lt Nat _ 104 L) (h : ∀ p ∈ EX, p.1 ≠ 101) :
    ∀ p ∈ (L + 1 + 1 + 1, on) :: (L + 1, os) :: (L + 1 + 1 + 1 + 1, ow) :: (L + 1 + 1, ot) :: (94, tabObj a) :: (87, tabObj b) :: EX, p.1 ≠ 101 := by
  refine off_cons9 ?_ (off_cons9 ?_ (off_cons9 ?_ (off_cons9 ?_ (off_cons9 ?_ (off_cons9 ?_ h))))) <;> (dsimp only; refine neN ?_; omega)
theorem perm13 {h₀ h : Heap} {L : Addr} {f i x y t o1 o2 o3 o4 o5 o6 : Addr × Obj} {e r : List (Addr × Obj)} (N : News h₀ L h (f :: (e ++ i :: x :: y :: t :: o1 :: o2 :: o3 :: o4 :: o5 :: o6 :: r))) :
    News h₀ L h (x :: f :: i :: y :: t :: o1 :: o2 :: o3 :: o4 :: o5 :: o6 :: (e ++ r)) ∧ ∀ p ∈ e ++ i :: x :: y :: t :: o1 :: o2 :: o3 :: o4 :: o5 :: o6 :: r, p ∈ x :: f :: i :: y :: t :: o1 :: o2 :: o3 :: o4 :: o5 :: o6 :: (e ++ r) := by
  refine ⟨fun p hp => N p ?_, fun p hp => ?_⟩ <;> simp only [List.mem_cons, List.mem_append] at hp ⊢
  · rcases hp with h | h | h | h | h | h | h | h | h | h | h | h | h <;> simp [h]
  · rcases hp with h | h | h | h | h | h | h | h | h | h | h | h <;> simp [h]
theorem perm13b {h₀ h : Heap} {L : Addr} {f x f1 i y t o1 o2 o3 o4 o5 o6 : Addr × Obj} {e r : List (Addr × Obj)} (N : News h₀ L h (f :: (e ++ x :: f1 :: i :: y :: t :: o1 :: o2 :: o3 :: o4 :: o5 :: o6 :: r))) :
    News h₀ L h (y :: f :: x :: f1 :: i :: t :: o1 :: o2 :: o3 :: o4 :: o5 :: o6 :: (e ++ r)) ∧ ∀ p ∈ e ++ x :: f1 :: i :: y :: t :: o1 :: o2 :: o3 :: o4 :: o5 :: o6 :: r, p ∈ y :: f :: x :: f1 :: i :: t :: o1 :: o2 :: o3 :: o4 :: o5 :: o6 :: (e ++ r) := by
  refine ⟨fun p hp => N p ?_, fun p hp => ?_⟩ <;> simp only [List.mem_cons, List.mem_append] at hp ⊢
  · rcases hp with h | h | h | h | h | h | h | h | h | h | h | h | h | h <;> simp [h]
  · rcases hp with h | h | h | h | h | h | h | h | h | h | h | h | h <;> simp [h]
theorem item2 {S : Str} {c0 c1 : Nat} (hS : cpl S = [c0, c1]) : cpl (Txt.item S 0) = [c0] ∧ cpl (Txt.item S 1) = [c1] := by
  obtain ⟨⟨l⟩⟩ := S
  have e : l = [c0, c1] := hS
  subst e
  exact ⟨rfl, rfl⟩
noncomputable def sg9 (c0 c1 : Nat) (b : Bool) : Nat := if b then c1 else c0
noncomputable def Bits9 (c0 c1 lf0 left : Nat) (x y : Str) : Prop :=
  1 ≤ left ∧ ∃ bs : List Bool, cpl x = bs.map (sg9 c0 c1) ∧ cpl y = bs.map (fun b => sg9 c0 c1 (!b)) ∧ 2 ^ bs.length * left ≤ lf0 ∧ lf0 < 2 ^ bs.length * (left + 1)
theorem Bits9.step {S : Str} {c0 c1 lf0 left : Nat} {x y : Str} (hS : cpl S = [c0, c1]) (h : Bits9 c0 c1 lf0 left x y) (h1 : 1 < left) :
    Bits9 c0 c1 lf0 (left / 2) (Txt.item S ((left : Int).fmod 2) ++ x) (Txt.item S (1 - (left : Int).fmod 2) ++ y) := by
  obtain ⟨h0, bs, e1, e2, l1, l2⟩ := h
  have hf : ((left : Int)).fmod 2 = ((left % 2 : Nat) : Int) := (Int.ofNat_fmod left 2).symm
  refine ⟨by clear hS h0 e1 e2 l1 l2; omega, decide (left % 2 = 1) :: bs, ?_, ?_, ?_, ?_⟩
  · rw [cpl_append, e1, hf]
    rcases Nat.mod_two_eq_zero_or_one left with q | q
    · rw [q]; simp [(item2 hS).1, sg9]
    · rw [q]; simp [(item2 hS).2, sg9]
  · rw [cpl_append, e2, hf]
    rcases Nat.mod_two_eq_zero_or_one left with q | q
    · rw [q]; simp [(item2 hS).2, sg9]
    · rw [q]; simp [(item2 hS).1, sg9]
  · rw [List.length_cons, Nat.pow_succ, Nat.mul_assoc]
    exact Nat.le_trans (Nat.mul_le_mul_left _ (by clear hS h1 h0 e1 e2 l1 l2; omega)) l1
  · rw [List.length_cons, Nat.pow_succ, Nat.mul_assoc]
    exact Nat.lt_of_lt_of_le l2 (Nat.mul_le_mul_left _ (by clear hS h1 h0 e1 e2 l1 l2; omega))
theorem Bits9.fin {c0 c1 lf0 left : Nat} {x y : Str} (h : Bits9 c0 c1 lf0 left x y) (h1 : ¬ 1 < left) (h4 : 4 ≤ lf0) (h128 : lf0 < 128) :
    ∃ bs : List Bool, 2 ≤ bs.length ∧ bs.length ≤ 6 ∧ cpl x = bs.map (sg9 c0 c1) ∧ cpl y = bs.map (fun b => sg9 c0 c1 (!b)) := by
  obtain ⟨h0, bs, e1, e2, l1, l2⟩ := h
  have e : left = 1 := by clear h4 h128 e1 e2 l1 l2; omega
  subst e
  refine ⟨bs, ?_, ?_, e1, e2⟩
  · rcases Nat.lt_or_ge bs.length 2 with q | q
    · exfalso
      have := Nat.pow_le_pow_right (n := 2) (by clear h4 h128 e1 e2 h1 h0 l1 l2 q; omega) (show bs.length ≤ 1 by clear h4 h128 e1 e2 h1 h0 l1 l2; omega)
      clear e1 e2 h1 h0 l1 q; omega
    · exact q
  · rcases Nat.lt_or_ge 6 bs.length with q | q
    · exfalso
      have := Nat.pow_le_pow_right (n := 2) (by clear h4 h128 e1 e2 h1 h0 l1 l2 q; omega) (show 7 ≤ bs.length by clear h4 h128 e1 e2 h1 h0 l1 l2; omega)
      clear e1 e2 h1 h0 l2 q; omega
    · exact q
noncomputable def allB : Nat → List (List Bool)
  | 0 => [[]]
  | n + 1 => (allB n).flatMap fun b => [false :: b, true :: b]
theorem mem_allB : ∀ b : List Bool, b ∈ allB b.length
  | [] => List.mem_singleton.mpr rfl
  | x :: b => by
    show x :: b ∈ (allB b.length).flatMap fun b => [false :: b, true :: b]
    refine List.mem_flatMap.mpr ⟨b, mem_allB b, ?_⟩
    cases x <;> simp
noncomputable def ltB : List Bool → List Bool → Bool
  | _, [] => false
  | [], _ :: _ => true
  | x :: l, y :: m => if x = y then ltB l m else y
theorem lt_map {c0 c1 : Nat} (h : c0 < c1) : ∀ l m : List Bool, decide (l.map (sg9 c0 c1) < m.map (sg9 c0 c1)) = ltB l m
  | [], [] => by simp [ltB]
  | _ :: _, [] => by simp [ltB]
  | [], _ :: _ => by simp [ltB]
  | x :: l, y :: m => by
    rw [List.map_cons, List.map_cons]
    unfold ltB
    rw [← lt_map h l m]
    cases x <;> cases y <;> simp [sg9, List.cons_lt_cons_iff] <;> omega
theorem sg_inj {c0 c1 : Nat} (h : c0 < c1) : ∀ {l m : List Bool}, l.map (sg9 c0 c1) = m.map (sg9 c0 c1) → l = m
  | [], [], _ => rfl
  | _ :: _, [], e => by simp at e
  | [], _ :: _, e => by simp at e
  | x :: l, y :: m, e => by
    rw [List.map_cons, List.map_cons] at e
    injection e with e1 e2
    rw [sg_inj h e2]
    congr 1
    cases x <;> cases y <;> simp [sg9] at e1 ⊢ <;> omega
theorem pre_map {c0 c1 : Nat} (h : c0 < c1) : ∀ l m : List Bool, (l.map (sg9 c0 c1)).isPrefixOf (m.map (sg9 c0 c1)) = l.isPrefixOf m
  | [], _ => by simp
  | _ :: _, [] => by simp
  | x :: l, y :: m => by
    rw [List.map_cons, List.map_cons, List.isPrefixOf_cons_cons, List.isPrefixOf_cons_cons, pre_map h l m]
    congr 1
    cases x <;> cases y <;> simp [sg9] <;> omega
noncomputable def insRB (lt : Nat → Nat → Bool) : Nat → List Int
  | 0 => []
  | k + 1 => (fun ns : List Int => insAt ns (bis (fun i => !lt k (ns.getD i 0).toNat) ns.length 0 ns.length) (k : Int)) (insRB lt k)
noncomputable def insLB (lt : Nat → Nat → Bool) : Nat → List Int
  | 0 => []
  | k + 1 => (fun ns : List Int => insAt ns (bis (fun i => lt (ns.getD i 0).toNat k) ns.length 0 ns.length) (k : Int)) (insLB lt k)
theorem insRs_B {kf : Int → Str} {lt : Nat → Nat → Bool} (h : ∀ i j : Nat, strLt (kf (i : Int)) (kf (j : Int)) = lt i j) : ∀ k, insRs kf k = insRB lt k
  | 0 => rfl
  | k + 1 => by
    unfold insRs insRB
    rw [insRs_B h k]
    congr 1
    refine bis_congr _ _ _ _ (Nat.le_refl _) fun i hi => ?_
    have hm := insRs_mem kf k ((insRB lt k).getD i 0) (by rw [insRs_B h k]; exact getD_mem9 i hi)
    rw [← h k, Int.toNat_of_nonneg hm.1]
theorem insLs_B {kf : Int → Str} {lt : Nat → Nat → Bool} (h : ∀ i j : Nat, strLt (kf (i : Int)) (kf (j : Int)) = lt i j) : ∀ k, insLs kf k = insLB lt k
  | 0 => rfl
  | k + 1 => by
    unfold insLs insLB
    rw [insLs_B h k]
    congr 1
    refine bis_congr _ _ _ _ (Nat.le_refl _) fun i hi => ?_
    have hm := insLs_mem kf k ((insLB lt k).getD i 0) (by rw [insLs_B h k]; exact getD_mem9 i hi)
    rw [← h _ k, Int.toNat_of_nonneg hm.1]
noncomputable def sufLt (b : List Bool) (i j : Nat) : Bool := ltB (b.drop i) (b.drop j)
noncomputable def lowB (b : List Bool) : List Int := insRB (sufLt b) b.length
noncomputable def highB (b : List Bool) : List Int := insLB (sufLt (b.map (!·))) b.length
noncomputable def plB (b : List Bool) : Nat := ((highB b).getD (b.length - 1) 0).toNat.max ((lowB b).getD (b.length - 1) 0).toNat
noncomputable def fitB (b : List Bool) (i : Nat) : Bool := (b.drop (1 + i)).isPrefixOf b
noncomputable def k0B (b : List Bool) : Nat := ((List.range b.length).find? (fitB b)).getD b.length
noncomputable def mB (b : List Bool) (k : Nat) : Bool := b.drop k == b.take (b.length - k)
noncomputable def rowB (b : List Bool) (cut i : Nat) : Bool := ((b.drop (cut - (1 + i))).take (min cut (b.length - (1 + i)) - (cut - (1 + i)))).isPrefixOf (b.drop (max cut (1 + i)))
noncomputable def ecB (b : List Bool) (cut : Nat) : Nat := ((List.range b.length).find? (rowB b cut)).getD b.length
noncomputable def chkSort (b : List Bool) : Bool := (lowB b == (runT (sufLt b) (kas_sort b.length)).toList.map fun i : Nat => (i : Int)) && (highB b == (runT (sufLt (b.map (!·))) (kas_sort b.length)).toList.map fun i : Nat => (i : Int))
noncomputable def chkPl (b : List Bool) : Bool := decide ((lowB b).length = b.length) && decide ((highB b).length = b.length) && decide ((if (highB b).getD ((highB b).length - 1) 0 > (lowB b).getD ((lowB b).length - 1) 0 then (highB b).getD ((highB b).length - 1) 0 else (lowB b).getD ((lowB b).length - 1) 0) = (plB b : Int))
noncomputable def chkPer (b : List Bool) : Bool := decide (k0B b < b.length) && fitB b (k0B b) && (List.range (k0B b)).all (fun i => !fitB b i) && mB b (k0B b + 1) && (List.range b.length).all (fun i => !mB b (1 + i) || decide (k0B b ≤ i))
noncomputable def chkEc (b : List Bool) : Bool := (List.range (b.length + 1)).all fun cut => decide (ecB b cut < b.length) && rowB b cut (ecB b cut) && (List.range (ecB b cut)).all (fun i => !rowB b cut i) && decide (ecB b cut ≤ k0B b)
noncomputable def chkAt (b : List Bool) : Bool := decide (plB b ≤ k0B b + 1) && decide (plB b ≤ b.length) && decide (ecB b (plB b) = k0B b)
/-- the mismatch: no shift by s ≤ run - place is left -/
noncomputable def badB (b : List Bool) (pl s run : Nat) : Bool := (List.range run).all fun j => decide (j < pl) || decide (j < s) || b[j - s]? == b[j]?
noncomputable def chkA (b : List Bool) : Bool := (List.range b.length).all fun run => (List.range (run + 1)).all fun s => decide (s = 0) || decide (run < s + plB b) || b[run - s]? == b[run]? || !badB b (plB b) s run
noncomputable def chkB (b : List Bool) : Bool := (List.range (k0B b + 1)).all fun s => decide (s = 0) || !badB b (plB b) s b.length
noncomputable def chk (b : List Bool) : Bool := chkSort b && chkPl b && chkPer b && chkEc b && chkAt b && chkA b && chkB b
theorem chk2 : (allB 2).all chk = true := by decide +kernel
theorem chk3 : (allB 3).all chk = true := by decide +kernel
theorem chk4 : (allB 4).all chk = true := by decide +kernel
theorem chk5 : (allB 5).all chk = true := by decide +kernel
theorem chk6 : (allB 6).all chk = true := by decide +kernel
theorem chk_of (b : List Bool) (h2 : 2 ≤ b.length) (h6 : b.length ≤ 6) : chk b = true := by
  have hm := mem_allB b
  have h : b.length = 2 ∨ b.length = 3 ∨ b.length = 4 ∨ b.length = 5 ∨ b.length = 6 := by omega
  rcases h with e | e | e | e | e <;> rw [e] at hm
  · exact List.all_eq_true.mp chk2 b hm
  · exact List.all_eq_true.mp chk3 b hm
  · exact List.all_eq_true.mp chk4 b hm
  · exact List.all_eq_true.mp chk5 b hm
  · exact List.all_eq_true.mp chk6 b hm
section
variable {wd wn : Str} {b : List Bool} {c0 c1 sz : Nat} (h01 : c0 < c1) (hw : cpl wd = b.map (sg9 c0 c1)) (hz : b.length = sz) (hc : chk b = true)
include h01 hw
theorem sl_lt (i j : Nat) : strLt (Txt.slice wd (some (i : Int)) none) (Txt.slice wd (some (j : Int)) none) = sufLt b i j := by
  show decide (cpl (Txt.slice wd (some (i : Int)) none) < cpl (Txt.slice wd (some (j : Int)) none)) = _
  rw [cpl_from (Int.natCast_nonneg _), cpl_from (Int.natCast_nonneg _), hw, Int.toNat_natCast, Int.toNat_natCast, ← List.map_drop, ← List.map_drop, lt_map h01]
  rfl
theorem low_eq (k : Nat) : insRs (fun i => Txt.slice wd (some i) none) k = insRB (sufLt b) k := insRs_B (kf := fun i => Txt.slice wd (some i) none) (lt := sufLt b) (sl_lt h01 hw) k
theorem high_eq (k : Nat) : insLs (fun i => Txt.slice wd (some i) none) k = insLB (sufLt b) k := insLs_B (kf := fun i => Txt.slice wd (some i) none) (lt := sufLt b) (sl_lt h01 hw) k
theorem run_eq (k : Nat) : runT (fun i j : Nat => strLt (Txt.slice wd (some (i : Int)) none) (Txt.slice wd (some (j : Int)) none)) (kas_sort k) = runT (sufLt b) (kas_sort k) := by
  congr 1
  funext i j
  exact sl_lt h01 hw i j
theorem fit_eq (i : Nat) : Txt.startswith wd (Txt.slice wd (some (1 + (i : Int))) none) = fitB b i := by
  rw [startswith_eq, cpl_from (by omega), hw, show (1 + (i : Int)).toNat = 1 + i by omega, ← List.map_drop, pre_map h01]
  rfl
include hz
theorem wd_len : wd.length = sz := by rw [← cpl_length, hw, List.length_map, hz]
theorem m_eq (i : Nat) (hi : i < sz) : decide (Txt.slice wd (some (1 + (i : Int))) none = Txt.slice wd none (some ((sz : Int) - (1 + (i : Int))))) = mB b (1 + i) := by
  have hl := wd_len h01 hw hz
  have e1 : cpl (Txt.slice wd (some (1 + (i : Int))) none) = (b.drop (1 + i)).map (sg9 c0 c1) := by rw [cpl_from (by omega), hw, show (1 + (i : Int)).toNat = 1 + i by omega, List.map_drop]
  have e2 : cpl (Txt.slice wd none (some ((sz : Int) - (1 + (i : Int))))) = (b.take (b.length - (1 + i))).map (sg9 c0 c1) := by rw [cpl_to (by omega) (by omega), hw, show ((sz : Int) - (1 + (i : Int))).toNat = b.length - (1 + i) by omega, List.map_take]
  unfold mB
  rw [Bool.eq_iff_iff, decide_eq_true_eq, beq_iff_eq]
  constructor
  · intro h
    have h := congrArg cpl h
    rw [e1, e2] at h
    exact sg_inj h01 h
  · intro h
    refine cpl_ext ?_
    rw [e1, e2, h]
theorem row_eq (cut i : Nat) (hcut : cut ≤ sz) (hi : i < sz) : Txt.startswith (Txt.slice wd (some (if (1 + (i : Int)) > (cut : Int) then (1 + (i : Int)) else (cut : Int))) none) (Txt.slice wd (some (if ((cut : Int) - (1 + (i : Int))) > 0 then ((cut : Int) - (1 + (i : Int))) else 0)) (some (if ((sz : Int) - (1 + (i : Int))) < (cut : Int) then ((sz : Int) - (1 + (i : Int))) else (cut : Int)))) = rowB b cut i := by
  have hl := wd_len h01 hw hz
  have q1 : (if (1 + (i : Int)) > (cut : Int) then (1 + (i : Int)) else (cut : Int)) = ((max cut (1 + i) : Nat) : Int) := by split <;> omega
  have q2 : (if ((cut : Int) - (1 + (i : Int))) > 0 then ((cut : Int) - (1 + (i : Int))) else 0) = ((cut - (1 + i) : Nat) : Int) := by split <;> omega
  have q3 : (if ((sz : Int) - (1 + (i : Int))) < (cut : Int) then ((sz : Int) - (1 + (i : Int))) else (cut : Int)) = ((min cut (b.length - (1 + i)) : Nat) : Int) := by split <;> omega
  rw [q1, q2, q3, startswith_eq, cpl_from (Int.natCast_nonneg _), cpl_mid' (Int.natCast_nonneg _) (Int.natCast_nonneg _) (by omega), hw, Int.toNat_natCast, Int.toNat_natCast, show (((min cut (b.length - (1 + i)) : Nat) : Int) - ((cut - (1 + i) : Nat) : Int)).toNat = min cut (b.length - (1 + i)) - (cut - (1 + i)) by omega,
    ← List.map_drop, ← List.map_drop, ← List.map_take, pre_map h01]
  rfl
end
theorem neg_map (b : List Bool) (c0 c1 : Nat) : b.map (fun b => sg9 c0 c1 (!b)) = (b.map (!·)).map (sg9 c0 c1) := by rw [List.map_map]; rfl
section
variable {b : List Bool} (hc : chk b = true)
include hc
theorem chk_split : chkSort b = true ∧ chkPl b = true ∧ chkPer b = true ∧ chkEc b = true ∧ chkAt b = true ∧ chkA b = true ∧ chkB b = true := by
  unfold chk at hc
  simp only [Bool.and_eq_true] at hc
  obtain ⟨⟨⟨⟨⟨⟨a, b⟩, c⟩, d⟩, e⟩, f⟩, g⟩ := hc
  exact ⟨a, b, c, d, e, f, g⟩
theorem sort_low : lowB b = (runT (sufLt b) (kas_sort b.length)).toList.map fun i : Nat => (i : Int) := by
  have h := (chk_split hc).1
  simp only [chkSort, Bool.and_eq_true, beq_iff_eq] at h
  exact h.1
theorem sort_high : highB b = (runT (sufLt (b.map (!·))) (kas_sort b.length)).toList.map fun i : Nat => (i : Int) := by
  have h := (chk_split hc).1
  simp only [chkSort, Bool.and_eq_true, beq_iff_eq] at h
  exact h.2
theorem pl_fact : (lowB b).length = b.length ∧ (highB b).length = b.length ∧ (if (highB b).getD ((highB b).length - 1) 0 > (lowB b).getD ((lowB b).length - 1) 0 then (highB b).getD ((highB b).length - 1) 0 else (lowB b).getD ((lowB b).length - 1) 0) = (plB b : Int) := by
  have h := (chk_split hc).2.1
  simp only [chkPl, Bool.and_eq_true, decide_eq_true_eq] at h
  exact ⟨h.1.1, h.1.2, h.2⟩
theorem per_fact : k0B b < b.length ∧ fitB b (k0B b) = true ∧ (∀ i, i < k0B b → fitB b i = false) ∧ mB b (k0B b + 1) = true ∧ ∀ i, i < b.length → mB b (1 + i) = true → k0B b ≤ i := by
  have h := (chk_split hc).2.2.1
  simp only [chkPer, Bool.and_eq_true, decide_eq_true_eq, List.all_eq_true, List.mem_range, Bool.not_eq_true', Bool.or_eq_true] at h
  obtain ⟨⟨⟨⟨a, b⟩, c⟩, d⟩, e⟩ := h
  refine ⟨a, b, c, d, fun i hi hm => ?_⟩
  rcases e i hi with q | q
  · rw [hm] at q; cases q
  · exact q
theorem ec_fact (cut : Nat) (h : cut ≤ b.length) : ecB b cut < b.length ∧ rowB b cut (ecB b cut) = true ∧ (∀ i, i < ecB b cut → rowB b cut i = false) ∧ ecB b cut ≤ k0B b := by
  have h1 := (chk_split hc).2.2.2.1
  simp only [chkEc, Bool.and_eq_true, decide_eq_true_eq, List.all_eq_true, List.mem_range, Bool.not_eq_true'] at h1
  obtain ⟨⟨⟨a, b⟩, c⟩, d⟩ := h1 cut (by omega)
  exact ⟨a, b, c, d⟩
theorem at_fact : plB b ≤ k0B b + 1 ∧ plB b ≤ b.length ∧ ecB b (plB b) = k0B b := by
  have h := (chk_split hc).2.2.2.2.1
  simp only [chkAt, Bool.and_eq_true, decide_eq_true_eq] at h
  exact ⟨h.1.1, h.1.2, h.2⟩
theorem bad_of {pl s run : Nat} (h : ∀ j, j < run → pl ≤ j → s ≤ j → b[j - s]? = b[j]?) : badB b pl s run = true := by
  simp only [badB, List.all_eq_true, List.mem_range, Bool.or_eq_true, decide_eq_true_eq, beq_iff_eq]
  intro j hj
  by_cases h1 : j < pl
  · exact .inl (.inl h1)
  · by_cases h2 : j < s
    · exact .inl (.inr h2)
    · exact .inr (h j hj (by omega) (by omega))
theorem a_fact {run s : Nat} (hr : run < b.length) (h1 : 1 ≤ s) (h2 : s + plB b ≤ run) (h : ∀ j, j < run → plB b ≤ j → s ≤ j → b[j - s]? = b[j]?) : b[run - s]? = b[run]? := by
  have q := (chk_split hc).2.2.2.2.2.1
  simp only [chkA, List.all_eq_true, List.mem_range, Bool.or_eq_true, decide_eq_true_eq, beq_iff_eq, Bool.not_eq_true'] at q
  rcases q run hr s (by omega) with ((q | q) | q) | q
  · omega
  · omega
  · exact q
  · rw [bad_of hc h] at q; cases q
theorem b_fact {s : Nat} (h1 : 1 ≤ s) (h2 : s ≤ k0B b) (h : ∀ j, j < b.length → plB b ≤ j → s ≤ j → b[j - s]? = b[j]?) : False := by
  have q := (chk_split hc).2.2.2.2.2.2
  simp only [chkB, List.all_eq_true, List.mem_range, Bool.or_eq_true, decide_eq_true_eq, Bool.not_eq_true'] at q
  rcases q s (by omega) with q | q
  · omega
  · rw [bad_of hc h] at q; cases q
theorem per_shift (j : Nat) (hj : k0B b + 1 ≤ j) (hn : j < b.length) : b[j]? = b[j - (k0B b + 1)]? := by
  have h := (per_fact hc).2.2.2.1
  unfold mB at h
  rw [beq_iff_eq] at h
  have e := congrArg (fun l : List Bool => l[j - (k0B b + 1)]?) h
  simp only [List.getElem?_drop] at e
  rw [show k0B b + 1 + (j - (k0B b + 1)) = j by omega, List.getElem?_take_of_lt (by omega)] at e
  exact e
end
theorem bis_spec {P : Nat → Bool} (n : Nat) (mono : ∀ i j, i ≤ j → j < n → P j = true → P i = true) : ∀ f lo hi, hi - lo ≤ f → lo ≤ hi → hi ≤ n → (∀ i, i < lo → P i = true) → (hi < n → P hi = false) →
    (∀ i, i < bis P f lo hi → P i = true) ∧ (bis P f lo hi < n → P (bis P f lo hi) = false) ∧ bis P f lo hi ≤ n
  | 0, lo, hi, h1, h2, h3, h4, h5 => by
    have e : lo = hi := by omega
    subst e
    exact ⟨h4, h5, h3⟩
  | f + 1, lo, hi, h1, h2, h3, h4, h5 => by
    unfold bis
    by_cases hl : lo < hi
    · rw [if_pos hl]
      by_cases hP : P ((lo + hi) / 2) = true
      · rw [if_pos hP]
        exact bis_spec n mono f _ hi (by clear h2 h3 hP; omega) (by clear h1 h2 h3 hP; omega) h3 (fun i hi' => mono i _ (by clear h1 h2 h3 hl hP; omega) (by clear h1 h2 hP hi'; omega) hP) h5
      · rw [if_neg hP]
        exact bis_spec n mono f lo _ (by clear h2 hP; omega) (by clear h1 h2 h3 hP; omega) (by clear h1 h2 hP; omega) h4 fun _ => by simpa using hP
    · rw [if_neg hl]
      have e : lo = hi := by clear h1 h3; omega
      subst e
      exact ⟨h4, h5, h3⟩
theorem pref_iff {l m : List Nat} : l.isPrefixOf m = true ↔ ∀ i, i < l.length → m[i]? = l[i]? := by
  rw [List.isPrefixOf_iff_prefix, List.prefix_iff_getElem?]
  constructor
  · intro h i hi
    rw [h i hi, List.getElem?_eq_getElem hi]
  · intro h i hi
    rw [h i hi, List.getElem?_eq_getElem hi]
theorem pre9_spec (q g : Str) : (∀ i, i < pre9 q g → (cpl g)[i]? = (cpl q)[i]?) ∧ (pre9 q g < q.length → (cpl g)[pre9 q g]? ≠ (cpl q)[pre9 q g]?) ∧ pre9 q g ≤ q.length := by
  have hl : (cpl q).length = q.length := cpl_length q
  have hP : ∀ j, ((cpl q).take (j + 1)).isPrefixOf (cpl g) = true ↔ ∀ i, i ≤ j → i < q.length → (cpl g)[i]? = (cpl q)[i]? := by
    intro j
    rw [pref_iff]
    constructor
    · intro h i hi hq
      have := h i (by rw [List.length_take]; omega)
      rwa [List.getElem?_take_of_lt (by clear hl hq this; omega)] at this
    · intro h i hi
      rw [List.length_take] at hi
      rw [List.getElem?_take_of_lt (by omega)]
      exact h i (by omega) (by omega)
  obtain ⟨h1, h2, h3⟩ := bis_spec (P := fun j => ((cpl q).take (j + 1)).isPrefixOf (cpl g)) q.length (fun i j hij _ h => by
    rw [hP] at h ⊢
    exact fun k hk hq => h k (by clear hl hq; omega) hq) q.length 0 q.length (by omega) (by omega) (Nat.le_refl _) (fun i hi => by clear hl; omega) (fun h => absurd h (Nat.lt_irrefl _))
  refine ⟨fun i hi => ?_, fun hlt => ?_, h3⟩
  · exact (hP i).mp (h1 i hi) i (Nat.le_refl _) (Nat.lt_of_lt_of_le hi h3)
  · intro e
    have hf := h2 hlt
    have ht : ((cpl q).take (pre9 q g + 1)).isPrefixOf (cpl g) = true := by
      rw [hP]
      intro i hi hq
      by_cases hc : i = pre9 q g
      · rw [hc]; exact e
      · exact (hP i).mp (h1 i (show i < pre9 q g by clear hl h3 hlt e hf hq; omega)) i (Nat.le_refl _) hq
    exact absurd (ht.symm.trans hf) (by decide)
theorem suf9_spec (q g : Str) : suf9 q g = q.length ↔ cpl q <:+ cpl g := by
  have hl : (cpl q).length = q.length := cpl_length q
  obtain ⟨h1, h2, h3⟩ := bis_spec (P := fun j => ((cpl q).drop (q.length - (j + 1))).isSuffixOf (cpl g)) q.length (fun i j hij _ h => by
    rw [List.isSuffixOf_iff_suffix] at h ⊢
    refine List.IsSuffix.trans ?_ h
    rw [show (cpl q).drop (q.length - (i + 1)) = ((cpl q).drop (q.length - (j + 1))).drop ((q.length - (i + 1)) - (q.length - (j + 1))) by rw [List.drop_drop]; congr 1; clear hl; omega]
    exact List.drop_suffix _ _) q.length 0 q.length (by omega) (by omega) (Nat.le_refl _) (fun i hi => by clear hl; omega) (fun h => absurd h (Nat.lt_irrefl _))
  constructor
  · intro e
    by_cases h0 : q.length = 0
    · rw [List.eq_nil_of_length_eq_zero (hl.trans h0)]
      exact List.nil_suffix
    · have h := h1 (q.length - 1) (by show q.length - 1 < suf9 q g; clear h3; omega)
      rw [show q.length - (q.length - 1 + 1) = 0 by clear h3 h0 h; omega, List.drop_zero, List.isSuffixOf_iff_suffix] at h
      exact h
  · intro hs
    rcases Nat.lt_or_ge (suf9 q g) q.length with hlt | hge
    · exfalso
      have hf := h2 hlt
      have ht : ((cpl q).drop (q.length - (suf9 q g + 1))).isSuffixOf (cpl g) = true := by
        rw [List.isSuffixOf_iff_suffix]
        exact (List.drop_suffix _ _).trans hs
      exact absurd (ht.symm.trans hf) (by decide)
    · exact Nat.le_antisymm h3 hge
noncomputable def occ9 (tx wd : Str) (sz : Nat) (k : Int) : Bool := decide (Txt.slice tx (some k) (some (k + sz)) = wd)
noncomputable def occF (tx wd : Str) (sz n9 m : Nat) : List Int := (rangeKs 0 (min m n9)).filter (occ9 tx wd sz)
theorem rangeKs_succ (m : Nat) : rangeKs 0 (m + 1) = rangeKs 0 m ++ [(m : Int)] := by
  simp [rangeKs, List.range_succ]
theorem occF_succ {tx wd : Str} {sz n9 m : Nat} : occF tx wd sz n9 (m + 1) = if m < n9 ∧ occ9 tx wd sz m = true then occF tx wd sz n9 m ++ [(m : Int)] else occF tx wd sz n9 m := by
  unfold occF
  by_cases h : m < n9
  · rw [Nat.min_eq_left (by omega), Nat.min_eq_left (by omega), rangeKs_succ, List.filter_append]
    by_cases ho : occ9 tx wd sz m = true
    · rw [if_pos ⟨h, ho⟩]
      simp [ho]
    · rw [if_neg (fun x => ho x.2)]
      simp [ho]
  · rw [if_neg (fun x => h x.1), Nat.min_eq_right (by omega), Nat.min_eq_right (by omega)]
theorem occF_skip {tx wd : Str} {sz n9 m : Nat} : ∀ d, (∀ k, m ≤ k → k < m + d → k < n9 → occ9 tx wd sz (k : Int) = false) → occF tx wd sz n9 (m + d) = occF tx wd sz n9 m
  | 0, _ => rfl
  | d + 1, h => by
    rw [← Nat.add_assoc, occF_succ, if_neg, occF_skip d fun k h1 h2 h3 => h k h1 (by clear h1 h3; omega) h3]
    rintro ⟨h1, h2⟩
    rw [h (m + d) (by clear h1 h2; omega) (by clear h1 h2; omega) h1] at h2
    cases h2
theorem occF_len (tx wd : Str) (sz n9 m : Nat) : (occF tx wd sz n9 m).length ≤ n9 := by
  unfold occF
  refine Nat.le_trans (List.length_filter_le _ _) ?_
  rw [rangeKs_length]
  omega
theorem occ_iff {tx wd : Str} {sz k : Nat} (hz : wd.length = sz) (hk : k + sz ≤ tx.length) : occ9 tx wd sz (k : Int) = true ↔ ∀ i, i < sz → (cpl tx)[k + i]? = (cpl wd)[i]? := by
  have e : cpl (Txt.slice tx (some (k : Int)) (some ((k : Int) + sz))) = ((cpl tx).drop k).take sz := by
    rw [cpl_mid' (Int.natCast_nonneg _) (by clear hk; omega) (by clear hz; omega), Int.toNat_natCast, show ((k : Int) + sz - k).toNat = sz by clear hk; omega]
  have hl : (cpl wd).length = sz := (cpl_length wd).trans hz
  have ht : (cpl tx).length = tx.length := cpl_length tx
  unfold occ9
  rw [decide_eq_true_eq]
  constructor
  · intro h i hi
    have h := congrArg cpl h
    rw [e] at h
    rw [← h, List.getElem?_take_of_lt hi, List.getElem?_drop]
  · intro h
    refine cpl_ext ?_
    rw [e]
    refine List.ext_getElem? fun i => ?_
    by_cases hi : i < sz
    · rw [List.getElem?_take_of_lt hi, List.getElem?_drop]
      exact h i hi
    · rw [List.getElem?_eq_none (by rw [List.length_take, List.length_drop]; clear hz hk e ht; omega), List.getElem?_eq_none (by clear hz hk e ht; omega)]
section
variable {wd : Str} {b : List Bool} {c0 c1 : Nat}
theorem w_at (hw : cpl wd = b.map (sg9 c0 c1)) (h01 : c0 < c1) (i j : Nat) : (cpl wd)[i]? = (cpl wd)[j]? ↔ b[i]? = b[j]? := by
  rw [hw, List.getElem?_map, List.getElem?_map]
  constructor
  · intro h
    cases h1 : b[i]? with
    | none => rw [h1] at h; cases h2 : b[j]? with
      | none => rfl
      | some y => rw [h2] at h; cases h
    | some x => rw [h1] at h; cases h2 : b[j]? with
      | none => rw [h2] at h; cases h
      | some y =>
        rw [h2] at h
        simp only [Option.map_some, Option.some.injEq] at h ⊢
        cases x <;> cases y <;> simp [sg9] at h ⊢ <;> (clear hw h1 h2; omega)
  · intro h
    rw [h]
end
noncomputable def SI (tx wd : Str) (sz n9 at9 kn : Nat) (F : List Int) : Prop := kn ≤ sz ∧ (∀ i, i < kn → (cpl tx)[at9 + i]? = (cpl wd)[i]?) ∧ F = occF tx wd sz n9 at9
section
variable {tx wd : Str} {b : List Bool} {c0 c1 sz n9 : Nat} (hw : cpl wd = b.map (sg9 c0 c1)) (h01 : c0 < c1) (hc : chk b = true) (hz : wd.length = sz) (hb : b.length = sz) (htl : tx.length ≤ 16) (hn9 : (tx.length : Int) - sz + 1 = n9)
include hw h01 hc hz hb htl hn9
theorem si_end {at9 kn : Nat} {F : List Int} (h : SI tx wd sz n9 at9 kn F) (hat : ¬ at9 + sz ≤ tx.length) : F.length < 100 ∧ F = (rangeKs 0 n9).filter (fun k => decide (Txt.slice tx (some k) (some (k + sz)) = wd)) := by
  obtain ⟨-, -, rfl⟩ := h
  refine ⟨Nat.lt_of_le_of_lt (occF_len tx wd sz n9 at9) (by clear hw h01 hc hat; omega), ?_⟩
  unfold occF
  rw [Nat.min_eq_right (by clear hw h01 hc hz htl; omega)]
  rfl
/-- nothing between, by a mismatch -/
theorem no_mis {at9 run s : Nat} (hrun : run < sz) (hal : ∀ j, j < run → plB b ≤ j → (cpl tx)[at9 + j]? = (cpl wd)[j]?) (hne : (cpl tx)[at9 + run]? ≠ (cpl wd)[run]?) (hs : s + plB b ≤ run) (hk : at9 + s + sz ≤ tx.length) : occ9 tx wd sz ((at9 + s : Nat) : Int) = false := by
  rw [Bool.eq_false_iff]
  intro ho
  rw [occ_iff hz hk] at ho
  have hsh : ∀ j, j < sz → s ≤ j → (cpl tx)[at9 + j]? = (cpl wd)[j - s]? := by
    intro j hj hsj
    have := ho (j - s) (by clear hw h01 hc hz htl hrun hne hs hk; omega)
    rwa [show at9 + s + (j - s) = at9 + j by clear hw h01 hc hz hb htl hn9 hrun hne hs hk hj this; omega] at this
  rcases Nat.eq_zero_or_pos s with rfl | hpos
  · exact hne (hsh run hrun (Nat.zero_le _))
  · have hb2 := a_fact hc (run := run) (s := s) (by clear hw h01 hc hz htl hne hs hk hpos; omega) hpos hs fun j hj h1 h2 => by
      rw [← w_at hw h01, ← hsh j (by clear hw h01 hc hz htl hne hs hk hpos h1 h2; omega) h2, hal j hj h1]
    rw [← w_at hw h01, ← hsh run hrun (by clear hw h01 hc hz hb htl hn9 hrun hne hk hpos hb2; omega)] at hb2
    exact hne hb2
theorem no_per {at9 s : Nat} (hal : ∀ j, j < sz → plB b ≤ j → (cpl tx)[at9 + j]? = (cpl wd)[j]?) (h1 : 1 ≤ s) (h2 : s ≤ k0B b) (hk : at9 + s + sz ≤ tx.length) : occ9 tx wd sz ((at9 + s : Nat) : Int) = false := by
  rw [Bool.eq_false_iff]
  intro ho
  rw [occ_iff hz hk] at ho
  refine b_fact hc h1 h2 fun j hj h3 h4 => ?_
  have := ho (j - s) (by clear hw h01 hc hz htl h2 hk h3; omega)
  rw [show at9 + s + (j - s) = at9 + j by clear hw h01 hc hz hb htl hn9 h1 h2 hk hj h3 this; omega] at this
  rw [← w_at hw h01, ← this, hal j (by clear hw h01 hc hz htl h1 h2 hk h3 h4 this; omega) h3]
theorem si_step {at9 kn : Nat} {F : List Int} (h : SI tx wd sz n9 at9 kn F) (hat : at9 + sz ≤ tx.length) : kn ≤ sz ∧ F.length < 50 ∧
      ((if (kn : Int) > (plB b : Int) then (kn : Int) else (plB b : Int)) + pre9 (Txt.slice wd (some (if (kn : Int) > (plB b : Int) then (kn : Int) else (plB b : Int))) none) (Txt.slice tx (some ((at9 : Int) + (if (kn : Int) > (plB b : Int) then (kn : Int) else (plB b : Int)))) none) < sz → SI tx wd sz n9 (at9 + (max (plB b) kn + pre9 (Txt.slice wd (some (if (kn : Int) > (plB b : Int) then (kn : Int) else (plB b : Int))) none) (Txt.slice tx (some ((at9 : Int) + (if (kn : Int) > (plB b : Int) then (kn : Int) else (plB b : Int)))) none) + 1 - plB b)) 0 F) ∧
      (¬ ((if (kn : Int) > (plB b : Int) then (kn : Int) else (plB b : Int)) + pre9 (Txt.slice wd (some (if (kn : Int) > (plB b : Int) then (kn : Int) else (plB b : Int))) none) (Txt.slice tx (some ((at9 : Int) + (if (kn : Int) > (plB b : Int) then (kn : Int) else (plB b : Int)))) none) < sz) →
        (suf9 (Txt.slice wd (some (kn : Int)) (some (plB b : Int))) (Txt.slice tx none (some ((at9 : Int) + plB b))) = (Txt.slice wd (some (kn : Int)) (some (plB b : Int))).length → SI tx wd sz n9 (at9 + (k0B b + 1)) (sz - (k0B b + 1)) (F ++ [(at9 : Int)])) ∧
        (suf9 (Txt.slice wd (some (kn : Int)) (some (plB b : Int))) (Txt.slice tx none (some ((at9 : Int) + plB b))) ≠ (Txt.slice wd (some (kn : Int)) (some (plB b : Int))).length → SI tx wd sz n9 (at9 + (k0B b + 1)) (sz - (k0B b + 1)) F)) := by
  obtain ⟨hkn, hpre, rfl⟩ := h
  obtain ⟨hp1, hp2, -⟩ := at_fact hc
  obtain ⟨hk0, -, -, -, -⟩ := per_fact hc
  have hWl : (cpl wd).length = sz := (cpl_length wd).trans hz
  have hTl : (cpl tx).length = tx.length := cpl_length tx
  have hbg : (if (kn : Int) > (plB b : Int) then (kn : Int) else (plB b : Int)) = ((max (plB b) kn : Nat) : Int) := by split <;> (clear hw h01 hc hz hb htl hn9 hat hkn hp1 hp2 hk0 hWl hTl; omega)
  rw [hbg]
  generalize hB : max (plB b) kn = bg
  have hQ : cpl (Txt.slice wd (some (bg : Int)) none) = (cpl wd).drop bg := by rw [cpl_from (Int.natCast_nonneg _), Int.toNat_natCast]
  have hG : cpl (Txt.slice tx (some ((at9 : Int) + (bg : Int))) none) = (cpl tx).drop (at9 + bg) := by rw [cpl_from (by clear hw h01 hc hz hb htl hn9 hat hkn hp1 hp2 hk0 hWl hTl hbg hB hQ; omega), show ((at9 : Int) + (bg : Int)).toNat = at9 + bg by clear hw h01 hc hz hb htl hn9 hat hkn hp1 hp2 hk0 hWl hTl hbg hB hQ; omega]
  have hQl : (Txt.slice wd (some (bg : Int)) none).length = sz - bg := by rw [← cpl_length, hQ, List.length_drop, hWl]
  obtain ⟨r1, r2, r3⟩ := pre9_spec (Txt.slice wd (some (bg : Int)) none) (Txt.slice tx (some ((at9 : Int) + (bg : Int))) none)
  generalize pre9 (Txt.slice wd (some (bg : Int)) none) (Txt.slice tx (some ((at9 : Int) + (bg : Int))) none) = r at r1 r2 r3
  rw [hQ, hG] at r1 r2
  rw [hQl] at r2 r3
  have hal : ∀ j, j < bg + r → plB b ≤ j → (cpl tx)[at9 + j]? = (cpl wd)[j]? := by
    intro j hj hpj
    by_cases hjb : j < bg
    · exact hpre j (by clear hw h01 hc hz htl hat hp1 hp2 hk0 hTl hbg hQ hG hQl r3 hj; omega)
    · have := r1 (j - bg) (by clear hw h01 hc hz hb htl hn9 hat hkn hp1 hp2 hk0 hWl hTl hbg hB hQ hG hQl r3 hpj; omega)
      rw [List.getElem?_drop, List.getElem?_drop] at this
      rwa [show at9 + bg + (j - bg) = at9 + j by clear hw h01 hc hz hb htl hn9 hat hkn hp1 hp2 hk0 hWl hTl hbg hB hQ hG hQl r3 hj hpj this; omega, show bg + (j - bg) = j by clear hw h01 hc hz hb htl hn9 hat hkn hp1 hp2 hk0 hWl hTl hbg hB hQ hG hQl r3 hj hpj this; omega] at this
  refine ⟨hkn, Nat.lt_of_le_of_lt (occF_len tx wd sz n9 at9) (by clear hw h01 hc hz hat hkn hp1 hp2 hbg hB hQ hG hQl r3; omega), fun hlt => ?_, fun hnlt => ?_⟩
  · have hrun : bg + r < sz := by clear hw h01 hc hz htl hat hkn hp1 hp2 hk0 hTl hbg hB hQ hG hQl r3; omega
    have hne : (cpl tx)[at9 + (bg + r)]? ≠ (cpl wd)[bg + r]? := by
      have := r2 (by clear hw h01 hc hz htl hat hkn hp1 hp2 hk0 hTl hbg hB hQ hG hQl hrun; omega)
      rw [List.getElem?_drop, List.getElem?_drop] at this
      rwa [show at9 + bg + r = at9 + (bg + r) by clear hw h01 hc hz hb htl hn9 hat hkn hp1 hp2 hk0 hWl hTl hbg hB hQ hG hQl r3 hlt hrun this; omega] at this
    refine ⟨Nat.zero_le _, fun i hi => absurd hi (Nat.not_lt_zero _), ?_⟩
    refine (occF_skip _ fun k h1 h2 h3 => ?_).symm
    have := no_mis hw h01 hc hz hb htl hn9 (at9 := at9) (run := bg + r) (s := k - at9) hrun hal hne (by clear hw h01 hc hz hb htl hn9 hat hkn hp1 hp2 hk0 hWl hTl hbg hB hQ hG hQl r3 hlt hrun hne h3; omega) (by clear hw h01 hc hz htl hat hkn hp1 hp2 hk0 hbg hB hQ hG hQl r3 hlt hrun hne h2; omega)
    rwa [show at9 + (k - at9) = k by clear hw h01 hc hz hb htl hn9 hat hkn hp1 hp2 hk0 hWl hTl hbg hB hQ hG hQl r3 hlt hrun hne h2 h3 this; omega] at this
  · have hall : ∀ j, j < sz → plB b ≤ j → (cpl tx)[at9 + j]? = (cpl wd)[j]? := fun j hj => hal j (by clear hw h01 hc hz htl hat hkn hp1 hp2 hk0 hTl hbg hB hQ hG hQl r3; omega)
    have hskip : occF tx wd sz n9 (at9 + (k0B b + 1)) = occF tx wd sz n9 (at9 + 1) := by
      rw [show at9 + (k0B b + 1) = (at9 + 1) + k0B b by clear hw h01 hc hz hb htl hn9 hat hkn hp1 hp2 hk0 hWl hTl hbg hB hQ hG hQl r3 hnlt; omega]
      refine occF_skip _ fun k h1 h2 h3 => ?_
      have := no_per hw h01 hc hz hb htl hn9 (at9 := at9) (s := k - at9) hall (by clear hw h01 hc hz hb htl hn9 hat hkn hp1 hp2 hk0 hWl hTl hbg hB hQ hG hQl r3 hnlt h2 h3; omega) (by clear hw h01 hc hz hb htl hn9 hat hkn hp1 hp2 hk0 hWl hTl hbg hB hQ hG hQl r3 hnlt h3; omega) (by clear hw h01 hc hz htl hat hkn hp1 hp2 hk0 hbg hB hQ hG hQl r3 hnlt h2; omega)
      rwa [show at9 + (k - at9) = k by clear hw h01 hc hz hb htl hn9 hat hkn hp1 hp2 hk0 hWl hTl hbg hB hQ hG hQl r3 hnlt h2 h3 this; omega] at this
    have hkn' : ∀ i, i < sz - (k0B b + 1) → (cpl tx)[at9 + (k0B b + 1) + i]? = (cpl wd)[i]? := by
      intro i hi
      rw [show at9 + (k0B b + 1) + i = at9 + (k0B b + 1 + i) by clear hw h01 hc hz hb htl hn9 hat hkn hp1 hp2 hk0 hWl hTl hbg hB hQ hG hQl r3 hnlt hskip hi; omega, hall _ (by clear hw h01 hc hz htl hat hkn hp1 hp2 hTl hbg hB hQ hG hQl r3 hnlt hskip; omega) (by clear hw h01 hc hz hb htl hn9 hat hkn hp2 hk0 hWl hTl hbg hB hQ hG hQl r3 hnlt hskip hi; omega), w_at hw h01, per_shift hc _ (by clear hw h01 hc hz hb htl hn9 hat hkn hp1 hp2 hk0 hWl hTl hbg hB hQ hG hQl r3 hnlt hskip hi; omega) (by clear hw h01 hc hz htl hat hkn hp1 hp2 hTl hbg hB hQ hG hQl r3 hnlt hskip; omega)]
      congr 1
      clear hw h01 hc hz hb htl hn9 hat hkn hp1 hp2 hk0 hWl hTl hbg hB hQ hG hQl r3 hnlt hskip hi; omega
    have hM : cpl (Txt.slice wd (some (kn : Int)) (some (plB b : Int))) = ((cpl wd).drop kn).take (plB b - kn) := by
      rw [cpl_mid' (Int.natCast_nonneg _) (Int.natCast_nonneg _) (by clear hw h01 hc htl hat hkn hp1 hk0 hTl hbg hB hQ hG hQl r3 hnlt hskip; omega), Int.toNat_natCast, show ((plB b : Int) - kn).toNat = plB b - kn by clear hw h01 hc hz hb htl hn9 hat hkn hp1 hp2 hk0 hWl hTl hbg hB hQ hG hQl r3 hnlt hskip; omega]
    have hE : cpl (Txt.slice tx none (some ((at9 : Int) + plB b))) = (cpl tx).take (at9 + plB b) := by
      rw [cpl_to (by clear hw h01 hc hz hb htl hn9 hat hkn hp1 hp2 hk0 hWl hTl hbg hB hQ hG hQl r3 hnlt hskip hM; omega) (by clear hw h01 hc hz htl hkn hp1 hk0 hbg hB hQ hG hQl r3 hnlt hskip hM; omega), show ((at9 : Int) + plB b).toNat = at9 + plB b by clear hw h01 hc hz hb htl hn9 hat hkn hp1 hp2 hk0 hWl hTl hbg hB hQ hG hQl r3 hnlt hskip hM; omega]
    have hsuf : suf9 (Txt.slice wd (some (kn : Int)) (some (plB b : Int))) (Txt.slice tx none (some ((at9 : Int) + plB b))) = (Txt.slice wd (some (kn : Int)) (some (plB b : Int))).length ↔ occ9 tx wd sz (at9 : Int) = true := by
      rw [suf9_spec, hM, hE, occ_iff hz hat]
      constructor
      · rintro ⟨pre, hp⟩ i hi
        by_cases h1 : i < kn
        · exact hpre i h1
        · by_cases h2 : plB b ≤ i
          · exact hall i hi h2
          · have hl := congrArg List.length hp
            rw [List.length_append, List.length_take, List.length_drop, List.length_take] at hl
            have h := congrArg (fun l : List Nat => l[at9 + i]?) hp
            (try dsimp only at h)
            rw [List.getElem?_append_right (by clear hw h01 hc hz htl hp1 hk0 hbg hB hQ hG hQl r3 hnlt hskip hM hE hp hi h; omega), List.getElem?_take_of_lt (by clear hw h01 hc hz htl hkn hp1 hk0 hbg hB hQ hG hQl r3 hnlt hskip hM hE hp hi h; omega), List.getElem?_take_of_lt (by clear hw h01 hc hz hb htl hn9 hat hkn hp1 hp2 hk0 hWl hTl hbg hB hQ hG hQl r3 hnlt hskip hM hE hp hi h1 hl h; omega), List.getElem?_drop] at h
            rw [← h]
            congr 1
            clear hw h01 hc hz htl hp1 hk0 hbg hB hQ hG hQl r3 hnlt hskip hM hE hp hi h; omega
      · intro ho
        refine ⟨((cpl tx).take (at9 + plB b)).take (at9 + plB b - (plB b - kn)), ?_⟩
        refine List.ext_getElem? fun i => ?_
        have hl1 : (((cpl tx).take (at9 + plB b)).take (at9 + plB b - (plB b - kn))).length = at9 + plB b - (plB b - kn) := by
          rw [List.length_take, List.length_take]; clear hw h01 hc hz htl hkn hp1 hk0 hbg hB hQ hG hQl r3 hnlt hskip hM hE; omega
        by_cases h1 : i < at9 + plB b - (plB b - kn)
        · rw [List.getElem?_append_left (by clear hw h01 hc hz hb htl hn9 hat hkn hp1 hp2 hk0 hWl hTl hbg hB hQ hG hQl r3 hnlt hskip hM hE; omega), List.getElem?_take_of_lt h1]
        · rw [List.getElem?_append_right (by clear hw h01 hc hz hb htl hn9 hat hkn hp1 hp2 hk0 hWl hTl hbg hB hQ hG hQl r3 hnlt hskip hM hE; omega), hl1]
          by_cases h2 : i < at9 + plB b
          · rw [List.getElem?_take_of_lt (by clear hw h01 hc hz hb htl hn9 hat hkn hp1 hp2 hk0 hWl hTl hbg hB hQ hG hQl r3 hnlt hskip hM hE hl1; omega), List.getElem?_take_of_lt h2, List.getElem?_drop, ← ho _ (by clear hw h01 hc hz hp1 hk0 hbg hB hQ hG hQl r3 hnlt hskip hM hE hl1; omega)]
            congr 1
            clear hw h01 hc hz hb htl hn9 hat hkn hp1 hp2 hk0 hWl hTl hbg hB hQ hG hQl r3 hnlt hskip hM hE hl1; omega
          · rw [List.getElem?_eq_none (by rw [List.length_take]; clear hw h01 hc hz hb htl hn9 hat hkn hp1 hp2 hk0 hWl hTl hbg hB hQ hG hQl r3 hnlt hskip hM hE hl1; omega), List.getElem?_eq_none (by rw [List.length_take]; clear hw h01 hc hz hb htl hn9 hat hkn hp1 hp2 hk0 hWl hTl hbg hB hQ hG hQl r3 hnlt hskip hM hE hl1 h1; omega)]
    refine ⟨fun hs => ?_, fun hs => ?_⟩
    · refine ⟨by clear hw h01 hc hz htl hat hkn hp1 hp2 hTl hbg hB hQ hG hQl r3 hnlt hskip hM hE hsuf hs; omega, hkn', ?_⟩
      rw [hskip, occF_succ, if_pos ⟨by clear hw h01 hc hz htl hkn hp1 hp2 hk0 hbg hB hQ hG hQl r3 hnlt hskip hM hE hsuf hs; omega, hsuf.mp hs⟩]
    · refine ⟨by clear hw h01 hc hz htl hat hkn hp1 hp2 hTl hbg hB hQ hG hQl r3 hnlt hskip hM hE hsuf hs; omega, hkn', ?_⟩
      rw [hskip, occF_succ, if_neg (fun x => hs (hsuf.mpr x.2))]
end
noncomputable def full9 (T W : List Nat) (k sp : Nat) : Bool := ellGo T T.length (List.replicate k W ++ [[]]) sp
theorem full_zero {T W : List Nat} {p : Nat} (h : p ≤ T.length) : full9 T W 0 p = true := ellGo_nils _ _ _ _ (fun w hw => by simpa using hw) h
theorem full_none {T W : List Nat} {k p : Nat} (h : first9 T W p T.length = none) : full9 T W (k + 1) p = false := by
  show (match first9 T W p T.length with | none => false | some q => ellGo T T.length (List.replicate k W ++ [[]]) (q + W.length)) = false
  rw [h]
theorem full_some {T W : List Nat} {k p q : Nat} (h : first9 T W p T.length = some q) : full9 T W (k + 1) p = full9 T W k (q + W.length) := by
  show (match first9 T W p T.length with | none => false | some q => ellGo T T.length (List.replicate k W ++ [[]]) (q + W.length)) = _
  rw [h]
  rfl
theorem ell_full (tx wd : Str) (k : Nat) : ellGo (cpl tx) tx.length ((⟨#[]⟩ :: (List.replicate k wd ++ [⟨#[]⟩])).map cpl) 0 = full9 (cpl tx) (cpl wd) k 0 := by
  rw [List.map_cons, List.map_append, List.map_replicate, ← cpl_length tx]
  show (match first9 (cpl tx) [] 0 (cpl tx).length with | none => false | some q => ellGo (cpl tx) (cpl tx).length (List.replicate k (cpl wd) ++ [[]]) (q + ([] : List Nat).length)) = _
  rw [first9_nil _ _ _ (Nat.zero_le _)]
  rfl
noncomputable def cond9 (T W : List Nat) (i : Nat) : Bool := decide (i + W.length ≤ T.length) && ((T.drop i).take W.length == W)
theorem first_some {T W : List Nat} {p q : Nat} (h1 : p ≤ q) (h2 : cond9 T W q = true) (h3 : ∀ i, p ≤ i → i < q → cond9 T W i = false) : first9 T W p T.length = some q := by
  have hq : q + W.length ≤ T.length := by
    unfold cond9 at h2
    simp only [Bool.and_eq_true, decide_eq_true_eq] at h2
    exact h2.1
  unfold first9
  rw [List.find?_eq_some_iff_getElem]
  refine ⟨h2, q - p, by rw [List.length_range']; clear h2; omega, by rw [List.getElem_range']; clear h2 hq; omega, fun j hj => ?_⟩
  rw [List.getElem_range', Nat.one_mul]
  have := h3 (p + j) (by clear h1 h2 hq hj; omega) (by clear h2 hq; omega)
  unfold cond9 at this
  rw [this]
  rfl
theorem first_none {T W : List Nat} {p : Nat} (h3 : ∀ i, p ≤ i → cond9 T W i = false) : first9 T W p T.length = none := by
  unfold first9
  rw [List.find?_eq_none]
  intro i hi
  have := (List.mem_range'_1.mp hi).1
  have := h3 i this
  unfold cond9 at this
  rw [this]
  exact Bool.false_ne_true
theorem cond_iff {tx wd : Str} {sz i : Nat} (hz : wd.length = sz) : cond9 (cpl tx) (cpl wd) i = true ↔ i + sz ≤ tx.length ∧ occ9 tx wd sz (i : Int) = true := by
  have hl : (cpl wd).length = sz := (cpl_length wd).trans hz
  have ht : (cpl tx).length = tx.length := cpl_length tx
  unfold cond9 occ9
  rw [Bool.and_eq_true, decide_eq_true_eq, hl, ht, decide_eq_true_eq, beq_iff_eq]
  constructor
  · rintro ⟨h1, h2⟩
    refine ⟨h1, cpl_ext ?_⟩
    rw [cpl_mid' (Int.natCast_nonneg _) (by clear ht h1 h2; omega) (by clear hz ht h2; omega), Int.toNat_natCast, show ((i : Int) + sz - i).toNat = sz by clear ht h1 h2; omega]
    exact h2
  · rintro ⟨h1, h2⟩
    refine ⟨h1, ?_⟩
    have h2 := congrArg cpl h2
    rwa [cpl_mid' (Int.natCast_nonneg _) (by clear ht h1 h2; omega) (by clear hz ht h2; omega), Int.toNat_natCast, show ((i : Int) + sz - i).toNat = sz by clear ht h1 h2; omega] at h2
section
variable {tx wd : Str} {sz n9 : Nat} {ns : List Int} (hns : ns = (rangeKs 0 n9).filter (fun k => decide (Txt.slice tx (some k) (some (k + sz)) = wd)))
include hns
theorem ns_mem (x : Int) : x ∈ ns ↔ ∃ k : Nat, x = k ∧ k < n9 ∧ occ9 tx wd sz (k : Int) = true := by
  rw [hns, List.mem_filter]
  constructor
  · rintro ⟨h1, h2⟩
    have hb := mem_rangeKs h1
    refine ⟨x.toNat, by clear hns h2; omega, by clear hns h2; omega, ?_⟩
    rw [Int.toNat_of_nonneg hb.1]
    exact h2
  · rintro ⟨k, rfl, h1, h2⟩
    exact ⟨kre_mem (Int.natCast_nonneg _) (by clear hns h2; omega), h2⟩
theorem ns_sorted : ns.Pairwise (· < ·) := by
  rw [hns]
  refine List.Pairwise.filter _ ?_
  unfold rangeKs
  rw [List.pairwise_map]
  exact List.Pairwise.imp (fun h => by clear hns; omega) List.pairwise_lt_range
theorem ns_lt {i j : Nat} (hij : i < j) (hj : j < ns.length) : ns.getD i 0 < ns.getD j 0 := by
  have h := List.pairwise_iff_getElem.mp (ns_sorted hns) i j (by clear hns; omega) hj hij
  rwa [List.getD_eq_getElem?_getD, List.getD_eq_getElem?_getD, List.getElem?_eq_getElem hj, List.getElem?_eq_getElem (by clear hns h; omega)]
end
noncomputable def GI (tx wd : Str) (sz n9 : Nat) (ns : List Int) (c h : Nat) : Prop :=
  ns = (rangeKs 0 n9).filter (fun k => decide (Txt.slice tx (some k) (some (k + sz)) = wd)) ∧ h ≤ ns.length ∧ ∃ p, p ≤ tx.length ∧ c * sz ≤ p ∧ (∀ i, i < h → ns.getD i 0 < (p : Int)) ∧ (∀ i, h ≤ i → i < ns.length → (p : Int) ≤ ns.getD i 0) ∧
    (∀ k, full9 (cpl tx) (cpl wd) (c + k) 0 = full9 (cpl tx) (cpl wd) k p) ∧ ∀ k, k ≤ c → full9 (cpl tx) (cpl wd) k 0 = true
section
variable {tx wd : Str} {sz n9 : Nat} (hz : wd.length = sz) (h2 : 2 ≤ sz) (htl : tx.length ≤ 16) (hn9 : (tx.length : Int) - sz + 1 = n9)
include hz h2 htl hn9
theorem gi_zero (ns : List Int) (hns : ns = (rangeKs 0 n9).filter (fun k => decide (Txt.slice tx (some k) (some (k + sz)) = wd))) : GI tx wd sz n9 ns 0 0 := by
  refine ⟨hns, Nat.zero_le _, 0, Nat.zero_le _, by clear hz h2 htl hn9 hns; omega, fun i hi => absurd hi (Nat.not_lt_zero _), fun i _ hi => ?_, fun k => by rw [Nat.zero_add], fun k hk => ?_⟩
  · obtain ⟨k, e, -, -⟩ := (ns_mem hns _).mp (getD_mem9 i hi)
    clear hz h2 htl hn9 hns hi; omega
  · rw [Nat.le_zero.mp hk]
    exact full_zero (Nat.zero_le _)
theorem no_cond {ns : List Int} {h p i : Nat} (hns : ns = (rangeKs 0 n9).filter (fun k => decide (Txt.slice tx (some k) (some (k + sz)) = wd))) (hlo : ∀ i, i < h → ns.getD i 0 < (p : Int)) (hi : p ≤ i) (hq : ∀ j, h ≤ j → j < ns.length → (i : Int) < ns.getD j 0) : cond9 (cpl tx) (cpl wd) i = false := by
  rw [Bool.eq_false_iff]
  intro hc
  obtain ⟨h3, h4⟩ := (cond_iff hz).mp hc
  have hm := (ns_mem hns (i : Int)).mpr ⟨i, rfl, by clear hz h2 htl hns hi hc h4; omega, h4⟩
  obtain ⟨j, hj, e⟩ := List.mem_iff_getElem.mp hm
  have e2 : ns.getD j 0 = (i : Int) := by rw [List.getD_eq_getElem?_getD, List.getElem?_eq_getElem hj, e]; rfl
  by_cases hjh : j < h
  · have := hlo j hjh; clear hz h2 htl hn9 hns hc h3 h4 hjh; omega
  · have := hq j (by clear hz h2 htl hn9 hns hi hc h3 h4 e e2; omega) hj; clear hz h2 htl hn9 hns hi hc h3 h4 hjh; omega
theorem gi_step (ns : List Int) (c h : Nat) (G : GI tx wd sz n9 ns c h) (hl : h < ns.length) : h < bis (fun i => decide (ns.getD i 0 < ns.getD h 0 + sz)) ns.length 0 ns.length ∧ GI tx wd sz n9 ns (c + 1) (bis (fun i => decide (ns.getD i 0 < ns.getD h 0 + sz)) ns.length 0 ns.length) := by
  obtain ⟨hns, hh, p, hp, hcp, hlo, hhi, hfull, htrue⟩ := G
  have hWl : (cpl wd).length = sz := (cpl_length wd).trans hz
  have hTl : (cpl tx).length = tx.length := cpl_length tx
  obtain ⟨q, eq, hq9, hoq⟩ := (ns_mem hns _).mp (getD_mem9 h hl)
  obtain ⟨b1, b2, b3⟩ := bis_spec (P := fun i => decide (ns.getD i 0 < ns.getD h 0 + sz)) ns.length (fun i j hij hjl hj => by
    rw [decide_eq_true_eq] at hj ⊢
    rcases Nat.eq_or_lt_of_le hij with rfl | hlt
    · exact hj
    · exact Int.lt_trans (ns_lt hns hlt hjl) hj) ns.length 0 ns.length (by clear hz h2 htl hn9 hl hns hh hp hcp hWl hTl eq hq9 hoq; omega) (by clear hz h2 htl hn9 hl hns hh hp hcp hWl hTl eq hq9 hoq; omega) (Nat.le_refl _) (fun i hi => by clear hz h2 htl hn9 hl hns hh hp hcp hWl hTl eq hq9 hoq; omega) (fun h => absurd h (Nat.lt_irrefl _))
  generalize bis (fun i => decide (ns.getD i 0 < ns.getD h 0 + sz)) ns.length 0 ns.length = r at b1 b2 b3
  simp only [decide_eq_true_eq, decide_eq_false_iff_not] at b1 b2
  have hpq : (p : Int) ≤ ns.getD h 0 := hhi h (Nat.le_refl _) hl
  have hr : h < r := by
    rcases Nat.lt_or_ge h r with x | x
    · exact x
    · exfalso
      have := b2 (by clear hz h2 htl hn9 hns hh hp hcp hWl hTl eq hq9 hoq hpq; omega)
      rcases Nat.eq_or_lt_of_le x with rfl | y
      · clear hz htl hns hp hcp hTl hq9 hoq b3 hl hh eq hpq x; omega
      · have := ns_lt hns y hl
        clear hz htl hl hns hh hp hcp hTl hq9 hoq b3 hpq x y; omega
  have hf : first9 (cpl tx) (cpl wd) p (cpl tx).length = some q := by
    refine first_some (by clear hz h2 htl hn9 hl hns hh hp hcp hWl hTl hq9 hoq b3 hr; omega) ((cond_iff hz).mpr ⟨by clear hz h2 htl hl hns hh hp hcp eq hoq b3 hpq hr; omega, hoq⟩) fun i h1 h3 => ?_
    refine no_cond hz h2 htl hn9 hns hlo h1 fun j h4 h5 => ?_
    rcases Nat.eq_or_lt_of_le h4 with rfl | y
    · clear hz h2 htl hn9 hl hns hh hp hcp hWl hTl hq9 hoq b3 hpq hr h1 h4 h5; omega
    · have := ns_lt hns y h5
      clear hz h2 htl hn9 hl hns hh hp hcp hWl hTl hq9 hoq b3 hpq hr h1 h4 h5 y; omega
  refine ⟨hr, hns, b3, q + sz, by clear hz h2 htl hl hns hh hp hcp eq hoq b3 hpq hr hf; omega, ?_, fun i hi => ?_, fun i h3 h4 => ?_, fun k => ?_, fun k hk => ?_⟩
  · rw [Nat.succ_mul]
    clear hz h2 htl hn9 hl hns hh hp hWl hTl hq9 hoq b3 hr hf; omega
  · have := b1 i hi
    clear hz h2 htl hl hns hh hp hcp hTl hq9 hoq b3 hpq hr hf hi; omega
  · have h5 := b2 (by clear hz h2 htl hn9 hl hns hh hp hcp hWl hTl eq hq9 hoq hpq hr hf; omega)
    rcases Nat.eq_or_lt_of_le h3 with rfl | y
    · clear hz h2 htl hl hns hh hp hcp hTl hq9 hoq b3 hpq hr hf h3 h4; omega
    · have := ns_lt hns y h4
      clear hz h2 htl hl hns hh hp hcp hTl hq9 hoq b3 hpq hr hf h3 h4 y; omega
  · rw [show c + 1 + k = c + (k + 1) by clear hz h2 htl hn9 hl hns hh hp hcp hWl hTl eq hq9 hoq b3 hpq hr hf; omega, hfull (k + 1), full_some hf, hWl]
  · rcases Nat.eq_or_lt_of_le hk with rfl | y
    · rw [hfull 1, full_some hf, hWl]
      exact full_zero (by clear hz h2 htl hl hns hh hp hcp eq hoq b3 hpq hr hf hk; omega)
    · exact htrue k (by clear hz h2 htl hn9 hl hns hh hp hcp hWl hTl eq hq9 hoq b3 hpq hr hf hk; omega)
theorem gi_end (ns : List Int) (c h : Nat) (G : GI tx wd sz n9 ns c h) (hl : ¬ h < ns.length) : c ≤ 8 ∧ ∀ k, k ≤ c + 1 → ellGo (cpl tx) tx.length ((⟨#[]⟩ :: (List.replicate k wd ++ [⟨#[]⟩])).map cpl) 0 = decide (k ≤ c) := by
  obtain ⟨hns, hh, p, hp, hcp, hlo, hhi, hfull, htrue⟩ := G
  have h8 : c * 2 ≤ c * sz := Nat.mul_le_mul_left _ h2
  refine ⟨by clear hz h2 hn9 hl hns hh; omega, fun k hk => ?_⟩
  rw [ell_full]
  by_cases h : k ≤ c
  · rw [htrue k h, decide_eq_true h]
  · rw [decide_eq_false h, show k = c + 1 by clear hz h2 htl hn9 hl hns hh hp hcp h8; omega, hfull 1]
    refine full_none (first_none fun i h1 => ?_)
    exact no_cond hz h2 htl hn9 hns hlo h1 fun j h4 h5 => by clear hz h2 htl hn9 hns hp hcp h8 hk h h1; omega
end
theorem at31 (w : World) (L : Addr) (a b c : Array Value) (wd tx : Str) (tw tt tc : Tok) (ow ot : Obj) (copies : Nat) (how : ow.data = .cell (some (.str wd tw))) (hot : ot.data = .cell (some (.str tx tt)))
    (h46 : 46 ∉ cpl wd) (hwl : wd.length ≤ 6) (htl : tx.length ≤ 16) (hc : copies ≤ 8) (hall : ∀ k, k ≤ copies + 1 → ellGo (cpl tx) tx.length ((⟨#[]⟩ :: (List.replicate k wd ++ [⟨#[]⟩])).map cpl) 0 = decide (k ≤ copies)) :
    At9 w 31 L [("copies", .int (copies : Int) tc)] [(L + 1 + 1 + 1 + 1, ow), (L + 1 + 1, ot), (94, tabObj a), (87, tabObj b), (101, tabObj c)] := by
  refine At9.mk ?_
  intro hK' p loose mean mg mb dp un gd fa outer A₀ base h₀ u s Q E B F X N T hd hu hE hfin
  dsimp only [List.drop]
  k_with_none
  k_with "callWith" => (with_reducible ((show wpAny _ _ (callWith _ (Value.builtin _) (_ :: _) _ _) _ _ _); refine callWith_method1 ?_))
  k_with "pyIter ref" => (refine Hold9.out ?_)
  k_with "exec For" => (refine For_invVF (by assumption) (by rfl) (by rfl) ?_ (hE := hE))
  k_with "Turn9" => (refine Turn9.ret ?_; (try dsimp only))
  k_steps
  refine Hold9.mk ?_
  rename Fr _ _ _ _ => F2
  rename News _ _ _ _ => N2
  rename IsRange _ _ _ _ _ _ _ _ => R2
  (with_unfolding_all refine' rangeS9 (σ := Unit) (n := copies + 2) (fun _ => _) (fun c => [("copies", .int (copies : Int) tc)]) [] (fun i c => True) () (by rfl) R2 ?hsm ?hsz F2 N2 ?hk trivial ?turn ?done)
  case hsm => first | exact small_one (by clear how hot h46 hwl htl hc hd hu hK'; omega) (by clear how hot h46 hwl htl hc hd hu hK'; omega) (by clear how hot h46 hwl htl hd hu hK'; omega) (by clear how hot h46 hwl htl hd hu hK'; omega)
  case hsz => first | exact rangeSize_nat _ _ | rfl
  case hk => kst_all
  case turn =>
    clear F2 N2
    rintro I9 oI9 i9 t9 c9 u9 h9 tk9 hi9 hlt9 hp9 hoff9 F9 N9
    dsimp only [kstB] at hp9 hoff9 F9 N9
    rw [Int.zero_add] at F9
    have hal := hall i9 (by clear how hot h46 hwl htl hc hd hu hK'; omega)
    have hys : 2 ≤ ((⟨#[]⟩ :: (List.replicate i9 wd ++ [⟨#[]⟩]) : List Str)).length := by simp
    have hyd : ∀ y ∈ ((⟨#[]⟩ :: (List.replicate i9 wd ++ [⟨#[]⟩]) : List Str)), 46 ∉ cpl y := by
      intro y hy
      simp only [List.mem_cons, List.mem_append, List.mem_replicate, List.not_mem_nil, or_false] at hy
      rcases hy with rfl | ⟨_, rfl⟩ | rfl
      · simp [cpl]
      · exact h46
      · simp [cpl]
    have hj1 := (split_dots _ hys hyd).1
    have hj2 := (split_dots _ hys hyd).2
    have hsum : ((List.replicate i9 wd).map (·.length)).sum = i9 * wd.length := by simp
    have hmul : i9 * wd.length ≤ 9 * 6 := Nat.mul_le_mul (by clear how hot h46 hwl htl hd hu hK' hal hys hj1 hj2 hsum; omega) hwl
    have hjl : (Str.join dots9 (⟨#[]⟩ :: (List.replicate i9 wd ++ [⟨#[]⟩]))).length < 1000 := by
      have := StrLaws.join_length_le dots9 (⟨#[]⟩ :: (List.replicate i9 wd ++ [⟨#[]⟩]))
      simp only [List.map_cons, List.map_append, List.sum_cons, List.sum_append, hsum, List.length_cons, List.length_append, List.length_replicate, List.length_nil, List.map_nil, List.sum_nil, len_dots] at this
      have h0 : (⟨#[]⟩ : Str).length = 0 := rfl
      clear how hot h46 hwl htl hd hu hK' hal hys hj1 hj2; omega
    k_with "binaryOp Mult ref int" => (refine KMa.mul (by k_asm) (by k_asm) (by is_list) (by clear how hot h46 hwl htl hc hd hu hK' hi9 hal hys hj1 hj2 hsum hmul hjl; omega) (by clear how hot h46 hwl htl hd hu hK' hal hys hj1 hj2 hsum hmul hjl; omega) (by simp only [List.length_cons, List.length_nil]; clear how hot h46 hwl htl hd hu hK' hal hys hj1 hj2 hsum hmul hjl; omega) rfl ?_; intro D' h' F' N' l1; (try k_lt l1); (try k_sweep))
    k_with "binaryOp Add ref ref" => (refine kmk_add_lit (by k_asm) (by k_asm) (by is_list) (by is_list) rfl ?_ (by rw [sizeLine_eq]; simp; clear how hot h46 hwl htl hd hu hK' hal hys hj1 hj2 hsum hmul hjl l1; omega); intro D' h' F' N' l1; (try k_lt l1); (try k_sweep))
    have hem : ∀ (nws : List (Addr × Obj)) (tw tg : Tok), Spec9 w 6 nws (call (.ref 57) [.str (Str.join dots9 (⟨#[]⟩ :: (List.replicate i9 wd ++ [⟨#[]⟩]))) tw, .str tx tg]) (fun v nw => nws = nw ∧ v = .bool (decide (i9 ≤ copies))) := by
      intro nws tw tg
      revert hj1 hj2 hjl
      generalize Str.join dots9 (⟨#[]⟩ :: (List.replicate i9 wd ++ [⟨#[]⟩])) = J9
      intro hj1 hj2 hjl
      have h := em3_c w 5 nws J9 tx (List.replicate i9 wd) tw tg hj2 hj1 (by intro y hy; rw [(List.mem_replicate.mp hy).2]; clear how hot h46 htl hc hd hu hK' hi9 hal hys hsum hmul hj1 hj2 hjl; omega) (by rw [List.length_replicate]; clear how hot h46 hwl htl hd hu hK' hal hys hsum hmul hj1 hj2 hjl; omega) hjl (by clear how hot h46 hwl hc hd hu hK' hi9 hal hys hsum hmul hj1 hj2 hjl; omega)
      rw [hal] at h
      exact h
    k_with "call builtin:str.join" => (refine join9 (by is_list) (ys := ⟨#[]⟩ :: (List.replicate i9 wd ++ [⟨#[]⟩])) (by exact StrsAre.cons _ _ (StrsAre.append' (strsAre_rep wd _ i9) (.cons _ _ .nil))) (by simp only [List.map_cons, List.map_append, List.sum_cons, List.sum_append, hsum, List.length_cons, List.length_append, List.length_replicate, List.length_nil, List.map_nil, List.sum_nil]; rw [show (Str.ofString "...").length = 3 from len_dots, show (⟨#[]⟩ : Str).length = 0 from rfl]; clear how hot h46 hwl htl hd hu hK' hal hys hj1 hj2 hjl l1; omega) ?_; intro t7 k7)
    k_with "call ref" => (refine Spec9.useV (hem _ _ _) (by k_asm) (by k_asm) (by k_asm) (by k_asm) (by k_asm) (by first | exact rfl | assumption) (by first | exact room9 (by decide) hd | ktr_room) (by first | exact units9 (by decide) hu | ktr_units) ?_; (intro h9 tk9 F9 N9; (try k_fold)))
    k_steps
    · rename (_ != _) = true => hne
      exact absurd hne (by by_cases hh : i9 ≤ copies <;> simp [hh] <;> omega)
    · refine' turn9_end () (by assumption) (by assumption) ?hn (fun p hp => hoff9 p hp) ?hk ?hr trivial
      case hn => kst_in
      case hk => kst_all
      case hr => first | kst_same | (dsimp only [kstB]; kst_same) | (intro z h1 h2 h3; simp [h1, h2, h3, kstB])
  case done =>
    rintro c9 u9 h9 tk9 hp9 F9 N9
    dsimp only [kstB] at hp9 F9 N9
    k_steps
    exact hfin _ _ _ _ _ _ _ F9 N9 (by k_mem) (by k_mem) (by k_mem)
theorem at28 (w : World) (L : Addr) (a b c : Array Value) (wd tx : Str) (tw tt ts : Tok) (ow ot os : Obj) (how : ow.data = .cell (some (.str wd tw))) (hot : ot.data = .cell (some (.str tx tt)))
    (sz : Nat) (hos : os.data = .cell (some (.int (sz : Int) ts))) (lf : Addr) (vs : List Value) (n : Nat) (ns : List Int) (hi : IntsAre vs ns) (hlen : ns.length < 100)
    (h46 : 46 ∉ cpl wd) (hwl : wd.length ≤ 6) (htl : tx.length ≤ 16) (G : Nat → Nat → Prop) (g0 : G 0 0)
    (gs : ∀ c h, G c h → h < ns.length → h < bis (fun i => decide (ns.getD i 0 < ns.getD h 0 + sz)) ns.length 0 ns.length ∧ G (c + 1) (bis (fun i => decide (ns.getD i 0 < ns.getD h 0 + sz)) ns.length 0 ns.length))
    (ge : ∀ c h, G c h → ¬ h < ns.length → c ≤ 8 ∧ ∀ k, k ≤ c + 1 → ellGo (cpl tx) tx.length ((⟨#[]⟩ :: (List.replicate k wd ++ [⟨#[]⟩])).map cpl) 0 = decide (k ≤ c)) :
    At9 w 28 L [("found", .ref lf)] [(lf, listOf vs.toArray n), (L + 1, os), (L + 1 + 1 + 1 + 1, ow), (L + 1 + 1, ot), (94, tabObj a), (87, tabObj b), (101, tabObj c)] := by
  refine At9.mk ?_
  intro hK' p loose mean mg mb dp un gd fa outer A₀ base h₀ u s Q E B F X N T hd hu hE hfin
  dsimp only [List.drop]
  k_with_none
  k_with "pyIter ref" => (refine Hold9.out ?_)
  k_with "exec For" => (refine For_invVF (by assumption) (by rfl) (by rfl) ?_ (hE := hE))
  k_with "Turn9" => (refine Turn9.ret ?_; (try dsimp only))
  generalize hR : (Stmt.For _ _ _ _ _ :: _ : List Stmt) = R
  generalize hW : Stmt.While _ _ _ _ = W
  k_steps
  subst hW
  rename Fr _ _ _ _ => F2
  rename News _ _ _ _ => N2
  (with_unfolding_all refine' ksw_while (σ := (Nat × Nat) × (Tok × Tok)) (fun _ => _) (fun c => [("copies", .int (c.1.1 : Int) c.2.1), ("hop", .int (c.1.2 : Int) c.2.2), ("found", .ref lf)]) (fun _ => True) [] (fun c => G c.1.1 c.1.2) (fun c => ns.length - c.1.2) ((0, 0), (_, _)) F2 N2 trivial ?hk ?hp ?turn)
  case hk => kst_all
  case hp => exact g0
  case turn =>
    clear F2 N2
    refine pr22 ?_
    intro cp hp tc th u9 h9 tk9 hb0 hG F9 N9
    clear hb0
    dsimp only [kstB] at hG F9 N9
    dsimp only
    k_with "call ref" => (first | (refine Spec9.useT (add_c w 1 _ _ _ _ _) (by k_asm) (by k_asm) (by k_asm) (by k_asm) (by k_asm) (by first | exact rfl | assumption) (by first | exact room9 (by decide) hd | ktr_room) (by first | exact units9 (by decide) hu | ktr_units) ?_; (intro t9 h9 tk9 F9 N9; (try k_fold))) | (refine Spec9.useT (bl_c w _ _ _ ns _ _ _ List.mem_cons_self hi hlen) (by k_asm) (by k_asm) (by k_asm) (by k_asm) (by k_asm) (by first | exact rfl | assumption) (by first | exact room9 (by decide) hd | ktr_room) (by first | exact units9 (by decide) hu | ktr_units) ?_; (intro t9 h9 tk9 F9 N9; (try k_fold))))
    k_steps
    · rename (_ : Int) < _ => hlt
      have hlt' : hp < ns.length := by omega
      have hg := gs cp hp hG hlt'
      refine' ksw_end ((cp + 1, bis (fun i => decide (ns.getD i 0 < ns.getD hp 0 + sz)) ns.length 0 ns.length), (_, _)) (by assumption) (by assumption) (fun p hp => hp) trivial ?hk ?hr ?hp ?hm
      case hk => kst_all
      case hr => first | ksw_same | (dsimp only [kstB]; ksw_same)
      case hp => exact hg.2
      case hm => ksw_less
    · rename ¬ ((_ : Int) < _) => hlt
      have hc8 := (ge cp hp hG (by omega)).1
      have hall := (ge cp hp hG (by omega)).2
      subst hR
      exact (at31 w L a b c wd tx tw tt _ ow ot cp how hot h46 hwl htl hc8 hall).use hK' B F9 X N9 T hd hu hE (by assumption) (by kst_all) (by intro p hp; simp only [List.mem_cons, List.not_mem_nil, or_false] at hp ⊢; rcases hp with rfl | rfl | rfl | rfl | rfl <;> simp)
theorem at27 (w : World) (L : Addr) (a b c : Array Value) (wd tx : Str) (tw tt ts : Tok) (ow ot os : Obj) (how : ow.data = .cell (some (.str wd tw))) (hot : ot.data = .cell (some (.str tx tt)))
    (sz : Nat) (hos : os.data = .cell (some (.int (sz : Int) ts))) (lf : Addr) (vs : List Value) (n : Nat) (ns : List Int) (hi : IntsAre vs ns) (hlen : ns.length < 100)
    (h46 : 46 ∉ cpl wd) (hwl : wd.length ≤ 6) (htl : tx.length ≤ 16) (n9 : Nat) (hn9 : (tx.length : Int) - sz + 1 = n9) (hns : ns = (rangeKs 0 n9).filter fun k => decide (Txt.slice tx (some k) (some (k + sz)) = wd)) (G : Nat → Nat → Prop) (g0 : G 0 0)
    (gs : ∀ c h, G c h → h < ns.length → h < bis (fun i => decide (ns.getD i 0 < ns.getD h 0 + sz)) ns.length 0 ns.length ∧ G (c + 1) (bis (fun i => decide (ns.getD i 0 < ns.getD h 0 + sz)) ns.length 0 ns.length))
    (ge : ∀ c h, G c h → ¬ h < ns.length → c ≤ 8 ∧ ∀ k, k ≤ c + 1 → ellGo (cpl tx) tx.length ((⟨#[]⟩ :: (List.replicate k wd ++ [⟨#[]⟩])).map cpl) 0 = decide (k ≤ c)) :
    At9 w 27 L [("found", .ref lf)] [(lf, listOf vs.toArray n), (L + 1, os), (L + 1 + 1 + 1 + 1, ow), (L + 1 + 1, ot), (94, tabObj a), (87, tabObj b), (101, tabObj c)] := by
  refine At9.mk ?_
  intro hK' p loose mean mg mb dp un gd fa outer A₀ base h₀ u s Q E B F X N T hd hu hE hfin
  dsimp only [List.drop]
  k_with_none
  k_with "pyIter ref" => (refine Hold9.out ?_)
  k_with "exec For" => (refine For_invVF (by assumption) (by rfl) (by rfl) ?_ (hE := hE))
  k_with "Turn9" => (refine Turn9.ret ?_; (try dsimp only))
  generalize hR : (Stmt.Assign _ _ _ :: _ : List Stmt) = R
  k_with "CompSrcT" => (refine Hold9.out ?_)
  k_steps
  refine Hold9.mk ?_
  rename IsRange _ _ _ _ _ _ _ _ => R2
  rw [hn9] at R2
  refine LCt.CompSrcT.range (by rfl) (by k_asm) (by k_asm) R2 (by exact small_one (by omega) (by omega) (by omega) (by omega)) (by exact rangeSize_nat _ _) (by rw [sizeLine_eq]; omega) ?_
  intro g'
  rw [show ((n9 : Int) - 0).toNat = n9 by omega]
  k_with "KCiEl" => (refine kci_el ?_ rfl rfl; rename (_ == _) = true => hb9; rw [if_pos (by simpa using hb9)])
  k_with "KCiNo" => (refine kci_no ?_ rfl; rename ¬ ((_ == _) = true) => hb9; rw [if_neg (by simpa using hb9)])
  k_with "CompEnd" => (refine LCg.CompEnd.intro (by assumption) (by assumption) _ (fun _ hp => hp) (by assumption) trivial ?_)
  refine' kci_range (fun l k => if decide (Txt.slice tx (some k) (some (k + sz)) = wd) then l ++ [k] else l) (fun k' t' I' oI' C' oC' D' m' ys' l' h' tk' E' hlo' hhi' hI' hC' hx' F' N' off' ne' => ?_) ?_ (by intro l k; dsimp only; split <;> simp)
  · intro hMark'
    k_steps
  · unfold KPfDone
    intro ys9 hys9 hyl9
    k_steps
    · subst hR
      dsimp only
      refine (at28 w L a b c wd tx tw tt ts ow ot os how hot sz hos lf vs n ns (by assumption) hlen h46 hwl htl G g0 gs ge).use hK' B (by assumption) X (by assumption) T hd hu hE (by assumption) (by kst_all) (by intro p hp; simp only [List.mem_cons, List.not_mem_nil, or_false] at hp ⊢; rcases hp with rfl | rfl | rfl | rfl | rfl | rfl | rfl <;> simp)
    · rename ¬ (_ = List.foldl _ _ _) => hne
      exact absurd (hns.trans (filt9 _ _ []).symm) hne
set_option maxHeartbeats 1000000 in
theorem at24 (w : World) (L lf : Addr) (a b c : Array Value) (wd tx : Str) (tw tt ts : Tok) (ow ot os : Obj) (how : ow.data = .cell (some (.str wd tw))) (hot : ot.data = .cell (some (.str tx tt)))
    (sz : Nat) (hos : os.data = .cell (some (.int (sz : Int) ts)))
    (h46 : 46 ∉ cpl wd) (hwl : wd.length ≤ 6) (htl : tx.length ≤ 16) (n9 : Nat) (hn9 : (tx.length : Int) - sz + 1 = n9) (G : List Int → Nat → Nat → Prop)
    (place period : Nat) (tpl tpe : Tok) (hpl : place ≤ sz) (hp1 : 1 ≤ period) (hp2 : period ≤ sz) (hsz : wd.length = sz) (hT : Tabs9 a b [(L + 1, os), (L + 1 + 1 + 1 + 1, ow), (L + 1 + 1, ot), (101, tabObj c)])
    (S : Nat → Nat → List Int → Prop) (s0 : S 0 0 [])
    (s1 : ∀ at9 kn F, S at9 kn F → at9 + sz ≤ tx.length → kn ≤ sz ∧ F.length < 50 ∧ 
      ((if (kn : Int) > (place : Int) then (kn : Int) else (place : Int)) + pre9 (Txt.slice wd (some (if (kn : Int) > (place : Int) then (kn : Int) else (place : Int))) none) (Txt.slice tx (some ((at9 : Int) + (if (kn : Int) > (place : Int) then (kn : Int) else (place : Int)))) none) < sz → S (at9 + (max place kn + pre9 (Txt.slice wd (some (if (kn : Int) > (place : Int) then (kn : Int) else (place : Int))) none) (Txt.slice tx (some ((at9 : Int) + (if (kn : Int) > (place : Int) then (kn : Int) else (place : Int)))) none) + 1 - place)) 0 F) ∧
      (¬ ((if (kn : Int) > (place : Int) then (kn : Int) else (place : Int)) + pre9 (Txt.slice wd (some (if (kn : Int) > (place : Int) then (kn : Int) else (place : Int))) none) (Txt.slice tx (some ((at9 : Int) + (if (kn : Int) > (place : Int) then (kn : Int) else (place : Int)))) none) < sz) →
        (suf9 (Txt.slice wd (some (kn : Int)) (some (place : Int))) (Txt.slice tx none (some ((at9 : Int) + place))) = (Txt.slice wd (some (kn : Int)) (some (place : Int))).length → S (at9 + period) (sz - period) (F ++ [(at9 : Int)])) ∧
        (suf9 (Txt.slice wd (some (kn : Int)) (some (place : Int))) (Txt.slice tx none (some ((at9 : Int) + place))) ≠ (Txt.slice wd (some (kn : Int)) (some (place : Int))).length → S (at9 + period) (sz - period) F)))
    (s2 : ∀ at9 kn F, S at9 kn F → ¬ at9 + sz ≤ tx.length → F.length < 100 ∧ F = (rangeKs 0 n9).filter (fun k => decide (Txt.slice tx (some k) (some (k + sz)) = wd)))
    (g0 : ∀ ns, ns = (rangeKs 0 n9).filter (fun k => decide (Txt.slice tx (some k) (some (k + sz)) = wd)) → G ns 0 0)
    (gs : ∀ ns c h, G ns c h → h < ns.length → h < bis (fun i => decide (ns.getD i 0 < ns.getD h 0 + sz)) ns.length 0 ns.length ∧ G ns (c + 1) (bis (fun i => decide (ns.getD i 0 < ns.getD h 0 + sz)) ns.length 0 ns.length))
    (ge : ∀ ns c h, G ns c h → ¬ h < ns.length → c ≤ 8 ∧ ∀ k, k ≤ c + 1 → ellGo (cpl tx) tx.length ((⟨#[]⟩ :: (List.replicate k wd ++ [⟨#[]⟩])).map cpl) 0 = decide (k ≤ c)) :
    At9 w 24 L [("found", .ref lf), ("place", .int (place : Int) tpl), ("period", .int (period : Int) tpe)] [(lf, listOf ([] : List Value).toArray 0), (L + 1, os), (L + 1 + 1 + 1 + 1, ow), (L + 1 + 1, ot), (94, tabObj a), (87, tabObj b), (101, tabObj c)] := by
  refine At9.mk ?_
  intro hK' p loose mean mg mb dp un gd fa outer A₀ base h₀ u s Q E B F X N T hd hu hE hfin
  dsimp only [List.drop]
  k_with_none
  k_with "pyIter ref" => (refine Hold9.out ?_)
  k_with "exec For" => (refine For_invVF (by assumption) (by rfl) (by rfl) ?_ (hE := hE))
  k_with "Turn9" => (refine Turn9.ret ?_; (try dsimp only))
  generalize hW : Stmt.While _ _ _ _ = W
  generalize hR : (Stmt.If _ _ _ _ :: _ : List Stmt) = R
  k_steps
  subst hW
  rename Fr _ _ _ _ => F2
  rename News _ _ _ _ => N2
  have hx1 : lf ≠ 87 ∧ lf ≠ 94 := ⟨addr_ne9 N2 (p := (lf, listOf ([] : List Value).toArray 0)) (q := (87, tabObj b)) (by k_mem) (by k_mem) (fun e => nomatch e), addr_ne9 N2 (p := (lf, listOf ([] : List Value).toArray 0)) (q := (94, tabObj a)) (by k_mem) (by k_mem) (fun e => nomatch e)⟩
  have ho0 : ∀ p ∈ ([] : List (Addr × Obj)) ++ [(L + 1, os), (L + 1 + 1 + 1 + 1, ow), (L + 1 + 1, ot), (101, tabObj c)], p.1 ≠ lf := by
    intro p hp
    refine addr_ne9 N2 (p := p) (q := (lf, listOf ([] : List Value).toArray 0)) ?_ (by k_mem) ?_
    · simp only [List.mem_cons, List.nil_append, List.not_mem_nil, or_false] at hp
      rcases hp with rfl | rfl | rfl | rfl <;> k_mem
    · simp only [List.mem_cons, List.nil_append, List.not_mem_nil, or_false] at hp
      rcases hp with rfl | rfl | rfl | rfl
      · intro e; dsimp only at e; rw [e] at hos; cases hos
      · intro e; dsimp only at e; rw [e] at how; cases how
      · intro e; dsimp only at e; rw [e] at hot; cases hot
      · exact fun e => nomatch e
  (with_unfolding_all refine' ksw_while (σ := (Nat × Nat × List Int) × (List Value × Nat) × (Array Value × Array Value × List (Addr × Obj)) × (Tok × Tok)) (fun c9 => (lf, listOf c9.2.1.1.toArray c9.2.1.2) :: (94, tabObj c9.2.2.1.1) :: (87, tabObj c9.2.2.1.2.1) :: (c9.2.2.1.2.2 ++ [(L + 1, os), (L + 1 + 1 + 1 + 1, ow), (L + 1 + 1, ot), (101, tabObj c)])) (fun c9 => [("at", .int (c9.1.1 : Int) c9.2.2.2.1), ("known", .int (c9.1.2.1 : Int) c9.2.2.2.2), ("found", .ref lf), ("place", .int (place : Int) tpl), ("period", .int (period : Int) tpe)]) (fun _ => True) ["begin", "run", "middle"] (fun c9 => S c9.1.1 c9.1.2.1 c9.1.2.2 ∧ IntsAre c9.2.1.1 c9.1.2.2 ∧ Tabs9 c9.2.2.1.1 c9.2.2.1.2.1 (c9.2.2.1.2.2 ++ [(L + 1, os), (L + 1 + 1 + 1 + 1, ow), (L + 1 + 1, ot), (101, tabObj c)]) ∧ ∀ p ∈ c9.2.2.1.2.2 ++ [(L + 1, os), (L + 1 + 1 + 1 + 1, ow), (L + 1 + 1, ot), (101, tabObj c)], p.1 ≠ lf) (fun c9 => tx.length + 1 - c9.1.1) ((0, 0, []), ([], _), (a, b, []), (_, _)) F2 (fun p hp => N2 p (by simp only [List.mem_cons, List.nil_append, List.not_mem_nil, or_false] at hp; rcases hp with rfl | rfl | rfl | rfl | rfl | rfl | rfl <;> first | k_mem | simp)) trivial ?hk ?hp ?turn)
  case hk => kst_all
  case hp => exact ⟨s0, .nil, hT, ho0⟩
  case turn =>
    refine pr3232 ?_
    intro at9 kn fs vs n pa pb ex ta tk u9 h9 tk9 hb0 hb F9' N9
    dsimp only [kstB] at hb F9' N9
    have hS := hb.1
    have hI := hb.2.1
    have hTT := hb.2.2.1
    have hoo := hb.2.2.2
    clear hb0 hb
    dsimp only
    have e1 : ∀ P9 : Nat, (at9 : Int) + ((if (kn : Int) > (place : Int) then (kn : Int) else (place : Int)) + P9 + 1 - place) = ((at9 + (max place kn + P9 + 1 - place) : Nat) : Int) := by intro P9; split <;> (clear how hot hos h46 hwl htl hn9 hpl hp1 hp2 hsz hd hu hK' hR hx1; omega)
    have e2 : (sz : Int) - period = ((sz - period : Nat) : Int) := by clear how hot hos h46 hwl htl hn9 hpl hp1 hsz hd hu hK' hR hx1; omega
    have e3 : (at9 : Int) + period = ((at9 + period : Nat) : Int) := by clear how hot hos h46 hwl htl hn9 hpl hp1 hp2 hsz hd hu hK' hR hx1 e2; omega
    k_with "call builtin:list.append" => (refine append_K (by k_asm) (by k_asm) (Upd.head (by intro p hp; simp only [List.mem_cons] at hp; rcases hp with rfl | rfl | hp; exact Ne.symm hx1.2; exact Ne.symm hx1.1; exact ho8 p hp)) ?_ (by have := hI.length; rw [sizeLine_eq]; simp; clear how hot hos h46 hwl htl hpl hp1 hp2 hsz hd hu hK' hR hx1 e2 e3; omega); intro h' F' N'; (try rw [List.push_toArray] at N'))
    k_with "call ref" => (first | (refine Spec9.useT (add_c w 9 _ _ _ _ _) (by k_asm) (by k_asm) (by k_asm) (by k_asm) (by k_asm) (by first | exact rfl | assumption) (by first | exact room9 (by decide) hd | ktr_room) (by first | exact units9 (by decide) hu | ktr_units) ?_; (intro t9 h9 tk9 F9 N9; (try k_fold))) | (refine Spec9.useT (sub_c w 9 _ _ _ _ _) (by k_asm) (by k_asm) (by k_asm) (by k_asm) (by k_asm) (by first | exact rfl | assumption) (by first | exact room9 (by decide) hd | ktr_room) (by first | exact units9 (by decide) hu | ktr_units) ?_; (intro t9 h9 tk9 F9 N9; (try k_fold))) | (refine Spec9.useL (ah_L w _ _ _ _ _ _ _ _ _ hTT (noCode_list _ _) hx1 hoo (mem_slice h46) (Nat.lt_of_le_of_lt (Txt.slice_le _ _ _) (by clear how hot hos h46 htl hn9 hpl hp1 hp2 hd hu hK' hR hx1 e3; omega)) (Nat.lt_of_le_of_lt (Txt.slice_le _ _ _) (by clear how hot hos h46 hwl hpl hp1 hp2 hsz hd hu hK' hR hx1 e3; omega))) (by k_asm) (by k_asm) (by k_asm) (by k_asm) (by k_asm) (by first | exact rfl | assumption) (by first | exact room9 (by decide) hd | ktr_room) (by first | exact units9 (by decide) hu | ktr_units) ?_; (intro t9 pb9 ex9 h9 tk9 hT9 ho9 F9 N9; (try k_fold))) | (refine Spec9.useL (bh_L w _ _ _ _ _ _ _ _ _ hT9 (noCode_list _ _) hx1 ho9 ⟨(101, tabObj c), by simp, by show (87 : Nat) < 101; decide⟩ (mem_slice h46) (Nat.lt_of_le_of_lt (Txt.slice_le _ _ _) (by clear how hot hos h46 htl hn9 hpl hp1 hp2 hd hu hK' hR hx1 e3; omega)) (Nat.lt_of_le_of_lt (Txt.slice_le _ _ _) (by clear how hot hos h46 hwl hpl hp1 hp2 hsz hd hu hK' hR hx1 e3; omega))) (by k_asm) (by k_asm) (by k_asm) (by k_asm) (by k_asm) (by first | exact rfl | assumption) (by first | exact room9 (by decide) hd | ktr_room) (by first | exact units9 (by decide) hu | ktr_units) ?_; (intro t8 pa8 ex8 h9 tk9 hT8 ho8 F9 N9; (try k_fold))) | (refine Hold9.out ?_))
    have hkF : at9 + sz ≤ tx.length → kn ≤ sz ∧ fs.length < 50 := fun h => ⟨(s1 at9 kn fs hS h).1, (s1 at9 kn fs hS h).2.1⟩
    k_steps
    · rename _ + _ < _ => hlt
      have hst := (s1 at9 kn fs hS (by clear how hot hos h46 hwl htl hpl hp1 hp2 hsz hd hu hK' hR hx1 e2 e3 hlt; omega)).2.2.1
      rename Fr _ _ _ _ => F3
      rw [e1] at F3
      refine' ksw_end ((_, 0, fs), (vs, n), (pa, pb9, ex9), (_, _)) (by assumption) (by assumption) (fun p hp => hp) trivial ?hk ?hr ⟨hst hlt, hI, hT9, ho9⟩ ?hm
      case hk => kst_all
      case hr => first | ksw_same | (dsimp only [kstB]; ksw_same)
      case hm => (dsimp only; have hmx : place ≤ max place kn := Nat.le_max_left _ _; clear how hot hos h46 htl hpl hp1 hp2 hd hu hK' hR hx1 e3 hlt; omega)
    · rename ¬ (_ + _ < _) => hlt
      have hst := (s1 at9 kn fs hS (by clear how hot hos h46 hwl htl hpl hp1 hp2 hsz hd hu hK' hR hx1 e2 e3 hlt; omega)).2.2.2
      have hst2 := hst hlt
      rename Fr _ _ _ _ => F3
      rw [e2, e3] at F3
      refine' ksw_end ((at9 + period, sz - period, fs ++ [(at9 : Int)]), (vs ++ [.int (at9 : Int) ta], n + 1), (pa8, pb9, ex8), (_, _)) (by assumption) (by assumption) (fun p hp => hp) trivial ?hk ?hr ⟨hst2.1 (by clear how hot hos h46 hwl htl hn9 hpl hp1 hp2 hsz hd hu hK' hR hx1 e2 e3 hlt hst2; omega), hI.append (.cons (at9 : Int) ta .nil), hT8, ho8⟩ ?hm
      case hk => kst_all
      case hr => first | ksw_same | (dsimp only [kstB]; ksw_same)
      case hm => (dsimp only; clear how hot hos h46 htl hpl hp2 hd hu hK' hR hx1 e3 hlt hst2; omega)
    · rename ¬ (_ + _ < _) => hlt
      have hst := (s1 at9 kn fs hS (by clear how hot hos h46 hwl htl hpl hp1 hp2 hsz hd hu hK' hR hx1 e2 e3 hlt; omega)).2.2.2
      have hst2 := hst hlt
      rename Fr _ _ _ _ => F3
      rw [e2, e3] at F3
      refine' ksw_end ((at9 + period, sz - period, fs), (vs, n), (pa8, pb9, ex8), (_, _)) (by assumption) (by assumption) (fun p hp => hp) trivial ?hk ?hr ⟨hst2.2 (by clear how hot hos h46 hwl htl hn9 hpl hp1 hp2 hsz hd hu hK' hR hx1 e3; omega), hI, hT8, ho8⟩ ?hm
      case hk => kst_all
      case hr => first | ksw_same | (dsimp only [kstB]; ksw_same)
      case hm => (dsimp only; clear how hot hos h46 htl hpl hp2 hd hu hK' hR hx1 e3 hlt hst2; omega)
    · rename ¬ (_ + _ ≤ _) => hlt
      have hsB := s2 at9 kn fs hS (by clear how hot hos h46 hwl htl hpl hp1 hp2 hsz hd hu hK' hR hx1 e2 e3; omega)
      have hl9 := hsB.1
      have hns := hsB.2
      clear hsB
      subst hR
      exact (at27 w L pa pb c wd tx tw tt ts ow ot os how hot sz hos lf vs n fs hI (by clear how hot hos h46 hwl htl hn9 hpl hp1 hp2 hsz hd hu hK' hx1 e2 e3 hlt hns; omega) h46 hwl htl n9 hn9 hns (G fs) (g0 _ hns) (gs fs) (ge fs)).use hK' B (by assumption) X (by assumption) T hd hu hE (by assumption) (by kst_all) (by intro p hp; simp only [List.mem_cons, List.mem_append, List.not_mem_nil, or_false] at hp ⊢; rcases hp with rfl | rfl | rfl | rfl | rfl | rfl | rfl <;> simp)
set_option maxHeartbeats 1000000 in
theorem at22 (w : World) (L le : Addr) (a b c : Array Value) (wd tx : Str) (tw tt ts : Tok) (ow ot os : Obj) (how : ow.data = .cell (some (.str wd tw))) (hot : ot.data = .cell (some (.str tx tt)))
    (sz : Nat) (hos : os.data = .cell (some (.int (sz : Int) ts)))
    (place period : Nat) (tpl tpe : Tok) (es : List Int) (vs : List Value) (n : Nat) (hi : IntsAre vs es) (hel : es.length < 90) (hpl : place < es.length) (hm1 : (period : Int) ∈ es) (hm2 : ∀ x ∈ es, x ≤ (period : Int)) (hat : es.getD place 0 = period)
    (hnext : ∀ lf, At9 w 24 L [("found", .ref lf), ("place", .int (place : Int) tpl), ("period", .int (period : Int) tpe)] [(lf, listOf ([] : List Value).toArray 0), (L + 1, os), (L + 1 + 1 + 1 + 1, ow), (L + 1 + 1, ot), (94, tabObj a), (87, tabObj b), (101, tabObj c)]) :
    At9 w 22 L [("echoes", .ref le), ("place", .int (place : Int) tpl), ("period", .int (period : Int) tpe)] [(le, listOf vs.toArray n), (L + 1, os), (L + 1 + 1 + 1 + 1, ow), (L + 1 + 1, ot), (94, tabObj a), (87, tabObj b), (101, tabObj c)] := by
  refine At9.mk ?_
  intro hK' p loose mean mg mb dp un gd fa outer A₀ base h₀ u s Q E B F X N T hd hu hE hfin
  dsimp only [List.drop]
  k_with_none
  k_with "pyIter ref" => (refine Hold9.out ?_)
  k_with "exec For" => (refine For_invVF (by assumption) (by rfl) (by rfl) ?_ (hE := hE))
  k_with "Turn9" => (refine Turn9.ret ?_; (try dsimp only))
  generalize hR : (Stmt.Assign _ _ _ :: Stmt.Assign _ _ _ :: _ : List Stmt) = R
  k_steps
  · exfalso
    rename (_ : Int) ∈ es => q1
    rename ∀ a ∈ es, a ≤ _ => q2
    rename (_ : Int) ≠ _ => q3
    exact q3 (Int.le_antisymm (hm2 _ q1) (q2 _ hm1))
  · exfalso
    rename es.getD _ 0 ≠ _ => q3
    exact q3 hat
  · dsimp only
    subst hR
    generalize hR : (Stmt.Assign _ _ _ :: Stmt.Assign _ _ _ :: Stmt.While _ _ _ _ :: _ : List Stmt) = R
    k_steps
    rename Fr _ _ _ _ => F2
    rename News _ _ _ _ => N2
    refine head9 N2 (fun lf hlf => ?_)
    subst hlf
    subst hR
    exact (hnext lf).use hK' B F2 X N2 T hd hu hE (by assumption) (by kst_all) (by intro p hp; simp only [List.mem_cons, List.not_mem_nil, or_false] at hp; rcases hp with rfl | rfl | rfl | rfl | rfl | rfl | rfl <;> first | k_mem | simp)
set_option maxHeartbeats 1000000 in
theorem at21 (w : World) (L le : Addr) (a b c : Array Value) (wd tx : Str) (tw tt ts : Tok) (ow ot os : Obj) (how : ow.data = .cell (some (.str wd tw))) (hot : ot.data = .cell (some (.str tx tt)))
    (sz : Nat) (hos : os.data = .cell (some (.int (sz : Int) ts))) (h46 : 46 ∉ cpl wd) (hwl : wd.length < 90) (hsz : wd.length = sz)
    (place period : Nat) (tpl tpe : Tok) (ec : Nat → Nat) (rowf : Nat → Nat → Bool)
    (hrow : ∀ cut i, cut ≤ sz → i < sz → Txt.startswith (Txt.slice wd (some (if (1 + (i : Int)) > (cut : Int) then (1 + (i : Int)) else (cut : Int))) none) (Txt.slice wd (some (if ((cut : Int) - (1 + (i : Int))) > 0 then ((cut : Int) - (1 + (i : Int))) else 0)) (some (if ((sz : Int) - (1 + (i : Int))) < (cut : Int) then ((sz : Int) - (1 + (i : Int))) else (cut : Int)))) = rowf cut i)
    (hec : ∀ cut, cut ≤ sz → ec cut < sz ∧ rowf cut (ec cut) = true ∧ ∀ i, i < ec cut → rowf cut i = false)
    (hnext : ∀ vs n, IntsAre vs ((List.range (sz + 1)).map fun k => 1 + (ec k : Int)) → At9 w 22 L [("echoes", .ref le), ("place", .int (place : Int) tpl), ("period", .int (period : Int) tpe)] [(le, listOf vs.toArray n), (L + 1, os), (L + 1 + 1 + 1 + 1, ow), (L + 1 + 1, ot), (94, tabObj a), (87, tabObj b), (101, tabObj c)]) :
    At9 w 21 L [("echoes", .ref le), ("place", .int (place : Int) tpl), ("period", .int (period : Int) tpe)] [(le, listOf ([] : List Value).toArray 0), (L + 1, os), (L + 1 + 1 + 1 + 1, ow), (L + 1 + 1, ot), (94, tabObj a), (87, tabObj b), (101, tabObj c)] := by
  refine At9.mk ?_
  intro hK' p loose mean mg mb dp un gd fa outer A₀ base h₀ u s Q E B F X N T hd hu hE hfin
  dsimp only [List.drop]
  k_with_none
  k_with "pyIter ref" => (refine Hold9.out ?_)
  k_with "exec For" => (refine For_invVF (by assumption) (by rfl) (by rfl) ?_ (hE := hE))
  k_with "Turn9" => (refine Turn9.ret ?_; (try dsimp only))
  generalize hR : (Stmt.If _ _ _ _ :: _ : List Stmt) = R
  k_steps
  refine Hold9.mk ?_
  rename Fr _ _ _ _ => F2
  rename News _ _ _ _ => N2
  rename IsRange _ _ _ _ _ _ _ _ => R2
  (with_unfolding_all refine' rangeS9 (σ := List Value × Nat) (n := sz + 1) (fun c9 => (le, listOf c9.1.toArray c9.2) :: [(L + 1, os), (L + 1 + 1 + 1 + 1, ow), (L + 1 + 1, ot), (94, tabObj a), (87, tabObj b), (101, tabObj c)]) (fun c9 => [("echoes", .ref le), ("place", .int (place : Int) tpl), ("period", .int (period : Int) tpe)]) ["row", "step", "ahead"] (fun i c9 => IntsAre c9.1 ((List.range i).map fun k => 1 + (ec k : Int))) ([], 0) (by rfl) R2 ?hsm ?hsz F2 N2 ?hk ?hp ?turn ?done)
  case hsm => exact small_one (by omega) (by omega) (by omega) (by omega)
  case hsz => first | exact rangeSize_nat _ _ | rfl
  case hk => kst_all
  case hp => exact .nil
  case turn =>
    clear F2 N2
    rintro I9 oI9 i9 t9 c9 u9 h9 tk9 hi9 hlt9 hp9 hoff9 F9 N9
    obtain ⟨vs, n⟩ := c9
    dsimp only [kstB] at hp9 hoff9 F9 N9
    have hvl9 : vs.length = i9 := by
      have := hp9.length
      rwa [List.length_map, List.length_range] at this
    rw [Int.zero_add] at F9
    have hb0 : ∀ p ∈ [(L + 1, os), (L + 1 + 1 + 1 + 1, ow), (L + 1 + 1, ot), (94, tabObj a), (87, tabObj b), (101, tabObj c)], p.1 ≠ le := by
      intro p hp
      refine addr_ne9 N9 (p := p) (q := (le, listOf vs.toArray n)) (List.mem_cons_of_mem _ (List.mem_cons_of_mem _ hp)) (by k_mem) ?_
      simp only [List.mem_cons, List.not_mem_nil, or_false] at hp
      rcases hp with rfl | rfl | rfl | rfl | rfl | rfl
      · intro e; dsimp only at e; rw [e] at hos; cases hos
      · intro e; dsimp only at e; rw [e] at how; cases how
      · intro e; dsimp only at e; rw [e] at hot; cases hot
      all_goals exact fun e => nomatch e
    have hIle : I9 ≠ le := fun e => hoff9 (le, listOf vs.toArray n) List.mem_cons_self e.symm
    k_steps
    refine Hold9.mk ?_
    rename Fr _ _ _ _ => F2
    rename News _ _ _ _ => N2
    rename IsRange _ _ _ _ _ _ _ _ => R3
    refine head9 N2 (fun lr hlr => ?_)
    subst hlr
    rename I9 < _ ∧ _ => l1
    have q1 := l1.1
    have q2 := l1.2.1
    have q3 := l1.2.2.1
    have q4 := l1.2.2.2.1
    have q5 := l1.2.2.2.2.1
    have q6 := l1.2.2.2.2.2.1
    have q7 := l1.2.2.2.2.2.2.1
    have q8 := l1.2.2.2.2.2.2.2
    clear l1
    have hr0 : ∀ p ∈ ((I9, oI9) :: (le, listOf vs.toArray n) :: [(L + 1, os), (L + 1 + 1 + 1 + 1, ow), (L + 1 + 1, ot), (94, tabObj a), (87, tabObj b), (101, tabObj c)]), p.1 ≠ lr := by
      intro p hp
      simp only [List.mem_cons, List.not_mem_nil, or_false] at hp; rcases hp with rfl | rfl | rfl | rfl | rfl | rfl | rfl | rfl
      all_goals exact Nat.ne_of_lt (by assumption)
    (with_unfolding_all refine' rangeS9 (σ := List Bool × Nat) (n := sz) (fun c9 => (lr, listOf (c9.1.map Value.bool).toArray c9.2) :: (I9, oI9) :: (le, listOf vs.toArray n) :: [(L + 1, os), (L + 1 + 1 + 1 + 1, ow), (L + 1 + 1, ot), (94, tabObj a), (87, tabObj b), (101, tabObj c)]) (fun c9 => [("row", .ref lr), ("cut", .int (i9 : Int) t9), ("echoes", .ref le), ("place", .int (place : Int) tpl), ("period", .int (period : Int) tpe)]) ["ahead"] (fun i c9 => c9.1 = (List.range i).map (rowf i9)) ([], 0) (by rfl) R3 ?hsm2 ?hsz2 F2 N2 ?hk2 ?hp2 ?turn2 ?done2)
    case hsm2 => exact small_one (by omega) (by omega) (by omega) (by omega)
    case hsz2 => rw [rangeSize_nat]; omega
    case hk2 => kst_all
    case hp2 => rfl
    case turn2 =>
      clear F2 N2
      rintro I8 oI8 i8 t8 c8 u8 h8 tk8 hi8 hlt8 hp8 hoff8 F8 N8
      obtain ⟨bs, m⟩ := c8
      dsimp only [kstB] at hp8 hoff8 F8 N8
      have hIlr : I8 ≠ lr := fun e => hoff8 (lr, listOf (bs.map Value.bool).toArray m) List.mem_cons_self e.symm
      have hrw := hrow i9 i8 (by omega) hi8
      have hbl : bs.length = i8 := by rw [hp8]; simp
      have hem : ∀ (nws : List (Addr × Obj)) (tw tg : Tok), Spec9 w 2 nws (call (.ref 57) [.str (Txt.slice wd (some (if ((i9 : Int) - (1 + (i8 : Int))) > 0 then ((i9 : Int) - (1 + (i8 : Int))) else 0)) (some (if ((sz : Int) - (1 + (i8 : Int))) < (i9 : Int) then ((sz : Int) - (1 + (i8 : Int))) else (i9 : Int))) ++ Str.ofString "...") tw, .str (Txt.slice wd (some (if (1 + (i8 : Int)) > (i9 : Int) then (1 + (i8 : Int)) else (i9 : Int))) none) tg]) (fun v nw => nws = nw ∧ v = .bool (rowf i9 i8)) := by
        intro nws tw tg
        have hq := Txt.slice_le wd (some (if ((i9 : Int) - (1 + (i8 : Int))) > 0 then ((i9 : Int) - (1 + (i8 : Int))) else 0)) (some (if ((sz : Int) - (1 + (i8 : Int))) < (i9 : Int) then ((sz : Int) - (1 + (i8 : Int))) else (i9 : Int)))
        have hg := Txt.slice_le wd (some (if (1 + (i8 : Int)) > (i9 : Int) then (1 + (i8 : Int)) else (i9 : Int))) none
        have h := em1_c w 1 nws (Txt.slice wd (some (if ((i9 : Int) - (1 + (i8 : Int))) > 0 then ((i9 : Int) - (1 + (i8 : Int))) else 0)) (some (if ((sz : Int) - (1 + (i8 : Int))) < (i9 : Int) then ((sz : Int) - (1 + (i8 : Int))) else (i9 : Int))) ++ Str.ofString "...") (Txt.slice wd (some (if ((i9 : Int) - (1 + (i8 : Int))) > 0 then ((i9 : Int) - (1 + (i8 : Int))) else 0)) (some (if ((sz : Int) - (1 + (i8 : Int))) < (i9 : Int) then ((sz : Int) - (1 + (i8 : Int))) else (i9 : Int)))) (Txt.slice wd (some (if (1 + (i8 : Int)) > (i9 : Int) then (1 + (i8 : Int)) else (i9 : Int))) none) tw tg (em1_facts (mem_slice h46)).1 (em1_facts (mem_slice h46)).2 (by omega) (by rw [← cpl_length, cpl_append, List.length_append, cpl_length, cpl_length, show (Str.ofString "...").length = 3 from len_dots]; omega) (by omega)
        rw [hrw] at h
        exact h
      k_with "call builtin:list.append" => (refine append_K (by k_asm) (by k_asm) (Upd.tail hIlr (Upd.head hr0)) ?_ (by rw [sizeLine_eq]; simp; omega); intro h' F' N'; (try rw [List.push_toArray] at N'))
      k_with "call ref" => (first | (refine Spec9.useV (hem _ _ _) (by k_asm) (by k_asm) (by k_asm) (by k_asm) (by k_asm) (by first | exact rfl | assumption) (by first | exact room9 (by decide) hd | ktr_room) (by first | exact units9 (by decide) hu | ktr_units) ?_; (intro h9 tk9 F9 N9; (try k_fold))) | (refine Hold9.out ?_))
      k_steps
      refine' turn9_end (bs ++ [rowf i9 i8], m + 1) (by assumption) (by assumption) ?hn (fun p hp => by rcases List.mem_cons.mp hp with rfl | hp; exact Ne.symm hIlr; exact hoff8 p (List.mem_cons_of_mem _ hp)) ?hk ?hr ?hp
      case hn => (intro p hp; simp only [List.map_append, List.map_cons, List.map_nil] at hp; exact hp)
      case hk => kst_all
      case hr => first | kst_same | (dsimp only [kstB]; kst_same) | (intro z h1 h2 h3; simp [h1, h2, h3, kstB])
      case hp => simp [hp8, List.range_succ]
    case done2 =>
      rintro c8 u8 h8 tk8 hp8 F8 N8
      obtain ⟨bs, m⟩ := c8
      dsimp only [kstB] at hp8 F8 N8
      have he1 := (hec i9 (by omega)).1
      have he2 := (hec i9 (by omega)).2.1
      have he3 := (hec i9 (by omega)).2.2
      have hbl : bs.length = sz := by rw [hp8]; simp
      k_with "call ref" => (first | (refine Spec9.useT (add_c w 1 _ _ _ _ _) (by k_asm) (by k_asm) (by k_asm) (by k_asm) (by k_asm) (by first | exact rfl | assumption) (by first | exact room9 (by decide) hd | ktr_room) (by first | exact units9 (by decide) hu | ktr_units) ?_; (intro t9 h9 tk9 F9 N9; (try k_fold))) | (refine Spec9.useT (ix_c w 1 _ lr bs m (ec i9) List.mem_cons_self (by omega) (by rw [hp8]; simp [he1, he2]) (by intro i hi; rw [hp8]; simp [Nat.lt_trans hi he1, he3 i hi])) (by k_asm) (by k_asm) (by k_asm) (by k_asm) (by k_asm) (by first | exact rfl | assumption) (by first | exact room9 (by decide) hd | ktr_room) (by first | exact units9 (by decide) hu | ktr_units) ?_; (intro t9 h9 tk9 F9 N9; (try k_fold))) | (refine Hold9.out ?_))
      k_with "call builtin:list.append" => (refine append_K (by k_asm) (by k_asm) (Upd.tail (Ne.symm (hr0 _ (List.mem_cons_of_mem _ List.mem_cons_self))) (Upd.tail hIle (Upd.head hb0))) ?_ (by rw [sizeLine_eq]; simp; omega); intro h' F' N'; (try rw [List.push_toArray] at N'))
      k_steps
      refine' turn9_end (vs ++ [.int (1 + (ec i9 : Int)) _], n + 1) (by assumption) (by assumption) (fun p hp => List.mem_cons_of_mem _ hp) (fun p hp => by rcases List.mem_cons.mp hp with rfl | hp; exact Ne.symm hIle; exact hoff9 p (List.mem_cons_of_mem _ hp)) ?hk3 ?hr3 ?hp3
      case hk3 => kst_all
      case hr3 => first | kst_same | (dsimp only [kstB]; kst_same) | (intro z h1 h2 h3; simp [h1, h2, h3, kstB])
      case hp3 =>
        rw [List.range_succ, List.map_append]
        exact IntsAre.append (by assumption) (.cons _ _ .nil)
  case done =>
    rintro c9 u9 h9 tk9 hp9 F9 N9
    obtain ⟨vs, n⟩ := c9
    dsimp only [kstB] at hp9 F9 N9
    subst hR
    exact (hnext vs n hp9).use hK' B (by assumption) X (by assumption) T hd hu hE (by assumption) (by kst_all) (fun p hp => hp)
set_option maxHeartbeats 1000000 in
theorem at19 (w : World) (L : Addr) (a b c : Array Value) (wd tx : Str) (tw tt ts : Tok) (ow ot os : Obj) (how : ow.data = .cell (some (.str wd tw))) (hot : ot.data = .cell (some (.str tx tt)))
    (sz : Nat) (hos : os.data = .cell (some (.int (sz : Int) ts)))
    (hwl : wd.length < 90) (hsz : wd.length = sz) (place period : Nat) (tpl tpe : Tok)
    (hm1 : (period : Int) ∈ (rangeKs 1 sz).filter (fun k => decide (Txt.slice wd (some k) none = Txt.slice wd none (some (sz - k))))) (hm2 : ∀ x ∈ (rangeKs 1 sz).filter (fun k => decide (Txt.slice wd (some k) none = Txt.slice wd none (some (sz - k)))), (period : Int) ≤ x)
    (hnext : ∀ le, At9 w 21 L [("echoes", .ref le), ("place", .int (place : Int) tpl), ("period", .int (period : Int) tpe)] [(le, listOf ([] : List Value).toArray 0), (L + 1, os), (L + 1 + 1 + 1 + 1, ow), (L + 1 + 1, ot), (94, tabObj a), (87, tabObj b), (101, tabObj c)]) :
    At9 w 19 L [("place", .int (place : Int) tpl), ("period", .int (period : Int) tpe)] [(L + 1, os), (L + 1 + 1 + 1 + 1, ow), (L + 1 + 1, ot), (94, tabObj a), (87, tabObj b), (101, tabObj c)] := by
  refine At9.mk ?_
  intro hK' p loose mean mg mb dp un gd fa outer A₀ base h₀ u s Q E B F X N T hd hu hE hfin
  dsimp only [List.drop]
  k_with_none
  k_with "pyIter ref" => (refine Hold9.out ?_)
  k_with "exec For" => (refine For_invVF (by assumption) (by rfl) (by rfl) ?_ (hE := hE))
  k_with "Turn9" => (refine Turn9.ret ?_; (try dsimp only))
  generalize hR : (Stmt.For _ _ _ _ _ :: _ : List Stmt) = R
  k_with "CompSrcT" => (refine Hold9.out ?_)
  k_with "call builtin:min" => (refine Hold9.out ?_)
  k_steps
  refine Hold9.mk ?_
  rename IsRange _ _ _ _ _ _ _ _ => R2
  refine LCt.CompSrcT.range (by rfl) (by k_asm) (by k_asm) R2 (by exact small_one (by omega) (by omega) (by omega) (by omega)) (by exact rangeSize_nat _ _) (by rw [sizeLine_eq]; omega) ?_
  intro g'
  rw [show ((sz : Int) + 1 - 1).toNat = sz by omega]
  k_with "KCiEl" => (refine kci_el ?_ rfl rfl; rename (_ == _) = true => hb9; rw [if_pos (by simpa using hb9)])
  k_with "KCiNo" => (refine kci_no ?_ rfl; rename ¬ ((_ == _) = true) => hb9; rw [if_neg (by simpa using hb9)])
  k_with "CompEnd" => (refine LCg.CompEnd.intro (by assumption) (by assumption) _ (fun _ hp => hp) (by assumption) trivial ?_)
  refine' kci_range (fun l k => if decide (Txt.slice wd (some k) none = Txt.slice wd none (some (sz - k))) then l ++ [k] else l) (fun k' t' I' oI' C' oC' D' m' ys' l' h' tk' E' hlo' hhi' hI' hC' hx' F' N' off' ne' => ?_) ?_ (by intro l k; dsimp only; split <;> simp)
  · intro hMark'
    k_steps
  · unfold KPfDone
    intro ys9 hys9 hyl9
    rw [filt9, List.nil_append] at hys9
    have hne : 0 < ((rangeKs 1 sz).filter (fun k => decide (Txt.slice wd (some k) none = Txt.slice wd none (some (sz - k))))).length := List.length_pos_of_mem hm1
    generalize hFL : (rangeKs 1 sz).filter (fun k => decide (Txt.slice wd (some k) none = Txt.slice wd none (some (sz - k)))) = FL at hys9 hm1 hm2 hne
    k_with "call builtin:min" => (refine kso_min (by k_asm) (by k_asm) (kso_isList (by k_asm) List.mem_cons_self rfl) hys9 hne (by rfl) ?_; intro h9 M9 t9 tk9 F9 N9 q1 q2)
    k_steps
    · exfalso
      rename (_ : Int) ≠ _ => q3
      exact q3 (Int.le_antisymm (hm2 _ q1) (q2 _ hm1))
    · dsimp only
      subst hR
      generalize hR : (Stmt.For _ _ _ _ _ :: _ : List Stmt) = R
      k_steps
      rename Fr _ _ _ _ => F2
      rename News _ _ _ _ => N2
      refine head9 N2 (fun le hle => ?_)
      subst hle
      subst hR
      exact (hnext le).use hK' B F2 X N2 T hd hu hE (by assumption) (by kst_all) (by intro p hp; simp only [List.mem_cons, List.not_mem_nil, or_false] at hp; rcases hp with rfl | rfl | rfl | rfl | rfl | rfl | rfl <;> first | k_mem | simp)
set_option maxHeartbeats 1000000 in
theorem at17 (w : World) (L : Addr) (a b c : Array Value) (wd tx : Str) (tw tt ts : Tok) (ow ot os : Obj) (how : ow.data = .cell (some (.str wd tw))) (hot : ot.data = .cell (some (.str tx tt)))
    (sz : Nat) (hos : os.data = .cell (some (.int (sz : Int) ts)))
    (h46 : 46 ∉ cpl wd) (hwl : wd.length < 90) (hsz : wd.length = sz) (place k0 : Nat) (tpl : Tok) (fitf : Nat → Bool) (hf : ∀ i, i < sz → Txt.startswith wd (Txt.slice wd (some (1 + (i : Int))) none) = fitf i)
    (hk0 : k0 < sz) (hk1 : fitf k0 = true) (hk2 : ∀ i, i < k0 → fitf i = false)
    (hnext : ∀ tpe, At9 w 19 L [("place", .int (place : Int) tpl), ("period", .int ((k0 + 1 : Nat) : Int) tpe)] [(L + 1, os), (L + 1 + 1 + 1 + 1, ow), (L + 1 + 1, ot), (94, tabObj a), (87, tabObj b), (101, tabObj c)]) :
    At9 w 17 L [("place", .int (place : Int) tpl)] [(L + 1, os), (L + 1 + 1 + 1 + 1, ow), (L + 1 + 1, ot), (94, tabObj a), (87, tabObj b), (101, tabObj c)] := by
  refine At9.mk ?_
  intro hK' p loose mean mg mb dp un gd fa outer A₀ base h₀ u s Q E B F X N T hd hu hE hfin
  dsimp only [List.drop]
  k_with_none
  k_with "pyIter ref" => (refine Hold9.out ?_)
  k_with "exec For" => (refine For_invVF (by assumption) (by rfl) (by rfl) ?_ (hE := hE))
  k_with "Turn9" => (refine Turn9.ret ?_; (try dsimp only))
  generalize hR : (Stmt.If _ _ _ _ :: _ : List Stmt) = R
  k_with "CompSrc" => (refine Hold9.out ?_)
  k_steps
  refine Hold9.mk ?_
  rename IsRange _ _ _ _ _ _ _ _ => R2
  refine LCg.CompSrc.range (by rfl) (by k_asm) (by k_asm) R2 (by exact small_one (by omega) (by omega) (by omega) (by omega)) (by exact rangeSize_nat _ _) (by rw [sizeLine_eq]; omega) ?_
  intro g'
  rw [show ((sz : Int) + 1 - 1).toNat = sz by omega]
  refine comp9 (fun i => .bool (fitf i)) ?_ ?_
  · rintro i9 v9 I' oI' C' oC' D' m' ys' h' tk' E' hi9 ⟨t9, rfl⟩ hC' hx' F' N' off' ne'
    have hem : ∀ (nws : List (Addr × Obj)) (tw tg : Tok), Spec9 w 2 nws (call (.ref 57) [.str (Txt.slice wd (some (1 + (i9 : Int))) none ++ Str.ofString "...") tw, .str wd tg]) (fun v nw => nws = nw ∧ v = .bool (fitf i9)) := by
      intro nws tw tg
      have hq := Txt.slice_le wd (some (1 + (i9 : Int))) none
      have h := em1_c w 1 nws (Txt.slice wd (some (1 + (i9 : Int))) none ++ Str.ofString "...") (Txt.slice wd (some (1 + (i9 : Int))) none) wd tw tg (em1_facts (mem_slice h46)).1 (em1_facts (mem_slice h46)).2 (by omega) (by rw [← cpl_length, cpl_append, List.length_append, cpl_length, cpl_length, show (Str.ofString "...").length = 3 from len_dots]; omega) (by omega)
      rw [hf i9 hi9] at h
      exact h
    k_with "call ref" => (first | (refine Spec9.useV (hem _ _ _) (by k_asm) (by k_asm) (by k_asm) (by k_asm) (by k_asm) (by first | exact rfl | assumption) (by first | exact room9 (by decide) hd | ktr_room) (by first | exact units9 (by decide) hu | ktr_units) ?_; (intro h9 tk9 F9 N9; (try k_fold))) | (refine Hold9.out ?_))
    k_with "CompEnd" => (refine LCg.CompEnd.intro (by assumption) (by assumption) _ (fun _ hp => hp) (by assumption) trivial ?_)
    k_steps
  · rw [show (List.range sz).map (fun i => Value.bool (fitf i)) = ((List.range sz).map fitf).map Value.bool by rw [List.map_map]; rfl]
    k_with "call ref" => (first | (refine Spec9.useT (add_c w 1 _ _ _ _ _) (by k_asm) (by k_asm) (by k_asm) (by k_asm) (by k_asm) (by first | exact rfl | assumption) (by first | exact room9 (by decide) hd | ktr_room) (by first | exact units9 (by decide) hu | ktr_units) ?_; (intro t9 h9 tk9 F9 N9; (try k_fold))) | (refine Spec9.useT (ix_c w 1 _ _ ((List.range sz).map fitf) _ k0 List.mem_cons_self (by simp; omega) (by simp [hk0, hk1]) (by intro i hi; simp [Nat.lt_trans hi hk0, hk2 i hi])) (by k_asm) (by k_asm) (by k_asm) (by k_asm) (by k_asm) (by first | exact rfl | assumption) (by first | exact room9 (by decide) hd | ktr_room) (by first | exact units9 (by decide) hu | ktr_units) ?_; (intro t9 h9 tk9 F9 N9; (try k_fold))) | (refine Hold9.out ?_))
    k_steps
    rename Fr _ _ _ _ => F2
    rw [show (1 : Int) + k0 = ((k0 + 1 : Nat) : Int) by omega] at F2
    subst hR
    exact (hnext _).use hK' B F2 X (by assumption) T hd hu hE (by assumption) (by kst_all) (fun p hp => List.mem_cons_of_mem _ hp)
set_option maxHeartbeats 1000000 in
theorem at16 (w : World) (L ll lh : Addr) (a b c : Array Value) (wd tx : Str) (tw tt ts : Tok) (ow ot os : Obj) (how : ow.data = .cell (some (.str wd tw))) (hot : ot.data = .cell (some (.str tx tt)))
    (sz : Nat) (hos : os.data = .cell (some (.int (sz : Int) ts)))
    (place : Nat) (ls hs : List Int) (vl vh : List Value) (nl nh : Nat) (hil : IntsAre vl ls) (hih : IntsAre vh hs) (hll : 0 < ls.length) (hlh : 0 < hs.length)
    (hplace : (if hs.getD (hs.length - 1) 0 > ls.getD (ls.length - 1) 0 then hs.getD (hs.length - 1) 0 else ls.getD (ls.length - 1) 0) = (place : Int))
    (hnext : ∀ tpl, At9 w 17 L [("place", .int (place : Int) tpl)] [(L + 1, os), (L + 1 + 1 + 1 + 1, ow), (L + 1 + 1, ot), (94, tabObj a), (87, tabObj b), (101, tabObj c)]) :
    At9 w 16 L [("low", .ref ll), ("high", .ref lh)] [(ll, listOf vl.toArray nl), (lh, listOf vh.toArray nh), (L + 1, os), (L + 1 + 1 + 1 + 1, ow), (L + 1 + 1, ot), (94, tabObj a), (87, tabObj b), (101, tabObj c)] := by
  refine At9.mk ?_
  intro hK' p loose mean mg mb dp un gd fa outer A₀ base h₀ u s Q E B F X N T hd hu hE hfin
  dsimp only [List.drop]
  k_with_none
  k_with "pyIter ref" => (refine Hold9.out ?_)
  k_with "exec For" => (refine For_invVF (by assumption) (by rfl) (by rfl) ?_ (hE := hE))
  k_with "Turn9" => (refine Turn9.ret ?_; (try dsimp only))
  generalize hR : (Stmt.Assign _ _ _ :: Stmt.Assign _ _ _ :: Stmt.If _ _ _ _ :: _ : List Stmt) = R
  k_with "subscriptTail" => (refine Hold9.out ?_)
  k_steps
  rename Fr _ _ _ _ => F2
  rw [show (-1 + (ls.length : Int)).toNat = ls.length - 1 by omega, show (-1 + (hs.length : Int)).toNat = hs.length - 1 by omega, hplace] at F2
  subst hR
  exact (hnext _).use hK' B F2 X (by assumption) T hd hu hE (by assumption) (by kst_all) (fun p hp => List.mem_cons_of_mem _ (List.mem_cons_of_mem _ hp))
set_option maxHeartbeats 1000000 in
theorem at14 (w : World) (L ll lh c1 c2 : Addr) (a b : Array Value) (wd tx : Str) (tw tt ts : Tok) (ow ot os : Obj) (how : ow.data = .cell (some (.str wd tw))) (hot : ot.data = .cell (some (.str tx tt)))
    (sz : Nat) (hos : os.data = .cell (some (.int (sz : Int) ts))) (wn : Str) (tn : Tok) (on : Obj) (hon : on.data = .cell (some (.str wn tn)))
    (h2 : 2 ≤ sz) (h6 : sz ≤ 6) (hwl : wd.length < 90) (hwn : wn.length < 90) (ls hs : List Int) (vl vh : List Value) (nl nh : Nat) (hil : IntsAre vl ls) (hih : IntsAre vh hs)
    (hls : ls = (runT (fun i j : Nat => strLt (Txt.slice wd (some (i : Int)) none) (Txt.slice wd (some (j : Int)) none)) (kas_sort sz)).toList.map fun i : Nat => (i : Int))
    (hhs : hs = (runT (fun i j : Nat => strLt (Txt.slice wn (some (i : Int)) none) (Txt.slice wn (some (j : Int)) none)) (kas_sort sz)).toList.map fun i : Nat => (i : Int))
    (hnext : ∀ c, At9 w 16 L [("low", .ref ll), ("high", .ref lh)] [(ll, listOf vl.toArray nl), (lh, listOf vh.toArray nh), (L + 1, os), (L + 1 + 1 + 1 + 1, ow), (L + 1 + 1, ot), (94, tabObj a), (87, tabObj b), (101, tabObj c)]) :
    At9 w 14 L [("low", .ref ll), ("high", .ref lh)] [(ll, listOf vl.toArray nl), (lh, listOf vh.toArray nh), (L + 1 + 1 + 1, on), (L + 1, os), (L + 1 + 1 + 1 + 1, ow), (L + 1 + 1, ot), (94, tabObj a), (87, tabObj b), (101, tabObj #[rawInt 124, rawInt 33, .ref c1, rawInt 125, rawInt 33, .ref c2])] := by
  refine At9.mk ?_
  intro hK' p loose mean mg mb dp un gd fa outer A₀ base h₀ u s Q E B F X N T hd hu hE hfin
  dsimp only [List.drop]
  k_with_none
  k_with "pyIter ref" => (refine Hold9.out ?_)
  k_with "exec For" => (refine For_invVF (by assumption) (by rfl) (by rfl) ?_ (hE := hE))
  k_with "Turn9" => (refine Turn9.ret ?_; (try dsimp only))
  have C9 := codeHd_l (by assumption)
  have hL9 : @LT.lt Nat _ 104 L := Nat.lt_of_lt_of_le (Heap.lt_size (X 104 _ hK')) F.above
  have hll9 : @Ne Nat ll 101 := addr_ne9 N (p := (ll, listOf vl.toArray nl)) (q := (101, tabObj _)) (by k_mem) (by k_mem) (fun e => by cases congrArg Obj.data e)
  have hlh9 : @Ne Nat lh 101 := addr_ne9 N (p := (lh, listOf vh.toArray nh)) (q := (101, tabObj _)) (by k_mem) (by k_mem) (fun e => by cases congrArg Obj.data e)
  generalize hR : (Stmt.Assign _ _ _ :: _ : List Stmt) = R
  have hr9 : @LT.lt Nat _ L s.heap.objs.size := F.ns.lt
  k_with "eval Lambda" => (refine Hold9.out ?_)
  k_steps
  refine Hold9.mk ?_
  rename IsRange _ _ _ _ _ _ _ _ => R2
  rename News _ _ _ _ => N2
  have N3 := newsRange9 (by assumption) R2 N2
  clear N2 R2
  k_with_none
  k_with "call builtin:sorted" => ((show wpAny _ _ (call (.builtin "sorted") [.ref _] [(PySem.Str.ofString "key", _)]) _ _ _; (with_unfolding_all refine' sortedR9 (n := sz) ?sF ?sN ?sh ?sr ?s2 ?s6 (ksk_s1 _ _) (fun _ => ksk_l1 _ _) (fun _ => ksk_t1 _ _) (fun i => Txt.slice wd (some i) none) (Hold9.out ?scall) ?sret; (case sF => k_asm); (case sN => k_asm); (case sh => rfl); (case sr => exact rangeOf9 (by k_asm) (by k_mem)); (case s2 => omega); (case s6 => omega)); (case' sret => (intro D' v' c' h' tk' i' F' N' l1; (try k_lt l1); (try k_sweep)))); (case' scall => skip))
  refine' kla_eval ?d0 ?_
  case d0 => exact rfl
  refine' kla_nest ?F ?N ?T ?C ?cd ?U ?t ?n ?cl ?_
  case F => k_asm
  case N => k_asm
  case T => k_asm
  case cd => exact rfl
  case C => kn_code
  case U => k_updF
  case t => kn_triples
  case n => kn_among
  case cl => exact rfl
  intro f' c' oc' vs' t' ct' h' tk' F' N' d1' d2' l1 l2
  (try dsimp only at N')
  (try k_lt l1)
  (try k_lt2 l2)
  k_with "eval Lambda" => (refine Hold9.out ?_)
  k_steps
  · refine Hold9.mk ?_
    intro nw9 i9 ti9 s9 C9 hi9 hsub9 F9 N9 hC9
    have hmA := hsub9 _ List.mem_cons_self
    have hmB := hsub9 _ (List.mem_cons_of_mem _ List.mem_cons_self)
    have hmW : (L + 1 + 1 + 1 + 1, ow) ∈ nw9 := hsub9 _ (by k_mem)
    refine wpAny_call ?_
    w_strict (k_dflt kla_enter)
    k_steps
    exact hC9 _ _ _ (by assumption) (by assumption)
  · refine Hold9.mk ?_
    rename IsRange _ _ _ _ _ _ _ _ => R2
    rename News _ _ _ _ => N2
    have N3 := newsRange9 (by assumption) R2 N2
    have hr10 := rangeLt9 (by assumption) R2
    dsimp only at hr10 N3
    clear N2
    k_with_none
    k_with "call builtin:sorted" => ((show wpAny _ _ (call (.builtin "sorted") [.ref _] [(PySem.Str.ofString "key", _)]) _ _ _; (with_unfolding_all refine' sortedR9 (n := sz) ?sF ?sN ?sh ?sr ?s2 ?s6 (ksk_s1 _ _) (fun _ => ksk_l1 _ _) (fun _ => ksk_t1 _ _) (fun i => Txt.slice wn (some i) none) (Hold9.out ?scall2) ?sret2; (case sF => k_asm); (case sN => k_asm); (case sh => rfl); (case sr => exact rangeOf9 (by k_asm) (by k_mem)); (case s2 => omega); (case s6 => omega)); (case' sret2 => (intro D' v' c' h' tk' i' F' N' l1; (try k_lt l1); (try k_sweep)))); (case' scall2 => skip))
    refine' kla_eval ?d1 ?_
    case d1 => exact rfl
    refine' kla_nest ?F1 ?N1 ?T1 ?C1 ?cd1 ?U1 ?t1 ?n1 ?cl1 ?_
    case F1 => k_asm
    case N1 => k_asm
    case T1 => k_asm
    case cd1 => exact rfl
    case C1 => kn_code
    case U1 => k_updF
    case t1 => kn_triples
    case n1 => kn_among
    case cl1 => exact rfl
    intro f' c' oc' vs' t' ct' h' tk' F' N' d1' d2' l1 l2
    (try dsimp only at N')
    (try k_lt l1)
    (try k_lt2 l2)
    k_steps
    · refine Hold9.mk ?_
      intro nw9 i9 ti9 s9 C9 hi9 hsub9 F9 N9 hC9
      have hmA := hsub9 _ List.mem_cons_self
      have hmB := hsub9 _ (List.mem_cons_of_mem _ List.mem_cons_self)
      have hmW : (L + 1 + 1 + 1, on) ∈ nw9 := hsub9 _ (by k_mem)
      refine wpAny_call ?_
      w_strict (k_dflt kla_enter)
      k_steps
      exact hC9 _ _ _ (by assumption) (by assumption)
    · subst hR
      exact (hnext _).use hK' B (by assumption) X (by assumption) T hd hu hE (by assumption) (by kst_all) (by intro p hp; simp only [List.mem_cons, List.not_mem_nil, or_false] at hp; rcases hp with rfl | rfl | rfl | rfl | rfl | rfl | rfl | rfl <;> k_mem)
set_option maxHeartbeats 1000000 in
theorem at13 (w : World) (L ll lh : Addr) (a b : Array Value) (wd tx : Str) (tw tt ts : Tok) (ow ot os : Obj) (how : ow.data = .cell (some (.str wd tw))) (hot : ot.data = .cell (some (.str tx tt)))
    (sz : Nat) (hos : os.data = .cell (some (.int (sz : Int) ts))) (wn : Str) (tn : Tok) (on : Obj) (hon : on.data = .cell (some (.str wn tn)))
    (h2 : 2 ≤ sz) (h6 : sz < 90) (hwl : wd.length < 90) (hwn : wn.length < 90) (hll9 : @LT.lt Nat _ (L + 1 + 1 + 1 + 1) ll) (hlh9 : @LT.lt Nat _ ll lh)
    (hnext : ∀ vl nl vh nh c1 c2, IntsAre vl (insRs (fun i => Txt.slice wd (some i) none) sz) → IntsAre vh (insLs (fun i => Txt.slice wn (some i) none) sz) → At9 w 14 L [("low", .ref ll), ("high", .ref lh)] [(ll, listOf vl.toArray nl), (lh, listOf vh.toArray nh), (L + 1 + 1 + 1, on), (L + 1, os), (L + 1 + 1 + 1 + 1, ow), (L + 1 + 1, ot), (94, tabObj a), (87, tabObj b), (101, tabObj #[rawInt 124, rawInt 33, .ref c1, rawInt 125, rawInt 33, .ref c2])]) :
    At9 w 13 L [("low", .ref ll), ("high", .ref lh)] [(ll, listOf ([] : List Value).toArray 0), (lh, listOf ([] : List Value).toArray 0), (101, tabObj #[]), (L + 1 + 1 + 1, on), (L + 1, os), (L + 1 + 1 + 1 + 1, ow), (L + 1 + 1, ot), (94, tabObj a), (87, tabObj b)] := by
  refine At9.mk ?_
  intro hK' p loose mean mg mb dp un gd fa outer A₀ base h₀ u s Q E B F X N T hd hu hE hfin
  dsimp only [List.drop]
  k_with_none
  k_with "pyIter ref" => (refine Hold9.out ?_)
  k_with "exec For" => (refine For_invVF (by assumption) (by rfl) (by rfl) ?_ (hE := hE))
  k_with "Turn9" => (refine Turn9.ret ?_; (try dsimp only))
  have C9 := codeHd_l (by assumption)
  have hL9 : @LT.lt Nat _ 104 L := Nat.lt_of_lt_of_le (Heap.lt_size (X 104 _ hK')) F.above
  have hlh8 : @LT.lt Nat _ (L + 1 + 1 + 1 + 1) lh := Nat.lt_trans hll9 hlh9
  generalize hR : (Stmt.If _ _ _ _ :: _ : List Stmt) = R
  k_steps
  refine Hold9.mk ?_
  rename Fr _ _ _ _ => F2
  rename News _ _ _ _ => N2
  rename IsRange _ _ _ _ _ _ _ _ => R2
  (with_unfolding_all refine' rangeS9 (σ := ((List Value × Nat) × (List Value × Nat)) × (Array Value × List (Addr × Obj))) (n := sz) (fun c => (ll, listOf c.1.1.1.toArray c.1.1.2) :: (lh, listOf c.1.2.1.toArray c.1.2.2) :: (101, tabObj c.2.1) :: (L + 1 + 1 + 1, on) :: (L + 1, os) :: (L + 1 + 1 + 1 + 1, ow) :: (L + 1 + 1, ot) :: (94, tabObj a) :: (87, tabObj b) :: c.2.2) (fun _ => [("low", .ref ll), ("high", .ref lh)]) [] (fun i c => Two9 i c.2.1 c.2.2 ∧ (∀ p ∈ c.2.2, p.1 ≠ ll) ∧ (∀ p ∈ c.2.2, p.1 ≠ lh) ∧ (∀ p ∈ c.2.2, p.1 ≠ 101) ∧ IntsAre c.1.1.1 (insRs (fun i => Txt.slice wd (some i) none) i) ∧ IntsAre c.1.2.1 (insLs (fun i => Txt.slice wn (some i) none) i)) ((([], 0), ([], 0)), (#[], [])) (by rfl) R2 ?hsm ?hsz F2 N2 ?hk ⟨.inl ⟨rfl, rfl⟩, (fun _ h => nomatch h), (fun _ h => nomatch h), (fun _ h => nomatch h), .nil, .nil⟩ ?turn ?done)
  case hsm => exact small_one (by omega) (by omega) (by omega) (by omega)
  case hsz => first | exact rangeSize_nat _ _ | (rw [rangeSize_nat]; omega)
  case hk => kst_all
  case turn =>
    clear F2 N2
    intro I9 oI9 i9 t9
    refine pr222 ?_
    intro vl nl vh nh c9 ex9 u9 h9 tk9 hi9 hlt9 hp9 hoff9 F9 N9
    dsimp only [kstB] at hp9 hoff9 F9 N9
    rw [Int.zero_add] at F9
    have hT9 := hp9.1
    have hol9 := hp9.2.1
    have hoh9 := hp9.2.2.1
    have hot9 := hp9.2.2.2.1
    have hil9 := hp9.2.2.2.2.1
    have hih9 := hp9.2.2.2.2.2
    clear hp9
    have hI9 : @LT.lt Nat _ lh I9 := hlt9 (lh, _) (List.mem_cons_of_mem _ List.mem_cons_self)
    have hI8 : @LT.lt Nat _ (L + 1 + 1 + 1 + 1) I9 := Nat.lt_trans hlh8 hI9
    have hoI9 : ∀ p ∈ ex9, p.1 ≠ I9 := fun p hp => hoff9 p (by repeat (first | exact hp | refine List.mem_cons_of_mem _ ?_))
    have ho0 := And.intro hol9 (And.intro hoh9 (And.intro hot9 hoI9))
    have of0 := stat101 (a := a) (b := b) (on := on) (os := os) (ow := ow) (ot := ot) hL9 hot9
    clear hoff9 hlt9
    k_with "call ref" => (refine Hold9.out ?_)
    k_with "eval Lambda" => (refine Hold9.out ?_)
    k_steps
    refine Hold9.mk ?_
    refine' kla_eval ?d0A ?_
    case d0A => exact rfl
    refine' lam9 ?FA ?NA ?TA ?CA ?cdA ?UA ?tA ?clA ?caA ?_
    case FA => k_asm
    case NA => k_asm
    case TA => k_asm
    case cdA => exact rfl
    case CA => kn_code
    case UA => k_updF
    case tA => exact two_tri hT9
    case clA => exact rfl
    case caA => exact two_case hT9 (fun p hp => by repeat (first | exact hp | refine List.mem_cons_of_mem _ ?_)) rfl rfl
    intro fA cA ocA vsA tA ctA hA tkA psA exA FA NA mA d1A d2A l1A csA
    (try dsimp only at NA mA)
    have nxA := two_next hT9 csA rfl rfl d1A d2A
    have olA := off_next ho0.1 (o := listOf vl.toArray nl) (by k_mem) csA
    have ohA := off_next ho0.2.1 (o := listOf vh.toArray nh) (by k_mem) csA
    have otA := off_next ho0.2.2.1 (l := 101) (by k_mem) csA
    have oIA := off_next ho0.2.2.2 (o := oI9) (by k_mem) csA
    have hoA := And.intro olA (And.intro ohA (And.intro otA oIA))
    have ofA := stat101 (a := a) (b := b) (on := on) (os := os) (ow := ow) (ot := ot) hL9 otA
    clear csA
    (try k_lt l1A)
    have N4A := (perm13 NA).1
    have pmA := (perm13 NA).2
    have mmA := pmA _ mA
    clear pmA mA NA
    k_steps
    refine Hold9.mk ?_
    refine' Spec9.useI (ir_c w 4 _ _ _ _ _ _ (fun i => Txt.slice wd (some i) none) _ _ ?oP ?lP hil9 ?nP ?kP) ?BP ?FP ?XP ?NP ?TP ?h1P ?h2P ?h3P ?rP
    case NP => k_asm
    case BP => k_asm
    case FP => k_asm
    case XP => k_asm
    case TP => k_asm
    case h1P => exact rfl
    case h2P => first | exact room9 (by decide) hd | ktr_room
    case h3P => first | exact units9 (by decide) hu | ktr_units
    case lP => k_mem
    case nP => first | (rw [insRs_len]; omega) | (rw [insLs_len]; omega)
    case oP => exact off_cons9 (by dsimp only; k_ne) (off_cons9 (by dsimp only; k_ne) (off_cons9 (by dsimp only; k_ne) (stat13 hll9 hL9 olA)))
    case kP =>
      intro i hi9' t
      refine Spec9.of ?_
      intro p2 loose2 mean2 mg2 mb2 dp2 un2 gd2 cn2 nm2 gn2 co2 mo2 a2 ccd2 cl2 outer2 A2 base2 h2 L2 m2 s2 Q2 E2 B2 F2 X2 N2 T2 hd2 hu2 hret2
      refine wpAny_call ?_
      w_strict (k_dflt kla_enter)
      k_steps
      exact hret2 _ _ _ _ ⟨rfl, _, rfl⟩ (by assumption) (by assumption)
    intro vlZ h9 tk9 hiP F9 N9
    (try k_fold)
    k_steps
    refine Hold9.mk ?_
    refine' kla_eval ?d0B ?_
    case d0B => exact rfl
    refine' lam9 ?FB ?NB ?TB ?CB ?cdB ?UB ?tB ?clB ?caB ?_
    case FB => k_asm
    case NB => k_asm
    case TB => k_asm
    case cdB => exact rfl
    case CB => kn_code
    case UB => k_updF
    case tB => exact one_tri nxA
    case clB => exact rfl
    case caB => exact one_case nxA (fun p hp => by repeat (first | exact hp | refine List.mem_cons_of_mem _ ?_)) rfl rfl
    intro fB cB ocB vsB tB ctB hB tkB psB exB FB NB mB d1B d2B l1B csB
    (try dsimp only at NB mB)
    have nxB := one_next nxA csB rfl rfl d1B d2B
    have olB := off_next hoA.1 (o := listOf vlZ.toArray (nl + 1)) (by k_mem) csB
    have ohB := off_next hoA.2.1 (o := listOf vh.toArray nh) (by k_mem) csB
    have otB := off_next hoA.2.2.1 (l := 101) (by k_mem) csB
    have oIB := off_next hoA.2.2.2 (o := oI9) (by k_mem) csB
    have hoB := And.intro olB (And.intro ohB (And.intro otB oIB))
    have ofB := stat101 (a := a) (b := b) (on := on) (os := os) (ow := ow) (ot := ot) hL9 otB
    clear csB
    (try k_lt l1B)
    have N4B := (perm13b NB).1
    have pmB := (perm13b NB).2
    have mmB := pmB _ mB
    clear pmB mB NB
    k_steps
    refine Hold9.mk ?_
    refine' Spec9.useI (il_c w 4 _ _ _ _ _ _ (fun i => Txt.slice wn (some i) none) _ _ ?oS ?lS hih9 ?nS ?kS) ?BS ?FS ?XS ?NS ?TS ?h1S ?h2S ?h3S ?rS
    case NS => k_asm
    case BS => k_asm
    case FS => k_asm
    case XS => k_asm
    case TS => k_asm
    case h1S => exact rfl
    case h2S => first | exact room9 (by decide) hd | ktr_room
    case h3S => first | exact units9 (by decide) hu | ktr_units
    case lS => k_mem
    case nS => first | (rw [insRs_len]; omega) | (rw [insLs_len]; omega)
    case oS => exact off_cons9 (by dsimp only; k_ne) (off_cons9 (by dsimp only; k_ne) (off_cons9 (by dsimp only; k_ne) (off_cons9 (by dsimp only; k_ne) (stat13 hlh8 hL9 ohB))))
    case kS =>
      intro i hi9' t
      refine Spec9.of ?_
      intro p2 loose2 mean2 mg2 mb2 dp2 un2 gd2 cn2 nm2 gn2 co2 mo2 a2 ccd2 cl2 outer2 A2 base2 h2 L2 m2 s2 Q2 E2 B2 F2 X2 N2 T2 hd2 hu2 hret2
      refine wpAny_call ?_
      w_strict (k_dflt kla_enter)
      k_steps
      exact hret2 _ _ _ _ ⟨rfl, _, rfl⟩ (by assumption) (by assumption)
    intro vlY h9 tk9 hiS F9 N9
    (try k_fold)
    k_steps
    refine' turn9_end (((vlZ, nl + 1), (vlY, nh + 1)), (psB, exB ++ (exA ++ ex9))) (by assumption) (by assumption) ?hn1 ?hI1 ?hk1 ?hr1 ?hp1
    case hn1 => exact sub_cons9 (by k_mem) (sub_cons9 (by k_mem) (sub_cons9 (by k_mem) (fun p hp => by repeat (first | exact hp | refine List.mem_cons_of_mem _ ?_))))
    case hI1 => exact off_cons9 (by dsimp only; k_ne) (off_cons9 (by dsimp only; k_ne) (stat13 hI8 hL9 oIB))
    case hk1 => kst_all
    case hr1 => first | kst_same | (dsimp only [kstB]; kst_same) | (intro z h1 h2 h3; simp [h1, h2, h3, kstB])
    case hp1 => exact ⟨.inr nxB, olB, ohB, otB, hiP, hiS⟩
  case done =>
    refine pr222 ?_
    intro vl nl vh nh c9 ex9 u9 h9 tk9 hp9 F9 N9
    dsimp only [kstB] at hp9 F9 N9
    have hT9 := hp9.1
    have hil9 := hp9.2.2.2.2.1
    have hih9 := hp9.2.2.2.2.2
    clear hp9
    rcases hT9 with ⟨h0, -⟩ | ⟨c1, c2, oc1, oc2, vs1, vs2, t1, t2, rfl, -⟩
    · exact absurd h0 (by omega)
    · dsimp only
      subst hR
      exact (hnext vl nl vh nh c1 c2 hil9 hih9).use hK' B F9 X N9 T hd hu hE (by assumption) (by kst_all) (by repeat' (first | exact sub_nil9 | refine sub_cons9 (by k_mem) ?_))
theorem head92 {P : Prop} {h₀ h : Heap} {L x y : Addr} {o o' : Obj} {nx : List (Addr × Obj)} (_N : News h₀ L h ((x, o) :: (y, o') :: nx)) (k : ∀ x' y', x' = x → y' = y → P) : P := k x y rfl rfl
theorem slice16_ge {x : Str} {m : Nat} (h1 : m ≤ 16) (h2 : m ≤ x.length) : m ≤ (Txt.slice x none (some 16)).length := by
  by_cases h : (x.length : Int) ≤ 16
  · rw [slice_to_beyond h, ← cpl_length, cpl_to (by omega) (by omega), List.length_take, cpl_length]
    omega
  · rw [← cpl_length, cpl_to (by omega) (by omega), List.length_take, cpl_length]
    have : (16 : Int).toNat = 16 := rfl
    omega
theorem slice16 (x : Str) : (Txt.slice x none (some 16)).length ≤ 16 := by
  by_cases h : 16 ≤ x.length
  · rw [← cpl_length, cpl_to (by omega) (by omega), List.length_take]
    have : (16 : Int).toNat = 16 := rfl
    omega
  · have := Txt.slice_le x none (some 16)
    omega
set_option maxHeartbeats 2000000 in
theorem at10 (w : World) (L ld : Addr) (vs : List Value) (n : Nat) (ow ot os on : Obj) (wd wn tx : Str) (tw tn tt ts : Tok) (how : ow.data = .cell (some (.str wd tw))) (hon : on.data = .cell (some (.str wn tn))) (hot : ot.data = .cell (some (.str tx tt))) (sz : Nat) (hos : os.data = .cell (some (.int (sz : Int) ts))) (hwl : wd.length ≤ 6) (hxl : tx.length ≤ 9000)
    (hnext : ∀ (ll lh : Addr) (tx : Str) (tt : Tok) (ot : Obj), ot.data = .cell (some (.str tx tt)) → tx.length ≤ 16 → wd.length ≤ tx.length → @LT.lt Nat _ (L + 1 + 1 + 1 + 1) ll → @LT.lt Nat _ ll lh → At9 w 13 L [("low", .ref ll), ("high", .ref lh)] [(ll, listOf ([] : List Value).toArray 0), (lh, listOf ([] : List Value).toArray 0), (101, tabObj #[]), (L + 1 + 1 + 1, on), (L + 1, os), (L + 1 + 1 + 1 + 1, ow), (L + 1 + 1, ot), (94, tabObj #[]), (87, tabObj #[])]) :
    At9 w 10 L [] [(ld, listOf vs.toArray n), (L + 1 + 1 + 1 + 1, ow), (L + 1 + 1 + 1, on), (L + 1 + 1, ot), (L + 1, os), (94, tabObj #[]), (87, tabObj #[]), (101, tabObj #[])] := by
  refine At9.mk ?_
  intro hK' p loose mean mg mb dp un gd fa outer A₀ base h₀ u s Q E B F X N T hd hu hE hfin
  dsimp only [List.drop]
  k_with_none
  k_with "pyIter ref" => (refine Hold9.out ?_)
  k_with "exec For" => (refine For_invVF (by assumption) (by rfl) (by rfl) ?_ (hE := hE))
  k_with "Turn9" => (refine Turn9.ret ?_; (try dsimp only))
  have hL9 : @LT.lt Nat _ 104 L := Nat.lt_of_lt_of_le (Heap.lt_size (X 104 _ hK')) F.above
  have g1 : @Ne Nat ld (L + 1 + 1 + 1 + 1) := addr_ne9 N (p := (ld, listOf vs.toArray n)) (q := (L + 1 + 1 + 1 + 1, ow)) (by k_mem) (by k_mem) (fun e => by have e := congrArg Obj.data e; dsimp only at e; rw [how] at e; cases e)
  have g2 : @Ne Nat ld (L + 1 + 1 + 1) := addr_ne9 N (p := (ld, listOf vs.toArray n)) (q := (L + 1 + 1 + 1, on)) (by k_mem) (by k_mem) (fun e => by have e := congrArg Obj.data e; dsimp only at e; rw [hon] at e; cases e)
  have g3 : @Ne Nat ld (L + 1 + 1) := addr_ne9 N (p := (ld, listOf vs.toArray n)) (q := (L + 1 + 1, ot)) (by k_mem) (by k_mem) (fun e => by have e := congrArg Obj.data e; dsimp only at e; rw [hot] at e; cases e)
  have g4 : @Ne Nat ld (L + 1) := addr_ne9 N (p := (ld, listOf vs.toArray n)) (q := (L + 1, os)) (by k_mem) (by k_mem) (fun e => by have e := congrArg Obj.data e; dsimp only at e; rw [hos] at e; cases e)
  generalize hR : (Stmt.Assign _ _ _ :: Stmt.Assign _ _ _ :: Stmt.For _ _ _ _ _ :: _ : List Stmt) = R
  k_steps
  subst hR
  generalize hR : (Stmt.For _ _ _ _ _ :: _ : List Stmt) = R
  k_steps
  rename News _ _ _ _ => N2
  refine head92 N2 (fun lh ll hlh hll => ?_)
  have q1 : @LT.lt Nat _ (L + 1 + 1 + 1 + 1) ll := by rw [hll]; omega
  have q2 : @LT.lt Nat _ ll lh := by rw [hlh, hll]; omega
  subst hlh hll
  subst hR
  refine (hnext ll lh _ _ _ (by assumption) (slice16 _) (slice16_ge (by omega) (by omega)) q1 q2).use hK' B (by assumption) X N2 T hd hu hE (by assumption) (by kst_all) ?led
  case led => (intro p hp; simp only [List.mem_cons, List.not_mem_nil, or_false] at hp; rcases hp with rfl | rfl | rfl | rfl | rfl | rfl | rfl | rfl | rfl <;> k_mem)
theorem intsName9 {P : Prop} {vs : List Value} {ns : List Int} (_h : IntsAre vs ns) (k : ∀ vs', vs' = vs → P) : P := k vs rfl
set_option maxHeartbeats 2000000 in
theorem at9 (w : World) (L ld : Addr) (vs : List Value) (n : Nat) (ns : List Int) (hi : IntsAre vs ns) (hnl : ns.length < 90) (ow ot os on : Obj) (wd wn : Str) (tw tn tt ts : Tok) (how : ow.data = .cell (some (.str wd tw))) (hon : on.data = .cell (some (.str wn tn))) (hot : ot.data = .cell (some (.str (Str.ofString "") tt))) (sz : Nat) (hos : os.data = .cell (some (.int (sz : Int) ts))) (hsz : sz < 90) (S : Str) (tS : Tok) (hSl : S.length = 2) (hwl : wd.length < 90)
    (hnext : ∀ (tx : Str) (tt : Tok) (ot : Obj), ot.data = .cell (some (.str tx tt)) → tx.length ≤ 9000 → At9 w 10 L [] [(ld, listOf vs.toArray n), (L + 1 + 1 + 1 + 1, ow), (L + 1 + 1 + 1, on), (L + 1 + 1, ot), (L + 1, os), (94, tabObj #[]), (87, tabObj #[]), (101, tabObj #[])]) :
    At9 w 9 L [("drawn", .ref ld), ("signs", .str S tS)] [(ld, listOf vs.toArray n), (L + 1 + 1 + 1 + 1, ow), (L + 1 + 1 + 1, on), (L + 1 + 1, ot), (L + 1, os), (94, tabObj #[]), (87, tabObj #[]), (101, tabObj #[])] := by
  refine At9.mk ?_
  intro hK' p loose mean mg mb dp un gd fa outer A₀ base h₀ u s Q E B F X N T hd hu hE hfin
  dsimp only [List.drop]
  k_with_none
  k_with "pyIter ref" => (refine Hold9.out ?_)
  k_with "exec For" => (refine For_invVF (by assumption) (by rfl) (by rfl) ?_ (hE := hE))
  k_with "Turn9" => (refine Turn9.ret ?_; (try dsimp only))
  have hL9 : @LT.lt Nat _ 104 L := Nat.lt_of_lt_of_le (Heap.lt_size (X 104 _ hK')) F.above
  have g1 : @Ne Nat ld (L + 1 + 1 + 1 + 1) := addr_ne9 N (p := (ld, listOf vs.toArray n)) (q := (L + 1 + 1 + 1 + 1, ow)) (by k_mem) (by k_mem) (fun e => by have e := congrArg Obj.data e; dsimp only at e; rw [how] at e; cases e)
  have g2 : @Ne Nat ld (L + 1 + 1 + 1) := addr_ne9 N (p := (ld, listOf vs.toArray n)) (q := (L + 1 + 1 + 1, on)) (by k_mem) (by k_mem) (fun e => by have e := congrArg Obj.data e; dsimp only at e; rw [hon] at e; cases e)
  have g3 : @Ne Nat ld (L + 1 + 1) := addr_ne9 N (p := (ld, listOf vs.toArray n)) (q := (L + 1 + 1, ot)) (by k_mem) (by k_mem) (fun e => by have e := congrArg Obj.data e; dsimp only at e; rw [hot] at e; cases e)
  have g4 : @Ne Nat ld (L + 1) := addr_ne9 N (p := (ld, listOf vs.toArray n)) (q := (L + 1, os)) (by k_mem) (by k_mem) (fun e => by have e := congrArg Obj.data e; dsimp only at e; rw [hos] at e; cases e)
  generalize hR : (Stmt.Assign _ _ _ :: Stmt.Assign _ _ _ :: Stmt.Assign _ _ _ :: Stmt.For _ _ _ _ _ :: _ : List Stmt) = R
  k_steps
  refine Hold9.mk ?_
  rename IntsAre _ (List.drop 1 ns) => hI3
  rename Fr _ _ _ _ => F3
  rename News _ _ _ _ => N3
  refine head9 N3 (fun l9 hl9 => ?_)
  refine intsName9 hI3 (fun ws9 hws9 => ?_)
  have hl39 : @LT.lt Nat _ (L + 1 + 1 + 1 + 1) l9 := by rw [hl9]; clear hnl how hon hot hos hsz hSl hwl hd hu hK' hL9 g1 g2 g3 g4 hR hl9 hws9; omega
  subst hl9 hws9
  have hwz9 := hI3.length
  rw [List.length_drop] at hwz9
  (with_unfolding_all refine' listS9 (σ := Str × Tok × Obj) (l := l9) (vs := ws9) (nn := 0) (fun c => (l9, listOf ws9.toArray 0) :: (ld, listOf vs.toArray n) :: (L + 1 + 1 + 1 + 1, ow) :: (L + 1 + 1 + 1, on) :: (L + 1 + 1, c.2.2) :: (L + 1, os) :: (94, tabObj #[]) :: (87, tabObj #[]) :: (101, tabObj #[]) :: []) (fun c => [("drawn", .ref ld), ("signs", .str S tS)]) ["share"] (fun i c => c.2.2.data = .cell (some (.str c.1 c.2.1)) ∧ c.1.length ≤ 100 * i) (Str.ofString "", tt, ot) (by rfl) (fun _ => List.mem_cons_self) F3 N3 ?hk ⟨hot, Nat.le_refl 0⟩ ?turn ?done)
  case hk => kst_all
  case turn =>
    clear F3 N3
    rintro I9 oI9 i9 v9 ⟨x9, tx9, ox9⟩ u9 h9 tk9 hv9 hlt9 ⟨f1, hx9⟩ hoff9 F9 N9
    dsimp only [kstB] at f1 hx9 hoff9 F9 N9
    obtain ⟨z9, tz9, rfl, hz9⟩ := hI3.at i9 v9 hv9
    have hi90 : i9 < 90 := by
      have := (List.getElem?_eq_some_iff.mp hv9).1
      clear how hon hot hos hsz hSl hwl hd hu hK' hL9 g1 g2 g3 g4 hR hl39 f1 hx9 hz9 hv9; omega
    clear hI3 hi
    have hI9 : @LT.lt Nat _ l9 I9 := hlt9 (l9, _) List.mem_cons_self
    k_with "subscriptTail" => (refine KXi.item (n := 2) hSl (by kxi_fact) (by kxi_fact) (by decide) ?_; intro _)
    k_steps
    refine' turn9_end (x9 ++ Txt.slice wd none (some ((z9.fmod (2 * (sz : Int) + 2)).fdiv 2)) ++ Txt.item S ((z9.fmod (2 * (sz : Int) + 2)).fmod 2), _, _) (by assumption) (by assumption) (fun p hp => hp) ?hI ?hk ?hr ?hp
    case hI =>
      intro p hp
      simp only [List.mem_cons, List.not_mem_nil, or_false] at hp
      rcases hp with rfl | rfl | rfl | rfl | rfl | rfl | rfl | rfl | rfl <;> first | (dsimp only; k_ne) | (refine hoff9 _ ?_; k_mem)
    case hk => kst_all
    case hr => first | kst_same | (dsimp only [kstB]; kst_same) | (intro z h1 h2 h3; simp [h1, h2, h3, kstB])
    case hp =>
      refine ⟨by assumption, ?_⟩
      dsimp only
      clear hnl how hon hot hos hsz hSl hd hu hK' hL9 g1 g2 g3 g4 hR hl39 hwz9 f1 hz9 hv9 hi90 hI9; omega
  case done =>
    rintro ⟨x9, tx9, ox9⟩ u9 h9 tk9 ⟨f1, hx9⟩ F9 N9
    dsimp only [kstB] at f1 hx9 F9 N9
    dsimp only
    subst hR
    exact (hnext x9 tx9 ox9 f1 (by clear how hon hot hos hsz hSl hwl hd hu hK' hL9 g1 g2 g3 g4 hl39 f1; omega)).use hK' B F9 X N9 T hd hu hE (by assumption) (by kst_all) (fun p hp => List.mem_cons_of_mem _ hp)
set_option maxHeartbeats 2000000 in
theorem at7 (w : World) (L ld : Addr) (vs : List Value) (n : Nat) (ow ot os on : Obj) (wd wn : Str) (tw tn : Tok) (how : ow.data = .cell (some (.str wd tw))) (hon : on.data = .cell (some (.str wn tn))) (hot : ot.data = .cell none) (hos : os.data = .cell none) (S : Str) (tS : Tok) (hwl : wd.length < 90)
    (hnext : ∀ (tt ts : Tok) (ot os : Obj), ot.data = .cell (some (.str (Str.ofString "") tt)) → os.data = .cell (some (.int (wd.length : Int) ts)) → At9 w 9 L [("drawn", .ref ld), ("signs", .str S tS)] [(ld, listOf vs.toArray n), (L + 1 + 1 + 1 + 1, ow), (L + 1 + 1 + 1, on), (L + 1 + 1, ot), (L + 1, os), (94, tabObj #[]), (87, tabObj #[]), (101, tabObj #[])]) :
    At9 w 7 L [("drawn", .ref ld), ("signs", .str S tS)] [(ld, listOf vs.toArray n), (L + 1 + 1 + 1 + 1, ow), (L + 1 + 1 + 1, on), (L + 1 + 1, ot), (L + 1, os), (94, tabObj #[]), (87, tabObj #[]), (101, tabObj #[])] := by
  refine At9.mk ?_
  intro hK' p loose mean mg mb dp un gd fa outer A₀ base h₀ u s Q E B F X N T hd hu hE hfin
  dsimp only [List.drop]
  k_with_none
  k_with "pyIter ref" => (refine Hold9.out ?_)
  k_with "exec For" => (refine For_invVF (by assumption) (by rfl) (by rfl) ?_ (hE := hE))
  k_with "Turn9" => (refine Turn9.ret ?_; (try dsimp only))
  have hL9 : @LT.lt Nat _ 104 L := Nat.lt_of_lt_of_le (Heap.lt_size (X 104 _ hK')) F.above
  have g1 : @Ne Nat ld (L + 1 + 1 + 1 + 1) := addr_ne9 N (p := (ld, listOf vs.toArray n)) (q := (L + 1 + 1 + 1 + 1, ow)) (by k_mem) (by k_mem) (fun e => by have e := congrArg Obj.data e; dsimp only at e; rw [how] at e; cases e)
  have g2 : @Ne Nat ld (L + 1 + 1 + 1) := addr_ne9 N (p := (ld, listOf vs.toArray n)) (q := (L + 1 + 1 + 1, on)) (by k_mem) (by k_mem) (fun e => by have e := congrArg Obj.data e; dsimp only at e; rw [hon] at e; cases e)
  have g3 : @Ne Nat ld (L + 1 + 1) := addr_ne9 N (p := (ld, listOf vs.toArray n)) (q := (L + 1 + 1, ot)) (by k_mem) (by k_mem) (fun e => by have e := congrArg Obj.data e; dsimp only at e; rw [hot] at e; cases e)
  have g4 : @Ne Nat ld (L + 1) := addr_ne9 N (p := (ld, listOf vs.toArray n)) (q := (L + 1, os)) (by k_mem) (by k_mem) (fun e => by have e := congrArg Obj.data e; dsimp only at e; rw [hos] at e; cases e)
  generalize hR : (Stmt.For _ _ _ _ _ :: _ : List Stmt) = R
  k_steps
  subst hR
  refine (hnext ?tt ?ts ?ot ?os ?e1 ?e2).use hK' B (by assumption) X (by assumption) T hd hu hE (by assumption) (by kst_all) (fun p hp => hp)
  case e1 => assumption
  case e2 => assumption
set_option maxHeartbeats 2000000 in
theorem at6 (w : World) (L ld : Addr) (vs : List Value) (n : Nat) (ow ot os on : Obj) (tw tn : Tok) (how : ow.data = .cell (some (.str (Str.ofString "") tw))) (hon : on.data = .cell (some (.str (Str.ofString "") tn))) (hot : ot.data = .cell none) (hos : os.data = .cell none) (S : Str) (tS tl : Tok) (lf c0 c1 : Nat) (hS : cpl S = [c0, c1]) (hlf4 : 4 ≤ lf) (hlf : lf < 128)
    (hnext : ∀ (ow on : Obj) (wd wn : Str) (tw tn : Tok) (bs : List Bool), ow.data = .cell (some (.str wd tw)) → on.data = .cell (some (.str wn tn)) → 2 ≤ bs.length → bs.length ≤ 6 → cpl wd = bs.map (sg9 c0 c1) → cpl wn = bs.map (fun b => sg9 c0 c1 (!b)) → At9 w 7 L [("drawn", .ref ld), ("signs", .str S tS)] [(ld, listOf vs.toArray n), (L + 1 + 1 + 1 + 1, ow), (L + 1 + 1 + 1, on), (L + 1 + 1, ot), (L + 1, os), (94, tabObj #[]), (87, tabObj #[]), (101, tabObj #[])]) :
    At9 w 6 L [("drawn", .ref ld), ("signs", .str S tS), ("left", .int (lf : Int) tl)] [(ld, listOf vs.toArray n), (L + 1 + 1 + 1 + 1, ow), (L + 1 + 1 + 1, on), (L + 1 + 1, ot), (L + 1, os), (94, tabObj #[]), (87, tabObj #[]), (101, tabObj #[])] := by
  refine At9.mk ?_
  intro hK' p loose mean mg mb dp un gd fa outer A₀ base h₀ u s Q E B F X N T hd hu hE hfin
  dsimp only [List.drop]
  k_with_none
  k_with "pyIter ref" => (refine Hold9.out ?_)
  k_with "exec For" => (refine For_invVF (by assumption) (by rfl) (by rfl) ?_ (hE := hE))
  k_with "Turn9" => (refine Turn9.ret ?_; (try dsimp only))
  have hL9 : @LT.lt Nat _ 104 L := Nat.lt_of_lt_of_le (Heap.lt_size (X 104 _ hK')) F.above
  have hSl : S.length = 2 := by rw [← cpl_length, hS]; rfl
  have g1 : @Ne Nat ld (L + 1 + 1 + 1 + 1) := addr_ne9 N (p := (ld, listOf vs.toArray n)) (q := (L + 1 + 1 + 1 + 1, ow)) (by k_mem) (by k_mem) (fun e => by have e := congrArg Obj.data e; dsimp only at e; rw [how] at e; cases e)
  have g2 : @Ne Nat ld (L + 1 + 1 + 1) := addr_ne9 N (p := (ld, listOf vs.toArray n)) (q := (L + 1 + 1 + 1, on)) (by k_mem) (by k_mem) (fun e => by have e := congrArg Obj.data e; dsimp only at e; rw [hon] at e; cases e)
  have g3 : @Ne Nat ld (L + 1 + 1) := addr_ne9 N (p := (ld, listOf vs.toArray n)) (q := (L + 1 + 1, ot)) (by k_mem) (by k_mem) (fun e => by have e := congrArg Obj.data e; dsimp only at e; rw [hot] at e; cases e)
  have g4 : @Ne Nat ld (L + 1) := addr_ne9 N (p := (ld, listOf vs.toArray n)) (q := (L + 1, os)) (by k_mem) (by k_mem) (fun e => by have e := congrArg Obj.data e; dsimp only at e; rw [hos] at e; cases e)
  generalize hR : (Stmt.Assign _ _ _ :: Stmt.Assign _ _ _ :: Stmt.For _ _ _ _ _ :: _ : List Stmt) = R
  generalize hW : Stmt.While _ _ _ _ = W
  k_steps
  subst hW
  (with_unfolding_all refine' ksw_while (σ := (Nat × Tok) × (Str × Tok × Obj) × (Str × Tok × Obj)) (fun c => (ld, listOf vs.toArray n) :: (L + 1 + 1 + 1 + 1, c.2.1.2.2) :: (L + 1 + 1 + 1, c.2.2.2.2) :: (L + 1 + 1, ot) :: (L + 1, os) :: (94, tabObj #[]) :: (87, tabObj #[]) :: (101, tabObj #[]) :: []) (fun c => [("drawn", .ref ld), ("signs", .str S tS), ("left", .int (c.1.1 : Int) c.1.2)]) (fun c => c.2.1.2.2.data = .cell (some (.str c.2.1.1 c.2.1.2.1)) ∧ c.2.2.2.2.data = .cell (some (.str c.2.2.1 c.2.2.2.1))) [] (fun c => Bits9 c0 c1 lf c.1.1 c.2.1.1 c.2.2.1 ∧ c.2.1.1.length + c.2.2.1.length + 2 * c.1.1 < 1000) (fun c => c.1.1) ((lf, tl), (Str.ofString "", tw, ow), (Str.ofString "", tn, on)) F N ⟨how, hon⟩ ?hk ?hp ?turn hE)
  case hk => kst_all
  case hp => exact ⟨⟨by show 1 ≤ lf; clear how hon hot hos hS hd hu hK' hL9 hSl g1 g2 g3 g4 hR; omega, [], rfl, rfl, by simp, by simp⟩, by have e : (Str.ofString "").length = 0 := rfl; show (Str.ofString "").length + (Str.ofString "").length + 2 * lf < 1000; clear how hon hot hos hS hd hu hK' hL9 hSl g1 g2 g3 g4 hR; omega⟩
  case turn =>
    clear F N
    refine pr233 ?_
    intro left tl9 x9 tx9 ox9 y9 ty9 oy9 u9 h9 tk9 hf hb F9 N9
    dsimp only [kstB] at hf hb F9 N9
    have f1 := hf.1
    have f2 := hf.2
    have hB9 := hb.1
    have hz9 := hb.2
    clear hf hb
    dsimp only
    have hf : ((left : Int)).fmod 2 = ((left % 2 : Nat) : Int) := (Int.ofNat_fmod left 2).symm
    have hm0 : 0 ≤ (left : Int).fmod 2 := by clear how hon hot hos hS hlf4 hlf hd hu hK' hL9 hSl g1 g2 g3 g4 hR f1 f2 hz9; omega
    have hm1 : (left : Int).fmod 2 < 2 := by clear how hon hot hos hS hlf4 hlf hd hu hK' hL9 hSl g1 g2 g3 g4 hR f1 f2 hz9 hm0; omega
    k_with "subscriptTail" => (refine KXi.item (n := 2) hSl (by omega) (by omega) (by decide) ?_; intro _)
    k_steps
    · rename (1 : Int) < _ => hlt
      have hlt' : 1 < left := by clear how hon hot hos hS hlf4 hlf hd hu hK' hL9 hSl g1 g2 g3 g4 hR f1 f2 hz9 hm0 hm1; omega
      refine' ksw_end ((left / 2, _), (Txt.item S ((left : Int).fmod 2) ++ x9, _, _), (Txt.item S (1 - (left : Int).fmod 2) ++ y9, _, _)) (by assumption) (by assumption) (fun p hp => hp) ⟨by assumption, by assumption⟩ ?hk ?hr ?hp ?hm
      case hk => first | kst_all | (rw [show ((left / 2 : Nat) : Int) = (left : Int).fdiv 2 from Int.ofNat_fdiv left 2]; kst_all)
      case hr => first | ksw_same | (dsimp only [kstB]; ksw_same)
      case hp =>
        refine ⟨Bits9.step hS hB9 hlt', ?_⟩
        dsimp only
        clear how hon hot hos hS hlf4 hlf hd hu hK' hL9 hSl g1 g2 g3 g4 hR f1 f2 hm0 hm1 hlt'; omega
      case hm => show left / 2 < left; clear how hon hot hos hS hlf4 hlf hd hu hK' hL9 hSl g1 g2 g3 g4 hR f1 f2 hz9 hm0 hm1 hlt'; omega
    · rename ¬ ((1 : Int) < _) => hlt
      obtain ⟨bs, hbs⟩ := Bits9.fin hB9 (by clear how hon hot hos hS hlf4 hlf hd hu hK' hL9 hSl g1 g2 g3 g4 hR f1 f2 hz9 hm0 hm1; omega) hlf4 hlf
      have b2 := hbs.1
      have b6 := hbs.2.1
      have bx := hbs.2.2.1
      have bn := hbs.2.2.2
      clear hbs
      subst hR
      exact (hnext _ _ _ _ _ _ bs f1 f2 b2 b6 bx bn).use hK' B F9 X N9 T hd hu hE (by assumption) (by kst_all) (fun p hp => hp)
set_option maxHeartbeats 2000000 in
theorem at4 (w : World) (L ld : Addr) (vs : List Value) (n : Nat) (ow ot os on : Obj) (how : ow.data = .cell none) (hot : ot.data = .cell none) (hos : os.data = .cell none) (hon : on.data = .cell none) (S : Str) (tS tl : Tok) (lf : Nat)
    (hnext : ∀ ow on tw tn, ow.data = .cell (some (.str (Str.ofString "") tw)) → on.data = .cell (some (.str (Str.ofString "") tn)) → At9 w 6 L [("drawn", .ref ld), ("signs", .str S tS), ("left", .int (lf : Int) tl)] [(ld, listOf vs.toArray n), (L + 1 + 1 + 1 + 1, ow), (L + 1 + 1 + 1, on), (L + 1 + 1, ot), (L + 1, os), (94, tabObj #[]), (87, tabObj #[]), (101, tabObj #[])]) :
    At9 w 4 L [("drawn", .ref ld), ("signs", .str S tS), ("left", .int (lf : Int) tl)] [(ld, listOf vs.toArray n), (L + 1 + 1 + 1 + 1, ow), (L + 1 + 1 + 1, on), (L + 1 + 1, ot), (L + 1, os), (94, tabObj #[]), (87, tabObj #[]), (101, tabObj #[])] := by
  refine At9.mk ?_
  intro hK' p loose mean mg mb dp un gd fa outer A₀ base h₀ u s Q E B F X N T hd hu hE hfin
  dsimp only [List.drop]
  k_with_none
  k_with "pyIter ref" => (refine Hold9.out ?_)
  k_with "exec For" => (refine For_invVF (by assumption) (by rfl) (by rfl) ?_ (hE := hE))
  k_with "Turn9" => (refine Turn9.ret ?_; (try dsimp only))
  have hL9 : @LT.lt Nat _ 104 L := Nat.lt_of_lt_of_le (Heap.lt_size (X 104 _ hK')) F.above
  have g1 : @Ne Nat ld (L + 1 + 1 + 1 + 1) := addr_ne9 N (p := (ld, listOf vs.toArray n)) (q := (L + 1 + 1 + 1 + 1, ow)) (by k_mem) (by k_mem) (fun e => by have e := congrArg Obj.data e; dsimp only at e; rw [how] at e; cases e)
  have g2 : @Ne Nat ld (L + 1 + 1 + 1) := addr_ne9 N (p := (ld, listOf vs.toArray n)) (q := (L + 1 + 1 + 1, on)) (by k_mem) (by k_mem) (fun e => by have e := congrArg Obj.data e; dsimp only at e; rw [hon] at e; cases e)
  have g3 : @Ne Nat ld (L + 1 + 1) := addr_ne9 N (p := (ld, listOf vs.toArray n)) (q := (L + 1 + 1, ot)) (by k_mem) (by k_mem) (fun e => by have e := congrArg Obj.data e; dsimp only at e; rw [hot] at e; cases e)
  have g4 : @Ne Nat ld (L + 1) := addr_ne9 N (p := (ld, listOf vs.toArray n)) (q := (L + 1, os)) (by k_mem) (by k_mem) (fun e => by have e := congrArg Obj.data e; dsimp only at e; rw [hos] at e; cases e)
  generalize hR : (Stmt.While _ _ _ _ :: _ : List Stmt) = R
  k_steps
  subst hR
  refine (hnext ?ow ?on ?tw ?tn ?e1 ?e2).use hK' B (by assumption) X (by assumption) T hd hu hE (by assumption) (by kst_all) (fun p hp => hp)
  case e1 => assumption
  case e2 => assumption
set_option maxHeartbeats 2000000 in
theorem at3 (w : World) (L ld : Addr) (vs : List Value) (n : Nat) (ns : List Int) (hi : IntsAre vs ns) (hnl : 0 < ns.length) (hn90 : ns.length < 90) (d0 : Nat) (hd0 : ns.getD 0 0 = (d0 : Int)) (ow ot os on : Obj) (S : Str) (tS : Tok)
    (hnext : ∀ (tl : Tok) (lf : Nat), lf = 4 + d0 % 124 → At9 w 4 L [("drawn", .ref ld), ("signs", .str S tS), ("left", .int (lf : Int) tl)] [(ld, listOf vs.toArray n), (L + 1 + 1 + 1 + 1, ow), (L + 1 + 1 + 1, on), (L + 1 + 1, ot), (L + 1, os), (94, tabObj #[]), (87, tabObj #[]), (101, tabObj #[])]) :
    At9 w 3 L [("drawn", .ref ld), ("signs", .str S tS)] [(ld, listOf vs.toArray n), (L + 1 + 1 + 1 + 1, ow), (L + 1 + 1 + 1, on), (L + 1 + 1, ot), (L + 1, os), (94, tabObj #[]), (87, tabObj #[]), (101, tabObj #[])] := by
  refine At9.mk ?_
  intro hK' p loose mean mg mb dp un gd fa outer A₀ base h₀ u s Q E B F X N T hd hu hE hfin
  dsimp only [List.drop]
  k_with_none
  k_with "pyIter ref" => (refine Hold9.out ?_)
  k_with "exec For" => (refine For_invVF (by assumption) (by rfl) (by rfl) ?_ (hE := hE))
  k_with "Turn9" => (refine Turn9.ret ?_; (try dsimp only))
  generalize hR : (Stmt.Assign _ _ _ :: Stmt.Assign _ _ _ :: Stmt.While _ _ _ _ :: _ : List Stmt) = R
  have hfm : (4 : Int) + (ns.getD (Int.toNat 0) 0).fmod 124 = ((4 + d0 % 124 : Nat) : Int) := by
    rw [show Int.toNat 0 = 0 from rfl, hd0, show ((d0 : Int)).fmod 124 = ((d0 % 124 : Nat) : Int) from (Int.ofNat_fmod d0 124).symm]
    omega
  k_steps
  rename Fr _ _ _ _ => F2
  rw [hfm] at F2
  subst hR
  exact (hnext _ _ rfl).use hK' B (by assumption) X (by assumption) T hd hu hE (by assumption) (by kst_all) (fun p hp => hp)
set_option maxHeartbeats 2000000 in
theorem at2 (w : World) (L ld : Addr) (vs : List Value) (n : Nat) (ns : List Int) (hi : IntsAre vs ns) (hnl : 0 < ns.length) (hn90 : ns.length < 90) (ow ot os on : Obj)
    (hnext : ∀ (S : Str) (tS : Tok), S ∈ [Str.ofString "ab", Str.ofString "\na", Str.ofString "*[", Str.ofString " \\"] → At9 w 3 L [("drawn", .ref ld), ("signs", .str S tS)] [(ld, listOf vs.toArray n), (L + 1 + 1 + 1 + 1, ow), (L + 1 + 1 + 1, on), (L + 1 + 1, ot), (L + 1, os), (94, tabObj #[]), (87, tabObj #[]), (101, tabObj #[])]) :
    At9 w 2 L [("drawn", .ref ld)] [(ld, listOf vs.toArray n), (L + 1 + 1 + 1 + 1, ow), (L + 1 + 1 + 1, on), (L + 1 + 1, ot), (L + 1, os), (94, tabObj #[]), (87, tabObj #[]), (101, tabObj #[])] := by
  refine At9.mk ?_
  intro hK' p loose mean mg mb dp un gd fa outer A₀ base h₀ u s Q E B F X N T hd hu hE hfin
  dsimp only [List.drop]
  k_with_none
  k_with "pyIter ref" => (refine Hold9.out ?_)
  k_with "exec For" => (refine For_invVF (by assumption) (by rfl) (by rfl) ?_ (hE := hE))
  k_with "Turn9" => (refine Turn9.ret ?_; (try dsimp only))
  generalize hR : (Stmt.Assign _ _ _ :: Stmt.Assign _ _ _ :: Stmt.Assign _ _ _ :: Stmt.While _ _ _ _ :: _ : List Stmt) = R
  k_with "subscriptTail" => (refine Hold9.out ?_)
  k_steps
  refine Hold9.mk ?_
  k_with_none
  generalize hX : ((ns.getD (Int.toNat 0) 0).fdiv 124).fmod 4 = ix
  have hx1 : 0 ≤ ix := by rw [← hX]; exact Int.fmod_nonneg_of_pos _ (by decide)
  have hx2 : ix < 4 := by rw [← hX]; exact Int.fmod_lt_of_pos _ (by decide)
  have hx3 : ix = 0 ∨ ix = 1 ∨ ix = 2 ∨ ix = 3 := by omega
  clear hX hx1 hx2 hi hnl
  rcases hx3 with rfl | rfl | rfl | rfl
  all_goals k_steps
  all_goals (
    rename News _ _ _ _ => N2
    subst hR
    refine (hnext _ _ ?memS).use hK' B (by assumption) X N2 T hd hu hE (by assumption) (by kst_all) (by intro p hp; simp only [List.mem_cons, List.not_mem_nil, or_false] at hp; rcases hp with rfl | rfl | rfl | rfl | rfl | rfl | rfl | rfl <;> k_mem)
    case memS => simp)
set_option maxHeartbeats 2000000 in
theorem at1 (w : World) (L ld : Addr) (vs : List Value) (n : Nat) (ds : List Int) (hi : IntsAre vs ds) (hdl : ds.length < 90) (ow ot os on : Obj)
    (hnext : ∀ ld vs n ns, IntsAre vs ns → ns = ds ++ [37, 9, 11, 4, 7].drop ds.length → At9 w 2 L [("drawn", .ref ld)] [(ld, listOf vs.toArray n), (L + 1 + 1 + 1 + 1, ow), (L + 1 + 1 + 1, on), (L + 1 + 1, ot), (L + 1, os), (94, tabObj #[]), (87, tabObj #[]), (101, tabObj #[])]) :
    At9 w 1 L [("drawn", .ref ld)] [(ld, listOf vs.toArray n), (L + 1 + 1 + 1 + 1, ow), (L + 1 + 1 + 1, on), (L + 1 + 1, ot), (L + 1, os), (94, tabObj #[]), (87, tabObj #[]), (101, tabObj #[])] := by
  refine At9.mk ?_
  intro hK' p loose mean mg mb dp un gd fa outer A₀ base h₀ u s Q E B F X N T hd hu hE hfin
  dsimp only [List.drop]
  k_with_none
  k_with "pyIter ref" => (refine Hold9.out ?_)
  k_with "exec For" => (refine For_invVF (by assumption) (by rfl) (by rfl) ?_ (hE := hE))
  k_with "Turn9" => (refine Turn9.ret ?_; (try dsimp only))
  generalize hR : (Stmt.Assign _ _ _ :: Stmt.Assign _ _ _ :: Stmt.Assign _ _ _ :: Stmt.Assign _ _ _ :: Stmt.While _ _ _ _ :: _ : List Stmt) = R
  k_with "subscriptTail" => (refine Hold9.out ?_)
  k_steps
  refine Hold9.mk ?_
  refine kba_turn (value' := PySem.Expr.Name (PySem.Str.ofString "_") ⟨0, 0, 0, 0⟩) (fun _ => rfl) ?_
  (with_unfolding_all refine' kmk_slice_ints (ns := [37, 9, 11, 4, 7]) (ms := [37, 9, 11, 4, 7].drop ds.length) ?zaF ?zaN ?zal ?zap ?zaq ?zai ?zam ?zac ?_ ?zas ?zat ?zaz)
  case zaF => k_asm
  case zaN => k_asm
  case zal => kmk_list
  case zap => kmk_part
  case zaq => kmk_part
  case zai => exact .cons _ _ (.cons _ _ (.cons _ _ (.cons _ _ (.cons _ _ .nil))))
  case zam => exact kmk_from (.cons _ _ (.cons _ _ (.cons _ _ (.cons _ _ (.cons _ _ .nil))))) (Int.natCast_nonneg _)
  case zac => exact List.length_drop ..
  case zas => with_unfolding_all rfl
  case zat => kmk_pure
  case zaz => exact Nat.le_of_ble_eq_true rfl
  intro D' ws' h' F' N' l1 hI' hC' hL'
  (try k_lt l1)
  (try k_sweep)
  clear hC'
  k_steps
  rename News _ _ _ _ => N2
  rename IntsAre _ (ds ++ _) => hi9
  subst hR
  exact (hnext _ _ _ _ hi9 rfl).use hK' B (by assumption) X N2 T hd hu hE (by assumption) (by kst_all) (by intro p hp; simp only [List.mem_cons, List.not_mem_nil, or_false] at hp; rcases hp with rfl | rfl | rfl | rfl | rfl | rfl | rfl | rfl <;> k_mem)
/-- At9 for the first statement: the script's list lies in the ground -/
noncomputable def At0 (w : World) (lsc : Addr) (vsc : List Value) (L : Addr) (led : List (Addr × Obj)) : Prop :=
  ∀ (params : Arguments) (body : List Stmt) (scope : Scope) (dV kV doc pm ct oc : Value) (an od : Option Addr) (osl : Array (Option Value)),
    List.lookup 104 (_root_.Mine.hd.heap_39 w.params) = some ⟨oc, od, .func (fnOf (Str.ofString "law") (Str.ofString "law") params body scope dV kV doc pm an (.ref 103) ct), osl⟩ →
  ∀ (p : Program) (loose : List Str) (mean : ExcName → Option Value) (mg mb : Str → Option Value) (dp un : Nat) (gd : Option (List Code)) (fa : Addr) (outer : List Env) (A₀ : Around) (base h₀ : Heap) (u : Str → Option Value) (s : Shared) (Q : Flow → Shared → Prop) (E : Value → Shared → Prop),
    h₀.IsList lsc vsc.toArray → Below A₀ base outer h₀ → Fr h₀ L s.heap (kstB u [("script", .ref lsc)]) → (_root_.Mine.hd.heap_39 w.params).In h₀ → News h₀ L s.heap led → Top p loose mean mg mb h₀ → dp + 20 < recursionLimit → un + 500 < cLine →
    PassesOwn (model prog9 w) (ktrTop dp un gd (Str.ofString "law") scope L fa (.ref 103) (cellsFrom (L + 1) scope.names []) outer) (envOfC (Str.ofString "law") scope L fa (.ref 103)) E →
    (∀ h' tk m' nx a b c, Fr h₀ L h' m' → News h₀ L h' nx → (94, tabObj a) ∈ nx → (87, tabObj b) ∈ nx → (101, tabObj c) ∈ nx → Q (.ret (.bool true)) { s with heap := h', toks := tk }) →
    wpAny (model prog9 w) (ktrTop dp un gd (Str.ofString "law") scope L fa (.ref 103) (cellsFrom (L + 1) scope.names []) outer) (execs (body.drop 0) (envOfC (Str.ofString "law") scope L fa (.ref 103))) Q E s
set_option maxHeartbeats 2000000 in
theorem at0 (w : World) (L : Addr) (lsc : Addr) (vsc : List Value) (nsc : List Int) (hsci : IntsAre vsc nsc) (hscl : nsc.length ≤ 63) (ow ot os on : Obj)
    (hnext : ∀ ld vs n ns, IntsAre vs ns → ns.length ≤ 5 → (∀ x ∈ ns, 0 ≤ x) → At9 w 1 L [("drawn", .ref ld)] [(ld, listOf vs.toArray n), (L + 1 + 1 + 1 + 1, ow), (L + 1 + 1 + 1, on), (L + 1 + 1, ot), (L + 1, os), (94, tabObj #[]), (87, tabObj #[]), (101, tabObj #[])]) :
    At0 w lsc vsc L [(L + 1 + 1 + 1 + 1, ow), (L + 1 + 1 + 1, on), (L + 1 + 1, ot), (L + 1, os), (94, tabObj #[]), (87, tabObj #[]), (101, tabObj #[])] := by
  intro params body scope dV kV doc pm ct oc an od osl hK p loose mean mg mb dp un gd fa outer A₀ base h₀ u s Q E hsc B F X N T hd hu hE hfin
  have hK' := hK
  rw [show List.lookup 104 (_root_.Mine.hd.heap_39 w.params) = some _ by k_is] at hK
  cases hK
  dsimp only [List.drop]
  k_with_none
  k_with "pyIter ref" => (refine Hold9.out ?_)
  k_with "exec For" => (refine For_invVF (by assumption) (by rfl) (by rfl) ?_ (hE := hE))
  k_with "Turn9" => (refine Turn9.ret ?_; (try dsimp only))
  generalize hR : (Stmt.Assign _ _ _ :: Stmt.Assign _ _ _ :: Stmt.Assign _ _ _ :: Stmt.Assign _ _ _ :: Stmt.Assign _ _ _ :: Stmt.While _ _ _ _ :: _ : List Stmt) = R
  k_steps
  rename News _ _ _ _ => N2
  rename IntsAre _ (List.map _ _) => hi9
  subst hR
  exact (hnext _ _ _ _ hi9 (by rw [List.length_map, List.length_take]; omega) (by intro x hx; obtain ⟨y, -, rfl⟩ := List.mem_map.mp hx; exact Int.fmod_nonneg_of_pos _ (by decide))).use hK' B (by assumption) X N2 T hd hu hE (by assumption) (by kst_all) (by intro p hp; simp only [List.mem_cons, List.not_mem_nil, or_false] at hp; rcases hp with rfl | rfl | rfl | rfl | rfl | rfl | rfl | rfl <;> k_mem)
theorem At0.use {w : World} {lsc : Addr} {vsc : List Value} {L : Addr} {led : List (Addr × Obj)} (H : At0 w lsc vsc L led)
    {params : Arguments} {body : List Stmt} {scope : Scope} {dV kV doc pm ct oc : Value} {an od : Option Addr} {osl : Array (Option Value)}
    (hK : List.lookup 104 (_root_.Mine.hd.heap_39 w.params) = some ⟨oc, od, .func (fnOf (Str.ofString "law") (Str.ofString "law") params body scope dV kV doc pm an (.ref 103) ct), osl⟩)
    {p : Program} {loose : List Str} {mean : ExcName → Option Value} {mg mb : Str → Option Value} {dp un : Nat} {gd : Option (List Code)} {fa : Addr} {outer : List Env} {A₀ : Around} {base h₀ : Heap} {m : Str → Option Value} {s : Shared} {Q : Flow → Shared → Prop} {E : Value → Shared → Prop} {nx : List (Addr × Obj)}
    (hsc : h₀.IsList lsc vsc.toArray) (B : Below A₀ base outer h₀) (F : Fr h₀ L s.heap m) (X : (_root_.Mine.hd.heap_39 w.params).In h₀) (N : News h₀ L s.heap nx) (T : Top p loose mean mg mb h₀) (hd : dp + 20 < recursionLimit) (hu : un + 500 < cLine)
    (hE : PassesOwn (model prog9 w) (ktrTop dp un gd (Str.ofString "law") scope L fa (.ref 103) (cellsFrom (L + 1) scope.names []) outer) (envOfC (Str.ofString "law") scope L fa (.ref 103)) E)
    (hfin : ∀ h' tk m' nx a b c, Fr h₀ L h' m' → News h₀ L h' nx → (94, tabObj a) ∈ nx → (87, tabObj b) ∈ nx → (101, tabObj c) ∈ nx → Q (.ret (.bool true)) { s with heap := h', toks := tk })
    (hps : m "script" = some (.ref lsc)) (hled : ∀ p ∈ led, p ∈ nx) :
    wpAny (model prog9 w) (ktrTop dp un gd (Str.ofString "law") scope L fa (.ref 103) (cellsFrom (L + 1) scope.names []) outer) (execs (body.drop 0) (envOfC (Str.ofString "law") scope L fa (.ref 103))) Q E s := by
  have e : kstB m [("script", .ref lsc)] = m := by
    funext y
    refine kstB_eq (fun p hp => ?_) fun _ => rfl
    rw [List.mem_singleton.mp hp]
    exact hps
  exact H params body scope dV kV doc pm ct oc an od osl hK p loose mean mg mb dp un gd fa outer A₀ base h₀ m s Q E hsc B (by rw [e]; exact F) X (fun p hp => N p (hled p hp)) T hd hu hE hfin
theorem At9.ofL {w : World} {i : Nat} {L : Addr} {ps : List (Str × Value)} {led : List (Addr × Obj)} (H : @LT.lt Nat _ 104 L → At9 w i L ps led) : At9 w i L ps led := by
  intro params body scope dV kV doc pm ct oc an od osl hK p loose mean mg mb dp un gd fa outer A₀ base h₀ u s Q E B F X
  exact H (Nat.lt_of_lt_of_le (Heap.lt_size (X 104 _ hK)) F.above) params body scope dV kV doc pm ct oc an od osl hK p loose mean mg mb dp un gd fa outer A₀ base h₀ u s Q E B F X
theorem menu9 {S : Str} (h : S ∈ [Str.ofString "ab", Str.ofString "\na", Str.ofString "*[", Str.ofString " \\"]) : ∃ c0 c1, c0 < c1 ∧ c0 ≠ 46 ∧ c1 ≠ 46 ∧ cpl S = [c0, c1] := by
  simp only [List.mem_cons, List.not_mem_nil, or_false] at h
  rcases h with rfl | rfl | rfl | rfl
  · exact ⟨97, 98, by decide, by decide, by decide, by decide +kernel⟩
  · exact ⟨10, 97, by decide, by decide, by decide, by decide +kernel⟩
  · exact ⟨42, 91, by decide, by decide, by decide, by decide +kernel⟩
  · exact ⟨32, 92, by decide, by decide, by decide, by decide +kernel⟩
theorem no46 {c0 c1 : Nat} (h0 : c0 ≠ 46) (h1 : c1 ≠ 46) {x : Str} {b : List Bool} (h : cpl x = b.map (sg9 c0 c1)) : 46 ∉ cpl x := by
  rw [h]
  intro hm
  obtain ⟨y, -, e⟩ := List.mem_map.mp hm
  cases y <;> simp [sg9] at e
  · exact h0 e
  · exact h1 e
theorem drawn9 {ds ns : List Int} (h5 : ds.length ≤ 5) (hnn : ∀ x ∈ ds, 0 ≤ x) (e : ns = ds ++ [37, 9, 11, 4, 7].drop ds.length) : ns.length = 5 ∧ ∃ d0 : Nat, ns.getD 0 0 = (d0 : Int) := by
  have hl : ns.length = 5 := by rw [e, List.length_append, List.length_drop]; show ds.length + (5 - ds.length) = 5; clear e; omega
  refine ⟨hl, (ns.getD 0 0).toNat, (Int.toNat_of_nonneg ?_).symm⟩
  have hm := getD_mem9 (ns := ns) 0 (by clear h5 e; omega)
  generalize ns.getD 0 0 = x at hm
  rw [e] at hm
  rcases List.mem_append.mp hm with h | h
  · exact hnn x h
  · have h := List.mem_of_mem_drop h
    simp only [List.mem_cons, List.not_mem_nil, or_false] at h
    clear h5 e hl; omega
section
variable {w : World} {L ll lh : Addr} {wd wn tx : Str} {b : List Bool} {c0 c1 : Nat} {tw tn tt ts : Tok} {ow on ot os : Obj}
theorem from13 (h01 : c0 < c1) (h0 : c0 ≠ 46) (h1 : c1 ≠ 46) (b2 : 2 ≤ b.length) (b6 : b.length ≤ 6) (hw : cpl wd = b.map (sg9 c0 c1)) (hn : cpl wn = b.map (fun b => sg9 c0 c1 (!b)))
    (how : ow.data = .cell (some (.str wd tw))) (hon : on.data = .cell (some (.str wn tn))) (hot : ot.data = .cell (some (.str tx tt))) (hos : os.data = .cell (some (.int (b.length : Int) ts)))
    (h16 : tx.length ≤ 16) (hl : b.length ≤ tx.length) (q1 : @LT.lt Nat _ (L + 1 + 1 + 1 + 1) ll) (q2 : @LT.lt Nat _ ll lh) :
    At9 w 13 L [("low", .ref ll), ("high", .ref lh)] [(ll, listOf ([] : List Value).toArray 0), (lh, listOf ([] : List Value).toArray 0), (101, tabObj #[]), (L + 1 + 1 + 1, on), (L + 1, os), (L + 1 + 1 + 1 + 1, ow), (L + 1 + 1, ot), (94, tabObj #[]), (87, tabObj #[])] := by
  have hc := chk_of b b2 b6
  have hn' : cpl wn = (b.map (!·)).map (sg9 c0 c1) := hn.trans (neg_map b c0 c1)
  have hz : wd.length = b.length := by rw [← cpl_length, hw, List.length_map]
  have hzn : wn.length = b.length := by rw [← cpl_length, hn, List.length_map]
  have h46 := no46 h0 h1 hw
  obtain ⟨f1, f2, f3⟩ := pl_fact hc
  obtain ⟨k1, k2, k3, k4, k5⟩ := per_fact hc
  obtain ⟨a1, a2, a3⟩ := at_fact hc
  refine at13 w L ll lh #[] #[] wd tx tw tt ts ow ot os how hot b.length hos wn tn on hon b2 (by clear h01 h0 h1 hw hn how hon hot hos h16 hl q1 q2 hc hn' h46 f3 k1 k2 k4 a1 a2 a3; omega) (by clear h01 h0 h1 hw hn how hon hot hos h16 hl q1 q2 hc hn' h46 f3 k1 k2 k4 a1 a2 a3; omega) (by clear h01 h0 h1 hw hn how hon hot hos h16 hl q1 q2 hc hn' h46 f3 k1 k2 k4 a1 a2 a3; omega) q1 q2 fun vl nl vh nh c1' c2' hvl hvh => ?_
  rw [low_eq h01 hw] at hvl
  rw [high_eq h01 hn'] at hvh
  refine at14 w L ll lh c1' c2' #[] #[] wd tx tw tt ts ow ot os how hot b.length hos wn tn on hon b2 b6 (by clear h01 h0 h1 hw hn how hon hot hos h16 hl q1 q2 hc hn' h46 f3 k1 k2 k4 a1 a2 a3; omega) (by clear h01 h0 h1 hw hn how hon hot hos h16 hl q1 q2 hc hn' h46 f3 k1 k2 k4 a1 a2 a3; omega) (lowB b) (highB b) vl vh nl nh hvl hvh ?_ ?_ fun c => ?_
  · rw [run_eq h01 hw]
    exact sort_low hc
  · rw [run_eq h01 hn']
    exact sort_high hc
  refine at16 w L ll lh #[] #[] c wd tx tw tt ts ow ot os how hot b.length hos (plB b) (lowB b) (highB b) vl vh nl nh hvl hvh (by clear h01 h0 h1 hw hn how hon hot hos h16 hl q1 q2 hc hn' h46 f3 k1 k2 k4 a1 a2 a3; omega) (by clear h01 h0 h1 hw hn how hon hot hos h16 hl q1 q2 hc hn' h46 f3 k1 k2 k4 a1 a2 a3; omega) f3 fun tpl => ?_
  refine at17 w L #[] #[] c wd tx tw tt ts ow ot os how hot b.length hos h46 (by clear h01 h0 h1 hw hn how hon hot hos h16 hl q1 q2 hc hn' h46 f3 k1 k2 k4 a1 a2 a3; omega) hz (plB b) (k0B b) tpl (fitB b) (fun i _ => fit_eq h01 hw i) k1 k2 k3 fun tpe => ?_
  refine at19 w L #[] #[] c wd tx tw tt ts ow ot os how hot b.length hos (by clear h01 h0 h1 hw hn how hon hot hos h16 hl q1 q2 hc hn' h46 f3 k1 k2 k4 a1 a2 a3; omega) hz (plB b) (k0B b + 1) tpl tpe ?_ ?_ fun le => ?_
  · refine List.mem_filter.mpr ⟨kre_mem (by clear h01 h0 h1 b2 b6 hw hn how hon hot hos h16 hl q1 q2 hc hn' hz hzn h46 f1 f2 f3 k1 k2 k4 a1 a2; omega) (by clear h01 h0 h1 b2 b6 hw hn how hon hot hos h16 hl q1 q2 hc hn' h46 f3 k2 k4 a1 a2; omega), ?_⟩
    have h := m_eq h01 hw rfl (k0B b) k1
    rw [show ((k0B b + 1 : Nat) : Int) = 1 + (k0B b : Int) by clear h01 h0 h1 b2 b6 hw hn how hon hot hos h16 hl q1 q2 hc hn' hz hzn h46 f1 f2 f3 k1 k2 k4 a1 a2 a3 h; omega, h, Nat.add_comm]
    exact k4
  · intro x hx
    obtain ⟨hx1, hx2⟩ := List.mem_filter.mp hx
    have hb := mem_rangeKs hx1
    obtain ⟨i, rfl⟩ : ∃ i : Nat, x = 1 + (i : Int) := ⟨(x - 1).toNat, by clear h01 h0 h1 b2 b6 hw hn how hon hot hos h16 hl q1 q2 hc hn' hz hzn h46 f1 f2 f3 k1 k2 k4 a1 a2 a3 hx2; omega⟩
    have h := m_eq h01 hw rfl i (by clear h01 h0 h1 b2 b6 hw hn how hon hot hos h16 hl q1 q2 hc hn' h46 f3 k1 k2 k4 a1 a2 a3 hx2; omega)
    rw [h] at hx2
    have := k5 i (by clear h01 h0 h1 b2 b6 hw hn how hon hot hos h16 hl q1 q2 hc hn' h46 f3 k1 k2 k4 a1 a2 a3 hx2 h; omega) hx2
    clear h01 h0 h1 b2 b6 hw hn how hon hot hos h16 hl q1 q2 hc hn' hz hzn h46 f1 f2 f3 k1 k2 k4 a1 a2 hx2 hb h; omega
  refine at21 w L le #[] #[] c wd tx tw tt ts ow ot os how hot b.length hos h46 (by clear h01 h0 h1 hw hn how hon hot hos h16 hl q1 q2 hc hn' h46 f3 k1 k2 k4 a1 a2 a3; omega) hz (plB b) (k0B b + 1) tpl tpe (ecB b) (rowB b) (fun cut i hcut hi => row_eq h01 hw rfl cut i hcut hi) (fun cut hcut => ?_) fun vs n hvs => ?_
  · obtain ⟨e1, e2, e3, -⟩ := ec_fact hc cut hcut
    exact ⟨e1, e2, e3⟩
  refine at22 w L le #[] #[] c wd tx tw tt ts ow ot os how hot b.length hos (plB b) (k0B b + 1) tpl tpe _ vs n hvs ?_ ?_ ?_ ?_ ?_ fun lf => ?_
  · rw [List.length_map, List.length_range]; clear h01 h0 h1 hw hn how hon hot hos h16 hl q1 q2 hc hn' h46 f3 k1 k2 k4 a1 a2 a3; omega
  · rw [List.length_map, List.length_range]; clear h01 h0 h1 b2 b6 hw hn how hon hot hos h16 hl q1 q2 hc hn' h46 f3 k1 k2 k4 a1 a3; omega
  · refine List.mem_map.mpr ⟨plB b, List.mem_range.mpr (by clear h01 h0 h1 b2 b6 hw hn how hon hot hos h16 hl q1 q2 hc hn' h46 f3 k1 k2 k4 a1 a3; omega), ?_⟩
    rw [a3]; clear h01 h0 h1 b2 b6 hw hn how hon hot hos h16 hl q1 q2 hc hn' hz hzn h46 f1 f2 f3 k1 k2 k4 a1 a2 a3; omega
  · intro x hx
    obtain ⟨k, hk, rfl⟩ := List.mem_map.mp hx
    have := (ec_fact hc k (by have := List.mem_range.mp hk; clear h01 h0 h1 b2 b6 hw hn how hon hot hos h16 hl q1 q2 hc hn' h46 f3 k1 k2 k4 a1 a2 a3; omega)).2.2.2
    clear h01 h0 h1 b2 b6 hw hn how hon hot hos h16 hl q1 q2 hc hn' hz hzn h46 f1 f2 f3 k1 k2 k4 a1 a2; omega
  · rw [List.getD_eq_getElem?_getD, List.getElem?_map, List.getElem?_range (by clear h01 h0 h1 b2 b6 hw hn how hon hot hos h16 hl q1 q2 hc hn' h46 f3 k1 k2 k4 a1 a3; omega)]
    simp only [Option.map_some, Option.getD_some]
    rw [a3]; clear h01 h0 h1 b2 b6 hw hn how hon hot hos h16 hl q1 q2 hc hn' hz hzn h46 f1 f2 f3 k1 k2 k4 a1 a2 a3; omega
  obtain ⟨n9, hn9⟩ : ∃ n9 : Nat, (tx.length : Int) - (b.length : Nat) + 1 = n9 := ⟨tx.length - b.length + 1, by clear h01 h0 h1 b2 b6 hw hn how hon hot hos h16 q1 q2 hc hn' h46 f3 k1 k2 k4 a1 a2 a3; omega⟩
  refine At9.ofL fun hL9 => ?_
  refine at24 w L lf #[] #[] c wd tx tw tt ts ow ot os how hot b.length hos h46 (by clear h01 h0 h1 hw hn how hon hot hos h16 hl q1 q2 hc hn' h46 f3 k1 k2 k4 a1 a2 a3 hn9 hL9; omega) h16 n9 hn9 (GI tx wd b.length n9) (plB b) (k0B b + 1) tpl tpe a2 (by clear h01 h0 h1 b2 b6 hw hn how hon hot hos h16 hl q1 q2 hc hn' hz hzn h46 f1 f2 f3 k1 k2 k4 a1 a2 hn9 hL9; omega) (by clear h01 h0 h1 b2 b6 hw hn how hon hot hos h16 hl q1 q2 hc hn' h46 f3 k2 k4 a1 a2 hn9 hL9; omega) hz ?_ (SI tx wd b.length n9) ?_ ?_ ?_ ?_ ?_ ?_
  · refine ⟨.inl rfl, .inl rfl, fun p hp => ?_⟩
    simp only [List.mem_cons, List.not_mem_nil, or_false] at hp
    rcases hp with rfl | rfl | rfl | rfl <;> refine ⟨neN ?_, neN ?_⟩ <;> dsimp only <;> omega
  · refine ⟨Nat.zero_le _, fun i hi => absurd hi (Nat.not_lt_zero _), ?_⟩
    unfold occF
    rw [Nat.zero_min]
    rfl
  · exact fun at9 kn F hS hat => si_step hw h01 hc hz rfl h16 hn9 hS hat
  · exact fun at9 kn F hS hat => si_end hw h01 hc hz rfl h16 hn9 hS hat
  · exact fun ns e => gi_zero hz b2 h16 hn9 ns e
  · exact fun ns c h G hl => gi_step hz b2 h16 hn9 ns c h G hl
  · exact fun ns c h G hl => gi_end hz b2 h16 hn9 ns c h G hl
end
theorem run9 (w : World) (lsc : Addr) (vsc : List Value) (nsc : List Int) (L : Addr) (ow on ot os : Obj) (hI : IntsAre vsc nsc) (h63 : nsc.length ≤ 63) (how : ow.data = .cell none) (hon : on.data = .cell none) (hot : ot.data = .cell none) (hos : os.data = .cell none) :
    At0 w lsc vsc L [(L + 1 + 1 + 1 + 1, ow), (L + 1 + 1 + 1, on), (L + 1 + 1, ot), (L + 1, os), (94, tabObj #[]), (87, tabObj #[]), (101, tabObj #[])] := by
  refine at0 w L lsc vsc nsc hI h63 ow ot os on fun ld vs n ds hds h5 hnn => ?_
  refine at1 w L ld vs n ds hds (by clear h63 how hon hot hos; omega) ow ot os on fun ld vs n ns hns ens => ?_
  obtain ⟨h5', d0, hd0⟩ := drawn9 h5 hnn ens
  refine at2 w L ld vs n ns hns (by clear h63 how hon hot hos h5 ens hd0; omega) (by clear h63 how hon hot hos h5 ens hd0; omega) ow ot os on fun S tS hS => ?_
  obtain ⟨c0, c1, h01, h0, h1, hSc⟩ := menu9 hS
  have hSl : S.length = 2 := by rw [← cpl_length, hSc]; rfl
  refine at3 w L ld vs n ns hns (by clear h63 how hon hot hos h5 ens hd0 h01 h0 h1 hSc hSl; omega) (by clear h63 how hon hot hos h5 ens hd0 h01 h0 h1 hSc hSl; omega) d0 hd0 ow ot os on S tS fun tl lf hlf => ?_
  refine at4 w L ld vs n ow ot os on how hot hos hon S tS tl lf fun ow on tw tn how hon => ?_
  refine at6 w L ld vs n ow ot os on tw tn how hon hot hos S tS tl lf c0 c1 hSc (by clear h63 hot hos h5 ens h5' hd0 h01 h0 h1 hSc hSl how hon; omega) (by clear h63 hot hos h5 ens h5' hd0 h01 h0 h1 hSc hSl how hon; omega) fun ow on wd wn tw tn bs how hon b2 b6 hw hn => ?_
  have hz : wd.length = bs.length := by rw [← cpl_length, hw, List.length_map]
  refine at7 w L ld vs n ow ot os on wd wn tw tn how hon hot hos S tS (by clear h63 hot hos h5 ens h5' hd0 h01 h0 h1 hSc hSl hlf how hon hw hn; omega) fun tt ts ot os hot hos => ?_
  rw [hz] at hos
  refine at9 w L ld vs n ns hns (by clear h63 h5 ens hd0 h01 h0 h1 hSc hSl hlf how hon b2 b6 hw hn hz hot hos; omega) ow ot os on wd wn tw tn tt ts how hon hot bs.length hos (by clear h63 h5 ens h5' hd0 h01 h0 h1 hSc hSl hlf how hon hw hn hot hos; omega) S tS hSl (by clear h63 h5 ens h5' hd0 h01 h0 h1 hSc hSl hlf how hon hw hn hot hos; omega) fun tx tt ot hot hxl => ?_
  refine at10 w L ld vs n ow ot os on wd wn tx tw tn tt ts how hon hot bs.length hos (by clear h63 h5 ens h5' hd0 h01 h0 h1 hSc hSl hlf how hon hw hn hos hot hxl; omega) hxl fun ll lh tx tt ot hot h16 hl q1 q2 => ?_
  exact from13 h01 h0 h1 b2 b6 hw hn how hon hot hos h16 (by clear h63 h5 ens h5' hd0 h01 h0 h1 hSc hSl hlf how hon b2 b6 hw hn hos hxl hot h16 q1 q2; omega) q1 q2
theorem name4 {P : Prop} {h₀ h : Heap} {L x1 x2 x3 x4 : Addr} {o1 o2 o3 o4 : Obj} {nx : List (Addr × Obj)} (_N : News h₀ L h ((x1, o1) :: (x2, o2) :: (x3, o3) :: (x4, o4) :: nx))
    (k : ∀ p1 p2 p3 p4, p1 = o1 → p2 = o2 → p3 = o3 → p4 = o4 → P) : P := k _ _ _ _ rfl rfl rfl rfl
theorem top9 : PySem.Challenge.rw_sw0040_01.Holds := by
  refine hd ?_
  w_strict (k_go0; (all_goals try k_fold))
  rename IntsAre _ _ => hI
  rename News _ _ _ _ => N9
  rename Fr _ _ _ _ => F9
  rename Below _ _ _ _ => B9
  rename Top _ _ _ _ _ _ => T9
  rename Frag.In _ _ => X9
  refine name4 N9 (fun p1 p2 p3 p4 e1 e2 e3 e4 => ?_)
  subst e1 e2 e3 e4
  (with_unfolding_all refine' At0.use (run9 _ _ _ _ _ p1 p2 p3 p4 hI ?hlen ?w1 ?w2 ?w3 ?w4) ?hK ?hsc B9 F9 X9 N9 T9 ?hd ?hu ?hE ?hfin ?hps ?hled)
  case hled => exact fun p hp => hp
  case hK => k_is
  case hlen => omega
  case w1 => assumption
  case w2 => assumption
  case w3 => assumption
  case w4 => assumption
  case hsc => assumption
  case hd => decide
  case hu => decide
  case hE => passes_own
  case hps => rfl
  case hfin =>
    intro h9 tk9 m9 nx9 a9 b9 c9 F8 N8 q1 q2 q3
    k_steps
end Mine
theorem PySem.Challenge.cw_sw0040_01_holds : PySem.Challenge.rw_sw0040_01.Holds := by
  exact Mine.top9
