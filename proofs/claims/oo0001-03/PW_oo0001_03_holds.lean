import PyProof.Rows.All
import Wide.All
import OpenK.AllK
import Wide.FinOn
import PySem.Challenge.RW_oo0001_03
open PySem PySem.W PyProof.Rows
set_option Elab.async false
namespace Mine

theorem xor_and_add (a : Nat) : ∀ b : Nat, (a ^^^ b) + 2 * (a &&& b) = a + b := by
  induction a using Nat.strongRecOn with
  | ind a ih =>
    intro b
    by_cases ha : a = 0
    · subst ha; simp
    · have h := ih (a / 2) (by omega) (b / 2)
      have hx := Nat.div_add_mod (a ^^^ b) 2
      have hy := Nat.div_add_mod (a &&& b) 2
      rw [Nat.xor_div_two] at hx
      rw [Nat.and_div_two] at hy
      have hm : (a ^^^ b) % 2 + 2 * ((a &&& b) % 2) = a % 2 + b % 2 := by
        have e1 : (a ^^^ b) % 2 = (a % 2) ^^^ (b % 2) := by
          have := @Nat.xor_mod_two_pow a b 1
          simpa using this
        have e2 : (a &&& b) % 2 = (a % 2) &&& (b % 2) := by
          have := @Nat.and_mod_two_pow a b 1
          simpa using this
        rw [e1, e2]
        rcases Nat.mod_two_eq_zero_or_one a with h1 | h1 <;> rcases Nat.mod_two_eq_zero_or_one b with h2 | h2 <;> rw [h1, h2] <;> decide
      omega

theorem andN (a b : Nat) : Builtin.bitAnd (a : Int) (b : Int) = ((a &&& b : Nat) : Int) := by
  rw [bitAnd_pp (by omega) (by omega)]; simp
theorem xorN (a b : Nat) : Builtin.bitXor (a : Int) (b : Int) = ((a ^^^ b : Nat) : Int) := by
  rw [bitXor_and, andN]
  have := xor_and_add a b
  omega
theorem shrN (a k : Nat) : Int.fdiv (a : Int) (2 ^ k) = ((a >>> k : Nat) : Int) := by
  rw [Int.fdiv_eq_ediv_of_nonneg _ (Int.pow_nonneg (by decide)), Nat.shiftRight_eq_div_pow]
  simp
theorem shlN (a k : Nat) : (a : Int) * (2 ^ k) = ((a <<< k : Nat) : Int) := by
  rw [Nat.shiftLeft_eq]; simp

section
open PySem.Spec
variable {prog : Program} {w : World} {A : Around} {E : Value → Shared → Prop} {s : Shared} {env : Env} {h₀ : Heap} {x : Str} {body : List Stmt} {Q : Flow → Shared → Prop}

/-- a for over a list of the ledger; the ledger may grow -/
theorem iterGL {l : Addr} {vs : List Value} {nn : Nat} {m₀ : Str → Option Value} {news : List (Addr × Obj)} (J : Nat → (Str → Option Value) → List (Addr × Obj) → Prop)
    (hh : A.handled = none) (hl : ∀ i m nx, J i m nx → (l, listOf vs.toArray nn) ∈ nx) (F : Fr h₀ env.locals s.heap m₀) (N : News h₀ env.locals s.heap news) (hj : J 0 m₀ news)
    (turn : ∀ i v m₁ nx h tk own, vs[i]? = some v → TbOff own nx → J i m₁ nx → Fr h₀ env.locals h (fun y => if y = x then some v else m₁ y) → News h₀ env.locals h (nx ++ own) →
      wpAny (model prog w) A (execs body env) (TbPost h₀ env.locals (J (i + 1)) own { s with heap := h, toks := tk } Q) E { s with heap := h, toks := tk })
    (done : ∀ m₁ nx h tk, J vs.length m₁ nx → Fr h₀ env.locals h m₁ → News h₀ env.locals h nx → Q .next { s with heap := h, toks := tk }) :
    wpAny (model prog w) A (pyIter (.ref l)) (fun it s₂ => LoopAtV prog w A h₀ env x body Q E it s₂) E s := by
  have hlN := hl 0 m₀ news hj
  have hol : s.heap.get? l = some (listOf vs.toArray nn) := (N _ hlN).1
  have hls : s.heap.IsList l vs.toArray := ⟨_, hol, rfl, nn, rfl⟩
  have hne : l ≠ s.heap.objs.size := Nat.ne_of_lt (Heap.lt_size hol)
  refine wpAny_pyIter_list hls ?_
  have W := Walks.list (prog := prog) (w := w) hh s.heap.objs.size l hne vs.toArray
  have hlen : vs.toArray.size = vs.length := by simp
  rw [hlen] at W
  refine ⟨_, _, _, vs.length, _, _, m₀, news, J, rfl, W, ?_, ?_, ?_, ⟨⟨_, Heap.get?_push_size _ rfl, rfl, rfl⟩, hls.at fun o e => Heap.get?_push_of_some _ e⟩, F.push _, (fun p hp => ⟨Heap.get?_push_of_some _ (N p hp).1, (N p hp).2⟩), hj, ?_, ?_⟩
  · intro hm
    rcases List.mem_cons.mp hm with e | hm
    · exact absurd F.ns.lt (e ▸ Nat.lt_irrefl _)
    · exact (N _ hlN).2.1 ((List.mem_singleton.mp hm).symm)
  · intro b hb
    rw [List.mem_singleton.mp hb]
    exact next_is_new F
  · intro p hp hI
    exact absurd (Heap.lt_size (N p hp).1) ((List.mem_singleton.mp hI) ▸ Nat.lt_irrefl _)
  · rintro i v m₁ news₁ s₁ own ⟨hh', tk', rfl⟩ hin hP hJ hoff hown hget hmem hst F₁ N₁
    obtain ⟨⟨oi, hoi, _⟩, _⟩ := hst
    have hI : (s.heap.objs.size, oi) ∈ own := hmem _ (.head _) (next_is_new F) oi hoi
    have hIf : (s.heap.objs.size, oi) ∈ own.filter fun p => decide (p.1 = s.heap.objs.size) := List.mem_filter.mpr ⟨hI, by simp⟩
    have hsep : TbOff (own.filter fun p => decide (p.1 = s.heap.objs.size)) news₁ := by
      intro p hp q hq e
      have h1 : p.1 = s.heap.objs.size := by simpa using (List.mem_filter.mp hp).2
      exact hoff q hq (List.mem_singleton.mpr (by rw [← e, h1]))
    have hv : vs[i]? = some v := by simpa using hP
    have hl₁ := hl i m₁ news₁ hJ
    have N₂ : News h₀ env.locals hh' (news₁ ++ own.filter fun p => decide (p.1 = s.heap.objs.size)) := fun p hp => N₁ p ((List.mem_append.mp hp).elim (fun h => List.mem_append.mpr (.inr h)) fun h => List.mem_append.mpr (.inl ((List.mem_filter.mp h).1)))
    have hlo : hh'.get? l = some (listOf vs.toArray nn) := (N₁ _ (List.mem_append.mpr (.inr hl₁))).1
    refine wpAny_mono (turn i v m₁ news₁ hh' tk' _ hv hsep hJ F₁ N₂) (fun f s₂ p => ?_) fun _ _ e => e
    have fin : TbEnd h₀ env.locals (J (i + 1)) (own.filter fun p => decide (p.1 = s.heap.objs.size)) { s with heap := hh', toks := tk' } s₂ →
        LoopStepU h₀ env.locals [s.heap.objs.size] own (J (i + 1)) { s with heap := hh', toks := tk' } .next s₂ := by
      rintro ⟨h', tk, m', news', nx, e, F', N', hn, ho, ha, hm⟩
      refine ⟨rfl, h', tk, m', nx, e, F', fun p hp => ?_, fun p hp hq => ?_, hm⟩
      · rcases List.mem_append.mp hp with h | h
        · by_cases hI : p.1 = s.heap.objs.size
          · exact N' p (ho p (List.mem_filter.mpr ⟨h, by simpa using hI⟩))
          · have h1 : p.1 = l := by
              rcases List.mem_cons.mp (hown p h) with h2 | h2
              · exact absurd h2 hI
              · exact List.mem_singleton.mp h2
            have h2 : hh'.get? p.1 = some p.2 := hget p h
            rw [h1, hlo] at h2
            have h3 : p = (l, listOf vs.toArray nn) := Prod.ext h1 (Option.some.inj h2).symm
            rw [h3]
            exact N' _ (hn _ (hl _ _ _ hm))
        · exact N' p (hn p h)
      · exact ha _ hIf p hp (List.mem_singleton.mp hq).symm
    cases f with
    | ret v => exact .ret p
    | brk => exact .brk p
    | next => exact .next (fin p)
    | cont => exact .cont (fin p)
  · rintro h' tk m' news' F' N' _ hJ
    exact done m' news' h' tk hJ F' N'

/-- a for over a range by ones; the ledger may grow -/
theorem iterGR {r : Addr} {a₀ b₀ : Int} {t₀ u₀ v₀ : Tok} {n : Nat} {m₀ : Str → Option Value} {news : List (Addr × Obj)} (J : Nat → (Str → Option Value) → List (Addr × Obj) → Prop)
    (hh : A.handled = none) (hr : IsRange s.heap r a₀ b₀ 1 t₀ u₀ v₀) (hsmall : Builtin.Range.small a₀ b₀ 1 = true) (hn : Builtin.Range.rangeSize a₀ b₀ 1 = (n : Int)) (F : Fr h₀ env.locals s.heap m₀) (N : News h₀ env.locals s.heap news) (hj : J 0 m₀ news)
    (turn : ∀ i t m₁ nx h tk own, i < n → TbOff own nx → J i m₁ nx → Fr h₀ env.locals h (fun y => if y = x then some (.int (a₀ + (i : Int)) t) else m₁ y) → News h₀ env.locals h (nx ++ own) →
      wpAny (model prog w) A (execs body env) (TbPost h₀ env.locals (J (i + 1)) own { s with heap := h, toks := tk } Q) E { s with heap := h, toks := tk })
    (done : ∀ m₁ nx h tk, J n m₁ nx → Fr h₀ env.locals h m₁ → News h₀ env.locals h nx → Q .next { s with heap := h, toks := tk }) :
    wpAny (model prog w) A (pyIter (.ref r)) (fun it s₂ => LoopAtV prog w A h₀ env x body Q E it s₂) E s := by
  refine wpAny_pyIter_range hr hsmall ?_
  have W : Walks prog w A s.heap.objs.size [s.heap.objs.size] [s.heap.objs.size] n (fun i v => i < n ∧ ∃ t, v = .int (a₀ + i * 1) t)
      (fun i h => IsRangeIter h s.heap.objs.size (a₀ + (i : Nat) * 1) ((n : Int) - (i : Nat)) 1) := (Walks.range hh _ a₀ 1 n).bound
  refine ⟨_, _, _, n, _, _, m₀, news, J, rfl, W, ?_, ?_, ?_, (by show IsRangeIter _ _ _ _ _; rw [hn]; simpa using Heap.get?_push_size _ rfl), F.push _, (fun p hp => ⟨Heap.get?_push_of_some _ (N p hp).1, (N p hp).2⟩), hj, ?_, ?_⟩
  · intro hm
    exact absurd F.ns.lt ((List.mem_singleton.mp hm) ▸ Nat.lt_irrefl _)
  · intro b hb
    rw [List.mem_singleton.mp hb]
    exact next_is_new F
  · intro p hp hI
    exact absurd (Heap.lt_size (N p hp).1) ((List.mem_singleton.mp hI) ▸ Nat.lt_irrefl _)
  · rintro i v m₁ news₁ s₁ own ⟨hh', tk', rfl⟩ hin hP hJ hoff hown hget hmem hst F₁ N₁
    obtain ⟨_, t, rfl⟩ := hP
    have e1 : a₀ + (i : Int) * 1 = a₀ + (i : Int) := by omega
    rw [e1] at F₁
    have hI : (s.heap.objs.size, _) ∈ own := hmem _ (.head _) (next_is_new F) _ hst
    have hsep : TbOff own news₁ := by
      intro p hp q hq e
      have h1 := List.mem_singleton.mp (hown p hp)
      exact hoff q hq (List.mem_singleton.mpr (by rw [← e, h1]))
    have N₂ : News h₀ env.locals hh' (news₁ ++ own) := fun p hp => N₁ p ((List.mem_append.mp hp).elim (fun h => List.mem_append.mpr (.inr h)) fun h => List.mem_append.mpr (.inl h))
    refine wpAny_mono (turn i t m₁ news₁ hh' tk' _ hin hsep hJ F₁ N₂) (fun f s₂ p => ?_) fun _ _ e => e
    have fin : TbEnd h₀ env.locals (J (i + 1)) own { s with heap := hh', toks := tk' } s₂ →
        LoopStepU h₀ env.locals [s.heap.objs.size] own (J (i + 1)) { s with heap := hh', toks := tk' } .next s₂ := by
      rintro ⟨h', tk, m', news', nx, e, F', N', hn, ho, ha, hm⟩
      exact ⟨rfl, h', tk, m', nx, e, F', fun p hp => N' p ((List.mem_append.mp hp).elim (ho p) (hn p)), fun p hp hq => ha _ hI p hp (List.mem_singleton.mp hq).symm, hm⟩
    cases f with
    | ret v => exact .ret p
    | brk => exact .brk p
    | next => exact .next (fin p)
    | cont => exact .cont (fin p)
  · rintro h' tk m' news' F' N' _ hJ
    exact done m' news' h' tk hJ F' N'

/-- the loop's state: c says the ledger and the kept names -/
def GS {σ : Type} (Led : σ → List (Addr × Obj)) (ps : σ → List (Str × Value)) (x : Str) (stored : List Str) (m₀ : Str → Option Value) (P : Nat → σ → Prop) (i : Nat) (m : Str → Option Value) (nx : List (Addr × Obj)) : Prop :=
  ∃ c : σ, nx = Led c ∧ (∀ p ∈ ps c, m p.1 = some p.2) ∧ (∀ z, z ≠ x → (∀ p ∈ ps c, z ≠ p.1) → stored.contains z = false → m z = m₀ z) ∧ P i c

theorem forGL {σ : Type} {l : Addr} {vs : List Value} {nn : Nat} {m₀ : Str → Option Value} (Led : σ → List (Addr × Obj)) (ps : σ → List (Str × Value)) (stored : List Str) (P : Nat → σ → Prop) (c₀ : σ)
    (hh : A.handled = none) (hl : ∀ i c, P i c → (l, listOf vs.toArray nn) ∈ Led c) (F : Fr h₀ env.locals s.heap m₀) (N : News h₀ env.locals s.heap (Led c₀)) (hk : ∀ p ∈ ps c₀, m₀ p.1 = some p.2) (hp : P 0 c₀)
    (turn : ∀ (c : σ) i v (u : Str → Option Value) h tk own, vs[i]? = some v → TbOff own (Led c) → P i c →
      Fr h₀ env.locals h (fun y => if y = x then some v else kstB (fun z => if stored.contains z then u z else m₀ z) (ps c) y) → News h₀ env.locals h (Led c ++ own) →
      wpAny (model prog w) A (execs body env) (TbPost h₀ env.locals (GS Led ps x stored m₀ P (i + 1)) own { s with heap := h, toks := tk } Q) E { s with heap := h, toks := tk })
    (done : ∀ (c : σ) (u : Str → Option Value) h tk, P vs.length c → Fr h₀ env.locals h (fun y => if y = x then u y else kstB (fun z => if stored.contains z then u z else m₀ z) (ps c) y) → News h₀ env.locals h (Led c) → Q .next { s with heap := h, toks := tk }) :
    wpAny (model prog w) A (pyIter (.ref l)) (fun it s₂ => LoopAtV prog w A h₀ env x body Q E it s₂) E s := by
  refine iterGL (fun i m nx => GS Led ps x stored m₀ P i m nx) hh (fun i m nx ⟨c, e, _, _, h⟩ => e ▸ hl i c h) F N ⟨c₀, rfl, hk, fun _ _ _ _ => rfl, hp⟩ ?_ ?_
  · rintro i v m₁ nx h tk own hv hoff ⟨c, rfl, h1, h2, hp'⟩ F₁ N₁
    exact turn c i v m₁ h tk own hv hoff hp' (kst_fr h1 h2 F₁) N₁
  · rintro m₁ nx h tk ⟨c, rfl, h1, h2, hp'⟩ F₁ N₁
    exact done c m₁ h tk hp' (kst_frOut h1 h2 F₁) N₁

theorem forGR {σ : Type} {r : Addr} {a₀ b₀ : Int} {t₀ u₀ v₀ : Tok} {n : Nat} {m₀ : Str → Option Value} (Led : σ → List (Addr × Obj)) (ps : σ → List (Str × Value)) (stored : List Str) (P : Nat → σ → Prop) (c₀ : σ)
    (hh : A.handled = none) (hr : IsRange s.heap r a₀ b₀ 1 t₀ u₀ v₀) (hsmall : Builtin.Range.small a₀ b₀ 1 = true) (hn : Builtin.Range.rangeSize a₀ b₀ 1 = (n : Int)) (F : Fr h₀ env.locals s.heap m₀) (N : News h₀ env.locals s.heap (Led c₀)) (hk : ∀ p ∈ ps c₀, m₀ p.1 = some p.2) (hp : P 0 c₀)
    (turn : ∀ (c : σ) i t (u : Str → Option Value) h tk own, i < n → TbOff own (Led c) → P i c →
      Fr h₀ env.locals h (fun y => if y = x then some (.int (a₀ + (i : Int)) t) else kstB (fun z => if stored.contains z then u z else m₀ z) (ps c) y) → News h₀ env.locals h (Led c ++ own) →
      wpAny (model prog w) A (execs body env) (TbPost h₀ env.locals (GS Led ps x stored m₀ P (i + 1)) own { s with heap := h, toks := tk } Q) E { s with heap := h, toks := tk })
    (done : ∀ (c : σ) (u : Str → Option Value) h tk, P n c → Fr h₀ env.locals h (fun y => if y = x then u y else kstB (fun z => if stored.contains z then u z else m₀ z) (ps c) y) → News h₀ env.locals h (Led c) → Q .next { s with heap := h, toks := tk }) :
    wpAny (model prog w) A (pyIter (.ref r)) (fun it s₂ => LoopAtV prog w A h₀ env x body Q E it s₂) E s := by
  refine iterGR (fun i m nx => GS Led ps x stored m₀ P i m nx) hh hr hsmall hn F N ⟨c₀, rfl, hk, fun _ _ _ _ => rfl, hp⟩ ?_ ?_
  · rintro i t m₁ nx h tk own hv hoff ⟨c, rfl, h1, h2, hp'⟩ F₁ N₁
    exact turn c i t m₁ h tk own hv hoff hp' (kst_fr h1 h2 F₁) N₁
  · rintro m₁ nx h tk ⟨c, rfl, h1, h2, hp'⟩ F₁ N₁
    exact done c m₁ h tk hp' (kst_frOut h1 h2 F₁) N₁

theorem gs_end {σ : Type} {Led : σ → List (Addr × Obj)} {ps : σ → List (Str × Value)} {stored : List Str} {m₀ : Str → Option Value} {P : Nat → σ → Prop} {i : Nat} {x : Str} (c : σ) {L : Addr} {m' : Str → Option Value} {own news' : List (Addr × Obj)} {s₁ : Shared} {h' : Heap} {tk : Nat}
    (F : Fr h₀ L h' m') (N : News h₀ L h' news') (hn : ∀ p ∈ Led c, p ∈ news') (ho : ∀ p ∈ own, p ∈ news') (ha : TbOff own (Led c)) (hk : ∀ p ∈ ps c, m' p.1 = some p.2) (hr : ∀ z, z ≠ x → (∀ p ∈ ps c, z ≠ p.1) → stored.contains z = false → m' z = m₀ z) (hp : P i c) :
    TbEnd h₀ L (GS Led ps x stored m₀ P i) own s₁ { s₁ with heap := h', toks := tk } := ⟨h', tk, m', news', Led c, rfl, F, N, hn, ho, ha, c, rfl, hk, hr, hp⟩
end

theorem fmodLt (x : Int) (k : Nat) : ∃ f : Nat, x.fmod ((k : Int) + 1) = (f : Int) ∧ f ≤ k := by
  have h1 := Int.emod_nonneg x (b := (k : Int) + 1) (by omega)
  have h2 := Int.emod_lt_of_pos x (b := (k : Int) + 1) (by omega)
  rw [Int.fmod_eq_emod_of_nonneg _ (by omega)]
  exact ⟨(x % ((k : Int) + 1)).toNat, by omega, by omega⟩
theorem fmodLt2 (x : Int) (k f : Nat) (h : f ≤ k) : ∃ g : Nat, (f : Int) + x.fmod ((k : Int) + 1 - (f : Int)) = (g : Int) ∧ f ≤ g ∧ g ≤ k := by
  obtain ⟨e, he, hl⟩ := fmodLt x (k - f)
  have : ((k - f : Nat) : Int) + 1 = (k : Int) + 1 - (f : Int) := by omega
  rw [this] at he
  exact ⟨f + e, by rw [he]; omega, by omega, by omega⟩
theorem fmod32 (x : Int) : ∃ f : Nat, x.fmod 32 = (f : Int) ∧ f < 32 := by
  obtain ⟨e, he, hl⟩ := fmodLt x 31
  exact ⟨e, he, by omega⟩
abbrev natsI (xs : List Nat) : List Int := xs.map Int.ofNat
/-- at address l there lies, in the ledger, a list of the numbers xs -/
def NatsAt (news : List (Addr × Obj)) (l : Addr) (xs : List Nat) : Prop := ∃ us nn, (l, listOf us.toArray nn) ∈ news ∧ IntsAre us (natsI xs)
theorem NatsAt.mono {news news' : List (Addr × Obj)} {l : Addr} {xs : List Nat} (h : NatsAt news l xs) (hs : ∀ p ∈ news, p ∈ news') : NatsAt news' l xs :=
  let ⟨us, nn, h1, h2⟩ := h
  ⟨us, nn, hs _ h1, h2⟩
section
open PySem.Spec PySem.Calls
variable {prog : Program} {w : World} {A : Around} {E : Value → Shared → Prop} {s : Shared} {h₀ : Heap} {L D : Addr} {m : Str → Option Value} {news news' : List (Addr × Obj)}
theorem len_my {us : List Value} {ns : List Int} {c : Nat} {Q : Value → Shared → Prop} (N : News h₀ L s.heap news) (hm : (D, listOf us.toArray c) ∈ news) (hi : IntsAre us ns) (hf : ns.length < 2 ^ 62)
    (h : Q (.int (ns.length : Nat) (s.toks + 1)) { s with toks := s.toks + 1 + 1 }) : wpAny (model prog w) A (call (.builtin "len") [.ref D]) Q E s :=
  KM.len_K N hm (by simp [hi.length]) hf h
theorem append_my {us : List Value} {ns : List Int} {n : Nat} {x : Value} {Q : Value → Shared → Prop} (F : Fr h₀ L s.heap m) (N : News h₀ L s.heap news) (U : Upd D (listOf us.toArray n) (listOf (us ++ [x]).toArray (n + 1)) news news')
    (hi : IntsAre us ns) (hf : ns.length ≤ 1000)
    (h : ∀ h', Fr h₀ L h' m → News h₀ L h' news' → Q .none { s with heap := h' }) : wpAny (model prog w) A (call (.builtin "list.append") [.ref D, x]) Q E s := by
  have e : us.toArray.push x = (us ++ [x]).toArray := by simp
  refine append_K (x := x) F N (e ▸ U) h ?_
  rw [List.size_toArray, hi.length, sizeLine_eq]; omega

theorem slice_my {value slice : PySem.Expr} {us : List Value} {ns ms : List Int} {nn : Nat} {vl vu : Value} {lo hi : Option Int} {Q : Value → Shared → Prop} (F : Fr h₀ L s.heap m) (N : News h₀ L s.heap news) (hm : (D, listOf us.toArray nn) ∈ news) (hi' : IntsAre us ns) (hb : ns.length ≤ 1000) (pl : IsPart vl lo) (pu : IsPart vu hi) (hp : IntsAre (slicePick us.toArray lo hi none).toList ms)
    (h : ∀ D' ws h', Fr h₀ L h' m → News h₀ L h' ((D', listOf (List.toArray ws) 0) :: news) → (∀ p ∈ news, p.1 < D') → IntsAre ws ms → Q (.ref D') { s with heap := h' })
    (hs : subscripted slice false (.ref D) (.ref s.heap.objs.size) = operate [.ref s.heap.objs.size, .ref D] (getItem (.ref D) (.ref s.heap.objs.size))) (ht : ∀ r, letTemporaryGo value (.ref D) r = pure ()) :
    wpAny (model prog w) A (subscriptTail value slice (.ref D) (.ref s.heap.objs.size)) Q E { s with heap := s.heap.push { cls := .type "slice", data := .fields #[vl, vu, .none] } } :=
  kmk_slice_ints F N (News.isList N hm) pl pu hi' hp rfl (fun D' ws h' F' N' l1 hI _ _ => h D' ws h' F' N' l1 hI) hs ht (kmk_sz hi' (by rw [sizeLine_eq]; omega))
theorem intsAre_getD {us : List Value} {ns : List Int} (h : IntsAre us ns) {k : Nat} (hk : k < ns.length) : ∃ t, us[k]? = some (.int (ns.getD k 0) t) := by
  obtain ⟨t, e⟩ := h.get k ns[k] (by simp [hk])
  exact ⟨t, by rw [e, List.getD_eq_getElem?_getD, List.getElem?_eq_getElem hk]; rfl⟩
theorem natsAre_getD {us : List Value} {xs : List Nat} (h : IntsAre us (natsI xs)) {k : Nat} (hk : k < xs.length) : ∃ t, us[k]? = some (.int ((xs.getD k 0 : Nat) : Int) t) := by
  obtain ⟨t, e⟩ := intsAre_getD h (k := k) (by simpa [natsI] using hk)
  refine ⟨t, e.trans ?_⟩
  congr 2
  simp [natsI, List.getD_eq_getElem?_getD, List.getElem?_map, List.getElem?_eq_getElem hk]
theorem item_my {value slice : PySem.Expr} {us : List Value} {xs : List Nat} {nn : Nat} {k : Int} {j : Nat} {u : Tok} {Q : Value → Shared → Prop} (N : News h₀ L s.heap news) (hm : (D, listOf us.toArray nn) ∈ news) (hi : IntsAre us (natsI xs)) (hj : k = ((j : Nat) : Int)) (hk : j < xs.length) (hb : xs.length ≤ 1000)
    (h : ∀ t, Q (.int ((xs.getD j 0 : Nat) : Int) t) s)
    (hs : subscripted slice false (.ref D) (.int k u) = operate [.ref D, .int k u] (getItem (.ref D) (.int k u)) := by with_unfolding_all rfl) :
    wpAny (model prog w) A (subscriptTail value slice (.ref D) (.int k u)) Q E s := by
  subst hj
  obtain ⟨t, e⟩ := natsAre_getD hi hk
  exact item_litK (News.isList N hm) (by omega) (by omega) (by simpa using e) (h t) hs
end
section
open PySem.Spec PySem.Calls
structure LD where
  l : Addr
  vs : List Value
  ns : List Int
  n : Nat
def gen5 (t : Nat) : Nat → Nat
  | 0 => if t.testBit 0 then 996825010 else 0
  | 1 => if t.testBit 1 then 642813549 else 0
  | 2 => if t.testBit 2 then 513874426 else 0
  | 3 => if t.testBit 3 then 1027748829 else 0
  | 4 => if t.testBit 4 then 705979059 else 0
  | _ => 0
def polyStep (c v : Nat) : Nat := [0,1,2,3,4].foldl (fun a k => a ^^^ gen5 (c >>> 25) k) (((c &&& 33554431) <<< 5) ^^^ v)
def polyN (ns : List Nat) : Nat := ns.foldl polyStep 1
abbrev cPoly : ToldN LD where
  Rel := fun news vs d => vs = [.ref d.l] ∧ (d.l, listOf d.vs.toArray d.n) ∈ news ∧ IntsAre d.vs d.ns
  Ok := fun d => (∀ x ∈ d.ns, 0 ≤ x ∧ x < 32) ∧ d.ns.length < 1000
  size := fun _ => 1
  Tl := fun tl => tl = []
  Out := fun _ r d => ∃ t, r = .int (polyN (d.ns.map Int.toNat)) t
theorem and_bound (c : Nat) : (Builtin.bitAnd (c : Int) 33554431).natAbs < 2 ^ 64 := by
  have h := andN c 33554431
  have h2 : ((33554431 : Nat) : Int) = 33554431 := rfl
  rw [h2] at h
  rw [h]
  have := @Nat.and_le_right c 33554431
  simp only [Int.natAbs_natCast]
  omega

def gI (T : Int) (a k : Int) : Int := if Builtin.bitAnd (T.fdiv (2 ^ k.toNat)) 1 ≠ 0 then Builtin.bitXor a ([996825010, 642813549, 513874426, 1027748829, 705979059].getD k.toNat 0) else Builtin.bitXor a 0

theorem gI_nat (T a k : Nat) (hk : k < 5) : gI (T : Int) (a : Int) (k : Int) = ((a ^^^ gen5 T k : Nat) : Int) := by
  have hz : ((0 : Nat) : Int) = 0 := rfl
  have ho : ((1 : Nat) : Int) = 1 := rfl
  unfold gI
  rw [Int.toNat_natCast, shrN, ← ho, andN, ← hz, xorN, Nat.xor_zero]
  have ht : (((T >>> k &&& 1 : Nat) : Int) ≠ ((0 : Nat) : Int)) ↔ T.testBit k = true := by
    unfold Nat.testBit
    rw [Nat.and_comm]
    simp only [bne_iff_ne, ne_eq, Int.natCast_inj, Nat.and_comm]
  by_cases hb : T.testBit k = true
  · rw [if_pos (ht.mpr hb)]
    rcases k with _ | _ | _ | _ | _ | k
    · simp only [gen5, hb, if_true]; exact xorN a 996825010
    · simp only [gen5, hb, if_true]; exact xorN a 642813549
    · simp only [gen5, hb, if_true]; exact xorN a 513874426
    · simp only [gen5, hb, if_true]; exact xorN a 1027748829
    · simp only [gen5, hb, if_true]; exact xorN a 705979059
    · omega
  · rw [if_neg (fun q => hb (ht.mp q))]
    rcases k with _ | _ | _ | _ | _ | k
    all_goals first | omega | simp [gen5, hb]
theorem gI_fold (c v : Nat) : (rangeKs 0 5).foldl (gI ((c : Int).fdiv (2 ^ Int.toNat 25))) (Builtin.bitXor (Builtin.bitAnd c 33554431 * 2 ^ Int.toNat 5) v) = ((polyStep c v : Nat) : Int) := by
  have h1 : Builtin.bitAnd (c : Int) 33554431 = ((c &&& 33554431 : Nat) : Int) := andN c 33554431
  rw [h1, shlN, xorN, shrN]
  have hr : rangeKs 0 5 = [((0 : Nat) : Int), ((1 : Nat) : Int), ((2 : Nat) : Int), ((3 : Nat) : Int), ((4 : Nat) : Int)] := by decide
  rw [hr]
  simp only [List.foldl_cons, List.foldl_nil]
  rw [gI_nat _ _ 0 (by decide), gI_nat _ _ 1 (by decide), gI_nat _ _ 2 (by decide), gI_nat _ _ 3 (by decide), gI_nat _ _ 4 (by decide)]
  rfl
theorem fdivN (n : Nat) : ((n : Nat) : Int).fdiv 32 = ((n / 32 : Nat) : Int) := by
  rw [Int.fdiv_eq_ediv_of_nonneg _ (by decide)]; omega
structure DigC where
  num : Nat
  tk : Nat
  us : List Value
  nn : Nat
  xs : List Nat
def LastNats (all : List (Addr × Obj)) (r : Value) (R : List Nat → Prop) : Prop := ∃ l us nn xs, r = .ref l ∧ all.getLast? = some (l, listOf us.toArray nn) ∧ IntsAre us (natsI xs) ∧ R xs
theorem last_ret {h₀ h : Heap} {L : Addr} {news tl : List (Addr × Obj)} {r : Value} {R : List Nat → Prop} (N : News h₀ L h (news ++ tl)) (ho : ∀ q ∈ news, ∀ p ∈ tl, q.1 < p.1) (ht : ∃ q, tl = [q]) (hl : LastNats (news ++ tl) r R) :
    ∃ l us nn xs, r = .ref l ∧ News h₀ L h ((l, listOf us.toArray nn) :: news) ∧ (∀ p ∈ news, p.1 < l) ∧ IntsAre us (natsI xs) ∧ R xs := by
  obtain ⟨q, rfl⟩ := ht
  obtain ⟨l, us, nn, xs, rfl, e, hI, hR⟩ := hl
  rw [List.getLast?_concat] at e
  cases e
  refine ⟨l, us, nn, xs, rfl, fun p hp => N p ?_, fun p hp => ho p hp _ (.head _), hI, hR⟩
  rcases List.mem_cons.mp hp with rfl | hp
  · exact List.mem_append_right _ (.head _)
  · exact List.mem_append_left _ hp
abbrev cDig : ToldN (Int × Int) where
  Rel := fun _ vs d => ∃ t0 t1 t2, vs = [.int d.1 t0, .int 32 t1, .int d.2 t2]
  Ok := fun d => 1 ≤ d.2 ∧ d.2 ≤ 64
  size := fun _ => 1
  Tl := fun tl => ∃ q, tl = [q]
  Out := fun news r d => LastNats news r (fun xs => (∀ x ∈ xs, x < 32) ∧ 1 ≤ xs.length ∧ (xs.length : Int) ≤ d.2)

theorem fmodN (n : Nat) : ((n : Nat) : Int).fmod 32 = ((n % 32 : Nat) : Int) := by
  rw [Int.fmod_eq_emod_of_nonneg _ (by decide)]; omega
def byStep (p : Nat × List Nat) : Nat × List Nat := ((p.1 * 2) ^^^ (if p.1 > 15 then 41 else 0), p.2 ++ p.2.map (· ^^^ p.1))
def byIt (num : Nat) : Nat → Nat × List Nat
  | 0 => (num, [0])
  | i + 1 => byStep (byIt num i)
def byTab (num : Nat) : List Nat := (byIt num 5).2
theorem byIt_len (n : Nat) : ∀ i, (byIt n i).2.length = 2 ^ i
  | 0 => rfl
  | i + 1 => by
    show ((byIt n i).2 ++ (byIt n i).2.map _).length = _
    rw [List.length_append, List.length_map, byIt_len n i, Nat.pow_succ]; omega
theorem natsI_xor (xs : List Nat) (p : Nat) : (natsI xs).map (fun k => Builtin.bitXor k (p : Int)) = natsI (xs.map (· ^^^ p)) := by
  simp only [natsI, List.map_map]
  refine List.map_congr_left fun x _ => ?_
  exact xorN x p
theorem byVal_a {n i : Nat} (h : (15 : Int) < ((byIt n i).1 : Nat)) : Builtin.bitXor (((byIt n i).1 : Nat) * 2 : Int) 41 = (((byIt n (i + 1)).1 : Nat) : Int) := by
  show _ = (((byIt n i).1 * 2 ^^^ (if (byIt n i).1 > 15 then 41 else 0) : Nat) : Int)
  rw [if_pos (by omega)]
  exact xorN ((byIt n i).1 * 2) 41
theorem byVal_b {n i : Nat} (h : ¬ (15 : Int) < ((byIt n i).1 : Nat)) : Builtin.bitXor (((byIt n i).1 : Nat) * 2 : Int) 0 = (((byIt n (i + 1)).1 : Nat) : Int) := by
  show _ = (((byIt n i).1 * 2 ^^^ (if (byIt n i).1 > 15 then 41 else 0) : Nat) : Int)
  rw [if_neg (by omega)]
  exact xorN ((byIt n i).1 * 2) 0
structure ByC where
  i : Nat
  tk : Nat
  us : List Value
  nn : Nat
  tab : Addr
  cell : Obj
abbrev cBy : ToldN Nat where
  Rel := fun _ vs d => ∃ t0, vs = [.int d t0]
  Ok := fun d => d < 32
  size := fun _ => 1
  Tl := fun tl => ∃ q, tl = [q]
  Out := fun news r d => LastNats news r (fun xs => xs = byTab d)

def tab (n k : Nat) : Nat := (byTab n).getD k 0
structure St where
  u : Nat
  v : Nat
  w : Nat
  x : Nat
  y : Nat
  z : Nat
def St.list (s : St) : List Nat := [s.u, s.v, s.w, s.x, s.y, s.z]
def St.Ok (s : St) : Prop := s.u < 32 ∧ s.v < 32 ∧ s.w < 32 ∧ s.x < 32 ∧ s.y < 32 ∧ s.z < 32
def runStep (s : St) (a : Nat) : St := ⟨tab 29 s.u ^^^ s.v, tab 22 s.u ^^^ s.w, tab 20 s.u ^^^ s.x, tab 21 s.u ^^^ s.y, tab 29 s.u ^^^ s.z, tab 18 s.u ^^^ a⟩
def run (s : St) (vals : List Nat) : St := vals.foldl runStep s
def TabsAt (news : List (Addr × Obj)) (lt : Addr) : Prop := ∃ a1 a2 a3 a4 a5 nn, (lt, listOf #[.ref a1, .ref a2, .ref a3, .ref a4, .ref a5] nn) ∈ news ∧ NatsAt news a1 (byTab 29) ∧ NatsAt news a2 (byTab 22) ∧ NatsAt news a3 (byTab 20) ∧ NatsAt news a4 (byTab 21) ∧ NatsAt news a5 (byTab 18)
structure RunD where
  ls : Addr
  lv : Addr
  lt : Addr
  st : St
  vals : List Nat
abbrev cRun : ToldN RunD where
  Rel := fun news vs d => vs = [.ref d.ls, .ref d.lv, .ref d.lt] ∧ NatsAt news d.ls d.st.list ∧ NatsAt news d.lv d.vals ∧ TabsAt news d.lt
  Ok := fun d => d.st.Ok ∧ (∀ x ∈ d.vals, x < 32) ∧ d.vals.length ≤ 1000
  size := fun _ => 1
  Tl := fun tl => ∃ q, tl = [q]
  Out := fun news r d => LastNats news r (fun xs => xs = (run d.st d.vals).list)

theorem natsI_toNat (xs : List Nat) : (natsI xs).map Int.toNat = xs := by
  simp only [natsI, List.map_map]
  have : (Int.toNat ∘ Int.ofNat) = id := rfl
  rw [this, List.map_id]
theorem tab_lt29 : ∀ k, k < 32 → tab 29 k < 32 := by decide +kernel
theorem tab_lt22 : ∀ k, k < 32 → tab 22 k < 32 := by decide +kernel
theorem tab_lt20 : ∀ k, k < 32 → tab 20 k < 32 := by decide +kernel
theorem tab_lt21 : ∀ k, k < 32 → tab 21 k < 32 := by decide +kernel
theorem tab_lt18 : ∀ k, k < 32 → tab 18 k < 32 := by decide +kernel
theorem valN {a b : Nat} {t : Tok} : some (Value.int (Builtin.bitXor (a : Int) (b : Int)) t) = some (Value.int ((a ^^^ b : Nat) : Int) t) := by rw [xorN]
structure RunC where
  st : St
  t1 : Nat
  t2 : Nat
  t3 : Nat
  t4 : Nat
  t5 : Nat
  t6 : Nat
theorem byTab_len (n : Nat) : (byTab n).length = 32 := byIt_len n 5
def AtTells (prog : Program) (w : World) (K : Frag) (p : Program) (loose : List Str) (mean : ExcName → Option Value) (mg mb : Str → Option Value) (f : Addr) : Prop :=
  ∀ (dp un : Nat) (gd : Option (List Code)) (cn : Str) (cs : Scope) (a : Addr) (ccd : Value) (cl : List (Str × Addr)) (outer : List Env) (A₀ : Around) (base h₀ : Heap) (L : Addr) (m : Str → Option Value) (news : List (Addr × Obj)) (s : Shared) (l : Addr) (vs : List Value) (ns : List Int) (i : Int) (tk : Tok) (o : Int) (tko : Tok)
    (Q E : Value → Shared → Prop),
    Below A₀ base outer h₀ → Fr h₀ L s.heap m → K.In h₀ → News h₀ L s.heap news → Top p loose mean mg mb h₀ → cs.kind = .function → base.IsList l vs.toArray → IntsAre vs ns → ns.length < 2 ^ 62 → 0 ≤ i → dp + 1 < recursionLimit → un + 8 < cLine →
    (∀ x t h' tk', Fr h₀ L h' m → News h₀ L h' news → Q (.int x t) { s with heap := h', toks := tk' }) →
    wpAny (model prog w) (ktrTop dp un gd cn cs L a ccd cl outer) (call (.ref f) [.ref l, .int i tk, .int o tko]) Q E s


theorem at_use {prog : Program} {w : World} {K : Frag} {p : Program} {loose : List Str} {mean : ExcName → Option Value} {mg mb : Str → Option Value} {f : Addr} {dp un : Nat} {gd : Option (List Code)} {cn : Str} {cs : Scope} {a : Addr} {ccd : Value} {cl : List (Str × Addr)} {outer : List Env} {A₀ : Around} {base h₀ : Heap} {L : Addr} {m : Str → Option Value} {news : List (Addr × Obj)} {s : Shared} {l : Addr} {vs : List Value} {ns : List Int} {i : Int} {tk : Tok} {o : Int} {tko : Tok}
    {Q E : Value → Shared → Prop} (B : Below A₀ base outer h₀) (F : Fr h₀ L s.heap m) (X : K.In h₀) (N : News h₀ L s.heap news) (T : Top p loose mean mg mb h₀) (hk : cs.kind = .function) (hl : base.IsList l vs.toArray) (hi : IntsAre vs ns) (hfit : ns.length < 2 ^ 62) (h0 : 0 ≤ i)
    (C : AtTells prog w K p loose mean mg mb f) (hd : dp + 1 < recursionLimit) (hu : un + 8 < cLine)
    (ret : ∀ x t h' tk', Fr h₀ L h' m → News h₀ L h' news → Q (.int x t) { s with heap := h', toks := tk' }) :
    wpAny (model prog w) (ktrTop dp un gd cn cs L a ccd cl outer) (call (.ref f) [.ref l, .int i tk, .int o tko]) Q E s := C _ _ _ _ _ _ _ _ _ _ _ _ _ _ _ _ _ _ _ _ _ _ _ _ _ B F X N T hk hl hi hfit h0 hd hu ret

section
open LCg
variable {prog : Program} {w : World} {A : Around} {E : Value → Shared → Prop} {s : Shared} {h₀ : Heap} {L : Addr} {m : Str → Option Value} {env : Env} {elt : Expr} {x : Str} {scope : Scope} {cl : List (Str × Addr)} {S : List (Addr × Obj) → Prop} {P : Nat → Value → Prop} {Fin : List Value → List (Addr × Obj) → Prop}
/-- a comprehension's turns by what holds of the list so far and of the ledger -/
theorem compJ {n : Nat} (J : Nat → List Value → List (Addr × Obj) → Prop)
    (turn : ∀ i ys nx v I oI C oC D m₂ h tk (E' : Value → Shared → Prop), i < n → P i v → J i ys nx → NsObj oC m₂ → m₂ x = some v → Fr h₀ L h m → News h₀ L h ((I, oI) :: (C, oC) :: (D, lst ys) :: nx) → Off3 I C D nx → ((@Ne Nat I C) ∧ (@Ne Nat I D) ∧ (@Ne Nat C D)) →
      wpAny (model prog w) A (eval elt (compEnvC scope cl C env)) (CompEnd h₀ L m { s with heap := h, toks := tk } I oI C oC D (lst ys) S (fun y nx' => J (i + 1) (ys ++ [y]) nx')) E' { s with heap := h, toks := tk })
    (fin : ∀ ys nx, J n ys nx → Fin ys nx) : ∀ (k i : Nat) (ys : List Value) (nx : List (Addr × Obj)), i + k = n → J i ys nx → CompRest prog w A h₀ L m env elt x scope cl s S P Fin k i ys nx
  | 0, i, ys, nx, hi, hj => CompRest.zero (fin ys nx (by rw [← hi]; exact hj))
  | k + 1, i, ys, nx, hi, hj => by
    refine CompRest.succ ?_
    intro v I oI C oC D m₂ h tk E' hv hC hx F N off ne
    refine wpAny_mono (turn i ys nx v I oI C oC D m₂ h tk E' (by omega) hv hj hC hx F N off ne) (fun y s₂ hq => ?_) fun _ _ e => e
    obtain ⟨h', tk', nx', e, F', N', off', hS, hJ⟩ := hq
    exact ⟨h', tk', nx', e, F', N', off', hS, compJ J turn fin k (i + 1) _ nx' (by omega) hJ⟩
end

theorem compEnd_new {h₀ : Heap} {L I C D l : Addr} {m : Str → Option Value} {s₁ : Shared} {oI oC oD o : Obj} {S : List (Addr × Obj) → Prop} {rest : Value → List (Addr × Obj) → Prop} {y : Value} {h' : Heap} {tk : Nat} {led : List (Addr × Obj)}
    (F : Fr h₀ L h' m) (N : News h₀ L h' ((l, o) :: (I, oI) :: (C, oC) :: (D, oD) :: led)) (hlt : ∀ p ∈ (I, oI) :: (C, oC) :: (D, oD) :: led, p.1 < l) (off : LCg.Off3 I C D led) (hS : S ((l, o) :: led)) (r : rest y ((l, o) :: led)) :
    LCg.CompEnd h₀ L m s₁ I oI C oC D oD S rest y { s₁ with heap := h', toks := tk } := by
  refine LCg.CompEnd.intro F N ((l, o) :: led) ?_ ?_ hS r
  · intro p hp
    rcases List.mem_cons.mp hp with rfl | hp
    · exact .tail _ (.head _)
    rcases List.mem_cons.mp hp with rfl | hp
    · exact .tail _ (.tail _ (.head _))
    rcases List.mem_cons.mp hp with rfl | hp
    · exact .tail _ (.tail _ (.tail _ (.head _)))
    rcases List.mem_cons.mp hp with rfl | hp
    · exact .head _
    · exact .tail _ (.tail _ (.tail _ (.tail _ hp)))
  · exact ⟨⟨Ne.symm (Nat.ne_of_lt (hlt _ (.head _))), Ne.symm (Nat.ne_of_lt (hlt _ (.tail _ (.head _)))), Ne.symm (Nat.ne_of_lt (hlt _ (.tail _ (.tail _ (.head _)))))⟩, off⟩

def St.minus1 (s : St) : St := ⟨s.u, s.v, s.w, s.x, s.y, s.z ^^^ 1⟩
def digs (t : Nat) : St := ⟨t / 32 ^ 5 % 32, t / 32 ^ 4 % 32, t / 32 ^ 3 % 32, t / 32 ^ 2 % 32, t / 32 ^ 1 % 32, t / 32 ^ 0 % 32⟩
def St.xor (a b : St) : St := ⟨a.u ^^^ b.u, a.v ^^^ b.v, a.w ^^^ b.w, a.x ^^^ b.x, a.y ^^^ b.y, a.z ^^^ b.z⟩
def pieceStep (s : St) (p : List Nat) : St := (run s.minus1 (List.replicate p.length 0)).xor (digs (polyN p))
theorem gen5_lt (t k : Nat) : gen5 t k < 2 ^ 30 := by
  rcases k with _ | _ | _ | _ | _ | k <;> simp only [gen5] <;> first | (split <;> decide) | decide
theorem polyStep_lt (c v : Nat) (hv : v < 32) : polyStep c v < 2 ^ 30 := by
  have h1 : (c &&& 33554431) <<< 5 < 2 ^ 30 := by
    have h2 : c &&& 33554431 ≤ 33554431 := Nat.and_le_right
    rw [Nat.shiftLeft_eq]; omega
  have h0 : ((c &&& 33554431) <<< 5) ^^^ v < 2 ^ 30 := Nat.xor_lt_two_pow h1 (by omega)
  unfold polyStep
  simp only [List.foldl_cons, List.foldl_nil]
  exact Nat.xor_lt_two_pow (Nat.xor_lt_two_pow (Nat.xor_lt_two_pow (Nat.xor_lt_two_pow (Nat.xor_lt_two_pow h0 (gen5_lt _ _)) (gen5_lt _ _)) (gen5_lt _ _)) (gen5_lt _ _)) (gen5_lt _ _)
theorem polyFold_lt : ∀ (vs : List Nat) (c : Nat), c < 2 ^ 30 → (∀ x ∈ vs, x < 32) → vs.foldl polyStep c < 2 ^ 30
  | [], _, h, _ => h
  | v :: r, c, _, hx => polyFold_lt r _ (polyStep_lt c v (hx v (.head _))) fun x h => hx x (.tail _ h)
theorem polyN_lt (vs : List Nat) (hx : ∀ x ∈ vs, x < 32) : polyN vs < 2 ^ 30 := polyFold_lt vs 1 (by decide) hx
theorem digs_ok (t : Nat) : (digs t).Ok := ⟨Nat.mod_lt _ (by decide), Nat.mod_lt _ (by decide), Nat.mod_lt _ (by decide), Nat.mod_lt _ (by decide), Nat.mod_lt _ (by decide), Nat.mod_lt _ (by decide)⟩
theorem xor_ok {a b : St} (ha : a.Ok) (hb : b.Ok) : (a.xor b).Ok := by
  obtain ⟨h1, h2, h3, h4, h5, h6⟩ := ha
  obtain ⟨k1, k2, k3, k4, k5, k6⟩ := hb
  exact ⟨Nat.xor_lt_two_pow (n := 5) h1 k1, Nat.xor_lt_two_pow (n := 5) h2 k2, Nat.xor_lt_two_pow (n := 5) h3 k3, Nat.xor_lt_two_pow (n := 5) h4 k4, Nat.xor_lt_two_pow (n := 5) h5 k5, Nat.xor_lt_two_pow (n := 5) h6 k6⟩
theorem minus1_ok {a : St} (ha : a.Ok) : a.minus1.Ok := by
  obtain ⟨h1, h2, h3, h4, h5, h6⟩ := ha
  exact ⟨h1, h2, h3, h4, h5, Nat.xor_lt_two_pow (n := 5) h6 (by decide)⟩
theorem runStep_ok {s : St} {a : Nat} (hs : s.Ok) (ha : a < 32) : (runStep s a).Ok := by
  obtain ⟨h1, h2, h3, h4, h5, h6⟩ := hs
  exact ⟨Nat.xor_lt_two_pow (n := 5) (tab_lt29 _ h1) h2, Nat.xor_lt_two_pow (n := 5) (tab_lt22 _ h1) h3, Nat.xor_lt_two_pow (n := 5) (tab_lt20 _ h1) h4, Nat.xor_lt_two_pow (n := 5) (tab_lt21 _ h1) h5, Nat.xor_lt_two_pow (n := 5) (tab_lt29 _ h1) h6, Nat.xor_lt_two_pow (n := 5) (tab_lt18 _ h1) ha⟩
theorem run_ok : ∀ (vs : List Nat) {s : St}, s.Ok → (∀ x ∈ vs, x < 32) → (run s vs).Ok
  | [], _, h, _ => h
  | v :: r, s, h, hx => run_ok r (s := runStep s v) (runStep_ok h (hx v (.head _))) fun x h => hx x (.tail _ h)
theorem natsI_ok {xs : List Nat} (h : ∀ x ∈ xs, x < 32) : ∀ x ∈ natsI xs, 0 ≤ x ∧ x < 32 := by
  intro x hx
  obtain ⟨a, ha, rfl⟩ := List.mem_map.mp hx
  have := h a ha
  exact ⟨Int.natCast_nonneg a, Int.ofNat_lt.mpr this⟩
theorem natsI_take (xs : List Nat) (f : Nat) : List.take ((f : Int)).toNat (natsI xs) = natsI (xs.take f) := by
  simp only [natsI, Int.toNat_natCast, List.map_take]
theorem natsI_drop (xs : List Nat) (f : Nat) : List.drop ((f : Int)).toNat (natsI xs) = natsI (xs.drop f) := by
  simp only [natsI, Int.toNat_natCast, List.map_drop]
theorem natsI_mid (xs : List Nat) (f g : Nat) (hg : g ≤ xs.length) : List.take (min ((g : Int)).toNat (natsI xs).length - ((f : Int)).toNat) (List.drop ((f : Int)).toNat (natsI xs)) = natsI ((xs.drop f).take (g - f)) := by
  simp only [natsI, Int.toNat_natCast, List.map_drop, List.map_take, List.length_map]
  rw [Nat.min_eq_left hg]
abbrev stBody : Stmt → List Stmt
  | .FunctionDef _ _ b _ _ _ _ _ _ _ => b
  | _ => []
abbrev stScope : Stmt → Scope
  | .FunctionDef _ _ _ _ _ _ sc _ _ _ => sc
  | _ => default
abbrev lawSt (p : Program) : Stmt := (p.main.body.getLast?).getD (Stmt.Pass default)
abbrev forBody : Stmt → List Stmt
  | .For _ _ b _ _ => b
  | _ => []
abbrev lawBody (p : Program) : List Stmt := stBody (lawSt p)
abbrev lawEnv (p : Program) (L fa : Addr) (cd : Value) : Env := envOfC "law" (stScope (lawSt p)) L fa cd

section
variable {prog : Program} {w : World} {K : Frag} {p : Program} {loose : List Str} {mean : ExcName → Option Value} {mg mb : Str → Option Value} {f : Addr} {dp un : Nat} {gd : Option (List Code)} {cn : Str} {cs : Scope} {a : Addr} {ccd : Value} {cl : List (Str × Addr)} {outer : List Env} {A₀ : Around} {base h₀ : Heap} {L : Addr} {m : Str → Option Value} {news : List (Addr × Obj)} {s : Shared}
  {Q E : Value → Shared → Prop}
theorem poly_use {l : Addr} {vs : List Value} {n : Nat} {xs : List Nat} (B : Below A₀ base outer h₀) (F : Fr h₀ L s.heap m) (X : K.In h₀) (N : News h₀ L s.heap news) (T : Top p loose mean mg mb h₀) (hk : cs.kind = .function)
    (hm : (l, listOf vs.toArray n) ∈ news) (hi : IntsAre vs (natsI xs)) (hx : ∀ x ∈ xs, x < 32) (hl : xs.length ≤ 900) (C : ∀ d, TellsN prog w K p loose mean mg mb f cPoly d) (hd : dp + 1 < recursionLimit) (hu : un + 8 * 1 < cLine)
    (ret : ∀ t h' tk', Fr h₀ L h' m → News h₀ L h' news → Q (.int (polyN xs : Nat) t) { s with heap := h', toks := tk' }) :
    wpAny (model prog w) (ktrTop dp un gd cn cs L a ccd cl outer) (call (.ref f) [.ref l]) Q E s := by
  refine tellsN_use (c := cPoly) (d := ⟨l, vs, natsI xs, n⟩) B F X N T hk ⟨rfl, hm, hi⟩ (C _) ⟨natsI_ok hx, by simp [natsI]; omega⟩ hd hu ?_
  rintro r tl h' tk' F' N' - rfl ⟨t, rfl⟩
  rw [natsI_toNat]
  exact ret t h' tk' F' (by rw [List.append_nil] at N'; exact N')
theorem list_use {D : Type} {c : ToldN D} {d : D} {vs : List Value} {R : List Nat → Prop} (B : Below A₀ base outer h₀) (F : Fr h₀ L s.heap m) (X : K.In h₀) (N : News h₀ L s.heap news) (T : Top p loose mean mg mb h₀) (hk : cs.kind = .function)
    (hR : c.Rel news vs d) (C : ∀ d, TellsN prog w K p loose mean mg mb f c d) (ok : c.Ok d) (hs : c.size d = 1) (hTl : ∀ tl, c.Tl tl → ∃ q, tl = [q]) (hOut : ∀ all r, c.Out all r d → LastNats all r R) (hd : dp + 1 < recursionLimit) (hu : un + 8 * 1 < cLine)
    (ret : ∀ l us nn xs h' tk', R xs → IntsAre us (natsI xs) → Fr h₀ L h' m → News h₀ L h' ((l, listOf us.toArray nn) :: news) → (∀ q ∈ news, q.1 < l) → Q (.ref l) { s with heap := h', toks := tk' }) :
    wpAny (model prog w) (ktrTop dp un gd cn cs L a ccd cl outer) (call (.ref f) vs) Q E s := by
  refine tellsN_use (c := c) (d := d) B F X N T hk hR (C _) ok (by rw [hs]; exact hd) (by rw [hs]; exact hu) ?_
  intro r tl h' tk' F' N' ho ht hO
  obtain ⟨l, us, nn, xs, rfl, N10, hlt, hI, hRx⟩ := last_ret N' ho (hTl _ ht) (hOut _ _ hO)
  exact ret l us nn xs h' tk' hRx hI F' N10 hlt
theorem run_use {ls lv lt : Addr} {sus vus : List Value} {sn vn : Nat} {st : St} {xs : List Nat} (B : Below A₀ base outer h₀) (F : Fr h₀ L s.heap m) (X : K.In h₀) (N : News h₀ L s.heap news) (T : Top p loose mean mg mb h₀) (hk : cs.kind = .function)
    (hms : (ls, listOf sus.toArray sn) ∈ news) (his : IntsAre sus (natsI st.list)) (hmv : (lv, listOf vus.toArray vn) ∈ news) (hiv : IntsAre vus (natsI xs)) (ht : TabsAt news lt) (hst : st.Ok) (hx : ∀ x ∈ xs, x < 32) (hl : xs.length ≤ 1000) (C : ∀ d, TellsN prog w K p loose mean mg mb f cRun d) (hd : dp + 1 < recursionLimit) (hu : un + 8 * 1 < cLine)
    (ret : ∀ l us nn h' tk', IntsAre us (natsI (run st xs).list) → Fr h₀ L h' m → News h₀ L h' ((l, listOf us.toArray nn) :: news) → (∀ q ∈ news, q.1 < l) → Q (.ref l) { s with heap := h', toks := tk' }) :
    wpAny (model prog w) (ktrTop dp un gd cn cs L a ccd cl outer) (call (.ref f) [.ref ls, .ref lv, .ref lt]) Q E s :=
  list_use (c := cRun) (d := ⟨ls, lv, lt, st, xs⟩) (R := fun ys => ys = (run st xs).list) B F X N T hk ⟨rfl, ⟨_, _, hms, his⟩, ⟨_, _, hmv, hiv⟩, ht⟩ C ⟨hst, hx, hl⟩ rfl (fun _ h => h) (fun _ _ h => h) hd hu (fun l us nn ys h' tk' e hI F' N' hlt => ret l us nn h' tk' (e ▸ hI) F' N' hlt)
theorem dig_use {n most : Int} {t0 t1 t2 : Tok} (B : Below A₀ base outer h₀) (F : Fr h₀ L s.heap m) (X : K.In h₀) (N : News h₀ L s.heap news) (T : Top p loose mean mg mb h₀) (hk : cs.kind = .function)
    (hlo : 1 ≤ most) (hhi : most ≤ 64) (C : ∀ d, TellsN prog w K p loose mean mg mb f cDig d) (hd : dp + 1 < recursionLimit) (hu : un + 8 * 1 < cLine)
    (ret : ∀ l us nn xs h' tk', (∀ x ∈ xs, x < 32) → 1 ≤ xs.length → (xs.length : Int) ≤ most → IntsAre us (natsI xs) → Fr h₀ L h' m → News h₀ L h' ((l, listOf us.toArray nn) :: news) → (∀ q ∈ news, q.1 < l) → Q (.ref l) { s with heap := h', toks := tk' }) :
    wpAny (model prog w) (ktrTop dp un gd cn cs L a ccd cl outer) (call (.ref f) [.int n t0, .int 32 t1, .int most t2]) Q E s :=
  list_use (c := cDig) (d := (n, most)) (R := fun xs => (∀ x ∈ xs, x < 32) ∧ 1 ≤ xs.length ∧ (xs.length : Int) ≤ most) B F X N T hk ⟨_, _, _, rfl⟩ C ⟨hlo, hhi⟩ rfl (fun _ h => h) (fun _ _ h => h) hd hu (fun l us nn xs h' tk' e hI F' N' hlt => ret l us nn xs h' tk' e.1 e.2.1 e.2.2 hI F' N' hlt)
end
theorem TabsAt.mono {news news' : List (Addr × Obj)} {lt : Addr} (h : TabsAt news lt) (hs : ∀ p ∈ news, p ∈ news') : TabsAt news' lt := by
  obtain ⟨a1, a2, a3, a4, a5, nn, h0, h1, h2, h3, h4, h5⟩ := h
  exact ⟨a1, a2, a3, a4, a5, nn, hs _ h0, h1.mono hs, h2.mono hs, h3.mono hs, h4.mono hs, h5.mono hs⟩

theorem minus1_list (s : St) : List.take (Int.toNat 5) (natsI s.list) ++ [Builtin.bitXor ((s.list.getD 5 0 : Nat) : Int) 1] = natsI s.minus1.list := by
  have e : Builtin.bitXor ((s.list.getD 5 0 : Nat) : Int) 1 = ((s.z ^^^ 1 : Nat) : Int) := xorN s.z 1
  rw [e]; rfl
theorem zeros_list (k : Nat) (n : Int) (h : n = (k : Int)) : (List.replicate n.toNat [(0 : Int)]).flatten = natsI (List.replicate k 0) := by
  subst h
  rw [Int.toNat_natCast, List.flatten_replicate_singleton]
  simp [natsI]
theorem zeros_lt (k : Nat) : ∀ x ∈ List.replicate k 0, x < 32 := by
  intro x hx
  rw [List.eq_of_mem_replicate hx]; decide

theorem digv (a t n : Nat) : Builtin.bitXor (a : Int) (((t : Int).fdiv (32 ^ n)).fmod 32) = ((a ^^^ (t / 32 ^ n % 32) : Nat) : Int) := by
  have h1 : (t : Int).fdiv (32 ^ n) = ((t / 32 ^ n : Nat) : Int) := by
    rw [Int.fdiv_eq_ediv_of_nonneg _ (Int.pow_nonneg (by decide))]
    simp
  rw [h1, fmodN, xorN]
theorem intsCons {a b : Int} {t : Tok} {vs : List Value} {ns : List Int} (h : a = b) (r : IntsAre vs ns) : IntsAre (.int a t :: vs) (b :: ns) := h ▸ .cons a t r

theorem off1_mem {D : Addr} : ∀ {l : List (Addr × Obj)}, LCg.Off1 D l → ∀ p ∈ l, p.1 ≠ D
  | [], _, _, h => nomatch h
  | _ :: _, x, p, h => by
    rcases List.mem_cons.mp h with rfl | h
    · exact x.1
    · exact off1_mem x.2 p h
theorem pieceStep_ok {s : St} {p : List Nat} (h : s.Ok) : (pieceStep s p).Ok := xor_ok (run_ok _ (minus1_ok h) (zeros_lt _)) (digs_ok _)
theorem gt2 {a b : Addr} (h : a + 1 + 1 < b) : b ≠ a + 1 + 1 ∧ b ≠ a + 1 := ⟨Nat.ne_of_gt h, Nat.ne_of_gt (Nat.lt_of_succ_lt h)⟩
structure RowC where
  rl : Addr
  us : List Value
  nn : Nat
  xs : List Nat
def ListGot (h₀ : Heap) (L : Addr) (m : Str → Option Value) (led : List (Addr × Obj)) (s : Shared) (B : Nat) (v : Value) (s' : Shared) : Prop :=
  ∃ l us nn ns h' tk', v = .ref l ∧ s' = { s with heap := h', toks := tk' } ∧ Fr h₀ L h' m ∧ News h₀ L h' ((l, listOf us.toArray nn) :: led) ∧ (∀ p ∈ led, p.1 < l) ∧ IntsAre us ns ∧ ns.length ≤ B
theorem cutList {M : Model} {A : Around} {t : Sem Value} {Q E : Value → Shared → Prop} {h₀ : Heap} {L : Addr} {m : Str → Option Value} {led : List (Addr × Obj)} {s : Shared} (_F : Fr h₀ L s.heap m) (_N : News h₀ L s.heap led) (B : Nat)
    (h : wpAny M A t (ListGot h₀ L m led s B) E s) (k : ∀ v s', ListGot h₀ L m led s B v s' → Q v s') : wpAny M A t Q E s := wpAny_mono h k (fun _ _ x => x)

end
theorem ints_at {us : List Value} {ns : List Int} (h : IntsAre us ns) : ∀ {i : Nat} {v : Value}, us[i]? = some v → ∃ n t, v = .int n t := by
  induction h with
  | nil => intro i v h; simp at h
  | cons n t r ih =>
    intro i v h
    cases i with
    | zero => exact ⟨n, t, (Option.some.inj h).symm⟩
    | succ i => exact ih h
theorem St.ext' {a b : St} (h1 : a.u = b.u) (h2 : a.v = b.v) (h3 : a.w = b.w) (h4 : a.x = b.x) (h5 : a.y = b.y) (h6 : a.z = b.z) : a = b := by
  cases a; cases b; simp_all
theorem dig_xor (a b k : Nat) : (a ^^^ b) / 32 ^ k % 32 = (a / 32 ^ k % 32) ^^^ (b / 32 ^ k % 32) := by
  have e : (32 : Nat) ^ k = 2 ^ (5 * k) := by rw [show (32 : Nat) = 2 ^ 5 from rfl, ← Nat.pow_mul]
  rw [e, Nat.xor_div_two_pow, show (32 : Nat) = 2 ^ 5 from rfl, Nat.xor_mod_two_pow]
theorem digs_xor (a b : Nat) : digs (a ^^^ b) = (digs a).xor (digs b) := by
  refine St.ext' ?_ ?_ ?_ ?_ ?_ ?_ <;> exact dig_xor _ _ _
def genT (t : Nat) : Nat := gen5 t 0 ^^^ gen5 t 1 ^^^ gen5 t 2 ^^^ gen5 t 3 ^^^ gen5 t 4
theorem digs_gen : ∀ t, t < 32 → digs (genT t) = ⟨tab 29 t, tab 22 t, tab 20 t, tab 21 t, tab 29 t, tab 18 t⟩ := by
  have h : ∀ t, t < 32 → (digs (genT t)).list = [tab 29 t, tab 22 t, tab 20 t, tab 21 t, tab 29 t, tab 18 t] := by decide +kernel
  intro t ht
  have := h t ht
  simp only [St.list, List.cons.injEq, and_true] at this
  obtain ⟨h1, h2, h3, h4, h5, h6⟩ := this
  exact St.ext' h1 h2 h3 h4 h5 h6
theorem polyStep_eq (c v : Nat) : polyStep c v = (((c &&& 33554431) <<< 5) ^^^ v) ^^^ genT (c >>> 25) := by
  simp only [polyStep, List.foldl, genT, Nat.xor_assoc]
theorem digs_shift (c : Nat) (h : c < 2 ^ 30) : digs ((c &&& 33554431) <<< 5) = ⟨(digs c).v, (digs c).w, (digs c).x, (digs c).y, (digs c).z, 0⟩ := by
  rw [show (33554431 : Nat) = 2 ^ 25 - 1 from rfl, Nat.and_two_pow_sub_one_eq_mod, Nat.shiftLeft_eq]
  refine St.ext' ?_ ?_ ?_ ?_ ?_ ?_ <;> simp only [digs] <;> omega
theorem digs_small (v : Nat) (h : v < 32) : digs v = ⟨0, 0, 0, 0, 0, v⟩ := by
  refine St.ext' ?_ ?_ ?_ ?_ ?_ ?_ <;> simp only [digs] <;> omega
theorem digs_step (c v : Nat) (h : c < 2 ^ 30) (hv : v < 32) : digs (polyStep c v) = runStep (digs c) v := by
  rw [polyStep_eq, digs_xor, digs_xor, digs_shift c h, digs_small v hv]
  have ht : c >>> 25 = (digs c).u := by rw [Nat.shiftRight_eq_div_pow]; simp only [digs]; omega
  rw [ht, digs_gen _ (by simp only [digs]; omega)]
  simp only [St.xor, runStep, Nat.xor_zero, Nat.zero_xor]
  refine St.ext' ?_ ?_ ?_ ?_ ?_ ?_ <;> first | exact Nat.xor_comm _ _ 
theorem digs_fold : ∀ (vs : List Nat) (c : Nat), c < 2 ^ 30 → (∀ x ∈ vs, x < 32) → digs (vs.foldl polyStep c) = run (digs c) vs
  | [], _, _, _ => rfl
  | v :: r, c, h, hx => by
    show digs (r.foldl polyStep (polyStep c v)) = run (runStep (digs c) v) r
    rw [digs_fold r _ (polyStep_lt c v (hx v (.head _))) (fun x h => hx x (.tail _ h)), digs_step c v h (hx v (.head _))]
theorem digs_polyN (vs : List Nat) (hx : ∀ x ∈ vs, x < 32) : digs (polyN vs) = run ⟨0, 0, 0, 0, 0, 1⟩ vs := by
  rw [polyN, digs_fold vs 1 (by decide) hx]; rfl
def num (s : St) : Nat := s.list.foldl (fun d x => 32 * d + x) 0
theorem num_digs (c : Nat) (h : c < 2 ^ 30) : num (digs c) = c := by
  simp only [num, St.list, digs, List.foldl]; omega
theorem polyN_num (vs : List Nat) (hx : ∀ x ∈ vs, x < 32) : polyN vs = num (run ⟨0, 0, 0, 0, 0, 1⟩ vs) := by
  rw [← digs_polyN vs hx, num_digs _ (polyN_lt vs hx)]
theorem tab_add29 : ∀ i, i < 32 → ∀ j, j < 32 → tab 29 (i ^^^ j) = tab 29 i ^^^ tab 29 j := by
  have h : byTab 29 = (byTab 29) := rfl
  decide +kernel
theorem tab_add22 : ∀ i, i < 32 → ∀ j, j < 32 → tab 22 (i ^^^ j) = tab 22 i ^^^ tab 22 j := by decide +kernel
theorem tab_add20 : ∀ i, i < 32 → ∀ j, j < 32 → tab 20 (i ^^^ j) = tab 20 i ^^^ tab 20 j := by decide +kernel
theorem tab_add21 : ∀ i, i < 32 → ∀ j, j < 32 → tab 21 (i ^^^ j) = tab 21 i ^^^ tab 21 j := by decide +kernel
theorem tab_add18 : ∀ i, i < 32 → ∀ j, j < 32 → tab 18 (i ^^^ j) = tab 18 i ^^^ tab 18 j := by decide +kernel
theorem xor4 (a b c d : Nat) : (a ^^^ b) ^^^ (c ^^^ d) = (a ^^^ c) ^^^ (b ^^^ d) := by
  rw [Nat.xor_assoc, Nat.xor_assoc, ← Nat.xor_assoc b, Nat.xor_comm b c, Nat.xor_assoc c]
theorem runStep_xor {a b : St} (ha : a.Ok) (hb : b.Ok) (v w : Nat) : runStep (a.xor b) (v ^^^ w) = (runStep a v).xor (runStep b w) := by
  simp only [runStep, St.xor]
  rw [tab_add29 _ ha.1 _ hb.1, tab_add22 _ ha.1 _ hb.1, tab_add20 _ ha.1 _ hb.1, tab_add21 _ ha.1 _ hb.1, tab_add18 _ ha.1 _ hb.1]
  refine St.ext' ?_ ?_ ?_ ?_ ?_ ?_ <;> exact xor4 _ _ _ _
theorem run_split : ∀ (p : List Nat) {a b : St}, a.Ok → b.Ok → (∀ x ∈ p, x < 32) → run (a.xor b) p = (run a (List.replicate p.length 0)).xor (run b p)
  | [], _, _, _, _, _ => rfl
  | v :: r, a, b, ha, hb, hx => by
    show run (runStep (a.xor b) v) r = (run (runStep a 0) (List.replicate r.length 0)).xor (run (runStep b v) r)
    have hv := hx v (.head _)
    rw [← run_split r (runStep_ok ha (by decide)) (runStep_ok hb hv) (fun x h => hx x (.tail _ h)), ← runStep_xor ha hb, Nat.zero_xor]
theorem pieceStep_run {s : St} (h : s.Ok) (p : List Nat) (hx : ∀ x ∈ p, x < 32) : pieceStep s p = run s p := by
  have h1 : (St.mk 0 0 0 0 0 1).Ok := by show _ ∧ _; decide
  rw [pieceStep, digs_polyN p hx, ← run_split p (minus1_ok h) h1 hx]
  congr 1
  refine St.ext' ?_ ?_ ?_ ?_ ?_ ?_ <;> simp [St.xor, St.minus1, Nat.xor_assoc]
theorem run_append (s : St) (a b : List Nat) : run s (a ++ b) = run (run s a) b := List.foldl_append
def stt (pcs : List (List Nat)) (i : Nat) : St := (pcs.take i).foldl pieceStep ⟨0, 0, 0, 0, 0, 1⟩
theorem st0_ok : (St.mk 0 0 0 0 0 1).Ok := by show _ ∧ _; decide
theorem plain3 (xs : List Nat) (f g la : Nat) (hx : ∀ x ∈ xs, x < 32) (hfg : f ≤ g) (hgl : g ≤ xs.length) (hla : la < 32) :
    polyN (xs ++ [la]) = (run (stt [xs.take f, (xs.drop f).take (g - f), xs.drop g] 3) [la]).list.foldl (fun d x => 32 * d + x) 0 := by
  have hxf : ∀ x ∈ xs.take f, x < 32 := fun x h => hx x (List.mem_of_mem_take h)
  have hxm : ∀ x ∈ (xs.drop f).take (g - f), x < 32 := fun x h => hx x (List.mem_of_mem_drop (List.mem_of_mem_take h))
  have hxd : ∀ x ∈ xs.drop g, x < 32 := fun x h => hx x (List.mem_of_mem_drop h)
  rw [polyN_num _ (fun x h => (List.mem_append.mp h).elim (hx x) (fun h => by rw [List.mem_singleton.mp h]; exact hla))]
  show num _ = num _
  congr 1
  rw [run_append]
  congr 1
  show _ = pieceStep (pieceStep (pieceStep _ _) _) _
  rw [pieceStep_run st0_ok _ hxf, pieceStep_run (run_ok _ st0_ok hxf) _ hxm, ← run_append, pieceStep_run (run_ok _ st0_ok (fun x h => (List.mem_append.mp h).elim (hxf x) (hxm x))) _ hxd, ← run_append]
  congr 1
  have e : xs.drop g = (xs.drop f).drop (g - f) := by rw [List.drop_drop]; congr 1; omega
  rw [List.append_assoc, e, List.take_append_drop, List.take_append_drop]
set_option maxRecDepth 100000 in
set_option maxHeartbeats 8000000 in
open_top hd03 for PySem.Challenge.rw_oo0001_03
theorem top_off : True := by
  w_top off
  exact True.intro
open PySem.Spec
set_option maxRecDepth 100000
local macro_rules | `(tactic| tb_start) => `(tactic| repeat' (first
  | (k_unfold; (try dsimp only))
  | ((fail_if_success (with_reducible show wpAny _ _ (PySem.exec (PySem.Stmt.For _ _ _ _ _) _) _ _ _)); (fail_if_success (with_reducible show wpAny _ _ (PySem.exec (PySem.Stmt.While _ _ _ _) _) _ _ _)); (fail_if_success (with_reducible show wpAny _ _ (PySem.pyIter _) _ _ _)); (fail_if_success (with_reducible show InvPostN _ _ _ _ _ _ _ _ _)); (fail_if_success (with_reducible show InvEndN _ _ _ _ _ _ _)); (fail_if_success (with_reducible show ShiftWantsBound)); (fail_if_success (with_reducible show wpAny _ _ (PySem.call (Value.ref _) _) _ _ _));
     first | walk1 | (dsimp only; walk1))))
local macro_rules | `(tactic| walk_at "binaryOp LShift int int") => `(tactic| (refine lshift_int_small (by decide) (by decide) (and_bound _) ?_))
local macro_rules | `(tactic| walk_at "call builtin:len") => `(tactic| ((with_reducible show wpAny _ _ (call (Value.builtin "len") [Value.ref _]) _ _ _); (refine len_my (by k_asm) (by k_dflt k_mem) (by with_reducible assumption) (by omega) ?_)))
local macro_rules | `(tactic| walk_at "call builtin:list.append") => `(tactic| ((with_reducible show wpAny _ _ (call (Value.builtin "list.append") [Value.ref _, _]) _ _ _); (refine' append_my (by k_asm) (by k_asm) ?U ?hi ?hf ?_; (case hi => with_reducible assumption); (case hf => omega); (case U => first | exact Upd.head (fun p hp => Nat.ne_of_lt (by apply_assumption; assumption)) | k_upd)); intro h' F' N'; (try k_sweep)))
local macro_rules | `(tactic| k_all) => `(tactic| with_reducible assumption)
local macro_rules | `(tactic| tb_rel) => `(tactic| (refine' code_defC ?k1 ?k2 ?k3 ?k4 ?k5 ?kA ?kF ?kK ?k6 ?k7 ?k8 ?k9 ?kB ?kD ?_ ?c2 ?c3 ?c4; (case kA => exact rfl); (case kF => exact rfl); (case kK => assumption); (case k1 => k_asm); (case k2 => k_asm); (case k3 => k_asm); (case k4 => k_asm); (case k5 => k_asm); (case k6 => k_is); (case k7 => k_is); (case k8 => ktr_room); (case k9 => exact BindsTo.of_eq rfl); (case kB => exact rfl); (case kD => decide +kernel); (case c2 => exact rfl); (case c3 => exact rfl); (case c4 => exact rfl); k_whole))
local macro_rules | `(tactic| walk_at "subscriptTail Name Name ref int") => `(tactic| (refine' item_my ?xN ?xm ?xi ?xj ?hk ?hb ?_ ?hs; (case xN => k_asm); (case xm => k_dflt k_mem); (case xi => with_reducible assumption); (case xj => rfl); (case hk => (rw [byTab_len]; omega)); (case hb => (rw [byTab_len]; decide)); (case hs => with_unfolding_all rfl); intro _))
local macro_rules | `(tactic| walk_at "eval Call") => `(tactic| ((with_reducible show wpAny _ _ (PySem.eval (PySem.Expr.Call (PySem.Expr.Name (PySem.Str.ofString "_law_at") _) _ [] _) _) _ _ _); k_dflt (refine Call_ ?_)))
local macro_rules | `(tactic| walk_at "eval Call") => `(tactic| ((with_reducible show wpAny _ _ (PySem.eval (PySem.Expr.Call (PySem.Expr.Name (PySem.Str.ofString "_law_digits") _) _ [] _) _) _ _ _); k_dflt (refine Call_ ?_)))
local macro_rules | `(tactic| walk_at "eval Call") => `(tactic| ((with_reducible show wpAny _ _ (PySem.eval (PySem.Expr.Call (PySem.Expr.Name (PySem.Str.ofString "bech32_polymod") _) _ [] _) _) _ _ _); k_dflt (refine Call_ ?_)))
local macro_rules | `(tactic| walk_at "eval Call") => `(tactic| ((with_reducible show wpAny _ _ (PySem.eval (PySem.Expr.Call (PySem.Expr.Name (PySem.Str.ofString "_law_run") _) _ [] _) _) _ _ _); k_dflt (refine Call_ ?_)))
local macro_rules | `(tactic| walk_at "subscriptTail Name Slice ref ref") => `(tactic| ((with_reducible show wpAny _ _ (PyProof.Rows.subscriptTail _ (PySem.Expr.Slice _ _ none _) (Value.ref _) (Value.ref _)) _ _ _); k_dflt (refine' slice_my ?xsF ?xsN ?xsm ?xsi ?xsb ?xsp ?xsq ?xsk ?_ ?xss ?xst; (case xsF => k_asm); (case xsN => k_asm); (case xsm => k_mem); (case xsi => with_reducible assumption); (case xsb => omega); (case xsp => kmk_part); (case xsq => kmk_part); (case xsk => first | exact kmk_upto (by with_reducible assumption) (by omega) | exact kmk_from (by with_reducible assumption) (by omega) | exact kmk_run (by with_reducible assumption) (by omega) (by omega)); (case xss => with_unfolding_all rfl); (case xst => kmk_pure)); intro D' ws' h' F' N' l1 hI'; (try k_lt l1); (try k_sweep)))
local macro_rules | `(tactic| k_mem) => `(tactic| first | with_reducible assumption | exact List.mem_cons_self | (refine' List.mem_cons_of_mem _ ?_; k_mem))
local macro_rules | `(tactic| walk_at "subscriptTail Name Constant ref int") => `(tactic| (refine' item_my (j := 5) ?xN ?xm ?xi ?xj ?hk ?hb ?_ ?hs; (case xN => k_asm); (case xm => k_dflt k_mem); (case xi => with_reducible assumption); (case xj => rfl); (case hk => exact Nat.le_of_ble_eq_true rfl); (case hb => exact Nat.le_of_ble_eq_true rfl); (case hs => with_unfolding_all rfl); intro _))
set_option maxHeartbeats 8000000 in
theorem at_tells (w : World) (loose : List Str) (mean : ExcName → Option Value) (mg mb : Str → Option Value) :
  AtTells Challenge.rw_oo0001_03.row.prog w (hd03.heap_39 w.params) hd03.view_39 loose mean mg mb 28 := by
  k_fill
  unfold AtTells
  intro dp un gd cn cs a ccd cl outer A₀ base h₀ L m news s l vs ns i tk o tko Q E B F X N T hk hl hi hfit h0 hd hu hret
  refine wpAny_call ?_
  k_dflt cell_enter
  w_strict (k_steps)
  all_goals exact hret _ _ _ _ (by k_asm) (by k_asm)
set_option maxHeartbeats 8000000 in
theorem dig_tells (w : World) (loose : List Str) (mean : ExcName → Option Value) (mg mb : Str → Option Value) (d : Int × Int) :
  TellsN Challenge.rw_oo0001_03.row.prog w (hd03.heap_39 w.params) hd03.view_39 loose mean mg mb 35 cDig d := by
  k_fill
  unfold TellsN
  intro dp un gd cn cs a ccd cl outer A₀ base h₀ L m news s vs Q E B F X N T hk hR hok hd hu hret
  obtain ⟨num, most⟩ := d
  obtain ⟨t0, t1, t2, rfl⟩ := hR
  dsimp only [cDig] at hok hd hu hret
  refine wpAny_call ?_
  k_dflt ktr_enter
  w_strict tb_start
  have e1 : (if num < 0 then -num else num) = ((num.natAbs : Nat) : Int) := by split <;> omega
  rename Fr _ _ _ _ => F1
  rename News _ _ _ _ => N1
  rw [e1] at F1 N1
  rw [fmodN] at N1
  with_unfolding_all refine' ksw_while (σ := DigC) (fun c => (_, listOf c.us.toArray c.nn) :: news) (fun c => [("number", .int c.num c.tk)]) (fun _ => True) [] (fun c => IntsAre c.us (natsI c.xs) ∧ (∀ x ∈ c.xs, x < 32) ∧ 1 ≤ c.xs.length ∧ (c.xs.length : Int) ≤ most) (fun c => c.num) ⟨num.natAbs, _, [Value.int ((num.natAbs % 32 : Nat) : Int) _], 0, [num.natAbs % 32]⟩ F1 N1 trivial ?q1 ?q2 ?q3
  case q1 => intro p hp; rcases List.mem_singleton.mp hp with rfl; rfl
  case q2 => exact ⟨.cons _ _ .nil, by simp; omega, by simp, by simp; omega⟩
  case q3 =>
    clear F1 N1
    intro c u h tk _ hp F2 N2
    obtain ⟨hI, hlt, hge, hle⟩ := hp
    have hle2 : (natsI c.xs).length ≤ 64 := by simp only [natsI, List.length_map]; omega
    tb_start
    · rename Fr _ _ _ _ => F3
      rename News _ _ _ _ => N3
      rename (32 ≤ (c.num : Int)) => hn
      rename (_ < Prod.snd _) => hlm
      rw [fdivN] at F3 N3
      rw [fmodN] at N3
      have hlm' : (c.xs.length : Int) < most := by simpa [natsI] using hlm
      refine' ksw_end (⟨c.num / 32, ?tkq, c.us ++ [_], c.nn + 1, c.xs ++ [c.num / 32 % 32]⟩ : DigC) F3 N3 (fun _ => id) trivial ?g1 ?g2 ?g3 ?g4
      case g1 => intro p hp; rcases List.mem_singleton.mp hp with rfl; exact if_pos rfl
      case g2 =>
        intro z h2 h3
        have h4 : z ≠ "number" := h2 _ (.head _)
        simp only [kstB, if_neg h4, List.contains_nil, Bool.false_eq_true, if_false]
      case g3 =>
        refine ⟨?_, ?_, by simp, by simp; omega⟩
        · simp only [natsI, List.map_append]; exact IntsAre.append hI (.cons _ _ .nil)
        · intro x hx
          rcases List.mem_append.mp hx with hx | hx
          · exact hlt x hx
          · rw [List.mem_singleton.mp hx]; omega
      case g4 => show c.num / 32 < c.num; omega
    all_goals
      rename Fr h₀ _ _ _ => kF
      rename News h₀ _ _ _ => kN
      rename (∀ p ∈ news, p.1 < _) => hl1
      refine hret _ [_] _ _ kF (ktn_tl1 kN) (fun q hq p hp => ?_) ⟨_, rfl⟩ ⟨_, _, _, c.xs, rfl, List.getLast?_concat, hI, hlt, hge, hle⟩
      rw [List.mem_singleton.mp hp]; exact hl1 q hq
set_option maxHeartbeats 8000000 in
theorem by_tells (w : World) (loose : List Str) (mean : ExcName → Option Value) (mg mb : Str → Option Value) (d : Nat) :
  TellsN Challenge.rw_oo0001_03.row.prog w (hd03.heap_39 w.params) hd03.view_39 loose mean mg mb 40 cBy d := by
  k_fill
  unfold TellsN
  intro dp un gd cn cs a ccd cl outer A₀ base h₀ L m news s vs Q E B F X N T hk hR hok hd hu hret
  obtain ⟨t0, rfl⟩ := hR
  dsimp only [cBy] at hok hd hu hret
  refine wpAny_call ?_
  k_dflt tb_rel
  intro g1 L1 h1 tk1 cells1 FG1 F1 N1 Y1 B1 X1 T1 l1
  k_cells Y1
  simp only [List.cons_append, List.nil_append] at N1
  try dsimp only
  try k_fold
  have hoffn : ∀ p ∈ news, p.1 ≠ L1 + 1 := fun p hp e => absurd (l1 p hp) (by rw [e]; exact Nat.not_lt.mpr (Nat.le_succ _))
  w_strict tb_start
  rename Fr _ _ _ _ => F1
  rename News _ _ _ _ => N1
  rename (Obj.data _ = Data.cell _) => hcd
  rename Obj => ob0
  have hcd' : ob0.data = .cell (some (.int ((d : Nat) : Int) t0)) := by first | exact hcd | (rw [hcd]; rfl)
  rename (_ ∧ AllLt _ _) => hlt1
  with_unfolding_all refine' ksw_while (σ := ByC) (fun c => (L1 + 1, c.cell) :: (c.tab, listOf c.us.toArray c.nn) :: news) (fun c => [("table", .ref c.tab)]) (fun _ => True) [] (fun c => c.cell.data = .cell (some (.int ((byIt d c.i).1 : Nat) c.tk)) ∧ IntsAre c.us (natsI (byIt d c.i).2) ∧ c.i ≤ 5 ∧ L1 + 1 < c.tab) (fun c => 5 - c.i) ⟨0, t0, [Value.int 0 _], 0, _, ob0⟩ F1 (kst_newsOf N1 ?q0) trivial ?q1 ?q2 ?q3
  case q0 => intro p hp; rcases List.mem_cons.mp hp with rfl | hp; exact .tail _ (.head _); rcases List.mem_cons.mp hp with rfl | hp; exact .head _; exact .tail _ (.tail _ hp)
  case q1 => intro p hp; rcases List.mem_singleton.mp hp with rfl; rfl
  case q2 => exact ⟨hcd', .cons _ _ .nil, Nat.zero_le _, hlt1.1⟩
  case q3 =>
    clear F1 N1
    intro c u h tk _ hp F2 N2
    obtain ⟨hcd2, hI, hi5, hlt3⟩ := hp
    replace hlt3 := ltN hlt3
    have hlen : (natsI (byIt d c.i).2).length = 2 ^ c.i := by simp only [natsI, List.length_map]; exact byIt_len d c.i
    have hlen2 : (natsI (byIt d c.i).2).length ≤ 32 := by rw [hlen]; exact Nat.pow_le_pow_right (by decide) hi5
    tb_start
    · rename Fr _ _ _ _ => F3
      rename News _ _ _ _ => N3
      rename (_ ∧ _ ∧ _ ∧ AllLt _ _) => hl4
      rename (Obj.data _ = _) => hd4
      rename (IntsAre _ (_ ++ _)) => hI4
      rename (_ < (32 : Int)) => hlt5
      rename (15 < _) => hbr
      have hi6 : c.i + 1 ≤ 5 := by
        have h2 : 2 ^ c.i < 32 := by rw [← hlen]; omega
        rcases Nat.lt_or_ge c.i 5 with h | h
        · exact h
        · exact absurd (Nat.pow_le_pow_right (by decide : 0 < 2) h) (by omega)
      rename Obj => ob4
      refine' ksw_end (⟨c.i + 1, _, _, _, _, ob4⟩ : ByC) F3 (kst_newsOf N3 ?g0x) (fun _ => id) trivial ?g1x ?g2x ?g3x ?g4x
      case g1x => intro p hp; rcases List.mem_singleton.mp hp with rfl; exact if_pos rfl
      case g0x => intro p hp; rcases List.mem_cons.mp hp with rfl | hp; exact .tail _ (.tail _ (.head _)); rcases List.mem_cons.mp hp with rfl | hp; exact .head _; exact .tail _ (.tail _ (.tail _ (.tail _ hp)))
      case g2x =>
        intro z h2 h3
        have h4 : z ≠ "table" := h2 _ (.head _)
        simp only [kstB, if_neg h4, List.contains_nil, Bool.false_eq_true, if_false]
      case g3x =>
        refine ⟨?_, ?_, hi6, hl4.2.1⟩
        · rw [byVal_a hbr] at hd4; exact hd4
        · rw [natsI_xor, ← List.map_append] at hI4; exact hI4
      case g4x => show 5 - (c.i + 1) < 5 - c.i; omega
    · rename Fr _ _ _ _ => F3
      rename News _ _ _ _ => N3
      rename (_ ∧ _ ∧ _ ∧ AllLt _ _) => hl4
      rename (Obj.data _ = _) => hd4
      rename (IntsAre _ (_ ++ _)) => hI4
      rename (_ < (32 : Int)) => hlt5
      rename (¬ 15 < _) => hbr
      have hi6 : c.i + 1 ≤ 5 := by
        have h2 : 2 ^ c.i < 32 := by rw [← hlen]; omega
        rcases Nat.lt_or_ge c.i 5 with h | h
        · exact h
        · exact absurd (Nat.pow_le_pow_right (by decide : 0 < 2) h) (by omega)
      rename Obj => ob4
      refine' ksw_end (⟨c.i + 1, _, _, _, _, ob4⟩ : ByC) F3 (kst_newsOf N3 ?g0y) (fun _ => id) trivial ?g1y ?g2y ?g3y ?g4y
      case g1y => intro p hp; rcases List.mem_singleton.mp hp with rfl; exact if_pos rfl
      case g0y => intro p hp; rcases List.mem_cons.mp hp with rfl | hp; exact .tail _ (.tail _ (.head _)); rcases List.mem_cons.mp hp with rfl | hp; exact .head _; exact .tail _ (.tail _ (.tail _ (.tail _ hp)))
      case g2y =>
        intro z h2 h3
        have h4 : z ≠ "table" := h2 _ (.head _)
        simp only [kstB, if_neg h4, List.contains_nil, Bool.false_eq_true, if_false]
      case g3y =>
        refine ⟨?_, ?_, hi6, hl4.2.1⟩
        · rw [byVal_b hbr] at hd4; exact hd4
        · rw [natsI_xor, ← List.map_append] at hI4; exact hI4
      case g4y => show 5 - (c.i + 1) < 5 - c.i; omega
    · rename (¬ _ < (32 : Int)) => hge
      rename Fr h₀ _ _ _ => kF
      rename News h₀ _ _ _ => kN
      have hfin : c.i = 5 := by
        have h2 : ¬ (2 ^ c.i < 32) := by rw [← hlen]; omega
        rcases Nat.lt_or_ge c.i 5 with h | h
        · exact absurd (Nat.pow_lt_pow_right (by decide : 1 < 2) h) h2
        · omega
      rw [hfin] at hI
      refine hret _ [(c.tab, _)] _ _ kF (ktn_tl1 (kst_newsOf kN (fun p hp => .tail _ hp))) (fun q hq p hp => ?_) ⟨_, rfl⟩ ⟨_, _, _, _, rfl, List.getLast?_concat, hI, rfl⟩
      rw [List.mem_singleton.mp hp]
      exact Nat.lt_trans (l1 q hq) (Nat.lt_of_succ_lt hlt3)
set_option maxHeartbeats 8000000 in
theorem poly_tells (w : World) (loose : List Str) (mean : ExcName → Option Value) (mg mb : Str → Option Value) (d : LD) :
  TellsN Challenge.rw_oo0001_03.row.prog w (hd03.heap_39 w.params) hd03.view_39 loose mean mg mb 21 cPoly d := by
  k_fill
  unfold TellsN
  intro dp un gd cn cs a ccd cl outer A₀ base h₀ L m news s vs Q E B F X N T hk hR hok hd hu hret
  obtain ⟨rfl, hmem, hints⟩ := hR
  dsimp only [cPoly] at hok hd hu hret
  refine wpAny_call ?_
  k_dflt ktr_enter
  w_strict tb_start
  rename Fr _ _ _ _ => F1
  rename News _ _ _ _ => N1
  with_unfolding_all refine' For_invVF F1 ?k1 ?k2 ?_
  case k1 => exact rfl
  case k2 => exact rfl
  tb_start
  with_unfolding_all refine' kst_listL (σ := Nat × Nat) (ns := d.ns) (fun _ => _) (fun c => [("chk", .int c.1 c.2)]) (fun _ => True) ["top","i"] (fun pre c => c.1 = polyN (pre.map Int.toNat)) (1, _) (by rfl) (fun _ => List.mem_cons_of_mem _ hmem) hints F1 N1 trivial ?q1 ?q2 ?turn ?done
  case q1 => intro p hp; rcases List.mem_singleton.mp hp with rfl; rfl
  case q2 => rfl
  case turn =>
    intro c pre post n t u h tk own hns hnm hoff _ hp F2 N2
    clear F1 N1
    obtain ⟨h0, h1⟩ := hok.1 n hnm
    obtain ⟨v, rfl⟩ := Int.eq_ofNat_of_zero_le h0
    tb_start
    rename Fr _ _ _ _ => F3
    rename News _ _ _ _ => N3
    with_unfolding_all refine' For_invVF F3 ?k1 ?k2 ?_
    case k1 => exact rfl
    case k2 => exact rfl
    tb_start
    rename Fr _ _ _ _ => F4
    rename News _ _ _ _ => N4
    rename IsRange _ _ _ _ _ _ _ _ => R4
    with_unfolding_all refine' iterRange_acc1 (y := "chk") (gI ((c.1 : Int).fdiv (2 ^ Int.toNat 25))) (by rfl) R4 (by decide) (by rfl) F4 N4 (by rfl) ?turn2 ?done2
    case turn2 =>
      intro k t5 a5 ta5 h5 tk5 own5 hlo hhi hoff5 F5 N5
      clear F4 N4
      have hhi' : k < 5 := hhi
      tb_start
      all_goals (rename Fr _ _ _ _ => F6; rename News _ _ _ _ => N6)
      · rename _ ≠ _ => hb
        refine InvEndN.intro F6 N6 ⟨rfl, ?_, ?_⟩ rfl (fun p hp => List.mem_append_left _ hp) (fun p hp => List.mem_append_right _ hp)
        · rw [show gI _ a5 k = _ from if_pos hb]; exact ⟨_, if_pos rfl⟩
        · intro z h1 h2; simp only [if_neg h1, if_neg h2]
      · rename _ = _ => hb
        refine InvEndN.intro F6 N6 ⟨rfl, ?_, ?_⟩ rfl (fun p hp => List.mem_append_left _ hp) (fun p hp => List.mem_append_right _ hp)
        · rw [show gI _ a5 k = _ from if_neg (not_not_intro hb)]; exact ⟨_, if_pos rfl⟩
        · intro z h1 h2; simp only [if_neg h1, if_neg h2]
    case done2 =>
      intro u5 t5 h5 tk5 F5 N5
      clear F4 N4
      dsimp only
      tb_start
      refine kst_end (polyStep c.1 v, t5) F5 N5 (fun p hp => List.mem_append_left _ hp) (fun p hp => List.mem_append_right _ hp) rfl trivial ?f1 ?f2 ?f3
      case f1 =>
        intro p hp
        rcases List.mem_singleton.mp hp with rfl
        show _ = some (Value.int (polyStep c.1 v : Nat) t5)
        rw [← gI_fold c.1 v]
        rfl
      case f2 =>
        intro z h1 h2 h3
        have h4 : z ≠ "chk" := h2 _ (.head _)
        have h5 : z ≠ "top" ∧ z ≠ "i" := by simpa using h3
        simp only [kstB, if_neg h1, if_neg h4, if_neg h5.1, if_neg h5.2, h3, Bool.false_eq_true, if_false]
      case f3 =>
        simp only [List.map_append, polyN, List.foldl_append, hp]; rfl
  case done =>
    intro c u h tk _ hp F2 N2
    clear F1 N1
    dsimp only
    tb_start
    rename Fr h₀ _ _ _ => kF
    rename News h₀ _ _ _ => kN
    rw [hp]
    exact hret _ [] _ _ kF (by rw [List.append_nil]; exact kst_newsOf kN (fun p hp => List.mem_cons_of_mem _ hp)) ktn_ord0 rfl ⟨_, rfl⟩
set_option maxHeartbeats 8000000 in
theorem run_tells (w : World) (loose : List Str) (mean : ExcName → Option Value) (mg mb : Str → Option Value) (d : RunD) :
  TellsN Challenge.rw_oo0001_03.row.prog w (hd03.heap_39 w.params) hd03.view_39 loose mean mg mb 47 cRun d := by
  k_fill
  unfold TellsN
  intro dp un gd cn cs a ccd cl outer A₀ base h₀ L m news s vs Q E B F X N T hk hR hok hd hu hret
  obtain ⟨ls, lv, lt, st, vals⟩ := d
  obtain ⟨rfl, ⟨su, sn, hs, hsI⟩, ⟨vu, vn, hv, hvI⟩, ⟨a1, a2, a3, a4, a5, tn, ht, ⟨t1u, t1n, ht1, ht1I⟩, ⟨t2u, t2n, ht2, ht2I⟩, ⟨t3u, t3n, ht3, ht3I⟩, ⟨t4u, t4n, ht4, ht4I⟩, ⟨t5u, t5n, ht5, ht5I⟩⟩⟩ := hR
  dsimp only [cRun] at hok hd hu hret
  obtain ⟨hst, hvl, hvn⟩ := hok
  obtain ⟨su1, su2, su3, su4, su5, su6, rfl⟩ : ∃ b1 b2 b3 b4 b5 b6, su = [.int st.u b1, .int st.v b2, .int st.w b3, .int st.x b4, .int st.y b5, .int st.z b6] := by
    simp only [St.list, natsI, List.map_cons, List.map_nil] at hsI
    cases hsI with
    | cons _ b1 h => cases h with
    | cons _ b2 h => cases h with
    | cons _ b3 h => cases h with
    | cons _ b4 h => cases h with
    | cons _ b5 h => cases h with
    | cons _ b6 h => cases h with
    | nil => exact ⟨b1, b2, b3, b4, b5, b6, rfl⟩
  refine wpAny_call ?_
  k_dflt ktr_enter
  w_strict tb_start
  rename Fr _ _ _ _ => F1
  rename News _ _ _ _ => N1
  with_unfolding_all refine' For_invVF F1 ?k1 ?k2 ?_
  case k1 => exact rfl
  case k2 => exact rfl
  tb_start
  with_unfolding_all refine' kst_listL (σ := RunC) (ns := natsI vals) (fun _ => _) (fun c => [("u", .int c.st.u c.t1), ("v", .int c.st.v c.t2), ("w", .int c.st.w c.t3), ("x", .int c.st.x c.t4), ("y", .int c.st.y c.t5), ("z", .int c.st.z c.t6)]) (fun _ => True) [] (fun pre c => c.st = run st (pre.map Int.toNat) ∧ c.st.Ok) ⟨st, su1, su2, su3, su4, su5, su6⟩ (by rfl) (fun _ => hv) hvI F1 N1 trivial ?q1 ?q2 ?turn ?done
  case q1 => simp only [List.forall_mem_cons, List.not_mem_nil, false_implies, implies_true, and_true]; exact ⟨rfl, rfl, rfl, rfl, rfl, rfl⟩
  case q2 => exact ⟨rfl, hst⟩
  case turn =>
    intro c pre post n t u h tk own hns hnm hoff _ hp F2 N2
    clear F1 N1
    obtain ⟨hpe, hu1, hv1, hw1, hx1, hy1, hz1⟩ := hp
    obtain ⟨a, ha, rfl⟩ := List.mem_map.mp hnm
    have ha2 := hvl a ha
    dsimp only [kstB] at F2
    tb_start
    rename Fr _ _ _ _ => F3
    rename News _ _ _ _ => N3
    refine' kst_end (⟨runStep c.st a, _, _, _, _, _, _⟩ : RunC) F3 N3 (fun p hp => by first | exact List.mem_append_left _ hp | exact .tail _ (List.mem_append_left _ hp)) (fun p hp => by first | exact List.mem_append_right _ hp | exact .tail _ (List.mem_append_right _ hp)) rfl trivial ?e1 ?e2 ?e3
    case e1 =>
      refine List.forall_mem_cons.mpr ⟨?_, List.forall_mem_cons.mpr ⟨?_, List.forall_mem_cons.mpr ⟨?_, List.forall_mem_cons.mpr ⟨?_, List.forall_mem_cons.mpr ⟨?_, List.forall_mem_cons.mpr ⟨?_, List.forall_mem_nil _⟩⟩⟩⟩⟩⟩
      · exact valN
      · exact valN
      · exact valN
      · exact valN
      · exact valN
      · exact valN
    case e2 =>
      intro z h1 h2 h3
      simp only [List.forall_mem_cons, List.not_mem_nil, false_implies, implies_true, and_true] at h2
      obtain ⟨q1, q2, q3, q4, q5, q6⟩ := h2
      simp only [if_neg h1, if_neg q1, if_neg q2, if_neg q3, if_neg q4, if_neg q5, if_neg q6, List.contains_nil, Bool.false_eq_true, if_false]
    case e3 =>
      refine ⟨?_, ?_⟩
      · show runStep c.st a = _
        rw [hpe]
        simp only [run, List.map_append, List.foldl_append]; rfl
      · exact ⟨Nat.xor_lt_two_pow (n := 5) (tab_lt29 _ hu1) hv1, Nat.xor_lt_two_pow (n := 5) (tab_lt22 _ hu1) hw1, Nat.xor_lt_two_pow (n := 5) (tab_lt20 _ hu1) hx1, Nat.xor_lt_two_pow (n := 5) (tab_lt21 _ hu1) hy1, Nat.xor_lt_two_pow (n := 5) (tab_lt29 _ hu1) hz1, Nat.xor_lt_two_pow (n := 5) (tab_lt18 _ hu1) ha2⟩
  case done =>
    intro c u h tk _ hp F2 N2
    clear F1 N1
    dsimp only
    tb_start
    obtain ⟨hp, hok⟩ := hp
    rename Fr h₀ _ _ _ => kF
    rename News h₀ _ _ _ => kN
    rename (∀ p ∈ news, p.1 < _) => hl1
    refine hret _ [_] _ _ kF (ktn_tl1 kN) (fun q hq p hp => ?_) ⟨_, rfl⟩ ⟨_, _, _, (run st vals).list, rfl, List.getLast?_concat, ?_, rfl⟩
    · rw [List.mem_singleton.mp hp]; exact hl1 q hq
    · rw [show List.map Int.toNat (natsI vals) = vals from natsI_toNat vals] at hp
      rw [← hp]
      exact .cons _ _ (.cons _ _ (.cons _ _ (.cons _ _ (.cons _ _ (.cons _ _ .nil)))))
local macro_rules | `(tactic| tb_start) => `(tactic| repeat' (first
  | (k_unfold; (try dsimp only))
  | ((fail_if_success (with_reducible show wpAny _ _ (PySem.exec (PySem.Stmt.For _ _ _ _ _) _) _ _ _)); (fail_if_success (with_reducible show wpAny _ _ (PySem.exec (PySem.Stmt.While _ _ _ _) _) _ _ _)); (fail_if_success (with_reducible show wpAny _ _ (PySem.pyIter _) _ _ _)); (fail_if_success (with_reducible show InvPostN _ _ _ _ _ _ _ _ _)); (fail_if_success (with_reducible show InvEndN _ _ _ _ _ _ _)); (fail_if_success (with_reducible show ShiftWantsBound)); (fail_if_success (with_reducible show wpAny _ _ (PySem.call (Value.ref _) _) _ _ _));
     (fail_if_success (with_reducible show wpAny _ _ (PySem.eval (PySem.Expr.ListComp _ _ _ _) _) _ _ _)); (fail_if_success (with_reducible show wpAny _ _ (PySem.exec (PySem.Stmt.Assign _ (PySem.Expr.ListComp _ _ _ _) _) _) _ _ _)); (fail_if_success (with_reducible show LCg.CompSrc _ _ _ _ _ _ _ _ _ _ _ _ _ _)); (fail_if_success (with_reducible show LCg.CompEnd _ _ _ _ _ _ _ _ _ _ _ _ _ _)); first | walk1 | (dsimp only; walk1))))
local macro_rules | `(tactic| ktr_unf) => `(tactic| (k_dflt (refine' at_use ?k1 ?k2 ?k3 ?k4 ?k5 ?kK ?kl ?ki ?kf ?k0 (at_tells _ _ _ _ _) ?kd ?ku ?_); (case k1 => k_asm); (case k2 => k_asm); (case k3 => k_asm); (case k4 => k_asm); (case k5 => k_asm); (case kK => first | exact rfl | assumption); (case kl => with_reducible assumption); (case ki => with_reducible assumption); (case kf => l_fit); (case k0 => decide); (case kd => ktr_room); (case ku => ktr_units)))

structure PieC where
  s : St
  sa : Addr
  us : List Value
  nn : Nat
  oS : Obj
  oT : Obj
  tv : Option Value
set_option maxHeartbeats 600000 in
theorem loop3 (w : World) (loose : List Str) (mean : ExcName → Option Value) (mg mb : Str → Option Value) (h₀ : Heap) (L fa : Addr) (cd : Value) (s : Shared) (m : Str → Option Value) (rest : List (Addr × Obj)) (oT oS : Obj) (vT : Option Value) (tD pl a0 a1 a2 sa : Addr) (w0 w1 w2 su : List Value) (n0 n1 n2 sn ln : Nat) (p0 p1 p2 : List Nat)
    (Q : Flow → Shared → Prop) (E : Value → Shared → Prop)
    (hB : Below callerA h₀ [] h₀) (hX : (hd03.heap_39 w.params).In h₀) (hT : Top hd03.view_39 loose mean mg mb h₀) (F : Fr h₀ L s.heap m) (N : News h₀ L s.heap ((L + 1 + 1, oT) :: (L + 1, oS) :: (sa, listOf su.toArray sn) :: rest))
    (m1 : m "tables" = some (.ref tD))
    (hdT : oT.data = .cell vT) (hdS : oS.data = .cell (some (.ref sa))) (hTabs : TabsAt rest tD) (hra : ∀ p ∈ rest, p.1 ≠ L + 1 + 1) (hrb : ∀ p ∈ rest, p.1 ≠ L + 1) (hsa : sa ≠ L + 1 + 1) (hsb : sa ≠ L + 1)
    (hpl : (pl, listOf [Value.ref a0, Value.ref a1, Value.ref a2].toArray ln) ∈ rest) (hq0 : (a0, listOf w0.toArray n0) ∈ rest) (hq1 : (a1, listOf w1.toArray n1) ∈ rest) (hq2 : (a2, listOf w2.toArray n2) ∈ rest)
    (hi0 : IntsAre w0 (natsI p0)) (hi1 : IntsAre w1 (natsI p1)) (hi2 : IntsAre w2 (natsI p2)) (hsI : IntsAre su (natsI (St.list ⟨0, 0, 0, 0, 0, 1⟩)))
    (hx0 : ∀ x ∈ p0, x < 32) (hx1 : ∀ x ∈ p1, x < 32) (hx2 : ∀ x ∈ p2, x < 32) (hl0 : p0.length ≤ 32) (hl1 : p1.length ≤ 32) (hl2 : p2.length ≤ 32)
    (hdone : ∀ h' tk' (m' : Str → Option Value) (c : PieC), (∀ z : Str, z ≠ "piece" → m' z = m z) → c.s = stt [p0, p1, p2] 3 → c.s.Ok → IntsAre c.us (natsI c.s.list) → c.oS.data = .cell (some (.ref c.sa)) → Fr h₀ L h' m' → News h₀ L h' ((L + 1 + 1, c.oT) :: (L + 1, c.oS) :: (c.sa, listOf c.us.toArray c.nn) :: rest) → Q .next { s with heap := h', toks := tk' }) :
    wpAny (model Challenge.rw_oo0001_03.row.prog w) (callerA.deeper (lawEnv Challenge.rw_oo0001_03.prog L fa cd)) (pyIter (.ref pl)) (fun it s₂ => LoopAtV Challenge.rw_oo0001_03.row.prog w (callerA.deeper (lawEnv Challenge.rw_oo0001_03.prog L fa cd)) h₀ (lawEnv Challenge.rw_oo0001_03.prog L fa cd) "piece" (forBody ((lawBody Challenge.rw_oo0001_03.prog).getD 7 (Stmt.Pass default))) Q E it s₂) E s := by
  revert hX; k_fill; intro hX
  refine forGL (σ := PieC) (l := pl) (vs := [Value.ref a0, Value.ref a1, Value.ref a2]) (nn := ln) (fun c => (L + 1 + 1, c.oT) :: (L + 1, c.oS) :: (c.sa, listOf c.us.toArray c.nn) :: rest) (fun _ => [("tables", .ref tD)]) [] (fun i c => c.s = stt [p0, p1, p2] i ∧ c.s.Ok ∧ IntsAre c.us (natsI c.s.list) ∧ c.oS.data = .cell (some (.ref c.sa)) ∧ c.oT.data = .cell c.tv ∧ c.sa ≠ L + 1 + 1 ∧ c.sa ≠ L + 1) ⟨⟨0, 0, 0, 0, 0, 1⟩, sa, su, sn, oS, oT, vT⟩ rfl (fun _ _ _ => .tail _ (.tail _ (.tail _ hpl))) F N ?q1 ?q2 ?turn ?done
  case q1 => exact List.forall_mem_cons.mpr ⟨m1, List.forall_mem_nil _⟩
  case q2 => exact ⟨rfl, st0_ok, hsI, hdS, hdT, hsa, hsb⟩
  case done =>
    rintro c u h tk ⟨h1, h2, h3, h4, -, -, -⟩ F3 N3
    refine hdone h tk _ c (fun z hz => ?_) h1 h2 h3 h4 F3 N3
    simp only [hz, kstB, List.contains_nil, Bool.false_eq_true, if_false]
    split
    · rename_i e; rw [e]; exact m1.symm
    · rfl
  case turn =>
    intro c i v u h tk own hv hoff hp F3 N3
    replace F3 : Fr h₀ L h _ := F3
    replace N3 : News h₀ L h _ := N3
    dsimp only [kstB] at F3
    obtain ⟨hc1, hcok, hcI, hcS, hcT, hcA, hcB⟩ := hp
    replace hcA := neN hcA
    replace hcB := neN hcB
    obtain ⟨pa, pus, pnn, ps, rfl, hpm, hpI, hpx, hpl', hpi⟩ : ∃ pa pus pnn ps, v = .ref pa ∧ (pa, listOf pus.toArray pnn) ∈ rest ∧ IntsAre pus (natsI ps) ∧ (∀ x ∈ ps, x < 32) ∧ ps.length ≤ 32 ∧ [p0, p1, p2][i]? = some ps := by
      rcases i with _ | _ | _ | i
      · cases hv; exact ⟨a0, w0, n0, p0, rfl, hq0, hi0, hx0, hl0, rfl⟩
      · cases hv; exact ⟨a1, w1, n1, p1, rfl, hq1, hi1, hx1, hl1, rfl⟩
      · cases hv; exact ⟨a2, w2, n2, p2, rfl, hq2, hi2, hx2, hl2, rfl⟩
      · cases hv
    have hcn : (natsI c.s.list).length ≤ 32 := by simp [natsI, St.list]
    have hpn : (natsI ps).length ≤ 32 := by simpa [natsI] using hpl'
    have hoA : ∀ p ∈ own, p.1 ≠ L + 1 + 1 := fun p hp => hoff p hp _ (.head _)
    have hoB : ∀ p ∈ own, p.1 ≠ L + 1 := fun p hp => hoff p hp _ (.tail _ (.head _))
    simp only [List.cons_append] at N3
    obtain ⟨ro, hro⟩ : ∃ ro, ro = rest ++ own := ⟨_, rfl⟩
    rw [← hro] at N3
    have hroA : ∀ p ∈ ro, p.1 ≠ L + 1 + 1 := fun p hp => by
      rw [hro] at hp; exact (List.mem_append.mp hp).elim (hra p) (hoA p)
    have hroB : ∀ p ∈ ro, p.1 ≠ L + 1 := fun p hp => by
      rw [hro] at hp; exact (List.mem_append.mp hp).elim (hrb p) (hoB p)
    have hTro : TabsAt ro tD := hTabs.mono (fun p hp => by rw [hro]; exact List.mem_append_left _ hp)
    have hpmr : (pa, listOf pus.toArray pnn) ∈ ro := by rw [hro]; exact List.mem_append_left _ hpm
    dsimp only [lawEnv]
    with_unfolding_all (refine wpAny_execs_cons ?_)
    tb_start
    k_dflt (refine' poly_use ?xk1 ?xk2 ?xk3 ?xk4 ?xk5 ?xkK ?xm ?xi ?xx ?xl (poly_tells _ _ _ _ _) ?xkd ?xku ?_)
    case xk1 => k_asm
    case xk2 => k_asm
    case xk3 => k_asm
    case xk4 => k_asm
    case xk5 => k_asm
    case xkK => first | exact rfl | assumption
    case xm => k_mem
    case xi => with_reducible assumption
    case xx => with_reducible assumption
    case xl => omega
    case xkd => ktr_room
    case xku => ktr_units
    intro tt h4 tk4 F4 N4
    have hpb := polyN_lt ps hpx
    clear F3 N3
    generalize hT0 : polyN ps = told at hpb ⊢
    tb_start
    · exfalso
      rename (2 ^ Int.toNat 30 ≤ _) => hge
      have h30 : (2 : Int) ^ Int.toNat 30 = 1073741824 := by decide
      omega
    rename (IntsAre _ (_ ++ [_])) => hA1
    rename (IntsAre _ (List.flatten _)) => hA2
    rw [minus1_list] at hA1
    rw [zeros_list ps.length _ (by simp [natsI])] at hA2
    have hmok := minus1_ok hcok
    have hz32 := zeros_lt ps.length
    rename Fr _ _ _ _ => F5
    rename News _ _ _ _ => N5
    k_dflt (refine' run_use ?xk1 ?xk2 ?xk3 ?xk4 ?xk5 ?xkK ?xm ?xi ?xmv ?xiv ?xt ?xo ?xx ?xl (run_tells _ _ _ _ _) ?xkd ?xku ?_)
    case xk1 => k_asm
    case xk2 => k_asm
    case xk3 => k_asm
    case xk4 => k_asm
    case xk5 => k_asm
    case xkK => first | exact rfl | assumption
    case xm => k_mem
    case xi => with_reducible assumption
    case xmv => k_mem
    case xiv => with_reducible assumption
    case xt => first | with_reducible assumption | (refine TabsAt.mono (by with_reducible assumption) ?_; intro p hp; repeat (first | exact hp | refine List.mem_cons_of_mem _ ?_))
    case xo => with_reducible assumption
    case xx => with_reducible assumption
    case xl => first | omega | (simp only [List.length_replicate]; omega)
    case xkd => ktr_room
    case xku => ktr_units
    intro rl rus rnn h6 tk6 hrI F6 N6 hrl
    replace hrl := allLt_of hrl
    simp only [AllLt] at hrl
    clear F5 N5
    tb_start
    rename Fr _ _ _ _ => F7
    rename News _ _ _ _ => N7
    rename (Obj.data _ = Data.cell (some (Value.ref rl))) => hdS2
    rename (Obj.data _ = Data.cell (some (Value.int _ _))) => hdT2
    obtain ⟨oT2, oS2, hdT3, hdS3, N8⟩ : ∃ oT2 oS2, oT2.data = Data.cell (some (Value.int (told : Nat) tt)) ∧ oS2.data = Data.cell (some (Value.ref rl)) ∧ News h₀ L _ ((L + 1 + 1, oT2) :: (L + 1, oS2) :: (rl, listOf rus.toArray rnn) :: ro) :=
      ⟨_, _, hdT2, hdS2, kst_newsOf N7 (List.forall_mem_cons.mpr ⟨by k_mem, List.forall_mem_cons.mpr ⟨by k_mem, List.forall_mem_cons.mpr ⟨.head _, fun p hp => by repeat (first | exact hp | refine List.mem_cons_of_mem _ ?_)⟩⟩⟩)⟩
    clear N7 hdS2 hdT2
    have hrlA : rl ≠ L + 1 + 1 := Nat.ne_of_gt hrl.2.2.2.2.2.1
    have hrlB : rl ≠ L + 1 := Nat.ne_of_gt hrl.2.2.2.2.2.2.1
    refine wpAny_Assign_Name ?_ (by with_unfolding_all rfl)
    k_dflt (refine LCg.ListComp_U (F₀ := F7) (by with_unfolding_all rfl) (by decide) (by rfl) (by decide) (by rfl) ?_)
    tb_start
    rename Fr _ _ _ _ => F8
    rename News _ _ _ _ => N9
    rename IsRange _ _ _ _ _ _ _ _ => R9
    k_dflt (refine LCg.CompSrc.range (n := 6) (by rfl) F8 N9 R9 (by decide) (by rfl) (Nat.le_of_ble_eq_true rfl) ?_)
    intro gg
    clear F8 N9 R9
    replace hrlB := neN hrlB
    refine LCg.CompRest.succ ?_
    intro v I oI C oC D m2 h tk E' hv hC hx FB NB off ne
    obtain ⟨t90, rfl⟩ := hv
    replace hx : m2 "k" = some (.int 0 t90) := hx
    iterate 30 (first | ((fail_if_success (with_reducible show wpAny _ _ (PyProof.Rows.subscriptTail _ _ _ _) _ _ _)); walk1) | skip)
    refine' item_my (j := 0) ?y0N ?y0m ?y0i ?y0j ?y0k ?y0b ?_ ?y0s
    case y0N => k_asm
    case y0m => k_dflt k_mem
    case y0i => with_reducible assumption
    case y0j => rfl
    case y0k => exact Nat.le_of_ble_eq_true rfl
    case y0b => exact Nat.le_of_ble_eq_true rfl
    case y0s => with_unfolding_all rfl
    intro ti0
    iterate 12 (first | ((fail_if_success (with_reducible show wpAny _ _ (PySem.binaryOp _ _ _) _ _ _)); walk1) | skip)
    walk1
    iterate 12 (first | ((fail_if_success (with_reducible show wpAny _ _ (PySem.binaryOp _ _ _) _ _ _)); walk1) | skip)
    walk1
    iterate 12 (first | ((fail_if_success (with_reducible show wpAny _ _ (PySem.binaryOp _ _ _) _ _ _)); walk1) | skip)
    refine floordiv_int (by decide) ?_
    iterate 12 (first | ((fail_if_success (with_reducible show wpAny _ _ (PySem.binaryOp _ _ _) _ _ _)); walk1) | skip)
    refine mod_int' (by decide) ?_
    tb_start
    refine LCg.CompEnd.intro FB NB _ (fun _ h => h) off trivial ?_
    clear FB NB hx hC off ne
    refine LCg.CompRest.succ ?_
    intro v I oI C oC D m2 h tk E' hv hC hx FB NB off ne
    obtain ⟨t91, rfl⟩ := hv
    replace hx : m2 "k" = some (.int 1 t91) := hx
    iterate 30 (first | ((fail_if_success (with_reducible show wpAny _ _ (PyProof.Rows.subscriptTail _ _ _ _) _ _ _)); walk1) | skip)
    refine' item_my (j := 1) ?y1N ?y1m ?y1i ?y1j ?y1k ?y1b ?_ ?y1s
    case y1N => k_asm
    case y1m => k_dflt k_mem
    case y1i => with_reducible assumption
    case y1j => rfl
    case y1k => exact Nat.le_of_ble_eq_true rfl
    case y1b => exact Nat.le_of_ble_eq_true rfl
    case y1s => with_unfolding_all rfl
    intro ti1
    iterate 12 (first | ((fail_if_success (with_reducible show wpAny _ _ (PySem.binaryOp _ _ _) _ _ _)); walk1) | skip)
    walk1
    iterate 12 (first | ((fail_if_success (with_reducible show wpAny _ _ (PySem.binaryOp _ _ _) _ _ _)); walk1) | skip)
    walk1
    iterate 12 (first | ((fail_if_success (with_reducible show wpAny _ _ (PySem.binaryOp _ _ _) _ _ _)); walk1) | skip)
    refine floordiv_int (by decide) ?_
    iterate 12 (first | ((fail_if_success (with_reducible show wpAny _ _ (PySem.binaryOp _ _ _) _ _ _)); walk1) | skip)
    refine mod_int' (by decide) ?_
    tb_start
    refine LCg.CompEnd.intro FB NB _ (fun _ h => h) off trivial ?_
    clear FB NB hx hC off ne
    refine LCg.CompRest.succ ?_
    intro v I oI C oC D m2 h tk E' hv hC hx FB NB off ne
    obtain ⟨t92, rfl⟩ := hv
    replace hx : m2 "k" = some (.int 2 t92) := hx
    iterate 30 (first | ((fail_if_success (with_reducible show wpAny _ _ (PyProof.Rows.subscriptTail _ _ _ _) _ _ _)); walk1) | skip)
    refine' item_my (j := 2) ?y2N ?y2m ?y2i ?y2j ?y2k ?y2b ?_ ?y2s
    case y2N => k_asm
    case y2m => k_dflt k_mem
    case y2i => with_reducible assumption
    case y2j => rfl
    case y2k => exact Nat.le_of_ble_eq_true rfl
    case y2b => exact Nat.le_of_ble_eq_true rfl
    case y2s => with_unfolding_all rfl
    intro ti2
    iterate 12 (first | ((fail_if_success (with_reducible show wpAny _ _ (PySem.binaryOp _ _ _) _ _ _)); walk1) | skip)
    walk1
    iterate 12 (first | ((fail_if_success (with_reducible show wpAny _ _ (PySem.binaryOp _ _ _) _ _ _)); walk1) | skip)
    walk1
    iterate 12 (first | ((fail_if_success (with_reducible show wpAny _ _ (PySem.binaryOp _ _ _) _ _ _)); walk1) | skip)
    refine floordiv_int (by decide) ?_
    iterate 12 (first | ((fail_if_success (with_reducible show wpAny _ _ (PySem.binaryOp _ _ _) _ _ _)); walk1) | skip)
    refine mod_int' (by decide) ?_
    tb_start
    refine LCg.CompEnd.intro FB NB _ (fun _ h => h) off trivial ?_
    clear FB NB hx hC off ne
    refine LCg.CompRest.succ ?_
    intro v I oI C oC D m2 h tk E' hv hC hx FB NB off ne
    obtain ⟨t93, rfl⟩ := hv
    replace hx : m2 "k" = some (.int 3 t93) := hx
    iterate 30 (first | ((fail_if_success (with_reducible show wpAny _ _ (PyProof.Rows.subscriptTail _ _ _ _) _ _ _)); walk1) | skip)
    refine' item_my (j := 3) ?y3N ?y3m ?y3i ?y3j ?y3k ?y3b ?_ ?y3s
    case y3N => k_asm
    case y3m => k_dflt k_mem
    case y3i => with_reducible assumption
    case y3j => rfl
    case y3k => exact Nat.le_of_ble_eq_true rfl
    case y3b => exact Nat.le_of_ble_eq_true rfl
    case y3s => with_unfolding_all rfl
    intro ti3
    iterate 12 (first | ((fail_if_success (with_reducible show wpAny _ _ (PySem.binaryOp _ _ _) _ _ _)); walk1) | skip)
    walk1
    iterate 12 (first | ((fail_if_success (with_reducible show wpAny _ _ (PySem.binaryOp _ _ _) _ _ _)); walk1) | skip)
    walk1
    iterate 12 (first | ((fail_if_success (with_reducible show wpAny _ _ (PySem.binaryOp _ _ _) _ _ _)); walk1) | skip)
    refine floordiv_int (by decide) ?_
    iterate 12 (first | ((fail_if_success (with_reducible show wpAny _ _ (PySem.binaryOp _ _ _) _ _ _)); walk1) | skip)
    refine mod_int' (by decide) ?_
    tb_start
    refine LCg.CompEnd.intro FB NB _ (fun _ h => h) off trivial ?_
    clear FB NB hx hC off ne
    refine LCg.CompRest.succ ?_
    intro v I oI C oC D m2 h tk E' hv hC hx FB NB off ne
    obtain ⟨t94, rfl⟩ := hv
    replace hx : m2 "k" = some (.int 4 t94) := hx
    iterate 30 (first | ((fail_if_success (with_reducible show wpAny _ _ (PyProof.Rows.subscriptTail _ _ _ _) _ _ _)); walk1) | skip)
    refine' item_my (j := 4) ?y4N ?y4m ?y4i ?y4j ?y4k ?y4b ?_ ?y4s
    case y4N => k_asm
    case y4m => k_dflt k_mem
    case y4i => with_reducible assumption
    case y4j => rfl
    case y4k => exact Nat.le_of_ble_eq_true rfl
    case y4b => exact Nat.le_of_ble_eq_true rfl
    case y4s => with_unfolding_all rfl
    intro ti4
    iterate 12 (first | ((fail_if_success (with_reducible show wpAny _ _ (PySem.binaryOp _ _ _) _ _ _)); walk1) | skip)
    walk1
    iterate 12 (first | ((fail_if_success (with_reducible show wpAny _ _ (PySem.binaryOp _ _ _) _ _ _)); walk1) | skip)
    walk1
    iterate 12 (first | ((fail_if_success (with_reducible show wpAny _ _ (PySem.binaryOp _ _ _) _ _ _)); walk1) | skip)
    refine floordiv_int (by decide) ?_
    iterate 12 (first | ((fail_if_success (with_reducible show wpAny _ _ (PySem.binaryOp _ _ _) _ _ _)); walk1) | skip)
    refine mod_int' (by decide) ?_
    tb_start
    refine LCg.CompEnd.intro FB NB _ (fun _ h => h) off trivial ?_
    clear FB NB hx hC off ne
    refine LCg.CompRest.succ ?_
    intro v I oI C oC D m2 h tk E' hv hC hx FB NB off ne
    obtain ⟨t95, rfl⟩ := hv
    replace hx : m2 "k" = some (.int 5 t95) := hx
    iterate 30 (first | ((fail_if_success (with_reducible show wpAny _ _ (PyProof.Rows.subscriptTail _ _ _ _) _ _ _)); walk1) | skip)
    refine' item_my (j := 5) ?y5N ?y5m ?y5i ?y5j ?y5k ?y5b ?_ ?y5s
    case y5N => k_asm
    case y5m => k_dflt k_mem
    case y5i => with_reducible assumption
    case y5j => rfl
    case y5k => exact Nat.le_of_ble_eq_true rfl
    case y5b => exact Nat.le_of_ble_eq_true rfl
    case y5s => with_unfolding_all rfl
    intro ti5
    iterate 12 (first | ((fail_if_success (with_reducible show wpAny _ _ (PySem.binaryOp _ _ _) _ _ _)); walk1) | skip)
    walk1
    iterate 12 (first | ((fail_if_success (with_reducible show wpAny _ _ (PySem.binaryOp _ _ _) _ _ _)); walk1) | skip)
    walk1
    iterate 12 (first | ((fail_if_success (with_reducible show wpAny _ _ (PySem.binaryOp _ _ _) _ _ _)); walk1) | skip)
    refine floordiv_int (by decide) ?_
    iterate 12 (first | ((fail_if_success (with_reducible show wpAny _ _ (PySem.binaryOp _ _ _) _ _ _)); walk1) | skip)
    refine mod_int' (by decide) ?_
    tb_start
    refine LCg.CompEnd.intro FB NB _ (fun _ h => h) off trivial ?_
    clear FB NB hx hC off ne
    refine LCg.CompRest.zero ?_
    intro nD h10 tk10 F10 N10 o10
    simp only [LCg.Off1] at o10
    simp only [List.nil_append, List.cons_append] at N10
    tb_start
    rename Fr _ _ _ _ => FE
    rename News _ _ _ _ => NE
    rename Obj => oE
    rename (Obj.data _ = Data.cell (some (Value.ref nD))) => hdE
    obtain ⟨vals, NE2, hvals⟩ : ∃ vals : List Value, News h₀ L _ ((nD, listOf vals.toArray 6) :: (L + 1 + 1, oT2) :: (L + 1, oE) :: (rl, listOf rus.toArray rnn) :: ro) ∧ IntsAre vals (natsI ((run c.s.minus1 (List.replicate ps.length 0)).xor (digs told)).list) :=
      ⟨_, NE, intsCons (digv _ _ 5) (intsCons (digv _ _ 4) (intsCons (digv _ _ 3) (intsCons (digv _ _ 2) (intsCons (digv _ _ 1) (intsCons (digv _ _ 0) .nil)))))⟩
    refine gs_end (⟨pieceStep c.s ps, nD, vals, 6, oE, oT2, some (.int (told : Nat) tt)⟩ : PieC) FE NE2 ?g1 ?g2 ?g3 ?g4 ?g5 ?g6
    case g1 =>
      refine List.forall_mem_cons.mpr ⟨.tail _ (.head _), List.forall_mem_cons.mpr ⟨.tail _ (.tail _ (.head _)), List.forall_mem_cons.mpr ⟨.head _, fun p hp => .tail _ (.tail _ (.tail _ (.tail _ ?_)))⟩⟩⟩
      rw [hro]; exact List.mem_append_left _ hp
    case g2 =>
      intro p hp
      refine .tail _ (.tail _ (.tail _ (.tail _ ?_)))
      rw [hro]; exact List.mem_append_right _ hp
    case g3 =>
      intro p hp
      refine List.forall_mem_cons.mpr ⟨hoA p hp, List.forall_mem_cons.mpr ⟨hoB p hp, List.forall_mem_cons.mpr ⟨?_, fun q hq => hoff p hp q (.tail _ (.tail _ (.tail _ hq)))⟩⟩⟩
      exact off1_mem o10.2.2.2 p (by rw [hro]; exact List.mem_append_right _ hp)
    case g4 => exact List.forall_mem_cons.mpr ⟨rfl, List.forall_mem_nil _⟩
    case g5 =>
      intro z h1 h2 h3
      have h4 : z ≠ "tables" := h2 _ (.head _)
      simp only [if_neg h1, if_neg h4, List.contains_nil, Bool.false_eq_true, if_false]
    case g6 =>
      refine ⟨?_, pieceStep_ok hcok, ?_, hdE, hdT3, Ne.symm o10.1, Ne.symm o10.2.1⟩
      · show pieceStep c.s ps = _
        unfold stt
        rw [List.take_add_one, hpi, List.foldl_append, hc1]; rfl
      · show IntsAre _ (natsI (pieceStep c.s ps).list)
        rw [show pieceStep c.s ps = (run c.s.minus1 (List.replicate ps.length 0)).xor (digs told) by rw [← hT0]; rfl]
        exact hvals
local macro_rules | `(tactic| tb_start) => `(tactic| repeat' (first
  | (k_unfold; (try dsimp only))
  | ((fail_if_success (with_reducible show wpAny _ _ (PySem.exec (PySem.Stmt.For _ _ _ _ _) _) _ _ _)); (fail_if_success (with_reducible show wpAny _ _ (PySem.exec (PySem.Stmt.While _ _ _ _) _) _ _ _)); (fail_if_success (with_reducible show wpAny _ _ (PySem.pyIter _) _ _ _)); (fail_if_success (with_reducible show InvPostN _ _ _ _ _ _ _ _ _)); (fail_if_success (with_reducible show InvEndN _ _ _ _ _ _ _)); (fail_if_success (with_reducible show ShiftWantsBound)); (fail_if_success (with_reducible show wpAny _ _ (PySem.call (Value.ref _) _) _ _ _));
     (fail_if_success (with_reducible show wpAny _ _ (PySem.eval (PySem.Expr.ListComp _ _ _ _) _) _ _ _)); (fail_if_success (with_reducible show wpAny _ _ (PySem.exec (PySem.Stmt.Assign _ (PySem.Expr.ListComp _ _ _ _) _) _) _ _ _)); (fail_if_success (with_reducible show LCg.CompSrc _ _ _ _ _ _ _ _ _ _ _ _ _ _)); (fail_if_success (with_reducible show LCg.CompEnd _ _ _ _ _ _ _ _ _ _ _ _ _ _)); first | walk1 | (dsimp only; walk1))))
local macro_rules | `(tactic| ktr_unf) => `(tactic| (k_dflt (refine' at_use ?k1 ?k2 ?k3 ?k4 ?k5 ?kK ?kl ?ki ?kf ?k0 (at_tells _ _ _ _ _) ?kd ?ku ?_); (case k1 => k_asm); (case k2 => k_asm); (case k3 => k_asm); (case k4 => k_asm); (case k5 => k_asm); (case kK => first | exact rfl | assumption); (case kl => with_reducible assumption); (case ki => with_reducible assumption); (case kf => l_fit); (case k0 => decide); (case kd => ktr_room); (case ku => ktr_units)))
set_option maxHeartbeats 1500000 in
theorem tail3 (w : World) (loose : List Str) (mean : ExcName → Option Value) (mg mb : Str → Option Value) (h₀ : Heap) (L fa : Addr) (cd : Value) (s : Shared) (m : Str → Option Value) (rest : List (Addr × Obj)) (oA oB : Obj) (vA vB : Option Value) (tD rl : Addr) (us : List Value) (nn : Nat) (xs : List Nat) (f g la : Nat) (t1 t2 t3 : Tok)
    (Q : Flow → Shared → Prop) (E : Value → Shared → Prop)
    (hB : Below callerA h₀ [] h₀) (hX : (hd03.heap_39 w.params).In h₀) (hT : Top hd03.view_39 loose mean mg mb h₀) (F : Fr h₀ L s.heap m) (N : News h₀ L s.heap ((L + 1 + 1, oA) :: (L + 1, oB) :: rest))
    (m1 : m "tables" = some (.ref tD)) (m2 : m "last" = some (.int (la : Nat) t1)) (m3 : m "second" = some (.int (g : Nat) t2)) (m4 : m "first" = some (.int (f : Nat) t3)) (m5 : m "row" = some (.ref rl))
    (hdA : oA.data = .cell vA) (hdB : oB.data = .cell vB) (hTabs : TabsAt rest tD) (hrow : (rl, listOf us.toArray nn) ∈ rest) (hra : ∀ p ∈ rest, p.1 ≠ L + 1 + 1) (hrb : ∀ p ∈ rest, p.1 ≠ L + 1)
    (hI : IntsAre us (natsI xs)) (hxs : ∀ x ∈ xs, x < 32) (hxl : xs.length ≤ 32) (hfg : f ≤ g) (hgl : g ≤ xs.length) (hla : la < 32)
    (hE : PassesOwn (model Challenge.rw_oo0001_03.row.prog w) (callerA.deeper (lawEnv Challenge.rw_oo0001_03.prog L fa cd)) (lawEnv Challenge.rw_oo0001_03.prog L fa cd) E)
    (hret : ∀ h' tk' m', Fr h₀ L h' m' → Q (.ret (.bool true)) { s with heap := h', toks := tk' }) :
    wpAny (model Challenge.rw_oo0001_03.row.prog w) (callerA.deeper (lawEnv Challenge.rw_oo0001_03.prog L fa cd)) (execs ((lawBody Challenge.rw_oo0001_03.prog).drop 6) (lawEnv Challenge.rw_oo0001_03.prog L fa cd)) Q E s := by
  revert hX; k_fill; intro hX
  have hxn : (natsI xs).length ≤ 32 := by simpa [natsI] using hxl
  replace F : Fr h₀ L s.heap (kstB m [("tables", .ref tD), ("last", .int (la : Nat) t1), ("second", .int (g : Nat) t2), ("first", .int (f : Nat) t3), ("row", .ref rl)]) := by
    have e : kstB m [("tables", .ref tD), ("last", .int (la : Nat) t1), ("second", .int (g : Nat) t2), ("first", .int (f : Nat) t3), ("row", .ref rl)] = m := by
      funext z
      refine kstB_eq ?_ (fun _ => rfl)
      exact List.forall_mem_cons.mpr ⟨m1, List.forall_mem_cons.mpr ⟨m2, List.forall_mem_cons.mpr ⟨m3, List.forall_mem_cons.mpr ⟨m4, List.forall_mem_cons.mpr ⟨m5, List.forall_mem_nil _⟩⟩⟩⟩⟩
    rw [e]; exact F
  dsimp only [kstB] at F
  with_unfolding_all (refine wpAny_execs_cons ?_)
  tb_start
  rename Fr _ _ _ _ => F1
  rename News _ _ _ _ => N1
  with_unfolding_all refine' For_invVF (hE := hE) F1 ?kk1 ?kk2 ?_
  case kk1 => exact rfl
  case kk2 => exact rfl
  tb_start
  rename Fr _ _ _ _ => F2
  rename News _ _ _ _ => N2
  rename (Obj.data _ = Data.cell (some _)) => hcS
  rename (IntsAre _ (List.drop _ _)) => hp2
  rename (IntsAre _ (List.take _ (List.drop _ _))) => hp1
  rename (IntsAre _ (List.take _ (natsI xs))) => hp0
  rw [natsI_take] at hp0
  rw [natsI_mid xs f g hgl] at hp1
  rw [natsI_drop] at hp2
  rename_i sa _ g1 _ oS a0 w0 _ g2 a1 w1 _ g3 a2 w2 _ g4 pl hz g5
  have hxf : ∀ x ∈ xs.take f, x < 32 := fun x hx => hxs x (List.mem_of_mem_take hx)
  have hxm : ∀ x ∈ (xs.drop f).take (g - f), x < 32 := fun x hx => hxs x (List.mem_of_mem_drop (List.mem_of_mem_take hx))
  have hxd : ∀ x ∈ xs.drop g, x < 32 := fun x hx => hxs x (List.mem_of_mem_drop hx)
  have hlf : (xs.take f).length ≤ 32 := by rw [List.length_take]; omega
  have hlm : ((xs.drop f).take (g - f)).length ≤ 32 := by rw [List.length_take, List.length_drop]; omega
  have hld : (xs.drop g).length ≤ 32 := by rw [List.length_drop]; omega
  refine loop3 w loose mean mg mb h₀ L fa cd _ _ ((pl, _) :: (a2, _) :: (a1, _) :: (a0, _) :: rest) oA oS vA tD pl a0 a1 a2 sa w0 w1 w2 [Value.int 0 s.toks, Value.int 0 (s.toks + 1), Value.int 0 (s.toks + 1 + 1), Value.int 0 (s.toks + 1 + 1 + 1), Value.int 0 (s.toks + 1 + 1 + 1 + 1), Value.int 1 (s.toks + 1 + 1 + 1 + 1 + 1)] 0 0 0 0 0 (xs.take f) ((xs.drop f).take (g - f)) (xs.drop g) _ _ hB hX hT F2 (kst_newsOf N2 ?b1) rfl hdA hcS ?b0 ?b2 ?b3 (Nat.ne_of_gt g1.1) (Nat.ne_of_gt g1.2.1) (.head _) (.tail _ (.tail _ (.tail _ (.head _)))) (.tail _ (.tail _ (.head _))) (.tail _ (.head _)) hp0 hp1 hp2 (IntsAre.cons 0 _ (.cons 0 _ (.cons 0 _ (.cons 0 _ (.cons 0 _ (.cons 1 _ .nil)))))) hxf hxm hxd hlf hlm hld ?b13
  case b1 =>
    refine List.forall_mem_cons.mpr ⟨by k_mem, List.forall_mem_cons.mpr ⟨by k_mem, List.forall_mem_cons.mpr ⟨by k_mem, List.forall_mem_cons.mpr ⟨by k_mem, List.forall_mem_cons.mpr ⟨by k_mem, List.forall_mem_cons.mpr ⟨by k_mem, List.forall_mem_cons.mpr ⟨by k_mem, fun p hp => ?_⟩⟩⟩⟩⟩⟩⟩
    repeat (first | exact hp | refine List.mem_cons_of_mem _ ?_)
  case b0 => refine TabsAt.mono hTabs ?_; intro p hp; repeat (first | exact hp | refine List.mem_cons_of_mem _ ?_)
  case b2 =>
    exact List.forall_mem_cons.mpr ⟨Nat.ne_of_gt (by omega), List.forall_mem_cons.mpr ⟨Nat.ne_of_gt (by omega), List.forall_mem_cons.mpr ⟨Nat.ne_of_gt (by omega), List.forall_mem_cons.mpr ⟨Nat.ne_of_gt (by omega), hra⟩⟩⟩⟩
  case b3 =>
    exact List.forall_mem_cons.mpr ⟨Nat.ne_of_gt (by omega), List.forall_mem_cons.mpr ⟨Nat.ne_of_gt (by omega), List.forall_mem_cons.mpr ⟨Nat.ne_of_gt (by omega), List.forall_mem_cons.mpr ⟨Nat.ne_of_gt (by omega), hrb⟩⟩⟩⟩
  case b13 =>
    intro h4 tk4 m4' c hm' hc1 hcok hcI hcS F3 N3
    clear F2 N2
    replace F3 : Fr h₀ L h4 (kstB m4' [("tables", .ref tD), ("last", .int (la : Nat) t1), ("row", .ref rl)]) := by
      have e : kstB m4' [("tables", .ref tD), ("last", .int (la : Nat) t1), ("row", .ref rl)] = m4' := by
        funext z
        refine kstB_eq ?_ (fun _ => rfl)
        refine List.forall_mem_cons.mpr ⟨?_, List.forall_mem_cons.mpr ⟨?_, List.forall_mem_cons.mpr ⟨?_, List.forall_mem_nil _⟩⟩⟩
        · rw [hm' _ (by exact (by decide : ("tables" : Str) ≠ "piece"))]; rfl
        · rw [hm' _ (by exact (by decide : ("last" : Str) ≠ "piece"))]; rfl
        · rw [hm' _ (by exact (by decide : ("row" : Str) ≠ "piece"))]; rfl
      rw [e]; exact F3
    dsimp only [kstB] at F3
    have hcn : (natsI c.s.list).length ≤ 32 := by simp [natsI, St.list]
    dsimp only
    with_unfolding_all (refine wpAny_execs_cons ?_)
    tb_start
    rename Fr _ _ _ _ => F4
    rename News _ _ _ _ => N4
    with_unfolding_all refine' For_invVF (hE := hE) F4 ?kk3 ?kk4 ?_
    case kk3 => exact rfl
    case kk4 => exact rfl
    tb_start
    have hL1 : IntsAre [Value.int (la : Nat) t1] (natsI [la]) := .cons _ _ .nil
    have hL2 : ∀ x ∈ [la], x < 32 := fun x hx => by rw [List.mem_singleton.mp hx]; exact hla
    have hL3 : [la].length ≤ 1000 := Nat.le_of_ble_eq_true rfl
    rename Fr _ _ _ _ => F5
    rename News _ _ _ _ => N5
    k_dflt (refine' run_use ?xk1 ?xk2 ?xk3 ?xk4 ?xk5 ?xkK ?xm ?xi ?xmv ?xiv ?xt ?xo ?xx ?xl (run_tells _ _ _ _ _) ?xkd ?xku ?_)
    case xk1 => k_asm
    case xk2 => k_asm
    case xk3 => k_asm
    case xk4 => k_asm
    case xk5 => k_asm
    case xkK => first | exact rfl | assumption
    case xm => k_mem
    case xi => with_reducible assumption
    case xmv => k_mem
    case xiv => with_reducible assumption
    case xt => first | with_reducible assumption | (refine TabsAt.mono (by with_reducible assumption) ?_; intro p hp; repeat (first | exact hp | refine List.mem_cons_of_mem _ ?_))
    case xo => with_reducible assumption
    case xx => with_reducible assumption
    case xl => first | omega | (simp only [List.length_replicate]; omega)
    case xkd => ktr_room
    case xku => ktr_units
    intro rlA rus rnn h6 tk6 hrI F6 N6 hrl
    have hro := run_ok [la] hcok hL2
    dsimp only
    with_unfolding_all refine' kst_listL (σ := Nat × Nat) (ns := natsI (run c.s [la]).list) (fun _ => _) (fun c => [("due", .int c.1 c.2)]) (fun _ => True) [] (fun pre c => c.1 = (pre.map Int.toNat).foldl (fun d x => 32 * d + x) 0) (0, _) (by rfl) (fun _ => .head _) hrI F6 N6 trivial ?q1 ?q2 ?turn ?done
    case q1 => intro p hp; rcases List.mem_singleton.mp hp with rfl; rfl
    case q2 => rfl
    case turn =>
      intro c2 pre post n t u h tk own hns hnm hoff _ hp F7 N7
      clear F6 N6 F5 N5
      obtain ⟨v, -, rfl⟩ := List.mem_map.mp hnm
      tb_start
      rename Fr _ _ _ _ => F8
      rename News _ _ _ _ => N8
      refine kst_end (32 * c2.1 + v, ?tkx) F8 N8 (fun p hp => List.mem_append_left _ hp) (fun p hp => List.mem_append_right _ hp) rfl trivial ?f1 ?f2 ?f3
      case f1 => intro p hp; rcases List.mem_singleton.mp hp with rfl; rfl
      case f2 =>
        intro z h1 h2 h3
        have h4 : z ≠ "due" := h2 _ (.head _)
        simp only [kstB, if_neg h1, if_neg h4]
        rfl
      case f3 => simp only [List.map_append, List.foldl_append, ← hp]; rfl
    case done =>
      intro c2 u h tk _ hp F7 N7
      clear F6 N6 F5 N5
      rw [natsI_toNat] at hp
      dsimp only
      tb_start
      rename (IntsAre _ (_ ++ _)) => hJ
      rename Fr _ _ _ _ => F8
      rename News _ _ _ _ => N8
      replace F8 : Fr h₀ L _ _ := F8
      replace N8 : News h₀ L _ _ := N8
      rw [show natsI xs ++ natsI [la] = natsI (xs ++ [la]) from (List.map_append).symm] at hJ
      have hJx : ∀ x ∈ xs ++ [la], x < 32 := fun x hx => (List.mem_append.mp hx).elim (hxs x) (hL2 x)
      have hJl : (xs ++ [la]).length ≤ 900 := by simp; omega
      k_dflt (refine' poly_use ?xk1 ?xk2 ?xk3 ?xk4 ?xk5 ?xkK ?xm ?xi ?xx ?xl (poly_tells _ _ _ _ _) ?xkd ?xku ?_)
      case xk1 => k_asm
      case xk2 => k_asm
      case xk3 => k_asm
      case xk4 => k_asm
      case xk5 => k_asm
      case xkK => first | exact rfl | assumption
      case xm => k_mem
      case xi => with_reducible assumption
      case xx => with_reducible assumption
      case xl => omega
      case xkd => ktr_room
      case xku => ktr_units
      intro tt h7 tk7 F9 N9
      dsimp only
      tb_start
      have hfin : polyN (xs ++ [la]) = c2.1 := by rw [hp, hc1]; exact plain3 xs f g la hxs hfg hgl hla
      rw [hfin, show (((c2.1 : Nat) : Int) == ((c2.1 : Nat) : Int)) = true from beq_self_eq_true _]
      exact hret _ _ _ F9
local macro_rules | `(tactic| tb_start) => `(tactic| repeat' (first
  | (k_unfold; (try dsimp only))
  | ((fail_if_success (with_reducible show wpAny _ _ (PySem.exec (PySem.Stmt.For _ _ _ _ _) _) _ _ _)); (fail_if_success (with_reducible show wpAny _ _ (PySem.exec (PySem.Stmt.While _ _ _ _) _) _ _ _)); (fail_if_success (with_reducible show wpAny _ _ (PySem.pyIter _) _ _ _)); (fail_if_success (with_reducible show InvPostN _ _ _ _ _ _ _ _ _)); (fail_if_success (with_reducible show InvEndN _ _ _ _ _ _ _)); (fail_if_success (with_reducible show ShiftWantsBound)); (fail_if_success (with_reducible show wpAny _ _ (PySem.call (Value.ref _) _) _ _ _));
     (fail_if_success (with_reducible show wpAny _ _ (PySem.eval (PySem.Expr.ListComp _ _ _ _) _) _ _ _)); (fail_if_success (with_reducible show wpAny _ _ (PySem.exec (PySem.Stmt.Assign _ (PySem.Expr.ListComp _ _ _ _) _) _) _ _ _)); (fail_if_success (with_reducible show LCg.CompSrc _ _ _ _ _ _ _ _ _ _ _ _ _ _)); (fail_if_success (with_reducible show LCg.CompEnd _ _ _ _ _ _ _ _ _ _ _ _ _ _)); first | walk1 | (dsimp only; walk1))))
local macro_rules | `(tactic| ktr_unf) => `(tactic| (k_dflt (refine' at_use ?k1 ?k2 ?k3 ?k4 ?k5 ?kK ?kl ?ki ?kf ?k0 (at_tells _ _ _ _ _) ?kd ?ku ?_); (case k1 => k_asm); (case k2 => k_asm); (case k3 => k_asm); (case k4 => k_asm); (case k5 => k_asm); (case kK => first | exact rfl | assumption); (case kl => with_reducible assumption); (case ki => with_reducible assumption); (case kf => l_fit); (case k0 => decide); (case kd => ktr_room); (case ku => ktr_units)))
set_option maxHeartbeats 1500000 in
theorem main03 : PySem.Challenge.rw_oo0001_03.Holds := hd03 (by
  w_strict (k_go0)
  all_goals try k_fold
  rename World => w0
  rename Shared => s1
  rename IntsAre _ _ => hI
  rename Heap.IsList _ _ _ => hL
  rename Below _ _ _ _ => hB
  rename Top _ _ _ _ _ _ => hT
  rename Frag.In _ _ => hX
  rename News _ _ _ _ => N0
  obtain ⟨oA, oB, N0', ⟨vA, hdA⟩, ⟨vB, hdB⟩⟩ : ∃ oA oB, News s1.heap s1.heap.objs.size _ [(s1.heap.objs.size + 1 + 1, oA), (s1.heap.objs.size + 1, oB)] ∧ (∃ v, oA.data = .cell v) ∧ (∃ v, oB.data = .cell v) := ⟨_, _, N0, ⟨_, by assumption⟩, ⟨_, by assumption⟩⟩
  clear N0
  rename Fr _ _ _ _ => F0
  rename (¬ _ < _) => hns
  rename Addr => ls
  rename List Value => lvs
  replace hB : Below callerA s1.heap [] s1.heap := hB
  have F00 : Fr s1.heap s1.heap.objs.size _ (fun y => if y = "script" then some (.ref _) else none) := F0
  clear F0
  tb_start
  rename Fr _ _ _ _ => F1
  rename News _ _ _ _ => N1
  with_unfolding_all refine' For_invVF F1 ?k1 ?k2 ?_
  case k1 => exact rfl
  case k2 => exact rfl
  rename (_ < _ ∧ _ < _) => l1
  have hlt2' := l1.1
  refine cutList F1 N1 32 ?src ?loop
  case src =>
    tb_start
    · rename_i D' ws' h' F' N' hI' hC' hL' lt1
      exact ⟨D', ws', 0, _, h', _, rfl, rfl, F', N', List.forall_mem_cons.mpr ⟨lt1.1, List.forall_mem_cons.mpr ⟨lt1.2.1, List.forall_mem_cons.mpr ⟨lt1.2.2, List.forall_mem_nil _⟩⟩⟩, hI', by rw [hC']; omega⟩
    · rename_i l' h' F' N' lt1
      exact ⟨l', [_, _, _, _], 0, [1, 700, 99, 5000], h', _, rfl, rfl, F', N', List.forall_mem_cons.mpr ⟨lt1.1, List.forall_mem_cons.mpr ⟨lt1.2.1, List.forall_mem_cons.mpr ⟨lt1.2.2, List.forall_mem_nil _⟩⟩⟩, .cons _ _ (.cons _ _ (.cons _ _ (.cons _ _ .nil))), by decide⟩
  case loop =>
    rintro v s' ⟨sl, su, sn, sns, h1, tk1, rfl, rfl, F2, N2, hlt2, hsI, hsn⟩
    clear F1 N1
    with_unfolding_all refine' forGL (σ := RowC) (vs := su) (nn := sn) (fun c => (sl, listOf su.toArray sn) :: (c.rl, listOf c.us.toArray c.nn) :: _) (fun c => [("row", .ref c.rl)]) [] (fun _ c => IntsAre c.us (natsI c.xs) ∧ (∀ x ∈ c.xs, x < 32) ∧ c.xs.length ≤ 32 ∧ s1.heap.objs.size + 1 + 1 < c.rl ∧ c.rl ≠ sl) ⟨_, [], 0, []⟩ (by rfl) (fun _ _ _ => List.mem_cons_self) F2 N2 ?q1 ?q2 ?turn ?done
    case q1 => exact List.forall_mem_cons.mpr ⟨rfl, List.forall_mem_nil _⟩
    case q2 => exact ⟨.nil, (fun x hx => nomatch hx), Nat.zero_le _, hlt2' , Nat.ne_of_lt (hlt2 _ List.mem_cons_self)⟩
    case turn =>
      intro c i v u h tk own hv hoff hp F3 N3
      clear F2 N2
      replace F3 : Fr s1.heap s1.heap.objs.size h _ := F3
      replace N3 : News s1.heap s1.heap.objs.size h _ := N3
      dsimp only [kstB] at F3
      obtain ⟨hpI, hpx, hpl, hpa, hpb⟩ := hp
      have hpn : (natsI c.xs).length ≤ 32 := by simpa [natsI] using hpl
      obtain ⟨n, tn, rfl⟩ : ∃ n tn, v = .int n tn := ints_at hsI hv
      tb_start
      · skip
        k_dflt (refine' dig_use ?xk1 ?xk2 ?xk3 ?xk4 ?xk5 ?xkK ?xlo ?xhi (dig_tells _ _ _ _ _) ?xkd ?xku ?_)
        case xk1 => k_asm
        case xk2 => k_asm
        case xk3 => k_asm
        case xk4 => k_asm
        case xk5 => k_asm
        case xkK => first | exact rfl | assumption
        case xlo => omega
        case xhi => omega
        case xkd => ktr_room
        case xku => ktr_units
        intro dl dus dnn dxs h4 tk4 hdx hd1 hd2 hdI F4 N4 hdl
        clear F3 N3
        tb_start
        rename_i D' ws' h5 hJ lt1 h6 F' N'
        have hlA := tb_ltOf lt1.2
        refine gs_end (⟨D', ws', 0, c.xs ++ dxs⟩ : RowC) F' N' ?g1 ?g2 ?g3 ?g4 ?g5 ?g6
        case g1 => exact List.forall_mem_cons.mpr ⟨.tail _ (.tail _ (.head _)), List.forall_mem_cons.mpr ⟨.head _, List.forall_mem_cons.mpr ⟨.tail _ (.tail _ (.tail _ (.tail _ (.head _)))), List.forall_mem_cons.mpr ⟨.tail _ (.tail _ (.tail _ (.tail _ (.tail _ (.head _))))), List.forall_mem_nil _⟩⟩⟩⟩
        case g2 => exact fun p hp => .tail _ (.tail _ (List.mem_append_right _ hp))
        case g3 =>
          intro p hp
          have h0 := hoff p hp
          exact List.forall_mem_cons.mpr ⟨h0 _ (.head _), List.forall_mem_cons.mpr ⟨Nat.ne_of_lt (hlA p (List.mem_append_right _ hp)), List.forall_mem_cons.mpr ⟨h0 _ (.tail _ (.tail _ (.head _))), List.forall_mem_cons.mpr ⟨h0 _ (.tail _ (.tail _ (.tail _ (.head _)))), List.forall_mem_nil _⟩⟩⟩⟩
        case g4 => exact List.forall_mem_cons.mpr ⟨rfl, List.forall_mem_nil _⟩
        case g5 =>
          intro z h1 h2 h3
          have h4 : z ≠ "row" := h2 _ (.head _)
          simp only [if_neg h1, if_neg h4, List.contains_nil, Bool.false_eq_true, if_false]
        case g6 =>
          refine ⟨?_, fun x hx => (List.mem_append.mp hx).elim (hpx x) (hdx x), ?_, hlA (s1.heap.objs.size + 1 + 1, oA) (.tail _ (.tail _ (.head _))), Nat.ne_of_gt (hlA (sl, _) (.head _))⟩
          · show IntsAre _ (natsI (c.xs ++ dxs))
            rw [show natsI (c.xs ++ dxs) = natsI c.xs ++ natsI dxs from List.map_append]; exact hJ
          · show (c.xs ++ dxs).length ≤ 32
            have h7 : (natsI c.xs).length = c.xs.length := by simp [natsI]
            rw [List.length_append]; omega
      · rename Fr _ _ _ _ => F4
        rename News _ _ _ _ => N4
        refine gs_end c F4 N4 (fun p hp => List.mem_append_left _ hp) (fun p hp => List.mem_append_right _ hp) hoff ?g4 ?g5 ?g6
        case g4 => exact List.forall_mem_cons.mpr ⟨rfl, List.forall_mem_nil _⟩
        case g5 =>
          intro z h1 h2 h3
          have h4 : z ≠ "row" := h2 _ (.head _)
          simp only [if_neg h1, if_neg h4, List.contains_nil, Bool.false_eq_true, if_false]
        case g6 => exact ⟨hpI, hpx, hpl, hpa, hpb⟩
    case done =>
      intro c u h tk hp F3 N3
      clear F2 N2
      replace F3 : Fr s1.heap s1.heap.objs.size h _ := F3
      replace N3 : News s1.heap s1.heap.objs.size h _ := N3
      dsimp only [kstB] at F3
      obtain ⟨hpI, hpx, hpl, hpa, hpb⟩ := hp
      have hpn : (natsI c.xs).length ≤ 32 := by simpa [natsI] using hpl
      dsimp only
      tb_start
      ktr_unf
      intro x1 t1 h4 tk4 F4 N4
      tb_start
      rename Fr _ _ _ _ => F5
      obtain ⟨f, hf, hfl⟩ := fmodLt x1 (natsI c.xs).length
      rw [hf] at F5 ⊢
      ktr_unf
      intro x2 t2 h5 tk5 F6 N6
      clear F5
      tb_start
      rename Fr _ _ _ _ => F7
      obtain ⟨g, hg, hgf, hgl⟩ := fmodLt2 x2 (natsI c.xs).length f hfl
      rw [hg] at F7
      ktr_unf
      intro x3 t3 h6 tk6 F8 N8
      clear F7
      tb_start
      rename Fr _ _ _ _ => F9
      rename News _ _ _ _ => N9
      obtain ⟨la, hla, hlal⟩ := fmod32 x3
      rw [hla] at F9
      k_dflt (refine LCg.Assign_ListComp_U (F₀ := by k_asm) (by rfl) (by with_unfolding_all rfl) (by with_unfolding_all rfl) (by decide) (by rfl) (by decide) (by rfl) (by rfl) (by rfl) ?_)

      tb_start
      rename Fr _ _ _ _ => FA
      rename News _ _ _ _ => NA

      k_dflt (refine LCg.CompSrc.ledger (by rfl) FA NA List.mem_cons_self (Nat.le_of_ble_eq_true rfl) ?_)
      clear FA NA
      intro gg
      lcg_lit
      refine LCg.CompRest.succ ?_
      intro v I oI C oC D m2 h tk E' hv hC hx FB NB off ne
      lcg_open hv
      tb_start
      k_dflt (refine' tellsN_use (c := cBy) (d := 29) ?k1 ?k2 ?k3 ?k4 ?k5 ?kK ?kR (by_tells _ _ _ _ _ _) ?ko ?kd ?ku ?_)
      case k1 => k_asm
      case k2 => k_asm
      case k3 => k_asm
      case k4 => k_asm
      case k5 => k_asm
      case kK => exact rfl
      case kR => exact ⟨_, rfl⟩
      case ko => decide
      case kd => ktr_room
      case ku => ktr_units
      intro r9 tl9 h9 tk9 F9 N9 hl9 ht9 ho9
      obtain ⟨l29, us29, nn29, xs, rfl, N10, hlt, hI29, rfl⟩ := last_ret N9 hl9 ht9 ho9
      clear N9 hl9 ht9 ho9 FB NB
      tb_start
      refine compEnd_new F9 N10 hlt off (.inr ⟨_, by k_mem, rfl, _, rfl⟩) ?_
      have hc29 : s1.heap.objs.size + 1 + 1 < l29 := hlt (s1.heap.objs.size + 1 + 1, _) (by k_mem)
      clear F9 N10 hlt
      refine LCg.CompRest.succ ?_
      intro v I oI C oC D m2 h tk E' hv hC hx FB NB off ne
      lcg_open hv
      tb_start
      k_dflt (refine' tellsN_use (c := cBy) (d := 22) ?k1 ?k2 ?k3 ?k4 ?k5 ?kK ?kR (by_tells _ _ _ _ _ _) ?ko ?kd ?ku ?_)
      case k1 => k_asm
      case k2 => k_asm
      case k3 => k_asm
      case k4 => k_asm
      case k5 => k_asm
      case kK => exact rfl
      case kR => exact ⟨_, rfl⟩
      case ko => decide
      case kd => ktr_room
      case ku => ktr_units
      intro r9 tl9 h9 tk9 F9 N9 hl9 ht9 ho9
      obtain ⟨l22, us22, nn22, xs, rfl, N10, hlt, hI22, rfl⟩ := last_ret N9 hl9 ht9 ho9
      clear N9 hl9 ht9 ho9 FB NB
      tb_start
      refine compEnd_new F9 N10 hlt off (.inr ⟨_, by k_mem, rfl, _, rfl⟩) ?_
      have hc22 : s1.heap.objs.size + 1 + 1 < l22 := hlt (s1.heap.objs.size + 1 + 1, _) (by k_mem)
      clear F9 N10 hlt
      refine LCg.CompRest.succ ?_
      intro v I oI C oC D m2 h tk E' hv hC hx FB NB off ne
      lcg_open hv
      tb_start
      k_dflt (refine' tellsN_use (c := cBy) (d := 20) ?k1 ?k2 ?k3 ?k4 ?k5 ?kK ?kR (by_tells _ _ _ _ _ _) ?ko ?kd ?ku ?_)
      case k1 => k_asm
      case k2 => k_asm
      case k3 => k_asm
      case k4 => k_asm
      case k5 => k_asm
      case kK => exact rfl
      case kR => exact ⟨_, rfl⟩
      case ko => decide
      case kd => ktr_room
      case ku => ktr_units
      intro r9 tl9 h9 tk9 F9 N9 hl9 ht9 ho9
      obtain ⟨l20, us20, nn20, xs, rfl, N10, hlt, hI20, rfl⟩ := last_ret N9 hl9 ht9 ho9
      clear N9 hl9 ht9 ho9 FB NB
      tb_start
      refine compEnd_new F9 N10 hlt off (.inr ⟨_, by k_mem, rfl, _, rfl⟩) ?_
      have hc20 : s1.heap.objs.size + 1 + 1 < l20 := hlt (s1.heap.objs.size + 1 + 1, _) (by k_mem)
      clear F9 N10 hlt
      refine LCg.CompRest.succ ?_
      intro v I oI C oC D m2 h tk E' hv hC hx FB NB off ne
      lcg_open hv
      tb_start
      k_dflt (refine' tellsN_use (c := cBy) (d := 21) ?k1 ?k2 ?k3 ?k4 ?k5 ?kK ?kR (by_tells _ _ _ _ _ _) ?ko ?kd ?ku ?_)
      case k1 => k_asm
      case k2 => k_asm
      case k3 => k_asm
      case k4 => k_asm
      case k5 => k_asm
      case kK => exact rfl
      case kR => exact ⟨_, rfl⟩
      case ko => decide
      case kd => ktr_room
      case ku => ktr_units
      intro r9 tl9 h9 tk9 F9 N9 hl9 ht9 ho9
      obtain ⟨l21, us21, nn21, xs, rfl, N10, hlt, hI21, rfl⟩ := last_ret N9 hl9 ht9 ho9
      clear N9 hl9 ht9 ho9 FB NB
      tb_start
      refine compEnd_new F9 N10 hlt off (.inr ⟨_, by k_mem, rfl, _, rfl⟩) ?_
      have hc21 : s1.heap.objs.size + 1 + 1 < l21 := hlt (s1.heap.objs.size + 1 + 1, _) (by k_mem)
      clear F9 N10 hlt
      refine LCg.CompRest.succ ?_
      intro v I oI C oC D m2 h tk E' hv hC hx FB NB off ne
      lcg_open hv
      tb_start
      k_dflt (refine' tellsN_use (c := cBy) (d := 18) ?k1 ?k2 ?k3 ?k4 ?k5 ?kK ?kR (by_tells _ _ _ _ _ _) ?ko ?kd ?ku ?_)
      case k1 => k_asm
      case k2 => k_asm
      case k3 => k_asm
      case k4 => k_asm
      case k5 => k_asm
      case kK => exact rfl
      case kR => exact ⟨_, rfl⟩
      case ko => decide
      case kd => ktr_room
      case ku => ktr_units
      intro r9 tl9 h9 tk9 F9 N9 hl9 ht9 ho9
      obtain ⟨l18, us18, nn18, xs, rfl, N10, hlt, hI18, rfl⟩ := last_ret N9 hl9 ht9 ho9
      clear N9 hl9 ht9 ho9 FB NB
      tb_start
      refine compEnd_new F9 N10 hlt off (.inr ⟨_, by k_mem, rfl, _, rfl⟩) ?_
      have hc18 : s1.heap.objs.size + 1 + 1 < l18 := hlt (s1.heap.objs.size + 1 + 1, _) (by k_mem)
      clear F9 N10 hlt
      refine LCg.CompRest.zero ?_
      intro tD h10 tk10 F10 N10 o10
      simp only [LCg.Off1, and_true] at o10
      obtain ⟨-, -, -, -, -, -, -, -, o10a, o10b⟩ := o10
      simp only [List.nil_append, List.cons_append] at N10
      dsimp only at F10
      dsimp only
      obtain ⟨rest, N11, hTabs, hrow, hra, hrb⟩ : ∃ rest : List (Addr × Obj), News s1.heap s1.heap.objs.size h10 ((s1.heap.objs.size + 1 + 1, oA) :: (s1.heap.objs.size + 1, oB) :: rest) ∧ TabsAt rest tD ∧ (c.rl, listOf c.us.toArray c.nn) ∈ rest ∧ (∀ p ∈ rest, p.1 ≠ s1.heap.objs.size + 1 + 1) ∧ (∀ p ∈ rest, p.1 ≠ s1.heap.objs.size + 1) := by
        refine ⟨[(tD, LCg.lst [Value.ref l29, Value.ref l22, Value.ref l20, Value.ref l21, Value.ref l18]), (l18, listOf us18.toArray nn18), (l21, listOf us21.toArray nn21), (l20, listOf us20.toArray nn20), (l22, listOf us22.toArray nn22), (l29, listOf us29.toArray nn29), (c.rl, listOf c.us.toArray c.nn)], ?_, ?_, ?_, ?_, ?_⟩
        · exact kst_newsOf N10 (by lcg_sub)
        · refine ⟨l29, l22, l20, l21, l18, 5, ?_, ⟨us29, nn29, ?_, hI29⟩, ⟨us22, nn22, ?_, hI22⟩, ⟨us20, nn20, ?_, hI20⟩, ⟨us21, nn21, ?_, hI21⟩, ⟨us18, nn18, ?_, hI18⟩⟩
          all_goals k_mem
        · k_mem
        · exact List.forall_mem_cons.mpr ⟨Ne.symm o10a, List.forall_mem_cons.mpr ⟨(gt2 hc18).1, List.forall_mem_cons.mpr ⟨(gt2 hc21).1, List.forall_mem_cons.mpr ⟨(gt2 hc20).1, List.forall_mem_cons.mpr ⟨(gt2 hc22).1, List.forall_mem_cons.mpr ⟨(gt2 hc29).1, List.forall_mem_cons.mpr ⟨(gt2 hpa).1, List.forall_mem_nil _⟩⟩⟩⟩⟩⟩⟩
        · exact List.forall_mem_cons.mpr ⟨Ne.symm o10b, List.forall_mem_cons.mpr ⟨(gt2 hc18).2, List.forall_mem_cons.mpr ⟨(gt2 hc21).2, List.forall_mem_cons.mpr ⟨(gt2 hc20).2, List.forall_mem_cons.mpr ⟨(gt2 hc22).2, List.forall_mem_cons.mpr ⟨(gt2 hc29).2, List.forall_mem_cons.mpr ⟨(gt2 hpa).2, List.forall_mem_nil _⟩⟩⟩⟩⟩⟩⟩
      clear N10
      have hpe : (natsI c.xs).length = c.xs.length := by simp [natsI]
      refine tail3 w0 _ _ _ _ s1.heap s1.heap.objs.size _ _ _ _ rest oA oB vA vB tD c.rl c.us c.nn c.xs f g la _ _ _ _ _ hB hX hT F10 N11 rfl rfl rfl rfl rfl hdA hdB hTabs hrow hra hrb hpI hpx hpl (by omega) (by omega) hlal ?zE ?zR
      case zE => passes_own
      case zR =>
        intro h' tk' m' F'
        clear F10 N11 hTabs
        wrow_close)
end Mine
theorem PySem.Challenge.cw_oo0001_03_holds : PySem.Challenge.rw_oo0001_03.Holds :=
  Mine.main03
