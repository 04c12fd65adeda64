import PyProof.Rows.All
import Wide.All
import OpenK.AllK
import Wide.FinOn
import PySem.Challenge.RW_oo0001_02
open PySem PySem.W PyProof.Rows
set_option Elab.async false
namespace Mine

theorem xor_and_add (a : Nat) : ∀ b : Nat, (a ^^^ b) + 2 * (a &&& b) = a + b := by
  induction a using Nat.strongRecOn with
  | ind a ih =>
    intro b
    by_cases ha : a = 0
    · subst ha; simp
    · have h := ih (a / 2) (by omega) (b / 2)
      have hx := Nat.div_add_mod (a ^^^ b) 2
      have hy := Nat.div_add_mod (a &&& b) 2
      rw [Nat.xor_div_two] at hx
      rw [Nat.and_div_two] at hy
      have hm : (a ^^^ b) % 2 + 2 * ((a &&& b) % 2) = a % 2 + b % 2 := by
        have e1 : (a ^^^ b) % 2 = (a % 2) ^^^ (b % 2) := by
          have := @Nat.xor_mod_two_pow a b 1
          simpa using this
        have e2 : (a &&& b) % 2 = (a % 2) &&& (b % 2) := by
          have := @Nat.and_mod_two_pow a b 1
          simpa using this
        rw [e1, e2]
        rcases Nat.mod_two_eq_zero_or_one a with h1 | h1 <;> rcases Nat.mod_two_eq_zero_or_one b with h2 | h2 <;> rw [h1, h2] <;> decide
      omega

theorem andN (a b : Nat) : Builtin.bitAnd (a : Int) (b : Int) = ((a &&& b : Nat) : Int) := by
  rw [bitAnd_pp (by omega) (by omega)]; simp
theorem xorN (a b : Nat) : Builtin.bitXor (a : Int) (b : Int) = ((a ^^^ b : Nat) : Int) := by
  rw [bitXor_and, andN]
  have := xor_and_add a b
  omega
theorem shrN (a k : Nat) : Int.fdiv (a : Int) (2 ^ k) = ((a >>> k : Nat) : Int) := by
  rw [Int.fdiv_eq_ediv_of_nonneg _ (Int.pow_nonneg (by decide)), Nat.shiftRight_eq_div_pow]
  simp
theorem shlN (a k : Nat) : (a : Int) * (2 ^ k) = ((a <<< k : Nat) : Int) := by
  rw [Nat.shiftLeft_eq]; simp

section
open PySem.Spec
variable {prog : Program} {w : World} {A : Around} {E : Value → Shared → Prop} {s : Shared} {env : Env} {h₀ : Heap} {x : Str} {body : List Stmt} {Q : Flow → Shared → Prop}

/-- a for over a list of the ledger; the ledger may grow -/
theorem iterGL {l : Addr} {vs : List Value} {nn : Nat} {m₀ : Str → Option Value} {news : List (Addr × Obj)} (J : Nat → (Str → Option Value) → List (Addr × Obj) → Prop)
    (hh : A.handled = none) (hl : ∀ i m nx, J i m nx → (l, listOf vs.toArray nn) ∈ nx) (F : Fr h₀ env.locals s.heap m₀) (N : News h₀ env.locals s.heap news) (hj : J 0 m₀ news)
    (turn : ∀ i v m₁ nx h tk own, vs[i]? = some v → TbOff own nx → J i m₁ nx → Fr h₀ env.locals h (fun y => if y = x then some v else m₁ y) → News h₀ env.locals h (nx ++ own) →
      wpAny (model prog w) A (execs body env) (TbPost h₀ env.locals (J (i + 1)) own { s with heap := h, toks := tk } Q) E { s with heap := h, toks := tk })
    (done : ∀ m₁ nx h tk, J vs.length m₁ nx → Fr h₀ env.locals h m₁ → News h₀ env.locals h nx → Q .next { s with heap := h, toks := tk }) :
    wpAny (model prog w) A (pyIter (.ref l)) (fun it s₂ => LoopAtV prog w A h₀ env x body Q E it s₂) E s := by
  have hlN := hl 0 m₀ news hj
  have hol : s.heap.get? l = some (listOf vs.toArray nn) := (N _ hlN).1
  have hls : s.heap.IsList l vs.toArray := ⟨_, hol, rfl, nn, rfl⟩
  have hne : l ≠ s.heap.objs.size := Nat.ne_of_lt (Heap.lt_size hol)
  refine wpAny_pyIter_list hls ?_
  have W := Walks.list (prog := prog) (w := w) hh s.heap.objs.size l hne vs.toArray
  have hlen : vs.toArray.size = vs.length := by simp
  rw [hlen] at W
  refine ⟨_, _, _, vs.length, _, _, m₀, news, J, rfl, W, ?_, ?_, ?_, ⟨⟨_, Heap.get?_push_size _ rfl, rfl, rfl⟩, hls.at fun o e => Heap.get?_push_of_some _ e⟩, F.push _, (fun p hp => ⟨Heap.get?_push_of_some _ (N p hp).1, (N p hp).2⟩), hj, ?_, ?_⟩
  · intro hm
    rcases List.mem_cons.mp hm with e | hm
    · exact absurd F.ns.lt (e ▸ Nat.lt_irrefl _)
    · exact (N _ hlN).2.1 ((List.mem_singleton.mp hm).symm)
  · intro b hb
    rw [List.mem_singleton.mp hb]
    exact next_is_new F
  · intro p hp hI
    exact absurd (Heap.lt_size (N p hp).1) ((List.mem_singleton.mp hI) ▸ Nat.lt_irrefl _)
  · rintro i v m₁ news₁ s₁ own ⟨hh', tk', rfl⟩ hin hP hJ hoff hown hget hmem hst F₁ N₁
    obtain ⟨⟨oi, hoi, _⟩, _⟩ := hst
    have hI : (s.heap.objs.size, oi) ∈ own := hmem _ (.head _) (next_is_new F) oi hoi
    have hIf : (s.heap.objs.size, oi) ∈ own.filter fun p => decide (p.1 = s.heap.objs.size) := List.mem_filter.mpr ⟨hI, by simp⟩
    have hsep : TbOff (own.filter fun p => decide (p.1 = s.heap.objs.size)) news₁ := by
      intro p hp q hq e
      have h1 : p.1 = s.heap.objs.size := by simpa using (List.mem_filter.mp hp).2
      exact hoff q hq (List.mem_singleton.mpr (by rw [← e, h1]))
    have hv : vs[i]? = some v := by simpa using hP
    have hl₁ := hl i m₁ news₁ hJ
    have N₂ : News h₀ env.locals hh' (news₁ ++ own.filter fun p => decide (p.1 = s.heap.objs.size)) := fun p hp => N₁ p ((List.mem_append.mp hp).elim (fun h => List.mem_append.mpr (.inr h)) fun h => List.mem_append.mpr (.inl ((List.mem_filter.mp h).1)))
    have hlo : hh'.get? l = some (listOf vs.toArray nn) := (N₁ _ (List.mem_append.mpr (.inr hl₁))).1
    refine wpAny_mono (turn i v m₁ news₁ hh' tk' _ hv hsep hJ F₁ N₂) (fun f s₂ p => ?_) fun _ _ e => e
    have fin : TbEnd h₀ env.locals (J (i + 1)) (own.filter fun p => decide (p.1 = s.heap.objs.size)) { s with heap := hh', toks := tk' } s₂ →
        LoopStepU h₀ env.locals [s.heap.objs.size] own (J (i + 1)) { s with heap := hh', toks := tk' } .next s₂ := by
      rintro ⟨h', tk, m', news', nx, e, F', N', hn, ho, ha, hm⟩
      refine ⟨rfl, h', tk, m', nx, e, F', fun p hp => ?_, fun p hp hq => ?_, hm⟩
      · rcases List.mem_append.mp hp with h | h
        · by_cases hI : p.1 = s.heap.objs.size
          · exact N' p (ho p (List.mem_filter.mpr ⟨h, by simpa using hI⟩))
          · have h1 : p.1 = l := by
              rcases List.mem_cons.mp (hown p h) with h2 | h2
              · exact absurd h2 hI
              · exact List.mem_singleton.mp h2
            have h2 : hh'.get? p.1 = some p.2 := hget p h
            rw [h1, hlo] at h2
            have h3 : p = (l, listOf vs.toArray nn) := Prod.ext h1 (Option.some.inj h2).symm
            rw [h3]
            exact N' _ (hn _ (hl _ _ _ hm))
        · exact N' p (hn p h)
      · exact ha _ hIf p hp (List.mem_singleton.mp hq).symm
    cases f with
    | ret v => exact .ret p
    | brk => exact .brk p
    | next => exact .next (fin p)
    | cont => exact .cont (fin p)
  · rintro h' tk m' news' F' N' _ hJ
    exact done m' news' h' tk hJ F' N'

/-- a for over a range by ones; the ledger may grow -/
theorem iterGR {r : Addr} {a₀ b₀ : Int} {t₀ u₀ v₀ : Tok} {n : Nat} {m₀ : Str → Option Value} {news : List (Addr × Obj)} (J : Nat → (Str → Option Value) → List (Addr × Obj) → Prop)
    (hh : A.handled = none) (hr : IsRange s.heap r a₀ b₀ 1 t₀ u₀ v₀) (hsmall : Builtin.Range.small a₀ b₀ 1 = true) (hn : Builtin.Range.rangeSize a₀ b₀ 1 = (n : Int)) (F : Fr h₀ env.locals s.heap m₀) (N : News h₀ env.locals s.heap news) (hj : J 0 m₀ news)
    (turn : ∀ i t m₁ nx h tk own, i < n → TbOff own nx → J i m₁ nx → Fr h₀ env.locals h (fun y => if y = x then some (.int (a₀ + (i : Int)) t) else m₁ y) → News h₀ env.locals h (nx ++ own) →
      wpAny (model prog w) A (execs body env) (TbPost h₀ env.locals (J (i + 1)) own { s with heap := h, toks := tk } Q) E { s with heap := h, toks := tk })
    (done : ∀ m₁ nx h tk, J n m₁ nx → Fr h₀ env.locals h m₁ → News h₀ env.locals h nx → Q .next { s with heap := h, toks := tk }) :
    wpAny (model prog w) A (pyIter (.ref r)) (fun it s₂ => LoopAtV prog w A h₀ env x body Q E it s₂) E s := by
  refine wpAny_pyIter_range hr hsmall ?_
  have W : Walks prog w A s.heap.objs.size [s.heap.objs.size] [s.heap.objs.size] n (fun i v => i < n ∧ ∃ t, v = .int (a₀ + i * 1) t)
      (fun i h => IsRangeIter h s.heap.objs.size (a₀ + (i : Nat) * 1) ((n : Int) - (i : Nat)) 1) := (Walks.range hh _ a₀ 1 n).bound
  refine ⟨_, _, _, n, _, _, m₀, news, J, rfl, W, ?_, ?_, ?_, (by show IsRangeIter _ _ _ _ _; rw [hn]; simpa using Heap.get?_push_size _ rfl), F.push _, (fun p hp => ⟨Heap.get?_push_of_some _ (N p hp).1, (N p hp).2⟩), hj, ?_, ?_⟩
  · intro hm
    exact absurd F.ns.lt ((List.mem_singleton.mp hm) ▸ Nat.lt_irrefl _)
  · intro b hb
    rw [List.mem_singleton.mp hb]
    exact next_is_new F
  · intro p hp hI
    exact absurd (Heap.lt_size (N p hp).1) ((List.mem_singleton.mp hI) ▸ Nat.lt_irrefl _)
  · rintro i v m₁ news₁ s₁ own ⟨hh', tk', rfl⟩ hin hP hJ hoff hown hget hmem hst F₁ N₁
    obtain ⟨_, t, rfl⟩ := hP
    have e1 : a₀ + (i : Int) * 1 = a₀ + (i : Int) := by omega
    rw [e1] at F₁
    have hI : (s.heap.objs.size, _) ∈ own := hmem _ (.head _) (next_is_new F) _ hst
    have hsep : TbOff own news₁ := by
      intro p hp q hq e
      have h1 := List.mem_singleton.mp (hown p hp)
      exact hoff q hq (List.mem_singleton.mpr (by rw [← e, h1]))
    have N₂ : News h₀ env.locals hh' (news₁ ++ own) := fun p hp => N₁ p ((List.mem_append.mp hp).elim (fun h => List.mem_append.mpr (.inr h)) fun h => List.mem_append.mpr (.inl h))
    refine wpAny_mono (turn i t m₁ news₁ hh' tk' _ hin hsep hJ F₁ N₂) (fun f s₂ p => ?_) fun _ _ e => e
    have fin : TbEnd h₀ env.locals (J (i + 1)) own { s with heap := hh', toks := tk' } s₂ →
        LoopStepU h₀ env.locals [s.heap.objs.size] own (J (i + 1)) { s with heap := hh', toks := tk' } .next s₂ := by
      rintro ⟨h', tk, m', news', nx, e, F', N', hn, ho, ha, hm⟩
      exact ⟨rfl, h', tk, m', nx, e, F', fun p hp => N' p ((List.mem_append.mp hp).elim (ho p) (hn p)), fun p hp hq => ha _ hI p hp (List.mem_singleton.mp hq).symm, hm⟩
    cases f with
    | ret v => exact .ret p
    | brk => exact .brk p
    | next => exact .next (fin p)
    | cont => exact .cont (fin p)
  · rintro h' tk m' news' F' N' _ hJ
    exact done m' news' h' tk hJ F' N'

/-- the loop's state: c says the ledger and the kept names -/
def GS {σ : Type} (Led : σ → List (Addr × Obj)) (ps : σ → List (Str × Value)) (x : Str) (stored : List Str) (m₀ : Str → Option Value) (P : Nat → σ → Prop) (i : Nat) (m : Str → Option Value) (nx : List (Addr × Obj)) : Prop :=
  ∃ c : σ, nx = Led c ∧ (∀ p ∈ ps c, m p.1 = some p.2) ∧ (∀ z, z ≠ x → (∀ p ∈ ps c, z ≠ p.1) → stored.contains z = false → m z = m₀ z) ∧ P i c

theorem forGL {σ : Type} {l : Addr} {vs : List Value} {nn : Nat} {m₀ : Str → Option Value} (Led : σ → List (Addr × Obj)) (ps : σ → List (Str × Value)) (stored : List Str) (P : Nat → σ → Prop) (c₀ : σ)
    (hh : A.handled = none) (hl : ∀ i c, P i c → (l, listOf vs.toArray nn) ∈ Led c) (F : Fr h₀ env.locals s.heap m₀) (N : News h₀ env.locals s.heap (Led c₀)) (hk : ∀ p ∈ ps c₀, m₀ p.1 = some p.2) (hp : P 0 c₀)
    (turn : ∀ (c : σ) i v (u : Str → Option Value) h tk own, vs[i]? = some v → TbOff own (Led c) → P i c →
      Fr h₀ env.locals h (fun y => if y = x then some v else kstB (fun z => if stored.contains z then u z else m₀ z) (ps c) y) → News h₀ env.locals h (Led c ++ own) →
      wpAny (model prog w) A (execs body env) (TbPost h₀ env.locals (GS Led ps x stored m₀ P (i + 1)) own { s with heap := h, toks := tk } Q) E { s with heap := h, toks := tk })
    (done : ∀ (c : σ) (u : Str → Option Value) h tk, P vs.length c → Fr h₀ env.locals h (fun y => if y = x then u y else kstB (fun z => if stored.contains z then u z else m₀ z) (ps c) y) → News h₀ env.locals h (Led c) → Q .next { s with heap := h, toks := tk }) :
    wpAny (model prog w) A (pyIter (.ref l)) (fun it s₂ => LoopAtV prog w A h₀ env x body Q E it s₂) E s := by
  refine iterGL (fun i m nx => GS Led ps x stored m₀ P i m nx) hh (fun i m nx ⟨c, e, _, _, h⟩ => e ▸ hl i c h) F N ⟨c₀, rfl, hk, fun _ _ _ _ => rfl, hp⟩ ?_ ?_
  · rintro i v m₁ nx h tk own hv hoff ⟨c, rfl, h1, h2, hp'⟩ F₁ N₁
    exact turn c i v m₁ h tk own hv hoff hp' (kst_fr h1 h2 F₁) N₁
  · rintro m₁ nx h tk ⟨c, rfl, h1, h2, hp'⟩ F₁ N₁
    exact done c m₁ h tk hp' (kst_frOut h1 h2 F₁) N₁

theorem forGR {σ : Type} {r : Addr} {a₀ b₀ : Int} {t₀ u₀ v₀ : Tok} {n : Nat} {m₀ : Str → Option Value} (Led : σ → List (Addr × Obj)) (ps : σ → List (Str × Value)) (stored : List Str) (P : Nat → σ → Prop) (c₀ : σ)
    (hh : A.handled = none) (hr : IsRange s.heap r a₀ b₀ 1 t₀ u₀ v₀) (hsmall : Builtin.Range.small a₀ b₀ 1 = true) (hn : Builtin.Range.rangeSize a₀ b₀ 1 = (n : Int)) (F : Fr h₀ env.locals s.heap m₀) (N : News h₀ env.locals s.heap (Led c₀)) (hk : ∀ p ∈ ps c₀, m₀ p.1 = some p.2) (hp : P 0 c₀)
    (turn : ∀ (c : σ) i t (u : Str → Option Value) h tk own, i < n → TbOff own (Led c) → P i c →
      Fr h₀ env.locals h (fun y => if y = x then some (.int (a₀ + (i : Int)) t) else kstB (fun z => if stored.contains z then u z else m₀ z) (ps c) y) → News h₀ env.locals h (Led c ++ own) →
      wpAny (model prog w) A (execs body env) (TbPost h₀ env.locals (GS Led ps x stored m₀ P (i + 1)) own { s with heap := h, toks := tk } Q) E { s with heap := h, toks := tk })
    (done : ∀ (c : σ) (u : Str → Option Value) h tk, P n c → Fr h₀ env.locals h (fun y => if y = x then u y else kstB (fun z => if stored.contains z then u z else m₀ z) (ps c) y) → News h₀ env.locals h (Led c) → Q .next { s with heap := h, toks := tk }) :
    wpAny (model prog w) A (pyIter (.ref r)) (fun it s₂ => LoopAtV prog w A h₀ env x body Q E it s₂) E s := by
  refine iterGR (fun i m nx => GS Led ps x stored m₀ P i m nx) hh hr hsmall hn F N ⟨c₀, rfl, hk, fun _ _ _ _ => rfl, hp⟩ ?_ ?_
  · rintro i t m₁ nx h tk own hv hoff ⟨c, rfl, h1, h2, hp'⟩ F₁ N₁
    exact turn c i t m₁ h tk own hv hoff hp' (kst_fr h1 h2 F₁) N₁
  · rintro m₁ nx h tk ⟨c, rfl, h1, h2, hp'⟩ F₁ N₁
    exact done c m₁ h tk hp' (kst_frOut h1 h2 F₁) N₁

theorem gs_end {σ : Type} {Led : σ → List (Addr × Obj)} {ps : σ → List (Str × Value)} {stored : List Str} {m₀ : Str → Option Value} {P : Nat → σ → Prop} {i : Nat} {x : Str} (c : σ) {L : Addr} {m' : Str → Option Value} {own news' : List (Addr × Obj)} {s₁ : Shared} {h' : Heap} {tk : Nat}
    (F : Fr h₀ L h' m') (N : News h₀ L h' news') (hn : ∀ p ∈ Led c, p ∈ news') (ho : ∀ p ∈ own, p ∈ news') (ha : TbOff own (Led c)) (hk : ∀ p ∈ ps c, m' p.1 = some p.2) (hr : ∀ z, z ≠ x → (∀ p ∈ ps c, z ≠ p.1) → stored.contains z = false → m' z = m₀ z) (hp : P i c) :
    TbEnd h₀ L (GS Led ps x stored m₀ P i) own s₁ { s₁ with heap := h', toks := tk } := ⟨h', tk, m', news', Led c, rfl, F, N, hn, ho, ha, c, rfl, hk, hr, hp⟩
end

theorem fmodLt (x : Int) (k : Nat) : ∃ f : Nat, x.fmod ((k : Int) + 1) = (f : Int) ∧ f ≤ k := by
  have h1 := Int.emod_nonneg x (b := (k : Int) + 1) (by omega)
  have h2 := Int.emod_lt_of_pos x (b := (k : Int) + 1) (by omega)
  rw [Int.fmod_eq_emod_of_nonneg _ (by omega)]
  exact ⟨(x % ((k : Int) + 1)).toNat, by omega, by omega⟩
theorem fmodLt2 (x : Int) (k f : Nat) (h : f ≤ k) : ∃ g : Nat, (f : Int) + x.fmod ((k : Int) + 1 - (f : Int)) = (g : Int) ∧ f ≤ g ∧ g ≤ k := by
  obtain ⟨e, he, hl⟩ := fmodLt x (k - f)
  have : ((k - f : Nat) : Int) + 1 = (k : Int) + 1 - (f : Int) := by omega
  rw [this] at he
  exact ⟨f + e, by rw [he]; omega, by omega, by omega⟩
theorem fmod32 (x : Int) : ∃ f : Nat, x.fmod 32 = (f : Int) ∧ f < 32 := by
  obtain ⟨e, he, hl⟩ := fmodLt x 31
  exact ⟨e, he, by omega⟩
abbrev natsI (xs : List Nat) : List Int := xs.map Int.ofNat
/-- at address l there lies, in the ledger, a list of the numbers xs -/
def NatsAt (news : List (Addr × Obj)) (l : Addr) (xs : List Nat) : Prop := ∃ us nn, (l, listOf us.toArray nn) ∈ news ∧ IntsAre us (natsI xs)
theorem NatsAt.mono {news news' : List (Addr × Obj)} {l : Addr} {xs : List Nat} (h : NatsAt news l xs) (hs : ∀ p ∈ news, p ∈ news') : NatsAt news' l xs :=
  let ⟨us, nn, h1, h2⟩ := h
  ⟨us, nn, hs _ h1, h2⟩
section
open PySem.Spec PySem.Calls
variable {prog : Program} {w : World} {A : Around} {E : Value → Shared → Prop} {s : Shared} {h₀ : Heap} {L D : Addr} {m : Str → Option Value} {news news' : List (Addr × Obj)}
theorem len_my {us : List Value} {ns : List Int} {c : Nat} {Q : Value → Shared → Prop} (N : News h₀ L s.heap news) (hm : (D, listOf us.toArray c) ∈ news) (hi : IntsAre us ns) (hf : ns.length < 2 ^ 62)
    (h : Q (.int (ns.length : Nat) (s.toks + 1)) { s with toks := s.toks + 1 + 1 }) : wpAny (model prog w) A (call (.builtin "len") [.ref D]) Q E s :=
  KM.len_K N hm (by simp [hi.length]) hf h
theorem append_my {us : List Value} {ns : List Int} {n : Nat} {x : Value} {Q : Value → Shared → Prop} (F : Fr h₀ L s.heap m) (N : News h₀ L s.heap news) (U : Upd D (listOf us.toArray n) (listOf (us ++ [x]).toArray (n + 1)) news news')
    (hi : IntsAre us ns) (hf : ns.length ≤ 1000)
    (h : ∀ h', Fr h₀ L h' m → News h₀ L h' news' → Q .none { s with heap := h' }) : wpAny (model prog w) A (call (.builtin "list.append") [.ref D, x]) Q E s := by
  have e : us.toArray.push x = (us ++ [x]).toArray := by simp
  refine append_K (x := x) F N (e ▸ U) h ?_
  rw [List.size_toArray, hi.length, sizeLine_eq]; omega

theorem slice_my {value slice : PySem.Expr} {us : List Value} {ns ms : List Int} {nn : Nat} {vl vu : Value} {lo hi : Option Int} {Q : Value → Shared → Prop} (F : Fr h₀ L s.heap m) (N : News h₀ L s.heap news) (hm : (D, listOf us.toArray nn) ∈ news) (hi' : IntsAre us ns) (hb : ns.length ≤ 1000) (pl : IsPart vl lo) (pu : IsPart vu hi) (hp : IntsAre (slicePick us.toArray lo hi none).toList ms)
    (h : ∀ D' ws h', Fr h₀ L h' m → News h₀ L h' ((D', listOf (List.toArray ws) 0) :: news) → (∀ p ∈ news, p.1 < D') → IntsAre ws ms → Q (.ref D') { s with heap := h' })
    (hs : subscripted slice false (.ref D) (.ref s.heap.objs.size) = operate [.ref s.heap.objs.size, .ref D] (getItem (.ref D) (.ref s.heap.objs.size))) (ht : ∀ r, letTemporaryGo value (.ref D) r = pure ()) :
    wpAny (model prog w) A (subscriptTail value slice (.ref D) (.ref s.heap.objs.size)) Q E { s with heap := s.heap.push { cls := .type "slice", data := .fields #[vl, vu, .none] } } :=
  kmk_slice_ints F N (News.isList N hm) pl pu hi' hp rfl (fun D' ws h' F' N' l1 hI _ _ => h D' ws h' F' N' l1 hI) hs ht (kmk_sz hi' (by rw [sizeLine_eq]; omega))
theorem intsAre_getD {us : List Value} {ns : List Int} (h : IntsAre us ns) {k : Nat} (hk : k < ns.length) : ∃ t, us[k]? = some (.int (ns.getD k 0) t) := by
  obtain ⟨t, e⟩ := h.get k ns[k] (by simp [hk])
  exact ⟨t, by rw [e, List.getD_eq_getElem?_getD, List.getElem?_eq_getElem hk]; rfl⟩
theorem natsAre_getD {us : List Value} {xs : List Nat} (h : IntsAre us (natsI xs)) {k : Nat} (hk : k < xs.length) : ∃ t, us[k]? = some (.int ((xs.getD k 0 : Nat) : Int) t) := by
  obtain ⟨t, e⟩ := intsAre_getD h (k := k) (by simpa [natsI] using hk)
  refine ⟨t, e.trans ?_⟩
  congr 2
  simp [natsI, List.getD_eq_getElem?_getD, List.getElem?_map, List.getElem?_eq_getElem hk]
theorem item_my {value slice : PySem.Expr} {us : List Value} {xs : List Nat} {nn : Nat} {k : Int} {j : Nat} {u : Tok} {Q : Value → Shared → Prop} (N : News h₀ L s.heap news) (hm : (D, listOf us.toArray nn) ∈ news) (hi : IntsAre us (natsI xs)) (hj : k = ((j : Nat) : Int)) (hk : j < xs.length) (hb : xs.length ≤ 1000)
    (h : ∀ t, Q (.int ((xs.getD j 0 : Nat) : Int) t) s)
    (hs : subscripted slice false (.ref D) (.int k u) = operate [.ref D, .int k u] (getItem (.ref D) (.int k u)) := by with_unfolding_all rfl) :
    wpAny (model prog w) A (subscriptTail value slice (.ref D) (.int k u)) Q E s := by
  subst hj
  obtain ⟨t, e⟩ := natsAre_getD hi hk
  exact item_litK (News.isList N hm) (by omega) (by omega) (by simpa using e) (h t) hs
end
section
open PySem.Spec PySem.Calls
structure LD where
  l : Addr
  vs : List Value
  ns : List Int
  n : Nat
def gen5 (t : Nat) : Nat → Nat
  | 0 => if t.testBit 0 then 996825010 else 0
  | 1 => if t.testBit 1 then 642813549 else 0
  | 2 => if t.testBit 2 then 513874426 else 0
  | 3 => if t.testBit 3 then 1027748829 else 0
  | 4 => if t.testBit 4 then 705979059 else 0
  | _ => 0
def polyStep (c v : Nat) : Nat := [0,1,2,3,4].foldl (fun a k => a ^^^ gen5 (c >>> 25) k) (((c &&& 33554431) <<< 5) ^^^ v)
def polyN (ns : List Nat) : Nat := ns.foldl polyStep 1
abbrev cPoly : ToldN LD where
  Rel := fun news vs d => vs = [.ref d.l] ∧ (d.l, listOf d.vs.toArray d.n) ∈ news ∧ IntsAre d.vs d.ns
  Ok := fun d => (∀ x ∈ d.ns, 0 ≤ x ∧ x < 32) ∧ d.ns.length < 1000
  size := fun _ => 1
  Tl := fun tl => tl = []
  Out := fun _ r d => ∃ t, r = .int (polyN (d.ns.map Int.toNat)) t
theorem and_bound (c : Nat) : (Builtin.bitAnd (c : Int) 33554431).natAbs < 2 ^ 64 := by
  have h := andN c 33554431
  have h2 : ((33554431 : Nat) : Int) = 33554431 := rfl
  rw [h2] at h
  rw [h]
  have := @Nat.and_le_right c 33554431
  simp only [Int.natAbs_natCast]
  omega

def gI (T : Int) (a k : Int) : Int := if Builtin.bitAnd (T.fdiv (2 ^ k.toNat)) 1 ≠ 0 then Builtin.bitXor a ([996825010, 642813549, 513874426, 1027748829, 705979059].getD k.toNat 0) else Builtin.bitXor a 0

theorem gI_nat (T a k : Nat) (hk : k < 5) : gI (T : Int) (a : Int) (k : Int) = ((a ^^^ gen5 T k : Nat) : Int) := by
  have hz : ((0 : Nat) : Int) = 0 := rfl
  have ho : ((1 : Nat) : Int) = 1 := rfl
  unfold gI
  rw [Int.toNat_natCast, shrN, ← ho, andN, ← hz, xorN, Nat.xor_zero]
  have ht : (((T >>> k &&& 1 : Nat) : Int) ≠ ((0 : Nat) : Int)) ↔ T.testBit k = true := by
    unfold Nat.testBit
    rw [Nat.and_comm]
    simp only [bne_iff_ne, ne_eq, Int.natCast_inj, Nat.and_comm]
  by_cases hb : T.testBit k = true
  · rw [if_pos (ht.mpr hb)]
    rcases k with _ | _ | _ | _ | _ | k
    · simp only [gen5, hb, if_true]; exact xorN a 996825010
    · simp only [gen5, hb, if_true]; exact xorN a 642813549
    · simp only [gen5, hb, if_true]; exact xorN a 513874426
    · simp only [gen5, hb, if_true]; exact xorN a 1027748829
    · simp only [gen5, hb, if_true]; exact xorN a 705979059
    · omega
  · rw [if_neg (fun q => hb (ht.mp q))]
    rcases k with _ | _ | _ | _ | _ | k
    all_goals first | omega | simp [gen5, hb]
theorem gI_fold (c v : Nat) : (rangeKs 0 5).foldl (gI ((c : Int).fdiv (2 ^ Int.toNat 25))) (Builtin.bitXor (Builtin.bitAnd c 33554431 * 2 ^ Int.toNat 5) v) = ((polyStep c v : Nat) : Int) := by
  have h1 : Builtin.bitAnd (c : Int) 33554431 = ((c &&& 33554431 : Nat) : Int) := andN c 33554431
  rw [h1, shlN, xorN, shrN]
  have hr : rangeKs 0 5 = [((0 : Nat) : Int), ((1 : Nat) : Int), ((2 : Nat) : Int), ((3 : Nat) : Int), ((4 : Nat) : Int)] := by decide
  rw [hr]
  simp only [List.foldl_cons, List.foldl_nil]
  rw [gI_nat _ _ 0 (by decide), gI_nat _ _ 1 (by decide), gI_nat _ _ 2 (by decide), gI_nat _ _ 3 (by decide), gI_nat _ _ 4 (by decide)]
  rfl
theorem fdivN (n : Nat) : ((n : Nat) : Int).fdiv 32 = ((n / 32 : Nat) : Int) := by
  rw [Int.fdiv_eq_ediv_of_nonneg _ (by decide)]; omega
structure DigC where
  num : Nat
  tk : Nat
  us : List Value
  nn : Nat
  xs : List Nat
def LastNats (all : List (Addr × Obj)) (r : Value) (R : List Nat → Prop) : Prop := ∃ l us nn xs, r = .ref l ∧ all.getLast? = some (l, listOf us.toArray nn) ∧ IntsAre us (natsI xs) ∧ R xs
theorem last_ret {h₀ h : Heap} {L : Addr} {news tl : List (Addr × Obj)} {r : Value} {R : List Nat → Prop} (N : News h₀ L h (news ++ tl)) (ho : ∀ q ∈ news, ∀ p ∈ tl, q.1 < p.1) (ht : ∃ q, tl = [q]) (hl : LastNats (news ++ tl) r R) :
    ∃ l us nn xs, r = .ref l ∧ News h₀ L h ((l, listOf us.toArray nn) :: news) ∧ (∀ p ∈ news, p.1 < l) ∧ IntsAre us (natsI xs) ∧ R xs := by
  obtain ⟨q, rfl⟩ := ht
  obtain ⟨l, us, nn, xs, rfl, e, hI, hR⟩ := hl
  rw [List.getLast?_concat] at e
  cases e
  refine ⟨l, us, nn, xs, rfl, fun p hp => N p ?_, fun p hp => ho p hp _ (.head _), hI, hR⟩
  rcases List.mem_cons.mp hp with rfl | hp
  · exact List.mem_append_right _ (.head _)
  · exact List.mem_append_left _ hp
abbrev cDig : ToldN (Int × Int) where
  Rel := fun _ vs d => ∃ t0 t1 t2, vs = [.int d.1 t0, .int 32 t1, .int d.2 t2]
  Ok := fun d => 1 ≤ d.2 ∧ d.2 ≤ 64
  size := fun _ => 1
  Tl := fun tl => ∃ q, tl = [q]
  Out := fun news r d => LastNats news r (fun xs => (∀ x ∈ xs, x < 32) ∧ 1 ≤ xs.length ∧ (xs.length : Int) ≤ d.2)

theorem fmodN (n : Nat) : ((n : Nat) : Int).fmod 32 = ((n % 32 : Nat) : Int) := by
  rw [Int.fmod_eq_emod_of_nonneg _ (by decide)]; omega
def byStep (p : Nat × List Nat) : Nat × List Nat := ((p.1 * 2) ^^^ (if p.1 > 15 then 41 else 0), p.2 ++ p.2.map (· ^^^ p.1))
def byIt (num : Nat) : Nat → Nat × List Nat
  | 0 => (num, [0])
  | i + 1 => byStep (byIt num i)
def byTab (num : Nat) : List Nat := (byIt num 5).2
theorem byIt_len (n : Nat) : ∀ i, (byIt n i).2.length = 2 ^ i
  | 0 => rfl
  | i + 1 => by
    show ((byIt n i).2 ++ (byIt n i).2.map _).length = _
    rw [List.length_append, List.length_map, byIt_len n i, Nat.pow_succ]; omega
theorem natsI_xor (xs : List Nat) (p : Nat) : (natsI xs).map (fun k => Builtin.bitXor k (p : Int)) = natsI (xs.map (· ^^^ p)) := by
  simp only [natsI, List.map_map]
  refine List.map_congr_left fun x _ => ?_
  exact xorN x p
theorem byVal_a {n i : Nat} (h : (15 : Int) < ((byIt n i).1 : Nat)) : Builtin.bitXor (((byIt n i).1 : Nat) * 2 : Int) 41 = (((byIt n (i + 1)).1 : Nat) : Int) := by
  show _ = (((byIt n i).1 * 2 ^^^ (if (byIt n i).1 > 15 then 41 else 0) : Nat) : Int)
  rw [if_pos (by omega)]
  exact xorN ((byIt n i).1 * 2) 41
theorem byVal_b {n i : Nat} (h : ¬ (15 : Int) < ((byIt n i).1 : Nat)) : Builtin.bitXor (((byIt n i).1 : Nat) * 2 : Int) 0 = (((byIt n (i + 1)).1 : Nat) : Int) := by
  show _ = (((byIt n i).1 * 2 ^^^ (if (byIt n i).1 > 15 then 41 else 0) : Nat) : Int)
  rw [if_neg (by omega)]
  exact xorN ((byIt n i).1 * 2) 0
structure ByC where
  i : Nat
  tk : Nat
  us : List Value
  nn : Nat
  tab : Addr
  cell : Obj
abbrev cBy : ToldN Nat where
  Rel := fun _ vs d => ∃ t0, vs = [.int d t0]
  Ok := fun d => d < 32
  size := fun _ => 1
  Tl := fun tl => ∃ q, tl = [q]
  Out := fun news r d => LastNats news r (fun xs => xs = byTab d)

def tab (n k : Nat) : Nat := (byTab n).getD k 0
structure St where
  u : Nat
  v : Nat
  w : Nat
  x : Nat
  y : Nat
  z : Nat
def St.list (s : St) : List Nat := [s.u, s.v, s.w, s.x, s.y, s.z]
def St.Ok (s : St) : Prop := s.u < 32 ∧ s.v < 32 ∧ s.w < 32 ∧ s.x < 32 ∧ s.y < 32 ∧ s.z < 32
def runStep (s : St) (a : Nat) : St := ⟨tab 29 s.u ^^^ s.v, tab 22 s.u ^^^ s.w, tab 20 s.u ^^^ s.x, tab 21 s.u ^^^ s.y, tab 29 s.u ^^^ s.z, tab 18 s.u ^^^ a⟩
def run (s : St) (vals : List Nat) : St := vals.foldl runStep s
def TabsAt (news : List (Addr × Obj)) (lt : Addr) : Prop := ∃ a1 a2 a3 a4 a5 nn, (lt, listOf #[.ref a1, .ref a2, .ref a3, .ref a4, .ref a5] nn) ∈ news ∧ NatsAt news a1 (byTab 29) ∧ NatsAt news a2 (byTab 22) ∧ NatsAt news a3 (byTab 20) ∧ NatsAt news a4 (byTab 21) ∧ NatsAt news a5 (byTab 18)
structure RunD where
  ls : Addr
  lv : Addr
  lt : Addr
  st : St
  vals : List Nat
abbrev cRun : ToldN RunD where
  Rel := fun news vs d => vs = [.ref d.ls, .ref d.lv, .ref d.lt] ∧ NatsAt news d.ls d.st.list ∧ NatsAt news d.lv d.vals ∧ TabsAt news d.lt
  Ok := fun d => d.st.Ok ∧ (∀ x ∈ d.vals, x < 32) ∧ d.vals.length ≤ 1000
  size := fun _ => 1
  Tl := fun tl => ∃ q, tl = [q]
  Out := fun news r d => LastNats news r (fun xs => xs = (run d.st d.vals).list)

theorem natsI_toNat (xs : List Nat) : (natsI xs).map Int.toNat = xs := by
  simp only [natsI, List.map_map]
  have : (Int.toNat ∘ Int.ofNat) = id := rfl
  rw [this, List.map_id]
theorem tab_lt29 : ∀ k, k < 32 → tab 29 k < 32 := by decide +kernel
theorem tab_lt22 : ∀ k, k < 32 → tab 22 k < 32 := by decide +kernel
theorem tab_lt20 : ∀ k, k < 32 → tab 20 k < 32 := by decide +kernel
theorem tab_lt21 : ∀ k, k < 32 → tab 21 k < 32 := by decide +kernel
theorem tab_lt18 : ∀ k, k < 32 → tab 18 k < 32 := by decide +kernel
theorem valN {a b : Nat} {t : Tok} : some (Value.int (Builtin.bitXor (a : Int) (b : Int)) t) = some (Value.int ((a ^^^ b : Nat) : Int) t) := by rw [xorN]
structure RunC where
  st : St
  t1 : Nat
  t2 : Nat
  t3 : Nat
  t4 : Nat
  t5 : Nat
  t6 : Nat
theorem byTab_len (n : Nat) : (byTab n).length = 32 := byIt_len n 5
def AtTells (prog : Program) (w : World) (K : Frag) (p : Program) (loose : List Str) (mean : ExcName → Option Value) (mg mb : Str → Option Value) (f : Addr) : Prop :=
  ∀ (dp un : Nat) (gd : Option (List Code)) (cn : Str) (cs : Scope) (a : Addr) (ccd : Value) (cl : List (Str × Addr)) (outer : List Env) (A₀ : Around) (base h₀ : Heap) (L : Addr) (m : Str → Option Value) (news : List (Addr × Obj)) (s : Shared) (l : Addr) (vs : List Value) (ns : List Int) (i : Int) (tk : Tok) (o : Int) (tko : Tok)
    (Q E : Value → Shared → Prop),
    Below A₀ base outer h₀ → Fr h₀ L s.heap m → K.In h₀ → News h₀ L s.heap news → Top p loose mean mg mb h₀ → cs.kind = .function → base.IsList l vs.toArray → IntsAre vs ns → ns.length < 2 ^ 62 → 0 ≤ i → dp + 1 < recursionLimit → un + 8 < cLine →
    (∀ x t h' tk', Fr h₀ L h' m → News h₀ L h' news → Q (.int x t) { s with heap := h', toks := tk' }) →
    wpAny (model prog w) (ktrTop dp un gd cn cs L a ccd cl outer) (call (.ref f) [.ref l, .int i tk, .int o tko]) Q E s


theorem at_use {prog : Program} {w : World} {K : Frag} {p : Program} {loose : List Str} {mean : ExcName → Option Value} {mg mb : Str → Option Value} {f : Addr} {dp un : Nat} {gd : Option (List Code)} {cn : Str} {cs : Scope} {a : Addr} {ccd : Value} {cl : List (Str × Addr)} {outer : List Env} {A₀ : Around} {base h₀ : Heap} {L : Addr} {m : Str → Option Value} {news : List (Addr × Obj)} {s : Shared} {l : Addr} {vs : List Value} {ns : List Int} {i : Int} {tk : Tok} {o : Int} {tko : Tok}
    {Q E : Value → Shared → Prop} (B : Below A₀ base outer h₀) (F : Fr h₀ L s.heap m) (X : K.In h₀) (N : News h₀ L s.heap news) (T : Top p loose mean mg mb h₀) (hk : cs.kind = .function) (hl : base.IsList l vs.toArray) (hi : IntsAre vs ns) (hfit : ns.length < 2 ^ 62) (h0 : 0 ≤ i)
    (C : AtTells prog w K p loose mean mg mb f) (hd : dp + 1 < recursionLimit) (hu : un + 8 < cLine)
    (ret : ∀ x t h' tk', Fr h₀ L h' m → News h₀ L h' news → Q (.int x t) { s with heap := h', toks := tk' }) :
    wpAny (model prog w) (ktrTop dp un gd cn cs L a ccd cl outer) (call (.ref f) [.ref l, .int i tk, .int o tko]) Q E s := C _ _ _ _ _ _ _ _ _ _ _ _ _ _ _ _ _ _ _ _ _ _ _ _ _ B F X N T hk hl hi hfit h0 hd hu ret

section
open LCg
variable {prog : Program} {w : World} {A : Around} {E : Value → Shared → Prop} {s : Shared} {h₀ : Heap} {L : Addr} {m : Str → Option Value} {env : Env} {elt : Expr} {x : Str} {scope : Scope} {cl : List (Str × Addr)} {S : List (Addr × Obj) → Prop} {P : Nat → Value → Prop} {Fin : List Value → List (Addr × Obj) → Prop}
/-- a comprehension's turns by what holds of the list so far and of the ledger -/
theorem compJ {n : Nat} (J : Nat → List Value → List (Addr × Obj) → Prop)
    (turn : ∀ i ys nx v I oI C oC D m₂ h tk (E' : Value → Shared → Prop), i < n → P i v → J i ys nx → NsObj oC m₂ → m₂ x = some v → Fr h₀ L h m → News h₀ L h ((I, oI) :: (C, oC) :: (D, lst ys) :: nx) → Off3 I C D nx → ((@Ne Nat I C) ∧ (@Ne Nat I D) ∧ (@Ne Nat C D)) →
      wpAny (model prog w) A (eval elt (compEnvC scope cl C env)) (CompEnd h₀ L m { s with heap := h, toks := tk } I oI C oC D (lst ys) S (fun y nx' => J (i + 1) (ys ++ [y]) nx')) E' { s with heap := h, toks := tk })
    (fin : ∀ ys nx, J n ys nx → Fin ys nx) : ∀ (k i : Nat) (ys : List Value) (nx : List (Addr × Obj)), i + k = n → J i ys nx → CompRest prog w A h₀ L m env elt x scope cl s S P Fin k i ys nx
  | 0, i, ys, nx, hi, hj => CompRest.zero (fin ys nx (by rw [← hi]; exact hj))
  | k + 1, i, ys, nx, hi, hj => by
    refine CompRest.succ ?_
    intro v I oI C oC D m₂ h tk E' hv hC hx F N off ne
    refine wpAny_mono (turn i ys nx v I oI C oC D m₂ h tk E' (by omega) hv hj hC hx F N off ne) (fun y s₂ hq => ?_) fun _ _ e => e
    obtain ⟨h', tk', nx', e, F', N', off', hS, hJ⟩ := hq
    exact ⟨h', tk', nx', e, F', N', off', hS, compJ J turn fin k (i + 1) _ nx' (by omega) hJ⟩
end

theorem compEnd_new {h₀ : Heap} {L I C D l : Addr} {m : Str → Option Value} {s₁ : Shared} {oI oC oD o : Obj} {S : List (Addr × Obj) → Prop} {rest : Value → List (Addr × Obj) → Prop} {y : Value} {h' : Heap} {tk : Nat} {led : List (Addr × Obj)}
    (F : Fr h₀ L h' m) (N : News h₀ L h' ((l, o) :: (I, oI) :: (C, oC) :: (D, oD) :: led)) (hlt : ∀ p ∈ (I, oI) :: (C, oC) :: (D, oD) :: led, p.1 < l) (off : LCg.Off3 I C D led) (hS : S ((l, o) :: led)) (r : rest y ((l, o) :: led)) :
    LCg.CompEnd h₀ L m s₁ I oI C oC D oD S rest y { s₁ with heap := h', toks := tk } := by
  refine LCg.CompEnd.intro F N ((l, o) :: led) ?_ ?_ hS r
  · intro p hp
    rcases List.mem_cons.mp hp with rfl | hp
    · exact .tail _ (.head _)
    rcases List.mem_cons.mp hp with rfl | hp
    · exact .tail _ (.tail _ (.head _))
    rcases List.mem_cons.mp hp with rfl | hp
    · exact .tail _ (.tail _ (.tail _ (.head _)))
    rcases List.mem_cons.mp hp with rfl | hp
    · exact .head _
    · exact .tail _ (.tail _ (.tail _ (.tail _ hp)))
  · exact ⟨⟨Ne.symm (Nat.ne_of_lt (hlt _ (.head _))), Ne.symm (Nat.ne_of_lt (hlt _ (.tail _ (.head _)))), Ne.symm (Nat.ne_of_lt (hlt _ (.tail _ (.tail _ (.head _)))))⟩, off⟩

def St.minus1 (s : St) : St := ⟨s.u, s.v, s.w, s.x, s.y, s.z ^^^ 1⟩
def digs (t : Nat) : St := ⟨t / 32 ^ 5 % 32, t / 32 ^ 4 % 32, t / 32 ^ 3 % 32, t / 32 ^ 2 % 32, t / 32 ^ 1 % 32, t / 32 ^ 0 % 32⟩
def St.xor (a b : St) : St := ⟨a.u ^^^ b.u, a.v ^^^ b.v, a.w ^^^ b.w, a.x ^^^ b.x, a.y ^^^ b.y, a.z ^^^ b.z⟩
def pieceStep (s : St) (p : List Nat) : St := (run s.minus1 (List.replicate p.length 0)).xor (digs (polyN p))
theorem gen5_lt (t k : Nat) : gen5 t k < 2 ^ 30 := by
  rcases k with _ | _ | _ | _ | _ | k <;> simp only [gen5] <;> first | (split <;> decide) | decide
theorem polyStep_lt (c v : Nat) (hv : v < 32) : polyStep c v < 2 ^ 30 := by
  have h1 : (c &&& 33554431) <<< 5 < 2 ^ 30 := by
    have h2 : c &&& 33554431 ≤ 33554431 := Nat.and_le_right
    rw [Nat.shiftLeft_eq]; omega
  have h0 : ((c &&& 33554431) <<< 5) ^^^ v < 2 ^ 30 := Nat.xor_lt_two_pow h1 (by omega)
  unfold polyStep
  simp only [List.foldl_cons, List.foldl_nil]
  exact Nat.xor_lt_two_pow (Nat.xor_lt_two_pow (Nat.xor_lt_two_pow (Nat.xor_lt_two_pow (Nat.xor_lt_two_pow h0 (gen5_lt _ _)) (gen5_lt _ _)) (gen5_lt _ _)) (gen5_lt _ _)) (gen5_lt _ _)
theorem polyFold_lt : ∀ (vs : List Nat) (c : Nat), c < 2 ^ 30 → (∀ x ∈ vs, x < 32) → vs.foldl polyStep c < 2 ^ 30
  | [], _, h, _ => h
  | v :: r, c, _, hx => polyFold_lt r _ (polyStep_lt c v (hx v (.head _))) fun x h => hx x (.tail _ h)
theorem polyN_lt (vs : List Nat) (hx : ∀ x ∈ vs, x < 32) : polyN vs < 2 ^ 30 := polyFold_lt vs 1 (by decide) hx
theorem digs_ok (t : Nat) : (digs t).Ok := ⟨Nat.mod_lt _ (by decide), Nat.mod_lt _ (by decide), Nat.mod_lt _ (by decide), Nat.mod_lt _ (by decide), Nat.mod_lt _ (by decide), Nat.mod_lt _ (by decide)⟩
theorem xor_ok {a b : St} (ha : a.Ok) (hb : b.Ok) : (a.xor b).Ok := by
  obtain ⟨h1, h2, h3, h4, h5, h6⟩ := ha
  obtain ⟨k1, k2, k3, k4, k5, k6⟩ := hb
  exact ⟨Nat.xor_lt_two_pow (n := 5) h1 k1, Nat.xor_lt_two_pow (n := 5) h2 k2, Nat.xor_lt_two_pow (n := 5) h3 k3, Nat.xor_lt_two_pow (n := 5) h4 k4, Nat.xor_lt_two_pow (n := 5) h5 k5, Nat.xor_lt_two_pow (n := 5) h6 k6⟩
theorem minus1_ok {a : St} (ha : a.Ok) : a.minus1.Ok := by
  obtain ⟨h1, h2, h3, h4, h5, h6⟩ := ha
  exact ⟨h1, h2, h3, h4, h5, Nat.xor_lt_two_pow (n := 5) h6 (by decide)⟩
theorem runStep_ok {s : St} {a : Nat} (hs : s.Ok) (ha : a < 32) : (runStep s a).Ok := by
  obtain ⟨h1, h2, h3, h4, h5, h6⟩ := hs
  exact ⟨Nat.xor_lt_two_pow (n := 5) (tab_lt29 _ h1) h2, Nat.xor_lt_two_pow (n := 5) (tab_lt22 _ h1) h3, Nat.xor_lt_two_pow (n := 5) (tab_lt20 _ h1) h4, Nat.xor_lt_two_pow (n := 5) (tab_lt21 _ h1) h5, Nat.xor_lt_two_pow (n := 5) (tab_lt29 _ h1) h6, Nat.xor_lt_two_pow (n := 5) (tab_lt18 _ h1) ha⟩
theorem run_ok : ∀ (vs : List Nat) {s : St}, s.Ok → (∀ x ∈ vs, x < 32) → (run s vs).Ok
  | [], _, h, _ => h
  | v :: r, s, h, hx => run_ok r (s := runStep s v) (runStep_ok h (hx v (.head _))) fun x h => hx x (.tail _ h)
theorem natsI_ok {xs : List Nat} (h : ∀ x ∈ xs, x < 32) : ∀ x ∈ natsI xs, 0 ≤ x ∧ x < 32 := by
  intro x hx
  obtain ⟨a, ha, rfl⟩ := List.mem_map.mp hx
  have := h a ha
  exact ⟨Int.natCast_nonneg a, Int.ofNat_lt.mpr this⟩
theorem natsI_take (xs : List Nat) (f : Nat) : List.take ((f : Int)).toNat (natsI xs) = natsI (xs.take f) := by
  simp only [natsI, Int.toNat_natCast, List.map_take]
theorem natsI_drop (xs : List Nat) (f : Nat) : List.drop ((f : Int)).toNat (natsI xs) = natsI (xs.drop f) := by
  simp only [natsI, Int.toNat_natCast, List.map_drop]
theorem natsI_mid (xs : List Nat) (f g : Nat) (hg : g ≤ xs.length) : List.take (min ((g : Int)).toNat (natsI xs).length - ((f : Int)).toNat) (List.drop ((f : Int)).toNat (natsI xs)) = natsI ((xs.drop f).take (g - f)) := by
  simp only [natsI, Int.toNat_natCast, List.map_drop, List.map_take, List.length_map]
  rw [Nat.min_eq_left hg]
abbrev stBody : Stmt → List Stmt
  | .FunctionDef _ _ b _ _ _ _ _ _ _ => b
  | _ => []
abbrev stScope : Stmt → Scope
  | .FunctionDef _ _ _ _ _ _ sc _ _ _ => sc
  | _ => default
abbrev lawSt (p : Program) : Stmt := (p.main.body.getLast?).getD (Stmt.Pass default)
abbrev forBody : Stmt → List Stmt
  | .For _ _ b _ _ => b
  | _ => []
abbrev lawBody (p : Program) : List Stmt := stBody (lawSt p)
abbrev lawEnv (p : Program) (L fa : Addr) (cd : Value) : Env := envOfC "law" (stScope (lawSt p)) L fa cd

section
variable {prog : Program} {w : World} {K : Frag} {p : Program} {loose : List Str} {mean : ExcName → Option Value} {mg mb : Str → Option Value} {f : Addr} {dp un : Nat} {gd : Option (List Code)} {cn : Str} {cs : Scope} {a : Addr} {ccd : Value} {cl : List (Str × Addr)} {outer : List Env} {A₀ : Around} {base h₀ : Heap} {L : Addr} {m : Str → Option Value} {news : List (Addr × Obj)} {s : Shared}
  {Q E : Value → Shared → Prop}
theorem poly_use {l : Addr} {vs : List Value} {n : Nat} {xs : List Nat} (B : Below A₀ base outer h₀) (F : Fr h₀ L s.heap m) (X : K.In h₀) (N : News h₀ L s.heap news) (T : Top p loose mean mg mb h₀) (hk : cs.kind = .function)
    (hm : (l, listOf vs.toArray n) ∈ news) (hi : IntsAre vs (natsI xs)) (hx : ∀ x ∈ xs, x < 32) (hl : xs.length ≤ 900) (C : ∀ d, TellsN prog w K p loose mean mg mb f cPoly d) (hd : dp + 1 < recursionLimit) (hu : un + 8 * 1 < cLine)
    (ret : ∀ t h' tk', Fr h₀ L h' m → News h₀ L h' news → Q (.int (polyN xs : Nat) t) { s with heap := h', toks := tk' }) :
    wpAny (model prog w) (ktrTop dp un gd cn cs L a ccd cl outer) (call (.ref f) [.ref l]) Q E s := by
  refine tellsN_use (c := cPoly) (d := ⟨l, vs, natsI xs, n⟩) B F X N T hk ⟨rfl, hm, hi⟩ (C _) ⟨natsI_ok hx, by simp [natsI]; omega⟩ hd hu ?_
  rintro r tl h' tk' F' N' - rfl ⟨t, rfl⟩
  rw [natsI_toNat]
  exact ret t h' tk' F' (by rw [List.append_nil] at N'; exact N')
theorem list_use {D : Type} {c : ToldN D} {d : D} {vs : List Value} {R : List Nat → Prop} (B : Below A₀ base outer h₀) (F : Fr h₀ L s.heap m) (X : K.In h₀) (N : News h₀ L s.heap news) (T : Top p loose mean mg mb h₀) (hk : cs.kind = .function)
    (hR : c.Rel news vs d) (C : ∀ d, TellsN prog w K p loose mean mg mb f c d) (ok : c.Ok d) (hs : c.size d = 1) (hTl : ∀ tl, c.Tl tl → ∃ q, tl = [q]) (hOut : ∀ all r, c.Out all r d → LastNats all r R) (hd : dp + 1 < recursionLimit) (hu : un + 8 * 1 < cLine)
    (ret : ∀ l us nn xs h' tk', R xs → IntsAre us (natsI xs) → Fr h₀ L h' m → News h₀ L h' ((l, listOf us.toArray nn) :: news) → (∀ q ∈ news, q.1 < l) → Q (.ref l) { s with heap := h', toks := tk' }) :
    wpAny (model prog w) (ktrTop dp un gd cn cs L a ccd cl outer) (call (.ref f) vs) Q E s := by
  refine tellsN_use (c := c) (d := d) B F X N T hk hR (C _) ok (by rw [hs]; exact hd) (by rw [hs]; exact hu) ?_
  intro r tl h' tk' F' N' ho ht hO
  obtain ⟨l, us, nn, xs, rfl, N10, hlt, hI, hRx⟩ := last_ret N' ho (hTl _ ht) (hOut _ _ hO)
  exact ret l us nn xs h' tk' hRx hI F' N10 hlt
theorem run_use {ls lv lt : Addr} {sus vus : List Value} {sn vn : Nat} {st : St} {xs : List Nat} (B : Below A₀ base outer h₀) (F : Fr h₀ L s.heap m) (X : K.In h₀) (N : News h₀ L s.heap news) (T : Top p loose mean mg mb h₀) (hk : cs.kind = .function)
    (hms : (ls, listOf sus.toArray sn) ∈ news) (his : IntsAre sus (natsI st.list)) (hmv : (lv, listOf vus.toArray vn) ∈ news) (hiv : IntsAre vus (natsI xs)) (ht : TabsAt news lt) (hst : st.Ok) (hx : ∀ x ∈ xs, x < 32) (hl : xs.length ≤ 1000) (C : ∀ d, TellsN prog w K p loose mean mg mb f cRun d) (hd : dp + 1 < recursionLimit) (hu : un + 8 * 1 < cLine)
    (ret : ∀ l us nn h' tk', IntsAre us (natsI (run st xs).list) → Fr h₀ L h' m → News h₀ L h' ((l, listOf us.toArray nn) :: news) → (∀ q ∈ news, q.1 < l) → Q (.ref l) { s with heap := h', toks := tk' }) :
    wpAny (model prog w) (ktrTop dp un gd cn cs L a ccd cl outer) (call (.ref f) [.ref ls, .ref lv, .ref lt]) Q E s :=
  list_use (c := cRun) (d := ⟨ls, lv, lt, st, xs⟩) (R := fun ys => ys = (run st xs).list) B F X N T hk ⟨rfl, ⟨_, _, hms, his⟩, ⟨_, _, hmv, hiv⟩, ht⟩ C ⟨hst, hx, hl⟩ rfl (fun _ h => h) (fun _ _ h => h) hd hu (fun l us nn ys h' tk' e hI F' N' hlt => ret l us nn h' tk' (e ▸ hI) F' N' hlt)
theorem dig_use {n most : Int} {t0 t1 t2 : Tok} (B : Below A₀ base outer h₀) (F : Fr h₀ L s.heap m) (X : K.In h₀) (N : News h₀ L s.heap news) (T : Top p loose mean mg mb h₀) (hk : cs.kind = .function)
    (hlo : 1 ≤ most) (hhi : most ≤ 64) (C : ∀ d, TellsN prog w K p loose mean mg mb f cDig d) (hd : dp + 1 < recursionLimit) (hu : un + 8 * 1 < cLine)
    (ret : ∀ l us nn xs h' tk', (∀ x ∈ xs, x < 32) → 1 ≤ xs.length → (xs.length : Int) ≤ most → IntsAre us (natsI xs) → Fr h₀ L h' m → News h₀ L h' ((l, listOf us.toArray nn) :: news) → (∀ q ∈ news, q.1 < l) → Q (.ref l) { s with heap := h', toks := tk' }) :
    wpAny (model prog w) (ktrTop dp un gd cn cs L a ccd cl outer) (call (.ref f) [.int n t0, .int 32 t1, .int most t2]) Q E s :=
  list_use (c := cDig) (d := (n, most)) (R := fun xs => (∀ x ∈ xs, x < 32) ∧ 1 ≤ xs.length ∧ (xs.length : Int) ≤ most) B F X N T hk ⟨_, _, _, rfl⟩ C ⟨hlo, hhi⟩ rfl (fun _ h => h) (fun _ _ h => h) hd hu (fun l us nn xs h' tk' e hI F' N' hlt => ret l us nn xs h' tk' e.1 e.2.1 e.2.2 hI F' N' hlt)
end
theorem TabsAt.mono {news news' : List (Addr × Obj)} {lt : Addr} (h : TabsAt news lt) (hs : ∀ p ∈ news, p ∈ news') : TabsAt news' lt := by
  obtain ⟨a1, a2, a3, a4, a5, nn, h0, h1, h2, h3, h4, h5⟩ := h
  exact ⟨a1, a2, a3, a4, a5, nn, hs _ h0, h1.mono hs, h2.mono hs, h3.mono hs, h4.mono hs, h5.mono hs⟩

theorem minus1_list (s : St) : List.take (Int.toNat 5) (natsI s.list) ++ [Builtin.bitXor ((s.list.getD 5 0 : Nat) : Int) 1] = natsI s.minus1.list := by
  have e : Builtin.bitXor ((s.list.getD 5 0 : Nat) : Int) 1 = ((s.z ^^^ 1 : Nat) : Int) := xorN s.z 1
  rw [e]; rfl
theorem zeros_list (k : Nat) (n : Int) (h : n = (k : Int)) : (List.replicate n.toNat [(0 : Int)]).flatten = natsI (List.replicate k 0) := by
  subst h
  rw [Int.toNat_natCast, List.flatten_replicate_singleton]
  simp [natsI]
theorem zeros_lt (k : Nat) : ∀ x ∈ List.replicate k 0, x < 32 := by
  intro x hx
  rw [List.eq_of_mem_replicate hx]; decide

theorem digv (a t n : Nat) : Builtin.bitXor (a : Int) (((t : Int).fdiv (32 ^ n)).fmod 32) = ((a ^^^ (t / 32 ^ n % 32) : Nat) : Int) := by
  have h1 : (t : Int).fdiv (32 ^ n) = ((t / 32 ^ n : Nat) : Int) := by
    rw [Int.fdiv_eq_ediv_of_nonneg _ (Int.pow_nonneg (by decide))]
    simp
  rw [h1, fmodN, xorN]
theorem intsCons {a b : Int} {t : Tok} {vs : List Value} {ns : List Int} (h : a = b) (r : IntsAre vs ns) : IntsAre (.int a t :: vs) (b :: ns) := h ▸ .cons a t r

theorem off1_mem {D : Addr} : ∀ {l : List (Addr × Obj)}, LCg.Off1 D l → ∀ p ∈ l, p.1 ≠ D
  | [], _, _, h => nomatch h
  | _ :: _, x, p, h => by
    rcases List.mem_cons.mp h with rfl | h
    · exact x.1
    · exact off1_mem x.2 p h
theorem pieceStep_ok {s : St} {p : List Nat} (h : s.Ok) : (pieceStep s p).Ok := xor_ok (run_ok _ (minus1_ok h) (zeros_lt _)) (digs_ok _)
theorem gt2 {a b : Addr} (h : a + 1 + 1 < b) : b ≠ a + 1 + 1 ∧ b ≠ a + 1 := ⟨Nat.ne_of_gt h, Nat.ne_of_gt (Nat.lt_of_succ_lt h)⟩
structure RowC where
  rl : Addr
  us : List Value
  nn : Nat
  xs : List Nat
def ListGot (h₀ : Heap) (L : Addr) (m : Str → Option Value) (led : List (Addr × Obj)) (s : Shared) (B : Nat) (v : Value) (s' : Shared) : Prop :=
  ∃ l us nn ns h' tk', v = .ref l ∧ s' = { s with heap := h', toks := tk' } ∧ Fr h₀ L h' m ∧ News h₀ L h' ((l, listOf us.toArray nn) :: led) ∧ (∀ p ∈ led, p.1 < l) ∧ IntsAre us ns ∧ ns.length ≤ B
theorem cutList {M : Model} {A : Around} {t : Sem Value} {Q E : Value → Shared → Prop} {h₀ : Heap} {L : Addr} {m : Str → Option Value} {led : List (Addr × Obj)} {s : Shared} (_F : Fr h₀ L s.heap m) (_N : News h₀ L s.heap led) (B : Nat)
    (h : wpAny M A t (ListGot h₀ L m led s B) E s) (k : ∀ v s', ListGot h₀ L m led s B v s' → Q v s') : wpAny M A t Q E s := wpAny_mono h k (fun _ _ x => x)

end
theorem ints_at {us : List Value} {ns : List Int} (h : IntsAre us ns) : ∀ {i : Nat} {v : Value}, us[i]? = some v → ∃ n t, v = .int n t := by
  induction h with
  | nil => intro i v h; simp at h
  | cons n t r ih =>
    intro i v h
    cases i with
    | zero => exact ⟨n, t, (Option.some.inj h).symm⟩
    | succ i => exact ih h
def POW : List Nat := [1, 2, 4, 8, 16, 9, 18, 13, 26, 29, 19, 15, 30, 21, 3, 6, 12, 24, 25, 27, 31, 23, 7, 14, 28, 17, 11, 22, 5, 10, 20]
def LOG : List Nat := [0, 0, 1, 14, 2, 28, 15, 22, 3, 5, 29, 26, 16, 7, 23, 11, 4, 25, 6, 10, 30, 13, 27, 21, 17, 18, 8, 19, 24, 9, 12, 20]
theorem POW_len : POW.length = 31 := rfl
theorem LOG_len : LOG.length = 32 := rfl
def raisedN (a p : Nat) : Nat := if a = 0 then 0 else POW.getD (LOG.getD a 0 * p % 31) 0
abbrev cConst (xs : List Nat) : ToldN Unit where
  Rel := fun _ vs _ => vs = []
  Ok := fun _ => True
  size := fun _ => 1
  Tl := fun tl => ∃ q, tl = [q]
  Out := fun news r _ => LastNats news r (fun ys => ys = xs)
abbrev cRaised : ToldN (Nat × Nat) where
  Rel := fun _ vs d => ∃ t0 t1, vs = [.int d.1 t0, .int d.2 t1]
  Ok := fun d => d.1 < 32 ∧ d.2 ≤ 16
  size := fun _ => 2
  Tl := fun tl => tl = []
  Out := fun _ r d => ∃ t, r = .int (raisedN d.1 d.2 : Nat) t
theorem natsI_getD (xs : List Nat) (k : Nat) : (natsI xs).getD k 0 = ((xs.getD k 0 : Nat) : Int) := by
  simp only [natsI, List.getD_eq_getElem?_getD, List.getElem?_map]
  cases xs[k]? <;> rfl
theorem St.ext' {a b : St} (h1 : a.u = b.u) (h2 : a.v = b.v) (h3 : a.w = b.w) (h4 : a.x = b.x) (h5 : a.y = b.y) (h6 : a.z = b.z) : a = b := by
  cases a; cases b; simp_all
theorem dig_xor (a b k : Nat) : (a ^^^ b) / 32 ^ k % 32 = (a / 32 ^ k % 32) ^^^ (b / 32 ^ k % 32) := by
  have e : (32 : Nat) ^ k = 2 ^ (5 * k) := by rw [show (32 : Nat) = 2 ^ 5 from rfl, ← Nat.pow_mul]
  rw [e, Nat.xor_div_two_pow, show (32 : Nat) = 2 ^ 5 from rfl, Nat.xor_mod_two_pow]
theorem digs_xor (a b : Nat) : digs (a ^^^ b) = (digs a).xor (digs b) := by
  refine St.ext' ?_ ?_ ?_ ?_ ?_ ?_ <;> exact dig_xor _ _ _
def genT (t : Nat) : Nat := gen5 t 0 ^^^ gen5 t 1 ^^^ gen5 t 2 ^^^ gen5 t 3 ^^^ gen5 t 4
theorem digs_gen : ∀ t, t < 32 → digs (genT t) = ⟨tab 29 t, tab 22 t, tab 20 t, tab 21 t, tab 29 t, tab 18 t⟩ := by
  have h : ∀ t, t < 32 → (digs (genT t)).list = [tab 29 t, tab 22 t, tab 20 t, tab 21 t, tab 29 t, tab 18 t] := by decide +kernel
  intro t ht
  have := h t ht
  simp only [St.list, List.cons.injEq, and_true] at this
  obtain ⟨h1, h2, h3, h4, h5, h6⟩ := this
  exact St.ext' h1 h2 h3 h4 h5 h6
theorem polyStep_eq (c v : Nat) : polyStep c v = (((c &&& 33554431) <<< 5) ^^^ v) ^^^ genT (c >>> 25) := by
  simp only [polyStep, List.foldl, genT, Nat.xor_assoc]
theorem digs_shift (c : Nat) (h : c < 2 ^ 30) : digs ((c &&& 33554431) <<< 5) = ⟨(digs c).v, (digs c).w, (digs c).x, (digs c).y, (digs c).z, 0⟩ := by
  rw [show (33554431 : Nat) = 2 ^ 25 - 1 from rfl, Nat.and_two_pow_sub_one_eq_mod, Nat.shiftLeft_eq]
  refine St.ext' ?_ ?_ ?_ ?_ ?_ ?_ <;> simp only [digs] <;> omega
theorem digs_small (v : Nat) (h : v < 32) : digs v = ⟨0, 0, 0, 0, 0, v⟩ := by
  refine St.ext' ?_ ?_ ?_ ?_ ?_ ?_ <;> simp only [digs] <;> omega
theorem digs_step (c v : Nat) (h : c < 2 ^ 30) (hv : v < 32) : digs (polyStep c v) = runStep (digs c) v := by
  rw [polyStep_eq, digs_xor, digs_xor, digs_shift c h, digs_small v hv]
  have ht : c >>> 25 = (digs c).u := by rw [Nat.shiftRight_eq_div_pow]; simp only [digs]; omega
  rw [ht, digs_gen _ (by simp only [digs]; omega)]
  simp only [St.xor, runStep, Nat.xor_zero, Nat.zero_xor]
  refine St.ext' ?_ ?_ ?_ ?_ ?_ ?_ <;> first | exact Nat.xor_comm _ _ 
theorem digs_fold : ∀ (vs : List Nat) (c : Nat), c < 2 ^ 30 → (∀ x ∈ vs, x < 32) → digs (vs.foldl polyStep c) = run (digs c) vs
  | [], _, _, _ => rfl
  | v :: r, c, h, hx => by
    show digs (r.foldl polyStep (polyStep c v)) = run (runStep (digs c) v) r
    rw [digs_fold r _ (polyStep_lt c v (hx v (.head _))) (fun x h => hx x (.tail _ h)), digs_step c v h (hx v (.head _))]
theorem digs_polyN (vs : List Nat) (hx : ∀ x ∈ vs, x < 32) : digs (polyN vs) = run ⟨0, 0, 0, 0, 0, 1⟩ vs := by
  rw [polyN, digs_fold vs 1 (by decide) hx]; rfl
def num (s : St) : Nat := s.list.foldl (fun d x => 32 * d + x) 0
theorem num_digs (c : Nat) (h : c < 2 ^ 30) : num (digs c) = c := by
  simp only [num, St.list, digs, List.foldl]; omega
theorem polyN_num (vs : List Nat) (hx : ∀ x ∈ vs, x < 32) : polyN vs = num (run ⟨0, 0, 0, 0, 0, 1⟩ vs) := by
  rw [← digs_polyN vs hx, num_digs _ (polyN_lt vs hx)]
theorem tab_add29 : ∀ i, i < 32 → ∀ j, j < 32 → tab 29 (i ^^^ j) = tab 29 i ^^^ tab 29 j := by
  have h : byTab 29 = (byTab 29) := rfl
  decide +kernel
theorem tab_add22 : ∀ i, i < 32 → ∀ j, j < 32 → tab 22 (i ^^^ j) = tab 22 i ^^^ tab 22 j := by decide +kernel
theorem tab_add20 : ∀ i, i < 32 → ∀ j, j < 32 → tab 20 (i ^^^ j) = tab 20 i ^^^ tab 20 j := by decide +kernel
theorem tab_add21 : ∀ i, i < 32 → ∀ j, j < 32 → tab 21 (i ^^^ j) = tab 21 i ^^^ tab 21 j := by decide +kernel
theorem tab_add18 : ∀ i, i < 32 → ∀ j, j < 32 → tab 18 (i ^^^ j) = tab 18 i ^^^ tab 18 j := by decide +kernel
theorem xor4 (a b c d : Nat) : (a ^^^ b) ^^^ (c ^^^ d) = (a ^^^ c) ^^^ (b ^^^ d) := by
  rw [Nat.xor_assoc, Nat.xor_assoc, ← Nat.xor_assoc b, Nat.xor_comm b c, Nat.xor_assoc c]
theorem runStep_xor {a b : St} (ha : a.Ok) (hb : b.Ok) (v w : Nat) : runStep (a.xor b) (v ^^^ w) = (runStep a v).xor (runStep b w) := by
  simp only [runStep, St.xor]
  rw [tab_add29 _ ha.1 _ hb.1, tab_add22 _ ha.1 _ hb.1, tab_add20 _ ha.1 _ hb.1, tab_add21 _ ha.1 _ hb.1, tab_add18 _ ha.1 _ hb.1]
  refine St.ext' ?_ ?_ ?_ ?_ ?_ ?_ <;> exact xor4 _ _ _ _
theorem run_split : ∀ (p : List Nat) {a b : St}, a.Ok → b.Ok → (∀ x ∈ p, x < 32) → run (a.xor b) p = (run a (List.replicate p.length 0)).xor (run b p)
  | [], _, _, _, _, _ => rfl
  | v :: r, a, b, ha, hb, hx => by
    show run (runStep (a.xor b) v) r = (run (runStep a 0) (List.replicate r.length 0)).xor (run (runStep b v) r)
    have hv := hx v (.head _)
    rw [← run_split r (runStep_ok ha (by decide)) (runStep_ok hb hv) (fun x h => hx x (.tail _ h)), ← runStep_xor ha hb, Nat.zero_xor]
theorem pieceStep_run {s : St} (h : s.Ok) (p : List Nat) (hx : ∀ x ∈ p, x < 32) : pieceStep s p = run s p := by
  have h1 : (St.mk 0 0 0 0 0 1).Ok := by show _ ∧ _; decide
  rw [pieceStep, digs_polyN p hx, ← run_split p (minus1_ok h) h1 hx]
  congr 1
  refine St.ext' ?_ ?_ ?_ ?_ ?_ ?_ <;> simp [St.xor, St.minus1, Nat.xor_assoc]
theorem run_append (s : St) (a b : List Nat) : run s (a ++ b) = run (run s a) b := List.foldl_append
def stt (pcs : List (List Nat)) (i : Nat) : St := (pcs.take i).foldl pieceStep ⟨0, 0, 0, 0, 0, 1⟩
theorem st0_ok : (St.mk 0 0 0 0 0 1).Ok := by show _ ∧ _; decide
theorem plain3 (xs : List Nat) (f g la : Nat) (hx : ∀ x ∈ xs, x < 32) (hfg : f ≤ g) (hgl : g ≤ xs.length) (hla : la < 32) :
    polyN (xs ++ [la]) = (run (stt [xs.take f, (xs.drop f).take (g - f), xs.drop g] 3) [la]).list.foldl (fun d x => 32 * d + x) 0 := by
  have hxf : ∀ x ∈ xs.take f, x < 32 := fun x h => hx x (List.mem_of_mem_take h)
  have hxm : ∀ x ∈ (xs.drop f).take (g - f), x < 32 := fun x h => hx x (List.mem_of_mem_drop (List.mem_of_mem_take h))
  have hxd : ∀ x ∈ xs.drop g, x < 32 := fun x h => hx x (List.mem_of_mem_drop h)
  rw [polyN_num _ (fun x h => (List.mem_append.mp h).elim (hx x) (fun h => by rw [List.mem_singleton.mp h]; exact hla))]
  show num _ = num _
  congr 1
  rw [run_append]
  congr 1
  show _ = pieceStep (pieceStep (pieceStep _ _) _) _
  rw [pieceStep_run st0_ok _ hxf, pieceStep_run (run_ok _ st0_ok hxf) _ hxm, ← run_append, pieceStep_run (run_ok _ st0_ok (fun x h => (List.mem_append.mp h).elim (hxf x) (hxm x))) _ hxd, ← run_append]
  congr 1
  have e : xs.drop g = (xs.drop f).drop (g - f) := by rw [List.drop_drop]; congr 1; omega
  rw [List.append_assoc, e, List.take_append_drop, List.take_append_drop]
abbrev sq (a : Nat) : Nat := raisedN a 2
abbrev rt (a : Nat) : Nat := raisedN a 16
def St.O : St := ⟨0, 0, 0, 0, 0, 0⟩
def St.I : St := ⟨0, 0, 0, 0, 0, 1⟩
theorem O_ok : St.O.Ok := by show _ ∧ _; decide
theorem I_ok : St.I.Ok := by show _ ∧ _; decide
def il (h l : St) : List Nat := [sq h.u, sq l.u, sq h.v, sq l.v, sq h.w, sq l.w, sq h.x, sq l.x, sq h.y, sq l.y, sq h.z, sq l.z]
def Phi (h l : St) : St := run St.O (il h l)
theorem sq_lt : ∀ a, a < 32 → sq a < 32 := by decide +kernel
theorem rt_lt : ∀ a, a < 32 → rt a < 32 := by decide +kernel
theorem sq_rt : ∀ a, a < 32 → sq (rt a) = a := by decide +kernel
theorem sq_add : ∀ i, i < 32 → ∀ j, j < 32 → sq (i ^^^ j) = sq i ^^^ sq j := by decide +kernel
theorem St.of_list {a b : St} (h : a.list = b.list) : a = b := by
  simp only [St.list, List.cons.injEq, and_true] at h
  obtain ⟨h1, h2, h3, h4, h5, h6⟩ := h
  exact St.ext' h1 h2 h3 h4 h5 h6
theorem il_lt {h l : St} (hh : h.Ok) (hl : l.Ok) : ∀ x ∈ il h l, x < 32 := by
  obtain ⟨a1, a2, a3, a4, a5, a6⟩ := hh
  obtain ⟨b1, b2, b3, b4, b5, b6⟩ := hl
  simp only [il, List.forall_mem_cons]
  exact ⟨sq_lt _ a1, sq_lt _ b1, sq_lt _ a2, sq_lt _ b2, sq_lt _ a3, sq_lt _ b3, sq_lt _ a4, sq_lt _ b4, sq_lt _ a5, sq_lt _ b5, sq_lt _ a6, sq_lt _ b6, List.forall_mem_nil _⟩
theorem Phi_ok {h l : St} (hh : h.Ok) (hl : l.Ok) : (Phi h l).Ok := run_ok _ O_ok (il_lt hh hl)
theorem run_zip : ∀ (p q : List Nat) {a b : St}, a.Ok → b.Ok → (∀ x ∈ p, x < 32) → (∀ x ∈ q, x < 32) → p.length = q.length → run (a.xor b) (List.zipWith (· ^^^ ·) p q) = (run a p).xor (run b q)
  | [], [], _, _, _, _, _, _, _ => rfl
  | v :: r, w :: t, a, b, ha, hb, hx, hy, hl => by
    show run (runStep (a.xor b) (v ^^^ w)) (List.zipWith (· ^^^ ·) r t) = (run (runStep a v) r).xor (run (runStep b w) t)
    rw [runStep_xor ha hb, run_zip r t (runStep_ok ha (hx v (.head _))) (runStep_ok hb (hy w (.head _))) (fun x h => hx x (.tail _ h)) (fun x h => hy x (.tail _ h)) (by simpa using hl)]
theorem Phi_xor {h l h' l' : St} (a : h.Ok) (b : l.Ok) (c : h'.Ok) (d : l'.Ok) : Phi (h.xor h') (l.xor l') = (Phi h l).xor (Phi h' l') := by
  have e := run_zip (il h l) (il h' l') O_ok O_ok (il_lt a b) (il_lt c d) rfl
  rw [show St.O.xor St.O = St.O from rfl] at e
  rw [Phi, Phi, Phi, ← e]
  obtain ⟨a1, a2, a3, a4, a5, a6⟩ := a
  obtain ⟨b1, b2, b3, b4, b5, b6⟩ := b
  obtain ⟨c1, c2, c3, c4, c5, c6⟩ := c
  obtain ⟨d1, d2, d3, d4, d5, d6⟩ := d
  simp only [il, St.xor, List.zipWith]
  rw [sq_add _ a1 _ c1, sq_add _ a2 _ c2, sq_add _ a3 _ c3, sq_add _ a4 _ c4, sq_add _ a5 _ c5, sq_add _ a6 _ c6, sq_add _ b1 _ d1, sq_add _ b2 _ d2, sq_add _ b3 _ d3, sq_add _ b4 _ d4, sq_add _ b5 _ d5, sq_add _ b6 _ d6]
/-- two zero steps of the whole against one zero step of each half -/
def StepAt (h l : St) : Prop := run (Phi h l) [0, 0] = Phi (runStep h 0) (runStep l 0)
theorem StepAt.xor {h l h' l' : St} (a : h.Ok) (b : l.Ok) (c : h'.Ok) (d : l'.Ok) (p : StepAt h l) (q : StepAt h' l') : StepAt (h.xor h') (l.xor l') := by
  unfold StepAt at *
  rw [Phi_xor a b c d]
  have e := run_zip [0, 0] [0, 0] (Phi_ok a b) (Phi_ok c d) (by decide) (by decide) rfl
  rw [show List.zipWith (· ^^^ ·) [0, 0] [0, 0] = [0, 0] from rfl] at e
  rw [e, p, q, ← Phi_xor (runStep_ok a (by decide)) (runStep_ok b (by decide)) (runStep_ok c (by decide)) (runStep_ok d (by decide))]
  rw [← runStep_xor a c 0 0, ← runStep_xor b d 0 0]
  rfl
theorem sH1 : ∀ a, a < 32 → (run (Phi ⟨a, 0, 0, 0, 0, 0⟩ St.O) [0, 0]).list = (Phi (runStep ⟨a, 0, 0, 0, 0, 0⟩ 0) (runStep St.O 0)).list := by decide +kernel
theorem sH2 : ∀ a, a < 32 → (run (Phi ⟨0, a, 0, 0, 0, 0⟩ St.O) [0, 0]).list = (Phi (runStep ⟨0, a, 0, 0, 0, 0⟩ 0) (runStep St.O 0)).list := by decide +kernel
theorem sH3 : ∀ a, a < 32 → (run (Phi ⟨0, 0, a, 0, 0, 0⟩ St.O) [0, 0]).list = (Phi (runStep ⟨0, 0, a, 0, 0, 0⟩ 0) (runStep St.O 0)).list := by decide +kernel
theorem sH4 : ∀ a, a < 32 → (run (Phi ⟨0, 0, 0, a, 0, 0⟩ St.O) [0, 0]).list = (Phi (runStep ⟨0, 0, 0, a, 0, 0⟩ 0) (runStep St.O 0)).list := by decide +kernel
theorem sH5 : ∀ a, a < 32 → (run (Phi ⟨0, 0, 0, 0, a, 0⟩ St.O) [0, 0]).list = (Phi (runStep ⟨0, 0, 0, 0, a, 0⟩ 0) (runStep St.O 0)).list := by decide +kernel
theorem sH6 : ∀ a, a < 32 → (run (Phi ⟨0, 0, 0, 0, 0, a⟩ St.O) [0, 0]).list = (Phi (runStep ⟨0, 0, 0, 0, 0, a⟩ 0) (runStep St.O 0)).list := by decide +kernel
theorem sL1 : ∀ a, a < 32 → (run (Phi St.O ⟨a, 0, 0, 0, 0, 0⟩) [0, 0]).list = (Phi (runStep St.O 0) (runStep ⟨a, 0, 0, 0, 0, 0⟩ 0)).list := by decide +kernel
theorem sL2 : ∀ a, a < 32 → (run (Phi St.O ⟨0, a, 0, 0, 0, 0⟩) [0, 0]).list = (Phi (runStep St.O 0) (runStep ⟨0, a, 0, 0, 0, 0⟩ 0)).list := by decide +kernel
theorem sL3 : ∀ a, a < 32 → (run (Phi St.O ⟨0, 0, a, 0, 0, 0⟩) [0, 0]).list = (Phi (runStep St.O 0) (runStep ⟨0, 0, a, 0, 0, 0⟩ 0)).list := by decide +kernel
theorem sL4 : ∀ a, a < 32 → (run (Phi St.O ⟨0, 0, 0, a, 0, 0⟩) [0, 0]).list = (Phi (runStep St.O 0) (runStep ⟨0, 0, 0, a, 0, 0⟩ 0)).list := by decide +kernel
theorem sL5 : ∀ a, a < 32 → (run (Phi St.O ⟨0, 0, 0, 0, a, 0⟩) [0, 0]).list = (Phi (runStep St.O 0) (runStep ⟨0, 0, 0, 0, a, 0⟩ 0)).list := by decide +kernel
theorem sL6 : ∀ a, a < 32 → (run (Phi St.O ⟨0, 0, 0, 0, 0, a⟩) [0, 0]).list = (Phi (runStep St.O 0) (runStep ⟨0, 0, 0, 0, 0, a⟩ 0)).list := by decide +kernel
theorem split6 (s : St) : s = (St.mk s.u 0 0 0 0 0).xor ((St.mk 0 s.v 0 0 0 0).xor ((St.mk 0 0 s.w 0 0 0).xor ((St.mk 0 0 0 s.x 0 0).xor ((St.mk 0 0 0 0 s.y 0).xor (St.mk 0 0 0 0 0 s.z))))) := by
  refine St.ext' ?_ ?_ ?_ ?_ ?_ ?_ <;> simp [St.xor]
theorem xorO (s : St) : s.xor St.O = s := by
  refine St.ext' ?_ ?_ ?_ ?_ ?_ ?_ <;> simp [St.xor, St.O]
theorem Oxor (s : St) : St.O.xor s = s := by
  refine St.ext' ?_ ?_ ?_ ?_ ?_ ?_ <;> simp [St.xor, St.O]
theorem addH {h h' : St} (a : h.Ok) (c : h'.Ok) (p : StepAt h St.O) (q : StepAt h' St.O) : StepAt (h.xor h') St.O := by
  have e := StepAt.xor a O_ok c O_ok p q
  rwa [xorO] at e
theorem addL {h h' : St} (a : h.Ok) (c : h'.Ok) (p : StepAt St.O h) (q : StepAt St.O h') : StepAt St.O (h.xor h') := by
  have e := StepAt.xor O_ok a O_ok c p q
  rwa [xorO] at e
theorem stepH {h : St} (a : h.Ok) : StepAt h St.O := by
  obtain ⟨a1, a2, a3, a4, a5, a6⟩ := a
  have z : 0 < 32 := by decide
  have k1 : (St.mk h.u 0 0 0 0 0).Ok := ⟨a1, z, z, z, z, z⟩
  have k2 : (St.mk 0 h.v 0 0 0 0).Ok := ⟨z, a2, z, z, z, z⟩
  have k3 : (St.mk 0 0 h.w 0 0 0).Ok := ⟨z, z, a3, z, z, z⟩
  have k4 : (St.mk 0 0 0 h.x 0 0).Ok := ⟨z, z, z, a4, z, z⟩
  have k5 : (St.mk 0 0 0 0 h.y 0).Ok := ⟨z, z, z, z, a5, z⟩
  have k6 : (St.mk 0 0 0 0 0 h.z).Ok := ⟨z, z, z, z, z, a6⟩
  rw [split6 h]
  have q6 : StepAt ⟨0, 0, 0, 0, 0, h.z⟩ St.O := St.of_list (sH6 _ a6)
  have q5 := addH k5 k6 (St.of_list (sH5 _ a5)) q6
  have q4 := addH k4 (xor_ok k5 k6) (St.of_list (sH4 _ a4)) q5
  have q3 := addH k3 (xor_ok k4 (xor_ok k5 k6)) (St.of_list (sH3 _ a3)) q4
  have q2 := addH k2 (xor_ok k3 (xor_ok k4 (xor_ok k5 k6))) (St.of_list (sH2 _ a2)) q3
  exact addH k1 (xor_ok k2 (xor_ok k3 (xor_ok k4 (xor_ok k5 k6)))) (St.of_list (sH1 _ a1)) q2
theorem stepL {h : St} (a : h.Ok) : StepAt St.O h := by
  obtain ⟨a1, a2, a3, a4, a5, a6⟩ := a
  have z : 0 < 32 := by decide
  have k1 : (St.mk h.u 0 0 0 0 0).Ok := ⟨a1, z, z, z, z, z⟩
  have k2 : (St.mk 0 h.v 0 0 0 0).Ok := ⟨z, a2, z, z, z, z⟩
  have k3 : (St.mk 0 0 h.w 0 0 0).Ok := ⟨z, z, a3, z, z, z⟩
  have k4 : (St.mk 0 0 0 h.x 0 0).Ok := ⟨z, z, z, a4, z, z⟩
  have k5 : (St.mk 0 0 0 0 h.y 0).Ok := ⟨z, z, z, z, a5, z⟩
  have k6 : (St.mk 0 0 0 0 0 h.z).Ok := ⟨z, z, z, z, z, a6⟩
  rw [split6 h]
  have q6 : StepAt St.O ⟨0, 0, 0, 0, 0, h.z⟩ := St.of_list (sL6 _ a6)
  have q5 := addL k5 k6 (St.of_list (sL5 _ a5)) q6
  have q4 := addL k4 (xor_ok k5 k6) (St.of_list (sL4 _ a4)) q5
  have q3 := addL k3 (xor_ok k4 (xor_ok k5 k6)) (St.of_list (sL3 _ a3)) q4
  have q2 := addL k2 (xor_ok k3 (xor_ok k4 (xor_ok k5 k6))) (St.of_list (sL2 _ a2)) q3
  exact addL k1 (xor_ok k2 (xor_ok k3 (xor_ok k4 (xor_ok k5 k6)))) (St.of_list (sL1 _ a1)) q2
theorem step00 {h l : St} (a : h.Ok) (b : l.Ok) : StepAt h l := by
  have e := StepAt.xor a O_ok O_ok b (stepH a) (stepL b)
  rwa [xorO, Oxor] at e
theorem Phi_low (a b : Nat) (ha : a < 32) (hb : b < 32) : Phi ⟨0, 0, 0, 0, 0, rt a⟩ ⟨0, 0, 0, 0, 0, rt b⟩ = run St.O [a, b] := by
  have t0 : ∀ n, tab n 0 = 0 → True := fun _ _ => trivial
  have e : il ⟨0, 0, 0, 0, 0, rt a⟩ ⟨0, 0, 0, 0, 0, rt b⟩ = [0, 0, 0, 0, 0, 0, 0, 0, 0, 0, a, b] := by
    show [sq 0, sq 0, sq 0, sq 0, sq 0, sq 0, sq 0, sq 0, sq 0, sq 0, sq (rt a), sq (rt b)] = _
    rw [sq_rt a ha, sq_rt b hb]; rfl
  rw [Phi, e]
  show run (run St.O [0, 0, 0, 0, 0, 0, 0, 0, 0, 0]) [a, b] = _
  rw [show run St.O [0, 0, 0, 0, 0, 0, 0, 0, 0, 0] = St.O from St.of_list (by decide +kernel)]
theorem stepAB {h l : St} (x : h.Ok) (y : l.Ok) (a b : Nat) (ha : a < 32) (hb : b < 32) : run (Phi h l) [a, b] = Phi (runStep h (rt a)) (runStep l (rt b)) := by
  have z : 0 < 32 := by decide
  have e1 := run_zip [0, 0] [a, b] (Phi_ok x y) O_ok (by decide) (by simp [ha, hb]) rfl
  rw [show List.zipWith (· ^^^ ·) [0, 0] [a, b] = [a, b] by simp, xorO, step00 x y] at e1
  rw [e1, ← Phi_low a b ha hb]
  have k1 : (St.mk 0 0 0 0 0 (rt a)).Ok := ⟨z, z, z, z, z, rt_lt a ha⟩
  have k2 : (St.mk 0 0 0 0 0 (rt b)).Ok := ⟨z, z, z, z, z, rt_lt b hb⟩
  rw [← Phi_xor (runStep_ok x z) (runStep_ok y z) k1 k2]
  have ez : ∀ (s : St) (v : Nat), (runStep s 0).xor ⟨0, 0, 0, 0, 0, v⟩ = runStep s v := by
    intro s v
    refine St.ext' ?_ ?_ ?_ ?_ ?_ ?_ <;> simp [St.xor, runStep]
  rw [ez, ez]
def evN : List Nat → List Nat
  | [] => []
  | x :: xs => if xs.length % 2 = 0 then rt x :: evN xs else evN xs
def odN : List Nat → List Nat
  | [] => []
  | x :: xs => if xs.length % 2 = 1 then rt x :: odN xs else odN xs
theorem evN_lt : ∀ (xs : List Nat), (∀ x ∈ xs, x < 32) → ∀ x ∈ evN xs, x < 32
  | [], _, x, h => nomatch h
  | y :: r, hx, x, h => by
    rw [evN] at h
    split at h
    · rcases List.mem_cons.mp h with rfl | h
      · exact rt_lt _ (hx y (.head _))
      · exact evN_lt r (fun x h => hx x (.tail _ h)) x h
    · exact evN_lt r (fun x h => hx x (.tail _ h)) x h
theorem odN_lt : ∀ (xs : List Nat), (∀ x ∈ xs, x < 32) → ∀ x ∈ odN xs, x < 32
  | [], _, x, h => nomatch h
  | y :: r, hx, x, h => by
    rw [odN] at h
    split at h
    · rcases List.mem_cons.mp h with rfl | h
      · exact rt_lt _ (hx y (.head _))
      · exact odN_lt r (fun x h => hx x (.tail _ h)) x h
    · exact odN_lt r (fun x h => hx x (.tail _ h)) x h
theorem evN_len : ∀ (xs : List Nat), (evN xs).length = (xs.length + 1) / 2
  | [] => rfl
  | y :: r => by
    rw [evN]; split <;> simp only [List.length_cons, evN_len r] <;> omega
theorem odN_len : ∀ (xs : List Nat), (odN xs).length = xs.length / 2
  | [] => rfl
  | y :: r => by
    rw [odN]; split <;> simp only [List.length_cons, odN_len r] <;> omega
theorem pairs : ∀ (k : Nat) (xs : List Nat) {h l : St}, xs.length = 2 * k → h.Ok → l.Ok → (∀ x ∈ xs, x < 32) → run (Phi h l) xs = Phi (run h (odN xs)) (run l (evN xs))
  | 0, xs, h, l, e, _, _, _ => by
    rw [List.length_eq_zero_iff.mp e]; rfl
  | k + 1, xs, h, l, e, x, y, hx => by
    obtain ⟨a, b, r, rfl⟩ : ∃ a b r, xs = a :: b :: r := by
      rcases xs with _ | ⟨a, _ | ⟨b, r⟩⟩
      · simp at e
      · simp at e; omega
      · exact ⟨a, b, r, rfl⟩
    have hr : r.length = 2 * k := by simp at e; omega
    have ha := hx a (.head _)
    have hb := hx b (.tail _ (.head _))
    have e1 : evN (a :: b :: r) = rt b :: evN r := by
      rw [evN, if_neg (by simp; omega), evN, if_pos (by omega)]
    have e2 : odN (a :: b :: r) = rt a :: odN r := by
      rw [odN, if_pos (by simp; omega), odN, if_neg (by omega)]
    rw [e1, e2]
    show run (run (Phi h l) [a, b]) r = Phi (run (runStep h (rt a)) (odN r)) (run (runStep l (rt b)) (evN r))
    rw [stepAB x y a b ha hb]
    exact pairs k r hr (runStep_ok x (rt_lt a ha)) (runStep_ok y (rt_lt b hb)) (fun x h => hx x (.tail _ (.tail _ h)))
theorem run_front (p : List Nat) (hp : ∀ x ∈ p, x < 32) : (run St.I p).xor (run St.I (List.replicate p.length 0)) = run St.O p := by
  have e := run_split p I_ok O_ok hp
  rw [xorO] at e
  rw [e]
  refine St.ext' ?_ ?_ ?_ ?_ ?_ ?_ <;> simp only [St.xor] <;> rw [Nat.xor_comm, ← Nat.xor_assoc, Nat.xor_self, Nat.zero_xor]
def hiOf (xs : List Nat) : St := if xs.length % 2 = 0 then (digs (polyN (odN xs))).xor (run St.I (List.replicate ((xs.length + 1) / 2) 0)) else digs (polyN (odN xs))
def loOf (xs : List Nat) : St := if xs.length % 2 = 0 then digs (polyN (evN xs)) else (digs (polyN (evN xs))).xor (run St.I (List.replicate ((xs.length + 1) / 2) 0))
theorem digsI (vs : List Nat) (hx : ∀ x ∈ vs, x < 32) : digs (polyN vs) = run St.I vs := digs_polyN vs hx
theorem PhiOI : Phi St.O St.I = St.I := St.of_list (by decide +kernel)
theorem oneQ : ∀ b, b < 32 → (run St.I [b]).list = (Phi St.I (run St.O [rt b])).list := by decide +kernel
theorem halves (xs : List Nat) (hx : ∀ x ∈ xs, x < 32) : run St.I xs = Phi (hiOf xs) (loOf xs) := by
  have he := evN_lt xs hx
  have ho := odN_lt xs hx
  unfold hiOf loOf
  rw [digsI _ he, digsI _ ho]
  by_cases hn : xs.length % 2 = 0
  · rw [if_pos hn, if_pos hn]
    have e1 : (xs.length + 1) / 2 = (odN xs).length := by rw [odN_len]; omega
    rw [e1, run_front _ ho, ← pairs (xs.length / 2) xs (by omega) O_ok I_ok hx, PhiOI]
  · rw [if_neg hn, if_neg hn]
    have e1 : (xs.length + 1) / 2 = (evN xs).length := by rw [evN_len]
    rw [e1, run_front _ he]
    obtain ⟨b, r, rfl⟩ : ∃ b r, xs = b :: r := by
      rcases xs with _ | ⟨b, r⟩
      · exact absurd rfl hn
      · exact ⟨b, r, rfl⟩
    have hr : r.length % 2 = 0 := by simp at hn; omega
    have hb := hx b (.head _)
    have k : (run St.O [rt b]).Ok := run_ok _ O_ok (by simpa using rt_lt b hb)
    have e2 : evN (b :: r) = [rt b] ++ evN r := by rw [evN, if_pos hr]; rfl
    have e3 : odN (b :: r) = odN r := by rw [odN, if_neg (by omega)]
    rw [e2, e3, run_append, ← pairs (r.length / 2) r (by omega) I_ok k (fun x h => hx x (.tail _ h)), ← St.of_list (oneQ b hb), ← run_append]
    rfl
theorem plain2 (xs : List Nat) (hx : ∀ x ∈ xs, x < 32) : polyN xs = num (run St.O (il (hiOf xs) (loOf xs))) := by
  have e := polyN_num xs hx
  have h := halves xs hx
  unfold Phi at h
  rw [← h]
  exact e
theorem polyStep_small (c v : Nat) (h : c < 2 ^ 25) (hv : v < 32) : polyStep c v = 32 * c + v := by
  rw [polyStep_eq, Nat.shiftRight_eq_div_pow, Nat.div_eq_of_lt h, show genT 0 = 0 from rfl, Nat.xor_zero]
  rw [show (33554431 : Nat) = 2 ^ 25 - 1 from rfl, Nat.and_two_pow_sub_one_eq_mod, Nat.mod_eq_of_lt h]
  rw [Nat.shiftLeft_eq, Nat.mul_comm, show (2 : Nat) ^ 5 * c = 2 ^ 5 * c from rfl] 
  have hv' : v = v &&& (2 ^ 5 - 1) := by rw [Nat.and_two_pow_sub_one_eq_mod]; omega
  have hz : (2 ^ 5 * c) &&& v = 0 := by
    rw [hv', Nat.and_comm v, ← Nat.and_assoc, Nat.and_two_pow_sub_one_eq_mod, Nat.mul_mod_right, Nat.zero_and]
  have e := xor_and_add (2 ^ 5 * c) v
  rw [hz] at e
  omega
theorem plainFold : ∀ (xs : List Nat) (c k : Nat), xs.length + k ≤ 5 → c < 2 * 32 ^ k → (∀ x ∈ xs, x < 32) → xs.foldl polyStep c = xs.foldl (fun d x => 32 * d + x) c
  | [], _, _, _, _, _ => rfl
  | v :: r, c, k, hl, hc, hx => by
    have hv := hx v (.head _)
    have hk : k ≤ 4 := by simp at hl; omega
    have h25 : c < 2 ^ 25 := Nat.lt_of_lt_of_le hc (by
      have := Nat.pow_le_pow_right (by decide : 0 < 32) hk
      omega)
    show r.foldl polyStep (polyStep c v) = r.foldl _ (32 * c + v)
    rw [polyStep_small c v h25 hv]
    refine plainFold r _ (k + 1) (by simp at hl; omega) ?_ (fun x h => hx x (.tail _ h))
    rw [Nat.pow_succ]; omega
theorem plain5 (xs : List Nat) (hx : ∀ x ∈ xs, x < 32) (hl : xs.length ≤ 5) : polyN xs = xs.foldl (fun d x => 32 * d + x) 1 :=
  plainFold xs 1 0 (by omega) (by decide) hx
section
open PySem.Spec
variable {prog : Program} {w : World} {K : Frag} {p : Program} {loose : List Str} {mean : ExcName → Option Value} {mg mb : Str → Option Value} {f : Addr} {dp un : Nat} {gd : Option (List Code)} {cn : Str} {cs : Scope} {a : Addr} {ccd : Value} {cl : List (Str × Addr)} {outer : List Env} {A₀ : Around} {base h₀ : Heap} {L : Addr} {m : Str → Option Value} {news : List (Addr × Obj)} {s : Shared}
  {Q E : Value → Shared → Prop}
theorem raised_use {x y : Nat} {t0 t1 : Tok} (B : Below A₀ base outer h₀) (F : Fr h₀ L s.heap m) (X : K.In h₀) (N : News h₀ L s.heap news) (T : Top p loose mean mg mb h₀) (hk : cs.kind = .function)
    (hx : x < 32) (hy : y ≤ 16) (C : ∀ d, TellsN prog w K p loose mean mg mb f cRaised d) (hd : dp + 2 < recursionLimit) (hu : un + 8 * 2 < cLine)
    (ret : ∀ t h' tk', Fr h₀ L h' m → News h₀ L h' news → Q (.int (raisedN x y : Nat) t) { s with heap := h', toks := tk' }) :
    wpAny (model prog w) (ktrTop dp un gd cn cs L a ccd cl outer) (call (.ref f) [.int (x : Nat) t0, .int (y : Nat) t1]) Q E s := by
  refine tellsN_use (c := cRaised) (d := (x, y)) B F X N T hk ⟨_, _, rfl⟩ (C _) ⟨hx, hy⟩ hd hu ?_
  rintro r tl h' tk' F' N' - rfl ⟨t, rfl⟩
  exact ret t h' tk' F' (by rw [List.append_nil] at N'; exact N')
end
section
open PySem.Calls
variable {prog : Program} {w : World} {A : Around} {h₀ : Heap} {L : Addr} {m : Str → Option Value} {env : Env} {ct elt : Expr} {x : Str} {scope : Scope} {cl : List (Str × Addr)} {s : Shared} {S : List (Addr × Obj) → Prop} {Fin : List Value → List (Addr × Obj) → Prop} {news : List (Addr × Obj)}
theorem compSrc_range {r : Addr} {n : Nat} {t u v : Tok} {s₁ : Shared} {Fin : Shared → List Value → List (Addr × Obj) → Prop} (hh : A.handled = none) (F : Fr h₀ L s₁.heap m) (N : News h₀ L s₁.heap news) (hr : IsRange s₁.heap r 0 ((n : Nat) : Int) 1 t u v) (hn : n ≤ 1000)
    (h : ∀ g, LCt.CompRestT prog w A h₀ L m env ct elt x scope cl { s₁ with heap := g } (fun _ => True) (fun i v => ∃ t, v = .int (0 + (i : Int)) t) (Fin { s₁ with heap := g }) n 0 [] news) :
    LCt.CompSrcT prog w A h₀ L m env ct elt x scope cl Fin (.ref r) s₁ :=
  .range hh F N hr (small_one (by omega) (by omega) (by omega) (by omega)) (by rw [rangeSize_nat]; omega) (by rw [PySem.sizeLine_eq]; omega) h
theorem comp_range {n : Nat} (H : Nat → List Nat) (h0 : H 0 = [])
    (turn : ∀ i t I oI C oC D m₂ ys h tk (E' : Value → Shared → Prop), i < n → IntsAre ys (natsI (H i)) → LCg.NsObj oC m₂ → m₂ x = some (.int (0 + (i : Int)) t) → Fr h₀ L h m → News h₀ L h ((I, oI) :: (C, oC) :: (D, LCg.lst ys) :: news) → LCg.Off3 I C D news → ((@Ne Nat I C) ∧ (@Ne Nat I D) ∧ (@Ne Nat C D)) →
      wpAny (model prog w) A (isTrue ct (compEnvC scope cl C env) (eval ct (compEnvC scope cl C env))) (fun b s' => if b = true then wpAny (model prog w) A (eval elt (compEnvC scope cl C env)) (LCg.CompEnd h₀ L m { s with heap := h, toks := tk } I oI C oC D (LCg.lst ys) S (fun y news' => news' = news ∧ ∃ (a : Nat) (t : Tok), y = .int a t ∧ H (i + 1) = H i ++ [a])) E' s'
        else LCg.CompEnd h₀ L m { s with heap := h, toks := tk } I oI C oC D (LCg.lst ys) S (fun _ news' => news' = news ∧ H (i + 1) = H i) Value.none s') E' { s with heap := h, toks := tk })
    (fin : ∀ ys, IntsAre ys (natsI (H n)) → Fin ys news) : LCt.CompRestT prog w A h₀ L m env ct elt x scope cl s S (fun i v => ∃ t, v = .int (0 + (i : Int)) t) Fin n 0 [] news := by
  have key : ∀ (j i : Nat) (ys : List Value), i + j = n → IntsAre ys (natsI (H i)) → LCt.CompRestT prog w A h₀ L m env ct elt x scope cl s S (fun i v => ∃ t, v = .int (0 + (i : Int)) t) Fin j i ys news := by
    intro j
    induction j with
    | zero =>
      intro i ys hi hy
      obtain rfl : i = n := by omega
      exact LCt.CompRestT.zero (fin ys hy)
    | succ j ih =>
      intro i ys hi hy
      refine LCt.CompRestT.succ ?_
      intro v I oI C oC D m₂ h tk E' hv hC hx F N off ne
      obtain ⟨t, rfl⟩ := hv
      refine wpAny_mono (turn i t I oI C oC D m₂ ys h tk E' (by omega) hy hC hx F N off ne) (fun b s₂ hq => ?_) fun _ _ e => e
      cases b with
      | true =>
        simp only [if_true] at hq ⊢
        refine wpAny_mono hq (fun y s₃ hr => ?_) fun _ _ e => e
        obtain ⟨h', tk', nw, e, F', N', off', hS, rfl, a, t', rfl, hr'⟩ := hr
        refine ⟨h', tk', nw, e, F', N', off', hS, ih (i + 1) _ (by omega) ?_⟩
        rw [hr', show natsI (H i ++ [a]) = natsI (H i) ++ natsI [a] from List.map_append]
        exact IntsAre.append hy (.cons _ t' .nil)
      | false =>
        simp only [Bool.false_eq_true, if_false] at hq ⊢
        obtain ⟨h', tk', nw, e, F', N', off', hS, rfl, hr'⟩ := hq
        refine ⟨h', tk', nw, e, F', N', off', hS, ih (i + 1) _ (by omega) ?_⟩
        rw [hr']
        exact hy
  exact key n 0 [] (by omega) (by rw [h0]; exact .nil)
end
/-- what the filtered comprehension holds after i turns -/
def takenN (xs : List Nat) (r i : Nat) : List Nat := ((List.range i).filter (fun k => (xs.length - 1 - k) % 2 == r)).map (fun k => rt (xs.getD k 0))
theorem taken_pos (xs : List Nat) (r i : Nat) (h : (xs.length - 1 - i) % 2 = r) : takenN xs r (i + 1) = takenN xs r i ++ [rt (xs.getD i 0)] := by
  unfold takenN
  rw [List.range_succ, List.filter_append, List.map_append]
  simp [h]
theorem taken_neg (xs : List Nat) (r i : Nat) (h : (xs.length - 1 - i) % 2 ≠ r) : takenN xs r (i + 1) = takenN xs r i := by
  unfold takenN
  rw [List.range_succ, List.filter_append, List.map_append]
  simp [h]
theorem taken_ev (xs : List Nat) : ∀ i, i ≤ xs.length → takenN xs 0 i ++ evN (xs.drop i) = evN xs
  | 0, _ => rfl
  | i + 1, h => by
    have ih := taken_ev xs i (by omega)
    rw [← ih, List.drop_eq_getElem_cons (show i < xs.length by omega), evN]
    have hg : xs.getD i 0 = xs[i]'(by omega) := by
      rw [List.getD_eq_getElem?_getD, List.getElem?_eq_getElem (show i < xs.length by omega)]; rfl
    by_cases hc : (xs.length - 1 - i) % 2 = 0
    · rw [taken_pos xs 0 i hc, if_pos (by rw [List.length_drop]; omega), hg, List.append_assoc]; rfl
    · rw [taken_neg xs 0 i hc, if_neg (by rw [List.length_drop]; omega)]
theorem taken_od (xs : List Nat) : ∀ i, i ≤ xs.length → takenN xs 1 i ++ odN (xs.drop i) = odN xs
  | 0, _ => rfl
  | i + 1, h => by
    have ih := taken_od xs i (by omega)
    rw [← ih, List.drop_eq_getElem_cons (show i < xs.length by omega), odN]
    have hg : xs.getD i 0 = xs[i]'(by omega) := by
      rw [List.getD_eq_getElem?_getD, List.getElem?_eq_getElem (show i < xs.length by omega)]; rfl
    by_cases hc : (xs.length - 1 - i) % 2 = 1
    · rw [taken_pos xs 1 i hc, if_pos (by rw [List.length_drop]; omega), hg, List.append_assoc]; rfl
    · rw [taken_neg xs 1 i hc, if_neg (by rw [List.length_drop]; omega)]
theorem taken_evN (xs : List Nat) : takenN xs 0 xs.length = evN xs := by
  have h := taken_ev xs xs.length (Nat.le_refl _)
  rw [List.drop_length, evN, List.append_nil] at h; exact h
theorem taken_odN (xs : List Nat) : takenN xs 1 xs.length = odN xs := by
  have h := taken_od xs xs.length (Nat.le_refl _)
  rw [List.drop_length, odN, List.append_nil] at h; exact h
theorem getD_lt {xs : List Nat} (h : ∀ x ∈ xs, x < 32) (i : Nat) : xs.getD i 0 < 32 := by
  rw [List.getD_eq_getElem?_getD]
  cases e : xs[i]? with
  | none => exact (by decide : (0 : Nat) < 32)
  | some v => exact h v (List.mem_of_getElem? e)
set_option maxRecDepth 100000 in
set_option maxHeartbeats 8000000 in
open_top hd02 for PySem.Challenge.rw_oo0001_02
theorem top_off : True := by
  w_top off
  exact True.intro
open PySem.Spec
set_option maxRecDepth 100000
local macro_rules | `(tactic| tb_start) => `(tactic| repeat' (first
  | (k_unfold; (try dsimp only))
  | ((fail_if_success (with_reducible show wpAny _ _ (PySem.exec (PySem.Stmt.For _ _ _ _ _) _) _ _ _)); (fail_if_success (with_reducible show wpAny _ _ (PySem.exec (PySem.Stmt.While _ _ _ _) _) _ _ _)); (fail_if_success (with_reducible show wpAny _ _ (PySem.pyIter _) _ _ _)); (fail_if_success (with_reducible show InvPostN _ _ _ _ _ _ _ _ _)); (fail_if_success (with_reducible show InvEndN _ _ _ _ _ _ _)); (fail_if_success (with_reducible show ShiftWantsBound)); (fail_if_success (with_reducible show wpAny _ _ (PySem.call (Value.ref _) _) _ _ _));
     first | walk1 | (dsimp only; walk1))))
local macro_rules | `(tactic| walk_at "binaryOp LShift int int") => `(tactic| (refine lshift_int_small (by decide) (by decide) (and_bound _) ?_))
local macro_rules | `(tactic| walk_at "call builtin:len") => `(tactic| ((with_reducible show wpAny _ _ (call (Value.builtin "len") [Value.ref _]) _ _ _); (refine len_my (by k_asm) (by k_dflt k_mem) (by with_reducible assumption) (by omega) ?_)))
local macro_rules | `(tactic| walk_at "call builtin:list.append") => `(tactic| ((with_reducible show wpAny _ _ (call (Value.builtin "list.append") [Value.ref _, _]) _ _ _); (refine' append_my (by k_asm) (by k_asm) ?U ?hi ?hf ?_; (case hi => with_reducible assumption); (case hf => omega); (case U => first | exact Upd.head (fun p hp => Nat.ne_of_lt (by apply_assumption; assumption)) | k_upd)); intro h' F' N'; (try k_sweep)))
local macro_rules | `(tactic| k_all) => `(tactic| with_reducible assumption)
local macro_rules | `(tactic| tb_rel) => `(tactic| (refine' code_defC ?k1 ?k2 ?k3 ?k4 ?k5 ?kA ?kF ?kK ?k6 ?k7 ?k8 ?k9 ?kB ?kD ?_ ?c2 ?c3 ?c4; (case kA => exact rfl); (case kF => exact rfl); (case kK => assumption); (case k1 => k_asm); (case k2 => k_asm); (case k3 => k_asm); (case k4 => k_asm); (case k5 => k_asm); (case k6 => k_is); (case k7 => k_is); (case k8 => ktr_room); (case k9 => exact BindsTo.of_eq rfl); (case kB => exact rfl); (case kD => decide +kernel); (case c2 => exact rfl); (case c3 => exact rfl); (case c4 => exact rfl); k_whole))
local macro_rules | `(tactic| walk_at "subscriptTail Name Name ref int") => `(tactic| (refine' item_my ?xN ?xm ?xi ?xj ?hk ?hb ?_ ?hs; (case xN => k_asm); (case xm => k_dflt k_mem); (case xi => with_reducible assumption); (case xj => rfl); (case hk => (rw [byTab_len]; omega)); (case hb => (rw [byTab_len]; decide)); (case hs => with_unfolding_all rfl); intro _))
local macro_rules | `(tactic| walk_at "eval Call") => `(tactic| ((with_reducible show wpAny _ _ (PySem.eval (PySem.Expr.Call (PySem.Expr.Name (PySem.Str.ofString "_law_at") _) _ [] _) _) _ _ _); k_dflt (refine Call_ ?_)))
local macro_rules | `(tactic| walk_at "eval Call") => `(tactic| ((with_reducible show wpAny _ _ (PySem.eval (PySem.Expr.Call (PySem.Expr.Name (PySem.Str.ofString "_law_digits") _) _ [] _) _) _ _ _); k_dflt (refine Call_ ?_)))
local macro_rules | `(tactic| walk_at "eval Call") => `(tactic| ((with_reducible show wpAny _ _ (PySem.eval (PySem.Expr.Call (PySem.Expr.Name (PySem.Str.ofString "bech32_polymod") _) _ [] _) _) _ _ _); k_dflt (refine Call_ ?_)))
local macro_rules | `(tactic| walk_at "eval Call") => `(tactic| ((with_reducible show wpAny _ _ (PySem.eval (PySem.Expr.Call (PySem.Expr.Name (PySem.Str.ofString "_law_run") _) _ [] _) _) _ _ _); k_dflt (refine Call_ ?_)))
local macro_rules | `(tactic| walk_at "subscriptTail Name Slice ref ref") => `(tactic| ((with_reducible show wpAny _ _ (PyProof.Rows.subscriptTail _ (PySem.Expr.Slice _ _ none _) (Value.ref _) (Value.ref _)) _ _ _); k_dflt (refine' slice_my ?xsF ?xsN ?xsm ?xsi ?xsb ?xsp ?xsq ?xsk ?_ ?xss ?xst; (case xsF => k_asm); (case xsN => k_asm); (case xsm => k_mem); (case xsi => with_reducible assumption); (case xsb => omega); (case xsp => kmk_part); (case xsq => kmk_part); (case xsk => first | exact kmk_upto (by with_reducible assumption) (by omega) | exact kmk_from (by with_reducible assumption) (by omega) | exact kmk_run (by with_reducible assumption) (by omega) (by omega)); (case xss => with_unfolding_all rfl); (case xst => kmk_pure)); intro D' ws' h' F' N' l1 hI'; (try k_lt l1); (try k_sweep)))
local macro_rules | `(tactic| k_mem) => `(tactic| first | with_reducible assumption | exact List.mem_cons_self | (refine' List.mem_cons_of_mem _ ?_; k_mem))
local macro_rules | `(tactic| walk_at "subscriptTail Name Constant ref int") => `(tactic| (refine' item_my (j := 5) ?xN ?xm ?xi ?xj ?hk ?hb ?_ ?hs; (case xN => k_asm); (case xm => k_dflt k_mem); (case xi => with_reducible assumption); (case xj => rfl); (case hk => exact Nat.le_of_ble_eq_true rfl); (case hb => exact Nat.le_of_ble_eq_true rfl); (case hs => with_unfolding_all rfl); intro _))
local macro_rules | `(tactic| walk_at "eval Call") => `(tactic| ((with_reducible show wpAny _ _ (PySem.eval (PySem.Expr.Call (PySem.Expr.Name (PySem.Str.ofString "_law_powers") _) _ [] _) _) _ _ _); k_dflt (refine Call_ ?_)))
local macro_rules | `(tactic| walk_at "eval Call") => `(tactic| ((with_reducible show wpAny _ _ (PySem.eval (PySem.Expr.Call (PySem.Expr.Name (PySem.Str.ofString "_law_logs") _) _ [] _) _) _ _ _); k_dflt (refine Call_ ?_)))
local macro_rules | `(tactic| walk_at "eval Call") => `(tactic| ((with_reducible show wpAny _ _ (PySem.eval (PySem.Expr.Call (PySem.Expr.Name (PySem.Str.ofString "_law_raised") _) _ [] _) _) _ _ _); k_dflt (refine Call_ ?_)))
set_option maxHeartbeats 8000000 in
theorem dig_tells (w : World) (loose : List Str) (mean : ExcName → Option Value) (mg mb : Str → Option Value) (d : Int × Int) :
  TellsN Challenge.rw_oo0001_02.row.prog w (hd02.heap_39 w.params) hd02.view_39 loose mean mg mb 42 cDig d := by
  k_fill
  unfold TellsN
  intro dp un gd cn cs a ccd cl outer A₀ base h₀ L m news s vs Q E B F X N T hk hR hok hd hu hret
  obtain ⟨num, most⟩ := d
  obtain ⟨t0, t1, t2, rfl⟩ := hR
  dsimp only [cDig] at hok hd hu hret
  refine wpAny_call ?_
  k_dflt ktr_enter
  w_strict tb_start
  have e1 : (if num < 0 then -num else num) = ((num.natAbs : Nat) : Int) := by split <;> omega
  rename Fr _ _ _ _ => F1
  rename News _ _ _ _ => N1
  rw [e1] at F1 N1
  rw [fmodN] at N1
  with_unfolding_all refine' ksw_while (σ := DigC) (fun c => (_, listOf c.us.toArray c.nn) :: news) (fun c => [("number", .int c.num c.tk)]) (fun _ => True) [] (fun c => IntsAre c.us (natsI c.xs) ∧ (∀ x ∈ c.xs, x < 32) ∧ 1 ≤ c.xs.length ∧ (c.xs.length : Int) ≤ most) (fun c => c.num) ⟨num.natAbs, _, [Value.int ((num.natAbs % 32 : Nat) : Int) _], 0, [num.natAbs % 32]⟩ F1 N1 trivial ?q1 ?q2 ?q3
  case q1 => intro p hp; rcases List.mem_singleton.mp hp with rfl; rfl
  case q2 => exact ⟨.cons _ _ .nil, by simp; omega, by simp, by simp; omega⟩
  case q3 =>
    clear F1 N1
    intro c u h tk _ hp F2 N2
    obtain ⟨hI, hlt, hge, hle⟩ := hp
    have hle2 : (natsI c.xs).length ≤ 64 := by simp only [natsI, List.length_map]; omega
    tb_start
    · rename Fr _ _ _ _ => F3
      rename News _ _ _ _ => N3
      rename (32 ≤ (c.num : Int)) => hn
      rename (_ < Prod.snd _) => hlm
      rw [fdivN] at F3 N3
      rw [fmodN] at N3
      have hlm' : (c.xs.length : Int) < most := by simpa [natsI] using hlm
      refine' ksw_end (⟨c.num / 32, ?tkq, c.us ++ [_], c.nn + 1, c.xs ++ [c.num / 32 % 32]⟩ : DigC) F3 N3 (fun _ => id) trivial ?g1 ?g2 ?g3 ?g4
      case g1 => intro p hp; rcases List.mem_singleton.mp hp with rfl; exact if_pos rfl
      case g2 =>
        intro z h2 h3
        have h4 : z ≠ "number" := h2 _ (.head _)
        simp only [kstB, if_neg h4, List.contains_nil, Bool.false_eq_true, if_false]
      case g3 =>
        refine ⟨?_, ?_, by simp, by simp; omega⟩
        · simp only [natsI, List.map_append]; exact IntsAre.append hI (.cons _ _ .nil)
        · intro x hx
          rcases List.mem_append.mp hx with hx | hx
          · exact hlt x hx
          · rw [List.mem_singleton.mp hx]; omega
      case g4 => show c.num / 32 < c.num; omega
    all_goals
      rename Fr h₀ _ _ _ => kF
      rename News h₀ _ _ _ => kN
      rename (∀ p ∈ news, p.1 < _) => hl1
      refine hret _ [_] _ _ kF (ktn_tl1 kN) (fun q hq p hp => ?_) ⟨_, rfl⟩ ⟨_, _, _, c.xs, rfl, List.getLast?_concat, hI, hlt, hge, hle⟩
      rw [List.mem_singleton.mp hp]; exact hl1 q hq
set_option maxHeartbeats 8000000 in
theorem by_tells (w : World) (loose : List Str) (mean : ExcName → Option Value) (mg mb : Str → Option Value) (d : Nat) :
  TellsN Challenge.rw_oo0001_02.row.prog w (hd02.heap_39 w.params) hd02.view_39 loose mean mg mb 47 cBy d := by
  k_fill
  unfold TellsN
  intro dp un gd cn cs a ccd cl outer A₀ base h₀ L m news s vs Q E B F X N T hk hR hok hd hu hret
  obtain ⟨t0, rfl⟩ := hR
  dsimp only [cBy] at hok hd hu hret
  refine wpAny_call ?_
  k_dflt tb_rel
  intro g1 L1 h1 tk1 cells1 FG1 F1 N1 Y1 B1 X1 T1 l1
  k_cells Y1
  simp only [List.cons_append, List.nil_append] at N1
  try dsimp only
  try k_fold
  have hoffn : ∀ p ∈ news, p.1 ≠ L1 + 1 := fun p hp e => absurd (l1 p hp) (by rw [e]; exact Nat.not_lt.mpr (Nat.le_succ _))
  w_strict tb_start
  rename Fr _ _ _ _ => F1
  rename News _ _ _ _ => N1
  rename (Obj.data _ = Data.cell _) => hcd
  rename Obj => ob0
  have hcd' : ob0.data = .cell (some (.int ((d : Nat) : Int) t0)) := by first | exact hcd | (rw [hcd]; rfl)
  rename (_ ∧ AllLt _ _) => hlt1
  with_unfolding_all refine' ksw_while (σ := ByC) (fun c => (L1 + 1, c.cell) :: (c.tab, listOf c.us.toArray c.nn) :: news) (fun c => [("table", .ref c.tab)]) (fun _ => True) [] (fun c => c.cell.data = .cell (some (.int ((byIt d c.i).1 : Nat) c.tk)) ∧ IntsAre c.us (natsI (byIt d c.i).2) ∧ c.i ≤ 5 ∧ L1 + 1 < c.tab) (fun c => 5 - c.i) ⟨0, t0, [Value.int 0 _], 0, _, ob0⟩ F1 (kst_newsOf N1 ?q0) trivial ?q1 ?q2 ?q3
  case q0 => intro p hp; rcases List.mem_cons.mp hp with rfl | hp; exact .tail _ (.head _); rcases List.mem_cons.mp hp with rfl | hp; exact .head _; exact .tail _ (.tail _ hp)
  case q1 => intro p hp; rcases List.mem_singleton.mp hp with rfl; rfl
  case q2 => exact ⟨hcd', .cons _ _ .nil, Nat.zero_le _, hlt1.1⟩
  case q3 =>
    clear F1 N1
    intro c u h tk _ hp F2 N2
    obtain ⟨hcd2, hI, hi5, hlt3⟩ := hp
    replace hlt3 := ltN hlt3
    have hlen : (natsI (byIt d c.i).2).length = 2 ^ c.i := by simp only [natsI, List.length_map]; exact byIt_len d c.i
    have hlen2 : (natsI (byIt d c.i).2).length ≤ 32 := by rw [hlen]; exact Nat.pow_le_pow_right (by decide) hi5
    tb_start
    · rename Fr _ _ _ _ => F3
      rename News _ _ _ _ => N3
      rename (_ ∧ _ ∧ _ ∧ AllLt _ _) => hl4
      rename (Obj.data _ = _) => hd4
      rename (IntsAre _ (_ ++ _)) => hI4
      rename (_ < (32 : Int)) => hlt5
      rename (15 < _) => hbr
      have hi6 : c.i + 1 ≤ 5 := by
        have h2 : 2 ^ c.i < 32 := by rw [← hlen]; omega
        rcases Nat.lt_or_ge c.i 5 with h | h
        · exact h
        · exact absurd (Nat.pow_le_pow_right (by decide : 0 < 2) h) (by omega)
      rename Obj => ob4
      refine' ksw_end (⟨c.i + 1, _, _, _, _, ob4⟩ : ByC) F3 (kst_newsOf N3 ?g0x) (fun _ => id) trivial ?g1x ?g2x ?g3x ?g4x
      case g1x => intro p hp; rcases List.mem_singleton.mp hp with rfl; exact if_pos rfl
      case g0x => intro p hp; rcases List.mem_cons.mp hp with rfl | hp; exact .tail _ (.tail _ (.head _)); rcases List.mem_cons.mp hp with rfl | hp; exact .head _; exact .tail _ (.tail _ (.tail _ (.tail _ hp)))
      case g2x =>
        intro z h2 h3
        have h4 : z ≠ "table" := h2 _ (.head _)
        simp only [kstB, if_neg h4, List.contains_nil, Bool.false_eq_true, if_false]
      case g3x =>
        refine ⟨?_, ?_, hi6, hl4.2.1⟩
        · rw [byVal_a hbr] at hd4; exact hd4
        · rw [natsI_xor, ← List.map_append] at hI4; exact hI4
      case g4x => show 5 - (c.i + 1) < 5 - c.i; omega
    · rename Fr _ _ _ _ => F3
      rename News _ _ _ _ => N3
      rename (_ ∧ _ ∧ _ ∧ AllLt _ _) => hl4
      rename (Obj.data _ = _) => hd4
      rename (IntsAre _ (_ ++ _)) => hI4
      rename (_ < (32 : Int)) => hlt5
      rename (¬ 15 < _) => hbr
      have hi6 : c.i + 1 ≤ 5 := by
        have h2 : 2 ^ c.i < 32 := by rw [← hlen]; omega
        rcases Nat.lt_or_ge c.i 5 with h | h
        · exact h
        · exact absurd (Nat.pow_le_pow_right (by decide : 0 < 2) h) (by omega)
      rename Obj => ob4
      refine' ksw_end (⟨c.i + 1, _, _, _, _, ob4⟩ : ByC) F3 (kst_newsOf N3 ?g0y) (fun _ => id) trivial ?g1y ?g2y ?g3y ?g4y
      case g1y => intro p hp; rcases List.mem_singleton.mp hp with rfl; exact if_pos rfl
      case g0y => intro p hp; rcases List.mem_cons.mp hp with rfl | hp; exact .tail _ (.tail _ (.head _)); rcases List.mem_cons.mp hp with rfl | hp; exact .head _; exact .tail _ (.tail _ (.tail _ (.tail _ hp)))
      case g2y =>
        intro z h2 h3
        have h4 : z ≠ "table" := h2 _ (.head _)
        simp only [kstB, if_neg h4, List.contains_nil, Bool.false_eq_true, if_false]
      case g3y =>
        refine ⟨?_, ?_, hi6, hl4.2.1⟩
        · rw [byVal_b hbr] at hd4; exact hd4
        · rw [natsI_xor, ← List.map_append] at hI4; exact hI4
      case g4y => show 5 - (c.i + 1) < 5 - c.i; omega
    · rename (¬ _ < (32 : Int)) => hge
      rename Fr h₀ _ _ _ => kF
      rename News h₀ _ _ _ => kN
      have hfin : c.i = 5 := by
        have h2 : ¬ (2 ^ c.i < 32) := by rw [← hlen]; omega
        rcases Nat.lt_or_ge c.i 5 with h | h
        · exact absurd (Nat.pow_lt_pow_right (by decide : 1 < 2) h) h2
        · omega
      rw [hfin] at hI
      refine hret _ [(c.tab, _)] _ _ kF (ktn_tl1 (kst_newsOf kN (fun p hp => .tail _ hp))) (fun q hq p hp => ?_) ⟨_, rfl⟩ ⟨_, _, _, _, rfl, List.getLast?_concat, hI, rfl⟩
      rw [List.mem_singleton.mp hp]
      exact Nat.lt_trans (l1 q hq) (Nat.lt_of_succ_lt hlt3)
set_option maxHeartbeats 8000000 in
theorem poly_tells (w : World) (loose : List Str) (mean : ExcName → Option Value) (mg mb : Str → Option Value) (d : LD) :
  TellsN Challenge.rw_oo0001_02.row.prog w (hd02.heap_39 w.params) hd02.view_39 loose mean mg mb 21 cPoly d := by
  k_fill
  unfold TellsN
  intro dp un gd cn cs a ccd cl outer A₀ base h₀ L m news s vs Q E B F X N T hk hR hok hd hu hret
  obtain ⟨rfl, hmem, hints⟩ := hR
  dsimp only [cPoly] at hok hd hu hret
  refine wpAny_call ?_
  k_dflt ktr_enter
  w_strict tb_start
  rename Fr _ _ _ _ => F1
  rename News _ _ _ _ => N1
  with_unfolding_all refine' For_invVF F1 ?k1 ?k2 ?_
  case k1 => exact rfl
  case k2 => exact rfl
  tb_start
  with_unfolding_all refine' kst_listL (σ := Nat × Nat) (ns := d.ns) (fun _ => _) (fun c => [("chk", .int c.1 c.2)]) (fun _ => True) ["top","i"] (fun pre c => c.1 = polyN (pre.map Int.toNat)) (1, _) (by rfl) (fun _ => List.mem_cons_of_mem _ hmem) hints F1 N1 trivial ?q1 ?q2 ?turn ?done
  case q1 => intro p hp; rcases List.mem_singleton.mp hp with rfl; rfl
  case q2 => rfl
  case turn =>
    intro c pre post n t u h tk own hns hnm hoff _ hp F2 N2
    clear F1 N1
    obtain ⟨h0, h1⟩ := hok.1 n hnm
    obtain ⟨v, rfl⟩ := Int.eq_ofNat_of_zero_le h0
    tb_start
    rename Fr _ _ _ _ => F3
    rename News _ _ _ _ => N3
    with_unfolding_all refine' For_invVF F3 ?k1 ?k2 ?_
    case k1 => exact rfl
    case k2 => exact rfl
    tb_start
    rename Fr _ _ _ _ => F4
    rename News _ _ _ _ => N4
    rename IsRange _ _ _ _ _ _ _ _ => R4
    with_unfolding_all refine' iterRange_acc1 (y := "chk") (gI ((c.1 : Int).fdiv (2 ^ Int.toNat 25))) (by rfl) R4 (by decide) (by rfl) F4 N4 (by rfl) ?turn2 ?done2
    case turn2 =>
      intro k t5 a5 ta5 h5 tk5 own5 hlo hhi hoff5 F5 N5
      clear F4 N4
      have hhi' : k < 5 := hhi
      tb_start
      all_goals (rename Fr _ _ _ _ => F6; rename News _ _ _ _ => N6)
      · rename _ ≠ _ => hb
        refine InvEndN.intro F6 N6 ⟨rfl, ?_, ?_⟩ rfl (fun p hp => List.mem_append_left _ hp) (fun p hp => List.mem_append_right _ hp)
        · rw [show gI _ a5 k = _ from if_pos hb]; exact ⟨_, if_pos rfl⟩
        · intro z h1 h2; simp only [if_neg h1, if_neg h2]
      · rename _ = _ => hb
        refine InvEndN.intro F6 N6 ⟨rfl, ?_, ?_⟩ rfl (fun p hp => List.mem_append_left _ hp) (fun p hp => List.mem_append_right _ hp)
        · rw [show gI _ a5 k = _ from if_neg (not_not_intro hb)]; exact ⟨_, if_pos rfl⟩
        · intro z h1 h2; simp only [if_neg h1, if_neg h2]
    case done2 =>
      intro u5 t5 h5 tk5 F5 N5
      clear F4 N4
      dsimp only
      tb_start
      refine kst_end (polyStep c.1 v, t5) F5 N5 (fun p hp => List.mem_append_left _ hp) (fun p hp => List.mem_append_right _ hp) rfl trivial ?f1 ?f2 ?f3
      case f1 =>
        intro p hp
        rcases List.mem_singleton.mp hp with rfl
        show _ = some (Value.int (polyStep c.1 v : Nat) t5)
        rw [← gI_fold c.1 v]
        rfl
      case f2 =>
        intro z h1 h2 h3
        have h4 : z ≠ "chk" := h2 _ (.head _)
        have h5 : z ≠ "top" ∧ z ≠ "i" := by simpa using h3
        simp only [kstB, if_neg h1, if_neg h4, if_neg h5.1, if_neg h5.2, h3, Bool.false_eq_true, if_false]
      case f3 =>
        simp only [List.map_append, polyN, List.foldl_append, hp]; rfl
  case done =>
    intro c u h tk _ hp F2 N2
    clear F1 N1
    dsimp only
    tb_start
    rename Fr h₀ _ _ _ => kF
    rename News h₀ _ _ _ => kN
    rw [hp]
    exact hret _ [] _ _ kF (by rw [List.append_nil]; exact kst_newsOf kN (fun p hp => List.mem_cons_of_mem _ hp)) ktn_ord0 rfl ⟨_, rfl⟩
set_option maxHeartbeats 8000000 in
theorem run_tells (w : World) (loose : List Str) (mean : ExcName → Option Value) (mg mb : Str → Option Value) (d : RunD) :
  TellsN Challenge.rw_oo0001_02.row.prog w (hd02.heap_39 w.params) hd02.view_39 loose mean mg mb 54 cRun d := by
  k_fill
  unfold TellsN
  intro dp un gd cn cs a ccd cl outer A₀ base h₀ L m news s vs Q E B F X N T hk hR hok hd hu hret
  obtain ⟨ls, lv, lt, st, vals⟩ := d
  obtain ⟨rfl, ⟨su, sn, hs, hsI⟩, ⟨vu, vn, hv, hvI⟩, ⟨a1, a2, a3, a4, a5, tn, ht, ⟨t1u, t1n, ht1, ht1I⟩, ⟨t2u, t2n, ht2, ht2I⟩, ⟨t3u, t3n, ht3, ht3I⟩, ⟨t4u, t4n, ht4, ht4I⟩, ⟨t5u, t5n, ht5, ht5I⟩⟩⟩ := hR
  dsimp only [cRun] at hok hd hu hret
  obtain ⟨hst, hvl, hvn⟩ := hok
  obtain ⟨su1, su2, su3, su4, su5, su6, rfl⟩ : ∃ b1 b2 b3 b4 b5 b6, su = [.int st.u b1, .int st.v b2, .int st.w b3, .int st.x b4, .int st.y b5, .int st.z b6] := by
    simp only [St.list, natsI, List.map_cons, List.map_nil] at hsI
    cases hsI with
    | cons _ b1 h => cases h with
    | cons _ b2 h => cases h with
    | cons _ b3 h => cases h with
    | cons _ b4 h => cases h with
    | cons _ b5 h => cases h with
    | cons _ b6 h => cases h with
    | nil => exact ⟨b1, b2, b3, b4, b5, b6, rfl⟩
  refine wpAny_call ?_
  k_dflt ktr_enter
  w_strict tb_start
  rename Fr _ _ _ _ => F1
  rename News _ _ _ _ => N1
  with_unfolding_all refine' For_invVF F1 ?k1 ?k2 ?_
  case k1 => exact rfl
  case k2 => exact rfl
  tb_start
  with_unfolding_all refine' kst_listL (σ := RunC) (ns := natsI vals) (fun _ => _) (fun c => [("u", .int c.st.u c.t1), ("v", .int c.st.v c.t2), ("w", .int c.st.w c.t3), ("x", .int c.st.x c.t4), ("y", .int c.st.y c.t5), ("z", .int c.st.z c.t6)]) (fun _ => True) [] (fun pre c => c.st = run st (pre.map Int.toNat) ∧ c.st.Ok) ⟨st, su1, su2, su3, su4, su5, su6⟩ (by rfl) (fun _ => hv) hvI F1 N1 trivial ?q1 ?q2 ?turn ?done
  case q1 => simp only [List.forall_mem_cons, List.not_mem_nil, false_implies, implies_true, and_true]; exact ⟨rfl, rfl, rfl, rfl, rfl, rfl⟩
  case q2 => exact ⟨rfl, hst⟩
  case turn =>
    intro c pre post n t u h tk own hns hnm hoff _ hp F2 N2
    clear F1 N1
    obtain ⟨hpe, hu1, hv1, hw1, hx1, hy1, hz1⟩ := hp
    obtain ⟨a, ha, rfl⟩ := List.mem_map.mp hnm
    have ha2 := hvl a ha
    dsimp only [kstB] at F2
    tb_start
    rename Fr _ _ _ _ => F3
    rename News _ _ _ _ => N3
    refine' kst_end (⟨runStep c.st a, _, _, _, _, _, _⟩ : RunC) F3 N3 (fun p hp => by first | exact List.mem_append_left _ hp | exact .tail _ (List.mem_append_left _ hp)) (fun p hp => by first | exact List.mem_append_right _ hp | exact .tail _ (List.mem_append_right _ hp)) rfl trivial ?e1 ?e2 ?e3
    case e1 =>
      refine List.forall_mem_cons.mpr ⟨?_, List.forall_mem_cons.mpr ⟨?_, List.forall_mem_cons.mpr ⟨?_, List.forall_mem_cons.mpr ⟨?_, List.forall_mem_cons.mpr ⟨?_, List.forall_mem_cons.mpr ⟨?_, List.forall_mem_nil _⟩⟩⟩⟩⟩⟩
      · exact valN
      · exact valN
      · exact valN
      · exact valN
      · exact valN
      · exact valN
    case e2 =>
      intro z h1 h2 h3
      simp only [List.forall_mem_cons, List.not_mem_nil, false_implies, implies_true, and_true] at h2
      obtain ⟨q1, q2, q3, q4, q5, q6⟩ := h2
      simp only [if_neg h1, if_neg q1, if_neg q2, if_neg q3, if_neg q4, if_neg q5, if_neg q6, List.contains_nil, Bool.false_eq_true, if_false]
    case e3 =>
      refine ⟨?_, ?_⟩
      · show runStep c.st a = _
        rw [hpe]
        simp only [run, List.map_append, List.foldl_append]; rfl
      · exact ⟨Nat.xor_lt_two_pow (n := 5) (tab_lt29 _ hu1) hv1, Nat.xor_lt_two_pow (n := 5) (tab_lt22 _ hu1) hw1, Nat.xor_lt_two_pow (n := 5) (tab_lt20 _ hu1) hx1, Nat.xor_lt_two_pow (n := 5) (tab_lt21 _ hu1) hy1, Nat.xor_lt_two_pow (n := 5) (tab_lt29 _ hu1) hz1, Nat.xor_lt_two_pow (n := 5) (tab_lt18 _ hu1) ha2⟩
  case done =>
    intro c u h tk _ hp F2 N2
    clear F1 N1
    dsimp only
    tb_start
    obtain ⟨hp, hok⟩ := hp
    rename Fr h₀ _ _ _ => kF
    rename News h₀ _ _ _ => kN
    rename (∀ p ∈ news, p.1 < _) => hl1
    refine hret _ [_] _ _ kF (ktn_tl1 kN) (fun q hq p hp => ?_) ⟨_, rfl⟩ ⟨_, _, _, (run st vals).list, rfl, List.getLast?_concat, ?_, rfl⟩
    · rw [List.mem_singleton.mp hp]; exact hl1 q hq
    · rw [show List.map Int.toNat (natsI vals) = vals from natsI_toNat vals] at hp
      rw [← hp]
      exact .cons _ _ (.cons _ _ (.cons _ _ (.cons _ _ (.cons _ _ (.cons _ _ .nil)))))
set_option maxHeartbeats 8000000 in
theorem powers_tells (w : World) (loose : List Str) (mean : ExcName → Option Value) (mg mb : Str → Option Value) (d : Unit) :
  TellsN Challenge.rw_oo0001_02.row.prog w (hd02.heap_39 w.params) hd02.view_39 loose mean mg mb 28 (cConst POW) d := by
  k_fill
  unfold TellsN
  intro dp un gd cn cs a ccd cl outer A₀ base h₀ L m news s vs Q E B F X N T hk hR hok hd hu hret
  obtain rfl := hR
  dsimp only [cConst] at hok hd hu hret
  refine wpAny_call ?_
  k_dflt ktr_enter
  w_strict tb_start
  rename Fr h₀ _ _ _ => kF
  rename News h₀ _ _ _ => kN
  refine hret _ [(_, _)] _ _ kF (ktn_tl1 kN) (fun q hq p hp => by rw [List.mem_singleton.mp hp]; exact (by assumption : ∀ p ∈ news, p.1 < _) q hq) ⟨_, rfl⟩ ⟨_, _, _, _, rfl, List.getLast?_concat, ?_, rfl⟩
  repeat (first | exact IntsAre.nil | refine IntsAre.cons _ _ ?_)
set_option maxHeartbeats 8000000 in
theorem logs_tells (w : World) (loose : List Str) (mean : ExcName → Option Value) (mg mb : Str → Option Value) (d : Unit) :
  TellsN Challenge.rw_oo0001_02.row.prog w (hd02.heap_39 w.params) hd02.view_39 loose mean mg mb 35 (cConst LOG) d := by
  k_fill
  unfold TellsN
  intro dp un gd cn cs a ccd cl outer A₀ base h₀ L m news s vs Q E B F X N T hk hR hok hd hu hret
  obtain rfl := hR
  dsimp only [cConst] at hok hd hu hret
  refine wpAny_call ?_
  k_dflt ktr_enter
  w_strict tb_start
  rename Fr h₀ _ _ _ => kF
  rename News h₀ _ _ _ => kN
  refine hret _ [(_, _)] _ _ kF (ktn_tl1 kN) (fun q hq p hp => by rw [List.mem_singleton.mp hp]; exact (by assumption : ∀ p ∈ news, p.1 < _) q hq) ⟨_, rfl⟩ ⟨_, _, _, _, rfl, List.getLast?_concat, ?_, rfl⟩
  repeat (first | exact IntsAre.nil | refine IntsAre.cons _ _ ?_)
set_option maxHeartbeats 8000000 in
theorem raised_tells (w : World) (loose : List Str) (mean : ExcName → Option Value) (mg mb : Str → Option Value) (d : Nat × Nat) :
  TellsN Challenge.rw_oo0001_02.row.prog w (hd02.heap_39 w.params) hd02.view_39 loose mean mg mb 61 cRaised d := by
  k_fill
  unfold TellsN
  intro dp un gd cn cs a ccd cl outer A₀ base h₀ L m news s vs Q E B F X N T hk hR hok hd hu hret
  obtain ⟨t0, t1, rfl⟩ := hR
  dsimp only [cRaised] at hok hd hu hret
  obtain ⟨ha, hp⟩ := hok
  refine wpAny_call ?_
  k_dflt ktr_enter
  w_strict tb_start
  · rename Fr h₀ _ _ _ => kF
    rename News h₀ _ _ _ => kN
    rename (_ = (0 : Int)) => hz
    have hz2 : raisedN d.1 d.2 = 0 := if_pos (by omega)
    exact hret _ [] _ _ kF (by rw [List.append_nil]; exact kN) ktn_ord0 rfl ⟨_, by rw [hz2]; rfl⟩
  · rename (_ ≠ (0 : Int)) => hz
    dsimp only [List.append_nil]
    k_dflt (refine' tellsN_use (c := cConst POW) (d := ()) ?ya1 ?ya2 ?ya3 ?ya4 ?ya5 ?yaK ?yaR (powers_tells _ _ _ _ _ _) ?yao ?yad ?yau ?_)
    case ya1 => k_asm
    case ya2 => k_asm
    case ya3 => k_asm
    case ya4 => k_asm
    case ya5 => k_asm
    case yaK => first | exact rfl | assumption
    case yaR => exact rfl
    case yao => trivial
    case yad => ktr_room
    case yau => ktr_units
    intro r1 tl1 h1 tk1 F1 N1 hl1 ht1 ho1
    obtain ⟨lp, up, np, xs, rfl, N2, hlt2, hIP, rfl⟩ := last_ret N1 hl1 ht1 ho1
    clear N1 hl1 ht1 ho1
    tb_start
    dsimp only [List.append_nil]
    k_dflt (refine' tellsN_use (c := cConst LOG) (d := ()) ?yb1 ?yb2 ?yb3 ?yb4 ?yb5 ?ybK ?ybR (logs_tells _ _ _ _ _ _) ?ybo ?ybd ?ybu ?_)
    case yb1 => k_asm
    case yb2 => k_asm
    case yb3 => k_asm
    case yb4 => k_asm
    case yb5 => k_asm
    case ybK => first | exact rfl | assumption
    case ybR => exact rfl
    case ybo => trivial
    case ybd => ktr_room
    case ybu => ktr_units
    intro r3 tl3 h3 tk3 F3 N3 hl3 ht3 ho3
    obtain ⟨ll, ul, nl, xs, rfl, N4, hlt4, hIL, rfl⟩ := last_ret N3 hl3 ht3 ho3
    clear N3 hl3 ht3 ho3
    tb_start
    refine' item_my (j := d.1) (xs := LOG) ?zcN ?zcm ?zci ?zcj ?zck ?zcb ?_ ?zcs
    case zcN => k_asm
    case zcm => k_dflt k_mem
    case zci => with_reducible assumption
    case zcj => rfl
    case zck => exact ha
    case zcb => exact Nat.le_of_ble_eq_true rfl
    case zcs => with_unfolding_all rfl
    intro tc
    tb_start
    have hfm : Int.fmod (((LOG.getD d.1 0 : Nat) : Int) * (d.2 : Int)) 31 = ((LOG.getD d.1 0 * d.2 % 31 : Nat) : Int) := by
      rw [Int.fmod_eq_emod_of_nonneg _ (by decide)]; omega
    rw [hfm]
    have hz2 : raisedN d.1 d.2 = POW.getD (LOG.getD d.1 0 * d.2 % 31) 0 := if_neg (by omega)
    have hz3 : (natsI POW).getD (((LOG.getD d.1 0 * d.2 % 31 : Nat) : Int)).toNat 0 = ((raisedN d.1 d.2 : Nat) : Int) := by
      rw [hz2, Int.toNat_natCast]
      exact natsI_getD _ _
    rw [hz3]
    rename Fr h₀ _ _ _ => kF
    rename News h₀ _ _ _ => kN
    refine hret _ [] _ _ kF (by rw [List.append_nil]; exact kst_newsOf kN (fun p hp => by repeat (first | exact hp | refine List.mem_cons_of_mem _ ?_))) ktn_ord0 rfl ⟨_, rfl⟩
local macro_rules | `(tactic| tb_start) => `(tactic| repeat' (first
  | (k_unfold; (try dsimp only))
  | ((fail_if_success (with_reducible show wpAny _ _ (PySem.exec (PySem.Stmt.For _ _ _ _ _) _) _ _ _)); (fail_if_success (with_reducible show wpAny _ _ (PySem.exec (PySem.Stmt.While _ _ _ _) _) _ _ _)); (fail_if_success (with_reducible show wpAny _ _ (PySem.pyIter _) _ _ _)); (fail_if_success (with_reducible show InvPostN _ _ _ _ _ _ _ _ _)); (fail_if_success (with_reducible show InvEndN _ _ _ _ _ _ _)); (fail_if_success (with_reducible show ShiftWantsBound)); (fail_if_success (with_reducible show wpAny _ _ (PySem.call (Value.ref _) _) _ _ _));
     (fail_if_success (with_reducible show wpAny _ _ (PySem.eval (PySem.Expr.ListComp _ _ _ _) _) _ _ _)); (fail_if_success (with_reducible show wpAny _ _ (PySem.exec (PySem.Stmt.Assign _ (PySem.Expr.ListComp _ _ _ _) _) _) _ _ _)); (fail_if_success (with_reducible show LCg.CompSrc _ _ _ _ _ _ _ _ _ _ _ _ _ _)); (fail_if_success (with_reducible show LCg.CompEnd _ _ _ _ _ _ _ _ _ _ _ _ _ _)); first | walk1 | (dsimp only; walk1))))
theorem dmN (t n : Nat) : Int.fmod (Int.fdiv ((t : Nat) : Int) (32 ^ n)) 32 = ((t / 32 ^ n % 32 : Nat) : Int) := by
  have h1 : (t : Int).fdiv (32 ^ n) = ((t / 32 ^ n : Nat) : Int) := by
    rw [Int.fdiv_eq_ediv_of_nonneg _ (Int.pow_nonneg (by decide))]; simp
  rw [h1, fmodN]
theorem digs_i (p i : Nat) (hi : i < 6) : p / 32 ^ (5 - i) % 32 = (digs p).list.getD i 0 := by
  obtain rfl | rfl | rfl | rfl | rfl | rfl : i = 0 ∨ i = 1 ∨ i = 2 ∨ i = 3 ∨ i = 4 ∨ i = 5 := by omega
  all_goals rfl
theorem xor_i (a b : St) (i : Nat) (hi : i < 6) : a.list.getD i 0 ^^^ b.list.getD i 0 = (a.xor b).list.getD i 0 := by
  obtain rfl | rfl | rfl | rfl | rfl | rfl : i = 0 ∨ i = 1 ∨ i = 2 ∨ i = 3 ∨ i = 4 ∨ i = 5 := by omega
  all_goals rfl
theorem list_lt {a : St} (h : a.Ok) (i : Nat) : a.list.getD i 0 < 32 := by
  obtain ⟨h1, h2, h3, h4, h5, h6⟩ := h
  match i with
  | 0 => exact h1
  | 1 => exact h2
  | 2 => exact h3
  | 3 => exact h4
  | 4 => exact h5
  | 5 => exact h6
  | n + 6 => exact (by decide : (0 : Nat) < 32)
theorem il_take (h l : St) (i : Nat) (hi : i < 6) : (il h l).take (2 * (i + 1)) = (il h l).take (2 * i) ++ [sq (h.list.getD i 0), sq (l.list.getD i 0)] := by
  obtain rfl | rfl | rfl | rfl | rfl | rfl : i = 0 ∨ i = 1 ∨ i = 2 ∨ i = 3 ∨ i = 4 ∨ i = 5 := by omega
  all_goals rfl
theorem hiOf_ok (xs : List Nat) : (hiOf xs).Ok := by
  unfold hiOf; split
  · exact xor_ok (digs_ok _) (run_ok _ I_ok (zeros_lt _))
  · exact digs_ok _
theorem loOf_ok (xs : List Nat) : (loOf xs).Ok := by
  unfold loOf; split
  · exact digs_ok _
  · exact xor_ok (digs_ok _) (run_ok _ I_ok (zeros_lt _))
theorem expN (i : Nat) : (5 - (0 + ((i : Nat) : Int))).toNat = 5 - i := by omega
theorem dmI (t i : Nat) : Int.fmod (Int.fdiv ((t : Nat) : Int) (32 ^ (5 - (0 + ((i : Nat) : Int))).toNat)) 32 = ((t / 32 ^ (5 - i) % 32 : Nat) : Int) := by
  rw [expN, dmN]
theorem pow_ne0 (n : Nat) : (32 : Int) ^ n ≠ 0 := Int.ne_of_gt (Int.pow_pos (by decide))
theorem pylN (x : Int) (i : Nat) : Builtin.divisionGoesByPylong x (32 ^ (5 - (0 + ((i : Nat) : Int))).toNat) = false := by
  refine PyProof.noPylong_small ?_
  rw [expN, Int.natAbs_pow]
  have := Nat.pow_le_pow_right (n := 32) (by decide) (show 5 - i ≤ 5 by omega)
  exact Nat.lt_of_le_of_lt this (by decide)
section
open PySem.Calls
variable {prog : Program} {w : World} {A : Around} {E : Value → Shared → Prop} {s : Shared} {h₀ : Heap} {L D : Addr} {news : List (Addr × Obj)}
theorem item_lit_my {value slice : PySem.Expr} {us : List Value} {nn : Nat} {k : Int} {u : Tok} {v : Value} {Q : Value → Shared → Prop} (N : News h₀ L s.heap news) (hm : (D, listOf us.toArray nn) ∈ news) (hk : 0 ≤ k) (hk2 : k < 2 ^ 63) (e : us[k.toNat]? = some v) (h : Q v s)
    (hs : subscripted slice false (.ref D) (.int k u) = operate [.ref D, .int k u] (getItem (.ref D) (.int k u)) := by with_unfolding_all rfl) :
    wpAny (model prog w) A (subscriptTail value slice (.ref D) (.int k u)) Q E s := item_litK (News.isList N hm) hk hk2 e h hs
theorem item_st {value slice : PySem.Expr} {us : List Value} {nn i : Nat} {st : St} {u : Tok} {Q : Value → Shared → Prop} (N : News h₀ L s.heap news) (hm : (D, listOf us.toArray nn) ∈ news) (hi : IntsAre us (natsI st.list)) (hk : i < 6) (h : ∀ t, Q (.int ((st.list.getD i 0 : Nat) : Int) t) s)
    (hs : subscripted slice false (.ref D) (.int (0 + ((i : Nat) : Int)) u) = operate [.ref D, .int (0 + ((i : Nat) : Int)) u] (getItem (.ref D) (.int (0 + ((i : Nat) : Int)) u)) := by with_unfolding_all rfl) :
    wpAny (model prog w) A (subscriptTail value slice (.ref D) (.int (0 + ((i : Nat) : Int)) u)) Q E s :=
  item_my (xs := st.list) (j := i) N hm hi (Int.zero_add _) hk (Nat.le_of_ble_eq_true rfl) h hs
theorem xor_my {a b : Nat} {t u : Tok} {Q : Value → Shared → Prop} (h : Q (.int ((a ^^^ b : Nat) : Int) s.toks) { s with toks := s.toks + 1 }) : wpAny (model prog w) A (binaryOp .BitXor (.int (a : Int) t) (.int (b : Int) u)) Q E s := by
  refine xor_int ?_
  rw [xorN]; exact h
theorem modI_my {a i : Nat} {t u : Tok} {Q : Value → Shared → Prop} (h : Q (.int ((a / 32 ^ (5 - i) % 32 : Nat) : Int) s.toks) { s with toks := s.toks + 1 }) : wpAny (model prog w) A (binaryOp .Mod (.int (Int.fdiv (a : Int) (32 ^ (5 - (0 + ((i : Nat) : Int))).toNat)) t) (.int 32 u)) Q E s := by
  refine mod_int' (by decide) ?_
  rw [dmI]; exact h
end
local macro_rules | `(tactic| walk_at "binaryOp FloorDiv int int") => `(tactic| with_reducible refine floordiv_int (pow_ne0 _) ?_ (Or.inl (pylN _ _)))
local macro_rules | `(tactic| walk_at "binaryOp Mod int int") => `(tactic| with_reducible refine modI_my ?_)
local macro_rules | `(tactic| walk_at "binaryOp BitXor int int") => `(tactic| with_reducible refine xor_my ?_)
local macro_rules | `(tactic| walk_at "subscriptTail Name Constant ref int") => `(tactic| (refine' item_lit_my ?xN ?xm ?xk ?xl ?xe ?_ ?hs; (case xN => k_asm); (case xm => k_dflt k_mem); (case xk => decide); (case xl => decide); (case xe => exact rfl); (case hs => with_unfolding_all rfl)))
local macro_rules | `(tactic| walk_at "subscriptTail Name Name ref int") => `(tactic| (refine' item_st ?xN ?xm ?xi ?hk ?_ ?hs; (case xN => k_asm); (case xm => k_dflt k_mem); (case xi => with_reducible assumption); (case hk => with_reducible assumption); (case hs => with_unfolding_all rfl); intro _))
theorem O_ints {a b c d e f : Tok} : IntsAre [.int 0 a, .int 0 b, .int 0 c, .int 0 d, .int 0 e, .int 0 f] (natsI St.O.list) := IntsAre.cons 0 _ (.cons 0 _ (.cons 0 _ (.cons 0 _ (.cons 0 _ (.cons 0 _ .nil)))))
structure TurnC where
  al : Addr
  us : List Value
  nn : Nat
  ys : List Nat
set_option maxHeartbeats 20000000 in
theorem tail2 (w : World) (loose : List Str) (mean : ExcName → Option Value) (mg mb : Str → Option Value) (h₀ : Heap) (L fa : Addr) (cd : Value) (s : Shared) (m : Str → Option Value) (rest : List (Addr × Obj)) (oA oB : Obj) (tD rl tl : Addr) (us : List Value) (nn tn : Nat) (xs : List Nat) (p0 p1 p2 : Nat) (tz q0 q1 q2 : Tok)
    (Q : Flow → Shared → Prop) (E : Value → Shared → Prop)
    (hB : Below callerA h₀ [] h₀) (hX : (hd02.heap_39 w.params).In h₀) (hT : Top hd02.view_39 loose mean mg mb h₀) (F : Fr h₀ L s.heap m) (N : News h₀ L s.heap ((L + 1 + 1, oA) :: (L + 1, oB) :: rest))
    (m1 : m "tables" = some (.ref tD)) (m2 : m "told" = some (.ref tl))
    (hdA : oA.data = .cell (some (.int (xs.length : Nat) tz))) (hdB : oB.data = .cell (some (.ref rl))) (hTabs : TabsAt rest tD) (hrow : (rl, listOf us.toArray nn) ∈ rest) (hra : ∀ p ∈ rest, p.1 ≠ L + 1 + 1) (hrb : ∀ p ∈ rest, p.1 ≠ L + 1)
    (htl : (tl, listOf [Value.int (p0 : Nat) q0, Value.int (p1 : Nat) q1, Value.int (p2 : Nat) q2].toArray tn) ∈ rest)
    (e0 : p0 = polyN xs) (e1 : p1 = polyN (evN xs)) (e2 : p2 = polyN (odN xs))
    (hI : IntsAre us (natsI xs)) (hxs : ∀ x ∈ xs, x < 32) (hxl : xs.length ≤ 30)
    (hE : PassesOwn (model Challenge.rw_oo0001_02.row.prog w) (callerA.deeper (lawEnv Challenge.rw_oo0001_02.prog L fa cd)) (lawEnv Challenge.rw_oo0001_02.prog L fa cd) E)
    (hret : ∀ h' tk' m', Fr h₀ L h' m' → Q (.ret (.bool true)) { s with heap := h', toks := tk' }) :
    wpAny (model Challenge.rw_oo0001_02.row.prog w) (callerA.deeper (lawEnv Challenge.rw_oo0001_02.prog L fa cd)) (execs ((lawBody Challenge.rw_oo0001_02.prog).drop 8) (lawEnv Challenge.rw_oo0001_02.prog L fa cd)) Q E s := by
  revert hX; k_fill; intro hX
  have hxn : (natsI xs).length ≤ 32 := by simp [natsI]; omega
  replace F : Fr h₀ L s.heap (kstB m [("tables", .ref tD), ("told", .ref tl)]) := by
    have e : kstB m [("tables", .ref tD), ("told", .ref tl)] = m := by
      funext z
      refine kstB_eq ?_ (fun _ => rfl)
      exact List.forall_mem_cons.mpr ⟨m1, List.forall_mem_cons.mpr ⟨m2, List.forall_mem_nil _⟩⟩
    rw [e]; exact F
  dsimp only [kstB] at F
  with_unfolding_all (refine wpAny_execs_cons ?_)
  tb_start
  rename (IntsAre (List.flatten _) _) => hZ
  have hsz : (((xs.length : Nat) : Int) + 1).fdiv 2 = (((xs.length + 1) / 2 : Nat) : Int) := by
    rw [Int.fdiv_eq_ediv_of_nonneg _ (by decide)]; omega
  rw [zeros_list ((xs.length + 1) / 2) _ hsz] at hZ
  have hz32 := zeros_lt ((xs.length + 1) / 2)
  have hI6 : IntsAre [Value.int 0 s.toks, Value.int 0 (s.toks + 1), Value.int 0 (s.toks + 1 + 1), Value.int 0 (s.toks + 1 + 1 + 1), Value.int 0 (s.toks + 1 + 1 + 1 + 1), Value.int 1 (s.toks + 1 + 1 + 1 + 1 + 1)] (natsI St.I.list) := IntsAre.cons 0 _ (.cons 0 _ (.cons 0 _ (.cons 0 _ (.cons 0 _ (.cons 1 _ .nil)))))
  have hIok := I_ok
  have hlz : (List.replicate ((xs.length + 1) / 2) 0).length ≤ 1000 := by rw [List.length_replicate]; omega
  rename Fr _ _ _ _ => F1
  rename News _ _ _ _ => N1
  k_dflt (refine' run_use ?xk1 ?xk2 ?xk3 ?xk4 ?xk5 ?xkK ?xm ?xi ?xmv ?xiv ?xt ?xo ?xx ?xl (run_tells _ _ _ _ _) ?xkd ?xku ?_)
  case xk1 => k_asm
  case xk2 => k_asm
  case xk3 => k_asm
  case xk4 => k_asm
  case xk5 => k_asm
  case xkK => first | exact rfl | assumption
  case xm => k_mem
  case xi => first | with_reducible assumption | exact O_ints
  case xmv => k_mem
  case xiv => with_reducible assumption
  case xt => first | with_reducible assumption | (refine TabsAt.mono (by with_reducible assumption) ?_; intro p hp; repeat (first | exact hp | refine List.mem_cons_of_mem _ ?_))
  case xo => with_reducible assumption
  case xx => with_reducible assumption
  case xl => first | omega | (simp only [List.length_replicate]; omega)
  case xkd => ktr_room
  case xku => ktr_units
  intro fl fus fnn h2 tk2 hfI F2 N2 hfl
  have hfok := run_ok _ hIok hz32
  tb_start
  rename_i tu _ htu _ F3 N3
  try clear F1 N1
  try clear F2 N2
  with_unfolding_all refine' For_invVF (hE := hE) F3 ?kk1 ?kk2 ?_
  case kk1 => exact rfl
  case kk2 => exact rfl
  tb_start
  rename Fr _ _ _ _ => F4
  rename News _ _ _ _ => N4
  rename IsRange _ _ _ _ _ _ _ _ => R4
  have htu2 : L + 1 + 1 < tu := htu.2.2.2.2.1
  have N5 := kst_newsOf (l' := (tu, listOf ([] : List Value).toArray 0) :: (L + 1 + 1, oA) :: (L + 1, oB) :: (fl, listOf fus.toArray fnn) :: rest) N4 (List.forall_mem_cons.mpr ⟨.head _, List.forall_mem_cons.mpr ⟨by k_mem, List.forall_mem_cons.mpr ⟨by k_mem, List.forall_mem_cons.mpr ⟨by k_mem, fun p hp => by repeat (first | exact hp | refine List.mem_cons_of_mem _ ?_)⟩⟩⟩⟩)
  with_unfolding_all refine' forGR (σ := TurnC) (n := 6) (fun c => (c.al, listOf c.us.toArray c.nn) :: (L + 1 + 1, oA) :: (L + 1, oB) :: (fl, listOf fus.toArray fnn) :: rest) (fun c => [("turns", .ref c.al)]) ["low", "high"] (fun i c => IntsAre c.us (natsI c.ys) ∧ c.ys = (il (hiOf xs) (loOf xs)).take (2 * i) ∧ L + 1 + 1 < c.al) ⟨tu, [], 0, []⟩ (by rfl) R4 (by decide) (by rfl) F4 N5 ?q1 ?q2 ?turn ?done
  case q1 => exact List.forall_mem_cons.mpr ⟨rfl, List.forall_mem_nil _⟩
  case q2 => exact ⟨.nil, rfl, htu2⟩
  have htI : IntsAre [Value.int (p0 : Nat) q0, Value.int (p1 : Nat) q1, Value.int (p2 : Nat) q2] (natsI [p0, p1, p2]) := .cons _ _ (.cons _ _ (.cons _ _ .nil))
  case turn =>
    intro c i ti u h6 tk6 own hi hoff hp F6 N6
    replace F6 : Fr h₀ L h6 _ := F6
    replace N6 : News h₀ L h6 _ := N6
    dsimp only [kstB] at F6
    obtain ⟨hcI, hcy, hca⟩ := hp
    simp only [List.cons_append] at N6
    obtain ⟨ro, hro⟩ : ∃ ro, ro = rest ++ own := ⟨_, rfl⟩
    rw [← hro] at N6
    have htl6 : (tl, listOf [Value.int (p0 : Nat) q0, Value.int (p1 : Nat) q1, Value.int (p2 : Nat) q2].toArray tn) ∈ ro := by rw [hro]; exact List.mem_append_left _ htl
    have hoA : ∀ p ∈ own, p.1 ≠ L + 1 + 1 := fun p hp => hoff p hp _ (.tail _ (.head _))
    have hoB : ∀ p ∈ own, p.1 ≠ L + 1 := fun p hp => hoff p hp _ (.tail _ (.tail _ (.head _)))
    have hroA : ∀ p ∈ ro, p.1 ≠ L + 1 + 1 := fun p hp => by
      rw [hro] at hp; exact (List.mem_append.mp hp).elim (hra p) (hoA p)
    have hroB : ∀ p ∈ ro, p.1 ≠ L + 1 := fun p hp => by
      rw [hro] at hp; exact (List.mem_append.mp hp).elim (hrb p) (hoB p)
    tb_start
    · rename (Int.fmod _ _ = _) => hpar0
      have hpar : xs.length % 2 = 0 := by
        rw [Int.fmod_eq_emod_of_nonneg _ (by decide)] at hpar0; omega
      try clear F6 N6
      rename Fr _ _ _ _ => F7
      rename News _ _ _ _ => N7
      have hhi : p2 / 32 ^ (5 - i) % 32 ^^^ (run St.I (List.replicate ((xs.length + 1) / 2) 0)).list.getD i 0 = (hiOf xs).list.getD i 0 := by
        rw [digs_i p2 i hi, xor_i _ _ i hi, e2, hiOf, if_pos hpar]
      have hlo : p1 / 32 ^ (5 - i) % 32 = (loOf xs).list.getD i 0 := by
        rw [digs_i p1 i hi, e1, loOf, if_pos hpar]
      rw [hhi, hlo] at F7
      rw [hhi]
      have hh1 := list_lt (hiOf_ok xs) i
      have hl1 := list_lt (loOf_ok xs) i
      k_dflt (refine' raised_use (y := 2) ?xk1 ?xk2 ?xk3 ?xk4 ?xk5 ?xkK ?xx ?xy (raised_tells _ _ _ _ _) ?xkd ?xku ?_)
      case xk1 => k_asm
      case xk2 => k_asm
      case xk3 => k_asm
      case xk4 => k_asm
      case xk5 => k_asm
      case xkK => first | exact rfl | assumption
      case xx => with_reducible assumption
      case xy => decide
      case xkd => ktr_room
      case xku => ktr_units
      intro r1 h8 tk8 F8 N8
      clear F7 N7
      tb_start
      k_dflt (refine' raised_use (y := 2) ?xk1 ?xk2 ?xk3 ?xk4 ?xk5 ?xkK ?xx ?xy (raised_tells _ _ _ _ _) ?xkd ?xku ?_)
      case xk1 => k_asm
      case xk2 => k_asm
      case xk3 => k_asm
      case xk4 => k_asm
      case xk5 => k_asm
      case xkK => first | exact rfl | assumption
      case xx => with_reducible assumption
      case xy => decide
      case xkd => ktr_room
      case xku => ktr_units
      intro r2 h9 tk9 F9 N9
      clear F8 N8
      have hLit : IntsAre [Value.int (raisedN ((hiOf xs).list.getD i 0) 2 : Nat) r1, Value.int (raisedN ((loOf xs).list.getD i 0) 2 : Nat) r2] (natsI [raisedN ((hiOf xs).list.getD i 0) 2, raisedN ((loOf xs).list.getD i 0) 2]) := .cons _ _ (.cons _ _ .nil)
      have hLl : (natsI [raisedN ((hiOf xs).list.getD i 0) 2, raisedN ((loOf xs).list.getD i 0) 2]).length = 2 := rfl
      have hyl : (natsI c.ys).length ≤ 12 := by
        rw [hcy, natsI, List.length_map, List.length_take]; omega
      tb_start
      rename_i D' ws' h5 hJ lt1 h6' F' N'
      have hlA := tb_ltOf lt1.2.2.2.2.2
      refine gs_end (⟨D', ws', 0, c.ys ++ [raisedN ((hiOf xs).list.getD i 0) 2, raisedN ((loOf xs).list.getD i 0) 2]⟩ : TurnC) F' N' ?g1 ?g2 ?g3 ?g4 ?g5 ?g6
      case g1 => exact List.forall_mem_cons.mpr ⟨.head _, List.forall_mem_cons.mpr ⟨.tail _ (.tail _ (.tail _ (.head _))), List.forall_mem_cons.mpr ⟨.tail _ (.tail _ (.tail _ (.tail _ (.head _)))), List.forall_mem_cons.mpr ⟨.tail _ (.tail _ (.tail _ (.tail _ (.tail _ (.head _))))), fun p hp => .tail _ (.tail _ (.tail _ (.tail _ (.tail _ (.tail _ (by rw [hro]; exact List.mem_append_left _ hp))))))⟩⟩⟩⟩
      case g2 => exact fun p hp => .tail _ (.tail _ (.tail _ (.tail _ (.tail _ (.tail _ (by rw [hro]; exact List.mem_append_right _ hp))))))
      case g3 =>
        intro p hp
        have h0 := hoff p hp
        exact List.forall_mem_cons.mpr ⟨Nat.ne_of_lt (hlA p (by rw [hro]; exact List.mem_append_right _ hp)), List.forall_mem_cons.mpr ⟨h0 _ (.tail _ (.head _)), List.forall_mem_cons.mpr ⟨h0 _ (.tail _ (.tail _ (.head _))), List.forall_mem_cons.mpr ⟨h0 _ (.tail _ (.tail _ (.tail _ (.head _)))), fun q hq => h0 q (.tail _ (.tail _ (.tail _ (.tail _ hq))))⟩⟩⟩⟩
      case g4 => exact List.forall_mem_cons.mpr ⟨rfl, List.forall_mem_nil _⟩
      case g5 =>
        intro z h1 h2 h3
        have h4 : z ≠ "turns" := h2 _ (.head _)
        have h5 : z ≠ "low" := by rintro rfl; exact absurd h3 (by decide)
        have h6 : z ≠ "high" := by rintro rfl; exact absurd h3 (by decide)
        simp only [if_neg h1, if_neg h4, if_neg h5, if_neg h6, h3, Bool.false_eq_true, if_false]
      case g6 =>
        refine ⟨?_, ?_, lt1.2.2.1⟩
        · show IntsAre _ (natsI (c.ys ++ _))
          rw [show natsI (c.ys ++ [raisedN ((hiOf xs).list.getD i 0) 2, raisedN ((loOf xs).list.getD i 0) 2]) = natsI c.ys ++ natsI [raisedN ((hiOf xs).list.getD i 0) 2, raisedN ((loOf xs).list.getD i 0) 2] from List.map_append]; exact hJ
        · show c.ys ++ _ = _
          rw [il_take _ _ i hi, hcy]
    · rename (Int.fmod _ _ ≠ _) => hpar0
      have hpar : ¬ xs.length % 2 = 0 := by
        rw [Int.fmod_eq_emod_of_nonneg _ (by decide)] at hpar0; omega
      try clear F6 N6
      rename Fr _ _ _ _ => F7
      rename News _ _ _ _ => N7
      have hhi : p2 / 32 ^ (5 - i) % 32 = (hiOf xs).list.getD i 0 := by
        rw [digs_i p2 i hi, e2, hiOf, if_neg hpar]
      have hlo : p1 / 32 ^ (5 - i) % 32 ^^^ (run St.I (List.replicate ((xs.length + 1) / 2) 0)).list.getD i 0 = (loOf xs).list.getD i 0 := by
        rw [digs_i p1 i hi, xor_i _ _ i hi, e1, loOf, if_neg hpar]
      rw [hhi, hlo] at F7
      rw [hhi]
      have hh1 := list_lt (hiOf_ok xs) i
      have hl1 := list_lt (loOf_ok xs) i
      k_dflt (refine' raised_use (y := 2) ?xk1 ?xk2 ?xk3 ?xk4 ?xk5 ?xkK ?xx ?xy (raised_tells _ _ _ _ _) ?xkd ?xku ?_)
      case xk1 => k_asm
      case xk2 => k_asm
      case xk3 => k_asm
      case xk4 => k_asm
      case xk5 => k_asm
      case xkK => first | exact rfl | assumption
      case xx => with_reducible assumption
      case xy => decide
      case xkd => ktr_room
      case xku => ktr_units
      intro r1 h8 tk8 F8 N8
      clear F7 N7
      tb_start
      k_dflt (refine' raised_use (y := 2) ?xk1 ?xk2 ?xk3 ?xk4 ?xk5 ?xkK ?xx ?xy (raised_tells _ _ _ _ _) ?xkd ?xku ?_)
      case xk1 => k_asm
      case xk2 => k_asm
      case xk3 => k_asm
      case xk4 => k_asm
      case xk5 => k_asm
      case xkK => first | exact rfl | assumption
      case xx => with_reducible assumption
      case xy => decide
      case xkd => ktr_room
      case xku => ktr_units
      intro r2 h9 tk9 F9 N9
      clear F8 N8
      have hLit : IntsAre [Value.int (raisedN ((hiOf xs).list.getD i 0) 2 : Nat) r1, Value.int (raisedN ((loOf xs).list.getD i 0) 2 : Nat) r2] (natsI [raisedN ((hiOf xs).list.getD i 0) 2, raisedN ((loOf xs).list.getD i 0) 2]) := .cons _ _ (.cons _ _ .nil)
      have hLl : (natsI [raisedN ((hiOf xs).list.getD i 0) 2, raisedN ((loOf xs).list.getD i 0) 2]).length = 2 := rfl
      have hyl : (natsI c.ys).length ≤ 12 := by
        rw [hcy, natsI, List.length_map, List.length_take]; omega
      tb_start
      rename_i D' ws' h5 hJ lt1 h6' F' N'
      have hlA := tb_ltOf lt1.2.2.2.2.2
      refine gs_end (⟨D', ws', 0, c.ys ++ [raisedN ((hiOf xs).list.getD i 0) 2, raisedN ((loOf xs).list.getD i 0) 2]⟩ : TurnC) F' N' ?g1 ?g2 ?g3 ?g4 ?g5 ?g6
      case g1 => exact List.forall_mem_cons.mpr ⟨.head _, List.forall_mem_cons.mpr ⟨.tail _ (.tail _ (.tail _ (.head _))), List.forall_mem_cons.mpr ⟨.tail _ (.tail _ (.tail _ (.tail _ (.head _)))), List.forall_mem_cons.mpr ⟨.tail _ (.tail _ (.tail _ (.tail _ (.tail _ (.head _))))), fun p hp => .tail _ (.tail _ (.tail _ (.tail _ (.tail _ (.tail _ (by rw [hro]; exact List.mem_append_left _ hp))))))⟩⟩⟩⟩
      case g2 => exact fun p hp => .tail _ (.tail _ (.tail _ (.tail _ (.tail _ (.tail _ (by rw [hro]; exact List.mem_append_right _ hp))))))
      case g3 =>
        intro p hp
        have h0 := hoff p hp
        exact List.forall_mem_cons.mpr ⟨Nat.ne_of_lt (hlA p (by rw [hro]; exact List.mem_append_right _ hp)), List.forall_mem_cons.mpr ⟨h0 _ (.tail _ (.head _)), List.forall_mem_cons.mpr ⟨h0 _ (.tail _ (.tail _ (.head _))), List.forall_mem_cons.mpr ⟨h0 _ (.tail _ (.tail _ (.tail _ (.head _)))), fun q hq => h0 q (.tail _ (.tail _ (.tail _ (.tail _ hq))))⟩⟩⟩⟩
      case g4 => exact List.forall_mem_cons.mpr ⟨rfl, List.forall_mem_nil _⟩
      case g5 =>
        intro z h1 h2 h3
        have h4 : z ≠ "turns" := h2 _ (.head _)
        have h5 : z ≠ "low" := by rintro rfl; exact absurd h3 (by decide)
        have h6 : z ≠ "high" := by rintro rfl; exact absurd h3 (by decide)
        simp only [if_neg h1, if_neg h4, if_neg h5, if_neg h6, h3, Bool.false_eq_true, if_false]
      case g6 =>
        refine ⟨?_, ?_, lt1.2.2.1⟩
        · show IntsAre _ (natsI (c.ys ++ _))
          rw [show natsI (c.ys ++ [raisedN ((hiOf xs).list.getD i 0) 2, raisedN ((loOf xs).list.getD i 0) 2]) = natsI c.ys ++ natsI [raisedN ((hiOf xs).list.getD i 0) 2, raisedN ((loOf xs).list.getD i 0) 2] from List.map_append]; exact hJ
        · show c.ys ++ _ = _
          rw [il_take _ _ i hi, hcy]
  case done =>
    intro c u h tk hp F5 N6
    replace F5 : Fr h₀ L h _ := F5
    replace N6 : News h₀ L h _ := N6
    dsimp only [kstB] at F5
    obtain ⟨hcI, hcy, hca⟩ := hp
    replace hcy : c.ys = il (hiOf xs) (loOf xs) := hcy
    have hyl : ∀ x ∈ c.ys, x < 32 := by rw [hcy]; exact il_lt (hiOf_ok xs) (loOf_ok xs)
    have hyn : c.ys.length ≤ 1000 := by rw [hcy]; exact Nat.le_of_ble_eq_true rfl
    clear F4 N4 N5
    have hOok := O_ok
    dsimp only
    tb_start
    rename Fr _ _ _ _ => F6
    rename News _ _ _ _ => N7
    try clear F5 N6
    with_unfolding_all refine' For_invVF (hE := hE) F6 ?kk3 ?kk4 ?_
    case kk3 => exact rfl
    case kk4 => exact rfl
    tb_start
    k_dflt (refine' run_use ?xk1 ?xk2 ?xk3 ?xk4 ?xk5 ?xkK ?xm ?xi ?xmv ?xiv ?xt ?xo ?xx ?xl (run_tells _ _ _ _ _) ?xkd ?xku ?_)
    case xk1 => k_asm
    case xk2 => k_asm
    case xk3 => k_asm
    case xk4 => k_asm
    case xk5 => k_asm
    case xkK => first | exact rfl | assumption
    case xm => k_mem
    case xi => first | with_reducible assumption | exact O_ints
    case xmv => k_mem
    case xiv => with_reducible assumption
    case xt => first | with_reducible assumption | (refine TabsAt.mono (by with_reducible assumption) ?_; intro p hp; repeat (first | exact hp | refine List.mem_cons_of_mem _ ?_))
    case xo => with_reducible assumption
    case xx => with_reducible assumption
    case xl => first | omega | (simp only [List.length_replicate]; omega)
    case xkd => ktr_room
    case xku => ktr_units
    intro rlA rus rnn h7 tk7 hrI F8 N8 hrl
    try clear F6 N7
    dsimp only
    with_unfolding_all refine' kst_listL (σ := Nat × Nat) (ns := natsI (run St.O c.ys).list) (fun _ => _) (fun c => [("due", .int c.1 c.2)]) (fun _ => True) [] (fun pre c => c.1 = (pre.map Int.toNat).foldl (fun d x => 32 * d + x) 0) (0, _) (by rfl) (fun _ => .head _) hrI F8 N8 trivial ?r1 ?r2 ?turn2 ?done2
    case r1 => intro p hp; rcases List.mem_singleton.mp hp with rfl; rfl
    case r2 => rfl
    case turn2 =>
      intro c2 pre post n t u h tk own hns hnm hoff _ hp F9 N9
      clear F8 N8
      obtain ⟨v, -, rfl⟩ := List.mem_map.mp hnm
      tb_start
      rename Fr _ _ _ _ => FA
      rename News _ _ _ _ => NA
      refine kst_end (32 * c2.1 + v, ?tkx) FA NA (fun p hp => List.mem_append_left _ hp) (fun p hp => List.mem_append_right _ hp) rfl trivial ?f1 ?f2 ?f3
      case f1 => intro p hp; rcases List.mem_singleton.mp hp with rfl; rfl
      case f2 =>
        intro z h1 h2 h3
        have h4 : z ≠ "due" := h2 _ (.head _)
        simp only [kstB, if_neg h1, if_neg h4]
        rfl
      case f3 => simp only [List.map_append, List.foldl_append, ← hp]; rfl
    case done2 =>
      intro c2 u2 h tk _ hp2 F9 N9
      clear F8 N8
      rw [natsI_toNat, hcy] at hp2
      dsimp only
      dsimp only [kstB] at F9
      tb_start
      rename Fr _ _ _ _ => FA
      rename News _ _ _ _ => NA
      try clear F9 N9
      with_unfolding_all refine' For_invVF (hE := hE) FA ?kk5 ?kk6 ?_
      case kk5 => exact rfl
      case kk6 => exact rfl
      tb_start
      rename (IntsAre _ (List.take _ _)) => hs5
      rw [show List.take (Int.toNat 5) (natsI xs) = natsI (xs.take 5) from List.map_take.symm] at hs5
      have hx5 : ∀ x ∈ xs.take 5, x < 32 := fun x hx => hxs x (List.mem_of_mem_take hx)
      have hl5 : (xs.take 5).length ≤ 5 := by rw [List.length_take]; omega
      rename Fr _ _ _ _ => FB
      rename News _ _ _ _ => NB
      try clear FA NA
      with_unfolding_all refine' kst_listL (σ := Nat × Nat) (ns := natsI (xs.take 5)) (fun _ => _) (fun c => [("plain", .int c.1 c.2)]) (fun _ => True) [] (fun pre c => c.1 = (pre.map Int.toNat).foldl (fun d x => 32 * d + x) 1) (1, _) (by rfl) (fun _ => .head _) hs5 FB NB trivial ?r3 ?r4 ?turn3 ?done3
      case r3 => intro p hp; rcases List.mem_singleton.mp hp with rfl; rfl
      case r4 => rfl
      case turn3 =>
        intro c3 pre post n t u h tk own hns hnm hoff _ hp F9 N9
        clear FB NB
        obtain ⟨v, -, rfl⟩ := List.mem_map.mp hnm
        tb_start
        rename Fr _ _ _ _ => FC
        rename News _ _ _ _ => NC
        refine kst_end (32 * c3.1 + v, ?tky) FC NC (fun p hp => List.mem_append_left _ hp) (fun p hp => List.mem_append_right _ hp) rfl trivial ?f4 ?f5 ?f6
        case f4 => intro p hp; rcases List.mem_singleton.mp hp with rfl; rfl
        case f5 =>
          intro z h1 h2 h3
          have h4 : z ≠ "plain" := h2 _ (.head _)
          simp only [kstB, if_neg h1, if_neg h4]
          rfl
        case f6 => simp only [List.map_append, List.foldl_append, ← hp]; rfl
      case done3 =>
        intro c3 u3 h tk _ hp3 F9 N9
        clear FB NB
        rw [natsI_toNat] at hp3
        have hfin : p0 = c2.1 := by rw [e0, hp2]; exact plain2 xs hxs
        rw [hfin] at htl
        dsimp only
        dsimp only [kstB] at F9
        tb_start
        · rename (IntsAre _ (List.take _ _)) => hs6
          rw [show List.take (Int.toNat 5) (natsI xs) = natsI (xs.take 5) from List.map_take.symm] at hs6
          have hl6 : (xs.take 5).length ≤ 900 := by omega
          k_dflt (refine' poly_use ?xk1 ?xk2 ?xk3 ?xk4 ?xk5 ?xkK ?xm ?xi ?xx ?xl (poly_tells _ _ _ _ _) ?xkd ?xku ?_)
          case xk1 => k_asm
          case xk2 => k_asm
          case xk3 => k_asm
          case xk4 => k_asm
          case xk5 => k_asm
          case xkK => first | exact rfl | assumption
          case xm => k_mem
          case xi => with_reducible assumption
          case xx => with_reducible assumption
          case xl => omega
          case xkd => ktr_room
          case xku => ktr_units
          intro tt h7 tk7 FD ND
          dsimp only
          tb_start
          have hfin2 : polyN (xs.take 5) = c3.1 := by rw [hp3]; exact plain5 _ hx5 hl5
          rw [hfin2, show (((c3.1 : Nat) : Int) == ((c3.1 : Nat) : Int)) = true from beq_self_eq_true _]
          exact hret _ _ _ FD
        · rename (_ ≠ _) => hne
          exact absurd rfl hne
local macro_rules | `(tactic| tb_start) => `(tactic| repeat' (first
  | (k_unfold; (try dsimp only))
  | ((fail_if_success (with_reducible show wpAny _ _ (PySem.exec (PySem.Stmt.For _ _ _ _ _) _) _ _ _)); (fail_if_success (with_reducible show wpAny _ _ (PySem.exec (PySem.Stmt.While _ _ _ _) _) _ _ _)); (fail_if_success (with_reducible show wpAny _ _ (PySem.pyIter _) _ _ _)); (fail_if_success (with_reducible show InvPostN _ _ _ _ _ _ _ _ _)); (fail_if_success (with_reducible show InvEndN _ _ _ _ _ _ _)); (fail_if_success (with_reducible show ShiftWantsBound)); (fail_if_success (with_reducible show wpAny _ _ (PySem.call (Value.ref _) _) _ _ _));
     (fail_if_success (with_reducible show wpAny _ _ (PySem.eval (PySem.Expr.ListComp _ _ _ _) _) _ _ _)); (fail_if_success (with_reducible show wpAny _ _ (PySem.exec (PySem.Stmt.Assign _ (PySem.Expr.ListComp _ _ _ _) _) _) _ _ _)); (fail_if_success (with_reducible show LCg.CompSrc _ _ _ _ _ _ _ _ _ _ _ _ _ _)); (fail_if_success (with_reducible show LCt.CompSrcT _ _ _ _ _ _ _ _ _ _ _ _ _ _ _)); (fail_if_success (with_reducible show LCg.CompEnd _ _ _ _ _ _ _ _ _ _ _ _ _ _)); first | walk1 | (dsimp only; walk1))))
set_option maxHeartbeats 20000000 in
theorem mid2 (w : World) (loose : List Str) (mean : ExcName → Option Value) (mg mb : Str → Option Value) (h₀ : Heap) (L fa : Addr) (cd : Value) (s : Shared) (m : Str → Option Value) (rest : List (Addr × Obj)) (oA oB : Obj) (vA : Option Value) (rl : Addr) (us : List Value) (nn : Nat) (xs : List Nat)
    (Q : Flow → Shared → Prop) (E : Value → Shared → Prop)
    (hB : Below callerA h₀ [] h₀) (hX : (hd02.heap_39 w.params).In h₀) (hT : Top hd02.view_39 loose mean mg mb h₀) (F : Fr h₀ L s.heap m) (N : News h₀ L s.heap ((L + 1 + 1, oA) :: (L + 1, oB) :: rest))
    (hdA : oA.data = .cell vA) (hdB : oB.data = .cell (some (.ref rl))) (hrow : (rl, listOf us.toArray nn) ∈ rest) (hra : ∀ p ∈ rest, p.1 ≠ L + 1 + 1) (hrb : ∀ p ∈ rest, p.1 ≠ L + 1)
    (hI : IntsAre us (natsI xs)) (hxs : ∀ x ∈ xs, x < 32) (hxl : xs.length ≤ 30)
    (hE : PassesOwn (model Challenge.rw_oo0001_02.row.prog w) (callerA.deeper (lawEnv Challenge.rw_oo0001_02.prog L fa cd)) (lawEnv Challenge.rw_oo0001_02.prog L fa cd) E)
    (hret : ∀ h' tk' m', Fr h₀ L h' m' → Q (.ret (.bool true)) { s with heap := h', toks := tk' }) :
    wpAny (model Challenge.rw_oo0001_02.row.prog w) (callerA.deeper (lawEnv Challenge.rw_oo0001_02.prog L fa cd)) (execs ((lawBody Challenge.rw_oo0001_02.prog).drop 2) (lawEnv Challenge.rw_oo0001_02.prog L fa cd)) Q E s := by
  revert hX; k_fill; intro hX
  have hxn : (natsI xs).length ≤ 32 := by simp [natsI]; omega
  with_unfolding_all (refine wpAny_execs_cons ?_)
  tb_start
  rename (Obj.data _ = Data.cell (some (Value.int _ _))) => hdS
  rename Obj => oS
  rename Fr _ _ _ _ => F1
  rename News _ _ _ _ => N1
  try clear F N
  rw [show (natsI xs).length = xs.length by simp [natsI]] at hdS
  k_dflt (refine LCt.Assign_ListComp_T (F₀ := by k_asm) (by rfl) (by with_unfolding_all rfl) (by with_unfolding_all rfl) (by decide) (by rfl) (by decide) (by rfl) (by rfl) (by rfl) ?_)
  tb_start
  rename IsRange _ _ _ _ _ _ _ _ => R2
  rename Fr _ _ _ _ => F2
  rename News _ _ _ _ => N2
  refine compSrc_range (by rfl) F2 N2 R2 (by omega) ?_
  intro gg
  refine comp_range (takenN xs 0) rfl ?turn ?fin
  case turn =>
    intro i t I oI C oC D m2 ys h tk E' hi hys hC hx FB NB off ne
    try clear F1 N1
    have off0 := off
    simp only [LCg.Off3] at off
    tb_start
    · rename (Int.fmod _ _ = _) => hpar
      have hp2 : (xs.length - 1 - i) % 2 = 0 := by
        rw [Int.fmod_eq_emod_of_nonneg _ (by decide)] at hpar; omega
      have hgd : (natsI xs).getD (0 + (i : Int)).toNat 0 = ((xs.getD i 0 : Nat) : Int) := by
        rw [show (0 + (i : Int)).toNat = i by omega]; exact natsI_getD xs i
      rw [hgd]
      have hg32 := getD_lt hxs i
      k_dflt (refine' raised_use (y := 16) ?xk1 ?xk2 ?xk3 ?xk4 ?xk5 ?xkK ?xx ?xy (raised_tells _ _ _ _ _) ?xkd ?xku ?_)
      case xk1 => k_asm
      case xk2 => k_asm
      case xk3 => k_asm
      case xk4 => k_asm
      case xk5 => k_asm
      case xkK => first | exact rfl | assumption
      case xx => with_reducible assumption
      case xy => decide
      case xkd => ktr_room
      case xku => ktr_units
      intro r5 h5 tk5 F5 N5
      exact ⟨h5, tk5, _, rfl, F5, N5, off0, trivial, rfl, _, _, rfl, taken_pos xs 0 i hp2⟩
    · rename (Int.fmod _ _ ≠ _) => hpar
      have hp2 : (xs.length - 1 - i) % 2 ≠ 0 := by
        rw [Int.fmod_eq_emod_of_nonneg _ (by decide)] at hpar; omega
      exact ⟨h, _, _, rfl, FB, NB, off0, trivial, rfl, taken_neg xs 0 i hp2⟩
  case fin =>
    intro ye hye dE hpE tkE F3 N3 oE
    rw [taken_evN] at hye
    replace N3 : News h₀ L hpE ((dE, listOf ye.toArray ye.length) :: (L + 1 + 1, oS) :: (L + 1, oB) :: rest) := N3
    have oE1 := oE.1
    have oE2 := oE.2.1
    try clear F1 N1
    try clear F2 N2 R2
    dsimp only
    with_unfolding_all (refine wpAny_execs_cons ?_)
    k_dflt (refine LCt.Assign_ListComp_T (F₀ := by k_asm) (by rfl) (by with_unfolding_all rfl) (by with_unfolding_all rfl) (by decide) (by rfl) (by decide) (by rfl) (by rfl) (by rfl) ?_)
    tb_start
    rename IsRange _ _ _ _ _ _ _ _ => R4
    rename Fr _ _ _ _ => F4
    rename News _ _ _ _ => N4
    refine compSrc_range (by rfl) F4 N4 R4 (by omega) ?_
    intro gg
    refine comp_range (takenN xs 1) rfl ?turno ?fino
    case turno =>
      intro i t I oI C oC D m2 ys h tk E' hi hys hC hx FB NB off ne
      try clear F3 N3
      have off0 := off
      simp only [LCg.Off3] at off
      tb_start
      · rename (Int.fmod _ _ = _) => hpar
        have hp2 : (xs.length - 1 - i) % 2 = 1 := by
          rw [Int.fmod_eq_emod_of_nonneg _ (by decide)] at hpar; omega
        have hgd : (natsI xs).getD (0 + (i : Int)).toNat 0 = ((xs.getD i 0 : Nat) : Int) := by
          rw [show (0 + (i : Int)).toNat = i by omega]; exact natsI_getD xs i
        rw [hgd]
        have hg32 := getD_lt hxs i
        k_dflt (refine' raised_use (y := 16) ?xk1 ?xk2 ?xk3 ?xk4 ?xk5 ?xkK ?xx ?xy (raised_tells _ _ _ _ _) ?xkd ?xku ?_)
        case xk1 => k_asm
        case xk2 => k_asm
        case xk3 => k_asm
        case xk4 => k_asm
        case xk5 => k_asm
        case xkK => first | exact rfl | assumption
        case xx => with_reducible assumption
        case xy => decide
        case xkd => ktr_room
        case xku => ktr_units
        intro r5 h5 tk5 F5 N5
        exact ⟨h5, tk5, _, rfl, F5, N5, off0, trivial, rfl, _, _, rfl, taken_pos xs 1 i hp2⟩
      · rename (Int.fmod _ _ ≠ _) => hpar
        have hp2 : (xs.length - 1 - i) % 2 ≠ 1 := by
          rw [Int.fmod_eq_emod_of_nonneg _ (by decide)] at hpar; omega
        exact ⟨h, _, _, rfl, FB, NB, off0, trivial, rfl, taken_neg xs 1 i hp2⟩
    case fino =>
      intro yo hyo dO hO tkO F5 N5 oO
      rw [taken_odN] at hyo
      replace N5 : News h₀ L hO ((dO, listOf yo.toArray yo.length) :: (dE, listOf ye.toArray ye.length) :: (L + 1 + 1, oS) :: (L + 1, oB) :: rest) := N5
      have oO1 := oO.2.1
      have oO2 := oO.2.2.1
      try clear F3 N3
      try clear F4 N4 R4
      dsimp only
      have hevl := evN_lt xs hxs
      have hodl := odN_lt xs hxs
      have heve := evN_len xs
      have hode := odN_len xs
      tb_start
      k_dflt (refine' poly_use ?xk1 ?xk2 ?xk3 ?xk4 ?xk5 ?xkK ?xm ?xi ?xx ?xl (poly_tells _ _ _ _ _) ?xkd ?xku ?_)
      case xk1 => k_asm
      case xk2 => k_asm
      case xk3 => k_asm
      case xk4 => k_asm
      case xk5 => k_asm
      case xkK => first | exact rfl | assumption
      case xm => k_mem
      case xi => with_reducible assumption
      case xx => with_reducible assumption
      case xl => omega
      case xkd => ktr_room
      case xku => ktr_units
      intro t0 h6 tk6 F6 N6
      clear F5 N5
      have b0 := polyN_lt xs hxs
      generalize e0 : polyN xs = p0 at b0 ⊢
      dsimp only
      tb_start
      k_dflt (refine' poly_use ?xk1 ?xk2 ?xk3 ?xk4 ?xk5 ?xkK ?xm ?xi ?xx ?xl (poly_tells _ _ _ _ _) ?xkd ?xku ?_)
      case xk1 => k_asm
      case xk2 => k_asm
      case xk3 => k_asm
      case xk4 => k_asm
      case xk5 => k_asm
      case xkK => first | exact rfl | assumption
      case xm => k_mem
      case xi => with_reducible assumption
      case xx => with_reducible assumption
      case xl => omega
      case xkd => ktr_room
      case xku => ktr_units
      intro t1 h7 tk7 F7 N7
      clear F6 N6
      have b1 := polyN_lt (evN xs) hevl
      generalize e1 : polyN (evN xs) = p1 at b1 ⊢
      dsimp only
      tb_start
      k_dflt (refine' poly_use ?xk1 ?xk2 ?xk3 ?xk4 ?xk5 ?xkK ?xm ?xi ?xx ?xl (poly_tells _ _ _ _ _) ?xkd ?xku ?_)
      case xk1 => k_asm
      case xk2 => k_asm
      case xk3 => k_asm
      case xk4 => k_asm
      case xk5 => k_asm
      case xkK => first | exact rfl | assumption
      case xm => k_mem
      case xi => with_reducible assumption
      case xx => with_reducible assumption
      case xl => omega
      case xkd => ktr_room
      case xku => ktr_units
      intro t2 h8 tk8 F8 N8
      clear F7 N7
      have b2 := polyN_lt (odN xs) hodl
      generalize e2 : polyN (odN xs) = p2 at b2 ⊢
      dsimp only
      tb_start
      rename_i dT _ lt1 _ F9 N9
      k_dflt (refine LCt.ListComp_T (F₀ := by k_asm) (by with_unfolding_all rfl) (by decide) (by rfl) (by decide) (by rfl) ?_)
      tb_start
      k_dflt (refine LCt.CompSrcT.ledger (by rfl) F9 N9 List.mem_cons_self (Nat.le_of_ble_eq_true rfl) ?_)
      intro gg2
      lct_lit
      have h30 : (2 : Int) ^ Int.toNat 30 = 1073741824 := rfl
      refine LCt.CompRestT.succ ?_
      intro v I oI C oC D m2 h tk E' hv hC hx FB NB off ne
      lcg_open hv
      tb_start
      refine ⟨h, _, _, rfl, FB, NB, off, .inr ⟨_, List.mem_cons_self, rfl, _, rfl⟩, ?_⟩
      clear FB NB off
      refine LCt.CompRestT.succ ?_
      intro v I oI C oC D m2 h tk E' hv hC hx FB NB off ne
      lcg_open hv
      tb_start
      refine ⟨h, _, _, rfl, FB, NB, off, .inr ⟨_, List.mem_cons_self, rfl, _, rfl⟩, ?_⟩
      clear FB NB off
      refine LCt.CompRestT.succ ?_
      intro v I oI C oC D m2 h tk E' hv hC hx FB NB off ne
      lcg_open hv
      tb_start
      refine ⟨h, _, _, rfl, FB, NB, off, .inr ⟨_, List.mem_cons_self, rfl, _, rfl⟩, ?_⟩
      clear FB NB off
      refine LCt.CompRestT.zero ?_
      intro dZ hZ tkZ F10 N10 o10
      dsimp only
      tb_start
      rename Fr _ _ _ _ => F11
      rename News _ _ _ _ => N11
      try clear F10 N10
      k_dflt (refine LCg.Assign_ListComp_U (F₀ := by k_asm) (by rfl) (by with_unfolding_all rfl) (by with_unfolding_all rfl) (by decide) (by rfl) (by decide) (by rfl) (by rfl) (by rfl) ?_)
      tb_start
      rename Fr _ _ _ _ => FA
      rename News _ _ _ _ => NA
      try clear F11 N11
      k_dflt (refine LCg.CompSrc.ledger (by rfl) FA NA List.mem_cons_self (Nat.le_of_ble_eq_true rfl) ?_)
      clear FA NA
      intro gg3
      lcg_lit
      refine LCg.CompRest.succ ?_
      intro v I oI C oC D m2 h tk E' hv hC hx FB NB off ne
      lcg_open hv
      tb_start
      k_dflt (refine' tellsN_use (c := cBy) (d := 29) ?k1 ?k2 ?k3 ?k4 ?k5 ?kK ?kR (by_tells _ _ _ _ _ _) ?ko ?kd ?ku ?_)
      case k1 => k_asm
      case k2 => k_asm
      case k3 => k_asm
      case k4 => k_asm
      case k5 => k_asm
      case kK => exact rfl
      case kR => exact ⟨_, rfl⟩
      case ko => decide
      case kd => ktr_room
      case ku => ktr_units
      intro r9 tl9 h9 tk9 F9 N9 hl9 ht9 ho9
      obtain ⟨l29, us29, nn29, xs9, rfl, N10, hlt, hI29, rfl⟩ := last_ret N9 hl9 ht9 ho9
      clear N9 hl9 ht9 ho9 FB NB
      tb_start
      refine compEnd_new F9 N10 hlt off (.inr ⟨_, by k_mem, rfl, _, rfl⟩) ?_
      have hc29 : L + 1 + 1 < l29 := hlt (L + 1 + 1, _) (by k_mem)
      clear F9 N10 hlt
      refine LCg.CompRest.succ ?_
      intro v I oI C oC D m2 h tk E' hv hC hx FB NB off ne
      lcg_open hv
      tb_start
      k_dflt (refine' tellsN_use (c := cBy) (d := 22) ?k1 ?k2 ?k3 ?k4 ?k5 ?kK ?kR (by_tells _ _ _ _ _ _) ?ko ?kd ?ku ?_)
      case k1 => k_asm
      case k2 => k_asm
      case k3 => k_asm
      case k4 => k_asm
      case k5 => k_asm
      case kK => exact rfl
      case kR => exact ⟨_, rfl⟩
      case ko => decide
      case kd => ktr_room
      case ku => ktr_units
      intro r9 tl9 h9 tk9 F9 N9 hl9 ht9 ho9
      obtain ⟨l22, us22, nn22, xs9, rfl, N10, hlt, hI22, rfl⟩ := last_ret N9 hl9 ht9 ho9
      clear N9 hl9 ht9 ho9 FB NB
      tb_start
      refine compEnd_new F9 N10 hlt off (.inr ⟨_, by k_mem, rfl, _, rfl⟩) ?_
      have hc22 : L + 1 + 1 < l22 := hlt (L + 1 + 1, _) (by k_mem)
      clear F9 N10 hlt
      refine LCg.CompRest.succ ?_
      intro v I oI C oC D m2 h tk E' hv hC hx FB NB off ne
      lcg_open hv
      tb_start
      k_dflt (refine' tellsN_use (c := cBy) (d := 20) ?k1 ?k2 ?k3 ?k4 ?k5 ?kK ?kR (by_tells _ _ _ _ _ _) ?ko ?kd ?ku ?_)
      case k1 => k_asm
      case k2 => k_asm
      case k3 => k_asm
      case k4 => k_asm
      case k5 => k_asm
      case kK => exact rfl
      case kR => exact ⟨_, rfl⟩
      case ko => decide
      case kd => ktr_room
      case ku => ktr_units
      intro r9 tl9 h9 tk9 F9 N9 hl9 ht9 ho9
      obtain ⟨l20, us20, nn20, xs9, rfl, N10, hlt, hI20, rfl⟩ := last_ret N9 hl9 ht9 ho9
      clear N9 hl9 ht9 ho9 FB NB
      tb_start
      refine compEnd_new F9 N10 hlt off (.inr ⟨_, by k_mem, rfl, _, rfl⟩) ?_
      have hc20 : L + 1 + 1 < l20 := hlt (L + 1 + 1, _) (by k_mem)
      clear F9 N10 hlt
      refine LCg.CompRest.succ ?_
      intro v I oI C oC D m2 h tk E' hv hC hx FB NB off ne
      lcg_open hv
      tb_start
      k_dflt (refine' tellsN_use (c := cBy) (d := 21) ?k1 ?k2 ?k3 ?k4 ?k5 ?kK ?kR (by_tells _ _ _ _ _ _) ?ko ?kd ?ku ?_)
      case k1 => k_asm
      case k2 => k_asm
      case k3 => k_asm
      case k4 => k_asm
      case k5 => k_asm
      case kK => exact rfl
      case kR => exact ⟨_, rfl⟩
      case ko => decide
      case kd => ktr_room
      case ku => ktr_units
      intro r9 tl9 h9 tk9 F9 N9 hl9 ht9 ho9
      obtain ⟨l21, us21, nn21, xs9, rfl, N10, hlt, hI21, rfl⟩ := last_ret N9 hl9 ht9 ho9
      clear N9 hl9 ht9 ho9 FB NB
      tb_start
      refine compEnd_new F9 N10 hlt off (.inr ⟨_, by k_mem, rfl, _, rfl⟩) ?_
      have hc21 : L + 1 + 1 < l21 := hlt (L + 1 + 1, _) (by k_mem)
      clear F9 N10 hlt
      refine LCg.CompRest.succ ?_
      intro v I oI C oC D m2 h tk E' hv hC hx FB NB off ne
      lcg_open hv
      tb_start
      k_dflt (refine' tellsN_use (c := cBy) (d := 18) ?k1 ?k2 ?k3 ?k4 ?k5 ?kK ?kR (by_tells _ _ _ _ _ _) ?ko ?kd ?ku ?_)
      case k1 => k_asm
      case k2 => k_asm
      case k3 => k_asm
      case k4 => k_asm
      case k5 => k_asm
      case kK => exact rfl
      case kR => exact ⟨_, rfl⟩
      case ko => decide
      case kd => ktr_room
      case ku => ktr_units
      intro r9 tl9 h9 tk9 F9 N9 hl9 ht9 ho9
      obtain ⟨l18, us18, nn18, xs9, rfl, N10, hlt, hI18, rfl⟩ := last_ret N9 hl9 ht9 ho9
      clear N9 hl9 ht9 ho9 FB NB
      tb_start
      refine compEnd_new F9 N10 hlt off (.inr ⟨_, by k_mem, rfl, _, rfl⟩) ?_
      have hc18 : L + 1 + 1 < l18 := hlt (L + 1 + 1, _) (by k_mem)
      clear F9 N10 hlt
      refine LCg.CompRest.zero ?_
      intro tD h10 tk10 F10 N10 o10
      have o10a := off1_mem o10 (L + 1 + 1, oS) (by k_mem)
      have o10b := off1_mem o10 (L + 1, oB) (by k_mem)
      simp only [List.nil_append, List.cons_append] at N10
      dsimp only at F10
      dsimp only
      obtain ⟨rest', N12, hTabs, hrow', htl', hra', hrb'⟩ : ∃ rest' : List (Addr × Obj), News h₀ L h10 ((L + 1 + 1, oS) :: (L + 1, oB) :: rest') ∧ TabsAt rest' tD ∧ (rl, listOf us.toArray nn) ∈ rest' ∧ (dT, listOf [Value.int (p0 : Nat) t0, Value.int (p1 : Nat) t1, Value.int (p2 : Nat) t2].toArray 0) ∈ rest' ∧ (∀ p ∈ rest', p.1 ≠ L + 1 + 1) ∧ (∀ p ∈ rest', p.1 ≠ L + 1) := by
        refine ⟨(tD, LCg.lst [Value.ref l29, Value.ref l22, Value.ref l20, Value.ref l21, Value.ref l18]) :: (l18, listOf us18.toArray nn18) :: (l21, listOf us21.toArray nn21) :: (l20, listOf us20.toArray nn20) :: (l22, listOf us22.toArray nn22) :: (l29, listOf us29.toArray nn29) :: (dT, listOf [Value.int (p0 : Nat) t0, Value.int (p1 : Nat) t1, Value.int (p2 : Nat) t2].toArray 0) :: rest, ?_, ?_, ?_, ?_, ?_, ?_⟩
        · refine kst_newsOf N10 (List.forall_mem_cons.mpr ⟨by k_mem, List.forall_mem_cons.mpr ⟨by k_mem, List.forall_mem_cons.mpr ⟨by k_mem, List.forall_mem_cons.mpr ⟨by k_mem, List.forall_mem_cons.mpr ⟨by k_mem, List.forall_mem_cons.mpr ⟨by k_mem, List.forall_mem_cons.mpr ⟨by k_mem, List.forall_mem_cons.mpr ⟨by k_mem, List.forall_mem_cons.mpr ⟨by k_mem, fun p hp => ?_⟩⟩⟩⟩⟩⟩⟩⟩⟩)
          repeat (first | exact hp | refine List.mem_cons_of_mem _ ?_)
        · refine ⟨l29, l22, l20, l21, l18, 5, ?_, ⟨us29, nn29, ?_, hI29⟩, ⟨us22, nn22, ?_, hI22⟩, ⟨us20, nn20, ?_, hI20⟩, ⟨us21, nn21, ?_, hI21⟩, ⟨us18, nn18, ?_, hI18⟩⟩
          all_goals k_mem
        · k_mem
        · k_mem
        · exact List.forall_mem_cons.mpr ⟨Ne.symm o10a, List.forall_mem_cons.mpr ⟨(gt2 hc18).1, List.forall_mem_cons.mpr ⟨(gt2 hc21).1, List.forall_mem_cons.mpr ⟨(gt2 hc20).1, List.forall_mem_cons.mpr ⟨(gt2 hc22).1, List.forall_mem_cons.mpr ⟨(gt2 hc29).1, List.forall_mem_cons.mpr ⟨(gt2 lt1.2.2.1).1, hra⟩⟩⟩⟩⟩⟩⟩
        · exact List.forall_mem_cons.mpr ⟨Ne.symm o10b, List.forall_mem_cons.mpr ⟨(gt2 hc18).2, List.forall_mem_cons.mpr ⟨(gt2 hc21).2, List.forall_mem_cons.mpr ⟨(gt2 hc20).2, List.forall_mem_cons.mpr ⟨(gt2 hc22).2, List.forall_mem_cons.mpr ⟨(gt2 hc29).2, List.forall_mem_cons.mpr ⟨(gt2 lt1.2.2.1).2, hrb⟩⟩⟩⟩⟩⟩⟩
      clear N10
      refine tail2 w loose mean mg mb h₀ L fa cd _ _ rest' oS oB tD rl dT us nn 0 xs p0 p1 p2 _ t0 t1 t2 Q E hB hX hT F10 N12 rfl rfl hdS hdB hTabs hrow' hra' hrb' htl' e0.symm e1.symm e2.symm hI hxs hxl hE ?_
      intro h' tk' m' F'
      exact hret h' tk' m' F'
local macro_rules | `(tactic| tb_start) => `(tactic| repeat' (first
  | (k_unfold; (try dsimp only))
  | ((fail_if_success (with_reducible show wpAny _ _ (PySem.exec (PySem.Stmt.For _ _ _ _ _) _) _ _ _)); (fail_if_success (with_reducible show wpAny _ _ (PySem.exec (PySem.Stmt.While _ _ _ _) _) _ _ _)); (fail_if_success (with_reducible show wpAny _ _ (PySem.pyIter _) _ _ _)); (fail_if_success (with_reducible show InvPostN _ _ _ _ _ _ _ _ _)); (fail_if_success (with_reducible show InvEndN _ _ _ _ _ _ _)); (fail_if_success (with_reducible show ShiftWantsBound)); (fail_if_success (with_reducible show wpAny _ _ (PySem.call (Value.ref _) _) _ _ _));
     (fail_if_success (with_reducible show wpAny _ _ (PySem.eval (PySem.Expr.ListComp _ _ _ _) _) _ _ _)); (fail_if_success (with_reducible show wpAny _ _ (PySem.exec (PySem.Stmt.Assign _ (PySem.Expr.ListComp _ _ _ _) _) _) _ _ _)); (fail_if_success (with_reducible show LCg.CompSrc _ _ _ _ _ _ _ _ _ _ _ _ _ _)); (fail_if_success (with_reducible show LCg.CompEnd _ _ _ _ _ _ _ _ _ _ _ _ _ _)); first | walk1 | (dsimp only; walk1))))
structure RowD where
  rl : Addr
  us : List Value
  nn : Nat
  xs : List Nat
  ob : Obj
set_option maxHeartbeats 20000000 in
theorem main02 : PySem.Challenge.rw_oo0001_02.Holds := hd02 (by
  w_strict (k_go0)
  all_goals try k_fold
  rename World => w0
  rename Shared => s1
  rename IntsAre _ _ => hI
  rename Heap.IsList _ _ _ => hL
  rename Below _ _ _ _ => hB
  rename Top _ _ _ _ _ _ => hT
  rename Frag.In _ _ => hX
  rename News _ _ _ _ => N0
  obtain ⟨oA, oB, N0', ⟨vA, hdA⟩, ⟨vB, hdB⟩⟩ : ∃ oA oB, News s1.heap s1.heap.objs.size _ [(s1.heap.objs.size + 1 + 1, oA), (s1.heap.objs.size + 1, oB)] ∧ (∃ v, oA.data = .cell v) ∧ (∃ v, oB.data = .cell v) := ⟨_, _, N0, ⟨_, by assumption⟩, ⟨_, by assumption⟩⟩
  clear N0
  rename Fr _ _ _ _ => F0
  rename Addr => ls
  rename List Value => lvs
  have F00 : Fr s1.heap s1.heap.objs.size _ (fun y => if y = "script" then some (.ref _) else none) := F0
  clear F0
  tb_start
  rename Fr _ _ _ _ => F1
  rename News _ _ _ _ => N1
  rename (Obj.data _ = Data.cell (some (Value.ref _))) => hd1
  with_unfolding_all refine' For_invVF F1 ?k1 ?k2 ?_
  case k1 => exact rfl
  case k2 => exact rfl
  rename (_ < _ ∧ _ < _) => l1
  have hlt2' := l1.1
  rename Obj => oB1
  refine cutList F1 N1 30 ?src ?loop
  case src =>
    tb_start
    · rename_i D' ws' h' F' N' hI' hC' hL' lt1
      exact ⟨D', ws', 0, _, h', _, rfl, rfl, F', N', List.forall_mem_cons.mpr ⟨lt1.1, List.forall_mem_cons.mpr ⟨lt1.2.1, List.forall_mem_cons.mpr ⟨lt1.2.2, List.forall_mem_nil _⟩⟩⟩, hI', by rw [hC']; omega⟩
    · rename_i l' h' F' N' lt1
      exact ⟨l', [_, _, _, _], 0, [1, 700, 99, 5000], h', _, rfl, rfl, F', N', List.forall_mem_cons.mpr ⟨lt1.1, List.forall_mem_cons.mpr ⟨lt1.2.1, List.forall_mem_cons.mpr ⟨lt1.2.2, List.forall_mem_nil _⟩⟩⟩, .cons _ _ (.cons _ _ (.cons _ _ (.cons _ _ .nil))), by decide⟩
  case loop =>
    rintro v s' ⟨sl, su, sn, sns, h1, tk1, rfl, rfl, F2, N2, hlt2, hsI, hsn⟩
    clear F1 N1
    with_unfolding_all refine' forGL (σ := RowD) (vs := su) (nn := sn) (fun c => (sl, listOf su.toArray sn) :: (c.rl, listOf c.us.toArray c.nn) :: (s1.heap.objs.size + 1 + 1, oA) :: (s1.heap.objs.size + 1, c.ob) :: []) (fun c => []) [] (fun _ c => IntsAre c.us (natsI c.xs) ∧ (∀ x ∈ c.xs, x < 32) ∧ c.xs.length ≤ 30 ∧ s1.heap.objs.size + 1 + 1 < c.rl ∧ c.rl ≠ sl ∧ c.ob.data = Data.cell (some (Value.ref c.rl))) ⟨_, [], 0, [], oB1⟩ (by rfl) (fun _ _ _ => List.mem_cons_self) F2 N2 ?q1 ?q2 ?turn ?done
    case q1 => exact List.forall_mem_nil _
    case q2 => exact ⟨.nil, (fun x hx => nomatch hx), Nat.zero_le _, hlt2' , Nat.ne_of_lt (hlt2 _ List.mem_cons_self), hd1⟩
    case turn =>
      intro c i v u h tk own hv hoff hp F3 N3
      clear F2 N2
      replace F3 : Fr s1.heap s1.heap.objs.size h _ := F3
      replace N3 : News s1.heap s1.heap.objs.size h _ := N3
      dsimp only [kstB] at F3
      simp only [List.cons_append, List.nil_append] at N3
      obtain ⟨hpI, hpx, hpl, hpa, hpb, hpd⟩ := hp
      have hsl : s1.heap.objs.size + 1 + 1 < sl := hlt2 (s1.heap.objs.size + 1 + 1, oA) (.tail _ (.head _))
      have hoA : ∀ p ∈ own, p.1 ≠ s1.heap.objs.size + 1 + 1 := fun p hp => hoff p hp _ (.tail _ (.tail _ (.head _)))
      have hoB : ∀ p ∈ own, p.1 ≠ s1.heap.objs.size + 1 := fun p hp => hoff p hp _ (.tail _ (.tail _ (.tail _ (.head _))))
      have hpn : (natsI c.xs).length ≤ 30 := by simpa [natsI] using hpl
      obtain ⟨n, tn, rfl⟩ : ∃ n tn, v = .int n tn := ints_at hsI hv
      tb_start
      · skip
        k_dflt (refine' dig_use ?xk1 ?xk2 ?xk3 ?xk4 ?xk5 ?xkK ?xlo ?xhi (dig_tells _ _ _ _ _) ?xkd ?xku ?_)
        case xk1 => k_asm
        case xk2 => k_asm
        case xk3 => k_asm
        case xk4 => k_asm
        case xk5 => k_asm
        case xkK => first | exact rfl | assumption
        case xlo => omega
        case xhi => omega
        case xkd => ktr_room
        case xku => ktr_units
        intro dl dus dnn dxs h4 tk4 hdx hd1 hd2 hdI F4 N4 hdl
        clear F3 N3
        have hdl2 : s1.heap.objs.size + 1 + 1 < dl := hdl (s1.heap.objs.size + 1 + 1, oA) (.tail _ (.tail _ (.head _)))
        tb_start
        rename_i D' ws' h5 hJ lt1 h6 oN F' N' dN
        have hlA := tb_ltOf lt1.2.2.2.2.2
        refine gs_end (⟨D', ws', 0, c.xs ++ dxs, oN⟩ : RowD) F' N' ?g1 ?g2 ?g3 ?g4 ?g5 ?g6
        case g1 => exact List.forall_mem_cons.mpr ⟨.tail _ (.tail _ (.head _)), List.forall_mem_cons.mpr ⟨.head _, List.forall_mem_cons.mpr ⟨.tail _ (.tail _ (.tail _ (.tail _ (.head _)))), List.forall_mem_cons.mpr ⟨.tail _ (.tail _ (.tail _ (.tail _ (.tail _ (.head _))))), List.forall_mem_nil _⟩⟩⟩⟩
        case g2 => exact fun p hp => .tail _ (.tail _ (.tail _ (.tail _ (.tail _ (.tail _ hp)))))
        case g3 =>
          intro p hp
          have h0 := hoff p hp
          exact List.forall_mem_cons.mpr ⟨h0 _ (.head _), List.forall_mem_cons.mpr ⟨Nat.ne_of_lt (hlA p hp), List.forall_mem_cons.mpr ⟨hoA p hp, List.forall_mem_cons.mpr ⟨hoB p hp, List.forall_mem_nil _⟩⟩⟩⟩
        case g4 => exact List.forall_mem_nil _
        case g5 =>
          intro z h1 h2 h3
          simp only [if_neg h1, List.contains_nil, Bool.false_eq_true, if_false]
        case g6 =>
          refine ⟨?_, fun x hx => (List.mem_append.mp hx).elim (hpx x) (hdx x), ?_, lt1.2.2.2.1, Nat.ne_of_gt lt1.2.1, dN⟩
          · show IntsAre _ (natsI (c.xs ++ dxs))
            rw [show natsI (c.xs ++ dxs) = natsI c.xs ++ natsI dxs from List.map_append]; exact hJ
          · show (c.xs ++ dxs).length ≤ 30
            have h7 : (natsI c.xs).length = c.xs.length := by simp [natsI]
            rw [List.length_append]; omega
      · rename Fr _ _ _ _ => F4
        rename News _ _ _ _ => N4
        refine gs_end c F4 N4 (fun p hp => List.mem_append_left own hp) (fun p hp => .tail _ (.tail _ (.tail _ (.tail _ hp)))) hoff ?g4 ?g5 ?g6
        case g4 => exact List.forall_mem_nil _
        case g5 =>
          intro z h1 h2 h3
          simp only [if_neg h1, List.contains_nil, Bool.false_eq_true, if_false]
        case g6 => exact ⟨hpI, hpx, hpl, hpa, hpb, hpd⟩
    case done =>
      intro c u h tk hp F3 N3
      clear F2 N2
      replace F3 : Fr s1.heap s1.heap.objs.size h _ := F3
      replace N3 : News s1.heap s1.heap.objs.size h _ := N3
      obtain ⟨hpI, hpx, hpl, hpa, hpb, hpd⟩ := hp
      have hsl : s1.heap.objs.size + 1 + 1 < sl := hlt2 (s1.heap.objs.size + 1 + 1, oA) (.tail _ (.head _))
      dsimp only
      refine mid2 w0 _ _ _ _ s1.heap s1.heap.objs.size _ _ _ _ [(sl, listOf su.toArray sn), (c.rl, listOf c.us.toArray c.nn)] oA c.ob vA c.rl c.us c.nn c.xs _ _ hB hX hT F3 (kst_newsOf N3 ?zN) hdA hpd (.tail _ (.head _)) ?za ?zb hpI hpx hpl ?zE ?zR
      case zN => exact List.forall_mem_cons.mpr ⟨.tail _ (.tail _ (.head _)), List.forall_mem_cons.mpr ⟨.tail _ (.tail _ (.tail _ (.head _))), List.forall_mem_cons.mpr ⟨.head _, List.forall_mem_cons.mpr ⟨.tail _ (.head _), List.forall_mem_nil _⟩⟩⟩⟩
      case za => exact List.forall_mem_cons.mpr ⟨(gt2 hsl).1, List.forall_mem_cons.mpr ⟨(gt2 hpa).1, List.forall_mem_nil _⟩⟩
      case zb => exact List.forall_mem_cons.mpr ⟨(gt2 hsl).2, List.forall_mem_cons.mpr ⟨(gt2 hpa).2, List.forall_mem_nil _⟩⟩
      case zE => passes_own
      case zR =>
        intro h' tk' m' F'
        clear F3 N3
        wrow_close)
end Mine
theorem PySem.Challenge.cw_oo0001_02_holds : PySem.Challenge.rw_oo0001_02.Holds :=
  Mine.main02
