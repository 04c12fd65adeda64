import PyProof.Rows.All
import Wide.All
import OpenK.AllK
import Wide.FinOn
import PySem.Challenge.RW_oo0001_01
open PySem PySem.W PyProof.Rows
set_option Elab.async false
namespace Mine

theorem xor_and_add (a : Nat) : ∀ b : Nat, (a ^^^ b) + 2 * (a &&& b) = a + b := by
  induction a using Nat.strongRecOn with
  | ind a ih =>
    intro b
    by_cases ha : a = 0
    · subst ha; simp
    · have h := ih (a / 2) (by omega) (b / 2)
      have hx := Nat.div_add_mod (a ^^^ b) 2
      have hy := Nat.div_add_mod (a &&& b) 2
      rw [Nat.xor_div_two] at hx
      rw [Nat.and_div_two] at hy
      have hm : (a ^^^ b) % 2 + 2 * ((a &&& b) % 2) = a % 2 + b % 2 := by
        have e1 : (a ^^^ b) % 2 = (a % 2) ^^^ (b % 2) := by
          have := @Nat.xor_mod_two_pow a b 1
          simpa using this
        have e2 : (a &&& b) % 2 = (a % 2) &&& (b % 2) := by
          have := @Nat.and_mod_two_pow a b 1
          simpa using this
        rw [e1, e2]
        rcases Nat.mod_two_eq_zero_or_one a with h1 | h1 <;> rcases Nat.mod_two_eq_zero_or_one b with h2 | h2 <;> rw [h1, h2] <;> decide
      omega

theorem andN (a b : Nat) : Builtin.bitAnd (a : Int) (b : Int) = ((a &&& b : Nat) : Int) := by
  rw [bitAnd_pp (by omega) (by omega)]; simp
theorem xorN (a b : Nat) : Builtin.bitXor (a : Int) (b : Int) = ((a ^^^ b : Nat) : Int) := by
  rw [bitXor_and, andN]
  have := xor_and_add a b
  omega
theorem shrN (a k : Nat) : Int.fdiv (a : Int) (2 ^ k) = ((a >>> k : Nat) : Int) := by
  rw [Int.fdiv_eq_ediv_of_nonneg _ (Int.pow_nonneg (by decide)), Nat.shiftRight_eq_div_pow]
  simp
theorem shlN (a k : Nat) : (a : Int) * (2 ^ k) = ((a <<< k : Nat) : Int) := by
  rw [Nat.shiftLeft_eq]; simp

section
open PySem.Spec
variable {prog : Program} {w : World} {A : Around} {E : Value → Shared → Prop} {s : Shared} {env : Env} {h₀ : Heap} {x : Str} {body : List Stmt} {Q : Flow → Shared → Prop}

/-- a for over a list of the ledger; the ledger may grow -/
theorem iterGL {l : Addr} {vs : List Value} {nn : Nat} {m₀ : Str → Option Value} {news : List (Addr × Obj)} (J : Nat → (Str → Option Value) → List (Addr × Obj) → Prop)
    (hh : A.handled = none) (hl : ∀ i m nx, J i m nx → (l, listOf vs.toArray nn) ∈ nx) (F : Fr h₀ env.locals s.heap m₀) (N : News h₀ env.locals s.heap news) (hj : J 0 m₀ news)
    (turn : ∀ i v m₁ nx h tk own, vs[i]? = some v → TbOff own nx → J i m₁ nx → Fr h₀ env.locals h (fun y => if y = x then some v else m₁ y) → News h₀ env.locals h (nx ++ own) →
      wpAny (model prog w) A (execs body env) (TbPost h₀ env.locals (J (i + 1)) own { s with heap := h, toks := tk } Q) E { s with heap := h, toks := tk })
    (done : ∀ m₁ nx h tk, J vs.length m₁ nx → Fr h₀ env.locals h m₁ → News h₀ env.locals h nx → Q .next { s with heap := h, toks := tk }) :
    wpAny (model prog w) A (pyIter (.ref l)) (fun it s₂ => LoopAtV prog w A h₀ env x body Q E it s₂) E s := by
  have hlN := hl 0 m₀ news hj
  have hol : s.heap.get? l = some (listOf vs.toArray nn) := (N _ hlN).1
  have hls : s.heap.IsList l vs.toArray := ⟨_, hol, rfl, nn, rfl⟩
  have hne : l ≠ s.heap.objs.size := Nat.ne_of_lt (Heap.lt_size hol)
  refine wpAny_pyIter_list hls ?_
  have W := Walks.list (prog := prog) (w := w) hh s.heap.objs.size l hne vs.toArray
  have hlen : vs.toArray.size = vs.length := by simp
  rw [hlen] at W
  refine ⟨_, _, _, vs.length, _, _, m₀, news, J, rfl, W, ?_, ?_, ?_, ⟨⟨_, Heap.get?_push_size _ rfl, rfl, rfl⟩, hls.at fun o e => Heap.get?_push_of_some _ e⟩, F.push _, (fun p hp => ⟨Heap.get?_push_of_some _ (N p hp).1, (N p hp).2⟩), hj, ?_, ?_⟩
  · intro hm
    rcases List.mem_cons.mp hm with e | hm
    · exact absurd F.ns.lt (e ▸ Nat.lt_irrefl _)
    · exact (N _ hlN).2.1 ((List.mem_singleton.mp hm).symm)
  · intro b hb
    rw [List.mem_singleton.mp hb]
    exact next_is_new F
  · intro p hp hI
    exact absurd (Heap.lt_size (N p hp).1) ((List.mem_singleton.mp hI) ▸ Nat.lt_irrefl _)
  · rintro i v m₁ news₁ s₁ own ⟨hh', tk', rfl⟩ hin hP hJ hoff hown hget hmem hst F₁ N₁
    obtain ⟨⟨oi, hoi, _⟩, _⟩ := hst
    have hI : (s.heap.objs.size, oi) ∈ own := hmem _ (.head _) (next_is_new F) oi hoi
    have hIf : (s.heap.objs.size, oi) ∈ own.filter fun p => decide (p.1 = s.heap.objs.size) := List.mem_filter.mpr ⟨hI, by simp⟩
    have hsep : TbOff (own.filter fun p => decide (p.1 = s.heap.objs.size)) news₁ := by
      intro p hp q hq e
      have h1 : p.1 = s.heap.objs.size := by simpa using (List.mem_filter.mp hp).2
      exact hoff q hq (List.mem_singleton.mpr (by rw [← e, h1]))
    have hv : vs[i]? = some v := by simpa using hP
    have hl₁ := hl i m₁ news₁ hJ
    have N₂ : News h₀ env.locals hh' (news₁ ++ own.filter fun p => decide (p.1 = s.heap.objs.size)) := fun p hp => N₁ p ((List.mem_append.mp hp).elim (fun h => List.mem_append.mpr (.inr h)) fun h => List.mem_append.mpr (.inl ((List.mem_filter.mp h).1)))
    have hlo : hh'.get? l = some (listOf vs.toArray nn) := (N₁ _ (List.mem_append.mpr (.inr hl₁))).1
    refine wpAny_mono (turn i v m₁ news₁ hh' tk' _ hv hsep hJ F₁ N₂) (fun f s₂ p => ?_) fun _ _ e => e
    have fin : TbEnd h₀ env.locals (J (i + 1)) (own.filter fun p => decide (p.1 = s.heap.objs.size)) { s with heap := hh', toks := tk' } s₂ →
        LoopStepU h₀ env.locals [s.heap.objs.size] own (J (i + 1)) { s with heap := hh', toks := tk' } .next s₂ := by
      rintro ⟨h', tk, m', news', nx, e, F', N', hn, ho, ha, hm⟩
      refine ⟨rfl, h', tk, m', nx, e, F', fun p hp => ?_, fun p hp hq => ?_, hm⟩
      · rcases List.mem_append.mp hp with h | h
        · by_cases hI : p.1 = s.heap.objs.size
          · exact N' p (ho p (List.mem_filter.mpr ⟨h, by simpa using hI⟩))
          · have h1 : p.1 = l := by
              rcases List.mem_cons.mp (hown p h) with h2 | h2
              · exact absurd h2 hI
              · exact List.mem_singleton.mp h2
            have h2 : hh'.get? p.1 = some p.2 := hget p h
            rw [h1, hlo] at h2
            have h3 : p = (l, listOf vs.toArray nn) := Prod.ext h1 (Option.some.inj h2).symm
            rw [h3]
            exact N' _ (hn _ (hl _ _ _ hm))
        · exact N' p (hn p h)
      · exact ha _ hIf p hp (List.mem_singleton.mp hq).symm
    cases f with
    | ret v => exact .ret p
    | brk => exact .brk p
    | next => exact .next (fin p)
    | cont => exact .cont (fin p)
  · rintro h' tk m' news' F' N' _ hJ
    exact done m' news' h' tk hJ F' N'

/-- a for over a range by ones; the ledger may grow -/
theorem iterGR {r : Addr} {a₀ b₀ : Int} {t₀ u₀ v₀ : Tok} {n : Nat} {m₀ : Str → Option Value} {news : List (Addr × Obj)} (J : Nat → (Str → Option Value) → List (Addr × Obj) → Prop)
    (hh : A.handled = none) (hr : IsRange s.heap r a₀ b₀ 1 t₀ u₀ v₀) (hsmall : Builtin.Range.small a₀ b₀ 1 = true) (hn : Builtin.Range.rangeSize a₀ b₀ 1 = (n : Int)) (F : Fr h₀ env.locals s.heap m₀) (N : News h₀ env.locals s.heap news) (hj : J 0 m₀ news)
    (turn : ∀ i t m₁ nx h tk own, i < n → TbOff own nx → J i m₁ nx → Fr h₀ env.locals h (fun y => if y = x then some (.int (a₀ + (i : Int)) t) else m₁ y) → News h₀ env.locals h (nx ++ own) →
      wpAny (model prog w) A (execs body env) (TbPost h₀ env.locals (J (i + 1)) own { s with heap := h, toks := tk } Q) E { s with heap := h, toks := tk })
    (done : ∀ m₁ nx h tk, J n m₁ nx → Fr h₀ env.locals h m₁ → News h₀ env.locals h nx → Q .next { s with heap := h, toks := tk }) :
    wpAny (model prog w) A (pyIter (.ref r)) (fun it s₂ => LoopAtV prog w A h₀ env x body Q E it s₂) E s := by
  refine wpAny_pyIter_range hr hsmall ?_
  have W : Walks prog w A s.heap.objs.size [s.heap.objs.size] [s.heap.objs.size] n (fun i v => i < n ∧ ∃ t, v = .int (a₀ + i * 1) t)
      (fun i h => IsRangeIter h s.heap.objs.size (a₀ + (i : Nat) * 1) ((n : Int) - (i : Nat)) 1) := (Walks.range hh _ a₀ 1 n).bound
  refine ⟨_, _, _, n, _, _, m₀, news, J, rfl, W, ?_, ?_, ?_, (by show IsRangeIter _ _ _ _ _; rw [hn]; simpa using Heap.get?_push_size _ rfl), F.push _, (fun p hp => ⟨Heap.get?_push_of_some _ (N p hp).1, (N p hp).2⟩), hj, ?_, ?_⟩
  · intro hm
    exact absurd F.ns.lt ((List.mem_singleton.mp hm) ▸ Nat.lt_irrefl _)
  · intro b hb
    rw [List.mem_singleton.mp hb]
    exact next_is_new F
  · intro p hp hI
    exact absurd (Heap.lt_size (N p hp).1) ((List.mem_singleton.mp hI) ▸ Nat.lt_irrefl _)
  · rintro i v m₁ news₁ s₁ own ⟨hh', tk', rfl⟩ hin hP hJ hoff hown hget hmem hst F₁ N₁
    obtain ⟨_, t, rfl⟩ := hP
    have e1 : a₀ + (i : Int) * 1 = a₀ + (i : Int) := by omega
    rw [e1] at F₁
    have hI : (s.heap.objs.size, _) ∈ own := hmem _ (.head _) (next_is_new F) _ hst
    have hsep : TbOff own news₁ := by
      intro p hp q hq e
      have h1 := List.mem_singleton.mp (hown p hp)
      exact hoff q hq (List.mem_singleton.mpr (by rw [← e, h1]))
    have N₂ : News h₀ env.locals hh' (news₁ ++ own) := fun p hp => N₁ p ((List.mem_append.mp hp).elim (fun h => List.mem_append.mpr (.inr h)) fun h => List.mem_append.mpr (.inl h))
    refine wpAny_mono (turn i t m₁ news₁ hh' tk' _ hin hsep hJ F₁ N₂) (fun f s₂ p => ?_) fun _ _ e => e
    have fin : TbEnd h₀ env.locals (J (i + 1)) own { s with heap := hh', toks := tk' } s₂ →
        LoopStepU h₀ env.locals [s.heap.objs.size] own (J (i + 1)) { s with heap := hh', toks := tk' } .next s₂ := by
      rintro ⟨h', tk, m', news', nx, e, F', N', hn, ho, ha, hm⟩
      exact ⟨rfl, h', tk, m', nx, e, F', fun p hp => N' p ((List.mem_append.mp hp).elim (ho p) (hn p)), fun p hp hq => ha _ hI p hp (List.mem_singleton.mp hq).symm, hm⟩
    cases f with
    | ret v => exact .ret p
    | brk => exact .brk p
    | next => exact .next (fin p)
    | cont => exact .cont (fin p)
  · rintro h' tk m' news' F' N' _ hJ
    exact done m' news' h' tk hJ F' N'

/-- the loop's state: c says the ledger and the kept names -/
def GS {σ : Type} (Led : σ → List (Addr × Obj)) (ps : σ → List (Str × Value)) (x : Str) (stored : List Str) (m₀ : Str → Option Value) (P : Nat → σ → Prop) (i : Nat) (m : Str → Option Value) (nx : List (Addr × Obj)) : Prop :=
  ∃ c : σ, nx = Led c ∧ (∀ p ∈ ps c, m p.1 = some p.2) ∧ (∀ z, z ≠ x → (∀ p ∈ ps c, z ≠ p.1) → stored.contains z = false → m z = m₀ z) ∧ P i c

theorem forGL {σ : Type} {l : Addr} {vs : List Value} {nn : Nat} {m₀ : Str → Option Value} (Led : σ → List (Addr × Obj)) (ps : σ → List (Str × Value)) (stored : List Str) (P : Nat → σ → Prop) (c₀ : σ)
    (hh : A.handled = none) (hl : ∀ i c, P i c → (l, listOf vs.toArray nn) ∈ Led c) (F : Fr h₀ env.locals s.heap m₀) (N : News h₀ env.locals s.heap (Led c₀)) (hk : ∀ p ∈ ps c₀, m₀ p.1 = some p.2) (hp : P 0 c₀)
    (turn : ∀ (c : σ) i v (u : Str → Option Value) h tk own, vs[i]? = some v → TbOff own (Led c) → P i c →
      Fr h₀ env.locals h (fun y => if y = x then some v else kstB (fun z => if stored.contains z then u z else m₀ z) (ps c) y) → News h₀ env.locals h (Led c ++ own) →
      wpAny (model prog w) A (execs body env) (TbPost h₀ env.locals (GS Led ps x stored m₀ P (i + 1)) own { s with heap := h, toks := tk } Q) E { s with heap := h, toks := tk })
    (done : ∀ (c : σ) (u : Str → Option Value) h tk, P vs.length c → Fr h₀ env.locals h (fun y => if y = x then u y else kstB (fun z => if stored.contains z then u z else m₀ z) (ps c) y) → News h₀ env.locals h (Led c) → Q .next { s with heap := h, toks := tk }) :
    wpAny (model prog w) A (pyIter (.ref l)) (fun it s₂ => LoopAtV prog w A h₀ env x body Q E it s₂) E s := by
  refine iterGL (fun i m nx => GS Led ps x stored m₀ P i m nx) hh (fun i m nx ⟨c, e, _, _, h⟩ => e ▸ hl i c h) F N ⟨c₀, rfl, hk, fun _ _ _ _ => rfl, hp⟩ ?_ ?_
  · rintro i v m₁ nx h tk own hv hoff ⟨c, rfl, h1, h2, hp'⟩ F₁ N₁
    exact turn c i v m₁ h tk own hv hoff hp' (kst_fr h1 h2 F₁) N₁
  · rintro m₁ nx h tk ⟨c, rfl, h1, h2, hp'⟩ F₁ N₁
    exact done c m₁ h tk hp' (kst_frOut h1 h2 F₁) N₁

theorem forGR {σ : Type} {r : Addr} {a₀ b₀ : Int} {t₀ u₀ v₀ : Tok} {n : Nat} {m₀ : Str → Option Value} (Led : σ → List (Addr × Obj)) (ps : σ → List (Str × Value)) (stored : List Str) (P : Nat → σ → Prop) (c₀ : σ)
    (hh : A.handled = none) (hr : IsRange s.heap r a₀ b₀ 1 t₀ u₀ v₀) (hsmall : Builtin.Range.small a₀ b₀ 1 = true) (hn : Builtin.Range.rangeSize a₀ b₀ 1 = (n : Int)) (F : Fr h₀ env.locals s.heap m₀) (N : News h₀ env.locals s.heap (Led c₀)) (hk : ∀ p ∈ ps c₀, m₀ p.1 = some p.2) (hp : P 0 c₀)
    (turn : ∀ (c : σ) i t (u : Str → Option Value) h tk own, i < n → TbOff own (Led c) → P i c →
      Fr h₀ env.locals h (fun y => if y = x then some (.int (a₀ + (i : Int)) t) else kstB (fun z => if stored.contains z then u z else m₀ z) (ps c) y) → News h₀ env.locals h (Led c ++ own) →
      wpAny (model prog w) A (execs body env) (TbPost h₀ env.locals (GS Led ps x stored m₀ P (i + 1)) own { s with heap := h, toks := tk } Q) E { s with heap := h, toks := tk })
    (done : ∀ (c : σ) (u : Str → Option Value) h tk, P n c → Fr h₀ env.locals h (fun y => if y = x then u y else kstB (fun z => if stored.contains z then u z else m₀ z) (ps c) y) → News h₀ env.locals h (Led c) → Q .next { s with heap := h, toks := tk }) :
    wpAny (model prog w) A (pyIter (.ref r)) (fun it s₂ => LoopAtV prog w A h₀ env x body Q E it s₂) E s := by
  refine iterGR (fun i m nx => GS Led ps x stored m₀ P i m nx) hh hr hsmall hn F N ⟨c₀, rfl, hk, fun _ _ _ _ => rfl, hp⟩ ?_ ?_
  · rintro i t m₁ nx h tk own hv hoff ⟨c, rfl, h1, h2, hp'⟩ F₁ N₁
    exact turn c i t m₁ h tk own hv hoff hp' (kst_fr h1 h2 F₁) N₁
  · rintro m₁ nx h tk ⟨c, rfl, h1, h2, hp'⟩ F₁ N₁
    exact done c m₁ h tk hp' (kst_frOut h1 h2 F₁) N₁

theorem gs_end {σ : Type} {Led : σ → List (Addr × Obj)} {ps : σ → List (Str × Value)} {stored : List Str} {m₀ : Str → Option Value} {P : Nat → σ → Prop} {i : Nat} {x : Str} (c : σ) {L : Addr} {m' : Str → Option Value} {own news' : List (Addr × Obj)} {s₁ : Shared} {h' : Heap} {tk : Nat}
    (F : Fr h₀ L h' m') (N : News h₀ L h' news') (hn : ∀ p ∈ Led c, p ∈ news') (ho : ∀ p ∈ own, p ∈ news') (ha : TbOff own (Led c)) (hk : ∀ p ∈ ps c, m' p.1 = some p.2) (hr : ∀ z, z ≠ x → (∀ p ∈ ps c, z ≠ p.1) → stored.contains z = false → m' z = m₀ z) (hp : P i c) :
    TbEnd h₀ L (GS Led ps x stored m₀ P i) own s₁ { s₁ with heap := h', toks := tk } := ⟨h', tk, m', news', Led c, rfl, F, N, hn, ho, ha, c, rfl, hk, hr, hp⟩
end

theorem fmodLt (x : Int) (k : Nat) : ∃ f : Nat, x.fmod ((k : Int) + 1) = (f : Int) ∧ f ≤ k := by
  have h1 := Int.emod_nonneg x (b := (k : Int) + 1) (by omega)
  have h2 := Int.emod_lt_of_pos x (b := (k : Int) + 1) (by omega)
  rw [Int.fmod_eq_emod_of_nonneg _ (by omega)]
  exact ⟨(x % ((k : Int) + 1)).toNat, by omega, by omega⟩
theorem fmodLt2 (x : Int) (k f : Nat) (h : f ≤ k) : ∃ g : Nat, (f : Int) + x.fmod ((k : Int) + 1 - (f : Int)) = (g : Int) ∧ f ≤ g ∧ g ≤ k := by
  obtain ⟨e, he, hl⟩ := fmodLt x (k - f)
  have : ((k - f : Nat) : Int) + 1 = (k : Int) + 1 - (f : Int) := by omega
  rw [this] at he
  exact ⟨f + e, by rw [he]; omega, by omega, by omega⟩
theorem fmod32 (x : Int) : ∃ f : Nat, x.fmod 32 = (f : Int) ∧ f < 32 := by
  obtain ⟨e, he, hl⟩ := fmodLt x 31
  exact ⟨e, he, by omega⟩
abbrev natsI (xs : List Nat) : List Int := xs.map Int.ofNat
/-- at address l there lies, in the ledger, a list of the numbers xs -/
def NatsAt (news : List (Addr × Obj)) (l : Addr) (xs : List Nat) : Prop := ∃ us nn, (l, listOf us.toArray nn) ∈ news ∧ IntsAre us (natsI xs)
theorem NatsAt.mono {news news' : List (Addr × Obj)} {l : Addr} {xs : List Nat} (h : NatsAt news l xs) (hs : ∀ p ∈ news, p ∈ news') : NatsAt news' l xs :=
  let ⟨us, nn, h1, h2⟩ := h
  ⟨us, nn, hs _ h1, h2⟩
section
open PySem.Spec PySem.Calls
variable {prog : Program} {w : World} {A : Around} {E : Value → Shared → Prop} {s : Shared} {h₀ : Heap} {L D : Addr} {m : Str → Option Value} {news news' : List (Addr × Obj)}
theorem len_my {us : List Value} {ns : List Int} {c : Nat} {Q : Value → Shared → Prop} (N : News h₀ L s.heap news) (hm : (D, listOf us.toArray c) ∈ news) (hi : IntsAre us ns) (hf : ns.length < 2 ^ 62)
    (h : Q (.int (ns.length : Nat) (s.toks + 1)) { s with toks := s.toks + 1 + 1 }) : wpAny (model prog w) A (call (.builtin "len") [.ref D]) Q E s :=
  KM.len_K N hm (by simp [hi.length]) hf h
theorem append_my {us : List Value} {ns : List Int} {n : Nat} {x : Value} {Q : Value → Shared → Prop} (F : Fr h₀ L s.heap m) (N : News h₀ L s.heap news) (U : Upd D (listOf us.toArray n) (listOf (us ++ [x]).toArray (n + 1)) news news')
    (hi : IntsAre us ns) (hf : ns.length ≤ 1000)
    (h : ∀ h', Fr h₀ L h' m → News h₀ L h' news' → Q .none { s with heap := h' }) : wpAny (model prog w) A (call (.builtin "list.append") [.ref D, x]) Q E s := by
  have e : us.toArray.push x = (us ++ [x]).toArray := by simp
  refine append_K (x := x) F N (e ▸ U) h ?_
  rw [List.size_toArray, hi.length, sizeLine_eq]; omega

theorem slice_my {value slice : PySem.Expr} {us : List Value} {ns ms : List Int} {nn : Nat} {vl vu : Value} {lo hi : Option Int} {Q : Value → Shared → Prop} (F : Fr h₀ L s.heap m) (N : News h₀ L s.heap news) (hm : (D, listOf us.toArray nn) ∈ news) (hi' : IntsAre us ns) (hb : ns.length ≤ 1000) (pl : IsPart vl lo) (pu : IsPart vu hi) (hp : IntsAre (slicePick us.toArray lo hi none).toList ms)
    (h : ∀ D' ws h', Fr h₀ L h' m → News h₀ L h' ((D', listOf (List.toArray ws) 0) :: news) → (∀ p ∈ news, p.1 < D') → IntsAre ws ms → Q (.ref D') { s with heap := h' })
    (hs : subscripted slice false (.ref D) (.ref s.heap.objs.size) = operate [.ref s.heap.objs.size, .ref D] (getItem (.ref D) (.ref s.heap.objs.size))) (ht : ∀ r, letTemporaryGo value (.ref D) r = pure ()) :
    wpAny (model prog w) A (subscriptTail value slice (.ref D) (.ref s.heap.objs.size)) Q E { s with heap := s.heap.push { cls := .type "slice", data := .fields #[vl, vu, .none] } } :=
  kmk_slice_ints F N (News.isList N hm) pl pu hi' hp rfl (fun D' ws h' F' N' l1 hI _ _ => h D' ws h' F' N' l1 hI) hs ht (kmk_sz hi' (by rw [sizeLine_eq]; omega))
theorem intsAre_getD {us : List Value} {ns : List Int} (h : IntsAre us ns) {k : Nat} (hk : k < ns.length) : ∃ t, us[k]? = some (.int (ns.getD k 0) t) := by
  obtain ⟨t, e⟩ := h.get k ns[k] (by simp [hk])
  exact ⟨t, by rw [e, List.getD_eq_getElem?_getD, List.getElem?_eq_getElem hk]; rfl⟩
theorem natsAre_getD {us : List Value} {xs : List Nat} (h : IntsAre us (natsI xs)) {k : Nat} (hk : k < xs.length) : ∃ t, us[k]? = some (.int ((xs.getD k 0 : Nat) : Int) t) := by
  obtain ⟨t, e⟩ := intsAre_getD h (k := k) (by simpa [natsI] using hk)
  refine ⟨t, e.trans ?_⟩
  congr 2
  simp [natsI, List.getD_eq_getElem?_getD, List.getElem?_map, List.getElem?_eq_getElem hk]
theorem item_my {value slice : PySem.Expr} {us : List Value} {xs : List Nat} {nn : Nat} {k : Int} {j : Nat} {u : Tok} {Q : Value → Shared → Prop} (N : News h₀ L s.heap news) (hm : (D, listOf us.toArray nn) ∈ news) (hi : IntsAre us (natsI xs)) (hj : k = ((j : Nat) : Int)) (hk : j < xs.length) (hb : xs.length ≤ 1000)
    (h : ∀ t, Q (.int ((xs.getD j 0 : Nat) : Int) t) s)
    (hs : subscripted slice false (.ref D) (.int k u) = operate [.ref D, .int k u] (getItem (.ref D) (.int k u)) := by with_unfolding_all rfl) :
    wpAny (model prog w) A (subscriptTail value slice (.ref D) (.int k u)) Q E s := by
  subst hj
  obtain ⟨t, e⟩ := natsAre_getD hi hk
  exact item_litK (News.isList N hm) (by omega) (by omega) (by simpa using e) (h t) hs
end
section
open PySem.Spec PySem.Calls
structure LD where
  l : Addr
  vs : List Value
  ns : List Int
  n : Nat
def gen5 (t : Nat) : Nat → Nat
  | 0 => if t.testBit 0 then 996825010 else 0
  | 1 => if t.testBit 1 then 642813549 else 0
  | 2 => if t.testBit 2 then 513874426 else 0
  | 3 => if t.testBit 3 then 1027748829 else 0
  | 4 => if t.testBit 4 then 705979059 else 0
  | _ => 0
def polyStep (c v : Nat) : Nat := [0,1,2,3,4].foldl (fun a k => a ^^^ gen5 (c >>> 25) k) (((c &&& 33554431) <<< 5) ^^^ v)
def polyN (ns : List Nat) : Nat := ns.foldl polyStep 1
abbrev cPoly : ToldN LD where
  Rel := fun news vs d => vs = [.ref d.l] ∧ (d.l, listOf d.vs.toArray d.n) ∈ news ∧ IntsAre d.vs d.ns
  Ok := fun d => (∀ x ∈ d.ns, 0 ≤ x ∧ x < 32) ∧ d.ns.length < 1000
  size := fun _ => 1
  Tl := fun tl => tl = []
  Out := fun _ r d => ∃ t, r = .int (polyN (d.ns.map Int.toNat)) t
theorem and_bound (c : Nat) : (Builtin.bitAnd (c : Int) 33554431).natAbs < 2 ^ 64 := by
  have h := andN c 33554431
  have h2 : ((33554431 : Nat) : Int) = 33554431 := rfl
  rw [h2] at h
  rw [h]
  have := @Nat.and_le_right c 33554431
  simp only [Int.natAbs_natCast]
  omega

def gI (T : Int) (a k : Int) : Int := if Builtin.bitAnd (T.fdiv (2 ^ k.toNat)) 1 ≠ 0 then Builtin.bitXor a ([996825010, 642813549, 513874426, 1027748829, 705979059].getD k.toNat 0) else Builtin.bitXor a 0

theorem gI_nat (T a k : Nat) (hk : k < 5) : gI (T : Int) (a : Int) (k : Int) = ((a ^^^ gen5 T k : Nat) : Int) := by
  have hz : ((0 : Nat) : Int) = 0 := rfl
  have ho : ((1 : Nat) : Int) = 1 := rfl
  unfold gI
  rw [Int.toNat_natCast, shrN, ← ho, andN, ← hz, xorN, Nat.xor_zero]
  have ht : (((T >>> k &&& 1 : Nat) : Int) ≠ ((0 : Nat) : Int)) ↔ T.testBit k = true := by
    unfold Nat.testBit
    rw [Nat.and_comm]
    simp only [bne_iff_ne, ne_eq, Int.natCast_inj, Nat.and_comm]
  by_cases hb : T.testBit k = true
  · rw [if_pos (ht.mpr hb)]
    rcases k with _ | _ | _ | _ | _ | k
    · simp only [gen5, hb, if_true]; exact xorN a 996825010
    · simp only [gen5, hb, if_true]; exact xorN a 642813549
    · simp only [gen5, hb, if_true]; exact xorN a 513874426
    · simp only [gen5, hb, if_true]; exact xorN a 1027748829
    · simp only [gen5, hb, if_true]; exact xorN a 705979059
    · omega
  · rw [if_neg (fun q => hb (ht.mp q))]
    rcases k with _ | _ | _ | _ | _ | k
    all_goals first | omega | simp [gen5, hb]
theorem gI_fold (c v : Nat) : (rangeKs 0 5).foldl (gI ((c : Int).fdiv (2 ^ Int.toNat 25))) (Builtin.bitXor (Builtin.bitAnd c 33554431 * 2 ^ Int.toNat 5) v) = ((polyStep c v : Nat) : Int) := by
  have h1 : Builtin.bitAnd (c : Int) 33554431 = ((c &&& 33554431 : Nat) : Int) := andN c 33554431
  rw [h1, shlN, xorN, shrN]
  have hr : rangeKs 0 5 = [((0 : Nat) : Int), ((1 : Nat) : Int), ((2 : Nat) : Int), ((3 : Nat) : Int), ((4 : Nat) : Int)] := by decide
  rw [hr]
  simp only [List.foldl_cons, List.foldl_nil]
  rw [gI_nat _ _ 0 (by decide), gI_nat _ _ 1 (by decide), gI_nat _ _ 2 (by decide), gI_nat _ _ 3 (by decide), gI_nat _ _ 4 (by decide)]
  rfl
theorem fdivN (n : Nat) : ((n : Nat) : Int).fdiv 32 = ((n / 32 : Nat) : Int) := by
  rw [Int.fdiv_eq_ediv_of_nonneg _ (by decide)]; omega
structure DigC where
  num : Nat
  tk : Nat
  us : List Value
  nn : Nat
  xs : List Nat
def LastNats (all : List (Addr × Obj)) (r : Value) (R : List Nat → Prop) : Prop := ∃ l us nn xs, r = .ref l ∧ all.getLast? = some (l, listOf us.toArray nn) ∧ IntsAre us (natsI xs) ∧ R xs
theorem last_ret {h₀ h : Heap} {L : Addr} {news tl : List (Addr × Obj)} {r : Value} {R : List Nat → Prop} (N : News h₀ L h (news ++ tl)) (ho : ∀ q ∈ news, ∀ p ∈ tl, q.1 < p.1) (ht : ∃ q, tl = [q]) (hl : LastNats (news ++ tl) r R) :
    ∃ l us nn xs, r = .ref l ∧ News h₀ L h ((l, listOf us.toArray nn) :: news) ∧ (∀ p ∈ news, p.1 < l) ∧ IntsAre us (natsI xs) ∧ R xs := by
  obtain ⟨q, rfl⟩ := ht
  obtain ⟨l, us, nn, xs, rfl, e, hI, hR⟩ := hl
  rw [List.getLast?_concat] at e
  cases e
  refine ⟨l, us, nn, xs, rfl, fun p hp => N p ?_, fun p hp => ho p hp _ (.head _), hI, hR⟩
  rcases List.mem_cons.mp hp with rfl | hp
  · exact List.mem_append_right _ (.head _)
  · exact List.mem_append_left _ hp
abbrev cDig : ToldN (Int × Int) where
  Rel := fun _ vs d => ∃ t0 t1 t2, vs = [.int d.1 t0, .int 32 t1, .int d.2 t2]
  Ok := fun d => 1 ≤ d.2 ∧ d.2 ≤ 64
  size := fun _ => 1
  Tl := fun tl => ∃ q, tl = [q]
  Out := fun news r d => LastNats news r (fun xs => (∀ x ∈ xs, x < 32) ∧ 1 ≤ xs.length ∧ (xs.length : Int) ≤ d.2)

theorem fmodN (n : Nat) : ((n : Nat) : Int).fmod 32 = ((n % 32 : Nat) : Int) := by
  rw [Int.fmod_eq_emod_of_nonneg _ (by decide)]; omega
def byStep (p : Nat × List Nat) : Nat × List Nat := ((p.1 * 2) ^^^ (if p.1 > 15 then 41 else 0), p.2 ++ p.2.map (· ^^^ p.1))
def byIt (num : Nat) : Nat → Nat × List Nat
  | 0 => (num, [0])
  | i + 1 => byStep (byIt num i)
def byTab (num : Nat) : List Nat := (byIt num 5).2
theorem byIt_len (n : Nat) : ∀ i, (byIt n i).2.length = 2 ^ i
  | 0 => rfl
  | i + 1 => by
    show ((byIt n i).2 ++ (byIt n i).2.map _).length = _
    rw [List.length_append, List.length_map, byIt_len n i, Nat.pow_succ]; omega
theorem natsI_xor (xs : List Nat) (p : Nat) : (natsI xs).map (fun k => Builtin.bitXor k (p : Int)) = natsI (xs.map (· ^^^ p)) := by
  simp only [natsI, List.map_map]
  refine List.map_congr_left fun x _ => ?_
  exact xorN x p
theorem byVal_a {n i : Nat} (h : (15 : Int) < ((byIt n i).1 : Nat)) : Builtin.bitXor (((byIt n i).1 : Nat) * 2 : Int) 41 = (((byIt n (i + 1)).1 : Nat) : Int) := by
  show _ = (((byIt n i).1 * 2 ^^^ (if (byIt n i).1 > 15 then 41 else 0) : Nat) : Int)
  rw [if_pos (by omega)]
  exact xorN ((byIt n i).1 * 2) 41
theorem byVal_b {n i : Nat} (h : ¬ (15 : Int) < ((byIt n i).1 : Nat)) : Builtin.bitXor (((byIt n i).1 : Nat) * 2 : Int) 0 = (((byIt n (i + 1)).1 : Nat) : Int) := by
  show _ = (((byIt n i).1 * 2 ^^^ (if (byIt n i).1 > 15 then 41 else 0) : Nat) : Int)
  rw [if_neg (by omega)]
  exact xorN ((byIt n i).1 * 2) 0
structure ByC where
  i : Nat
  tk : Nat
  us : List Value
  nn : Nat
  tab : Addr
  cell : Obj
abbrev cBy : ToldN Nat where
  Rel := fun _ vs d => ∃ t0, vs = [.int d t0]
  Ok := fun d => d < 32
  size := fun _ => 1
  Tl := fun tl => ∃ q, tl = [q]
  Out := fun news r d => LastNats news r (fun xs => xs = byTab d)

def tab (n k : Nat) : Nat := (byTab n).getD k 0
structure St where
  u : Nat
  v : Nat
  w : Nat
  x : Nat
  y : Nat
  z : Nat
def St.list (s : St) : List Nat := [s.u, s.v, s.w, s.x, s.y, s.z]
def St.Ok (s : St) : Prop := s.u < 32 ∧ s.v < 32 ∧ s.w < 32 ∧ s.x < 32 ∧ s.y < 32 ∧ s.z < 32
def runStep (s : St) (a : Nat) : St := ⟨tab 29 s.u ^^^ s.v, tab 22 s.u ^^^ s.w, tab 20 s.u ^^^ s.x, tab 21 s.u ^^^ s.y, tab 29 s.u ^^^ s.z, tab 18 s.u ^^^ a⟩
def run (s : St) (vals : List Nat) : St := vals.foldl runStep s
def TabsAt (news : List (Addr × Obj)) (lt : Addr) : Prop := ∃ a1 a2 a3 a4 a5 nn, (lt, listOf #[.ref a1, .ref a2, .ref a3, .ref a4, .ref a5] nn) ∈ news ∧ NatsAt news a1 (byTab 29) ∧ NatsAt news a2 (byTab 22) ∧ NatsAt news a3 (byTab 20) ∧ NatsAt news a4 (byTab 21) ∧ NatsAt news a5 (byTab 18)
structure RunD where
  ls : Addr
  lv : Addr
  lt : Addr
  st : St
  vals : List Nat
abbrev cRun : ToldN RunD where
  Rel := fun news vs d => vs = [.ref d.ls, .ref d.lv, .ref d.lt] ∧ NatsAt news d.ls d.st.list ∧ NatsAt news d.lv d.vals ∧ TabsAt news d.lt
  Ok := fun d => d.st.Ok ∧ (∀ x ∈ d.vals, x < 32) ∧ d.vals.length ≤ 1000
  size := fun _ => 1
  Tl := fun tl => ∃ q, tl = [q]
  Out := fun news r d => LastNats news r (fun xs => xs = (run d.st d.vals).list)

theorem natsI_toNat (xs : List Nat) : (natsI xs).map Int.toNat = xs := by
  simp only [natsI, List.map_map]
  have : (Int.toNat ∘ Int.ofNat) = id := rfl
  rw [this, List.map_id]
theorem tab_lt29 : ∀ k, k < 32 → tab 29 k < 32 := by decide +kernel
theorem tab_lt22 : ∀ k, k < 32 → tab 22 k < 32 := by decide +kernel
theorem tab_lt20 : ∀ k, k < 32 → tab 20 k < 32 := by decide +kernel
theorem tab_lt21 : ∀ k, k < 32 → tab 21 k < 32 := by decide +kernel
theorem tab_lt18 : ∀ k, k < 32 → tab 18 k < 32 := by decide +kernel
theorem valN {a b : Nat} {t : Tok} : some (Value.int (Builtin.bitXor (a : Int) (b : Int)) t) = some (Value.int ((a ^^^ b : Nat) : Int) t) := by rw [xorN]
structure RunC where
  st : St
  t1 : Nat
  t2 : Nat
  t3 : Nat
  t4 : Nat
  t5 : Nat
  t6 : Nat
theorem byTab_len (n : Nat) : (byTab n).length = 32 := byIt_len n 5
def AtTells (prog : Program) (w : World) (K : Frag) (p : Program) (loose : List Str) (mean : ExcName → Option Value) (mg mb : Str → Option Value) (f : Addr) : Prop :=
  ∀ (dp un : Nat) (gd : Option (List Code)) (cn : Str) (cs : Scope) (a : Addr) (ccd : Value) (cl : List (Str × Addr)) (outer : List Env) (A₀ : Around) (base h₀ : Heap) (L : Addr) (m : Str → Option Value) (news : List (Addr × Obj)) (s : Shared) (l : Addr) (vs : List Value) (ns : List Int) (i : Int) (tk : Tok) (o : Int) (tko : Tok)
    (Q E : Value → Shared → Prop),
    Below A₀ base outer h₀ → Fr h₀ L s.heap m → K.In h₀ → News h₀ L s.heap news → Top p loose mean mg mb h₀ → cs.kind = .function → base.IsList l vs.toArray → IntsAre vs ns → ns.length < 2 ^ 62 → 0 ≤ i → dp + 1 < recursionLimit → un + 8 < cLine →
    (∀ x t h' tk', Fr h₀ L h' m → News h₀ L h' news → Q (.int x t) { s with heap := h', toks := tk' }) →
    wpAny (model prog w) (ktrTop dp un gd cn cs L a ccd cl outer) (call (.ref f) [.ref l, .int i tk, .int o tko]) Q E s


theorem at_use {prog : Program} {w : World} {K : Frag} {p : Program} {loose : List Str} {mean : ExcName → Option Value} {mg mb : Str → Option Value} {f : Addr} {dp un : Nat} {gd : Option (List Code)} {cn : Str} {cs : Scope} {a : Addr} {ccd : Value} {cl : List (Str × Addr)} {outer : List Env} {A₀ : Around} {base h₀ : Heap} {L : Addr} {m : Str → Option Value} {news : List (Addr × Obj)} {s : Shared} {l : Addr} {vs : List Value} {ns : List Int} {i : Int} {tk : Tok} {o : Int} {tko : Tok}
    {Q E : Value → Shared → Prop} (B : Below A₀ base outer h₀) (F : Fr h₀ L s.heap m) (X : K.In h₀) (N : News h₀ L s.heap news) (T : Top p loose mean mg mb h₀) (hk : cs.kind = .function) (hl : base.IsList l vs.toArray) (hi : IntsAre vs ns) (hfit : ns.length < 2 ^ 62) (h0 : 0 ≤ i)
    (C : AtTells prog w K p loose mean mg mb f) (hd : dp + 1 < recursionLimit) (hu : un + 8 < cLine)
    (ret : ∀ x t h' tk', Fr h₀ L h' m → News h₀ L h' news → Q (.int x t) { s with heap := h', toks := tk' }) :
    wpAny (model prog w) (ktrTop dp un gd cn cs L a ccd cl outer) (call (.ref f) [.ref l, .int i tk, .int o tko]) Q E s := C _ _ _ _ _ _ _ _ _ _ _ _ _ _ _ _ _ _ _ _ _ _ _ _ _ B F X N T hk hl hi hfit h0 hd hu ret

section
open LCg
variable {prog : Program} {w : World} {A : Around} {E : Value → Shared → Prop} {s : Shared} {h₀ : Heap} {L : Addr} {m : Str → Option Value} {env : Env} {elt : Expr} {x : Str} {scope : Scope} {cl : List (Str × Addr)} {S : List (Addr × Obj) → Prop} {P : Nat → Value → Prop} {Fin : List Value → List (Addr × Obj) → Prop}
/-- a comprehension's turns by what holds of the list so far and of the ledger -/
theorem compJ {n : Nat} (J : Nat → List Value → List (Addr × Obj) → Prop)
    (turn : ∀ i ys nx v I oI C oC D m₂ h tk (E' : Value → Shared → Prop), i < n → P i v → J i ys nx → NsObj oC m₂ → m₂ x = some v → Fr h₀ L h m → News h₀ L h ((I, oI) :: (C, oC) :: (D, lst ys) :: nx) → Off3 I C D nx → ((@Ne Nat I C) ∧ (@Ne Nat I D) ∧ (@Ne Nat C D)) →
      wpAny (model prog w) A (eval elt (compEnvC scope cl C env)) (CompEnd h₀ L m { s with heap := h, toks := tk } I oI C oC D (lst ys) S (fun y nx' => J (i + 1) (ys ++ [y]) nx')) E' { s with heap := h, toks := tk })
    (fin : ∀ ys nx, J n ys nx → Fin ys nx) : ∀ (k i : Nat) (ys : List Value) (nx : List (Addr × Obj)), i + k = n → J i ys nx → CompRest prog w A h₀ L m env elt x scope cl s S P Fin k i ys nx
  | 0, i, ys, nx, hi, hj => CompRest.zero (fin ys nx (by rw [← hi]; exact hj))
  | k + 1, i, ys, nx, hi, hj => by
    refine CompRest.succ ?_
    intro v I oI C oC D m₂ h tk E' hv hC hx F N off ne
    refine wpAny_mono (turn i ys nx v I oI C oC D m₂ h tk E' (by omega) hv hj hC hx F N off ne) (fun y s₂ hq => ?_) fun _ _ e => e
    obtain ⟨h', tk', nx', e, F', N', off', hS, hJ⟩ := hq
    exact ⟨h', tk', nx', e, F', N', off', hS, compJ J turn fin k (i + 1) _ nx' (by omega) hJ⟩
end

theorem compEnd_new {h₀ : Heap} {L I C D l : Addr} {m : Str → Option Value} {s₁ : Shared} {oI oC oD o : Obj} {S : List (Addr × Obj) → Prop} {rest : Value → List (Addr × Obj) → Prop} {y : Value} {h' : Heap} {tk : Nat} {led : List (Addr × Obj)}
    (F : Fr h₀ L h' m) (N : News h₀ L h' ((l, o) :: (I, oI) :: (C, oC) :: (D, oD) :: led)) (hlt : ∀ p ∈ (I, oI) :: (C, oC) :: (D, oD) :: led, p.1 < l) (off : LCg.Off3 I C D led) (hS : S ((l, o) :: led)) (r : rest y ((l, o) :: led)) :
    LCg.CompEnd h₀ L m s₁ I oI C oC D oD S rest y { s₁ with heap := h', toks := tk } := by
  refine LCg.CompEnd.intro F N ((l, o) :: led) ?_ ?_ hS r
  · intro p hp
    rcases List.mem_cons.mp hp with rfl | hp
    · exact .tail _ (.head _)
    rcases List.mem_cons.mp hp with rfl | hp
    · exact .tail _ (.tail _ (.head _))
    rcases List.mem_cons.mp hp with rfl | hp
    · exact .tail _ (.tail _ (.tail _ (.head _)))
    rcases List.mem_cons.mp hp with rfl | hp
    · exact .head _
    · exact .tail _ (.tail _ (.tail _ (.tail _ hp)))
  · exact ⟨⟨Ne.symm (Nat.ne_of_lt (hlt _ (.head _))), Ne.symm (Nat.ne_of_lt (hlt _ (.tail _ (.head _)))), Ne.symm (Nat.ne_of_lt (hlt _ (.tail _ (.tail _ (.head _)))))⟩, off⟩

def St.minus1 (s : St) : St := ⟨s.u, s.v, s.w, s.x, s.y, s.z ^^^ 1⟩
def digs (t : Nat) : St := ⟨t / 32 ^ 5 % 32, t / 32 ^ 4 % 32, t / 32 ^ 3 % 32, t / 32 ^ 2 % 32, t / 32 ^ 1 % 32, t / 32 ^ 0 % 32⟩
def St.xor (a b : St) : St := ⟨a.u ^^^ b.u, a.v ^^^ b.v, a.w ^^^ b.w, a.x ^^^ b.x, a.y ^^^ b.y, a.z ^^^ b.z⟩
def pieceStep (s : St) (p : List Nat) : St := (run s.minus1 (List.replicate p.length 0)).xor (digs (polyN p))
theorem gen5_lt (t k : Nat) : gen5 t k < 2 ^ 30 := by
  rcases k with _ | _ | _ | _ | _ | k <;> simp only [gen5] <;> first | (split <;> decide) | decide
theorem polyStep_lt (c v : Nat) (hv : v < 32) : polyStep c v < 2 ^ 30 := by
  have h1 : (c &&& 33554431) <<< 5 < 2 ^ 30 := by
    have h2 : c &&& 33554431 ≤ 33554431 := Nat.and_le_right
    rw [Nat.shiftLeft_eq]; omega
  have h0 : ((c &&& 33554431) <<< 5) ^^^ v < 2 ^ 30 := Nat.xor_lt_two_pow h1 (by omega)
  unfold polyStep
  simp only [List.foldl_cons, List.foldl_nil]
  exact Nat.xor_lt_two_pow (Nat.xor_lt_two_pow (Nat.xor_lt_two_pow (Nat.xor_lt_two_pow (Nat.xor_lt_two_pow h0 (gen5_lt _ _)) (gen5_lt _ _)) (gen5_lt _ _)) (gen5_lt _ _)) (gen5_lt _ _)
theorem polyFold_lt : ∀ (vs : List Nat) (c : Nat), c < 2 ^ 30 → (∀ x ∈ vs, x < 32) → vs.foldl polyStep c < 2 ^ 30
  | [], _, h, _ => h
  | v :: r, c, _, hx => polyFold_lt r _ (polyStep_lt c v (hx v (.head _))) fun x h => hx x (.tail _ h)
theorem polyN_lt (vs : List Nat) (hx : ∀ x ∈ vs, x < 32) : polyN vs < 2 ^ 30 := polyFold_lt vs 1 (by decide) hx
theorem digs_ok (t : Nat) : (digs t).Ok := ⟨Nat.mod_lt _ (by decide), Nat.mod_lt _ (by decide), Nat.mod_lt _ (by decide), Nat.mod_lt _ (by decide), Nat.mod_lt _ (by decide), Nat.mod_lt _ (by decide)⟩
theorem xor_ok {a b : St} (ha : a.Ok) (hb : b.Ok) : (a.xor b).Ok := by
  obtain ⟨h1, h2, h3, h4, h5, h6⟩ := ha
  obtain ⟨k1, k2, k3, k4, k5, k6⟩ := hb
  exact ⟨Nat.xor_lt_two_pow (n := 5) h1 k1, Nat.xor_lt_two_pow (n := 5) h2 k2, Nat.xor_lt_two_pow (n := 5) h3 k3, Nat.xor_lt_two_pow (n := 5) h4 k4, Nat.xor_lt_two_pow (n := 5) h5 k5, Nat.xor_lt_two_pow (n := 5) h6 k6⟩
theorem minus1_ok {a : St} (ha : a.Ok) : a.minus1.Ok := by
  obtain ⟨h1, h2, h3, h4, h5, h6⟩ := ha
  exact ⟨h1, h2, h3, h4, h5, Nat.xor_lt_two_pow (n := 5) h6 (by decide)⟩
theorem runStep_ok {s : St} {a : Nat} (hs : s.Ok) (ha : a < 32) : (runStep s a).Ok := by
  obtain ⟨h1, h2, h3, h4, h5, h6⟩ := hs
  exact ⟨Nat.xor_lt_two_pow (n := 5) (tab_lt29 _ h1) h2, Nat.xor_lt_two_pow (n := 5) (tab_lt22 _ h1) h3, Nat.xor_lt_two_pow (n := 5) (tab_lt20 _ h1) h4, Nat.xor_lt_two_pow (n := 5) (tab_lt21 _ h1) h5, Nat.xor_lt_two_pow (n := 5) (tab_lt29 _ h1) h6, Nat.xor_lt_two_pow (n := 5) (tab_lt18 _ h1) ha⟩
theorem run_ok : ∀ (vs : List Nat) {s : St}, s.Ok → (∀ x ∈ vs, x < 32) → (run s vs).Ok
  | [], _, h, _ => h
  | v :: r, s, h, hx => run_ok r (s := runStep s v) (runStep_ok h (hx v (.head _))) fun x h => hx x (.tail _ h)
theorem natsI_ok {xs : List Nat} (h : ∀ x ∈ xs, x < 32) : ∀ x ∈ natsI xs, 0 ≤ x ∧ x < 32 := by
  intro x hx
  obtain ⟨a, ha, rfl⟩ := List.mem_map.mp hx
  have := h a ha
  exact ⟨Int.natCast_nonneg a, Int.ofNat_lt.mpr this⟩
theorem natsI_take (xs : List Nat) (f : Nat) : List.take ((f : Int)).toNat (natsI xs) = natsI (xs.take f) := by
  simp only [natsI, Int.toNat_natCast, List.map_take]
theorem natsI_drop (xs : List Nat) (f : Nat) : List.drop ((f : Int)).toNat (natsI xs) = natsI (xs.drop f) := by
  simp only [natsI, Int.toNat_natCast, List.map_drop]
theorem natsI_mid (xs : List Nat) (f g : Nat) (hg : g ≤ xs.length) : List.take (min ((g : Int)).toNat (natsI xs).length - ((f : Int)).toNat) (List.drop ((f : Int)).toNat (natsI xs)) = natsI ((xs.drop f).take (g - f)) := by
  simp only [natsI, Int.toNat_natCast, List.map_drop, List.map_take, List.length_map]
  rw [Nat.min_eq_left hg]
abbrev stBody : Stmt → List Stmt
  | .FunctionDef _ _ b _ _ _ _ _ _ _ => b
  | _ => []
abbrev stScope : Stmt → Scope
  | .FunctionDef _ _ _ _ _ _ sc _ _ _ => sc
  | _ => default
abbrev lawSt (p : Program) : Stmt := (p.main.body.getLast?).getD (Stmt.Pass default)
abbrev forBody : Stmt → List Stmt
  | .For _ _ b _ _ => b
  | _ => []
abbrev lawBody (p : Program) : List Stmt := stBody (lawSt p)
abbrev lawEnv (p : Program) (L fa : Addr) (cd : Value) : Env := envOfC "law" (stScope (lawSt p)) L fa cd

section
variable {prog : Program} {w : World} {K : Frag} {p : Program} {loose : List Str} {mean : ExcName → Option Value} {mg mb : Str → Option Value} {f : Addr} {dp un : Nat} {gd : Option (List Code)} {cn : Str} {cs : Scope} {a : Addr} {ccd : Value} {cl : List (Str × Addr)} {outer : List Env} {A₀ : Around} {base h₀ : Heap} {L : Addr} {m : Str → Option Value} {news : List (Addr × Obj)} {s : Shared}
  {Q E : Value → Shared → Prop}
theorem poly_use {l : Addr} {vs : List Value} {n : Nat} {xs : List Nat} (B : Below A₀ base outer h₀) (F : Fr h₀ L s.heap m) (X : K.In h₀) (N : News h₀ L s.heap news) (T : Top p loose mean mg mb h₀) (hk : cs.kind = .function)
    (hm : (l, listOf vs.toArray n) ∈ news) (hi : IntsAre vs (natsI xs)) (hx : ∀ x ∈ xs, x < 32) (hl : xs.length ≤ 900) (C : ∀ d, TellsN prog w K p loose mean mg mb f cPoly d) (hd : dp + 1 < recursionLimit) (hu : un + 8 * 1 < cLine)
    (ret : ∀ t h' tk', Fr h₀ L h' m → News h₀ L h' news → Q (.int (polyN xs : Nat) t) { s with heap := h', toks := tk' }) :
    wpAny (model prog w) (ktrTop dp un gd cn cs L a ccd cl outer) (call (.ref f) [.ref l]) Q E s := by
  refine tellsN_use (c := cPoly) (d := ⟨l, vs, natsI xs, n⟩) B F X N T hk ⟨rfl, hm, hi⟩ (C _) ⟨natsI_ok hx, by simp [natsI]; omega⟩ hd hu ?_
  rintro r tl h' tk' F' N' - rfl ⟨t, rfl⟩
  rw [natsI_toNat]
  exact ret t h' tk' F' (by rw [List.append_nil] at N'; exact N')
theorem list_use {D : Type} {c : ToldN D} {d : D} {vs : List Value} {R : List Nat → Prop} (B : Below A₀ base outer h₀) (F : Fr h₀ L s.heap m) (X : K.In h₀) (N : News h₀ L s.heap news) (T : Top p loose mean mg mb h₀) (hk : cs.kind = .function)
    (hR : c.Rel news vs d) (C : ∀ d, TellsN prog w K p loose mean mg mb f c d) (ok : c.Ok d) (hs : c.size d = 1) (hTl : ∀ tl, c.Tl tl → ∃ q, tl = [q]) (hOut : ∀ all r, c.Out all r d → LastNats all r R) (hd : dp + 1 < recursionLimit) (hu : un + 8 * 1 < cLine)
    (ret : ∀ l us nn xs h' tk', R xs → IntsAre us (natsI xs) → Fr h₀ L h' m → News h₀ L h' ((l, listOf us.toArray nn) :: news) → (∀ q ∈ news, q.1 < l) → Q (.ref l) { s with heap := h', toks := tk' }) :
    wpAny (model prog w) (ktrTop dp un gd cn cs L a ccd cl outer) (call (.ref f) vs) Q E s := by
  refine tellsN_use (c := c) (d := d) B F X N T hk hR (C _) ok (by rw [hs]; exact hd) (by rw [hs]; exact hu) ?_
  intro r tl h' tk' F' N' ho ht hO
  obtain ⟨l, us, nn, xs, rfl, N10, hlt, hI, hRx⟩ := last_ret N' ho (hTl _ ht) (hOut _ _ hO)
  exact ret l us nn xs h' tk' hRx hI F' N10 hlt
theorem run_use {ls lv lt : Addr} {sus vus : List Value} {sn vn : Nat} {st : St} {xs : List Nat} (B : Below A₀ base outer h₀) (F : Fr h₀ L s.heap m) (X : K.In h₀) (N : News h₀ L s.heap news) (T : Top p loose mean mg mb h₀) (hk : cs.kind = .function)
    (hms : (ls, listOf sus.toArray sn) ∈ news) (his : IntsAre sus (natsI st.list)) (hmv : (lv, listOf vus.toArray vn) ∈ news) (hiv : IntsAre vus (natsI xs)) (ht : TabsAt news lt) (hst : st.Ok) (hx : ∀ x ∈ xs, x < 32) (hl : xs.length ≤ 1000) (C : ∀ d, TellsN prog w K p loose mean mg mb f cRun d) (hd : dp + 1 < recursionLimit) (hu : un + 8 * 1 < cLine)
    (ret : ∀ l us nn h' tk', IntsAre us (natsI (run st xs).list) → Fr h₀ L h' m → News h₀ L h' ((l, listOf us.toArray nn) :: news) → (∀ q ∈ news, q.1 < l) → Q (.ref l) { s with heap := h', toks := tk' }) :
    wpAny (model prog w) (ktrTop dp un gd cn cs L a ccd cl outer) (call (.ref f) [.ref ls, .ref lv, .ref lt]) Q E s :=
  list_use (c := cRun) (d := ⟨ls, lv, lt, st, xs⟩) (R := fun ys => ys = (run st xs).list) B F X N T hk ⟨rfl, ⟨_, _, hms, his⟩, ⟨_, _, hmv, hiv⟩, ht⟩ C ⟨hst, hx, hl⟩ rfl (fun _ h => h) (fun _ _ h => h) hd hu (fun l us nn ys h' tk' e hI F' N' hlt => ret l us nn h' tk' (e ▸ hI) F' N' hlt)
theorem dig_use {n most : Int} {t0 t1 t2 : Tok} (B : Below A₀ base outer h₀) (F : Fr h₀ L s.heap m) (X : K.In h₀) (N : News h₀ L s.heap news) (T : Top p loose mean mg mb h₀) (hk : cs.kind = .function)
    (hlo : 1 ≤ most) (hhi : most ≤ 64) (C : ∀ d, TellsN prog w K p loose mean mg mb f cDig d) (hd : dp + 1 < recursionLimit) (hu : un + 8 * 1 < cLine)
    (ret : ∀ l us nn xs h' tk', (∀ x ∈ xs, x < 32) → 1 ≤ xs.length → (xs.length : Int) ≤ most → IntsAre us (natsI xs) → Fr h₀ L h' m → News h₀ L h' ((l, listOf us.toArray nn) :: news) → (∀ q ∈ news, q.1 < l) → Q (.ref l) { s with heap := h', toks := tk' }) :
    wpAny (model prog w) (ktrTop dp un gd cn cs L a ccd cl outer) (call (.ref f) [.int n t0, .int 32 t1, .int most t2]) Q E s :=
  list_use (c := cDig) (d := (n, most)) (R := fun xs => (∀ x ∈ xs, x < 32) ∧ 1 ≤ xs.length ∧ (xs.length : Int) ≤ most) B F X N T hk ⟨_, _, _, rfl⟩ C ⟨hlo, hhi⟩ rfl (fun _ h => h) (fun _ _ h => h) hd hu (fun l us nn xs h' tk' e hI F' N' hlt => ret l us nn xs h' tk' e.1 e.2.1 e.2.2 hI F' N' hlt)
end
theorem TabsAt.mono {news news' : List (Addr × Obj)} {lt : Addr} (h : TabsAt news lt) (hs : ∀ p ∈ news, p ∈ news') : TabsAt news' lt := by
  obtain ⟨a1, a2, a3, a4, a5, nn, h0, h1, h2, h3, h4, h5⟩ := h
  exact ⟨a1, a2, a3, a4, a5, nn, hs _ h0, h1.mono hs, h2.mono hs, h3.mono hs, h4.mono hs, h5.mono hs⟩

theorem minus1_list (s : St) : List.take (Int.toNat 5) (natsI s.list) ++ [Builtin.bitXor ((s.list.getD 5 0 : Nat) : Int) 1] = natsI s.minus1.list := by
  have e : Builtin.bitXor ((s.list.getD 5 0 : Nat) : Int) 1 = ((s.z ^^^ 1 : Nat) : Int) := xorN s.z 1
  rw [e]; rfl
theorem zeros_list (k : Nat) (n : Int) (h : n = (k : Int)) : (List.replicate n.toNat [(0 : Int)]).flatten = natsI (List.replicate k 0) := by
  subst h
  rw [Int.toNat_natCast, List.flatten_replicate_singleton]
  simp [natsI]
theorem zeros_lt (k : Nat) : ∀ x ∈ List.replicate k 0, x < 32 := by
  intro x hx
  rw [List.eq_of_mem_replicate hx]; decide

theorem digv (a t n : Nat) : Builtin.bitXor (a : Int) (((t : Int).fdiv (32 ^ n)).fmod 32) = ((a ^^^ (t / 32 ^ n % 32) : Nat) : Int) := by
  have h1 : (t : Int).fdiv (32 ^ n) = ((t / 32 ^ n : Nat) : Int) := by
    rw [Int.fdiv_eq_ediv_of_nonneg _ (Int.pow_nonneg (by decide))]
    simp
  rw [h1, fmodN, xorN]
theorem intsCons {a b : Int} {t : Tok} {vs : List Value} {ns : List Int} (h : a = b) (r : IntsAre vs ns) : IntsAre (.int a t :: vs) (b :: ns) := h ▸ .cons a t r

theorem off1_mem {D : Addr} : ∀ {l : List (Addr × Obj)}, LCg.Off1 D l → ∀ p ∈ l, p.1 ≠ D
  | [], _, _, h => nomatch h
  | _ :: _, x, p, h => by
    rcases List.mem_cons.mp h with rfl | h
    · exact x.1
    · exact off1_mem x.2 p h
theorem pieceStep_ok {s : St} {p : List Nat} (h : s.Ok) : (pieceStep s p).Ok := xor_ok (run_ok _ (minus1_ok h) (zeros_lt _)) (digs_ok _)
theorem gt2 {a b : Addr} (h : a + 1 + 1 < b) : b ≠ a + 1 + 1 ∧ b ≠ a + 1 := ⟨Nat.ne_of_gt h, Nat.ne_of_gt (Nat.lt_of_succ_lt h)⟩
structure RowC where
  rl : Addr
  us : List Value
  nn : Nat
  xs : List Nat
def ListGot (h₀ : Heap) (L : Addr) (m : Str → Option Value) (led : List (Addr × Obj)) (s : Shared) (B : Nat) (v : Value) (s' : Shared) : Prop :=
  ∃ l us nn ns h' tk', v = .ref l ∧ s' = { s with heap := h', toks := tk' } ∧ Fr h₀ L h' m ∧ News h₀ L h' ((l, listOf us.toArray nn) :: led) ∧ (∀ p ∈ led, p.1 < l) ∧ IntsAre us ns ∧ ns.length ≤ B
theorem cutList {M : Model} {A : Around} {t : Sem Value} {Q E : Value → Shared → Prop} {h₀ : Heap} {L : Addr} {m : Str → Option Value} {led : List (Addr × Obj)} {s : Shared} (_F : Fr h₀ L s.heap m) (_N : News h₀ L s.heap led) (B : Nat)
    (h : wpAny M A t (ListGot h₀ L m led s B) E s) (k : ∀ v s', ListGot h₀ L m led s B v s' → Q v s') : wpAny M A t Q E s := wpAny_mono h k (fun _ _ x => x)

end
theorem ints_at {us : List Value} {ns : List Int} (h : IntsAre us ns) : ∀ {i : Nat} {v : Value}, us[i]? = some v → ∃ n t, v = .int n t := by
  induction h with
  | nil => intro i v h; simp at h
  | cons n t r ih =>
    intro i v h
    cases i with
    | zero => exact ⟨n, t, (Option.some.inj h).symm⟩
    | succ i => exact ih h
def POW : List Nat := [1, 2, 4, 8, 16, 9, 18, 13, 26, 29, 19, 15, 30, 21, 3, 6, 12, 24, 25, 27, 31, 23, 7, 14, 28, 17, 11, 22, 5, 10, 20]
def LOG : List Nat := [0, 0, 1, 14, 2, 28, 15, 22, 3, 5, 29, 26, 16, 7, 23, 11, 4, 25, 6, 10, 30, 13, 27, 21, 17, 18, 8, 19, 24, 9, 12, 20]
theorem POW_len : POW.length = 31 := rfl
theorem LOG_len : LOG.length = 32 := rfl
def raisedN (a p : Nat) : Nat := if a = 0 then 0 else POW.getD (LOG.getD a 0 * p % 31) 0
abbrev cConst (xs : List Nat) : ToldN Unit where
  Rel := fun _ vs _ => vs = []
  Ok := fun _ => True
  size := fun _ => 1
  Tl := fun tl => ∃ q, tl = [q]
  Out := fun news r _ => LastNats news r (fun ys => ys = xs)
abbrev cRaised : ToldN (Nat × Nat) where
  Rel := fun _ vs d => ∃ t0 t1, vs = [.int d.1 t0, .int d.2 t1]
  Ok := fun d => d.1 < 32 ∧ d.2 ≤ 16
  size := fun _ => 2
  Tl := fun tl => tl = []
  Out := fun _ r d => ∃ t, r = .int (raisedN d.1 d.2 : Nat) t
theorem natsI_getD (xs : List Nat) (k : Nat) : (natsI xs).getD k 0 = ((xs.getD k 0 : Nat) : Int) := by
  simp only [natsI, List.getD_eq_getElem?_getD, List.getElem?_map]
  cases xs[k]? <;> rfl
theorem St.ext' {a b : St} (h1 : a.u = b.u) (h2 : a.v = b.v) (h3 : a.w = b.w) (h4 : a.x = b.x) (h5 : a.y = b.y) (h6 : a.z = b.z) : a = b := by
  cases a; cases b; simp_all
theorem dig_xor (a b k : Nat) : (a ^^^ b) / 32 ^ k % 32 = (a / 32 ^ k % 32) ^^^ (b / 32 ^ k % 32) := by
  have e : (32 : Nat) ^ k = 2 ^ (5 * k) := by rw [show (32 : Nat) = 2 ^ 5 from rfl, ← Nat.pow_mul]
  rw [e, Nat.xor_div_two_pow, show (32 : Nat) = 2 ^ 5 from rfl, Nat.xor_mod_two_pow]
theorem digs_xor (a b : Nat) : digs (a ^^^ b) = (digs a).xor (digs b) := by
  refine St.ext' ?_ ?_ ?_ ?_ ?_ ?_ <;> exact dig_xor _ _ _
def genT (t : Nat) : Nat := gen5 t 0 ^^^ gen5 t 1 ^^^ gen5 t 2 ^^^ gen5 t 3 ^^^ gen5 t 4
theorem digs_gen : ∀ t, t < 32 → digs (genT t) = ⟨tab 29 t, tab 22 t, tab 20 t, tab 21 t, tab 29 t, tab 18 t⟩ := by
  have h : ∀ t, t < 32 → (digs (genT t)).list = [tab 29 t, tab 22 t, tab 20 t, tab 21 t, tab 29 t, tab 18 t] := by decide +kernel
  intro t ht
  have := h t ht
  simp only [St.list, List.cons.injEq, and_true] at this
  obtain ⟨h1, h2, h3, h4, h5, h6⟩ := this
  exact St.ext' h1 h2 h3 h4 h5 h6
theorem polyStep_eq (c v : Nat) : polyStep c v = (((c &&& 33554431) <<< 5) ^^^ v) ^^^ genT (c >>> 25) := by
  simp only [polyStep, List.foldl, genT, Nat.xor_assoc]
theorem digs_shift (c : Nat) (h : c < 2 ^ 30) : digs ((c &&& 33554431) <<< 5) = ⟨(digs c).v, (digs c).w, (digs c).x, (digs c).y, (digs c).z, 0⟩ := by
  rw [show (33554431 : Nat) = 2 ^ 25 - 1 from rfl, Nat.and_two_pow_sub_one_eq_mod, Nat.shiftLeft_eq]
  refine St.ext' ?_ ?_ ?_ ?_ ?_ ?_ <;> simp only [digs] <;> omega
theorem digs_small (v : Nat) (h : v < 32) : digs v = ⟨0, 0, 0, 0, 0, v⟩ := by
  refine St.ext' ?_ ?_ ?_ ?_ ?_ ?_ <;> simp only [digs] <;> omega
theorem digs_step (c v : Nat) (h : c < 2 ^ 30) (hv : v < 32) : digs (polyStep c v) = runStep (digs c) v := by
  rw [polyStep_eq, digs_xor, digs_xor, digs_shift c h, digs_small v hv]
  have ht : c >>> 25 = (digs c).u := by rw [Nat.shiftRight_eq_div_pow]; simp only [digs]; omega
  rw [ht, digs_gen _ (by simp only [digs]; omega)]
  simp only [St.xor, runStep, Nat.xor_zero, Nat.zero_xor]
  refine St.ext' ?_ ?_ ?_ ?_ ?_ ?_ <;> first | exact Nat.xor_comm _ _ 
theorem digs_fold : ∀ (vs : List Nat) (c : Nat), c < 2 ^ 30 → (∀ x ∈ vs, x < 32) → digs (vs.foldl polyStep c) = run (digs c) vs
  | [], _, _, _ => rfl
  | v :: r, c, h, hx => by
    show digs (r.foldl polyStep (polyStep c v)) = run (runStep (digs c) v) r
    rw [digs_fold r _ (polyStep_lt c v (hx v (.head _))) (fun x h => hx x (.tail _ h)), digs_step c v h (hx v (.head _))]
theorem digs_polyN (vs : List Nat) (hx : ∀ x ∈ vs, x < 32) : digs (polyN vs) = run ⟨0, 0, 0, 0, 0, 1⟩ vs := by
  rw [polyN, digs_fold vs 1 (by decide) hx]; rfl
def num (s : St) : Nat := s.list.foldl (fun d x => 32 * d + x) 0
theorem num_digs (c : Nat) (h : c < 2 ^ 30) : num (digs c) = c := by
  simp only [num, St.list, digs, List.foldl]; omega
theorem polyN_num (vs : List Nat) (hx : ∀ x ∈ vs, x < 32) : polyN vs = num (run ⟨0, 0, 0, 0, 0, 1⟩ vs) := by
  rw [← digs_polyN vs hx, num_digs _ (polyN_lt vs hx)]
theorem tab_add29 : ∀ i, i < 32 → ∀ j, j < 32 → tab 29 (i ^^^ j) = tab 29 i ^^^ tab 29 j := by
  have h : byTab 29 = (byTab 29) := rfl
  decide +kernel
theorem tab_add22 : ∀ i, i < 32 → ∀ j, j < 32 → tab 22 (i ^^^ j) = tab 22 i ^^^ tab 22 j := by decide +kernel
theorem tab_add20 : ∀ i, i < 32 → ∀ j, j < 32 → tab 20 (i ^^^ j) = tab 20 i ^^^ tab 20 j := by decide +kernel
theorem tab_add21 : ∀ i, i < 32 → ∀ j, j < 32 → tab 21 (i ^^^ j) = tab 21 i ^^^ tab 21 j := by decide +kernel
theorem tab_add18 : ∀ i, i < 32 → ∀ j, j < 32 → tab 18 (i ^^^ j) = tab 18 i ^^^ tab 18 j := by decide +kernel
theorem xor4 (a b c d : Nat) : (a ^^^ b) ^^^ (c ^^^ d) = (a ^^^ c) ^^^ (b ^^^ d) := by
  rw [Nat.xor_assoc, Nat.xor_assoc, ← Nat.xor_assoc b, Nat.xor_comm b c, Nat.xor_assoc c]
theorem runStep_xor {a b : St} (ha : a.Ok) (hb : b.Ok) (v w : Nat) : runStep (a.xor b) (v ^^^ w) = (runStep a v).xor (runStep b w) := by
  simp only [runStep, St.xor]
  rw [tab_add29 _ ha.1 _ hb.1, tab_add22 _ ha.1 _ hb.1, tab_add20 _ ha.1 _ hb.1, tab_add21 _ ha.1 _ hb.1, tab_add18 _ ha.1 _ hb.1]
  refine St.ext' ?_ ?_ ?_ ?_ ?_ ?_ <;> exact xor4 _ _ _ _
theorem run_split : ∀ (p : List Nat) {a b : St}, a.Ok → b.Ok → (∀ x ∈ p, x < 32) → run (a.xor b) p = (run a (List.replicate p.length 0)).xor (run b p)
  | [], _, _, _, _, _ => rfl
  | v :: r, a, b, ha, hb, hx => by
    show run (runStep (a.xor b) v) r = (run (runStep a 0) (List.replicate r.length 0)).xor (run (runStep b v) r)
    have hv := hx v (.head _)
    rw [← run_split r (runStep_ok ha (by decide)) (runStep_ok hb hv) (fun x h => hx x (.tail _ h)), ← runStep_xor ha hb, Nat.zero_xor]
theorem pieceStep_run {s : St} (h : s.Ok) (p : List Nat) (hx : ∀ x ∈ p, x < 32) : pieceStep s p = run s p := by
  have h1 : (St.mk 0 0 0 0 0 1).Ok := by show _ ∧ _; decide
  rw [pieceStep, digs_polyN p hx, ← run_split p (minus1_ok h) h1 hx]
  congr 1
  refine St.ext' ?_ ?_ ?_ ?_ ?_ ?_ <;> simp [St.xor, St.minus1, Nat.xor_assoc]
theorem run_append (s : St) (a b : List Nat) : run s (a ++ b) = run (run s a) b := List.foldl_append
def stt (pcs : List (List Nat)) (i : Nat) : St := (pcs.take i).foldl pieceStep ⟨0, 0, 0, 0, 0, 1⟩
theorem st0_ok : (St.mk 0 0 0 0 0 1).Ok := by show _ ∧ _; decide
theorem plain3 (xs : List Nat) (f g la : Nat) (hx : ∀ x ∈ xs, x < 32) (hfg : f ≤ g) (hgl : g ≤ xs.length) (hla : la < 32) :
    polyN (xs ++ [la]) = (run (stt [xs.take f, (xs.drop f).take (g - f), xs.drop g] 3) [la]).list.foldl (fun d x => 32 * d + x) 0 := by
  have hxf : ∀ x ∈ xs.take f, x < 32 := fun x h => hx x (List.mem_of_mem_take h)
  have hxm : ∀ x ∈ (xs.drop f).take (g - f), x < 32 := fun x h => hx x (List.mem_of_mem_drop (List.mem_of_mem_take h))
  have hxd : ∀ x ∈ xs.drop g, x < 32 := fun x h => hx x (List.mem_of_mem_drop h)
  rw [polyN_num _ (fun x h => (List.mem_append.mp h).elim (hx x) (fun h => by rw [List.mem_singleton.mp h]; exact hla))]
  show num _ = num _
  congr 1
  rw [run_append]
  congr 1
  show _ = pieceStep (pieceStep (pieceStep _ _) _) _
  rw [pieceStep_run st0_ok _ hxf, pieceStep_run (run_ok _ st0_ok hxf) _ hxm, ← run_append, pieceStep_run (run_ok _ st0_ok (fun x h => (List.mem_append.mp h).elim (hxf x) (hxm x))) _ hxd, ← run_append]
  congr 1
  have e : xs.drop g = (xs.drop f).drop (g - f) := by rw [List.drop_drop]; congr 1; omega
  rw [List.append_assoc, e, List.take_append_drop, List.take_append_drop]
abbrev sq (a : Nat) : Nat := raisedN a 2
abbrev rt (a : Nat) : Nat := raisedN a 16
def St.O : St := ⟨0, 0, 0, 0, 0, 0⟩
def St.I : St := ⟨0, 0, 0, 0, 0, 1⟩
theorem O_ok : St.O.Ok := by show _ ∧ _; decide
theorem I_ok : St.I.Ok := by show _ ∧ _; decide
def il (h l : St) : List Nat := [sq h.u, sq l.u, sq h.v, sq l.v, sq h.w, sq l.w, sq h.x, sq l.x, sq h.y, sq l.y, sq h.z, sq l.z]
def Phi (h l : St) : St := run St.O (il h l)
theorem sq_lt : ∀ a, a < 32 → sq a < 32 := by decide +kernel
theorem rt_lt : ∀ a, a < 32 → rt a < 32 := by decide +kernel
theorem sq_rt : ∀ a, a < 32 → sq (rt a) = a := by decide +kernel
theorem sq_add : ∀ i, i < 32 → ∀ j, j < 32 → sq (i ^^^ j) = sq i ^^^ sq j := by decide +kernel
theorem St.of_list {a b : St} (h : a.list = b.list) : a = b := by
  simp only [St.list, List.cons.injEq, and_true] at h
  obtain ⟨h1, h2, h3, h4, h5, h6⟩ := h
  exact St.ext' h1 h2 h3 h4 h5 h6
theorem il_lt {h l : St} (hh : h.Ok) (hl : l.Ok) : ∀ x ∈ il h l, x < 32 := by
  obtain ⟨a1, a2, a3, a4, a5, a6⟩ := hh
  obtain ⟨b1, b2, b3, b4, b5, b6⟩ := hl
  simp only [il, List.forall_mem_cons]
  exact ⟨sq_lt _ a1, sq_lt _ b1, sq_lt _ a2, sq_lt _ b2, sq_lt _ a3, sq_lt _ b3, sq_lt _ a4, sq_lt _ b4, sq_lt _ a5, sq_lt _ b5, sq_lt _ a6, sq_lt _ b6, List.forall_mem_nil _⟩
theorem Phi_ok {h l : St} (hh : h.Ok) (hl : l.Ok) : (Phi h l).Ok := run_ok _ O_ok (il_lt hh hl)
theorem run_zip : ∀ (p q : List Nat) {a b : St}, a.Ok → b.Ok → (∀ x ∈ p, x < 32) → (∀ x ∈ q, x < 32) → p.length = q.length → run (a.xor b) (List.zipWith (· ^^^ ·) p q) = (run a p).xor (run b q)
  | [], [], _, _, _, _, _, _, _ => rfl
  | v :: r, w :: t, a, b, ha, hb, hx, hy, hl => by
    show run (runStep (a.xor b) (v ^^^ w)) (List.zipWith (· ^^^ ·) r t) = (run (runStep a v) r).xor (run (runStep b w) t)
    rw [runStep_xor ha hb, run_zip r t (runStep_ok ha (hx v (.head _))) (runStep_ok hb (hy w (.head _))) (fun x h => hx x (.tail _ h)) (fun x h => hy x (.tail _ h)) (by simpa using hl)]
theorem Phi_xor {h l h' l' : St} (a : h.Ok) (b : l.Ok) (c : h'.Ok) (d : l'.Ok) : Phi (h.xor h') (l.xor l') = (Phi h l).xor (Phi h' l') := by
  have e := run_zip (il h l) (il h' l') O_ok O_ok (il_lt a b) (il_lt c d) rfl
  rw [show St.O.xor St.O = St.O from rfl] at e
  rw [Phi, Phi, Phi, ← e]
  obtain ⟨a1, a2, a3, a4, a5, a6⟩ := a
  obtain ⟨b1, b2, b3, b4, b5, b6⟩ := b
  obtain ⟨c1, c2, c3, c4, c5, c6⟩ := c
  obtain ⟨d1, d2, d3, d4, d5, d6⟩ := d
  simp only [il, St.xor, List.zipWith]
  rw [sq_add _ a1 _ c1, sq_add _ a2 _ c2, sq_add _ a3 _ c3, sq_add _ a4 _ c4, sq_add _ a5 _ c5, sq_add _ a6 _ c6, sq_add _ b1 _ d1, sq_add _ b2 _ d2, sq_add _ b3 _ d3, sq_add _ b4 _ d4, sq_add _ b5 _ d5, sq_add _ b6 _ d6]
/-- two zero steps of the whole against one zero step of each half -/
def StepAt (h l : St) : Prop := run (Phi h l) [0, 0] = Phi (runStep h 0) (runStep l 0)
theorem StepAt.xor {h l h' l' : St} (a : h.Ok) (b : l.Ok) (c : h'.Ok) (d : l'.Ok) (p : StepAt h l) (q : StepAt h' l') : StepAt (h.xor h') (l.xor l') := by
  unfold StepAt at *
  rw [Phi_xor a b c d]
  have e := run_zip [0, 0] [0, 0] (Phi_ok a b) (Phi_ok c d) (by decide) (by decide) rfl
  rw [show List.zipWith (· ^^^ ·) [0, 0] [0, 0] = [0, 0] from rfl] at e
  rw [e, p, q, ← Phi_xor (runStep_ok a (by decide)) (runStep_ok b (by decide)) (runStep_ok c (by decide)) (runStep_ok d (by decide))]
  rw [← runStep_xor a c 0 0, ← runStep_xor b d 0 0]
  rfl
theorem sH1 : ∀ a, a < 32 → (run (Phi ⟨a, 0, 0, 0, 0, 0⟩ St.O) [0, 0]).list = (Phi (runStep ⟨a, 0, 0, 0, 0, 0⟩ 0) (runStep St.O 0)).list := by decide +kernel
theorem sH2 : ∀ a, a < 32 → (run (Phi ⟨0, a, 0, 0, 0, 0⟩ St.O) [0, 0]).list = (Phi (runStep ⟨0, a, 0, 0, 0, 0⟩ 0) (runStep St.O 0)).list := by decide +kernel
theorem sH3 : ∀ a, a < 32 → (run (Phi ⟨0, 0, a, 0, 0, 0⟩ St.O) [0, 0]).list = (Phi (runStep ⟨0, 0, a, 0, 0, 0⟩ 0) (runStep St.O 0)).list := by decide +kernel
theorem sH4 : ∀ a, a < 32 → (run (Phi ⟨0, 0, 0, a, 0, 0⟩ St.O) [0, 0]).list = (Phi (runStep ⟨0, 0, 0, a, 0, 0⟩ 0) (runStep St.O 0)).list := by decide +kernel
theorem sH5 : ∀ a, a < 32 → (run (Phi ⟨0, 0, 0, 0, a, 0⟩ St.O) [0, 0]).list = (Phi (runStep ⟨0, 0, 0, 0, a, 0⟩ 0) (runStep St.O 0)).list := by decide +kernel
theorem sH6 : ∀ a, a < 32 → (run (Phi ⟨0, 0, 0, 0, 0, a⟩ St.O) [0, 0]).list = (Phi (runStep ⟨0, 0, 0, 0, 0, a⟩ 0) (runStep St.O 0)).list := by decide +kernel
theorem sL1 : ∀ a, a < 32 → (run (Phi St.O ⟨a, 0, 0, 0, 0, 0⟩) [0, 0]).list = (Phi (runStep St.O 0) (runStep ⟨a, 0, 0, 0, 0, 0⟩ 0)).list := by decide +kernel
theorem sL2 : ∀ a, a < 32 → (run (Phi St.O ⟨0, a, 0, 0, 0, 0⟩) [0, 0]).list = (Phi (runStep St.O 0) (runStep ⟨0, a, 0, 0, 0, 0⟩ 0)).list := by decide +kernel
theorem sL3 : ∀ a, a < 32 → (run (Phi St.O ⟨0, 0, a, 0, 0, 0⟩) [0, 0]).list = (Phi (runStep St.O 0) (runStep ⟨0, 0, a, 0, 0, 0⟩ 0)).list := by decide +kernel
theorem sL4 : ∀ a, a < 32 → (run (Phi St.O ⟨0, 0, 0, a, 0, 0⟩) [0, 0]).list = (Phi (runStep St.O 0) (runStep ⟨0, 0, 0, a, 0, 0⟩ 0)).list := by decide +kernel
theorem sL5 : ∀ a, a < 32 → (run (Phi St.O ⟨0, 0, 0, 0, a, 0⟩) [0, 0]).list = (Phi (runStep St.O 0) (runStep ⟨0, 0, 0, 0, a, 0⟩ 0)).list := by decide +kernel
theorem sL6 : ∀ a, a < 32 → (run (Phi St.O ⟨0, 0, 0, 0, 0, a⟩) [0, 0]).list = (Phi (runStep St.O 0) (runStep ⟨0, 0, 0, 0, 0, a⟩ 0)).list := by decide +kernel
theorem split6 (s : St) : s = (St.mk s.u 0 0 0 0 0).xor ((St.mk 0 s.v 0 0 0 0).xor ((St.mk 0 0 s.w 0 0 0).xor ((St.mk 0 0 0 s.x 0 0).xor ((St.mk 0 0 0 0 s.y 0).xor (St.mk 0 0 0 0 0 s.z))))) := by
  refine St.ext' ?_ ?_ ?_ ?_ ?_ ?_ <;> simp [St.xor]
theorem xorO (s : St) : s.xor St.O = s := by
  refine St.ext' ?_ ?_ ?_ ?_ ?_ ?_ <;> simp [St.xor, St.O]
theorem Oxor (s : St) : St.O.xor s = s := by
  refine St.ext' ?_ ?_ ?_ ?_ ?_ ?_ <;> simp [St.xor, St.O]
theorem addH {h h' : St} (a : h.Ok) (c : h'.Ok) (p : StepAt h St.O) (q : StepAt h' St.O) : StepAt (h.xor h') St.O := by
  have e := StepAt.xor a O_ok c O_ok p q
  rwa [xorO] at e
theorem addL {h h' : St} (a : h.Ok) (c : h'.Ok) (p : StepAt St.O h) (q : StepAt St.O h') : StepAt St.O (h.xor h') := by
  have e := StepAt.xor O_ok a O_ok c p q
  rwa [xorO] at e
theorem stepH {h : St} (a : h.Ok) : StepAt h St.O := by
  obtain ⟨a1, a2, a3, a4, a5, a6⟩ := a
  have z : 0 < 32 := by decide
  have k1 : (St.mk h.u 0 0 0 0 0).Ok := ⟨a1, z, z, z, z, z⟩
  have k2 : (St.mk 0 h.v 0 0 0 0).Ok := ⟨z, a2, z, z, z, z⟩
  have k3 : (St.mk 0 0 h.w 0 0 0).Ok := ⟨z, z, a3, z, z, z⟩
  have k4 : (St.mk 0 0 0 h.x 0 0).Ok := ⟨z, z, z, a4, z, z⟩
  have k5 : (St.mk 0 0 0 0 h.y 0).Ok := ⟨z, z, z, z, a5, z⟩
  have k6 : (St.mk 0 0 0 0 0 h.z).Ok := ⟨z, z, z, z, z, a6⟩
  rw [split6 h]
  have q6 : StepAt ⟨0, 0, 0, 0, 0, h.z⟩ St.O := St.of_list (sH6 _ a6)
  have q5 := addH k5 k6 (St.of_list (sH5 _ a5)) q6
  have q4 := addH k4 (xor_ok k5 k6) (St.of_list (sH4 _ a4)) q5
  have q3 := addH k3 (xor_ok k4 (xor_ok k5 k6)) (St.of_list (sH3 _ a3)) q4
  have q2 := addH k2 (xor_ok k3 (xor_ok k4 (xor_ok k5 k6))) (St.of_list (sH2 _ a2)) q3
  exact addH k1 (xor_ok k2 (xor_ok k3 (xor_ok k4 (xor_ok k5 k6)))) (St.of_list (sH1 _ a1)) q2
theorem stepL {h : St} (a : h.Ok) : StepAt St.O h := by
  obtain ⟨a1, a2, a3, a4, a5, a6⟩ := a
  have z : 0 < 32 := by decide
  have k1 : (St.mk h.u 0 0 0 0 0).Ok := ⟨a1, z, z, z, z, z⟩
  have k2 : (St.mk 0 h.v 0 0 0 0).Ok := ⟨z, a2, z, z, z, z⟩
  have k3 : (St.mk 0 0 h.w 0 0 0).Ok := ⟨z, z, a3, z, z, z⟩
  have k4 : (St.mk 0 0 0 h.x 0 0).Ok := ⟨z, z, z, a4, z, z⟩
  have k5 : (St.mk 0 0 0 0 h.y 0).Ok := ⟨z, z, z, z, a5, z⟩
  have k6 : (St.mk 0 0 0 0 0 h.z).Ok := ⟨z, z, z, z, z, a6⟩
  rw [split6 h]
  have q6 : StepAt St.O ⟨0, 0, 0, 0, 0, h.z⟩ := St.of_list (sL6 _ a6)
  have q5 := addL k5 k6 (St.of_list (sL5 _ a5)) q6
  have q4 := addL k4 (xor_ok k5 k6) (St.of_list (sL4 _ a4)) q5
  have q3 := addL k3 (xor_ok k4 (xor_ok k5 k6)) (St.of_list (sL3 _ a3)) q4
  have q2 := addL k2 (xor_ok k3 (xor_ok k4 (xor_ok k5 k6))) (St.of_list (sL2 _ a2)) q3
  exact addL k1 (xor_ok k2 (xor_ok k3 (xor_ok k4 (xor_ok k5 k6)))) (St.of_list (sL1 _ a1)) q2
theorem step00 {h l : St} (a : h.Ok) (b : l.Ok) : StepAt h l := by
  have e := StepAt.xor a O_ok O_ok b (stepH a) (stepL b)
  rwa [xorO, Oxor] at e
theorem Phi_low (a b : Nat) (ha : a < 32) (hb : b < 32) : Phi ⟨0, 0, 0, 0, 0, rt a⟩ ⟨0, 0, 0, 0, 0, rt b⟩ = run St.O [a, b] := by
  have t0 : ∀ n, tab n 0 = 0 → True := fun _ _ => trivial
  have e : il ⟨0, 0, 0, 0, 0, rt a⟩ ⟨0, 0, 0, 0, 0, rt b⟩ = [0, 0, 0, 0, 0, 0, 0, 0, 0, 0, a, b] := by
    show [sq 0, sq 0, sq 0, sq 0, sq 0, sq 0, sq 0, sq 0, sq 0, sq 0, sq (rt a), sq (rt b)] = _
    rw [sq_rt a ha, sq_rt b hb]; rfl
  rw [Phi, e]
  show run (run St.O [0, 0, 0, 0, 0, 0, 0, 0, 0, 0]) [a, b] = _
  rw [show run St.O [0, 0, 0, 0, 0, 0, 0, 0, 0, 0] = St.O from St.of_list (by decide +kernel)]
theorem stepAB {h l : St} (x : h.Ok) (y : l.Ok) (a b : Nat) (ha : a < 32) (hb : b < 32) : run (Phi h l) [a, b] = Phi (runStep h (rt a)) (runStep l (rt b)) := by
  have z : 0 < 32 := by decide
  have e1 := run_zip [0, 0] [a, b] (Phi_ok x y) O_ok (by decide) (by simp [ha, hb]) rfl
  rw [show List.zipWith (· ^^^ ·) [0, 0] [a, b] = [a, b] by simp, xorO, step00 x y] at e1
  rw [e1, ← Phi_low a b ha hb]
  have k1 : (St.mk 0 0 0 0 0 (rt a)).Ok := ⟨z, z, z, z, z, rt_lt a ha⟩
  have k2 : (St.mk 0 0 0 0 0 (rt b)).Ok := ⟨z, z, z, z, z, rt_lt b hb⟩
  rw [← Phi_xor (runStep_ok x z) (runStep_ok y z) k1 k2]
  have ez : ∀ (s : St) (v : Nat), (runStep s 0).xor ⟨0, 0, 0, 0, 0, v⟩ = runStep s v := by
    intro s v
    refine St.ext' ?_ ?_ ?_ ?_ ?_ ?_ <;> simp [St.xor, runStep]
  rw [ez, ez]
def evN : List Nat → List Nat
  | [] => []
  | x :: xs => if xs.length % 2 = 0 then rt x :: evN xs else evN xs
def odN : List Nat → List Nat
  | [] => []
  | x :: xs => if xs.length % 2 = 1 then rt x :: odN xs else odN xs
theorem evN_lt : ∀ (xs : List Nat), (∀ x ∈ xs, x < 32) → ∀ x ∈ evN xs, x < 32
  | [], _, x, h => nomatch h
  | y :: r, hx, x, h => by
    rw [evN] at h
    split at h
    · rcases List.mem_cons.mp h with rfl | h
      · exact rt_lt _ (hx y (.head _))
      · exact evN_lt r (fun x h => hx x (.tail _ h)) x h
    · exact evN_lt r (fun x h => hx x (.tail _ h)) x h
theorem odN_lt : ∀ (xs : List Nat), (∀ x ∈ xs, x < 32) → ∀ x ∈ odN xs, x < 32
  | [], _, x, h => nomatch h
  | y :: r, hx, x, h => by
    rw [odN] at h
    split at h
    · rcases List.mem_cons.mp h with rfl | h
      · exact rt_lt _ (hx y (.head _))
      · exact odN_lt r (fun x h => hx x (.tail _ h)) x h
    · exact odN_lt r (fun x h => hx x (.tail _ h)) x h
theorem evN_len : ∀ (xs : List Nat), (evN xs).length = (xs.length + 1) / 2
  | [] => rfl
  | y :: r => by
    rw [evN]; split <;> simp only [List.length_cons, evN_len r] <;> omega
theorem odN_len : ∀ (xs : List Nat), (odN xs).length = xs.length / 2
  | [] => rfl
  | y :: r => by
    rw [odN]; split <;> simp only [List.length_cons, odN_len r] <;> omega
theorem pairs : ∀ (k : Nat) (xs : List Nat) {h l : St}, xs.length = 2 * k → h.Ok → l.Ok → (∀ x ∈ xs, x < 32) → run (Phi h l) xs = Phi (run h (odN xs)) (run l (evN xs))
  | 0, xs, h, l, e, _, _, _ => by
    rw [List.length_eq_zero_iff.mp e]; rfl
  | k + 1, xs, h, l, e, x, y, hx => by
    obtain ⟨a, b, r, rfl⟩ : ∃ a b r, xs = a :: b :: r := by
      rcases xs with _ | ⟨a, _ | ⟨b, r⟩⟩
      · simp at e
      · simp at e; omega
      · exact ⟨a, b, r, rfl⟩
    have hr : r.length = 2 * k := by simp at e; omega
    have ha := hx a (.head _)
    have hb := hx b (.tail _ (.head _))
    have e1 : evN (a :: b :: r) = rt b :: evN r := by
      rw [evN, if_neg (by simp; omega), evN, if_pos (by omega)]
    have e2 : odN (a :: b :: r) = rt a :: odN r := by
      rw [odN, if_pos (by simp; omega), odN, if_neg (by omega)]
    rw [e1, e2]
    show run (run (Phi h l) [a, b]) r = Phi (run (runStep h (rt a)) (odN r)) (run (runStep l (rt b)) (evN r))
    rw [stepAB x y a b ha hb]
    exact pairs k r hr (runStep_ok x (rt_lt a ha)) (runStep_ok y (rt_lt b hb)) (fun x h => hx x (.tail _ (.tail _ h)))
theorem run_front (p : List Nat) (hp : ∀ x ∈ p, x < 32) : (run St.I p).xor (run St.I (List.replicate p.length 0)) = run St.O p := by
  have e := run_split p I_ok O_ok hp
  rw [xorO] at e
  rw [e]
  refine St.ext' ?_ ?_ ?_ ?_ ?_ ?_ <;> simp only [St.xor] <;> rw [Nat.xor_comm, ← Nat.xor_assoc, Nat.xor_self, Nat.zero_xor]
def hiOf (xs : List Nat) : St := if xs.length % 2 = 0 then (digs (polyN (odN xs))).xor (run St.I (List.replicate ((xs.length + 1) / 2) 0)) else digs (polyN (odN xs))
def loOf (xs : List Nat) : St := if xs.length % 2 = 0 then digs (polyN (evN xs)) else (digs (polyN (evN xs))).xor (run St.I (List.replicate ((xs.length + 1) / 2) 0))
theorem digsI (vs : List Nat) (hx : ∀ x ∈ vs, x < 32) : digs (polyN vs) = run St.I vs := digs_polyN vs hx
theorem PhiOI : Phi St.O St.I = St.I := St.of_list (by decide +kernel)
theorem oneQ : ∀ b, b < 32 → (run St.I [b]).list = (Phi St.I (run St.O [rt b])).list := by decide +kernel
theorem halves (xs : List Nat) (hx : ∀ x ∈ xs, x < 32) : run St.I xs = Phi (hiOf xs) (loOf xs) := by
  have he := evN_lt xs hx
  have ho := odN_lt xs hx
  unfold hiOf loOf
  rw [digsI _ he, digsI _ ho]
  by_cases hn : xs.length % 2 = 0
  · rw [if_pos hn, if_pos hn]
    have e1 : (xs.length + 1) / 2 = (odN xs).length := by rw [odN_len]; omega
    rw [e1, run_front _ ho, ← pairs (xs.length / 2) xs (by omega) O_ok I_ok hx, PhiOI]
  · rw [if_neg hn, if_neg hn]
    have e1 : (xs.length + 1) / 2 = (evN xs).length := by rw [evN_len]
    rw [e1, run_front _ he]
    obtain ⟨b, r, rfl⟩ : ∃ b r, xs = b :: r := by
      rcases xs with _ | ⟨b, r⟩
      · exact absurd rfl hn
      · exact ⟨b, r, rfl⟩
    have hr : r.length % 2 = 0 := by simp at hn; omega
    have hb := hx b (.head _)
    have k : (run St.O [rt b]).Ok := run_ok _ O_ok (by simpa using rt_lt b hb)
    have e2 : evN (b :: r) = [rt b] ++ evN r := by rw [evN, if_pos hr]; rfl
    have e3 : odN (b :: r) = odN r := by rw [odN, if_neg (by omega)]
    rw [e2, e3, run_append, ← pairs (r.length / 2) r (by omega) I_ok k (fun x h => hx x (.tail _ h)), ← St.of_list (oneQ b hb), ← run_append]
    rfl
theorem plain2 (xs : List Nat) (hx : ∀ x ∈ xs, x < 32) : polyN xs = num (run St.O (il (hiOf xs) (loOf xs))) := by
  have e := polyN_num xs hx
  have h := halves xs hx
  unfold Phi at h
  rw [← h]
  exact e
theorem polyStep_small (c v : Nat) (h : c < 2 ^ 25) (hv : v < 32) : polyStep c v = 32 * c + v := by
  rw [polyStep_eq, Nat.shiftRight_eq_div_pow, Nat.div_eq_of_lt h, show genT 0 = 0 from rfl, Nat.xor_zero]
  rw [show (33554431 : Nat) = 2 ^ 25 - 1 from rfl, Nat.and_two_pow_sub_one_eq_mod, Nat.mod_eq_of_lt h]
  rw [Nat.shiftLeft_eq, Nat.mul_comm, show (2 : Nat) ^ 5 * c = 2 ^ 5 * c from rfl] 
  have hv' : v = v &&& (2 ^ 5 - 1) := by rw [Nat.and_two_pow_sub_one_eq_mod]; omega
  have hz : (2 ^ 5 * c) &&& v = 0 := by
    rw [hv', Nat.and_comm v, ← Nat.and_assoc, Nat.and_two_pow_sub_one_eq_mod, Nat.mul_mod_right, Nat.zero_and]
  have e := xor_and_add (2 ^ 5 * c) v
  rw [hz] at e
  omega
theorem plainFold : ∀ (xs : List Nat) (c k : Nat), xs.length + k ≤ 5 → c < 2 * 32 ^ k → (∀ x ∈ xs, x < 32) → xs.foldl polyStep c = xs.foldl (fun d x => 32 * d + x) c
  | [], _, _, _, _, _ => rfl
  | v :: r, c, k, hl, hc, hx => by
    have hv := hx v (.head _)
    have hk : k ≤ 4 := by simp at hl; omega
    have h25 : c < 2 ^ 25 := Nat.lt_of_lt_of_le hc (by
      have := Nat.pow_le_pow_right (by decide : 0 < 32) hk
      omega)
    show r.foldl polyStep (polyStep c v) = r.foldl _ (32 * c + v)
    rw [polyStep_small c v h25 hv]
    refine plainFold r _ (k + 1) (by simp at hl; omega) ?_ (fun x h => hx x (.tail _ h))
    rw [Nat.pow_succ]; omega
theorem plain5 (xs : List Nat) (hx : ∀ x ∈ xs, x < 32) (hl : xs.length ≤ 5) : polyN xs = xs.foldl (fun d x => 32 * d + x) 1 :=
  plainFold xs 1 0 (by omega) (by decide) hx
section
open PySem.Spec
variable {prog : Program} {w : World} {K : Frag} {p : Program} {loose : List Str} {mean : ExcName → Option Value} {mg mb : Str → Option Value} {f : Addr} {dp un : Nat} {gd : Option (List Code)} {cn : Str} {cs : Scope} {a : Addr} {ccd : Value} {cl : List (Str × Addr)} {outer : List Env} {A₀ : Around} {base h₀ : Heap} {L : Addr} {m : Str → Option Value} {news : List (Addr × Obj)} {s : Shared}
  {Q E : Value → Shared → Prop}
theorem raised_use {x y : Nat} {t0 t1 : Tok} (B : Below A₀ base outer h₀) (F : Fr h₀ L s.heap m) (X : K.In h₀) (N : News h₀ L s.heap news) (T : Top p loose mean mg mb h₀) (hk : cs.kind = .function)
    (hx : x < 32) (hy : y ≤ 16) (C : ∀ d, TellsN prog w K p loose mean mg mb f cRaised d) (hd : dp + 2 < recursionLimit) (hu : un + 8 * 2 < cLine)
    (ret : ∀ t h' tk', Fr h₀ L h' m → News h₀ L h' news → Q (.int (raisedN x y : Nat) t) { s with heap := h', toks := tk' }) :
    wpAny (model prog w) (ktrTop dp un gd cn cs L a ccd cl outer) (call (.ref f) [.int (x : Nat) t0, .int (y : Nat) t1]) Q E s := by
  refine tellsN_use (c := cRaised) (d := (x, y)) B F X N T hk ⟨_, _, rfl⟩ (C _) ⟨hx, hy⟩ hd hu ?_
  rintro r tl h' tk' F' N' - rfl ⟨t, rfl⟩
  exact ret t h' tk' F' (by rw [List.append_nil] at N'; exact N')
end
section
open PySem.Calls
variable {prog : Program} {w : World} {A : Around} {h₀ : Heap} {L : Addr} {m : Str → Option Value} {env : Env} {ct elt : Expr} {x : Str} {scope : Scope} {cl : List (Str × Addr)} {s : Shared} {S : List (Addr × Obj) → Prop} {Fin : List Value → List (Addr × Obj) → Prop} {news : List (Addr × Obj)}
theorem compSrc_range {r : Addr} {n : Nat} {t u v : Tok} {s₁ : Shared} {Fin : Shared → List Value → List (Addr × Obj) → Prop} (hh : A.handled = none) (F : Fr h₀ L s₁.heap m) (N : News h₀ L s₁.heap news) (hr : IsRange s₁.heap r 0 ((n : Nat) : Int) 1 t u v) (hn : n ≤ 1000)
    (h : ∀ g, LCt.CompRestT prog w A h₀ L m env ct elt x scope cl { s₁ with heap := g } (fun _ => True) (fun i v => ∃ t, v = .int (0 + (i : Int)) t) (Fin { s₁ with heap := g }) n 0 [] news) :
    LCt.CompSrcT prog w A h₀ L m env ct elt x scope cl Fin (.ref r) s₁ :=
  .range hh F N hr (small_one (by omega) (by omega) (by omega) (by omega)) (by rw [rangeSize_nat]; omega) (by rw [PySem.sizeLine_eq]; omega) h
theorem comp_range {n : Nat} (H : Nat → List Nat) (h0 : H 0 = [])
    (turn : ∀ i t I oI C oC D m₂ ys h tk (E' : Value → Shared → Prop), i < n → IntsAre ys (natsI (H i)) → LCg.NsObj oC m₂ → m₂ x = some (.int (0 + (i : Int)) t) → Fr h₀ L h m → News h₀ L h ((I, oI) :: (C, oC) :: (D, LCg.lst ys) :: news) → LCg.Off3 I C D news → ((@Ne Nat I C) ∧ (@Ne Nat I D) ∧ (@Ne Nat C D)) →
      wpAny (model prog w) A (isTrue ct (compEnvC scope cl C env) (eval ct (compEnvC scope cl C env))) (fun b s' => if b = true then wpAny (model prog w) A (eval elt (compEnvC scope cl C env)) (LCg.CompEnd h₀ L m { s with heap := h, toks := tk } I oI C oC D (LCg.lst ys) S (fun y news' => news' = news ∧ ∃ (a : Nat) (t : Tok), y = .int a t ∧ H (i + 1) = H i ++ [a])) E' s'
        else LCg.CompEnd h₀ L m { s with heap := h, toks := tk } I oI C oC D (LCg.lst ys) S (fun _ news' => news' = news ∧ H (i + 1) = H i) Value.none s') E' { s with heap := h, toks := tk })
    (fin : ∀ ys, IntsAre ys (natsI (H n)) → Fin ys news) : LCt.CompRestT prog w A h₀ L m env ct elt x scope cl s S (fun i v => ∃ t, v = .int (0 + (i : Int)) t) Fin n 0 [] news := by
  have key : ∀ (j i : Nat) (ys : List Value), i + j = n → IntsAre ys (natsI (H i)) → LCt.CompRestT prog w A h₀ L m env ct elt x scope cl s S (fun i v => ∃ t, v = .int (0 + (i : Int)) t) Fin j i ys news := by
    intro j
    induction j with
    | zero =>
      intro i ys hi hy
      obtain rfl : i = n := by omega
      exact LCt.CompRestT.zero (fin ys hy)
    | succ j ih =>
      intro i ys hi hy
      refine LCt.CompRestT.succ ?_
      intro v I oI C oC D m₂ h tk E' hv hC hx F N off ne
      obtain ⟨t, rfl⟩ := hv
      refine wpAny_mono (turn i t I oI C oC D m₂ ys h tk E' (by omega) hy hC hx F N off ne) (fun b s₂ hq => ?_) fun _ _ e => e
      cases b with
      | true =>
        simp only [if_true] at hq ⊢
        refine wpAny_mono hq (fun y s₃ hr => ?_) fun _ _ e => e
        obtain ⟨h', tk', nw, e, F', N', off', hS, rfl, a, t', rfl, hr'⟩ := hr
        refine ⟨h', tk', nw, e, F', N', off', hS, ih (i + 1) _ (by omega) ?_⟩
        rw [hr', show natsI (H i ++ [a]) = natsI (H i) ++ natsI [a] from List.map_append]
        exact IntsAre.append hy (.cons _ t' .nil)
      | false =>
        simp only [Bool.false_eq_true, if_false] at hq ⊢
        obtain ⟨h', tk', nw, e, F', N', off', hS, rfl, hr'⟩ := hq
        refine ⟨h', tk', nw, e, F', N', off', hS, ih (i + 1) _ (by omega) ?_⟩
        rw [hr']
        exact hy
  exact key n 0 [] (by omega) (by rw [h0]; exact .nil)
end
/-- what the filtered comprehension holds after i turns -/
def takenN (xs : List Nat) (r i : Nat) : List Nat := ((List.range i).filter (fun k => (xs.length - 1 - k) % 2 == r)).map (fun k => rt (xs.getD k 0))
theorem taken_pos (xs : List Nat) (r i : Nat) (h : (xs.length - 1 - i) % 2 = r) : takenN xs r (i + 1) = takenN xs r i ++ [rt (xs.getD i 0)] := by
  unfold takenN
  rw [List.range_succ, List.filter_append, List.map_append]
  simp [h]
theorem taken_neg (xs : List Nat) (r i : Nat) (h : (xs.length - 1 - i) % 2 ≠ r) : takenN xs r (i + 1) = takenN xs r i := by
  unfold takenN
  rw [List.range_succ, List.filter_append, List.map_append]
  simp [h]
theorem taken_ev (xs : List Nat) : ∀ i, i ≤ xs.length → takenN xs 0 i ++ evN (xs.drop i) = evN xs
  | 0, _ => rfl
  | i + 1, h => by
    have ih := taken_ev xs i (by omega)
    rw [← ih, List.drop_eq_getElem_cons (show i < xs.length by omega), evN]
    have hg : xs.getD i 0 = xs[i]'(by omega) := by
      rw [List.getD_eq_getElem?_getD, List.getElem?_eq_getElem (show i < xs.length by omega)]; rfl
    by_cases hc : (xs.length - 1 - i) % 2 = 0
    · rw [taken_pos xs 0 i hc, if_pos (by rw [List.length_drop]; omega), hg, List.append_assoc]; rfl
    · rw [taken_neg xs 0 i hc, if_neg (by rw [List.length_drop]; omega)]
theorem taken_od (xs : List Nat) : ∀ i, i ≤ xs.length → takenN xs 1 i ++ odN (xs.drop i) = odN xs
  | 0, _ => rfl
  | i + 1, h => by
    have ih := taken_od xs i (by omega)
    rw [← ih, List.drop_eq_getElem_cons (show i < xs.length by omega), odN]
    have hg : xs.getD i 0 = xs[i]'(by omega) := by
      rw [List.getD_eq_getElem?_getD, List.getElem?_eq_getElem (show i < xs.length by omega)]; rfl
    by_cases hc : (xs.length - 1 - i) % 2 = 1
    · rw [taken_pos xs 1 i hc, if_pos (by rw [List.length_drop]; omega), hg, List.append_assoc]; rfl
    · rw [taken_neg xs 1 i hc, if_neg (by rw [List.length_drop]; omega)]
theorem taken_evN (xs : List Nat) : takenN xs 0 xs.length = evN xs := by
  have h := taken_ev xs xs.length (Nat.le_refl _)
  rw [List.drop_length, evN, List.append_nil] at h; exact h
theorem taken_odN (xs : List Nat) : takenN xs 1 xs.length = odN xs := by
  have h := taken_od xs xs.length (Nat.le_refl _)
  rw [List.drop_length, odN, List.append_nil] at h; exact h
theorem getD_lt {xs : List Nat} (h : ∀ x ∈ xs, x < 32) (i : Nat) : xs.getD i 0 < 32 := by
  rw [List.getD_eq_getElem?_getD]
  cases e : xs[i]? with
  | none => exact (by decide : (0 : Nat) < 32)
  | some v => exact h v (List.mem_of_getElem? e)
def tmN (a b : Nat) : Nat := if a = 0 ∨ b = 0 then 0 else POW.getD ((LOG.getD a 0 + LOG.getD b 0) % 31) 0
theorem pow_lt32 : ∀ i, i < 31 → POW.getD i 0 < 32 := by decide +kernel
theorem pow_ne0' : ∀ i, i < 31 → POW.getD i 0 ≠ 0 := by decide +kernel
theorem log_pow : ∀ i, i < 31 → LOG.getD (POW.getD i 0) 0 = i := by decide +kernel
theorem pow_log : ∀ a, a < 32 → a ≠ 0 → POW.getD (LOG.getD a 0) 0 = a := by decide +kernel
theorem log_lt31 : ∀ a, a < 32 → LOG.getD a 0 < 31 := by decide +kernel
theorem tm_z1 (b : Nat) : tmN 0 b = 0 := if_pos (.inl rfl)
theorem tm_z2 (a : Nat) : tmN a 0 = 0 := if_pos (.inr rfl)
theorem tm_nz {a b : Nat} (h : a ≠ 0) (k : b ≠ 0) : tmN a b = POW.getD ((LOG.getD a 0 + LOG.getD b 0) % 31) 0 := if_neg (fun x => x.elim h k)
theorem tm_lt (a b : Nat) : tmN a b < 32 := by
  unfold tmN; split
  · decide
  · exact pow_lt32 _ (Nat.mod_lt _ (by decide))
theorem tm_comm (a b : Nat) : tmN a b = tmN b a := by
  unfold tmN; rw [Nat.add_comm]; simp only [Or.comm]
theorem tm_nz' {a b : Nat} (h : a ≠ 0) (k : b ≠ 0) : tmN a b ≠ 0 := by
  rw [tm_nz h k]; exact pow_ne0' _ (Nat.mod_lt _ (by decide))
theorem tm_assoc (c d a : Nat) : tmN c (tmN d a) = tmN (tmN c d) a := by
  by_cases hc : c = 0
  · rw [hc, tm_z1, tm_z1, tm_z1]
  by_cases hd : d = 0
  · rw [hd, tm_z1, tm_z2, tm_z1]
  by_cases ha : a = 0
  · rw [ha, tm_z2, tm_z2, tm_z2]
  rw [tm_nz hc (tm_nz' hd ha), tm_nz (tm_nz' hc hd) ha, tm_nz hd ha, tm_nz hc hd, log_pow _ (Nat.mod_lt _ (by decide)), log_pow _ (Nat.mod_lt _ (by decide))]
  congr 1; omega
theorem tm_left (c d a : Nat) : tmN c (tmN d a) = tmN d (tmN c a) := by
  rw [tm_assoc, tm_assoc, tm_comm c d]
theorem tm_two : ∀ i, i < 32 → ∀ j, j < 32 → tmN 2 (i ^^^ j) = tmN 2 i ^^^ tmN 2 j := by decide +kernel
theorem tm_one : ∀ a, a < 32 → tmN 1 a = a := by decide +kernel
theorem pow_succ' : ∀ i, i < 30 → POW.getD (i + 1) 0 = tmN 2 (POW.getD i 0) := by decide +kernel
theorem x32 {a b : Nat} (ha : a < 32) (hb : b < 32) : a ^^^ b < 32 := Nat.xor_lt_two_pow (n := 5) ha hb
theorem tm_add_pow (a b : Nat) (ha : a < 32) (hb : b < 32) : ∀ i, i < 31 → tmN (POW.getD i 0) (a ^^^ b) = tmN (POW.getD i 0) a ^^^ tmN (POW.getD i 0) b
  | 0, _ => by
    rw [show POW.getD 0 0 = 1 from rfl, tm_one _ ha, tm_one _ hb, tm_one _ (x32 ha hb)]
  | i + 1, h => by
    rw [pow_succ' i (by omega), ← tm_assoc, ← tm_assoc, ← tm_assoc, tm_add_pow a b ha hb i (by omega), tm_two _ (tm_lt _ _) _ (tm_lt _ _)]
theorem tm_add (c : Nat) (hc : c < 32) {a b : Nat} (ha : a < 32) (hb : b < 32) : tmN c (a ^^^ b) = tmN c a ^^^ tmN c b := by
  by_cases h : c = 0
  · rw [h, tm_z1, tm_z1, tm_z1]; rfl
  rw [← pow_log c hc h]
  exact tm_add_pow a b ha hb _ (log_lt31 c hc)
theorem tab_tm29 : ∀ a, a < 32 → tab 29 a = tmN 29 a := by decide +kernel
theorem tab_tm22 : ∀ a, a < 32 → tab 22 a = tmN 22 a := by decide +kernel
theorem tab_tm20 : ∀ a, a < 32 → tab 20 a = tmN 20 a := by decide +kernel
theorem tab_tm21 : ∀ a, a < 32 → tab 21 a = tmN 21 a := by decide +kernel
theorem tab_tm18 : ∀ a, a < 32 → tab 18 a = tmN 18 a := by decide +kernel
def scale (c : Nat) (s : St) : St := ⟨tmN c s.u, tmN c s.v, tmN c s.w, tmN c s.x, tmN c s.y, tmN c s.z⟩
theorem scale_ok (c : Nat) (s : St) : (scale c s).Ok := ⟨tm_lt _ _, tm_lt _ _, tm_lt _ _, tm_lt _ _, tm_lt _ _, tm_lt _ _⟩
theorem scale_xor {c : Nat} (hc : c < 32) {a b : St} (ha : a.Ok) (hb : b.Ok) : scale c (a.xor b) = (scale c a).xor (scale c b) := by
  obtain ⟨a1, a2, a3, a4, a5, a6⟩ := ha
  obtain ⟨b1, b2, b3, b4, b5, b6⟩ := hb
  refine St.ext' ?_ ?_ ?_ ?_ ?_ ?_ <;> simp only [scale, St.xor] <;> apply tm_add c hc <;> assumption
theorem scale_step {c v : Nat} (hc : c < 32) (hv : v < 32) {s : St} (h : s.Ok) : scale c (runStep s v) = runStep (scale c s) (tmN c v) := by
  obtain ⟨a1, a2, a3, a4, a5, a6⟩ := h
  simp only [scale, runStep]
  rw [tm_add c hc (tab_lt29 _ a1) a2, tm_add c hc (tab_lt22 _ a1) a3, tm_add c hc (tab_lt20 _ a1) a4, tm_add c hc (tab_lt21 _ a1) a5, tm_add c hc (tab_lt29 _ a1) a6, tm_add c hc (tab_lt18 _ a1) hv]
  rw [tab_tm29 _ a1, tab_tm22 _ a1, tab_tm20 _ a1, tab_tm21 _ a1, tab_tm18 _ a1]
  rw [tab_tm29 _ (tm_lt _ _), tab_tm22 _ (tm_lt _ _), tab_tm20 _ (tm_lt _ _), tab_tm21 _ (tm_lt _ _), tab_tm18 _ (tm_lt _ _)]
  rw [tm_left c 29, tm_left c 22, tm_left c 20, tm_left c 21, tm_left c 18]
theorem scale_scale (c d : Nat) (s : St) : scale c (scale d s) = scale d (scale c s) := by
  refine St.ext' ?_ ?_ ?_ ?_ ?_ ?_ <;> exact tm_left _ _ _
theorem scale_O (c : Nat) : scale c St.O = St.O := by
  refine St.ext' ?_ ?_ ?_ ?_ ?_ ?_ <;> exact tm_z2 _
theorem step_O : runStep St.O 0 = St.O := St.of_list (by decide +kernel)
theorem xor_comm' (a b : St) : a.xor b = b.xor a := by
  refine St.ext' ?_ ?_ ?_ ?_ ?_ ?_ <;> exact Nat.xor_comm _ _
theorem xor_assoc' (a b c : St) : (a.xor b).xor c = a.xor (b.xor c) := by
  refine St.ext' ?_ ?_ ?_ ?_ ?_ ?_ <;> exact Nat.xor_assoc _ _ _
theorem step_xor0 {a b : St} (ha : a.Ok) (hb : b.Ok) : runStep (a.xor b) 0 = (runStep a 0).xor (runStep b 0) := runStep_xor ha hb 0 0
theorem xor4' (a b c d : St) : (a.xor b).xor (c.xor d) = (a.xor c).xor (b.xor d) := by
  refine St.ext' ?_ ?_ ?_ ?_ ?_ ?_ <;> exact xor4 _ _ _ _
/-- one step of the law: the left one taken x times and the factor's number times what was left -/
def hstep (l s : St) (c : Nat) : St := (runStep s 0).xor (scale c l)
def hor (l : St) (f : List Nat) : St := f.foldl (hstep l) St.O
theorem z32 : (0 : Nat) < 32 := by decide
theorem hstep_ok (l : St) {s : St} (c : Nat) (h : s.Ok) : (hstep l s c).Ok := xor_ok (runStep_ok h z32) (scale_ok _ _)
theorem horF_ok (l : St) : ∀ (f : List Nat) {s : St}, s.Ok → (f.foldl (hstep l) s).Ok
  | [], _, h => h
  | c :: r, _, h => horF_ok l r (hstep_ok l c h)
theorem hor_ok (l : St) (f : List Nat) : (hor l f).Ok := horF_ok l f O_ok
theorem hstep_I (s : St) (v : Nat) (hv : v < 32) : hstep St.I s v = runStep s v := by
  have h1 : tmN v 1 = v := by rw [tm_comm]; exact tm_one v hv
  refine St.ext' ?_ ?_ ?_ ?_ ?_ ?_ <;> simp [hstep, runStep, St.xor, scale, St.I, tm_z2, h1]
theorem run_hor : ∀ (f : List Nat) (s : St), (∀ x ∈ f, x < 32) → f.foldl (hstep St.I) s = run s f
  | [], _, _ => rfl
  | v :: r, s, h => by
    show r.foldl (hstep St.I) (hstep St.I s v) = run (runStep s v) r
    rw [hstep_I s v (h v (.head _)), run_hor r _ (fun x k => h x (.tail _ k))]
theorem horF_xor {a b : St} (ha : a.Ok) (hb : b.Ok) : ∀ (p : List Nat) {s t : St}, s.Ok → t.Ok → (∀ x ∈ p, x < 32) → p.foldl (hstep (a.xor b)) (s.xor t) = (p.foldl (hstep a) s).xor (p.foldl (hstep b) t)
  | [], _, _, _, _, _ => rfl
  | c :: r, s, t, hs, ht, h => by
    show r.foldl _ (hstep (a.xor b) (s.xor t) c) = (r.foldl _ (hstep a s c)).xor (r.foldl _ (hstep b t c))
    rw [← horF_xor ha hb r (hstep_ok a c hs) (hstep_ok b c ht) (fun x k => h x (.tail _ k))]
    congr 1
    rw [hstep, step_xor0 hs ht, scale_xor (h c (.head _)) ha hb, xor4']; rfl
theorem horF_step {a : St} (ha : a.Ok) : ∀ (p : List Nat) {s : St}, s.Ok → (∀ x ∈ p, x < 32) → p.foldl (hstep (runStep a 0)) (runStep s 0) = runStep (p.foldl (hstep a) s) 0
  | [], _, _, _ => rfl
  | c :: r, s, hs, h => by
    show r.foldl _ (hstep (runStep a 0) (runStep s 0) c) = runStep (r.foldl _ (hstep a s c)) 0
    rw [← horF_step ha r (hstep_ok a c hs) (fun x k => h x (.tail _ k))]
    congr 1
    have e := scale_step (c := c) (v := 0) (h c (.head _)) z32 ha
    rw [tm_z2] at e
    rw [hstep, hstep, e, ← step_xor0 (runStep_ok hs z32) (scale_ok _ _)]
theorem horF_scale {a : St} (ha : a.Ok) {d : Nat} (hd : d < 32) : ∀ (p : List Nat) {s : St}, s.Ok → (∀ x ∈ p, x < 32) → p.foldl (hstep (scale d a)) (scale d s) = scale d (p.foldl (hstep a) s)
  | [], _, _, _ => rfl
  | c :: r, s, hs, h => by
    show r.foldl _ (hstep (scale d a) (scale d s) c) = scale d (r.foldl _ (hstep a s c))
    rw [← horF_scale ha hd r (hstep_ok a c hs) (fun x k => h x (.tail _ k))]
    congr 1
    have e := scale_step (c := d) (v := 0) hd z32 hs
    rw [tm_z2] at e
    rw [hstep, hstep, scale_xor hd (runStep_ok hs z32) (scale_ok _ _), e, scale_scale]
theorem horF_O : ∀ (p : List Nat), p.foldl (hstep St.O) St.O = St.O
  | [] => rfl
  | c :: r => by
    show r.foldl _ (hstep St.O St.O c) = _
    rw [hstep, step_O, scale_O, show St.O.xor St.O = St.O from rfl]; exact horF_O r
theorem hor_xor {a b : St} (ha : a.Ok) (hb : b.Ok) (p : List Nat) (h : ∀ x ∈ p, x < 32) : hor (a.xor b) p = (hor a p).xor (hor b p) := by
  have e := horF_xor ha hb p O_ok O_ok h
  rwa [show St.O.xor St.O = St.O from rfl] at e
theorem hor_step {a : St} (ha : a.Ok) (p : List Nat) (h : ∀ x ∈ p, x < 32) : hor (runStep a 0) p = runStep (hor a p) 0 := by
  have e := horF_step ha p O_ok h
  rwa [step_O] at e
theorem hor_scale {a : St} (ha : a.Ok) {d : Nat} (hd : d < 32) (p : List Nat) (h : ∀ x ∈ p, x < 32) : hor (scale d a) p = scale d (hor a p) := by
  have e := horF_scale ha hd p O_ok h
  rwa [scale_O] at e
theorem hor_comm {s : St} (hs : s.Ok) (p : List Nat) (hp : ∀ x ∈ p, x < 32) : ∀ (f : List Nat) {t : St}, t.Ok → (∀ x ∈ f, x < 32) → hor (f.foldl (hstep s) t) p = f.foldl (hstep (hor s p)) (hor t p)
  | [], _, _, _ => rfl
  | c :: r, t, ht, h => by
    show hor (r.foldl _ (hstep s t c)) p = r.foldl _ (hstep (hor s p) (hor t p) c)
    rw [hor_comm hs p hp r (hstep_ok s c ht) (fun x k => h x (.tail _ k))]
    congr 1
    rw [hstep, hor_xor (runStep_ok ht z32) (scale_ok _ _) p hp, hor_step ht p hp, hor_scale hs (h c (.head _)) p hp]; rfl
/-- the rest of a product is symmetric -/
theorem rest_comm (p f : List Nat) (hp : ∀ x ∈ p, x < 32) (hf : ∀ x ∈ f, x < 32) : hor (run St.O f) p = hor (run St.O p) f := by
  rw [← run_hor f St.O hf, hor_comm I_ok p hp f O_ok hf, ← run_hor p St.O hp]
  rw [show hor St.O p = St.O from horF_O p]; rfl
def Xp (e : Nat) (s : St) : St := run s (List.replicate e 0)
theorem Xp_succ (e : Nat) (s : St) : Xp (e + 1) s = Xp e (runStep s 0) := rfl
theorem Xp_O : ∀ e, Xp e St.O = St.O
  | 0 => rfl
  | e + 1 => by rw [Xp_succ, step_O, Xp_O e]
theorem Xp_xor : ∀ (e : Nat) {a b : St}, a.Ok → b.Ok → Xp e (a.xor b) = (Xp e a).xor (Xp e b)
  | 0, _, _, _, _ => rfl
  | e + 1, a, b, ha, hb => by
    rw [Xp_succ, Xp_succ, Xp_succ, step_xor0 ha hb, Xp_xor e (runStep_ok ha z32) (runStep_ok hb z32)]
def St.at0 (v : Nat) : St := ⟨0, 0, 0, 0, 0, v⟩
theorem at0_ok {v : Nat} (h : v < 32) : (St.at0 v).Ok := ⟨z32, z32, z32, z32, z32, h⟩
theorem step_at0 (s : St) (b v : Nat) : runStep s (b ^^^ v) = (runStep s b).xor (St.at0 v) := by
  refine St.ext' ?_ ?_ ?_ ?_ ?_ ?_ <;> simp [St.xor, runStep, St.at0, Nat.xor_assoc]
theorem step_at0' (s : St) (v : Nat) : runStep s v = (runStep s 0).xor (St.at0 v) := by
  rw [← step_at0, Nat.zero_xor]
def addAt (m : List Nat) (i v : Nat) : List Nat := m.set i (m.getD i 0 ^^^ v)
theorem addAt_len (m : List Nat) (i v : Nat) : (addAt m i v).length = m.length := List.length_set
theorem addAt_lt {m : List Nat} (h : ∀ x ∈ m, x < 32) (i : Nat) {v : Nat} (hv : v < 32) : ∀ x ∈ addAt m i v, x < 32 := by
  intro x hx
  rcases List.mem_or_eq_of_mem_set hx with hx | rfl
  · exact h x hx
  · exact x32 (getD_lt h i) hv
theorem run_addAt {m : List Nat} (h : ∀ x ∈ m, x < 32) {i : Nat} (hi : i < m.length) {v : Nat} (hv : v < 32) : run St.O (addAt m i v) = (run St.O m).xor (Xp (m.length - 1 - i) (St.at0 v)) := by
  have e1 : m = m.take i ++ m[i] :: m.drop (i + 1) := by
    rw [← List.drop_eq_getElem_cons hi, List.take_append_drop]
  have hg : m.getD i 0 = m[i] := by
    rw [List.getD_eq_getElem?_getD, List.getElem?_eq_getElem hi]; rfl
  have e2 : addAt m i v = m.take i ++ (m[i] ^^^ v) :: m.drop (i + 1) := by
    rw [addAt, hg, List.set_eq_take_append_cons_drop, if_pos hi]
  have hd : ∀ x ∈ m.drop (i + 1), x < 32 := fun x hx => h x (List.mem_of_mem_drop hx)
  have ht : (run St.O (m.take i)).Ok := run_ok _ O_ok (fun x hx => h x (List.mem_of_mem_take hx))
  have e3 : run St.O m = run (runStep (run St.O (m.take i)) m[i]) (m.drop (i + 1)) := by
    conv => lhs; rw [e1, run_append]
    rfl
  rw [e2, run_append, e3]
  show run (runStep (run St.O (m.take i)) (m[i] ^^^ v)) (m.drop (i + 1)) = _
  rw [step_at0, xor_comm', run_split _ (at0_ok hv) (runStep_ok ht (h _ (List.getElem_mem hi))) hd, xor_comm', List.length_drop, show m.length - (i + 1) = m.length - 1 - i by omega]
  rfl
def rowTo (m : List Nat) (k c : Nat) (f : List Nat) (j : Nat) : List Nat := (List.range j).foldl (fun m j => addAt m (k + j) (tmN c (f.getD j 0))) m
theorem rowTo_zero (m : List Nat) (k c : Nat) (f : List Nat) : rowTo m k c f 0 = m := rfl
theorem rowTo_succ (m : List Nat) (k c : Nat) (f : List Nat) (j : Nat) : rowTo m k c f (j + 1) = addAt (rowTo m k c f j) (k + j) (tmN c (f.getD j 0)) := by
  rw [rowTo, List.range_succ, List.foldl_append]; rfl
theorem rowTo_len (m : List Nat) (k c : Nat) (f : List Nat) : ∀ j, (rowTo m k c f j).length = m.length
  | 0 => rfl
  | j + 1 => by rw [rowTo_succ, addAt_len, rowTo_len m k c f j]
theorem rowTo_lt {m : List Nat} (h : ∀ x ∈ m, x < 32) (k c : Nat) (f : List Nat) : ∀ j, ∀ x ∈ rowTo m k c f j, x < 32
  | 0 => h
  | j + 1 => by rw [rowTo_succ]; exact addAt_lt (rowTo_lt h k c f j) _ (tm_lt _ _)
theorem run_take_succ (f : List Nat) (j : Nat) (hj : j < f.length) : run St.O (f.take (j + 1)) = runStep (run St.O (f.take j)) (f.getD j 0) := by
  have hg : f.getD j 0 = f[j] := by
    rw [List.getD_eq_getElem?_getD, List.getElem?_eq_getElem hj]; rfl
  rw [List.take_add_one, List.getElem?_eq_getElem hj, run_append, hg]; rfl
theorem run_rowTo {m : List Nat} (h : ∀ x ∈ m, x < 32) {k c : Nat} (hc : c < 32) {f : List Nat} (hf : ∀ x ∈ f, x < 32) (hk : k + f.length ≤ m.length) : ∀ j, j ≤ f.length → run St.O (rowTo m k c f j) = (run St.O m).xor (Xp (m.length - k - j) (scale c (run St.O (f.take j))))
  | 0, _ => by
    rw [rowTo_zero, List.take_zero, show run St.O [] = St.O from rfl, scale_O, Xp_O, xorO]
  | j + 1, hj => by
    have ih := run_rowTo h hc hf hk j (by omega)
    have hok : (run St.O (f.take j)).Ok := run_ok _ O_ok (fun x hx => hf x (List.mem_of_mem_take hx))
    rw [rowTo_succ, run_addAt (rowTo_lt h k c f j) (by rw [rowTo_len]; omega) (tm_lt _ _), ih, rowTo_len, run_take_succ f j (by omega), scale_step hc (getD_lt hf j) hok, step_at0' (scale c _), Xp_xor _ (runStep_ok (scale_ok _ _) z32) (at0_ok (tm_lt _ _)), ← Xp_succ, xor_assoc']
    rw [show m.length - k - (j + 1) + 1 = m.length - k - j by omega, show m.length - 1 - (k + j) = m.length - k - (j + 1) by omega]
def madeTo (p f : List Nat) (k : Nat) : List Nat := (List.range k).foldl (fun m k => rowTo m k (p.getD k 0) f f.length) (List.replicate (p.length + f.length - 1) 0)
theorem madeTo_zero (p f : List Nat) : madeTo p f 0 = List.replicate (p.length + f.length - 1) 0 := rfl
theorem madeTo_succ (p f : List Nat) (k : Nat) : madeTo p f (k + 1) = rowTo (madeTo p f k) k (p.getD k 0) f f.length := by
  rw [madeTo, List.range_succ, List.foldl_append]; rfl
theorem madeTo_len (p f : List Nat) : ∀ k, (madeTo p f k).length = p.length + f.length - 1
  | 0 => List.length_replicate
  | k + 1 => by rw [madeTo_succ, rowTo_len, madeTo_len p f k]
theorem madeTo_lt (p f : List Nat) : ∀ k, ∀ x ∈ madeTo p f k, x < 32
  | 0 => zeros_lt _
  | k + 1 => by rw [madeTo_succ]; exact rowTo_lt (madeTo_lt p f k) _ _ _ _
theorem run_zeros : ∀ e, run St.O (List.replicate e 0) = St.O := Xp_O
theorem run_madeTo {p f : List Nat} (hp : ∀ x ∈ p, x < 32) (hf : ∀ x ∈ f, x < 32) (hl : 1 ≤ f.length) : ∀ k, k ≤ p.length → run St.O (madeTo p f k) = Xp (p.length - k) (hor (run St.O f) (p.take k))
  | 0, _ => by
    rw [madeTo_zero, run_zeros, List.take_zero, show hor (run St.O f) [] = St.O from rfl, Xp_O]
  | k + 1, hk => by
    have ih := run_madeTo hp hf hl k (by omega)
    have hlt : k < p.length := by omega
    have hg : p.getD k 0 = p[k] := by
      rw [List.getD_eq_getElem?_getD, List.getElem?_eq_getElem hlt]; rfl
    rw [madeTo_succ, run_rowTo (madeTo_lt p f k) (getD_lt hp k) hf (by rw [madeTo_len]; omega) _ (Nat.le_refl _), ih, madeTo_len, List.take_length]
    have e : hor (run St.O f) (p.take (k + 1)) = hstep (run St.O f) (hor (run St.O f) (p.take k)) (p.getD k 0) := by
      rw [hor, List.take_add_one, List.getElem?_eq_getElem hlt, List.foldl_append, hg]; rfl
    rw [e, hstep, Xp_xor _ (runStep_ok (hor_ok _ _) z32) (scale_ok _ _), ← Xp_succ]
    rw [show p.length - (k + 1) + 1 = p.length - k by omega, show p.length + f.length - 1 - k - f.length = p.length - (k + 1) by omega]
theorem run_made {p f : List Nat} (hp : ∀ x ∈ p, x < 32) (hf : ∀ x ∈ f, x < 32) (hl : 1 ≤ f.length) : run St.O (madeTo p f p.length) = hor (run St.O p) f := by
  rw [run_madeTo hp hf hl _ (Nat.le_refl _), Nat.sub_self, List.take_length, ← rest_comm p f hp hf]; rfl
theorem addAt_head {m : List Nat} {i v : Nat} (h : 1 ≤ i) : (addAt m i v).getD 0 0 = m.getD 0 0 := by
  obtain ⟨i, rfl⟩ : ∃ q, i = q + 1 := ⟨i - 1, by omega⟩
  cases m <;> rfl
theorem rowTo_head {m : List Nat} {k : Nat} (c : Nat) (f : List Nat) (h : 1 ≤ k) : ∀ j, (rowTo m k c f j).getD 0 0 = m.getD 0 0
  | 0 => rfl
  | j + 1 => by rw [rowTo_succ, addAt_head (by omega), rowTo_head c f h j]
theorem rowTo_head0 {m : List Nat} (c : Nat) (f : List Nat) (hm : 1 ≤ m.length) : ∀ j, 1 ≤ j → (rowTo m 0 c f j).getD 0 0 = m.getD 0 0 ^^^ tmN c (f.getD 0 0)
  | 1, _ => by
    rw [rowTo_succ, rowTo_zero]
    cases m with
    | nil => exact absurd hm (by decide)
    | cons a r => rfl
  | j + 2, _ => by rw [rowTo_succ, addAt_head (by omega), rowTo_head0 c f hm (j + 1) (by omega)]
theorem made_head {p f : List Nat} (hl : 1 ≤ f.length) (hp0 : p.getD 0 0 = 1) (hf0 : f.getD 0 0 = 1) (hn : 1 ≤ p.length) : ∀ k, 1 ≤ k → (madeTo p f k).getD 0 0 = 1
  | 1, _ => by
    rw [madeTo_succ, madeTo_zero, rowTo_head0 _ _ (by rw [List.length_replicate]; omega) _ hl, hp0, hf0]
    obtain ⟨q, hq⟩ : ∃ q, p.length + f.length - 1 = q + 1 := ⟨p.length + f.length - 2, by omega⟩
    rw [hq]; exact (by decide +kernel : (0 : Nat) ^^^ tmN 1 1 = 1)
  | k + 2, _ => by rw [madeTo_succ, rowTo_head _ _ (by omega), made_head hl hp0 hf0 hn (k + 1) (by omega)]
theorem run_one : runStep St.O 1 = St.I := St.of_list (by decide +kernel)
/-- what is told of a row behind its leading one -/
theorem told_rest {q : List Nat} (hq : ∀ x ∈ q, x < 32) (h0 : q.getD 0 0 = 1) : digs (polyN (q.drop 1)) = run St.O q := by
  cases q with
  | nil => exact absurd h0 (by decide)
  | cons a r =>
    have ha : a = 1 := h0
    rw [ha, List.drop_one, List.tail_cons, digsI r (fun x hx => hq x (.tail _ hx))]
    show _ = run (runStep St.O 1) r
    rw [run_one]
/-- the plain law: one turn -/
theorem plain1 {p f : List Nat} (hp : ∀ x ∈ p, x < 32) (hf : ∀ x ∈ f, x < 32) (hl : 1 ≤ f.length) (hn : 1 ≤ p.length) (hp0 : p.getD 0 0 = 1) (hf0 : f.getD 0 0 = 1) : digs (polyN ((madeTo p f p.length).drop 1)) = hor (run St.O p) f := by
  rw [told_rest (madeTo_lt p f _) (made_head hl hp0 hf0 hn _ hn), run_made hp hf hl]
abbrev cTimes : ToldN (Nat × Nat) where
  Rel := fun _ vs d => ∃ t0 t1, vs = [.int d.1 t0, .int d.2 t1]
  Ok := fun d => d.1 < 32 ∧ d.2 < 32
  size := fun _ => 2
  Tl := fun tl => tl = []
  Out := fun _ r d => ∃ t, r = .int (tmN d.1 d.2 : Nat) t
section
open PySem.Spec
variable {prog : Program} {w : World} {K : Frag} {p : Program} {loose : List Str} {mean : ExcName → Option Value} {mg mb : Str → Option Value} {f : Addr} {dp un : Nat} {gd : Option (List Code)} {cn : Str} {cs : Scope} {a : Addr} {ccd : Value} {cl : List (Str × Addr)} {outer : List Env} {A₀ : Around} {base h₀ : Heap} {L : Addr} {m : Str → Option Value} {news : List (Addr × Obj)} {s : Shared}
  {Q E : Value → Shared → Prop}
theorem times_use {x y : Nat} {t0 t1 : Tok} (B : Below A₀ base outer h₀) (F : Fr h₀ L s.heap m) (X : K.In h₀) (N : News h₀ L s.heap news) (T : Top p loose mean mg mb h₀) (hk : cs.kind = .function)
    (hx : x < 32) (hy : y < 32) (C : ∀ d, TellsN prog w K p loose mean mg mb f cTimes d) (hd : dp + 2 < recursionLimit) (hu : un + 8 * 2 < cLine)
    (ret : ∀ t h' tk', Fr h₀ L h' m → News h₀ L h' news → Q (.int (tmN x y : Nat) t) { s with heap := h', toks := tk' }) :
    wpAny (model prog w) (ktrTop dp un gd cn cs L a ccd cl outer) (call (.ref f) [.int (x : Nat) t0, .int (y : Nat) t1]) Q E s := by
  refine tellsN_use (c := cTimes) (d := (x, y)) B F X N T hk ⟨_, _, rfl⟩ (C _) ⟨hx, hy⟩ hd hu ?_
  rintro r tl h' tk' F' N' - rfl ⟨t, rfl⟩
  exact ret t h' tk' F' (by rw [List.append_nil] at N'; exact N')
end
theorem gt3 {a b : Addr} (h : a + 1 + 1 + 1 < b) : b ≠ a + 1 + 1 + 1 ∧ b ≠ a + 1 + 1 := ⟨Nat.ne_of_gt h, Nat.ne_of_gt (Nat.lt_of_succ_lt h)⟩
section
open PySem.Spec
variable {prog : Program} {w : World} {A : Around} {E : Value → Shared → Prop} {s : Shared} {env : Env} {h₀ : Heap} {target : Expr} {body : List Stmt} {Q : Flow → Shared → Prop}
/-- a for over a list of the ledger, whatever its target; the ledger may grow -/
theorem iterTL {l : Addr} {vs : List Value} {nn : Nat} {m₀ : Str → Option Value} {news : List (Addr × Obj)} (J : Nat → (Str → Option Value) → List (Addr × Obj) → Prop)
    (hh : A.handled = none) (hl : ∀ i m nx, J i m nx → (l, listOf vs.toArray nn) ∈ nx) (F : Fr h₀ env.locals s.heap m₀) (N : News h₀ env.locals s.heap news) (hj : J 0 m₀ news)
    (turn : ∀ i v m₁ nx (s₁ : Shared) own, vs[i]? = some v → TbOff own nx → J i m₁ nx → Fr h₀ env.locals s₁.heap m₁ → News h₀ env.locals s₁.heap (nx ++ own) →
      wpAny (model prog w) A (assign target env v) (fun _ s₃ => wpAny (model prog w) A (execs body env) (fun f s₂ => f = .next ∧ TbEnd h₀ env.locals (J (i + 1)) own s₁ s₂) E s₃) E s₁)
    (done : ∀ m₁ nx h tk, J vs.length m₁ nx → Fr h₀ env.locals h m₁ → News h₀ env.locals h nx → Q .next { s with heap := h, toks := tk }) :
    wpAny (model prog w) A (pyIter (.ref l)) (fun it s₂ => LoopAtT prog w A h₀ env target body Q E it s₂) E s := by
  have hlN := hl 0 m₀ news hj
  have hol : s.heap.get? l = some (listOf vs.toArray nn) := (N _ hlN).1
  have hls : s.heap.IsList l vs.toArray := ⟨_, hol, rfl, nn, rfl⟩
  have hne : l ≠ s.heap.objs.size := Nat.ne_of_lt (Heap.lt_size hol)
  refine wpAny_pyIter_list hls ?_
  have W := Walks.list (prog := prog) (w := w) hh s.heap.objs.size l hne vs.toArray
  have hlen : vs.toArray.size = vs.length := by simp
  rw [hlen] at W
  refine ⟨_, _, _, vs.length, _, _, m₀, news, J, rfl, W, ?_, ?_, ?_, ⟨⟨_, Heap.get?_push_size _ rfl, rfl, rfl⟩, hls.at fun o e => Heap.get?_push_of_some _ e⟩, F.push _, (fun p hp => ⟨Heap.get?_push_of_some _ (N p hp).1, (N p hp).2⟩), (fun i s' v Q' st hQ' => letGo_listiter st.1 hQ'), hj, ?_, ?_⟩
  · intro hm
    rcases List.mem_cons.mp hm with e | hm
    · exact absurd F.ns.lt (e ▸ Nat.lt_irrefl _)
    · exact (N _ hlN).2.1 ((List.mem_singleton.mp hm).symm)
  · intro b hb
    rw [List.mem_singleton.mp hb]
    exact next_is_new F
  · intro p hp hI
    exact absurd (Heap.lt_size (N p hp).1) ((List.mem_singleton.mp hI) ▸ Nat.lt_irrefl _)
  · intro i v m₁ news₁ s₁ own hin hP hJ hoff hown hget hmem hst F₁ N₁
    obtain ⟨⟨oi, hoi, _⟩, _⟩ := hst
    have hI : (s.heap.objs.size, oi) ∈ own := hmem _ (.head _) (next_is_new F) oi hoi
    have hIf : (s.heap.objs.size, oi) ∈ own.filter fun p => decide (p.1 = s.heap.objs.size) := List.mem_filter.mpr ⟨hI, by simp⟩
    have hsep : TbOff (own.filter fun p => decide (p.1 = s.heap.objs.size)) news₁ := by
      intro p hp q hq e
      have h1 : p.1 = s.heap.objs.size := by simpa using (List.mem_filter.mp hp).2
      exact hoff q hq (List.mem_singleton.mpr (by rw [← e, h1]))
    have hv : vs[i]? = some v := by simpa using hP
    have hl₁ := hl i m₁ news₁ hJ
    have N₂ : News h₀ env.locals s₁.heap (news₁ ++ own.filter fun p => decide (p.1 = s.heap.objs.size)) := fun p hp => N₁ p ((List.mem_append.mp hp).elim (fun h => List.mem_append.mpr (.inr h)) fun h => List.mem_append.mpr (.inl ((List.mem_filter.mp h).1)))
    have hlo : s₁.heap.get? l = some (listOf vs.toArray nn) := (N₁ _ (List.mem_append.mpr (.inr hl₁))).1
    refine wpAny_mono (turn i v m₁ news₁ s₁ _ hv hsep hJ F₁ N₂) (fun _ s₃ p => wpAny_mono p (fun f s₂ p => ?_) fun _ _ e => e) fun _ _ e => e
    obtain ⟨rfl, h', tk, m', news', nx, e, F', N', hn, ho, ha, hm⟩ := p
    refine ⟨rfl, h', tk, m', nx, e, F', fun p hp => ?_, fun p hp hq => ?_, hm⟩
    · rcases List.mem_append.mp hp with h | h
      · by_cases hI : p.1 = s.heap.objs.size
        · exact N' p (ho p (List.mem_filter.mpr ⟨h, by simpa using hI⟩))
        · have h1 : p.1 = l := by
            rcases List.mem_cons.mp (hown p h) with h2 | h2
            · exact absurd h2 hI
            · exact List.mem_singleton.mp h2
          have h2 : s₁.heap.get? p.1 = some p.2 := hget p h
          rw [h1, hlo] at h2
          have h3 : p = (l, listOf vs.toArray nn) := Prod.ext h1 (Option.some.inj h2).symm
          rw [h3]
          exact N' _ (hn _ (hl _ _ _ hm))
      · exact N' p (hn p h)
    · exact ha _ hIf p hp (List.mem_singleton.mp hq).symm
  · rintro h' tk m' news' F' N' _ hJ
    exact done m' news' h' tk hJ F' N'
theorem forTL {σ : Type} {l : Addr} {vs : List Value} {nn : Nat} {m₀ : Str → Option Value} (Led : σ → List (Addr × Obj)) (ps : σ → List (Str × Value)) (x : Str) (stored : List Str) (P : Nat → σ → Prop) (c₀ : σ)
    (hh : A.handled = none) (hl : ∀ i c, P i c → (l, listOf vs.toArray nn) ∈ Led c) (F : Fr h₀ env.locals s.heap m₀) (N : News h₀ env.locals s.heap (Led c₀)) (hk : ∀ p ∈ ps c₀, m₀ p.1 = some p.2) (hp : P 0 c₀)
    (turn : ∀ (c : σ) i v (u : Str → Option Value) (s₁ : Shared) own, vs[i]? = some v → TbOff own (Led c) → P i c →
      Fr h₀ env.locals s₁.heap (fun y => if y = x then u y else kstB (fun z => if stored.contains z then u z else m₀ z) (ps c) y) → News h₀ env.locals s₁.heap (Led c ++ own) →
      wpAny (model prog w) A (assign target env v) (fun _ s₃ => wpAny (model prog w) A (execs body env) (fun f s₂ => f = .next ∧ TbEnd h₀ env.locals (GS Led ps x stored m₀ P (i + 1)) own s₁ s₂) E s₃) E s₁)
    (done : ∀ (c : σ) (u : Str → Option Value) h tk, P vs.length c → Fr h₀ env.locals h (fun y => if y = x then u y else kstB (fun z => if stored.contains z then u z else m₀ z) (ps c) y) → News h₀ env.locals h (Led c) → Q .next { s with heap := h, toks := tk }) :
    wpAny (model prog w) A (pyIter (.ref l)) (fun it s₂ => LoopAtT prog w A h₀ env target body Q E it s₂) E s := by
  refine iterTL (fun i m nx => GS Led ps x stored m₀ P i m nx) hh (fun i m nx ⟨c, e, _, _, h⟩ => e ▸ hl i c h) F N ⟨c₀, rfl, hk, fun _ _ _ _ => rfl, hp⟩ ?_ ?_
  · rintro i v m₁ nx s₁ own hv hoff ⟨c, rfl, h1, h2, hp'⟩ F₁ N₁
    exact turn c i v m₁ s₁ own hv hoff hp' (kst_frOut h1 h2 F₁) N₁
  · rintro m₁ nx h tk ⟨c, rfl, h1, h2, hp'⟩ F₁ N₁
    exact done c m₁ h tk hp' (kst_frOut h1 h2 F₁) N₁
end
section
open PySem.Calls
variable {prog : Program} {w : World} {A : Around} {h₀ : Heap} {L : Addr} {m : Str → Option Value} {env : Env} {elt : Expr} {x : Str} {scope : Scope} {cl : List (Str × Addr)} {s : Shared} {S : List (Addr × Obj) → Prop} {P : Nat → Value → Prop} {Fin : List Value → List (Addr × Obj) → Prop} {news : List (Addr × Obj)}
/-- a comprehension without a filter whose items are numbers and whose turns leave the ledger as it is -/
theorem comp_map {n : Nat} (f : Nat → Nat)
    (turn : ∀ i v ys I oI C oC D m₂ h tk (E' : Value → Shared → Prop), i < n → P i v → LCg.NsObj oC m₂ → m₂ x = some v → Fr h₀ L h m → News h₀ L h ((I, oI) :: (C, oC) :: (D, LCg.lst ys) :: news) → LCg.Off3 I C D news → ((@Ne Nat I C) ∧ (@Ne Nat I D) ∧ (@Ne Nat C D)) →
      wpAny (model prog w) A (eval elt (compEnvC scope cl C env)) (LCg.CompEnd h₀ L m { s with heap := h, toks := tk } I oI C oC D (LCg.lst ys) S (fun y news' => news' = news ∧ ∃ t : Tok, y = .int (f i : Nat) t)) E' { s with heap := h, toks := tk })
    (fin : ∀ ys, IntsAre ys (natsI ((List.range n).map f)) → Fin ys news) : LCg.CompRest prog w A h₀ L m env elt x scope cl s S P Fin n 0 [] news := by
  refine compJ (n := n) (fun i ys nx => nx = news ∧ IntsAre ys (natsI ((List.range i).map f))) ?_ ?_ n 0 [] news (by omega) ⟨rfl, .nil⟩
  · rintro i ys nx v I oI C oC D m₂ h tk E' hi hv ⟨rfl, hys⟩ hC hx F N off ne
    refine wpAny_mono (turn i v ys I oI C oC D m₂ h tk E' hi hv hC hx F N off ne) (fun y s₂ hq => ?_) fun _ _ e => e
    obtain ⟨h', tk', nx', e, F', N', off', hS, rfl, t, rfl⟩ := hq
    refine ⟨h', tk', nx', e, F', N', off', hS, rfl, ?_⟩
    rw [List.range_succ, List.map_append, show natsI ((List.range i).map f ++ [i].map f) = natsI ((List.range i).map f) ++ natsI [f i] from List.map_append]
    exact IntsAre.append hys (.cons _ t .nil)
  · rintro ys nx ⟨rfl, hys⟩
    exact fin ys hys
end
abbrev forTgt : Stmt → Expr
  | .For t _ _ _ _ => t
  | _ => default
section
open PySem.Calls
variable {prog : Program} {w : World} {A : Around} {E : Value → Shared → Prop} {s : Shared} {h₀ : Heap} {L D : Addr} {news : List (Addr × Obj)}
theorem item_lit_my {value slice : PySem.Expr} {us : List Value} {nn : Nat} {k : Int} {u : Tok} {v : Value} {Q : Value → Shared → Prop} (N : News h₀ L s.heap news) (hm : (D, listOf us.toArray nn) ∈ news) (hk : 0 ≤ k) (hk2 : k < 2 ^ 63) (e : us[k.toNat]? = some v) (h : Q v s)
    (hs : subscripted slice false (.ref D) (.int k u) = operate [.ref D, .int k u] (getItem (.ref D) (.int k u)) := by with_unfolding_all rfl) :
    wpAny (model prog w) A (subscriptTail value slice (.ref D) (.int k u)) Q E s := item_litK (News.isList N hm) hk hk2 e h hs
theorem item_st {value slice : PySem.Expr} {us : List Value} {nn i : Nat} {st : St} {u : Tok} {Q : Value → Shared → Prop} (N : News h₀ L s.heap news) (hm : (D, listOf us.toArray nn) ∈ news) (hi : IntsAre us (natsI st.list)) (hk : i < 6) (h : ∀ t, Q (.int ((st.list.getD i 0 : Nat) : Int) t) s)
    (hs : subscripted slice false (.ref D) (.int (0 + ((i : Nat) : Int)) u) = operate [.ref D, .int (0 + ((i : Nat) : Int)) u] (getItem (.ref D) (.int (0 + ((i : Nat) : Int)) u)) := by with_unfolding_all rfl) :
    wpAny (model prog w) A (subscriptTail value slice (.ref D) (.int (0 + ((i : Nat) : Int)) u)) Q E s :=
  item_my (xs := st.list) (j := i) N hm hi (Int.zero_add _) hk (Nat.le_of_ble_eq_true rfl) h hs
theorem xor_my {a b : Nat} {t u : Tok} {Q : Value → Shared → Prop} (h : Q (.int ((a ^^^ b : Nat) : Int) s.toks) { s with toks := s.toks + 1 }) : wpAny (model prog w) A (binaryOp .BitXor (.int (a : Int) t) (.int (b : Int) u)) Q E s := by
  refine xor_int ?_
  rw [xorN]; exact h
end
theorem ints6 {us : List Value} {s : St} (h : IntsAre us (natsI s.list)) : ∃ b1 b2 b3 b4 b5 b6, us = [.int s.u b1, .int s.v b2, .int s.w b3, .int s.x b4, .int s.y b5, .int s.z b6] := by
  simp only [St.list, natsI, List.map_cons, List.map_nil] at h
  cases h with
  | cons _ b1 h => cases h with
  | cons _ b2 h => cases h with
  | cons _ b3 h => cases h with
  | cons _ b4 h => cases h with
  | cons _ b5 h => cases h with
  | cons _ b6 h => cases h with
  | nil => exact ⟨b1, b2, b3, b4, b5, b6, rfl⟩
structure HorC where
  s : St
  t1 : Tok
  t2 : Tok
  t3 : Tok
  t4 : Tok
  t5 : Tok
  t6 : Tok
  oO : Obj
  vO : Option Value
theorem list_lt {a : St} (h : a.Ok) (i : Nat) : a.list.getD i 0 < 32 := by
  obtain ⟨h1, h2, h3, h4, h5, h6⟩ := h
  match i with
  | 0 => exact h1
  | 1 => exact h2
  | 2 => exact h3
  | 3 => exact h4
  | 4 => exact h5
  | 5 => exact h6
  | n + 6 => exact (by decide : (0 : Nat) < 32)
theorem O_ints {a b c d e f : Tok} : IntsAre [.int 0 a, .int 0 b, .int 0 c, .int 0 d, .int 0 e, .int 0 f] (natsI St.O.list) := IntsAre.cons 0 _ (.cons 0 _ (.cons 0 _ (.cons 0 _ (.cons 0 _ (.cons 0 _ .nil)))))
theorem valX {A B R : Nat} {i : Int} {t : Tok} (h : i = (B : Int)) (e : A ^^^ B = R) : some (Value.int (Builtin.bitXor (A : Int) i) t) = some (Value.int (R : Int) t) := by
  rw [h, xorN, e]
theorem dmN (t n : Nat) : Int.fmod (Int.fdiv ((t : Nat) : Int) (32 ^ n)) 32 = ((t / 32 ^ n % 32 : Nat) : Int) := by
  have h1 : (t : Int).fdiv (32 ^ n) = ((t / 32 ^ n : Nat) : Int) := by
    rw [Int.fdiv_eq_ediv_of_nonneg _ (Int.pow_nonneg (by decide))]; simp
  rw [h1, fmodN]
theorem expN (i : Nat) : (5 - (0 + ((i : Nat) : Int))).toNat = 5 - i := by omega
theorem dmI (t i : Nat) : Int.fmod (Int.fdiv ((t : Nat) : Int) (32 ^ (5 - (0 + ((i : Nat) : Int))).toNat)) 32 = ((t / 32 ^ (5 - i) % 32 : Nat) : Int) := by
  rw [expN, dmN]
theorem pow_ne0 (n : Nat) : (32 : Int) ^ n ≠ 0 := Int.ne_of_gt (Int.pow_pos (by decide))
theorem pylN (x : Int) (i : Nat) : Builtin.divisionGoesByPylong x (32 ^ (5 - (0 + ((i : Nat) : Int))).toNat) = false := by
  refine PyProof.noPylong_small ?_
  rw [expN, Int.natAbs_pow]
  have := Nat.pow_le_pow_right (n := 32) (by decide) (show 5 - i ≤ 5 by omega)
  exact Nat.lt_of_le_of_lt this (by decide)
section
open PySem.Calls
variable {prog : Program} {w : World} {A : Around} {E : Value → Shared → Prop} {s : Shared}
theorem modI_my {a i : Nat} {t u : Tok} {Q : Value → Shared → Prop} (h : Q (.int ((a / 32 ^ (5 - i) % 32 : Nat) : Int) s.toks) { s with toks := s.toks + 1 }) : wpAny (model prog w) A (binaryOp .Mod (.int (Int.fdiv (a : Int) (32 ^ (5 - (0 + ((i : Nat) : Int))).toNat)) t) (.int 32 u)) Q E s := by
  refine mod_int' (by decide) ?_
  rw [dmI]; exact h
end
theorem digs_map (p : Nat) : (List.range 6).map (fun i => p / 32 ^ (5 - i) % 32) = (digs p).list := rfl
theorem ints_set {us : List Value} {ns : List Int} (h : IntsAre us ns) : ∀ (i : Nat) (v : Int) (t : Tok), IntsAre (us.set i (.int v t)) (ns.set i v) := by
  induction h with
  | nil => intro i v t; exact .nil
  | cons n u r ih =>
    intro i v t
    cases i with
    | zero => exact .cons v t r
    | succ i => exact .cons n u (ih i v t)
theorem setL_some : ∀ (us : List Value) (i : Nat) (v : Value), i < us.length → ki_setL us i v = some (us.set i v)
  | [], _, _, h => absurd h (Nat.not_lt_zero _)
  | _ :: _, 0, _, _ => rfl
  | x :: r, i + 1, v, h => by
    unfold ki_setL
    rw [setL_some r i v (Nat.lt_of_succ_lt_succ h)]; rfl
section
open PySem.Calls
variable {prog : Program} {w : World} {A : Around} {E : Value → Shared → Prop} {s : Shared} {h₀ : Heap} {L D : Addr} {m : Str → Option Value} {rest news : List (Addr × Obj)}
theorem set_my {us : List Value} {xs : List Nat} {n : Nat} {k : Int} {i v : Nat} {t t0 : Tok} {Q : Unit → Shared → Prop} (F : Fr h₀ L s.heap m) (N : News h₀ L s.heap ((D, listOf us.toArray n) :: rest)) (ha : ∀ p ∈ rest, p.1 ≠ D) (hi : IntsAre us (natsI xs)) (hk : k = ((i : Nat) : Int)) (hb : i < xs.length) (hc : xs.length ≤ 1000)
    (h : ∀ h' us', IntsAre us' (natsI (xs.set i v)) → Fr h₀ L h' m → News h₀ L h' ((D, listOf us'.toArray n) :: rest) → Q () { s with heap := h' }) : wpAny (model prog w) A (setItem (.ref D) (.int k t0) (.int (v : Nat) t)) Q E s := by
  subst hk
  have hl : us.length = xs.length := by rw [hi.length, natsI, List.length_map]
  refine ki_set F N (by omega) (by omega) (q := us.set i (.int (v : Nat) t)) ?_ (.head ha) (fun h' F' N' => h h' _ ?_ F' N')
  · rw [Int.toNat_natCast]
    exact setL_some us i _ (by omega)
  · have e := ints_set hi i ((v : Nat) : Int) t
    rwa [show (natsI xs).set i ((v : Nat) : Int) = natsI (xs.set i v) from by rw [natsI, natsI, List.map_set]; rfl] at e
theorem item_at {value slice : PySem.Expr} {us : List Value} {nn i : Nat} {xs : List Nat} {u : Tok} {Q : Value → Shared → Prop} (N : News h₀ L s.heap news) (hm : (D, listOf us.toArray nn) ∈ news) (hi : IntsAre us (natsI xs)) (hk : i < xs.length) (hb : xs.length ≤ 1000) (h : ∀ t, Q (.int ((xs.getD i 0 : Nat) : Int) t) s)
    (hs : subscripted slice false (.ref D) (.int (0 + ((i : Nat) : Int)) u) = operate [.ref D, .int (0 + ((i : Nat) : Int)) u] (getItem (.ref D) (.int (0 + ((i : Nat) : Int)) u)) := by with_unfolding_all rfl) :
    wpAny (model prog w) A (subscriptTail value slice (.ref D) (.int (0 + ((i : Nat) : Int)) u)) Q E s :=
  item_my (xs := xs) (j := i) N hm hi (Int.zero_add _) hk hb h hs
theorem item_at2 {value slice : PySem.Expr} {us : List Value} {nn i j : Nat} {xs : List Nat} {u : Tok} {Q : Value → Shared → Prop} (N : News h₀ L s.heap news) (hm : (D, listOf us.toArray nn) ∈ news) (hi : IntsAre us (natsI xs)) (hk : i + j < xs.length) (hb : xs.length ≤ 1000) (h : ∀ t, Q (.int ((xs.getD (i + j) 0 : Nat) : Int) t) s)
    (hs : subscripted slice false (.ref D) (.int (0 + ((i : Nat) : Int) + (0 + ((j : Nat) : Int))) u) = operate [.ref D, .int (0 + ((i : Nat) : Int) + (0 + ((j : Nat) : Int))) u] (getItem (.ref D) (.int (0 + ((i : Nat) : Int) + (0 + ((j : Nat) : Int))) u)) := by with_unfolding_all rfl) :
    wpAny (model prog w) A (subscriptTail value slice (.ref D) (.int (0 + ((i : Nat) : Int) + (0 + ((j : Nat) : Int))) u)) Q E s :=
  item_my (xs := xs) (j := i + j) N hm hi (by omega) hk hb h hs
end
structure MadeC where
  us : List Value
set_option maxRecDepth 100000 in
set_option maxHeartbeats 8000000 in
open_top hd01 for PySem.Challenge.rw_oo0001_01
theorem top_off : True := by
  w_top off
  exact True.intro
open PySem.Spec
set_option maxRecDepth 100000
local macro_rules | `(tactic| tb_start) => `(tactic| repeat' (first
  | (k_unfold; (try dsimp only))
  | ((fail_if_success (with_reducible show wpAny _ _ (PySem.exec (PySem.Stmt.For _ _ _ _ _) _) _ _ _)); (fail_if_success (with_reducible show wpAny _ _ (PySem.exec (PySem.Stmt.While _ _ _ _) _) _ _ _)); (fail_if_success (with_reducible show wpAny _ _ (PySem.pyIter _) _ _ _)); (fail_if_success (with_reducible show InvPostN _ _ _ _ _ _ _ _ _)); (fail_if_success (with_reducible show InvEndN _ _ _ _ _ _ _)); (fail_if_success (with_reducible show ShiftWantsBound)); (fail_if_success (with_reducible show wpAny _ _ (PySem.call (Value.ref _) _) _ _ _));
     first | walk1 | (dsimp only; walk1))))
local macro_rules | `(tactic| walk_at "binaryOp LShift int int") => `(tactic| (refine lshift_int_small (by decide) (by decide) (and_bound _) ?_))
local macro_rules | `(tactic| walk_at "call builtin:len") => `(tactic| ((with_reducible show wpAny _ _ (call (Value.builtin "len") [Value.ref _]) _ _ _); (refine len_my (by k_asm) (by k_dflt k_mem) (by with_reducible assumption) (by omega) ?_)))
local macro_rules | `(tactic| walk_at "call builtin:list.append") => `(tactic| ((with_reducible show wpAny _ _ (call (Value.builtin "list.append") [Value.ref _, _]) _ _ _); (refine' append_my (by k_asm) (by k_asm) ?U ?hi ?hf ?_; (case hi => with_reducible assumption); (case hf => omega); (case U => first | exact Upd.head (fun p hp => Nat.ne_of_lt (by apply_assumption; assumption)) | k_upd)); intro h' F' N'; (try k_sweep)))
local macro_rules | `(tactic| k_all) => `(tactic| with_reducible assumption)
local macro_rules | `(tactic| tb_rel) => `(tactic| (refine' code_defC ?k1 ?k2 ?k3 ?k4 ?k5 ?kA ?kF ?kK ?k6 ?k7 ?k8 ?k9 ?kB ?kD ?_ ?c2 ?c3 ?c4; (case kA => exact rfl); (case kF => exact rfl); (case kK => assumption); (case k1 => k_asm); (case k2 => k_asm); (case k3 => k_asm); (case k4 => k_asm); (case k5 => k_asm); (case k6 => k_is); (case k7 => k_is); (case k8 => ktr_room); (case k9 => exact BindsTo.of_eq rfl); (case kB => exact rfl); (case kD => decide +kernel); (case c2 => exact rfl); (case c3 => exact rfl); (case c4 => exact rfl); k_whole))
local macro_rules | `(tactic| walk_at "subscriptTail Name Name ref int") => `(tactic| (refine' item_my ?xN ?xm ?xi ?xj ?hk ?hb ?_ ?hs; (case xN => k_asm); (case xm => k_dflt k_mem); (case xi => with_reducible assumption); (case xj => rfl); (case hk => (rw [byTab_len]; omega)); (case hb => (rw [byTab_len]; decide)); (case hs => with_unfolding_all rfl); intro _))
local macro_rules | `(tactic| walk_at "eval Call") => `(tactic| ((with_reducible show wpAny _ _ (PySem.eval (PySem.Expr.Call (PySem.Expr.Name (PySem.Str.ofString "_law_at") _) _ [] _) _) _ _ _); k_dflt (refine Call_ ?_)))
local macro_rules | `(tactic| walk_at "eval Call") => `(tactic| ((with_reducible show wpAny _ _ (PySem.eval (PySem.Expr.Call (PySem.Expr.Name (PySem.Str.ofString "_law_digits") _) _ [] _) _) _ _ _); k_dflt (refine Call_ ?_)))
local macro_rules | `(tactic| walk_at "eval Call") => `(tactic| ((with_reducible show wpAny _ _ (PySem.eval (PySem.Expr.Call (PySem.Expr.Name (PySem.Str.ofString "bech32_polymod") _) _ [] _) _) _ _ _); k_dflt (refine Call_ ?_)))
local macro_rules | `(tactic| walk_at "eval Call") => `(tactic| ((with_reducible show wpAny _ _ (PySem.eval (PySem.Expr.Call (PySem.Expr.Name (PySem.Str.ofString "_law_run") _) _ [] _) _) _ _ _); k_dflt (refine Call_ ?_)))
local macro_rules | `(tactic| walk_at "subscriptTail Name Slice ref ref") => `(tactic| ((with_reducible show wpAny _ _ (PyProof.Rows.subscriptTail _ (PySem.Expr.Slice _ _ none _) (Value.ref _) (Value.ref _)) _ _ _); k_dflt (refine' slice_my ?xsF ?xsN ?xsm ?xsi ?xsb ?xsp ?xsq ?xsk ?_ ?xss ?xst; (case xsF => k_asm); (case xsN => k_asm); (case xsm => k_mem); (case xsi => with_reducible assumption); (case xsb => omega); (case xsp => kmk_part); (case xsq => kmk_part); (case xsk => first | exact kmk_upto (by with_reducible assumption) (by omega) | exact kmk_from (by with_reducible assumption) (by omega) | exact kmk_run (by with_reducible assumption) (by omega) (by omega)); (case xss => with_unfolding_all rfl); (case xst => kmk_pure)); intro D' ws' h' F' N' l1 hI'; (try k_lt l1); (try k_sweep)))
local macro_rules | `(tactic| k_mem) => `(tactic| first | with_reducible assumption | exact List.mem_cons_self | (refine' List.mem_cons_of_mem _ ?_; k_mem))
local macro_rules | `(tactic| walk_at "subscriptTail Name Constant ref int") => `(tactic| (refine' item_my (j := 5) ?xN ?xm ?xi ?xj ?hk ?hb ?_ ?hs; (case xN => k_asm); (case xm => k_dflt k_mem); (case xi => with_reducible assumption); (case xj => rfl); (case hk => exact Nat.le_of_ble_eq_true rfl); (case hb => exact Nat.le_of_ble_eq_true rfl); (case hs => with_unfolding_all rfl); intro _))
local macro_rules | `(tactic| walk_at "eval Call") => `(tactic| ((with_reducible show wpAny _ _ (PySem.eval (PySem.Expr.Call (PySem.Expr.Name (PySem.Str.ofString "_law_powers") _) _ [] _) _) _ _ _); k_dflt (refine Call_ ?_)))
local macro_rules | `(tactic| walk_at "eval Call") => `(tactic| ((with_reducible show wpAny _ _ (PySem.eval (PySem.Expr.Call (PySem.Expr.Name (PySem.Str.ofString "_law_logs") _) _ [] _) _) _ _ _); k_dflt (refine Call_ ?_)))
local macro_rules | `(tactic| walk_at "eval Call") => `(tactic| ((with_reducible show wpAny _ _ (PySem.eval (PySem.Expr.Call (PySem.Expr.Name (PySem.Str.ofString "_law_times") _) _ [] _) _) _ _ _); k_dflt (refine Call_ ?_)))
set_option maxHeartbeats 8000000 in
theorem dig_tells (w : World) (loose : List Str) (mean : ExcName → Option Value) (mg mb : Str → Option Value) (d : Int × Int) :
  TellsN Challenge.rw_oo0001_01.row.prog w (hd01.heap_39 w.params) hd01.view_39 loose mean mg mb 49 cDig d := by
  k_fill
  unfold TellsN
  intro dp un gd cn cs a ccd cl outer A₀ base h₀ L m news s vs Q E B F X N T hk hR hok hd hu hret
  obtain ⟨num, most⟩ := d
  obtain ⟨t0, t1, t2, rfl⟩ := hR
  dsimp only [cDig] at hok hd hu hret
  refine wpAny_call ?_
  k_dflt ktr_enter
  w_strict tb_start
  have e1 : (if num < 0 then -num else num) = ((num.natAbs : Nat) : Int) := by split <;> omega
  rename Fr _ _ _ _ => F1
  rename News _ _ _ _ => N1
  rw [e1] at F1 N1
  rw [fmodN] at N1
  with_unfolding_all refine' ksw_while (σ := DigC) (fun c => (_, listOf c.us.toArray c.nn) :: news) (fun c => [("number", .int c.num c.tk)]) (fun _ => True) [] (fun c => IntsAre c.us (natsI c.xs) ∧ (∀ x ∈ c.xs, x < 32) ∧ 1 ≤ c.xs.length ∧ (c.xs.length : Int) ≤ most) (fun c => c.num) ⟨num.natAbs, _, [Value.int ((num.natAbs % 32 : Nat) : Int) _], 0, [num.natAbs % 32]⟩ F1 N1 trivial ?q1 ?q2 ?q3
  case q1 => intro p hp; rcases List.mem_singleton.mp hp with rfl; rfl
  case q2 => exact ⟨.cons _ _ .nil, by simp; omega, by simp, by simp; omega⟩
  case q3 =>
    clear F1 N1
    intro c u h tk _ hp F2 N2
    obtain ⟨hI, hlt, hge, hle⟩ := hp
    have hle2 : (natsI c.xs).length ≤ 64 := by simp only [natsI, List.length_map]; omega
    tb_start
    · rename Fr _ _ _ _ => F3
      rename News _ _ _ _ => N3
      rename (32 ≤ (c.num : Int)) => hn
      rename (_ < Prod.snd _) => hlm
      rw [fdivN] at F3 N3
      rw [fmodN] at N3
      have hlm' : (c.xs.length : Int) < most := by simpa [natsI] using hlm
      refine' ksw_end (⟨c.num / 32, ?tkq, c.us ++ [_], c.nn + 1, c.xs ++ [c.num / 32 % 32]⟩ : DigC) F3 N3 (fun _ => id) trivial ?g1 ?g2 ?g3 ?g4
      case g1 => intro p hp; rcases List.mem_singleton.mp hp with rfl; exact if_pos rfl
      case g2 =>
        intro z h2 h3
        have h4 : z ≠ "number" := h2 _ (.head _)
        simp only [kstB, if_neg h4, List.contains_nil, Bool.false_eq_true, if_false]
      case g3 =>
        refine ⟨?_, ?_, by simp, by simp; omega⟩
        · simp only [natsI, List.map_append]; exact IntsAre.append hI (.cons _ _ .nil)
        · intro x hx
          rcases List.mem_append.mp hx with hx | hx
          · exact hlt x hx
          · rw [List.mem_singleton.mp hx]; omega
      case g4 => show c.num / 32 < c.num; omega
    all_goals
      rename Fr h₀ _ _ _ => kF
      rename News h₀ _ _ _ => kN
      rename (∀ p ∈ news, p.1 < _) => hl1
      refine hret _ [_] _ _ kF (ktn_tl1 kN) (fun q hq p hp => ?_) ⟨_, rfl⟩ ⟨_, _, _, c.xs, rfl, List.getLast?_concat, hI, hlt, hge, hle⟩
      rw [List.mem_singleton.mp hp]; exact hl1 q hq
set_option maxHeartbeats 8000000 in
theorem by_tells (w : World) (loose : List Str) (mean : ExcName → Option Value) (mg mb : Str → Option Value) (d : Nat) :
  TellsN Challenge.rw_oo0001_01.row.prog w (hd01.heap_39 w.params) hd01.view_39 loose mean mg mb 54 cBy d := by
  k_fill
  unfold TellsN
  intro dp un gd cn cs a ccd cl outer A₀ base h₀ L m news s vs Q E B F X N T hk hR hok hd hu hret
  obtain ⟨t0, rfl⟩ := hR
  dsimp only [cBy] at hok hd hu hret
  refine wpAny_call ?_
  k_dflt tb_rel
  intro g1 L1 h1 tk1 cells1 FG1 F1 N1 Y1 B1 X1 T1 l1
  k_cells Y1
  simp only [List.cons_append, List.nil_append] at N1
  try dsimp only
  try k_fold
  have hoffn : ∀ p ∈ news, p.1 ≠ L1 + 1 := fun p hp e => absurd (l1 p hp) (by rw [e]; exact Nat.not_lt.mpr (Nat.le_succ _))
  w_strict tb_start
  rename Fr _ _ _ _ => F1
  rename News _ _ _ _ => N1
  rename (Obj.data _ = Data.cell _) => hcd
  rename Obj => ob0
  have hcd' : ob0.data = .cell (some (.int ((d : Nat) : Int) t0)) := by first | exact hcd | (rw [hcd]; rfl)
  rename (_ ∧ AllLt _ _) => hlt1
  with_unfolding_all refine' ksw_while (σ := ByC) (fun c => (L1 + 1, c.cell) :: (c.tab, listOf c.us.toArray c.nn) :: news) (fun c => [("table", .ref c.tab)]) (fun _ => True) [] (fun c => c.cell.data = .cell (some (.int ((byIt d c.i).1 : Nat) c.tk)) ∧ IntsAre c.us (natsI (byIt d c.i).2) ∧ c.i ≤ 5 ∧ L1 + 1 < c.tab) (fun c => 5 - c.i) ⟨0, t0, [Value.int 0 _], 0, _, ob0⟩ F1 (kst_newsOf N1 ?q0) trivial ?q1 ?q2 ?q3
  case q0 => intro p hp; rcases List.mem_cons.mp hp with rfl | hp; exact .tail _ (.head _); rcases List.mem_cons.mp hp with rfl | hp; exact .head _; exact .tail _ (.tail _ hp)
  case q1 => intro p hp; rcases List.mem_singleton.mp hp with rfl; rfl
  case q2 => exact ⟨hcd', .cons _ _ .nil, Nat.zero_le _, hlt1.1⟩
  case q3 =>
    clear F1 N1
    intro c u h tk _ hp F2 N2
    obtain ⟨hcd2, hI, hi5, hlt3⟩ := hp
    replace hlt3 := ltN hlt3
    have hlen : (natsI (byIt d c.i).2).length = 2 ^ c.i := by simp only [natsI, List.length_map]; exact byIt_len d c.i
    have hlen2 : (natsI (byIt d c.i).2).length ≤ 32 := by rw [hlen]; exact Nat.pow_le_pow_right (by decide) hi5
    tb_start
    · rename Fr _ _ _ _ => F3
      rename News _ _ _ _ => N3
      rename (_ ∧ _ ∧ _ ∧ AllLt _ _) => hl4
      rename (Obj.data _ = _) => hd4
      rename (IntsAre _ (_ ++ _)) => hI4
      rename (_ < (32 : Int)) => hlt5
      rename (15 < _) => hbr
      have hi6 : c.i + 1 ≤ 5 := by
        have h2 : 2 ^ c.i < 32 := by rw [← hlen]; omega
        rcases Nat.lt_or_ge c.i 5 with h | h
        · exact h
        · exact absurd (Nat.pow_le_pow_right (by decide : 0 < 2) h) (by omega)
      rename Obj => ob4
      refine' ksw_end (⟨c.i + 1, _, _, _, _, ob4⟩ : ByC) F3 (kst_newsOf N3 ?g0x) (fun _ => id) trivial ?g1x ?g2x ?g3x ?g4x
      case g1x => intro p hp; rcases List.mem_singleton.mp hp with rfl; exact if_pos rfl
      case g0x => intro p hp; rcases List.mem_cons.mp hp with rfl | hp; exact .tail _ (.tail _ (.head _)); rcases List.mem_cons.mp hp with rfl | hp; exact .head _; exact .tail _ (.tail _ (.tail _ (.tail _ hp)))
      case g2x =>
        intro z h2 h3
        have h4 : z ≠ "table" := h2 _ (.head _)
        simp only [kstB, if_neg h4, List.contains_nil, Bool.false_eq_true, if_false]
      case g3x =>
        refine ⟨?_, ?_, hi6, hl4.2.1⟩
        · rw [byVal_a hbr] at hd4; exact hd4
        · rw [natsI_xor, ← List.map_append] at hI4; exact hI4
      case g4x => show 5 - (c.i + 1) < 5 - c.i; omega
    · rename Fr _ _ _ _ => F3
      rename News _ _ _ _ => N3
      rename (_ ∧ _ ∧ _ ∧ AllLt _ _) => hl4
      rename (Obj.data _ = _) => hd4
      rename (IntsAre _ (_ ++ _)) => hI4
      rename (_ < (32 : Int)) => hlt5
      rename (¬ 15 < _) => hbr
      have hi6 : c.i + 1 ≤ 5 := by
        have h2 : 2 ^ c.i < 32 := by rw [← hlen]; omega
        rcases Nat.lt_or_ge c.i 5 with h | h
        · exact h
        · exact absurd (Nat.pow_le_pow_right (by decide : 0 < 2) h) (by omega)
      rename Obj => ob4
      refine' ksw_end (⟨c.i + 1, _, _, _, _, ob4⟩ : ByC) F3 (kst_newsOf N3 ?g0y) (fun _ => id) trivial ?g1y ?g2y ?g3y ?g4y
      case g1y => intro p hp; rcases List.mem_singleton.mp hp with rfl; exact if_pos rfl
      case g0y => intro p hp; rcases List.mem_cons.mp hp with rfl | hp; exact .tail _ (.tail _ (.head _)); rcases List.mem_cons.mp hp with rfl | hp; exact .head _; exact .tail _ (.tail _ (.tail _ (.tail _ hp)))
      case g2y =>
        intro z h2 h3
        have h4 : z ≠ "table" := h2 _ (.head _)
        simp only [kstB, if_neg h4, List.contains_nil, Bool.false_eq_true, if_false]
      case g3y =>
        refine ⟨?_, ?_, hi6, hl4.2.1⟩
        · rw [byVal_b hbr] at hd4; exact hd4
        · rw [natsI_xor, ← List.map_append] at hI4; exact hI4
      case g4y => show 5 - (c.i + 1) < 5 - c.i; omega
    · rename (¬ _ < (32 : Int)) => hge
      rename Fr h₀ _ _ _ => kF
      rename News h₀ _ _ _ => kN
      have hfin : c.i = 5 := by
        have h2 : ¬ (2 ^ c.i < 32) := by rw [← hlen]; omega
        rcases Nat.lt_or_ge c.i 5 with h | h
        · exact absurd (Nat.pow_lt_pow_right (by decide : 1 < 2) h) h2
        · omega
      rw [hfin] at hI
      refine hret _ [(c.tab, _)] _ _ kF (ktn_tl1 (kst_newsOf kN (fun p hp => .tail _ hp))) (fun q hq p hp => ?_) ⟨_, rfl⟩ ⟨_, _, _, _, rfl, List.getLast?_concat, hI, rfl⟩
      rw [List.mem_singleton.mp hp]
      exact Nat.lt_trans (l1 q hq) (Nat.lt_of_succ_lt hlt3)
set_option maxHeartbeats 8000000 in
theorem poly_tells (w : World) (loose : List Str) (mean : ExcName → Option Value) (mg mb : Str → Option Value) (d : LD) :
  TellsN Challenge.rw_oo0001_01.row.prog w (hd01.heap_39 w.params) hd01.view_39 loose mean mg mb 21 cPoly d := by
  k_fill
  unfold TellsN
  intro dp un gd cn cs a ccd cl outer A₀ base h₀ L m news s vs Q E B F X N T hk hR hok hd hu hret
  obtain ⟨rfl, hmem, hints⟩ := hR
  dsimp only [cPoly] at hok hd hu hret
  refine wpAny_call ?_
  k_dflt ktr_enter
  w_strict tb_start
  rename Fr _ _ _ _ => F1
  rename News _ _ _ _ => N1
  with_unfolding_all refine' For_invVF F1 ?k1 ?k2 ?_
  case k1 => exact rfl
  case k2 => exact rfl
  tb_start
  with_unfolding_all refine' kst_listL (σ := Nat × Nat) (ns := d.ns) (fun _ => _) (fun c => [("chk", .int c.1 c.2)]) (fun _ => True) ["top","i"] (fun pre c => c.1 = polyN (pre.map Int.toNat)) (1, _) (by rfl) (fun _ => List.mem_cons_of_mem _ hmem) hints F1 N1 trivial ?q1 ?q2 ?turn ?done
  case q1 => intro p hp; rcases List.mem_singleton.mp hp with rfl; rfl
  case q2 => rfl
  case turn =>
    intro c pre post n t u h tk own hns hnm hoff _ hp F2 N2
    clear F1 N1
    obtain ⟨h0, h1⟩ := hok.1 n hnm
    obtain ⟨v, rfl⟩ := Int.eq_ofNat_of_zero_le h0
    tb_start
    rename Fr _ _ _ _ => F3
    rename News _ _ _ _ => N3
    with_unfolding_all refine' For_invVF F3 ?k1 ?k2 ?_
    case k1 => exact rfl
    case k2 => exact rfl
    tb_start
    rename Fr _ _ _ _ => F4
    rename News _ _ _ _ => N4
    rename IsRange _ _ _ _ _ _ _ _ => R4
    with_unfolding_all refine' iterRange_acc1 (y := "chk") (gI ((c.1 : Int).fdiv (2 ^ Int.toNat 25))) (by rfl) R4 (by decide) (by rfl) F4 N4 (by rfl) ?turn2 ?done2
    case turn2 =>
      intro k t5 a5 ta5 h5 tk5 own5 hlo hhi hoff5 F5 N5
      clear F4 N4
      have hhi' : k < 5 := hhi
      tb_start
      all_goals (rename Fr _ _ _ _ => F6; rename News _ _ _ _ => N6)
      · rename _ ≠ _ => hb
        refine InvEndN.intro F6 N6 ⟨rfl, ?_, ?_⟩ rfl (fun p hp => List.mem_append_left _ hp) (fun p hp => List.mem_append_right _ hp)
        · rw [show gI _ a5 k = _ from if_pos hb]; exact ⟨_, if_pos rfl⟩
        · intro z h1 h2; simp only [if_neg h1, if_neg h2]
      · rename _ = _ => hb
        refine InvEndN.intro F6 N6 ⟨rfl, ?_, ?_⟩ rfl (fun p hp => List.mem_append_left _ hp) (fun p hp => List.mem_append_right _ hp)
        · rw [show gI _ a5 k = _ from if_neg (not_not_intro hb)]; exact ⟨_, if_pos rfl⟩
        · intro z h1 h2; simp only [if_neg h1, if_neg h2]
    case done2 =>
      intro u5 t5 h5 tk5 F5 N5
      clear F4 N4
      dsimp only
      tb_start
      refine kst_end (polyStep c.1 v, t5) F5 N5 (fun p hp => List.mem_append_left _ hp) (fun p hp => List.mem_append_right _ hp) rfl trivial ?f1 ?f2 ?f3
      case f1 =>
        intro p hp
        rcases List.mem_singleton.mp hp with rfl
        show _ = some (Value.int (polyStep c.1 v : Nat) t5)
        rw [← gI_fold c.1 v]
        rfl
      case f2 =>
        intro z h1 h2 h3
        have h4 : z ≠ "chk" := h2 _ (.head _)
        have h5 : z ≠ "top" ∧ z ≠ "i" := by simpa using h3
        simp only [kstB, if_neg h1, if_neg h4, if_neg h5.1, if_neg h5.2, h3, Bool.false_eq_true, if_false]
      case f3 =>
        simp only [List.map_append, polyN, List.foldl_append, hp]; rfl
  case done =>
    intro c u h tk _ hp F2 N2
    clear F1 N1
    dsimp only
    tb_start
    rename Fr h₀ _ _ _ => kF
    rename News h₀ _ _ _ => kN
    rw [hp]
    exact hret _ [] _ _ kF (by rw [List.append_nil]; exact kst_newsOf kN (fun p hp => List.mem_cons_of_mem _ hp)) ktn_ord0 rfl ⟨_, rfl⟩
set_option maxHeartbeats 8000000 in
theorem at_tells (w : World) (loose : List Str) (mean : ExcName → Option Value) (mg mb : Str → Option Value) :
  AtTells Challenge.rw_oo0001_01.row.prog w (hd01.heap_39 w.params) hd01.view_39 loose mean mg mb 42 := by
  k_fill
  unfold AtTells
  intro dp un gd cn cs a ccd cl outer A₀ base h₀ L m news s l vs ns i tk o tko Q E B F X N T hk hl hi hfit h0 hd hu hret
  refine wpAny_call ?_
  k_dflt cell_enter
  w_strict (k_steps)
  all_goals exact hret _ _ _ _ (by k_asm) (by k_asm)
set_option maxHeartbeats 8000000 in
theorem powers_tells (w : World) (loose : List Str) (mean : ExcName → Option Value) (mg mb : Str → Option Value) (d : Unit) :
  TellsN Challenge.rw_oo0001_01.row.prog w (hd01.heap_39 w.params) hd01.view_39 loose mean mg mb 28 (cConst POW) d := by
  k_fill
  unfold TellsN
  intro dp un gd cn cs a ccd cl outer A₀ base h₀ L m news s vs Q E B F X N T hk hR hok hd hu hret
  obtain rfl := hR
  dsimp only [cConst] at hok hd hu hret
  refine wpAny_call ?_
  k_dflt ktr_enter
  w_strict tb_start
  rename Fr h₀ _ _ _ => kF
  rename News h₀ _ _ _ => kN
  refine hret _ [(_, _)] _ _ kF (ktn_tl1 kN) (fun q hq p hp => by rw [List.mem_singleton.mp hp]; exact (by assumption : ∀ p ∈ news, p.1 < _) q hq) ⟨_, rfl⟩ ⟨_, _, _, _, rfl, List.getLast?_concat, ?_, rfl⟩
  repeat (first | exact IntsAre.nil | refine IntsAre.cons _ _ ?_)
set_option maxHeartbeats 8000000 in
theorem logs_tells (w : World) (loose : List Str) (mean : ExcName → Option Value) (mg mb : Str → Option Value) (d : Unit) :
  TellsN Challenge.rw_oo0001_01.row.prog w (hd01.heap_39 w.params) hd01.view_39 loose mean mg mb 35 (cConst LOG) d := by
  k_fill
  unfold TellsN
  intro dp un gd cn cs a ccd cl outer A₀ base h₀ L m news s vs Q E B F X N T hk hR hok hd hu hret
  obtain rfl := hR
  dsimp only [cConst] at hok hd hu hret
  refine wpAny_call ?_
  k_dflt ktr_enter
  w_strict tb_start
  rename Fr h₀ _ _ _ => kF
  rename News h₀ _ _ _ => kN
  refine hret _ [(_, _)] _ _ kF (ktn_tl1 kN) (fun q hq p hp => by rw [List.mem_singleton.mp hp]; exact (by assumption : ∀ p ∈ news, p.1 < _) q hq) ⟨_, rfl⟩ ⟨_, _, _, _, rfl, List.getLast?_concat, ?_, rfl⟩
  repeat (first | exact IntsAre.nil | refine IntsAre.cons _ _ ?_)
set_option maxHeartbeats 8000000 in
theorem times_tells (w : World) (loose : List Str) (mean : ExcName → Option Value) (mg mb : Str → Option Value) (d : Nat × Nat) :
  TellsN Challenge.rw_oo0001_01.row.prog w (hd01.heap_39 w.params) hd01.view_39 loose mean mg mb 61 cTimes d := by
  k_fill
  unfold TellsN
  intro dp un gd cn cs a ccd cl outer A₀ base h₀ L m news s vs Q E B F X N T hk hR hok hd hu hret
  obtain ⟨t0, t1, rfl⟩ := hR
  dsimp only [cTimes] at hok hd hu hret
  obtain ⟨ha, hb⟩ := hok
  refine wpAny_call ?_
  k_dflt ktr_enter
  w_strict tb_start
  · rename Fr h₀ _ _ _ => kF
    rename News h₀ _ _ _ => kN
    rename (_ = (0 : Int)) => hz
    have hz2 : tmN d.1 d.2 = 0 := if_pos (.inl (by omega))
    exact hret _ [] _ _ kF (by rw [List.append_nil]; exact kN) ktn_ord0 rfl ⟨_, by rw [hz2]; rfl⟩
  · rename Fr h₀ _ _ _ => kF
    rename News h₀ _ _ _ => kN
    rename (_ = (0 : Int)) => hz
    have hz2 : tmN d.1 d.2 = 0 := if_pos (.inr (by omega))
    exact hret _ [] _ _ kF (by rw [List.append_nil]; exact kN) ktn_ord0 rfl ⟨_, by rw [hz2]; rfl⟩
  · rename ((d.2 : Int) ≠ (0 : Int)) => hz
    rename ((d.1 : Int) ≠ (0 : Int)) => hz1
    dsimp only [List.append_nil]
    k_dflt (refine' tellsN_use (c := cConst POW) (d := ()) ?ya1 ?ya2 ?ya3 ?ya4 ?ya5 ?yaK ?yaR (powers_tells _ _ _ _ _ _) ?yao ?yad ?yau ?_)
    case ya1 => k_asm
    case ya2 => k_asm
    case ya3 => k_asm
    case ya4 => k_asm
    case ya5 => k_asm
    case yaK => first | exact rfl | assumption
    case yaR => exact rfl
    case yao => trivial
    case yad => ktr_room
    case yau => ktr_units
    intro r1 tl1 h1 tk1 F1 N1 hl1 ht1 ho1
    obtain ⟨lp, up, np, xs, rfl, N2, hlt2, hIP, rfl⟩ := last_ret N1 hl1 ht1 ho1
    clear N1 hl1 ht1 ho1
    tb_start
    dsimp only [List.append_nil]
    k_dflt (refine' tellsN_use (c := cConst LOG) (d := ()) ?yb1 ?yb2 ?yb3 ?yb4 ?yb5 ?ybK ?ybR (logs_tells _ _ _ _ _ _) ?ybo ?ybd ?ybu ?_)
    case yb1 => k_asm
    case yb2 => k_asm
    case yb3 => k_asm
    case yb4 => k_asm
    case yb5 => k_asm
    case ybK => first | exact rfl | assumption
    case ybR => exact rfl
    case ybo => trivial
    case ybd => ktr_room
    case ybu => ktr_units
    intro r3 tl3 h3 tk3 F3 N3 hl3 ht3 ho3
    obtain ⟨ll, ul, nl, xs, rfl, N4, hlt4, hIL, rfl⟩ := last_ret N3 hl3 ht3 ho3
    clear N3 hl3 ht3 ho3
    tb_start
    refine' item_my (j := d.1) (xs := LOG) ?zcN ?zcm ?zci ?zcj ?zck ?zcb ?_ ?zcs
    case zcN => k_asm
    case zcm => k_dflt k_mem
    case zci => with_reducible assumption
    case zcj => rfl
    case zck => exact ha
    case zcb => exact Nat.le_of_ble_eq_true rfl
    case zcs => with_unfolding_all rfl
    intro tc
    tb_start
    dsimp only [List.append_nil]
    k_dflt (refine' tellsN_use (c := cConst LOG) (d := ()) ?yd1 ?yd2 ?yd3 ?yd4 ?yd5 ?ydK ?ydR (logs_tells _ _ _ _ _ _) ?ydo ?ydd ?ydu ?_)
    case yd1 => k_asm
    case yd2 => k_asm
    case yd3 => k_asm
    case yd4 => k_asm
    case yd5 => k_asm
    case ydK => first | exact rfl | assumption
    case ydR => exact rfl
    case ydo => trivial
    case ydd => ktr_room
    case ydu => ktr_units
    intro r5 tl5 h5 tk5 F5 N5 hl5 ht5 ho5
    obtain ⟨l2, u2, n2, xs, rfl, N6, hlt6, hIL2, rfl⟩ := last_ret N5 hl5 ht5 ho5
    clear N5 hl5 ht5 ho5
    tb_start
    refine' item_my (j := d.2) (xs := LOG) ?zdN ?zdm ?zdi ?zdj ?zdk ?zdb ?_ ?zds
    case zdN => k_asm
    case zdm => k_dflt k_mem
    case zdi => with_reducible assumption
    case zdj => rfl
    case zdk => exact hb
    case zdb => exact Nat.le_of_ble_eq_true rfl
    case zds => with_unfolding_all rfl
    intro td
    tb_start
    have hfm : Int.fmod (((LOG.getD d.1 0 : Nat) : Int) + ((LOG.getD d.2 0 : Nat) : Int)) 31 = (((LOG.getD d.1 0 + LOG.getD d.2 0) % 31 : Nat) : Int) := by
      rw [Int.fmod_eq_emod_of_nonneg _ (by decide)]; omega
    rw [hfm]
    have hz2 : tmN d.1 d.2 = POW.getD ((LOG.getD d.1 0 + LOG.getD d.2 0) % 31) 0 := if_neg (by omega)
    have hz3 : (natsI POW).getD ((((LOG.getD d.1 0 + LOG.getD d.2 0) % 31 : Nat) : Int)).toNat 0 = ((tmN d.1 d.2 : Nat) : Int) := by
      rw [hz2, Int.toNat_natCast]
      exact natsI_getD _ _
    rw [hz3]
    rename Fr h₀ _ _ _ => kF
    rename News h₀ _ _ _ => kN
    refine hret _ [] _ _ kF (by rw [List.append_nil]; exact kst_newsOf kN (fun p hp => by repeat (first | exact hp | refine List.mem_cons_of_mem _ ?_))) ktn_ord0 rfl ⟨_, rfl⟩
local macro_rules | `(tactic| tb_start) => `(tactic| repeat' (first
  | (k_unfold; (try dsimp only))
  | ((fail_if_success (with_reducible show wpAny _ _ (PySem.exec (PySem.Stmt.For _ _ _ _ _) _) _ _ _)); (fail_if_success (with_reducible show wpAny _ _ (PySem.exec (PySem.Stmt.While _ _ _ _) _) _ _ _)); (fail_if_success (with_reducible show wpAny _ _ (PySem.pyIter _) _ _ _)); (fail_if_success (with_reducible show wpAny _ _ (PySem.execs [] _) _ _ _)); (fail_if_success (with_reducible show InvPostN _ _ _ _ _ _ _ _ _)); (fail_if_success (with_reducible show InvEndN _ _ _ _ _ _ _)); (fail_if_success (with_reducible show ShiftWantsBound)); (fail_if_success (with_reducible show wpAny _ _ (PySem.call (Value.ref _) _) _ _ _));
     (fail_if_success (with_reducible show wpAny _ _ (PySem.eval (PySem.Expr.ListComp _ _ _ _) _) _ _ _)); (fail_if_success (with_reducible show wpAny _ _ (PySem.exec (PySem.Stmt.Assign _ (PySem.Expr.ListComp _ _ _ _) _) _) _ _ _)); (fail_if_success (with_reducible show LCg.CompSrc _ _ _ _ _ _ _ _ _ _ _ _ _ _)); (fail_if_success (with_reducible show LCt.CompSrcT _ _ _ _ _ _ _ _ _ _ _ _ _ _ _)); (fail_if_success (with_reducible show LCg.CompEnd _ _ _ _ _ _ _ _ _ _ _ _ _ _)); first | walk1 | (dsimp only; walk1))))
local macro_rules | `(tactic| walk_at "binaryOp BitXor int int") => `(tactic| with_reducible refine xor_my ?_)
local macro_rules | `(tactic| walk_at "subscriptTail Name Constant ref int") => `(tactic| (refine' item_lit_my ?xN ?xm ?xk ?xl ?xe ?_ ?hs; (case xN => k_asm); (case xm => k_dflt k_mem); (case xk => decide); (case xl => decide); (case xe => exact rfl); (case hs => with_unfolding_all rfl)))
set_option maxHeartbeats 20000000 in
theorem hloop1 (w : World) (loose : List Str) (mean : ExcName → Option Value) (mg mb : Str → Option Value) (h₀ : Heap) (L fa : Addr) (cd : Value) (s : Shared) (m : Str → Option Value) (rest : List (Addr × Obj)) (oT oO oS : Obj) (vO : Option Value) (la fl l29 l22 l20 l21 l18 : Addr) (lus fus us29 us22 us20 us21 us18 : List Value) (lnn fnn nn29 nn22 nn20 nn21 nn18 : Nat) (st : St) (f : List Nat) (t1 t2 t3 t4 t5 t6 : Tok)
    (Q : Flow → Shared → Prop) (E : Value → Shared → Prop)
    (hB : Below callerA h₀ [] h₀) (hX : (hd01.heap_39 w.params).In h₀) (hT : Top hd01.view_39 loose mean mg mb h₀) (F : Fr h₀ L s.heap m) (N : News h₀ L s.heap ((L + 1 + 1 + 1, oT) :: (L + 1 + 1, oO) :: (L + 1, oS) :: rest))
    (ml : m "left" = some (.ref la)) (m1 : m "by29" = some (.ref l29)) (m2 : m "by22" = some (.ref l22)) (m3 : m "by20" = some (.ref l20)) (m4 : m "by21" = some (.ref l21)) (m5 : m "by18" = some (.ref l18))
    (mu : m "u" = some (.int ((0 : Nat) : Int) t1)) (mv : m "v" = some (.int ((0 : Nat) : Int) t2)) (mw : m "w" = some (.int ((0 : Nat) : Int) t3)) (mx : m "x" = some (.int ((0 : Nat) : Int) t4)) (my : m "y" = some (.int ((0 : Nat) : Int) t5)) (mz : m "z" = some (.int ((0 : Nat) : Int) t6))
    (hdO : oO.data = .cell vO) (hra : ∀ p ∈ rest, p.1 ≠ L + 1 + 1)
    (hml : (la, listOf lus.toArray lnn) ∈ rest) (hmf : (fl, listOf fus.toArray fnn) ∈ rest) (h29 : (l29, listOf us29.toArray nn29) ∈ rest) (h22 : (l22, listOf us22.toArray nn22) ∈ rest) (h20 : (l20, listOf us20.toArray nn20) ∈ rest) (h21 : (l21, listOf us21.toArray nn21) ∈ rest) (h18 : (l18, listOf us18.toArray nn18) ∈ rest)
    (hIl : IntsAre lus (natsI st.list)) (hIf : IntsAre fus (natsI f)) (i29 : IntsAre us29 (natsI (byTab 29))) (i22 : IntsAre us22 (natsI (byTab 22))) (i20 : IntsAre us20 (natsI (byTab 20))) (i21 : IntsAre us21 (natsI (byTab 21))) (i18 : IntsAre us18 (natsI (byTab 18)))
    (hf : ∀ x ∈ f, x < 32) (hst : st.Ok)
    (hdone : ∀ h' tk' (m' : Str → Option Value) (c : HorC), (∀ z : Str, z ∉ (["more", "u", "v", "w", "x", "y", "z"] : List Str) → m' z = m z) → c.s = hor st f → m' "u" = some (.int (c.s.u : Nat) c.t1) → m' "v" = some (.int (c.s.v : Nat) c.t2) → m' "w" = some (.int (c.s.w : Nat) c.t3) → m' "x" = some (.int (c.s.x : Nat) c.t4) → m' "y" = some (.int (c.s.y : Nat) c.t5) → m' "z" = some (.int (c.s.z : Nat) c.t6) → c.oO.data = .cell c.vO → Fr h₀ L h' m' → News h₀ L h' ((L + 1 + 1 + 1, oT) :: (L + 1 + 1, c.oO) :: (L + 1, oS) :: rest) → Q .next { s with heap := h', toks := tk' }) :
    wpAny (model Challenge.rw_oo0001_01.row.prog w) (callerA.deeper (lawEnv Challenge.rw_oo0001_01.prog L fa cd)) (pyIter (.ref fl)) (fun it s₂ => LoopAtT Challenge.rw_oo0001_01.row.prog w (callerA.deeper (lawEnv Challenge.rw_oo0001_01.prog L fa cd)) h₀ (lawEnv Challenge.rw_oo0001_01.prog L fa cd) (forTgt ((forBody ((lawBody Challenge.rw_oo0001_01.prog).getD 4 (Stmt.Pass default))).getD 4 (Stmt.Pass default))) (forBody ((forBody ((lawBody Challenge.rw_oo0001_01.prog).getD 4 (Stmt.Pass default))).getD 4 (Stmt.Pass default))) Q E it s₂) E s := by
  revert hX; k_fill; intro hX
  refine forTL (σ := HorC) (l := fl) (vs := fus) (nn := fnn) (fun c => (L + 1 + 1 + 1, oT) :: (L + 1 + 1, c.oO) :: (L + 1, oS) :: rest) (fun c => [("left", .ref la), ("by29", .ref l29), ("by22", .ref l22), ("by20", .ref l20), ("by21", .ref l21), ("by18", .ref l18), ("u", .int (c.s.u : Nat) c.t1), ("v", .int (c.s.v : Nat) c.t2), ("w", .int (c.s.w : Nat) c.t3), ("x", .int (c.s.x : Nat) c.t4), ("y", .int (c.s.y : Nat) c.t5), ("z", .int (c.s.z : Nat) c.t6)]) "more" [] (fun i c => c.s = (f.take i).foldl (hstep st) St.O ∧ c.s.Ok ∧ c.oO.data = .cell c.vO) ⟨St.O, t1, t2, t3, t4, t5, t6, oO, vO⟩ rfl (fun _ _ _ => .tail _ (.tail _ (.tail _ hmf))) F N ?q1 ?q2 ?turn ?done
  case q1 =>
    simp only [List.forall_mem_cons, List.not_mem_nil, false_implies, implies_true, and_true]
    exact ⟨ml, m1, m2, m3, m4, m5, mu, mv, mw, mx, my, mz⟩
  case q2 => exact ⟨rfl, O_ok, hdO⟩
  case done =>
    rintro c u h tk ⟨h1, h2, h3⟩ F3 N3
    rw [hIf.length, natsI, List.length_map, List.take_length] at h1
    refine hdone h tk _ c (fun z hz => ?_) h1 rfl rfl rfl rfl rfl rfl h3 F3 N3
    simp only [List.mem_cons, List.not_mem_nil, or_false, not_or] at hz
    obtain ⟨z0, z1, z2, z3, z4, z5, z6⟩ := hz
    simp only [kstB, if_neg z0, if_neg z1, if_neg z2, if_neg z3, if_neg z4, if_neg z5, if_neg z6, List.contains_nil, Bool.false_eq_true, if_false]
    repeat (split; (rename_i e; rw [e]; first | exact ml.symm | exact m1.symm | exact m2.symm | exact m3.symm | exact m4.symm | exact m5.symm))
    rfl
  case turn =>
    intro c i v u s1 own hv hoff hp F3 N3
    obtain ⟨hcs, hco, hcO⟩ := hp
    replace F3 : Fr h₀ L s1.heap _ := F3
    replace N3 : News h₀ L s1.heap _ := N3
    dsimp only [kstB] at F3
    simp only [List.cons_append] at N3
    obtain ⟨ro, hro⟩ : ∃ ro, ro = rest ++ own := ⟨_, rfl⟩
    rw [← hro] at N3
    have up : ∀ p ∈ rest, p ∈ ro := fun p hp => by rw [hro]; exact List.mem_append_left _ hp
    have hml' := up _ hml
    have h29' := up _ h29
    have h22' := up _ h22
    have h20' := up _ h20
    have h21' := up _ h21
    have h18' := up _ h18
    have hoA : ∀ p ∈ own, p.1 ≠ L + 1 + 1 := fun p hp => hoff p hp _ (.tail _ (.head _))
    have hroA : ∀ p ∈ ro, p.1 ≠ L + 1 + 1 := fun p hp => by
      rw [hro] at hp; exact (List.mem_append.mp hp).elim (hra p) (hoA p)
    have hil : i < f.length := by
      have h9 : i < fus.length := by
        rcases Nat.lt_or_ge i fus.length with h | h
        · exact h
        · rw [List.getElem?_eq_none h] at hv; cases hv
      rw [hIf.length, natsI, List.length_map] at h9; exact h9
    obtain ⟨ta, hta⟩ := natsAre_getD hIf hil
    rw [hta] at hv
    obtain rfl := Option.some.inj hv
    have ha32 := getD_lt hf i
    obtain ⟨a, haa⟩ : ∃ a, a = f.getD i 0 := ⟨_, rfl⟩
    rw [← haa] at ha32 ⊢
    clear hv hta
    with_unfolding_all (refine wpAny_assign_Name ?_)
    tb_start
    rename Fr _ _ _ _ => F4
    rename News _ _ _ _ => N4
    rename (Obj.data _ = Data.cell (some (Value.int _ _))) => hdN
    rename Obj => oN
    try clear F3 N3
    k_dflt (refine LCg.Assign_ListComp_U (F₀ := by k_asm) (by rfl) (by with_unfolding_all rfl) (by with_unfolding_all rfl) (by decide) (by rfl) (by decide) (by rfl) (by rfl) (by rfl) ?_)
    tb_start
    have hsz : lus.toArray.size = 6 := by rw [List.size_toArray, hIl.length]; rfl
    k_dflt (refine LCg.CompSrc.ledger (by rfl) F4 N4 (List.mem_cons_of_mem _ (List.mem_cons_of_mem _ (List.mem_cons_of_mem _ hml'))) (by rw [hsz]; exact Nat.le_of_ble_eq_true rfl) ?_)
    intro gg
    rw [hsz]
    refine comp_map (fun i => tmN a (st.list.getD i 0)) ?turn2 ?fin2
    case turn2 =>
      intro i2 v2 ys I oI C oC D m2 h tk E' hi2 hv2 hC hx FB NB off ne
      obtain ⟨td, htd⟩ := natsAre_getD (xs := st.list) hIl (k := i2) hi2
      rw [List.getElem?_toArray, htd] at hv2
      obtain rfl := Option.some.inj hv2
      have hd32 := list_lt hst i2
      tb_start
      k_dflt (refine' times_use ?xk1 ?xk2 ?xk3 ?xk4 ?xk5 ?xkK ?xx ?xy (times_tells _ _ _ _ _) ?xkd ?xku ?_)
      case xk1 => k_asm
      case xk2 => k_asm
      case xk3 => k_asm
      case xk4 => k_asm
      case xk5 => k_asm
      case xkK => first | exact rfl | assumption
      case xx => with_reducible assumption
      case xy => with_reducible assumption
      case xkd => ktr_room
      case xku => ktr_units
      intro r5 h5 tk5 F5 N5
      exact ⟨h5, tk5, _, rfl, F5, N5, off, .inr ⟨_, List.mem_cons_of_mem _ (List.mem_cons_of_mem _ (List.mem_cons_of_mem _ hml')), rfl, _, rfl⟩, rfl, _, rfl⟩
    case fin2 =>
      intro ym hym dM hM tkM F6 N6 oM
      obtain ⟨b1, b2, b3, b4, b5, b6, rfl⟩ := ints6 (s := scale a st) hym
      dsimp only
      have hu1 : c.s.u < 32 := hco.1
      clear hym
      replace N6 : News h₀ L hM ((dM, listOf [Value.int ((scale a st).u : Nat) b1, Value.int ((scale a st).v : Nat) b2, Value.int ((scale a st).w : Nat) b3, Value.int ((scale a st).x : Nat) b4, Value.int ((scale a st).y : Nat) b5, Value.int ((scale a st).z : Nat) b6].toArray 6) :: (L + 1 + 1 + 1, oT) :: (L + 1 + 1, _) :: (L + 1, oS) :: ro) := N6
      try clear F4 N4
      tb_start
      refine wpAny_execs_nil ⟨rfl, ?_⟩
      rename Fr _ _ _ _ => F8
      rename News _ _ _ _ => N8
      refine' gs_end (⟨hstep st c.s a, _, _, _, _, _, _, oN, some (.int (a : Nat) ta)⟩ : HorC) F8 N8 ?g1 ?g2 ?g3 ?g4 ?g5 ?g6
      case g1 => exact List.forall_mem_cons.mpr ⟨.tail _ (.tail _ (.head _)), List.forall_mem_cons.mpr ⟨.tail _ (.tail _ (.tail _ (.head _))), List.forall_mem_cons.mpr ⟨.tail _ (.tail _ (.tail _ (.tail _ (.head _)))), fun p hp => .tail _ (.tail _ (.tail _ (.tail _ (.tail _ (up p hp)))))⟩⟩⟩
      case g2 => exact fun p hp => .tail _ (.tail _ (.tail _ (.tail _ (.tail _ (by rw [hro]; exact List.mem_append_right _ hp)))))
      case g3 =>
        intro p hp
        have h0 := hoff p hp
        exact List.forall_mem_cons.mpr ⟨h0 _ (.head _), List.forall_mem_cons.mpr ⟨hoA p hp, List.forall_mem_cons.mpr ⟨h0 _ (.tail _ (.tail _ (.head _))), fun q hq => h0 q (.tail _ (.tail _ (.tail _ hq)))⟩⟩⟩
      case g4 =>
        simp only [List.forall_mem_cons, List.not_mem_nil, false_implies, implies_true, and_true]
        refine ⟨rfl, rfl, rfl, rfl, rfl, rfl, ?_, ?_, ?_, ?_, ?_, ?_⟩
        · exact valX (B := (scale a st).u) rfl rfl
        · exact valX (B := (scale a st).v) rfl rfl
        · exact valX (B := (scale a st).w) rfl rfl
        · exact valX (B := (scale a st).x) rfl rfl
        · exact valX (B := (scale a st).y) rfl rfl
        · exact valX (B := (scale a st).z) rfl (congrArg (· ^^^ (scale a st).z) (Nat.xor_zero _).symm)
      case g5 =>
        intro z h1 h2 h3
        simp only [List.forall_mem_cons, List.not_mem_nil, false_implies, implies_true, and_true] at h2
        obtain ⟨y0, y1, y2, y3, y4, y5, z1, z2, z3, z4, z5, z6⟩ := h2
        simp only [if_neg h1, if_neg y0, if_neg y1, if_neg y2, if_neg y3, if_neg y4, if_neg y5, if_neg z1, if_neg z2, if_neg z3, if_neg z4, if_neg z5, if_neg z6, List.contains_nil, Bool.false_eq_true, if_false]
      case g6 =>
        refine ⟨?_, hstep_ok st a hco, hdN⟩
        show hstep st c.s a = _
        rw [hcs, haa, List.take_add_one, List.getElem?_eq_getElem hil, List.foldl_append, List.getD_eq_getElem?_getD, List.getElem?_eq_getElem hil]
        rfl
local macro_rules | `(tactic| tb_start) => `(tactic| repeat' (first
  | (k_unfold; (try dsimp only))
  | ((fail_if_success (with_reducible show wpAny _ _ (PySem.exec (PySem.Stmt.For _ _ _ _ _) _) _ _ _)); (fail_if_success (with_reducible show wpAny _ _ (PySem.exec (PySem.Stmt.While _ _ _ _) _) _ _ _)); (fail_if_success (with_reducible show wpAny _ _ (PySem.pyIter _) _ _ _)); (fail_if_success (with_reducible show InvPostN _ _ _ _ _ _ _ _ _)); (fail_if_success (with_reducible show InvEndN _ _ _ _ _ _ _)); (fail_if_success (with_reducible show ShiftWantsBound)); (fail_if_success (with_reducible show wpAny _ _ (PySem.call (Value.ref _) _) _ _ _));
     (fail_if_success (with_reducible show wpAny _ _ (PySem.eval (PySem.Expr.ListComp _ _ _ _) _) _ _ _)); (fail_if_success (with_reducible show wpAny _ _ (PySem.exec (PySem.Stmt.Assign _ (PySem.Expr.ListComp _ _ _ _) _) _) _ _ _)); (fail_if_success (with_reducible show LCg.CompSrc _ _ _ _ _ _ _ _ _ _ _ _ _ _)); (fail_if_success (with_reducible show LCt.CompSrcT _ _ _ _ _ _ _ _ _ _ _ _ _ _ _)); (fail_if_success (with_reducible show LCg.CompEnd _ _ _ _ _ _ _ _ _ _ _ _ _ _)); first | walk1 | (dsimp only; walk1))))
local macro_rules | `(tactic| walk_at "binaryOp BitXor int int") => `(tactic| with_reducible refine xor_my ?_)
local macro_rules | `(tactic| walk_at "subscriptTail Name Constant ref int") => `(tactic| (refine' item_lit_my ?xN ?xm ?xk ?xl ?xe ?_ ?hs; (case xN => k_asm); (case xm => k_dflt k_mem); (case xk => decide); (case xl => decide); (case xe => exact rfl); (case hs => with_unfolding_all rfl)))
local macro_rules | `(tactic| walk_at "binaryOp FloorDiv int int") => `(tactic| with_reducible refine floordiv_int (pow_ne0 _) ?_ (Or.inl (pylN _ _)))
local macro_rules | `(tactic| walk_at "binaryOp Mod int int") => `(tactic| with_reducible refine modI_my ?_)
set_option maxHeartbeats 20000000 in
theorem body1 (w : World) (loose : List Str) (mean : ExcName → Option Value) (mg mb : Str → Option Value) (h₀ : Heap) (L fa : Addr) (cd : Value) (s : Shared) (m : Str → Option Value) (rest : List (Addr × Obj)) (oT oO oS : Obj) (vT vO : Option Value) (qa la fl l29 l22 l20 l21 l18 : Addr) (qus lus fus us29 us22 us20 us21 us18 : List Value) (qnn lnn fnn nn29 nn22 nn20 nn21 nn18 : Nat) (st : St) (q f : List Nat)
    (Q : Flow → Shared → Prop) (E : Value → Shared → Prop)
    (hB : Below callerA h₀ [] h₀) (hX : (hd01.heap_39 w.params).In h₀) (hT : Top hd01.view_39 loose mean mg mb h₀) (F : Fr h₀ L s.heap m) (N : News h₀ L s.heap ((L + 1 + 1 + 1, oT) :: (L + 1 + 1, oO) :: (L + 1, oS) :: rest))
    (mq : m "made" = some (.ref qa)) (mf : m "factor" = some (.ref fl)) (ml : m "left" = some (.ref la)) (m1 : m "by29" = some (.ref l29)) (m2 : m "by22" = some (.ref l22)) (m3 : m "by20" = some (.ref l20)) (m4 : m "by21" = some (.ref l21)) (m5 : m "by18" = some (.ref l18))
    (hdT : oT.data = .cell vT) (hdO : oO.data = .cell vO) (hrt : ∀ p ∈ rest, p.1 ≠ L + 1 + 1 + 1) (hra : ∀ p ∈ rest, p.1 ≠ L + 1 + 1)
    (hmq : (qa, listOf qus.toArray qnn) ∈ rest) (hml : (la, listOf lus.toArray lnn) ∈ rest) (hmf : (fl, listOf fus.toArray fnn) ∈ rest) (h29 : (l29, listOf us29.toArray nn29) ∈ rest) (h22 : (l22, listOf us22.toArray nn22) ∈ rest) (h20 : (l20, listOf us20.toArray nn20) ∈ rest) (h21 : (l21, listOf us21.toArray nn21) ∈ rest) (h18 : (l18, listOf us18.toArray nn18) ∈ rest)
    (hIq : IntsAre qus (natsI q)) (hIl : IntsAre lus (natsI st.list)) (hIf : IntsAre fus (natsI f)) (i29 : IntsAre us29 (natsI (byTab 29))) (i22 : IntsAre us22 (natsI (byTab 22))) (i20 : IntsAre us20 (natsI (byTab 20))) (i21 : IntsAre us21 (natsI (byTab 21))) (i18 : IntsAre us18 (natsI (byTab 18)))
    (hq : ∀ x ∈ q, x < 32) (hql : q.length ≤ 40) (hq1 : 1 ≤ q.length) (hf : ∀ x ∈ f, x < 32) (hst : st.Ok) (hlaw : digs (polyN (q.drop 1)) = hor st f)
    (hE : PassesOwn (model Challenge.rw_oo0001_01.row.prog w) (callerA.deeper (lawEnv Challenge.rw_oo0001_01.prog L fa cd)) (lawEnv Challenge.rw_oo0001_01.prog L fa cd) E)
    (hret : ∀ h' tk' (m' : Str → Option Value) oT' oO' vT' vO' la' lus' lnn', (∀ z : Str, z ∉ (["product", "left", "more", "u", "v", "w", "x", "y", "z"] : List Str) → m' z = m z) → m' "product" = some (.ref qa) → m' "left" = some (.ref la') → IntsAre lus' (natsI (hor st f).list) → oT'.data = .cell vT' → oO'.data = .cell vO' → Fr h₀ L h' m' → News h₀ L h' ((L + 1 + 1 + 1, oT') :: (L + 1 + 1, oO') :: (L + 1, oS) :: (la', listOf lus'.toArray lnn') :: rest) → (∀ p ∈ rest, p.1 < la') → L + 1 + 1 + 1 < la' → Q .next { s with heap := h', toks := tk' }) :
    wpAny (model Challenge.rw_oo0001_01.row.prog w) (callerA.deeper (lawEnv Challenge.rw_oo0001_01.prog L fa cd)) (execs ((forBody ((lawBody Challenge.rw_oo0001_01.prog).getD 4 (Stmt.Pass default))).drop 2) (lawEnv Challenge.rw_oo0001_01.prog L fa cd)) Q E s := by
  revert hX; k_fill; intro hX
  replace F : Fr h₀ L s.heap (kstB m [("made", .ref qa), ("factor", .ref fl), ("left", .ref la), ("by29", .ref l29), ("by22", .ref l22), ("by20", .ref l20), ("by21", .ref l21), ("by18", .ref l18)]) := by
    have e : kstB m [("made", .ref qa), ("factor", .ref fl), ("left", .ref la), ("by29", .ref l29), ("by22", .ref l22), ("by20", .ref l20), ("by21", .ref l21), ("by18", .ref l18)] = m := by
      funext z
      refine kstB_eq ?_ (fun _ => rfl)
      exact List.forall_mem_cons.mpr ⟨mq, List.forall_mem_cons.mpr ⟨mf, List.forall_mem_cons.mpr ⟨ml, List.forall_mem_cons.mpr ⟨m1, List.forall_mem_cons.mpr ⟨m2, List.forall_mem_cons.mpr ⟨m3, List.forall_mem_cons.mpr ⟨m4, List.forall_mem_cons.mpr ⟨m5, List.forall_mem_nil _⟩⟩⟩⟩⟩⟩⟩⟩
    rw [e]; exact F
  dsimp only [kstB] at F
  with_unfolding_all (refine wpAny_execs_cons ?_)
  tb_start
  rename Fr _ _ _ _ => F1
  rename News _ _ _ _ => N1
  with_unfolding_all refine' For_invTF (hE := hE) F1 ?_ ?hs1
  case hs1 => intro _; rfl
  tb_start
  rename Fr _ _ _ _ => F2
  rename News _ _ _ _ => N2
  refine hloop1 w loose mean mg mb h₀ L fa cd _ _ rest oT oO oS vO la fl l29 l22 l20 l21 l18 lus fus us29 us22 us20 us21 us18 lnn fnn nn29 nn22 nn20 nn21 nn18 st f _ _ _ _ _ _ _ _ hB hX hT F2 (kst_newsOf N2 (fun p hp => .tail _ hp)) rfl rfl rfl rfl rfl rfl rfl rfl rfl rfl rfl rfl hdO hra hml hmf h29 h22 h20 h21 h18 hIl hIf i29 i22 i20 i21 i18 hf hst ?hd1
  case hd1 =>
    intro h3 tk3 m3' c hm' hcs mu mv mw mx my mz hdO3 F3 N3
    try clear F1 N1
    try clear F2 N2
    have mp : m3' "product" = some (.ref qa) := hm' _ (by exact (by decide : ("product" : Str) ∉ (["more", "u", "v", "w", "x", "y", "z"] : List Str)))
    replace F3 : Fr h₀ L h3 (kstB m3' [("product", .ref qa), ("u", .int (c.s.u : Nat) c.t1), ("v", .int (c.s.v : Nat) c.t2), ("w", .int (c.s.w : Nat) c.t3), ("x", .int (c.s.x : Nat) c.t4), ("y", .int (c.s.y : Nat) c.t5), ("z", .int (c.s.z : Nat) c.t6)]) := by
      have e : kstB m3' [("product", .ref qa), ("u", .int (c.s.u : Nat) c.t1), ("v", .int (c.s.v : Nat) c.t2), ("w", .int (c.s.w : Nat) c.t3), ("x", .int (c.s.x : Nat) c.t4), ("y", .int (c.s.y : Nat) c.t5), ("z", .int (c.s.z : Nat) c.t6)] = m3' := by
        funext z
        refine kstB_eq ?_ (fun _ => rfl)
        exact List.forall_mem_cons.mpr ⟨mp, List.forall_mem_cons.mpr ⟨mu, List.forall_mem_cons.mpr ⟨mv, List.forall_mem_cons.mpr ⟨mw, List.forall_mem_cons.mpr ⟨mx, List.forall_mem_cons.mpr ⟨my, List.forall_mem_cons.mpr ⟨mz, List.forall_mem_nil _⟩⟩⟩⟩⟩⟩⟩
      rw [e]; exact F3
    dsimp only [kstB] at F3
    have hqn : (natsI q).length ≤ 40 := by rw [natsI, List.length_map]; exact hql
    have hqn1 : 1 ≤ (natsI q).length := by rw [natsI, List.length_map]; exact hq1
    dsimp only
    tb_start
    rename (IntsAre _ (List.drop _ _)) => hs1
    rw [show List.drop (Int.toNat 1) (natsI q) = natsI (q.drop 1) from List.map_drop.symm] at hs1
    have hq2 : ∀ x ∈ q.drop 1, x < 32 := fun x hx => hq x (List.mem_of_mem_drop hx)
    have hq3 : (q.drop 1).length ≤ 900 := by rw [List.length_drop]; omega
    have hlft : IntsAre [Value.int (c.s.u : Nat) c.t1, Value.int (c.s.v : Nat) c.t2, Value.int (c.s.w : Nat) c.t3, Value.int (c.s.x : Nat) c.t4, Value.int (c.s.y : Nat) c.t5, Value.int (c.s.z : Nat) c.t6] (natsI c.s.list) := .cons _ _ (.cons _ _ (.cons _ _ (.cons _ _ (.cons _ _ (.cons _ _ .nil)))))
    rename (L + 1 + 1 + 1 < _ ∧ L + 1 + 1 < _ ∧ L + 1 < _ ∧ AllLt _ rest) => lt1
    k_dflt (refine' poly_use ?xk1 ?xk2 ?xk3 ?xk4 ?xk5 ?xkK ?xm ?xi ?xx ?xl (poly_tells _ _ _ _ _) ?xkd ?xku ?_)
    case xk1 => k_asm
    case xk2 => k_asm
    case xk3 => k_asm
    case xk4 => k_asm
    case xk5 => k_asm
    case xkK => first | exact rfl | assumption
    case xm => k_mem
    case xi => with_reducible assumption
    case xx => with_reducible assumption
    case xl => omega
    case xkd => ktr_room
    case xku => ktr_units
    intro t0 h6 tk6 F6 N6
    try clear F3 N3
    have b0 := polyN_lt (q.drop 1) hq2
    generalize hpp : polyN (q.drop 1) = p at b0 hlaw ⊢
    have h30 : (2 : Int) ^ Int.toNat 30 = 1073741824 := rfl
    dsimp only
    tb_start
    rename (Obj.data _ = Data.cell (some (Value.int _ _))) => hdT6
    rename Obj => oT6
    k_dflt (refine LCg.ListComp_U (F₀ := by k_asm) (by with_unfolding_all rfl) (by decide) (by rfl) (by decide) (by rfl) ?_)
    tb_start
    rename IsRange _ _ _ _ _ _ _ _ => R7
    rename Fr _ _ _ _ => F7
    rename News _ _ _ _ => N7
    try clear F6 N6
    k_dflt (refine LCg.CompSrc.range (by rfl) F7 N7 R7 (by rfl) (by rfl) (Nat.le_of_ble_eq_true rfl) ?_)
    intro gg
    refine comp_map (n := 6) (fun i => p / 32 ^ (5 - i) % 32) ?turn2 ?fin2
    case turn2 =>
      intro i2 v2 ys I oI C oC D m2 h tk E' hi2 hv2 hC hx FB NB off ne
      obtain ⟨tv, rfl⟩ := hv2
      have off0 := off
      simp only [LCg.Off3] at off
      tb_start
      exact ⟨h, _, _, rfl, FB, NB, off0, trivial, rfl, _, rfl⟩
    case fin2 =>
      intro ym hym dM hM tkM F8 N8 oM
      rw [digs_map, hlaw] at hym
      have hl3 : natsI c.s.list = natsI (hor st f).list := by rw [hcs]
      have hlft2 := hlft
      rw [hl3] at hlft2
      dsimp only
      tb_start
      · refine hret hM tkM _ oT6 c.oO _ _ _ _ 0 (fun z hz => ?_) rfl rfl hlft2 hdT6 hdO3 F8 (kst_newsOf N8 ?_) (tb_ltOf lt1.2.2.2) lt1.1
        · simp only [List.mem_cons, List.not_mem_nil, or_false, not_or] at hz
          obtain ⟨y0, y1, z0, z1, z2, z3, z4, z5, z6⟩ := hz
          rw [if_neg y1, if_neg y0, if_neg z1, if_neg z2, if_neg z3, if_neg z4, if_neg z5, if_neg z6, hm' z (by simp only [List.mem_cons, List.not_mem_nil, or_false, not_or]; exact ⟨z0, z1, z2, z3, z4, z5, z6⟩)]
          rw [if_neg z6, if_neg z5, if_neg z4, if_neg z3, if_neg z2, if_neg z1, if_neg y0]
          repeat (split; (rename_i e; rw [e]; first | exact mq.symm | exact mf.symm | exact ml.symm | exact m1.symm | exact m2.symm | exact m3.symm | exact m4.symm | exact m5.symm))
          rfl
        · exact List.forall_mem_cons.mpr ⟨by k_mem, List.forall_mem_cons.mpr ⟨by k_mem, List.forall_mem_cons.mpr ⟨by k_mem, List.forall_mem_cons.mpr ⟨by k_mem, fun p hp => by repeat (first | exact hp | refine List.mem_cons_of_mem _ ?_)⟩⟩⟩⟩
local macro_rules | `(tactic| tb_start) => `(tactic| repeat' (first
  | (k_unfold; (try dsimp only))
  | ((fail_if_success (with_reducible show wpAny _ _ (PySem.exec (PySem.Stmt.For _ _ _ _ _) _) _ _ _)); (fail_if_success (with_reducible show wpAny _ _ (PySem.exec (PySem.Stmt.While _ _ _ _) _) _ _ _)); (fail_if_success (with_reducible show wpAny _ _ (PySem.pyIter _) _ _ _)); (fail_if_success (with_reducible show wpAny _ _ (PySem.setItem _ _ _) _ _ _)); (fail_if_success (with_reducible show InvPostN _ _ _ _ _ _ _ _ _)); (fail_if_success (with_reducible show InvEndN _ _ _ _ _ _ _)); (fail_if_success (with_reducible show ShiftWantsBound)); (fail_if_success (with_reducible show wpAny _ _ (PySem.call (Value.ref _) _) _ _ _));
     (fail_if_success (with_reducible show wpAny _ _ (PySem.eval (PySem.Expr.ListComp _ _ _ _) _) _ _ _)); (fail_if_success (with_reducible show wpAny _ _ (PySem.exec (PySem.Stmt.Assign _ (PySem.Expr.ListComp _ _ _ _) _) _) _ _ _)); (fail_if_success (with_reducible show LCg.CompSrc _ _ _ _ _ _ _ _ _ _ _ _ _ _)); (fail_if_success (with_reducible show LCt.CompSrcT _ _ _ _ _ _ _ _ _ _ _ _ _ _ _)); (fail_if_success (with_reducible show LCg.CompEnd _ _ _ _ _ _ _ _ _ _ _ _ _ _)); first | walk1 | (dsimp only; walk1))))
local macro_rules | `(tactic| walk_at "binaryOp BitXor int int") => `(tactic| with_reducible refine xor_my ?_)
local macro_rules | `(tactic| walk_at "subscriptTail Name Name ref int") => `(tactic| (refine' item_at ?xN ?xm ?xi ?hk ?hb ?_ ?hs; (case xN => k_asm); (case xm => k_dflt k_mem); (case xi => with_reducible assumption); (case hk => with_reducible assumption); (case hb => omega); (case hs => with_unfolding_all rfl); intro _))
local macro_rules | `(tactic| walk_at "subscriptTail Name BinOp ref int") => `(tactic| (refine' item_at2 ?xN ?xm ?xi ?hk ?hb ?_ ?hs; (case xN => k_asm); (case xm => k_dflt k_mem); (case xi => with_reducible assumption); (case hk => with_reducible assumption); (case hb => omega); (case hs => with_unfolding_all rfl); intro _))
set_option maxHeartbeats 20000000 in
theorem turn1 (w : World) (loose : List Str) (mean : ExcName → Option Value) (mg mb : Str → Option Value) (h₀ : Heap) (L fa : Addr) (cd : Value) (s : Shared) (m : Str → Option Value) (rest : List (Addr × Obj)) (oT oO oS : Obj) (vT vO : Option Value) (pa la fl l29 l22 l20 l21 l18 : Addr) (pus lus fus us29 us22 us20 us21 us18 : List Value) (pnn lnn fnn nn29 nn22 nn20 nn21 nn18 : Nat) (ps f : List Nat)
    (Q : Flow → Shared → Prop) (E : Value → Shared → Prop)
    (hB : Below callerA h₀ [] h₀) (hX : (hd01.heap_39 w.params).In h₀) (hT : Top hd01.view_39 loose mean mg mb h₀) (F : Fr h₀ L s.heap m) (N : News h₀ L s.heap ((L + 1 + 1 + 1, oT) :: (L + 1 + 1, oO) :: (L + 1, oS) :: rest))
    (mp : m "product" = some (.ref pa)) (mf : m "factor" = some (.ref fl)) (ml : m "left" = some (.ref la)) (m1 : m "by29" = some (.ref l29)) (m2 : m "by22" = some (.ref l22)) (m3 : m "by20" = some (.ref l20)) (m4 : m "by21" = some (.ref l21)) (m5 : m "by18" = some (.ref l18))
    (hdT : oT.data = .cell vT) (hdO : oO.data = .cell vO) (hrt : ∀ p ∈ rest, p.1 ≠ L + 1 + 1 + 1) (hra : ∀ p ∈ rest, p.1 ≠ L + 1 + 1)
    (hmp : (pa, listOf pus.toArray pnn) ∈ rest) (hml : (la, listOf lus.toArray lnn) ∈ rest) (hmf : (fl, listOf fus.toArray fnn) ∈ rest) (h29 : (l29, listOf us29.toArray nn29) ∈ rest) (h22 : (l22, listOf us22.toArray nn22) ∈ rest) (h20 : (l20, listOf us20.toArray nn20) ∈ rest) (h21 : (l21, listOf us21.toArray nn21) ∈ rest) (h18 : (l18, listOf us18.toArray nn18) ∈ rest)
    (hIp : IntsAre pus (natsI ps)) (hIl : IntsAre lus (natsI (run St.O ps).list)) (hIf : IntsAre fus (natsI f)) (i29 : IntsAre us29 (natsI (byTab 29))) (i22 : IntsAre us22 (natsI (byTab 22))) (i20 : IntsAre us20 (natsI (byTab 20))) (i21 : IntsAre us21 (natsI (byTab 21))) (i18 : IntsAre us18 (natsI (byTab 18)))
    (hp : ∀ x ∈ ps, x < 32) (hf : ∀ x ∈ f, x < 32) (hp0 : ps.getD 0 0 = 1) (hf0 : f.getD 0 0 = 1) (hpl : ps.length ≤ 20) (hpl1 : 1 ≤ ps.length) (hfl : f.length ≤ 5) (hfl1 : 1 ≤ f.length)
    (hE : PassesOwn (model Challenge.rw_oo0001_01.row.prog w) (callerA.deeper (lawEnv Challenge.rw_oo0001_01.prog L fa cd)) (lawEnv Challenge.rw_oo0001_01.prog L fa cd) E)
    (hret : ∀ h' tk' (m' : Str → Option Value) oT' oO' vT' vO' qa' qus' qnn' la' lus' lnn', (∀ z : Str, z ∉ (["made", "k", "j", "product", "left", "more", "u", "v", "w", "x", "y", "z"] : List Str) → m' z = m z) → m' "product" = some (.ref qa') → m' "left" = some (.ref la') → IntsAre qus' (natsI (madeTo ps f ps.length)) → IntsAre lus' (natsI (run St.O (madeTo ps f ps.length)).list) → oT'.data = .cell vT' → oO'.data = .cell vO' → Fr h₀ L h' m' → News h₀ L h' ((L + 1 + 1 + 1, oT') :: (L + 1 + 1, oO') :: (L + 1, oS) :: (la', listOf lus'.toArray lnn') :: (qa', listOf qus'.toArray qnn') :: rest) → (∀ p ∈ rest, p.1 < qa') → (∀ p ∈ rest, p.1 < la') → L + 1 + 1 + 1 < qa' → L + 1 + 1 + 1 < la' → qa' ≠ la' → Q .next { s with heap := h', toks := tk' }) :
    wpAny (model Challenge.rw_oo0001_01.row.prog w) (callerA.deeper (lawEnv Challenge.rw_oo0001_01.prog L fa cd)) (execs (forBody ((lawBody Challenge.rw_oo0001_01.prog).getD 4 (Stmt.Pass default))) (lawEnv Challenge.rw_oo0001_01.prog L fa cd)) Q E s := by
  revert hX; k_fill; intro hX
  replace F : Fr h₀ L s.heap (kstB m [("product", .ref pa), ("factor", .ref fl), ("left", .ref la), ("by29", .ref l29), ("by22", .ref l22), ("by20", .ref l20), ("by21", .ref l21), ("by18", .ref l18)]) := by
    have e : kstB m [("product", .ref pa), ("factor", .ref fl), ("left", .ref la), ("by29", .ref l29), ("by22", .ref l22), ("by20", .ref l20), ("by21", .ref l21), ("by18", .ref l18)] = m := by
      funext z
      refine kstB_eq ?_ (fun _ => rfl)
      exact List.forall_mem_cons.mpr ⟨mp, List.forall_mem_cons.mpr ⟨mf, List.forall_mem_cons.mpr ⟨ml, List.forall_mem_cons.mpr ⟨m1, List.forall_mem_cons.mpr ⟨m2, List.forall_mem_cons.mpr ⟨m3, List.forall_mem_cons.mpr ⟨m4, List.forall_mem_cons.mpr ⟨m5, List.forall_mem_nil _⟩⟩⟩⟩⟩⟩⟩⟩
    rw [e]; exact F
  dsimp only [kstB] at F
  have hpn : (natsI ps).length = ps.length := by rw [natsI, List.length_map]
  have hfn : (natsI f).length = f.length := by rw [natsI, List.length_map]
  with_unfolding_all (refine wpAny_execs_cons ?_)
  tb_start
  rename (IntsAre (List.flatten _) (List.flatten _)) => hZ
  rename Fr _ _ _ _ => F1
  rename News _ _ _ _ => N1
  have hsz : (((natsI ps).length : Nat) : Int) + (((natsI f).length : Nat) : Int) - 1 = ((ps.length + f.length - 1 : Nat) : Int) := by omega
  rw [zeros_list (ps.length + f.length - 1) _ hsz] at hZ
  rename (_ < _ ∧ L + 1 + 1 + 1 < _ ∧ _) => lt1
  obtain ⟨dm, mus, F2, N2, hZ2, hlt, hltr⟩ : ∃ dm mus, Fr h₀ L _ (fun y => if y = "made" then some (Value.ref dm) else if y = "product" then some (Value.ref pa) else if y = "factor" then some (Value.ref fl) else if y = "left" then some (Value.ref la) else if y = "by29" then some (Value.ref l29) else if y = "by22" then some (Value.ref l22) else if y = "by20" then some (Value.ref l20) else if y = "by21" then some (Value.ref l21) else if y = "by18" then some (Value.ref l18) else m y) ∧ News h₀ L _ ((dm, listOf mus.toArray 0) :: (L + 1 + 1 + 1, oT) :: (L + 1 + 1, oO) :: (L + 1, oS) :: rest) ∧ IntsAre mus (natsI (madeTo ps f 0)) ∧ L + 1 + 1 + 1 < dm ∧ ∀ p ∈ rest, p.1 < dm := by
    refine ⟨_, _, F1, kst_newsOf N1 ?_, hZ, lt1.2.1, tb_ltOf lt1.2.2.2.2⟩
    exact List.forall_mem_cons.mpr ⟨by k_mem, List.forall_mem_cons.mpr ⟨by k_mem, List.forall_mem_cons.mpr ⟨by k_mem, List.forall_mem_cons.mpr ⟨by k_mem, fun p hp => by repeat (first | exact hp | refine List.mem_cons_of_mem _ ?_)⟩⟩⟩⟩
  clear F1 N1
  with_unfolding_all refine' For_invVF (hE := hE) F2 ?kk1 ?kk2 ?_
  case kk1 => exact rfl
  case kk2 => exact rfl
  tb_start
  rename IsRange _ _ _ _ _ _ _ _ => R3
  rename Fr _ _ _ _ => F3
  rename News _ _ _ _ => N3
  try clear F2 N2
  with_unfolding_all refine' forGR (σ := MadeC) (n := ps.length) (fun c => (dm, listOf c.us.toArray 0) :: (L + 1 + 1 + 1, oT) :: (L + 1 + 1, oO) :: (L + 1, oS) :: rest) (fun c => []) ["j"] (fun k c => IntsAre c.us (natsI (madeTo ps f k))) ⟨mus⟩ (by rfl) R3 (small_one (by omega) (by omega) (by omega) (by omega)) (by rw [rangeSize_nat]; omega) F3 N3 ?q1 ?q2 ?turn ?done
  case q1 => exact List.forall_mem_nil _
  case q2 => exact hZ2
  case turn =>
    intro c k tk1 u h tk own hk hoff hpI F4 N4
    replace F4 : Fr h₀ L h _ := F4
    replace N4 : News h₀ L h _ := N4
    dsimp only [kstB] at F4
    simp only [List.cons_append] at N4
    obtain ⟨ro, hro⟩ : ∃ ro, ro = rest ++ own := ⟨_, rfl⟩
    rw [← hro] at N4
    have up : ∀ p ∈ rest, p ∈ ro := fun p hp => by rw [hro]; exact List.mem_append_left _ hp
    have hmp' := up _ hmp
    have hmf' := up _ hmf
    have hod : ∀ p ∈ own, p.1 ≠ dm := fun p hp => hoff p hp _ (.head _)
    have hrod : ∀ p ∈ ro, p.1 ≠ dm := fun p hp => by
      rw [hro] at hp; exact (List.mem_append.mp hp).elim (fun hp => Nat.ne_of_lt (hltr p hp)) (hod p)
    have hpk := getD_lt hp k
    tb_start
    rename Fr _ _ _ _ => F5
    rename News _ _ _ _ => N5
    try clear F4 N4
    with_unfolding_all refine' For_invVF (hE := hE) F5 ?kk3 ?kk4 ?_
    case kk3 => exact rfl
    case kk4 => exact rfl
    tb_start
    rename IsRange _ _ _ _ _ _ _ _ => R6
    rename Fr _ _ _ _ => F6
    rename News _ _ _ _ => N6
    try clear F5 N5
    with_unfolding_all refine' forGR (σ := MadeC) (n := f.length) (fun c => (dm, listOf c.us.toArray 0) :: (L + 1 + 1 + 1, oT) :: (L + 1 + 1, oO) :: (L + 1, oS) :: ro) (fun c => []) [] (fun j c => IntsAre c.us (natsI (rowTo (madeTo ps f k) k (ps.getD k 0) f j))) ⟨c.us⟩ (by rfl) R6 (small_one (by omega) (by omega) (by omega) (by omega)) (by rw [rangeSize_nat]; omega) F6 N6 ?q3 ?q4 ?turn2 ?done2
    case q3 => exact List.forall_mem_nil _
    case q4 => exact hpI
    case turn2 =>
      intro c2 j tk2 u2 h7 tk7 own2 hj hoff2 hpI2 F7 N7
      replace F7 : Fr h₀ L h7 _ := F7
      replace N7 : News h₀ L h7 _ := N7
      dsimp only [kstB] at F7
      simp only [List.cons_append] at N7
      obtain ⟨ro2, hro2⟩ : ∃ ro2, ro2 = ro ++ own2 := ⟨_, rfl⟩
      rw [← hro2] at N7
      have up2 : ∀ p ∈ ro, p ∈ ro2 := fun p hp => by rw [hro2]; exact List.mem_append_left _ hp
      have hmp2 := up2 _ hmp'
      have hmf2 := up2 _ hmf'
      have hod2 : ∀ p ∈ own2, p.1 ≠ dm := fun p hp => hoff2 p hp _ (.head _)
      have hrod2 : ∀ p ∈ ro2, p.1 ≠ dm := fun p hp => by
        rw [hro2] at hp; exact (List.mem_append.mp hp).elim (hrod p) (hod2 p)
      have hfj := getD_lt hf j
      have hlen : (rowTo (madeTo ps f k) k (ps.getD k 0) f j).length = ps.length + f.length - 1 := by rw [rowTo_len, madeTo_len]
      have hkj : k + j < (rowTo (madeTo ps f k) k (ps.getD k 0) f j).length := by rw [hlen]; omega
      have hkl : (rowTo (madeTo ps f k) k (ps.getD k 0) f j).length ≤ 1000 := by rw [hlen]; omega
      tb_start
      k_dflt (refine' times_use ?xk1 ?xk2 ?xk3 ?xk4 ?xk5 ?xkK ?xx ?xy (times_tells _ _ _ _ _) ?xkd ?xku ?_)
      case xk1 => k_asm
      case xk2 => k_asm
      case xk3 => k_asm
      case xk4 => k_asm
      case xk5 => k_asm
      case xkK => first | exact rfl | assumption
      case xx => with_reducible assumption
      case xy => with_reducible assumption
      case xkd => ktr_room
      case xku => ktr_units
      intro t9 h9 tk9 F9 N9
      try clear F7 N7
      tb_start
      refine set_my (i := k + j) F9 N9 (List.forall_mem_cons.mpr ⟨Nat.ne_of_lt hlt, List.forall_mem_cons.mpr ⟨Nat.ne_of_lt (Nat.lt_of_succ_lt hlt), List.forall_mem_cons.mpr ⟨Nat.ne_of_lt (Nat.lt_of_succ_lt (Nat.lt_of_succ_lt hlt)), hrod2⟩⟩⟩) hpI2 (by omega) hkj hkl ?_
      intro h10 us10 hI10 F10 N10
      tb_start
      refine gs_end (⟨us10⟩ : MadeC) F10 N10 ?g1 ?g2 ?g3 ?g4 ?g5 ?g6
      case g1 => exact List.forall_mem_cons.mpr ⟨.head _, List.forall_mem_cons.mpr ⟨.tail _ (.head _), List.forall_mem_cons.mpr ⟨.tail _ (.tail _ (.head _)), List.forall_mem_cons.mpr ⟨.tail _ (.tail _ (.tail _ (.head _))), fun p hp => .tail _ (.tail _ (.tail _ (.tail _ (up2 p hp))))⟩⟩⟩⟩
      case g2 => exact fun p hp => .tail _ (.tail _ (.tail _ (.tail _ (by rw [hro2]; exact List.mem_append_right _ hp))))
      case g3 => exact fun p hp => List.forall_mem_cons.mpr ⟨hod2 p hp, fun q hq => hoff2 p hp q (.tail _ hq)⟩
      case g4 => exact List.forall_mem_nil _
      case g5 =>
        intro z h1 h2 h3
        simp only [if_neg h1, List.contains_nil, Bool.false_eq_true, if_false]
      case g6 =>
        show IntsAre us10 (natsI (rowTo (madeTo ps f k) k (ps.getD k 0) f (j + 1)))
        rw [rowTo_succ]; exact hI10
    case done2 =>
      intro c2 u2 h7 tk7 hpI2 F7 N7
      replace F7 : Fr h₀ L h7 _ := F7
      replace N7 : News h₀ L h7 _ := N7
      dsimp only [kstB] at F7
      try clear F6 N6
      dsimp only
      tb_start
      refine gs_end (⟨c2.us⟩ : MadeC) F7 N7 ?g7 ?g8 ?g9 ?ga ?gb ?gc
      case g7 => exact List.forall_mem_cons.mpr ⟨.head _, List.forall_mem_cons.mpr ⟨.tail _ (.head _), List.forall_mem_cons.mpr ⟨.tail _ (.tail _ (.head _)), List.forall_mem_cons.mpr ⟨.tail _ (.tail _ (.tail _ (.head _))), fun p hp => .tail _ (.tail _ (.tail _ (.tail _ (up p hp))))⟩⟩⟩⟩
      case g8 => exact fun p hp => .tail _ (.tail _ (.tail _ (.tail _ (by rw [hro]; exact List.mem_append_right _ hp))))
      case g9 => exact fun p hp => List.forall_mem_cons.mpr ⟨hod p hp, fun q hq => hoff p hp q (.tail _ hq)⟩
      case ga => exact List.forall_mem_nil _
      case gb =>
        intro z h1 h2 h3
        have h4 : z ≠ "j" := by rintro rfl; exact absurd h3 (by decide)
        simp only [if_neg h1, if_neg h4, h3, List.contains_nil, Bool.false_eq_true, if_false]
      case gc =>
        show IntsAre c2.us (natsI (madeTo ps f (k + 1)))
        rw [madeTo_succ]; exact hpI2
  case done =>
    intro c u h tk hpI F4 N4
    replace F4 : Fr h₀ L h _ := F4
    replace N4 : News h₀ L h _ := N4
    dsimp only [kstB] at F4
    try clear F3 N3
    dsimp only
    refine body1 w loose mean mg mb h₀ L fa cd _ _ ((dm, listOf c.us.toArray 0) :: rest) oT oO oS vT vO dm la fl l29 l22 l20 l21 l18 c.us lus fus us29 us22 us20 us21 us18 0 lnn fnn nn29 nn22 nn20 nn21 nn18 (run St.O ps) (madeTo ps f ps.length) f _ _ hB hX hT F4 (kst_newsOf N4 ?b1) rfl rfl rfl rfl rfl rfl rfl rfl hdT hdO (List.forall_mem_cons.mpr ⟨Nat.ne_of_gt hlt, hrt⟩) (List.forall_mem_cons.mpr ⟨Nat.ne_of_gt (Nat.lt_of_succ_lt hlt), hra⟩) (.head _) (.tail _ hml) (.tail _ hmf) (.tail _ h29) (.tail _ h22) (.tail _ h20) (.tail _ h21) (.tail _ h18) hpI hIl hIf i29 i22 i20 i21 i18 (madeTo_lt ps f _) (by rw [madeTo_len]; omega) (by rw [madeTo_len]; omega) hf (run_ok _ O_ok hp) (plain1 hp hf hfl1 hpl1 hp0 hf0) hE ?b2
    case b1 => exact List.forall_mem_cons.mpr ⟨by k_mem, List.forall_mem_cons.mpr ⟨by k_mem, List.forall_mem_cons.mpr ⟨by k_mem, List.forall_mem_cons.mpr ⟨by k_mem, fun p hp => by repeat (first | exact hp | refine List.mem_cons_of_mem _ ?_)⟩⟩⟩⟩
    case b2 =>
      intro h' tk' m' oT' oO' vT' vO' la' lus' lnn' hm' mp' ml' hIl' hT' hO' F' N' hltr' hlt'
      rw [← run_made hp hf hfl1] at hIl'
      refine hret h' tk' m' oT' oO' vT' vO' dm c.us 0 la' lus' lnn' (fun z hz => ?_) mp' ml' hpI hIl' hT' hO' F' N' hltr (fun p hp => hltr' p (.tail _ hp)) hlt hlt' (Nat.ne_of_lt (hltr' _ (.head _)))
      simp only [List.mem_cons, List.not_mem_nil, or_false, not_or] at hz
      obtain ⟨y0, y1, y2, y3, y4, z0, z1, z2, z3, z4, z5, z6⟩ := hz
      rw [hm' z (by simp only [List.mem_cons, List.not_mem_nil, or_false, not_or]; exact ⟨y3, y4, z0, z1, z2, z3, z4, z5, z6⟩)]
      have hcj : (["j"] : List Str).contains z = false := by
        cases e : (["j"] : List Str).contains z with
        | false => rfl
        | true => exact absurd (by simpa using e) y2
      simp only [if_neg y1, hcj, Bool.false_eq_true, if_false, if_neg y0, if_neg y3]
      repeat (split; (rename_i e; rw [e]; first | exact mf.symm | exact ml.symm | exact m1.symm | exact m2.symm | exact m3.symm | exact m4.symm | exact m5.symm))
      rfl
local macro_rules | `(tactic| tb_start) => `(tactic| repeat' (first
  | (k_unfold; (try dsimp only))
  | ((fail_if_success (with_reducible show wpAny _ _ (PySem.exec (PySem.Stmt.For _ _ _ _ _) _) _ _ _)); (fail_if_success (with_reducible show wpAny _ _ (PySem.exec (PySem.Stmt.While _ _ _ _) _) _ _ _)); (fail_if_success (with_reducible show wpAny _ _ (PySem.pyIter _) _ _ _)); (fail_if_success (with_reducible show wpAny _ _ (PySem.setItem _ _ _) _ _ _)); (fail_if_success (with_reducible show InvPostN _ _ _ _ _ _ _ _ _)); (fail_if_success (with_reducible show InvEndN _ _ _ _ _ _ _)); (fail_if_success (with_reducible show ShiftWantsBound)); (fail_if_success (with_reducible show wpAny _ _ (PySem.call (Value.ref _) _) _ _ _));
     (fail_if_success (with_reducible show wpAny _ _ (PySem.eval (PySem.Expr.ListComp _ _ _ _) _) _ _ _)); (fail_if_success (with_reducible show wpAny _ _ (PySem.exec (PySem.Stmt.Assign _ (PySem.Expr.ListComp _ _ _ _) _) _) _ _ _)); (fail_if_success (with_reducible show LCg.CompSrc _ _ _ _ _ _ _ _ _ _ _ _ _ _)); (fail_if_success (with_reducible show LCt.CompSrcT _ _ _ _ _ _ _ _ _ _ _ _ _ _ _)); (fail_if_success (with_reducible show LCg.CompEnd _ _ _ _ _ _ _ _ _ _ _ _ _ _)); first | walk1 | (dsimp only; walk1))))
structure PrC where
  pa : Addr
  pus : List Value
  pnn : Nat
  ps : List Nat
  la : Addr
  lus : List Value
  lnn : Nat
  oT : Obj
  vT : Option Value
  oO : Obj
  vO : Option Value
theorem natsI_app (xs ys : List Nat) : natsI (xs ++ ys) = natsI xs ++ natsI ys := List.map_append
theorem fam1 {xs : List Nat} (h : ∀ x ∈ xs, x < 32) : ∀ x ∈ [1] ++ xs, x < 32 := fun x hx => (List.mem_append.mp hx).elim (fun h => by rw [List.mem_singleton.mp h]; decide) (h x)
theorem I_ints {a b c d e f : Tok} : IntsAre [.int 0 a, .int 0 b, .int 0 c, .int 0 d, .int 0 e, .int 1 f] (natsI St.I.list) := IntsAre.cons 0 _ (.cons 0 _ (.cons 0 _ (.cons 0 _ (.cons 0 _ (.cons 1 _ .nil)))))
theorem news_rot {h₀ h : Heap} {L : Addr} {a b c d e : Addr × Obj} {led : List (Addr × Obj)} (N : News h₀ L h (a :: b :: c :: d :: e :: led)) : News h₀ L h (c :: d :: e :: a :: b :: led) :=
  kst_newsOf N (List.forall_mem_cons.mpr ⟨.tail _ (.tail _ (.head _)), List.forall_mem_cons.mpr ⟨.tail _ (.tail _ (.tail _ (.head _))), List.forall_mem_cons.mpr ⟨.tail _ (.tail _ (.tail _ (.tail _ (.head _)))), List.forall_mem_cons.mpr ⟨.head _, List.forall_mem_cons.mpr ⟨.tail _ (.head _), fun _ hp => .tail _ (.tail _ (.tail _ (.tail _ (.tail _ hp))))⟩⟩⟩⟩⟩)
set_option maxHeartbeats 20000000 in
theorem outer1 (w : World) (loose : List Str) (mean : ExcName → Option Value) (mg mb : Str → Option Value) (h₀ : Heap) (L fa : Addr) (cd : Value) (s : Shared) (m : Str → Option Value) (led : List (Addr × Obj)) (oT oO oS : Obj) (vT vO : Option Value) (pa0 la0 lf D0 D1 D2 l29 l22 l20 l21 l18 : Addr) (pus0 lus0 ws0 ws1 ws2 us29 us22 us20 us21 us18 : List Value) (nn29 nn22 nn20 nn21 nn18 : Nat) (dxs0 dxs1 dxs2 : List Nat)
    (Q : Flow → Shared → Prop) (E : Value → Shared → Prop)
    (hB : Below callerA h₀ [] h₀) (hX : (hd01.heap_39 w.params).In h₀) (hT : Top hd01.view_39 loose mean mg mb h₀) (F : Fr h₀ L s.heap m) (N16 : News h₀ L s.heap ((L + 1 + 1 + 1, oT) :: (L + 1 + 1, oO) :: (L + 1, oS) :: (la0, listOf lus0.toArray 0) :: (pa0, listOf pus0.toArray 0) :: led))
    (ml : m "left" = some (.ref la0)) (mp : m "product" = some (.ref pa0)) (mfs : m "factors" = some (.ref lf)) (mb29 : m "by29" = some (.ref l29)) (mb22 : m "by22" = some (.ref l22)) (mb20 : m "by20" = some (.ref l20)) (mb21 : m "by21" = some (.ref l21)) (mb18 : m "by18" = some (.ref l18))
    (hdT : oT.data = .cell vT) (hdO : oO.data = .cell vO) (hra : ∀ p ∈ led, p.1 ≠ L + 1 + 1 + 1) (hrb : ∀ p ∈ led, p.1 ≠ L + 1 + 1)
    (hpI0 : IntsAre pus0 (natsI [1])) (hlI0 : IntsAre lus0 (natsI (run St.O [1]).list)) (hpa0 : L + 1 + 1 + 1 < pa0) (hla0 : L + 1 + 1 + 1 < la0)
    (mf : (lf, listOf [Value.ref D0, Value.ref D1, Value.ref D2].toArray 3) ∈ led) (md0 : (D0, listOf ws0.toArray 0) ∈ led) (hJ0 : IntsAre ws0 (natsI [1] ++ natsI dxs0)) (hdx0 : ∀ x ∈ dxs0, x < 32) (hdb0 : (dxs0.length : Int) ≤ 4) (md1 : (D1, listOf ws1.toArray 0) ∈ led) (hJ1 : IntsAre ws1 (natsI [1] ++ natsI dxs1)) (hdx1 : ∀ x ∈ dxs1, x < 32) (hdb1 : (dxs1.length : Int) ≤ 4) (md2 : (D2, listOf ws2.toArray 0) ∈ led) (hJ2 : IntsAre ws2 (natsI [1] ++ natsI dxs2)) (hdx2 : ∀ x ∈ dxs2, x < 32) (hdb2 : (dxs2.length : Int) ≤ 4)
    (m29 : (l29, listOf us29.toArray nn29) ∈ led) (hI29 : IntsAre us29 (natsI (byTab 29))) (m22 : (l22, listOf us22.toArray nn22) ∈ led) (hI22 : IntsAre us22 (natsI (byTab 22))) (m20 : (l20, listOf us20.toArray nn20) ∈ led) (hI20 : IntsAre us20 (natsI (byTab 20))) (m21 : (l21, listOf us21.toArray nn21) ∈ led) (hI21 : IntsAre us21 (natsI (byTab 21))) (m18 : (l18, listOf us18.toArray nn18) ∈ led) (hI18 : IntsAre us18 (natsI (byTab 18)))
    (hE : PassesOwn (model Challenge.rw_oo0001_01.row.prog w) (callerA.deeper (lawEnv Challenge.rw_oo0001_01.prog L fa cd)) (lawEnv Challenge.rw_oo0001_01.prog L fa cd) E)
    (hret : ∀ h' tk' m', Fr h₀ L h' m' → Q (.ret (.bool true)) { s with heap := h', toks := tk' }) :
    wpAny (model Challenge.rw_oo0001_01.row.prog w) (callerA.deeper (lawEnv Challenge.rw_oo0001_01.prog L fa cd)) (execs ((lawBody Challenge.rw_oo0001_01.prog).drop 4) (lawEnv Challenge.rw_oo0001_01.prog L fa cd)) Q E s := by
  revert hX; k_fill; intro hX
  replace F : Fr h₀ L s.heap (kstB m [("left", .ref la0), ("product", .ref pa0), ("by18", .ref l18), ("by21", .ref l21), ("by20", .ref l20), ("by22", .ref l22), ("by29", .ref l29), ("factors", .ref lf)]) := by
    have e : kstB m [("left", .ref la0), ("product", .ref pa0), ("by18", .ref l18), ("by21", .ref l21), ("by20", .ref l20), ("by22", .ref l22), ("by29", .ref l29), ("factors", .ref lf)] = m := by
      funext z
      refine kstB_eq ?_ (fun _ => rfl)
      exact List.forall_mem_cons.mpr ⟨ml, List.forall_mem_cons.mpr ⟨mp, List.forall_mem_cons.mpr ⟨mb18, List.forall_mem_cons.mpr ⟨mb21, List.forall_mem_cons.mpr ⟨mb20, List.forall_mem_cons.mpr ⟨mb22, List.forall_mem_cons.mpr ⟨mb29, List.forall_mem_cons.mpr ⟨mfs, List.forall_mem_nil _⟩⟩⟩⟩⟩⟩⟩⟩
    rw [e]; exact F
  dsimp only [kstB] at F
  with_unfolding_all (refine wpAny_execs_cons ?_)
  with_unfolding_all refine' For_invVF (hE := hE) F ?k1 ?k2 ?_
  case k1 => exact rfl
  case k2 => exact rfl
  tb_start
  rename Fr _ _ _ _ => F16
  with_unfolding_all refine' forGL (σ := PrC) (vs := [Value.ref D0, Value.ref D1, Value.ref D2]) (nn := 3) (fun c => (L + 1 + 1 + 1, c.oT) :: (L + 1 + 1, c.oO) :: (L + 1, oS) :: (c.la, listOf c.lus.toArray c.lnn) :: (c.pa, listOf c.pus.toArray c.pnn) :: led) (fun c => [("product", .ref c.pa), ("left", .ref c.la)]) ["made", "k", "j", "more", "u", "v", "w", "x", "y", "z"] (fun i c => IntsAre c.pus (natsI c.ps) ∧ IntsAre c.lus (natsI (run St.O c.ps).list) ∧ (∀ x ∈ c.ps, x < 32) ∧ c.ps.getD 0 0 = 1 ∧ 1 ≤ c.ps.length ∧ c.ps.length ≤ 1 + 4 * i ∧ L + 1 + 1 + 1 < c.pa ∧ L + 1 + 1 + 1 < c.la ∧ c.oT.data = .cell c.vT ∧ c.oO.data = .cell c.vO) ⟨pa0, pus0, 0, [1], la0, lus0, 0, oT, vT, oO, vO⟩ (by rfl) (fun _ _ _ => .tail _ (.tail _ (.tail _ (.tail _ (.tail _ mf))))) F16 N16 ?q1 ?q2 ?turn ?done
  case q1 => exact List.forall_mem_cons.mpr ⟨rfl, List.forall_mem_cons.mpr ⟨rfl, List.forall_mem_nil _⟩⟩
  case q2 =>
    exact ⟨hpI0, hlI0, (fun x hx => by rw [List.mem_singleton.mp hx]; decide), rfl, Nat.le_refl _, Nat.le_refl _, hpa0, hla0, hdT, hdO⟩
  case turn =>
    intro c i v u h tk own hv hoff hp F3 N3
    try clear F16 N16
    replace F3 : Fr h₀ L h _ := F3
    replace N3 : News h₀ L h _ := N3
    dsimp only [kstB] at F3
    obtain ⟨hpI, hlI, hp32, hp0, hpl1, hpl, hpa, hla, hcT, hcO⟩ := hp
    obtain ⟨fl, fus, f, rfl, hmf, hIf, hf, hf0, hfl1, hfl, hi2⟩ : ∃ fl fus f, v = .ref fl ∧ (fl, listOf fus.toArray 0) ∈ led ∧ IntsAre fus (natsI f) ∧ (∀ x ∈ f, x < 32) ∧ f.getD 0 0 = 1 ∧ 1 ≤ f.length ∧ f.length ≤ 5 ∧ i ≤ 2 := by
      rcases i with _ | _ | _ | i
      · cases hv; exact ⟨D0, ws0, [1] ++ dxs0, rfl, md0, by rw [natsI_app]; exact hJ0, fam1 hdx0, rfl, Nat.succ_le_succ (Nat.zero_le _), by simp only [List.length_append, List.length_singleton]; omega, by omega⟩
      · cases hv; exact ⟨D1, ws1, [1] ++ dxs1, rfl, md1, by rw [natsI_app]; exact hJ1, fam1 hdx1, rfl, Nat.succ_le_succ (Nat.zero_le _), by simp only [List.length_append, List.length_singleton]; omega, by omega⟩
      · cases hv; exact ⟨D2, ws2, [1] ++ dxs2, rfl, md2, by rw [natsI_app]; exact hJ2, fam1 hdx2, rfl, Nat.succ_le_succ (Nat.zero_le _), by simp only [List.length_append, List.length_singleton]; omega, by omega⟩
      · cases hv
    have hof : ∀ p ∈ (c.la, listOf c.lus.toArray c.lnn) :: (c.pa, listOf c.pus.toArray c.pnn) :: (led ++ own), p.1 ≠ L + 1 + 1 + 1 := List.forall_mem_cons.mpr ⟨(gt3 hla).1, List.forall_mem_cons.mpr ⟨(gt3 hpa).1, fun p hp => (List.mem_append.mp hp).elim (hra p) (fun hp => hoff p hp _ (.head _))⟩⟩
    have hof2 : ∀ p ∈ (c.la, listOf c.lus.toArray c.lnn) :: (c.pa, listOf c.pus.toArray c.pnn) :: (led ++ own), p.1 ≠ L + 1 + 1 := List.forall_mem_cons.mpr ⟨(gt3 hla).2, List.forall_mem_cons.mpr ⟨(gt3 hpa).2, fun p hp => (List.mem_append.mp hp).elim (hrb p) (fun hp => hoff p hp _ (.tail _ (.head _)))⟩⟩
    have up : ∀ p ∈ led, p ∈ (c.la, listOf c.lus.toArray c.lnn) :: (c.pa, listOf c.pus.toArray c.pnn) :: (led ++ own) := fun p hp => .tail _ (.tail _ (List.mem_append_left _ hp))
    refine turn1 w loose mean mg mb h₀ L fa cd _ _ ((c.la, listOf c.lus.toArray c.lnn) :: (c.pa, listOf c.pus.toArray c.pnn) :: (led ++ own)) c.oT c.oO oS c.vT c.vO c.pa c.la fl l29 l22 l20 l21 l18 c.pus c.lus fus us29 us22 us20 us21 us18 c.pnn c.lnn 0 nn29 nn22 nn20 nn21 nn18 c.ps f _ _ hB hX hT F3 N3 rfl rfl rfl rfl rfl rfl rfl rfl hcT hcO hof hof2 (.tail _ (.head _)) (.head _) (up _ hmf) (up _ m29) (up _ m22) (up _ m20) (up _ m21) (up _ m18) hpI hlI hIf hI29 hI22 hI20 hI21 hI18 hp32 hf hp0 hf0 (by omega) hpl1 hfl hfl1 hE ?zR
    case zR =>
      intro h' tk' m' oT' oO' vT' vO' qa' qus' qnn' la' lus' lnn' hm' mp' ml' hqI' hlI' hT' hO' F' N' hqr hlr hq3 hl3 hql
      clear F3 N3
      refine gs_end (⟨qa', qus', qnn', madeTo c.ps f c.ps.length, la', lus', lnn', oT', vT', oO', vO'⟩ : PrC) F' N' ?g1 ?g2 ?g3 ?g4 ?g5 ?g6
      case g1 => exact List.forall_mem_cons.mpr ⟨.head _, List.forall_mem_cons.mpr ⟨.tail _ (.head _), List.forall_mem_cons.mpr ⟨.tail _ (.tail _ (.head _)), List.forall_mem_cons.mpr ⟨.tail _ (.tail _ (.tail _ (.head _))), List.forall_mem_cons.mpr ⟨.tail _ (.tail _ (.tail _ (.tail _ (.head _)))), fun p hp => .tail _ (.tail _ (.tail _ (.tail _ (.tail _ (up p hp)))))⟩⟩⟩⟩⟩
      case g2 => exact fun p hp => .tail _ (.tail _ (.tail _ (.tail _ (.tail _ (.tail _ (.tail _ (List.mem_append_right _ hp)))))))
      case g3 =>
        intro p hp
        have h0 := hoff p hp
        have h1 : p ∈ (c.la, listOf c.lus.toArray c.lnn) :: (c.pa, listOf c.pus.toArray c.pnn) :: (led ++ own) := .tail _ (.tail _ (List.mem_append_right _ hp))
        exact List.forall_mem_cons.mpr ⟨h0 (L + 1 + 1 + 1, c.oT) (.head _), List.forall_mem_cons.mpr ⟨h0 (L + 1 + 1, c.oO) (.tail _ (.head _)), List.forall_mem_cons.mpr ⟨h0 (L + 1, oS) (.tail _ (.tail _ (.head _))), List.forall_mem_cons.mpr ⟨Nat.ne_of_lt (hlr p h1), List.forall_mem_cons.mpr ⟨Nat.ne_of_lt (hqr p h1), fun q hq => h0 q (.tail _ (.tail _ (.tail _ (.tail _ (.tail _ hq)))))⟩⟩⟩⟩⟩
      case g4 => exact List.forall_mem_cons.mpr ⟨mp', List.forall_mem_cons.mpr ⟨ml', List.forall_mem_nil _⟩⟩
      case g5 =>
        intro z h1 h2 h3
        have y1 : z ≠ "product" := h2 _ (.head _)
        have y2 : z ≠ "left" := h2 _ (.tail _ (.head _))
        rw [hm' z ?hz]
        · simp only [if_neg h1, if_neg y1, if_neg y2, h3, Bool.false_eq_true, if_false]
        · simp only [List.mem_cons, List.not_mem_nil, or_false, not_or]
          refine ⟨?_, ?_, ?_, y1, y2, ?_, ?_, ?_, ?_, ?_, ?_, ?_⟩
          all_goals (rintro rfl; exact absurd h3 (by decide))
      case g6 => exact ⟨hqI', hlI', madeTo_lt _ _ _, made_head hfl1 hp0 hf0 hpl1 _ hpl1, by rw [madeTo_len]; omega, by rw [madeTo_len]; omega, hq3, hl3, hT', hO'⟩
  case done =>
    intro c u h tk hp F3 N3
    try clear F16 N16
    replace F3 : Fr h₀ L h _ := F3
    dsimp only [kstB] at F3
    dsimp only
    tb_start
    exact hret _ _ _ F3
local macro_rules | `(tactic| tb_start) => `(tactic| repeat' (first
  | (k_unfold; (try dsimp only))
  | ((fail_if_success (with_reducible show wpAny _ _ (PySem.exec (PySem.Stmt.For _ _ _ _ _) _) _ _ _)); (fail_if_success (with_reducible show wpAny _ _ (PySem.exec (PySem.Stmt.While _ _ _ _) _) _ _ _)); (fail_if_success (with_reducible show wpAny _ _ (PySem.pyIter _) _ _ _)); (fail_if_success (with_reducible show wpAny _ _ (PySem.execs (PySem.Stmt.For _ _ _ _ _ :: _) _) _ _ _)); (fail_if_success (with_reducible show InvPostN _ _ _ _ _ _ _ _ _)); (fail_if_success (with_reducible show InvEndN _ _ _ _ _ _ _)); (fail_if_success (with_reducible show ShiftWantsBound)); (fail_if_success (with_reducible show wpAny _ _ (PySem.call (Value.ref _) _) _ _ _));
     (fail_if_success (with_reducible show wpAny _ _ (PySem.eval (PySem.Expr.ListComp _ _ _ _) _) _ _ _)); (fail_if_success (with_reducible show wpAny _ _ (PySem.exec (PySem.Stmt.Assign _ (PySem.Expr.ListComp _ _ _ _) _) _) _ _ _)); (fail_if_success (with_reducible show LCg.CompSrc _ _ _ _ _ _ _ _ _ _ _ _ _ _)); (fail_if_success (with_reducible show LCg.CompEnd _ _ _ _ _ _ _ _ _ _ _ _ _ _)); first | walk1 | (dsimp only; walk1))))
structure RowD where
  rl : Addr
  us : List Value
  nn : Nat
  xs : List Nat
  ob : Obj
local macro_rules | `(tactic| ktr_unf) => `(tactic| (k_dflt (refine' at_use ?k1 ?k2 ?k3 ?k4 ?k5 ?kK ?kl ?ki ?kf ?k0 (at_tells _ _ _ _ _) ?kd ?ku ?_); (case k1 => k_asm); (case k2 => k_asm); (case k3 => k_asm); (case k4 => k_asm); (case k5 => k_asm); (case kK => first | exact rfl | assumption); (case kl => with_reducible assumption); (case ki => with_reducible assumption); (case kf => l_fit); (case k0 => decide); (case kd => ktr_room); (case ku => ktr_units)))
set_option maxHeartbeats 20000000 in
theorem main01 : PySem.Challenge.rw_oo0001_01.Holds := hd01 (by
  w_strict (k_go0)
  all_goals try k_fold
  rename World => w0
  rename Shared => s1
  rename IntsAre _ _ => hI
  rename Heap.IsList _ _ _ => hL
  rename Below _ _ _ _ => hB
  rename Top _ _ _ _ _ _ => hT
  rename Frag.In _ _ => hX
  rename News _ _ _ _ => N0
  rename Fr _ _ _ _ => F0
  rename (¬ _ < _) => hns
  obtain ⟨oT, oO, oS, ls, lvs, ns, N0', ⟨vT, hdT⟩, ⟨vO, hdO⟩, hdS, hL2, hI2, hns2⟩ : ∃ oT oO oS ls lvs ns, News s1.heap s1.heap.objs.size _ [(s1.heap.objs.size + 1 + 1 + 1, oT), (s1.heap.objs.size + 1 + 1, oO), (s1.heap.objs.size + 1, oS)] ∧ (∃ v, oT.data = .cell v) ∧ (∃ v, oO.data = .cell v) ∧ oS.data = .cell (some (.ref ls)) ∧ s1.heap.IsList ls lvs.toArray ∧ IntsAre lvs ns ∧ ¬ ((63 : Nat) : Int) < ((ns.length : Nat) : Int) := ⟨_, _, _, _, _, _, N0, ⟨_, by assumption⟩, ⟨_, by assumption⟩, by assumption, hL, hI, hns⟩
  clear hL hI hns
  clear N0
  have F00 : Fr s1.heap s1.heap.objs.size _ (fun y => none) := F0
  clear F0
  replace hB : Below callerA s1.heap [] s1.heap := hB
  tb_start
  k_dflt (refine LCg.Assign_ListComp_U (F₀ := by k_asm) (by rfl) (by with_unfolding_all rfl) (by with_unfolding_all rfl) (by decide) (by rfl) (by decide) (by rfl) (by rfl) (by rfl) ?_)
  tb_start
  rename IsRange _ _ _ _ _ _ _ _ => R1
  rename Fr _ _ _ _ => F1
  rename News _ _ _ _ => N1
  k_dflt (refine LCg.CompSrc.range (by rfl) F1 N1 R1 (by rfl) (by rfl) (Nat.le_of_ble_eq_true rfl) ?_)
  intro gg
  lcg_lit
  refine LCg.CompRest.succ ?_
  intro v I oI C oC D m2 h tk E' hv hC hx FB NB off ne
  obtain ⟨tv, rfl⟩ := hv
  tb_start
  ktr_unf
  intro x1 t1 h4 tk4 F4 N4
  try clear FB NB
  tb_start
  k_dflt (refine' dig_use ?xk1 ?xk2 ?xk3 ?xk4 ?xk5 ?xkK ?xlo ?xhi (dig_tells _ _ _ _ _) ?xkd ?xku ?_)
  case xk1 => k_asm
  case xk2 => k_asm
  case xk3 => k_asm
  case xk4 => k_asm
  case xk5 => k_asm
  case xkK => first | exact rfl | assumption
  case xlo => omega
  case xhi => omega
  case xkd => ktr_room
  case xku => ktr_units
  intro dl dus dnn dxs0 h5 tk5 hdx0 hda0 hdb0 hdI F5 N5 hdl
  try clear F4 N4
  have h1L : IntsAre [Value.int 1 tk] (natsI [1]) := .cons 1 _ .nil
  have h1l : (natsI [1]).length = 1 := rfl
  have h4l : (natsI dxs0).length ≤ 4 := by rw [natsI, List.length_map]; omega
  tb_start
  rename_i D0 ws0 h6 F6 N6 hJ0 lt0
  refine compEnd_new (l := D0) (o := listOf ws0.toArray 0) F6 (kst_newsOf N6 ?hsub0) ?hlt0 off trivial ?_
  case hsub0 => repeat (first | exact List.forall_mem_nil _ | refine List.forall_mem_cons.mpr ⟨by k_mem, ?_⟩)
  case hlt0 => repeat (first | exact List.forall_mem_nil _ | refine List.forall_mem_cons.mpr ⟨(by show (_ : Nat) < _; omega), ?_⟩)
  have hc0 : s1.heap.objs.size + 1 + 1 + 1 < D0 := by omega
  clear F6 N6
  refine LCg.CompRest.succ ?_
  intro v I oI C oC D m2 h tk E' hv hC hx FB NB off ne
  obtain ⟨tv, rfl⟩ := hv
  tb_start
  ktr_unf
  intro x1 t1 h4 tk4 F4 N4
  try clear FB NB
  tb_start
  k_dflt (refine' dig_use ?xk1 ?xk2 ?xk3 ?xk4 ?xk5 ?xkK ?xlo ?xhi (dig_tells _ _ _ _ _) ?xkd ?xku ?_)
  case xk1 => k_asm
  case xk2 => k_asm
  case xk3 => k_asm
  case xk4 => k_asm
  case xk5 => k_asm
  case xkK => first | exact rfl | assumption
  case xlo => omega
  case xhi => omega
  case xkd => ktr_room
  case xku => ktr_units
  intro dl dus dnn dxs1 h5 tk5 hdx1 hda1 hdb1 hdI F5 N5 hdl
  try clear F4 N4
  have h1L : IntsAre [Value.int 1 tk] (natsI [1]) := .cons 1 _ .nil
  have h1l : (natsI [1]).length = 1 := rfl
  have h4l : (natsI dxs1).length ≤ 4 := by rw [natsI, List.length_map]; omega
  tb_start
  rename_i D1 ws1 h6 F6 N6 hJ1 lt1
  refine compEnd_new (l := D1) (o := listOf ws1.toArray 0) F6 (kst_newsOf N6 ?hsub1) ?hlt1 off trivial ?_
  case hsub1 => repeat (first | exact List.forall_mem_nil _ | refine List.forall_mem_cons.mpr ⟨by k_mem, ?_⟩)
  case hlt1 => repeat (first | exact List.forall_mem_nil _ | refine List.forall_mem_cons.mpr ⟨(by show (_ : Nat) < _; omega), ?_⟩)
  have hc1 : s1.heap.objs.size + 1 + 1 + 1 < D1 := by omega
  clear F6 N6
  refine LCg.CompRest.succ ?_
  intro v I oI C oC D m2 h tk E' hv hC hx FB NB off ne
  obtain ⟨tv, rfl⟩ := hv
  tb_start
  ktr_unf
  intro x1 t1 h4 tk4 F4 N4
  try clear FB NB
  tb_start
  k_dflt (refine' dig_use ?xk1 ?xk2 ?xk3 ?xk4 ?xk5 ?xkK ?xlo ?xhi (dig_tells _ _ _ _ _) ?xkd ?xku ?_)
  case xk1 => k_asm
  case xk2 => k_asm
  case xk3 => k_asm
  case xk4 => k_asm
  case xk5 => k_asm
  case xkK => first | exact rfl | assumption
  case xlo => omega
  case xhi => omega
  case xkd => ktr_room
  case xku => ktr_units
  intro dl dus dnn dxs2 h5 tk5 hdx2 hda2 hdb2 hdI F5 N5 hdl
  try clear F4 N4
  have h1L : IntsAre [Value.int 1 tk] (natsI [1]) := .cons 1 _ .nil
  have h1l : (natsI [1]).length = 1 := rfl
  have h4l : (natsI dxs2).length ≤ 4 := by rw [natsI, List.length_map]; omega
  tb_start
  rename_i D2 ws2 h6 F6 N6 hJ2 lt2
  refine compEnd_new (l := D2) (o := listOf ws2.toArray 0) F6 (kst_newsOf N6 ?hsub2) ?hlt2 off trivial ?_
  case hsub2 => repeat (first | exact List.forall_mem_nil _ | refine List.forall_mem_cons.mpr ⟨by k_mem, ?_⟩)
  case hlt2 => repeat (first | exact List.forall_mem_nil _ | refine List.forall_mem_cons.mpr ⟨(by show (_ : Nat) < _; omega), ?_⟩)
  have hc2 : s1.heap.objs.size + 1 + 1 + 1 < D2 := by omega
  clear F6 N6
  refine LCg.CompRest.zero ?_
  intro lf h10 tk10 F10 N10 o10
  have o10a := off1_mem o10 (s1.heap.objs.size + 1 + 1 + 1, oT) (by k_mem)
  have o10b := off1_mem o10 (s1.heap.objs.size + 1 + 1, oO) (by k_mem)
  simp only [List.nil_append, List.cons_append] at N10
  dsimp only at F10
  dsimp only
  tb_start
  refine Assign_Tuple ?_
  k_dflt (refine LCg.ListComp_U (F₀ := by k_asm) (by with_unfolding_all rfl) (by decide) (by rfl) (by decide) (by rfl) ?_)
  tb_start
  rename Fr _ _ _ _ => FA
  rename News _ _ _ _ => NA
  try clear F10 N10
  k_dflt (refine LCg.CompSrc.ledger (by rfl) FA NA List.mem_cons_self (Nat.le_of_ble_eq_true rfl) ?_)
  clear FA NA
  intro gg3
  lcg_lit
  refine LCg.CompRest.succ ?_
  intro v I oI C oC D m2 h tk E' hv hC hx FB NB off ne
  lcg_open hv
  tb_start
  k_dflt (refine' tellsN_use (c := cBy) (d := 29) ?k1 ?k2 ?k3 ?k4 ?k5 ?kK ?kR (by_tells _ _ _ _ _ _) ?ko ?kd ?ku ?_)
  case k1 => k_asm
  case k2 => k_asm
  case k3 => k_asm
  case k4 => k_asm
  case k5 => k_asm
  case kK => exact rfl
  case kR => exact ⟨_, rfl⟩
  case ko => decide
  case kd => ktr_room
  case ku => ktr_units
  intro r9 tl9 h9 tk9 F9 N9 hl9 ht9 ho9
  obtain ⟨l29, us29, nn29, xs9, rfl, N10, hlt, hI29, rfl⟩ := last_ret N9 hl9 ht9 ho9
  clear N9 hl9 ht9 ho9 FB NB
  tb_start
  refine compEnd_new F9 N10 hlt off (.inr ⟨_, by k_mem, rfl, _, rfl⟩) ?_
  have hc29 : s1.heap.objs.size + 1 + 1 + 1 < l29 := hlt (s1.heap.objs.size + 1 + 1 + 1, _) (by k_mem)
  clear F9 N10 hlt
  refine LCg.CompRest.succ ?_
  intro v I oI C oC D m2 h tk E' hv hC hx FB NB off ne
  lcg_open hv
  tb_start
  k_dflt (refine' tellsN_use (c := cBy) (d := 22) ?k1 ?k2 ?k3 ?k4 ?k5 ?kK ?kR (by_tells _ _ _ _ _ _) ?ko ?kd ?ku ?_)
  case k1 => k_asm
  case k2 => k_asm
  case k3 => k_asm
  case k4 => k_asm
  case k5 => k_asm
  case kK => exact rfl
  case kR => exact ⟨_, rfl⟩
  case ko => decide
  case kd => ktr_room
  case ku => ktr_units
  intro r9 tl9 h9 tk9 F9 N9 hl9 ht9 ho9
  obtain ⟨l22, us22, nn22, xs9, rfl, N10, hlt, hI22, rfl⟩ := last_ret N9 hl9 ht9 ho9
  clear N9 hl9 ht9 ho9 FB NB
  tb_start
  refine compEnd_new F9 N10 hlt off (.inr ⟨_, by k_mem, rfl, _, rfl⟩) ?_
  have hc22 : s1.heap.objs.size + 1 + 1 + 1 < l22 := hlt (s1.heap.objs.size + 1 + 1 + 1, _) (by k_mem)
  clear F9 N10 hlt
  refine LCg.CompRest.succ ?_
  intro v I oI C oC D m2 h tk E' hv hC hx FB NB off ne
  lcg_open hv
  tb_start
  k_dflt (refine' tellsN_use (c := cBy) (d := 20) ?k1 ?k2 ?k3 ?k4 ?k5 ?kK ?kR (by_tells _ _ _ _ _ _) ?ko ?kd ?ku ?_)
  case k1 => k_asm
  case k2 => k_asm
  case k3 => k_asm
  case k4 => k_asm
  case k5 => k_asm
  case kK => exact rfl
  case kR => exact ⟨_, rfl⟩
  case ko => decide
  case kd => ktr_room
  case ku => ktr_units
  intro r9 tl9 h9 tk9 F9 N9 hl9 ht9 ho9
  obtain ⟨l20, us20, nn20, xs9, rfl, N10, hlt, hI20, rfl⟩ := last_ret N9 hl9 ht9 ho9
  clear N9 hl9 ht9 ho9 FB NB
  tb_start
  refine compEnd_new F9 N10 hlt off (.inr ⟨_, by k_mem, rfl, _, rfl⟩) ?_
  have hc20 : s1.heap.objs.size + 1 + 1 + 1 < l20 := hlt (s1.heap.objs.size + 1 + 1 + 1, _) (by k_mem)
  clear F9 N10 hlt
  refine LCg.CompRest.succ ?_
  intro v I oI C oC D m2 h tk E' hv hC hx FB NB off ne
  lcg_open hv
  tb_start
  k_dflt (refine' tellsN_use (c := cBy) (d := 21) ?k1 ?k2 ?k3 ?k4 ?k5 ?kK ?kR (by_tells _ _ _ _ _ _) ?ko ?kd ?ku ?_)
  case k1 => k_asm
  case k2 => k_asm
  case k3 => k_asm
  case k4 => k_asm
  case k5 => k_asm
  case kK => exact rfl
  case kR => exact ⟨_, rfl⟩
  case ko => decide
  case kd => ktr_room
  case ku => ktr_units
  intro r9 tl9 h9 tk9 F9 N9 hl9 ht9 ho9
  obtain ⟨l21, us21, nn21, xs9, rfl, N10, hlt, hI21, rfl⟩ := last_ret N9 hl9 ht9 ho9
  clear N9 hl9 ht9 ho9 FB NB
  tb_start
  refine compEnd_new F9 N10 hlt off (.inr ⟨_, by k_mem, rfl, _, rfl⟩) ?_
  have hc21 : s1.heap.objs.size + 1 + 1 + 1 < l21 := hlt (s1.heap.objs.size + 1 + 1 + 1, _) (by k_mem)
  clear F9 N10 hlt
  refine LCg.CompRest.succ ?_
  intro v I oI C oC D m2 h tk E' hv hC hx FB NB off ne
  lcg_open hv
  tb_start
  k_dflt (refine' tellsN_use (c := cBy) (d := 18) ?k1 ?k2 ?k3 ?k4 ?k5 ?kK ?kR (by_tells _ _ _ _ _ _) ?ko ?kd ?ku ?_)
  case k1 => k_asm
  case k2 => k_asm
  case k3 => k_asm
  case k4 => k_asm
  case k5 => k_asm
  case kK => exact rfl
  case kR => exact ⟨_, rfl⟩
  case ko => decide
  case kd => ktr_room
  case ku => ktr_units
  intro r9 tl9 h9 tk9 F9 N9 hl9 ht9 ho9
  obtain ⟨l18, us18, nn18, xs9, rfl, N10, hlt, hI18, rfl⟩ := last_ret N9 hl9 ht9 ho9
  clear N9 hl9 ht9 ho9 FB NB
  tb_start
  refine compEnd_new F9 N10 hlt off (.inr ⟨_, by k_mem, rfl, _, rfl⟩) ?_
  have hc18 : s1.heap.objs.size + 1 + 1 + 1 < l18 := hlt (s1.heap.objs.size + 1 + 1 + 1, _) (by k_mem)
  clear F9 N10 hlt
  refine LCg.CompRest.zero ?_
  intro tD h11 tk11 F11 N11 o11
  simp only [List.nil_append, List.cons_append] at N11
  have o11a := off1_mem o11 (s1.heap.objs.size + 1 + 1 + 1, oT) (by k_mem)
  have o11b := off1_mem o11 (s1.heap.objs.size + 1 + 1, oO) (by k_mem)
  obtain ⟨led, N12, mD, m29, m22, m20, m21, m18, mf, md0, md1, md2, hra, hrb⟩ : ∃ led : List (Addr × Obj), News s1.heap s1.heap.objs.size h11 ((s1.heap.objs.size + 1 + 1 + 1, oT) :: (s1.heap.objs.size + 1 + 1, oO) :: (s1.heap.objs.size + 1, oS) :: led) ∧ (tD, listOf [Value.ref l29, Value.ref l22, Value.ref l20, Value.ref l21, Value.ref l18].toArray 5) ∈ led ∧ (l29, listOf us29.toArray nn29) ∈ led ∧ (l22, listOf us22.toArray nn22) ∈ led ∧ (l20, listOf us20.toArray nn20) ∈ led ∧ (l21, listOf us21.toArray nn21) ∈ led ∧ (l18, listOf us18.toArray nn18) ∈ led ∧ (lf, listOf [Value.ref D0, Value.ref D1, Value.ref D2].toArray 3) ∈ led ∧ (D0, listOf ws0.toArray 0) ∈ led ∧ (D1, listOf ws1.toArray 0) ∈ led ∧ (D2, listOf ws2.toArray 0) ∈ led ∧ (∀ p ∈ led, p.1 ≠ s1.heap.objs.size + 1 + 1 + 1) ∧ (∀ p ∈ led, p.1 ≠ s1.heap.objs.size + 1 + 1) := by
    refine ⟨[(tD, listOf [Value.ref l29, Value.ref l22, Value.ref l20, Value.ref l21, Value.ref l18].toArray 5), (l18, listOf us18.toArray nn18), (l21, listOf us21.toArray nn21), (l20, listOf us20.toArray nn20), (l22, listOf us22.toArray nn22), (l29, listOf us29.toArray nn29), (lf, listOf [Value.ref D0, Value.ref D1, Value.ref D2].toArray 3), (D2, listOf ws2.toArray 0), (D1, listOf ws1.toArray 0), (D0, listOf ws0.toArray 0)], kst_newsOf N11 ?_, ?_, ?_, ?_, ?_, ?_, ?_, ?_, ?_, ?_, ?_, ?_, ?_⟩
    · repeat (first | exact List.forall_mem_nil _ | refine List.forall_mem_cons.mpr ⟨by k_mem, ?_⟩)
    · k_mem
    · k_mem
    · k_mem
    · k_mem
    · k_mem
    · k_mem
    · k_mem
    · k_mem
    · k_mem
    · k_mem
    · exact List.forall_mem_cons.mpr ⟨Ne.symm o11a, List.forall_mem_cons.mpr ⟨(gt3 hc18).1, List.forall_mem_cons.mpr ⟨(gt3 hc21).1, List.forall_mem_cons.mpr ⟨(gt3 hc20).1, List.forall_mem_cons.mpr ⟨(gt3 hc22).1, List.forall_mem_cons.mpr ⟨(gt3 hc29).1, List.forall_mem_cons.mpr ⟨Ne.symm o10a, List.forall_mem_cons.mpr ⟨(gt3 hc2).1, List.forall_mem_cons.mpr ⟨(gt3 hc1).1, List.forall_mem_cons.mpr ⟨(gt3 hc0).1, List.forall_mem_nil _⟩⟩⟩⟩⟩⟩⟩⟩⟩⟩
    · exact List.forall_mem_cons.mpr ⟨Ne.symm o11b, List.forall_mem_cons.mpr ⟨(gt3 hc18).2, List.forall_mem_cons.mpr ⟨(gt3 hc21).2, List.forall_mem_cons.mpr ⟨(gt3 hc20).2, List.forall_mem_cons.mpr ⟨(gt3 hc22).2, List.forall_mem_cons.mpr ⟨(gt3 hc29).2, List.forall_mem_cons.mpr ⟨Ne.symm o10b, List.forall_mem_cons.mpr ⟨(gt3 hc2).2, List.forall_mem_cons.mpr ⟨(gt3 hc1).2, List.forall_mem_cons.mpr ⟨(gt3 hc0).2, List.forall_mem_nil _⟩⟩⟩⟩⟩⟩⟩⟩⟩⟩
  clear N11 o10 o11
  dsimp only
  refine' kun_list F11 N12 (News.isList N12 (List.mem_cons_of_mem _ (List.mem_cons_of_mem _ (List.mem_cons_of_mem _ mD)))) (by rfl) (by rfl) (by rfl) ?_
  intro h12 F12 N13
  clear F11 N12
  tb_start
  rename Fr _ _ _ _ => F14
  rename News _ _ _ _ => N14
  rename (_ < _ ∧ s1.heap.objs.size + 1 + 1 + 1 < _ ∧ _) => ltL
  rename (s1.heap.objs.size + 1 + 1 + 1 < _ ∧ _) => ltP
  refine outer1 w0 _ _ _ _ s1.heap s1.heap.objs.size _ _ _ _ led oT oO oS vT vO _ _ lf D0 D1 D2 l29 l22 l20 l21 l18 _ _ ws0 ws1 ws2 us29 us22 us20 us21 us18 nn29 nn22 nn20 nn21 nn18 dxs0 dxs1 dxs2 _ _ hB hX hT F14 (news_rot N14) ?za ?zb ?zc ?zd ?ze ?zf ?zg ?zh hdT hdO hra hrb (.cons 1 _ .nil) ?zI ltP.1 ltL.2.1 mf md0 hJ0 hdx0 hdb0 md1 hJ1 hdx1 hdb1 md2 hJ2 hdx2 hdb2 m29 hI29 m22 hI22 m20 hI20 m21 hI21 m18 hI18 ?zE ?zR
  case za => exact rfl
  case zb => exact rfl
  case zc => exact rfl
  case zd => exact rfl
  case ze => exact rfl
  case zf => exact rfl
  case zg => exact rfl
  case zh => exact rfl
  case zI =>
    rw [show run St.O [1] = St.I from run_one]
    exact I_ints
  case zE => passes_own
  case zR =>
    intro h' tk' m' F'
    clear F14 N14
    wrow_close)
end Mine
theorem PySem.Challenge.cw_oo0001_01_holds : PySem.Challenge.rw_oo0001_01.Holds :=
  Mine.main01
