import PyProof.Rows.All
import Wide.All
import OpenK.AllK
import Wide.FinOn
import PySem.Challenge.RW_hd0003_01
open PySem PySem.W PyProof.Rows PySem.Spec PySem.Calls
set_option Elab.async false
set_option rowWalk.seconds 0
namespace Mine
set_option maxRecDepth 100000 in
set_option maxHeartbeats 8000000 in
open_top hd for PySem.Challenge.rw_hd0003_01
/-- the world's program, the written part, the top's loose names -/
noncomputable abbrev Pg : Program := PySem.Challenge.rw_hd0003_01.row.prog
noncomputable abbrev KK (w : World) : Frag := hd.heap_39 w.params
noncomputable abbrev LL : List Str := looseW hd.view_39 [Str.ofString "insort_left", Str.ofString "bisect_left"] ++
        List.map (fun x => x.name) (recsOf hd.view_39) ++
      List.map (fun x => x.fst) (litsOf hd.view_39) ++
    List.map (fun x => x.name)
      (clssOf hd.view_39 (looseW hd.view_39 [Str.ofString "insort_left", Str.ofString "bisect_left"]))
/-- a call of f with args, under a ledger, that gives back a value and a ledger -/
abbrev CallTo (room : Nat) (w : World) (mean : ExcName → Option Value) (mg mb : Str → Option Value) (f : Addr) (args : List Value) (kw : List (Str × Value)) (news : List (Addr × Obj)) (R : Value → List (Addr × Obj) → Prop) : Prop :=
  ∀ (dp un : Nat) (gd : Option (List Code)) (cn : Str) (cs : Scope) (a : Addr) (ccd : Value) (cl : List (Str × Addr)) (outer : List Env) (A₀ : Around) (base h₀ : Heap) (L : Addr) (m : Str → Option Value) (s : Shared) (Q E : Value → Shared → Prop),
    Below A₀ base outer h₀ → Fr h₀ L s.heap m → (KK w).In h₀ → News h₀ L s.heap news → Top topProg LL mean mg mb h₀ → cs.kind = .function → CodeHd base 27 23 → CodeHd base 20 16 → dp + room < recursionLimit → un + 10 * room < cLine →
    (∀ r nx h' tk', Fr h₀ L h' m → News h₀ L h' nx → R r nx → Q r { s with heap := h', toks := tk' }) →
    wpAny (model Pg w) (ktrTop dp un gd cn cs L a ccd cl outer) (call (.ref f) args kw) Q E s
/-- the end of a turn -/
def TurnEnd (h₀ : Heap) (L : Addr) (J : (Str → Option Value) → List (Addr × Obj) → Prop) (I : Addr) (oI : Obj) (s₁ s₂ : Shared) : Prop :=
  ∃ h' tk m' news' nx, s₂ = { s₁ with heap := h', toks := tk } ∧ Fr h₀ L h' m' ∧ News h₀ L h' news' ∧ (∀ p ∈ nx, p ∈ news') ∧ ((I, oI) ∈ news') ∧ (∀ p ∈ nx, p.1 ≠ I) ∧ J m' nx
def TurnPost (h₀ : Heap) (L : Addr) (J : (Str → Option Value) → List (Addr × Obj) → Prop) (I : Addr) (oI : Obj) (s₁ : Shared) (Q : Flow → Shared → Prop) (f : Flow) (s₂ : Shared) : Prop :=
  match f with
  | .ret v => Q (.ret v) s₂
  | .brk => Q .next s₂
  | _ => TurnEnd h₀ L J I oI s₁ s₂
/-- a loop over an iterator object I that alone is written by its steps -/
theorem loop_gen {prog : Program} {w : World} {A : Around} {env : Env} {h₀ : Heap} {L : Addr} {x : Str} {px : Pos} {body : List Stmt} {I : Addr} {n : Nat} {P : Nat → Value → Prop} {St : Nat → Heap → Prop} {m : Str → Option Value} {news : List (Addr × Obj)} (J : Nat → (Str → Option Value) → List (Addr × Obj) → Prop)
    (item : ∀ i (s : Shared) (Q : Option Value → Shared → Prop) (E : Value → Shared → Prop), i < n → St i s.heap →
      (∀ v h' tk, P i v → St (i + 1) h' → (∀ b o, b ≠ I → s.heap.get? b = some o → h'.get? b = some o) → Q (some v) { s with heap := h', toks := tk }) → wpAny (model prog w) A (pyNext (.ref I)) Q E s)
    (fin : ∀ (s : Shared) (Q : Option Value → Shared → Prop) (E : Value → Shared → Prop), St n s.heap →
      (∀ h' tk, (∀ b o, b ≠ I → s.heap.get? b = some o → h'.get? b = some o) → Q none { s with heap := h', toks := tk }) → wpAny (model prog w) A (pyNext (.ref I)) Q E s)
    (stI : ∀ i h, St i h → ∃ o, h.get? I = some o)
    (stK : ∀ i h h' news', (∃ m', J i m' news') → (∀ p ∈ news', h'.get? p.1 = some p.2) → St i h → (∀ o, h.get? I = some o → h'.get? I = some o) → St i h')
    (hLI : L ≠ I) (hI0 : h₀.get? I = none) (hnw : ∀ p ∈ news, p.1 ≠ I)
    (hst : St 0 s.heap) (F : Fr h₀ L s.heap m) (N : News h₀ L s.heap news) (h0 : J 0 m news)
    (turn : ∀ i v m₁ nx oI h tk, i < n → P i v → (∀ p ∈ nx, p.1 ≠ I) → J i m₁ nx → Fr h₀ L h m₁ → News h₀ L h ((I, oI) :: nx) →
      wpAny (model prog w) A (assign (.Name x px) env v) (fun _ s₂ => wpAny (model prog w) A (execs body env) (TurnPost h₀ L (J (i + 1)) I oI { s with heap := h, toks := tk } Q) E s₂) E { s with heap := h, toks := tk })
    (hR : ∀ h' tk m' nx, Fr h₀ L h' m' → News h₀ L h' nx → J n m' nx → Q .next { s with heap := h', toks := tk })
    (hE : PassesOwn (model prog w) A env E) :
    codeAny (model prog w) A (.forLoop (.Name x px) (.ref I) body [] env) (fun r s' => match r with | .ok f => Q f s' | .error e => cameBackBy (model prog w) A env E e s') s := by
  refine codeAny_forLoop
    (fun k s' => ∃ h' tk m' nx i, s' = { s with heap := h', toks := tk } ∧ St i h' ∧ Fr h₀ L h' m' ∧ News h₀ L h' nx ∧ (∀ p ∈ nx, p.1 ≠ I) ∧ J i m' nx ∧ i ≤ n ∧ k = n + 1 - i) ?_ (n + 1)
    ⟨s.heap, s.toks, m, news, 0, rfl, hst, F, N, hnw, h0, Nat.zero_le _, rfl⟩
  rintro k s' ⟨h', tk, m', nx, i, rfl, hst', F', N', hnw', hJ, hi, rfl⟩
  have next : ∀ h₁ : Heap, (∀ b o, b ≠ I → h'.get? b = some o → h₁.get? b = some o) → Fr h₀ L h₁ m' ∧ News h₀ L h₁ nx := fun h₁ hk₁ =>
    ⟨⟨F'.ns.at' fun o e => hk₁ _ o hLI e, fun b o e => hk₁ b o (fun q => by rw [q, hI0] at e; cases e) (F'.keep b o e), F'.above⟩, fun p hp => ⟨hk₁ _ _ (hnw' p hp) (N' p hp).1, (N' p hp).2⟩⟩
  by_cases hlt : i < n
  · refine item i _ _ _ hlt hst' fun v h₁ tk₁ hP hst₁ hk₁ => ?_
    obtain ⟨F₁, N₁⟩ := next h₁ hk₁
    obtain ⟨oI, hoI⟩ := stI _ _ hst₁
    have N₂ : News h₀ L h₁ ((I, oI) :: nx) := fun p hp => by
      rcases List.mem_cons.mp hp with rfl | hp
      · exact ⟨hoI, fun e => hLI e.symm, hI0⟩
      · exact N₁ p hp
    refine wpAny_mono (wpAny_passesOwn hE (turn i v m' nx oI h₁ tk₁ hlt hP hnw' hJ F₁ N₂)) (fun _ s₂ h₂ => ?_) fun _ _ e => e
    refine wpAny_passesOwn hE (wpAny_mono h₂ (fun f s₃ h₃ => ?_) fun _ _ e => e)
    have fin : TurnEnd h₀ L (J (i + 1)) I oI { s with heap := h₁, toks := tk₁ } s₃ → ∃ k', k' < n + 1 - i ∧ ∃ h' tk m' nx i, s₃ = { s with heap := h', toks := tk } ∧ St i h' ∧ Fr h₀ L h' m' ∧ News h₀ L h' nx ∧ (∀ p ∈ nx, p.1 ≠ I) ∧ J i m' nx ∧ i ≤ n ∧ k' = n + 1 - i := by
      rintro ⟨hh₃, tk₃, m₃, news₃, nx₃, rfl, F₃, N₃, hn₃, hI₃, ha₃, hJ₃⟩
      have N₄ : News h₀ L hh₃ nx₃ := fun p hp => N₃ p (hn₃ p hp)
      refine ⟨n + 1 - (i + 1), by omega, hh₃, tk₃, m₃, nx₃, i + 1, rfl, stK (i + 1) h₁ hh₃ nx₃ ⟨m₃, hJ₃⟩ (fun p hp => (N₄ p hp).1) hst₁ (fun o e => ?_), F₃, N₄, ha₃, hJ₃, hlt, rfl⟩
      rw [hoI] at e; cases e; exact (N₃ _ hI₃).1
    cases f with
    | ret v => exact h₃
    | brk => exact h₃
    | cont => exact fin h₃
    | next => exact fin h₃
  · have hin : i = n := by omega
    subst hin
    refine fin _ _ _ hst' fun h₁ tk₁ hk₁ => wpAny_execs_nil ?_
    obtain ⟨F₁, N₁⟩ := next h₁ hk₁
    exact hR h₁ tk₁ m' nx F₁ N₁ hJ
/-- over a list of ints that the ledger bears, and goes on bearing -/
theorem iter_led {prog : Program} {w : World} {A : Around} {E : Value → Shared → Prop} {env : Env} {h₀ : Heap} {L : Addr} {x : Str} {px : Pos} {body : List Stmt} {Q : Flow → Shared → Prop} {l : Addr} {vs : List Value} {ns : List Int} {c : Nat} {m : Str → Option Value} {news : List (Addr × Obj)} (J : Nat → (Str → Option Value) → List (Addr × Obj) → Prop)
    (hh : A.handled = none) (hJl : ∀ i m' nx, J i m' nx → (l, listOf vs.toArray c) ∈ nx) (hi : IntsAre vs ns) (F : Fr h₀ L s.heap m) (N : News h₀ L s.heap news) (h0 : J 0 m news)
    (turn : ∀ i n t m₁ nx I oI h tk, ns[i]? = some n → (∀ p ∈ nx, p.1 ≠ I) → J i m₁ nx → Fr h₀ L h m₁ → News h₀ L h ((I, oI) :: nx) →
      wpAny (model prog w) A (assign (.Name x px) env (.int n t)) (fun _ s₂ => wpAny (model prog w) A (execs body env) (TurnPost h₀ L (J (i + 1)) I oI { s with heap := h, toks := tk } Q) E s₂) E { s with heap := h, toks := tk })
    (hR : ∀ h' tk m' nx, Fr h₀ L h' m' → News h₀ L h' nx → J ns.length m' nx → Q .next { s with heap := h', toks := tk })
    (hE : PassesOwn (model prog w) A env E := by passes_own) :
    wpAny (model prog w) A (pyIter (.ref l)) (fun it s₂ => codeAny (model prog w) A (.forLoop (.Name x px) it body [] env) (fun r s' => match r with | .ok f => Q f s' | .error e => cameBackBy (model prog w) A env E e s') s₂) E s := by
  have hlm := hJl 0 m news h0
  have hls : s.heap.IsList l vs.toArray := ⟨_, (N _ hlm).1, rfl, c, rfl⟩
  have hne : l ≠ s.heap.objs.size := Nat.ne_of_lt (Heap.lt_size (N _ hlm).1)
  refine wpAny_pyIter_list hls ?_
  have W := Walks.list (prog := prog) (w := w) hh s.heap.objs.size l hne vs.toArray
  have hlen : vs.toArray.size = ns.length := by simp [hi.length]
  rw [hlen] at W
  refine loop_gen (St := fun i h => h.IsListIter s.heap.objs.size l i ∧ h.IsList l vs.toArray) (P := fun i v => vs.toArray[i]? = some v) J
    (fun i s Q E hi st hQ => W.item i s Q E hi st fun v h' tk hP st' hk => hQ v h' tk hP st' fun b o hb e => hk b o (by simpa using hb) e)
    (fun s Q E st hQ => W.done s Q E st fun h' tk hk => hQ h' tk fun b o hb e => hk b o (by simpa using hb) e)
    (fun i h st => by obtain ⟨⟨o, ho, _⟩, _⟩ := st; exact ⟨o, ho⟩)
    (fun i h h' news' ⟨m', hJ⟩ hn st hk => ⟨st.1.at hk, ⟨_, hn _ (hJl i m' news' hJ), rfl, c, rfl⟩⟩)
    ?_ (next_is_new F) (fun p hp => Nat.ne_of_lt (Heap.lt_size (N p hp).1)) ⟨⟨_, Heap.get?_push_size _ rfl, rfl, rfl⟩, hls.at fun o e => Heap.get?_push_of_some _ e⟩ (F.push _) (fun p hp => ⟨Heap.get?_push_of_some _ (N p hp).1, (N p hp).2⟩) h0 ?_ hR hE
  · exact Nat.ne_of_lt F.ns.lt
  · intro i v m₁ nx oI h tk hlt hP hne' hJ F₁ N₁
    obtain ⟨t, hx⟩ := hi.get i ns[i] (by simp [hlt])
    have hv : v = .int ns[i] t := by
      have hP' : vs[i]? = some v := by simpa using hP
      rw [hx] at hP'; exact (Option.some.inj hP').symm
    subst hv
    exact turn i ns[i] t m₁ nx _ oI h tk (by simp [hlt]) hne' hJ F₁ N₁
/-- over a range from nought -/
theorem iter_rng {prog : Program} {w : World} {A : Around} {E : Value → Shared → Prop} {env : Env} {h₀ : Heap} {L : Addr} {x : Str} {px : Pos} {body : List Stmt} {Q : Flow → Shared → Prop} {r : Addr} {b₀ : Int} {t₀ u₀ v₀ : Tok} {n : Nat} {m : Str → Option Value} {news : List (Addr × Obj)} (J : Nat → (Str → Option Value) → List (Addr × Obj) → Prop)
    (hh : A.handled = none) (hr : IsRange s.heap r 0 b₀ 1 t₀ u₀ v₀) (hsmall : Builtin.Range.small 0 b₀ 1 = true) (hn : b₀ = (n : Int)) (F : Fr h₀ L s.heap m) (N : News h₀ L s.heap news) (h0 : J 0 m news)
    (turn : ∀ (i : Nat) t m₁ nx I oI h tk, i < n → (∀ p ∈ nx, p.1 ≠ I) → J i m₁ nx → Fr h₀ L h m₁ → News h₀ L h ((I, oI) :: nx) →
      wpAny (model prog w) A (assign (.Name x px) env (.int (i : Int) t)) (fun _ s₂ => wpAny (model prog w) A (execs body env) (TurnPost h₀ L (J (i + 1)) I oI { s with heap := h, toks := tk } Q) E s₂) E { s with heap := h, toks := tk })
    (hR : ∀ h' tk m' nx, Fr h₀ L h' m' → News h₀ L h' nx → J n m' nx → Q .next { s with heap := h', toks := tk })
    (hE : PassesOwn (model prog w) A env E := by passes_own) :
    wpAny (model prog w) A (pyIter (.ref r)) (fun it s₂ => codeAny (model prog w) A (.forLoop (.Name x px) it body [] env) (fun r s' => match r with | .ok f => Q f s' | .error e => cameBackBy (model prog w) A env E e s') s₂) E s := by
  have hsz : Builtin.Range.rangeSize 0 b₀ 1 = (n : Int) := by
    subst hn; have := rangeSize_nat 0 (n : Int); simpa using this
  refine wpAny_pyIter_range hr hsmall ?_
  have W := Walks.range (prog := prog) (w := w) hh s.heap.objs.size 0 1 n
  refine loop_gen (St := fun i h => IsRangeIter h s.heap.objs.size (0 + (i : Nat) * 1) ((n : Int) - (i : Nat)) 1) (P := fun i v => ∃ t, v = .int (0 + i * 1) t) J
    (fun i s Q E hi st hQ => W.item i s Q E hi st fun v h' tk hP st' hk => hQ v h' tk hP st' fun b o hb e => hk b o (by simpa using hb) e)
    (fun s Q E st hQ => W.done s Q E st fun h' tk hk => hQ h' tk fun b o hb e => hk b o (by simpa using hb) e)
    (fun i h st => ⟨_, st⟩)
    (fun i h h' news' _ hn st hk => hk _ st)
    ?_ (next_is_new F) (fun p hp => Nat.ne_of_lt (Heap.lt_size (N p hp).1)) (by show IsRangeIter _ _ _ _ _; rw [hsz]; simpa using Heap.get?_push_size _ rfl) (F.push _) (fun p hp => ⟨Heap.get?_push_of_some _ (N p hp).1, (N p hp).2⟩) h0 ?_ hR hE
  · exact Nat.ne_of_lt F.ns.lt
  · rintro i v m₁ nx oI h tk hlt ⟨t, rfl⟩ hne' hJ F₁ N₁
    have e1 : 0 + (i : Int) * 1 = (i : Int) := by omega
    rw [e1]
    exact turn i t m₁ nx _ oI h tk hlt hne' hJ F₁ N₁
/-- an item of a list of the ledger's, in bounds -/
theorem item_led {prog : Program} {w : World} {A : Around} {E : Value → Shared → Prop} {s : Shared} {h₀ : Heap} {L : Addr} {news : List (Addr × Obj)} {value slice : PySem.Expr} {l : Addr} {vs : List Value} {ns : List Int} {c : Nat} {k : Int} {u : Tok} {Q : Value → Shared → Prop}
    (N : News h₀ L s.heap news) (hm : (l, listOf vs.toArray c) ∈ news) (hi : IntsAre vs ns) (hb : 0 ≤ k ∧ k < (ns.length : Int) ∧ ns.length < 2 ^ 62) (h : ∀ t, Q (.int (ns.getD k.toNat 0) t) s)
    (hs : subscripted slice false (.ref l) (.int k u) = operate [.ref l, .int k u] (getItem (.ref l) (.int k u)) := by with_unfolding_all rfl) :
    wpAny (model prog w) A (subscriptTail value slice (.ref l) (.int k u)) Q E s := by
  obtain ⟨h0, hk, hf⟩ := hb
  have hl : s.heap.IsList l vs.toArray := ⟨_, (N _ hm).1, rfl, c, rfl⟩
  have hkn : k.toNat < ns.length := by omega
  obtain ⟨t, hx⟩ := hi.get k.toNat ns[k.toNat] (by simp [hkn])
  refine tail_any hl.typeIs slot_list_getitem.lookup (wpAny_getItem_list hl h0 (by omega) (x := .int ns[k.toNat] t) (by simpa using hx) ?_) hs
  have e : ns.getD k.toNat 0 = ns[k.toNat] := by simp [List.getD, hkn]
  rw [← e]; exact h t
theorem pow_led {prog : Program} {w : World} {A : Around} {E : Value → Shared → Prop} {k : Int} {t u : Tok} {n : Nat} {Q : Value → Shared → Prop} (h0 : 0 ≤ k) (h1 : k < 0 + (((n : Int) - 0).toNat : Int)) (h2 : n ≤ 8)
    (h : Q (.int (2 ^ k.toNat) s.toks) { s with toks := s.toks + 1 }) : wpAny (model prog w) A (binaryOp .Pow (.int 2 t) (.int k u)) Q E s :=
  pow_int_small h0 (by omega) (by decide) h
theorem div_led {prog : Program} {w : World} {A : Around} {E : Value → Shared → Prop} {a k : Int} {n : Nat} {t u : Tok} {Q : Value → Shared → Prop} (h0 : 0 ≤ k) (h1 : k < 0 + (((n : Int) - 0).toNat : Int)) (h2 : n ≤ 8) (h : Q (.int (a.fdiv (2 ^ k.toNat)) s.toks) { s with toks := s.toks + 1 }) :
    wpAny (model prog w) A (binaryOp .FloorDiv (.int a t) (.int (2 ^ k.toNat) u)) Q E s :=
  floordiv_int (Int.ne_of_gt (Int.pow_pos (by decide))) h (Or.inl (PyProof.noPylong_small (by
    have h3 : (2 : Int) ^ k.toNat = ((2 ^ k.toNat : Nat) : Int) := by simp
    have h4 : 2 ^ k.toNat ≤ 2 ^ 8 := Nat.pow_le_pow_right (by decide) (by omega)
    rw [h3, Int.natAbs_natCast]
    exact Nat.lt_of_le_of_lt h4 (by decide))))
theorem truthy_led {prog : Program} {w : World} {A : Around} {E : Value → Shared → Prop} {h₀ : Heap} {L : Addr} {news : List (Addr × Obj)} {l : Addr} {vs : List Value} {ns : List Int} {c : Nat} {Q : Bool → Shared → Prop} (N : News h₀ L s.heap news) (hm : (l, listOf vs.toArray c) ∈ news) (hi : IntsAre vs ns) (hf : ns.length < 2 ^ 62)
    (h : Q (decide (0 < ns.length)) { s with toks := s.toks + 1 + 1 }) : wpAny (model prog w) A (truthy (.ref l)) Q E s :=
  truthy_ints_fit ⟨_, (N _ hm).1, rfl, c, rfl⟩ hi hf h
theorem len_led {prog : Program} {w : World} {A : Around} {E : Value → Shared → Prop} {h₀ : Heap} {L : Addr} {news : List (Addr × Obj)} {l : Addr} {vs : List Value} {ns : List Int} {c : Nat} {Q : Value → Shared → Prop} (N : News h₀ L s.heap news) (hm : (l, listOf vs.toArray c) ∈ news) (hi : IntsAre vs ns) (hf : ns.length < 2 ^ 62)
    (h : Q (.int (ns.length : Int) (s.toks + 1)) { s with toks := s.toks + 1 + 1 }) : wpAny (model prog w) A (call (.builtin "len") [.ref l]) Q E s :=
  kst_len N hm hi.length (by omega) h
theorem updF_mem {d : Addr} {o : Obj} : ∀ {l : List (Addr × Obj)} {g : Obj → List (Addr × Obj)}, UpdF d o l g → (d, o) ∈ l
  | _, _, .head _ => .head _
  | _, _, .tail _ r => .tail _ (updF_mem r)
theorem updF_back {d : Addr} {o o' : Obj} : ∀ {l : List (Addr × Obj)} {g : Obj → List (Addr × Obj)}, UpdF d o l g → ∀ p ∈ g o', p = (d, o') ∨ p ∈ l
  | _, _, .head _, p, hp => by
    rcases List.mem_cons.mp hp with rfl | hp
    · exact .inl rfl
    · exact .inr (.tail _ hp)
  | _, _, .tail _ r, p, hp => by
    rcases List.mem_cons.mp hp with rfl | hp
    · exact .inr (.head _)
    · exact (updF_back r p hp).imp id fun h => .tail _ h
theorem updF_new {d : Addr} {o o' : Obj} : ∀ {l : List (Addr × Obj)} {g : Obj → List (Addr × Obj)}, UpdF d o l g → (d, o') ∈ g o'
  | _, _, .head _ => .head _
  | _, _, .tail _ r => .tail _ (updF_new r)
theorem updF_on {d : Addr} {o o' : Obj} : ∀ {l : List (Addr × Obj)} {g : Obj → List (Addr × Obj)}, UpdF d o l g → ∀ p ∈ l, p.1 ≠ d → p ∈ g o'
  | _, _, .head _, p, hp, hn => by
    rcases List.mem_cons.mp hp with rfl | hp
    · exact absurd rfl hn
    · exact .tail _ hp
  | _, _, .tail _ r, p, hp, hn => by
    rcases List.mem_cons.mp hp with rfl | hp
    · exact .head _
    · exact .tail _ (updF_on r p hp hn)
def Away (g : Obj → List (Addr × Obj)) (d : Nat) : Prop := ∀ o', ∀ p ∈ g o', @Ne Nat p.1 d
theorem Away.of {d : Addr} {o : Obj} {l : List (Addr × Obj)} {g : Obj → List (Addr × Obj)} (U : UpdF d o l g) {e : Nat} (h : ∀ p ∈ l, @LT.lt Nat _ p.1 e) : Away g e := fun o' p hp => by
  rcases updF_back U p hp with rfl | hp
  · exact Nat.ne_of_lt (show @LT.lt Nat _ d e from h (d, o) (updF_mem U))
  · exact Nat.ne_of_lt (h _ hp)
theorem Away.use {g : Obj → List (Addr × Obj)} {d : Addr} (h : Away g d) {o' : Obj} : ∀ p ∈ g o', p.1 ≠ d := h o'
theorem fr_sh2 {h₀ h : Heap} {L : Addr} {m₀ m₁ : Str → Option Value} {a b c : Str} {v w : Value} (F : Fr h₀ L h m₁) (ha : m₁ a = some v) (hb : m₁ b = some w) (hz : ∀ z, z ≠ a → z ≠ b → z ≠ c → m₁ z = m₀ z) :
    Fr h₀ L h (fun y => if y = a then some v else if y = b then some w else if y = c then m₁ c else m₀ y) := by
  have e : m₁ = (fun y => if y = a then some v else if y = b then some w else if y = c then m₁ c else m₀ y) := by
    funext y
    by_cases h1 : y = a
    · rw [if_pos h1, h1, ha]
    · by_cases h2 : y = b
      · rw [if_neg h1, if_pos h2, h2, hb]
      · by_cases h3 : y = c
        · rw [if_neg h1, if_neg h2, if_pos h3, h3]
        · rw [if_neg h1, if_neg h2, if_neg h3, hz y h1 h2 h3]
  rw [← e]; exact F
/-- the end of a turn of a while that turns two ints and forgets one name -/
def Two (h₀ : Heap) (L : Addr) (news : List (Addr × Obj)) (a b c : Str) (m₀ : Str → Option Value) (P : Int → Int → Prop) (k : Int) (s s₃ : Shared) : Prop :=
  ∃ h' tk m' x y tx ty, s₃ = { s with heap := h', toks := tk } ∧ Fr h₀ L h' m' ∧ News h₀ L h' news ∧ m' a = some (.int x tx) ∧ m' b = some (.int y ty) ∧ (∀ z, z ≠ a → z ≠ b → z ≠ c → m' z = m₀ z) ∧ P x y ∧ y - x < k
def TwoPost (h₀ : Heap) (L : Addr) (news : List (Addr × Obj)) (a b c : Str) (m₀ : Str → Option Value) (P : Int → Int → Prop) (k : Int) (s : Shared) (Q : Flow → Shared → Prop) (f : Flow) (s₃ : Shared) : Prop :=
  match f with
  | .ret v => Q (.ret v) s₃
  | .brk => Q .next s₃
  | _ => Two h₀ L news a b c m₀ P k s s₃
theorem while_two {prog : Program} {w : World} {A : Around} {E : Value → Shared → Prop} {Q : Flow → Shared → Prop} {env : Env} {h₀ : Heap} {L : Addr} {test : Expr} {body : List Stmt} {pos : Pos} {m₀ : Str → Option Value} {news : List (Addr × Obj)} (a b c : Str) (P : Int → Int → Prop) {x₀ y₀ : Int} {tx₀ ty₀ : Tok}
    (hP : ∀ x y, P x y → x ≤ y) (F : Fr h₀ L s.heap m₀) (N : News h₀ L s.heap news) (ha : m₀ a = some (.int x₀ tx₀)) (hb : m₀ b = some (.int y₀ ty₀)) (h0 : P x₀ y₀)
    (turn : ∀ x y tx ty (u : Option Value) h tk, P x y → Fr h₀ L h (fun z => if z = a then some (.int x tx) else if z = b then some (.int y ty) else if z = c then u else m₀ z) → News h₀ L h news →
      wpAny (model prog w) A (isTrue test env (eval test env)) (fun bb s₂ =>
        if bb = true then wpAny (model prog w) A (execs body env) (TwoPost h₀ L news a b c m₀ P (y - x) s Q) E s₂ else Q .next s₂) E { s with heap := h, toks := tk })
    (hE : PassesOwn (model prog w) A env E := by passes_own) :
    wpAny (model prog w) A (exec (.While test body [] pos) env) Q E s := by
  refine While_inv2 (fun k m' nx => nx = news ∧ ∃ x y tx ty, m' a = some (.int x tx) ∧ m' b = some (.int y ty) ∧ (∀ z, z ≠ a → z ≠ b → z ≠ c → m' z = m₀ z) ∧ P x y ∧ k = (y - x).toNat) F N ⟨rfl, x₀, y₀, tx₀, ty₀, ha, hb, fun _ _ _ _ => rfl, h0, rfl⟩ ?_ hE
  rintro k m₁ nx h tk F₁ N₁ ⟨rfl, x, y, tx, ty, h1, h2, h3, h4, rfl⟩
  refine wpAny_mono (turn x y tx ty (m₁ c) h tk h4 (fr_sh2 F₁ h1 h2 h3) N₁) (fun bb s₂ p => ?_) fun _ _ x => x
  cases bb with
  | false => simpa using p
  | true =>
    simp only [if_true] at p ⊢
    refine wpAny_mono p (fun f s₃ q => ?_) fun _ _ x => x
    cases f with
    | ret v => exact q
    | brk => exact q
    | next =>
      obtain ⟨h', tk', m', x', y', tx', ty', rfl, F', N', e1, e2, e3, e4, e5⟩ := q
      exact ⟨h', tk', m', nx, (y' - x').toNat, rfl, F', N', by have := hP _ _ e4; omega, rfl, x', y', tx', ty', e1, e2, e3, e4, rfl⟩
    | cont =>
      obtain ⟨h', tk', m', x', y', tx', ty', rfl, F', N', e1, e2, e3, e4, e5⟩ := q
      exact ⟨h', tk', m', nx, (y' - x').toNat, rfl, F', N', by have := hP _ _ e4; omega, rfl, x', y', tx', ty', e1, e2, e3, e4, rfl⟩
theorem flat_rep (k : Nat) (x : Int) : (List.replicate k [x]).flatten = List.replicate k x := by
  induction k with
  | zero => rfl
  | succ k ih => rw [List.replicate_succ, List.flatten_cons, ih, List.replicate_succ]; rfl
theorem bnd_of {p q : Prop} (h : p → q) (hp : p) : q := h hp
theorem memOf {α : Type} {x : α} {l : List α} (h : x ∈ l) : List.Mem x l := h
theorem bndN {k : Int} {ms : List Int} (h0 : 0 ≤ k) (h1 : k < 0 + (((ms.length : Int) - 0).toNat : Int)) (h2 : ms.length < 2 ^ 62) : 0 ≤ k ∧ k < (ms.length : Int) ∧ ms.length < 2 ^ 62 := ⟨h0, by omega, h2⟩
theorem bndL {k n : Int} {fs : List Int} (h0 : 0 ≤ k) (h1 : k < 0 + (((fs.length : Int) + n - 0).toNat : Int)) (hn : 1 ≤ n ∧ n ≤ 12) (hf : fs.length ≤ 200) :
    0 ≤ k ∧ k < ((fs ++ (List.replicate n.toNat [(0 : Int)]).flatten).length : Int) ∧ (fs ++ (List.replicate n.toNat [(0 : Int)]).flatten).length < 2 ^ 62 := by
  rw [flat_rep, List.length_append, List.length_replicate]; omega
theorem bndR {k n : Int} {fs : List Int} (h0 : 0 ≤ k) (h1 : k < 0 + (((fs.length : Int) + n - 0).toNat : Int)) (hn : 1 ≤ n ∧ n ≤ 12) (hf : fs.length ≤ 200) :
    0 ≤ k ∧ k < (((List.replicate n.toNat [(0 : Int)]).flatten ++ fs).length : Int) ∧ ((List.replicate n.toNat [(0 : Int)]).flatten ++ fs).length < 2 ^ 62 := by
  rw [flat_rep, List.length_append, List.length_replicate]; omega
theorem fillX (_ : OpenLaw) (_ : Params → Frag) (_h : (fun (_ : OpenLaw) (_ : Params → Frag) => True) PySem.Challenge.rw_hd0003_01 hd.heap_39) : (fun (_ : OpenLaw) (_ : Params → Frag) => True) PySem.Challenge.rw_hd0003_01 hd.heap_39 := by
  k_fill
  trivial
local macro_rules | `(tactic| k_room) => `(tactic| ktr_room)
local macro_rules | `(tactic| k_ne) => `(tactic| first | (refine neN ?_; with_reducible assumption) | (refine neN (Ne.symm ?_); with_reducible assumption) | (refine neN ?_; (try dsimp only); omega))
local macro_rules | `(tactic| k_updF) => `(tactic| with_reducible assumption)
local macro_rules | `(tactic| k_mem) => `(tactic| first | with_reducible assumption | (refine memOf ?_; with_reducible assumption))
local macro_rules | `(tactic| k_all) => `(tactic| first | with_reducible assumption | (refine Away.use ?_; with_reducible assumption))
local macro_rules | `(tactic| walk_at "MINE bound") => `(tactic| first | with_reducible assumption | (refine bnd_of ?_ ?_ <;> with_reducible assumption) | (refine bndN ?_ ?_ ?_ <;> with_reducible assumption) | (refine bndL ?_ ?_ ?_ ?_ <;> with_reducible assumption) | (refine bndR ?_ ?_ ?_ ?_ <;> with_reducible assumption))
local macro_rules | `(tactic| walk_at "subscriptTail Name Name ref int") => `(tactic| (k_here; (with_reducible show wpAny _ _ (subscriptTail _ _ (Value.ref _) (Value.int _ _)) _ _ _); k_dflt (refine' item_led ?k1 ?k2 ?k3 ?k4 ?_; (case k1 => k_asm); (case k2 => k_mem); (case k3 => with_reducible assumption); (case k4 => walk_at "MINE bound")); intro t9))
local macro_rules | `(tactic| walk_at "truthy ref") => `(tactic| (k_here; (with_reducible show wpAny _ _ (truthy (Value.ref _)) _ _ _); k_dflt (refine' truthy_led ?k1 ?k2 ?k3 ?k4 ?_; (case k1 => k_asm); (case k2 => k_mem); (case k3 => with_reducible assumption); (case k4 => with_reducible assumption); k_whole)))
local macro_rules | `(tactic| walk_at "call builtin:len") => `(tactic| (k_here; (with_reducible show wpAny _ _ (call (Value.builtin "len") [Value.ref _]) _ _ _); k_dflt (refine' len_led ?k1 ?k2 ?k3 ?k4 ?_; (case k1 => k_asm); (case k2 => k_mem); (case k3 => with_reducible assumption); (case k4 => with_reducible assumption); k_whole)))
local macro_rules | `(tactic| walk_at "binaryOp LShift int int") => `(tactic| (k_here; refine' lshift_int ?sa ?sb ?_; (case sa => with_reducible assumption); (case sb => with_reducible assumption)))
local macro_rules | `(tactic| walk_at "binaryOp RShift int int") => `(tactic| (k_here; refine' rshift_int ?sa ?_; (case sa => with_reducible assumption)))
local macro_rules | `(tactic| walk_at "binaryOp Pow int int") => `(tactic| (k_here; refine' pow_led ?sa ?sb ?sc ?_; (case sa => with_reducible assumption); (case sb => with_reducible assumption); (case sc => with_reducible assumption)))
local macro_rules | `(tactic| walk_at "binaryOp FloorDiv int int") => `(tactic| (k_here; refine' div_led ?sa ?sb ?sc ?_; (case sa => with_reducible assumption); (case sb => with_reducible assumption); (case sc => with_reducible assumption)))
section
local macro_rules | `(tactic| walk_at "MINE pad") => `(tactic| skip)
theorem off1_mem {D : Addr} : ∀ {l : List (Addr × Obj)}, LCg.Off1 D l → ∀ p ∈ l, @Ne Nat p.1 D
  | [], _, _, h => nomatch h
  | _ :: _, x, p, h => by
    rcases List.mem_cons.mp h with rfl | h
    · exact x.1
    · exact off1_mem x.2 p h
theorem fr_sh3 {h₀ h : Heap} {L : Addr} {m₀ m₁ : Str → Option Value} {a b c : Str} {v : Value} (F : Fr h₀ L h m₁) (ha : m₁ a = some v) (hz : ∀ z, z ≠ a → z ≠ b → z ≠ c → m₁ z = m₀ z) :
    Fr h₀ L h (fun y => if y = a then some v else if y = b then m₁ b else if y = c then m₁ c else m₀ y) := by
  have e : m₁ = (fun y => if y = a then some v else if y = b then m₁ b else if y = c then m₁ c else m₀ y) := by
    funext y
    by_cases h1 : y = a
    · rw [if_pos h1, h1, ha]
    · by_cases h2 : y = b
      · rw [if_neg h1, if_pos h2, h2]
      · by_cases h3 : y = c
        · rw [if_neg h1, if_neg h2, if_pos h3, h3]
        · rw [if_neg h1, if_neg h2, if_neg h3, hz y h1 h2 h3]
  rw [← e]; exact F
def stepF (fs : List Int) (n : Int) : List Int :=
  List.map (fun k' : Int => if ((List.replicate n.toNat [(0 : Int)]).flatten ++ fs).getD k'.toNat 0 > (fs ++ (List.replicate n.toNat [(0 : Int)]).flatten).getD k'.toNat 0 then ((List.replicate n.toNat [(0 : Int)]).flatten ++ fs).getD k'.toNat 0 else (fs ++ (List.replicate n.toNat [(0 : Int)]).flatten).getD k'.toNat 0) (rangeKs 0 ((fs.length : Int) + n - 0).toNat)
def mv (ns : List Int) : List Int := ns.foldl stepF [1]
theorem mv_take {ns : List Int} {i : Nat} {n : Int} (h : ns[i]? = some n) : mv (ns.take (i + 1)) = stepF (mv (ns.take i)) n := by
  unfold mv; rw [List.take_add_one, h]; simp
theorem stepF_len {fs : List Int} {n : Int} : (stepF fs n).length = ((fs.length : Int) + n).toNat := by
  unfold stepF; rw [List.length_map, rangeKs_length]; simp
set_option maxRecDepth 100000 in
set_option maxHeartbeats 600000 in
theorem moved_spec (w mean mg mb l vs ns c news) (hl : (l, listOf (vs : List Value).toArray c) ∈ news) (hi : IntsAre vs ns) (hn : ∀ n ∈ ns, 1 ≤ n ∧ n ≤ 12) (hlen : ns.length ≤ 9) :
    CallTo 20 w mean mg mb 51 [.ref l] [] news fun r nx => ∃ d us c', r = .ref d ∧ nx = (d, listOf (us : List Value).toArray c') :: news ∧ IntsAre us (mv ns) ∧ ∀ p ∈ news, @Ne Nat p.1 d := by
  w_top off
  intro dp un gd cn cs a ccd cl outer A₀ base h₀ L m s Q E B F X N T hk _ _ hd hu hret
  obtain ⟨ck, cns, cgen, ccor, cmore⟩ := cs
  obtain rfl : ck = ScopeKind.function := hk
  delta KK at X
  delta LL at T
  delta Pg
  refine wpAny_call ?_
  k_enter
  rename_i g1 L1 h1 tk1 FG1 F1 B1 X1 T1 l1 o1 o2 d1 d2 N1
  k_steps
  rename_i fig h2 l2 h3 F3 N3
  refine wpAny_For ?_
  k_steps
  refine iter_led (ns := ns) (vs := vs) (c := c) (L := L1) (fun i m' nx => ∃ fig us c' o1 o2 w1 w2 fs, nx = (fig, listOf (us : List Value).toArray c') :: (L1 + 1 + 1, o1) :: (L1 + 1, o2) :: news ∧ o1.data = .cell w1 ∧ o2.data = .cell w2 ∧ (@Ne Nat (L1 + 1 + 1) fig ∧ @Ne Nat (L1 + 1) fig ∧ ∀ p ∈ news, @Ne Nat p.1 fig) ∧ IntsAre us fs ∧ fs = mv (ns.take i) ∧ fs.length ≤ 1 + 12 * i ∧
      m' (Str.ofString "figures") = some (.ref fig) ∧ ∀ z, z ≠ Str.ofString "figures" → z ≠ Str.ofString "number" → z ≠ Str.ofString "long" → m' z = (if z = Str.ofString "numbers" then some (Value.ref l) else none)) rfl ?hJl hi F3 N3 ?h0 ?turn ?hR
  case hJl => rintro i m' nx ⟨fig, us, c', o1, o2, w1, w2, fs, rfl, _⟩; exact .tail _ (.tail _ (.tail _ hl))
  case h0 =>
    refine ⟨_, _, _, _, _, _, _, [1], rfl, d1, d2, ⟨Nat.ne_of_lt l2.1, Nat.ne_of_lt l2.2.1, fun p hp => Nat.ne_of_lt (tb_ltOf l2.2.2 p hp)⟩, .cons 1 _ .nil, ?_, by decide, rfl, ?_⟩
    · show [1] = List.foldl stepF [1] (ns.take 0)
      rfl
    · intro z h1 h2 h3
      simp only [if_neg h1]
      by_cases h4 : z = Str.ofString "numbers"
      · subst h4; rfl
      · rw [if_neg h4]
        exact if_neg h4
  case turn =>
    rintro i n t m₁ nx I oI h tk hni hnI ⟨fig, us, c', o1, o2, w1, w2, fs, rfl, e1, e2, lf, hus, hfs, hlen, hf, hz⟩ F4 N4
    have F5 := fr_sh3 F4 hf hz
    clear F4
    have hI1 : @Ne Nat fig I := hnI _ (.head _)
    have hI2 : @Ne Nat (L1 + 1 + 1) I := hnI _ (.tail _ (.head _))
    have hI3 : @Ne Nat (L1 + 1) I := hnI _ (.tail _ (.tail _ (.head _)))
    have hI4 : ∀ p ∈ news, p.1 ≠ I := fun p hp => hnI p (.tail _ (.tail _ (.tail _ hp)))
    have hn1 := hn n (List.mem_of_getElem? hni)
    have hul := hus.length
    have hil : i < ns.length := (List.getElem?_eq_some_iff.mp hni).1
    have hl2 : fs.length ≤ 200 := by omega
    refine wpAny_assign_Name ?_
    have hMk := kstMark
    have hLa : ∀ p ∈ news, p.1 ≠ L1 + 1 := fun p hp => Nat.ne_of_lt (Nat.lt_succ_of_lt (l1 p hp))
    have hLb : ∀ p ∈ news, p.1 ≠ L1 + 1 + 1 := fun p hp => Nat.ne_of_lt (Nat.lt_succ_of_lt (Nat.lt_succ_of_lt (l1 p hp)))
    k_steps
    rename_i oL dL hR oR dR h10 tk10 t10 u10 v10 rg10 Fr10 N10 kp10 hk1 hk2 hk3 hk4 g10 hI8 hL8 D9 h9 tk9 F9 N9 o9
    have hD9I : @Ne Nat D9 I := by clear hI1 hI2 hI3; omega
    refine ⟨_, _, _, _, (D9, LCg.lst ys) :: (L1 + 1 + 1, oR) :: (L1 + 1, oL) :: news, rfl, F9, N9, ?_, by k_mem, ?_, ⟨D9, ys, ys.length, oR, oL, _, _, _, rfl, dR, dL, ⟨?_, ?_, ?_⟩, hI8, ?_, ?_, rfl, ?_⟩⟩
    · intro p hp
      rcases List.mem_cons.mp hp with rfl | hp
      · exact .head _
      · repeat' (first | exact hp | apply List.Mem.tail)
    · intro p hp
      rcases List.mem_cons.mp hp with rfl | hp
      · exact hD9I
      · rcases List.mem_cons.mp hp with rfl | hp
        · exact hI2
        · rcases List.mem_cons.mp hp with rfl | hp
          · exact hI3
          · exact hI4 p hp
    · omega
    · omega
    · exact off1_mem o9.2.2.2.2.2.2.2.2.2.2.2
    · rw [mv_take hni, ← hfs]; rfl
    · rw [show List.map _ _ = stepF fs n from rfl, stepF_len]; omega
    · intro z h1 h2 h3
      simp only [if_neg h1, if_neg h2, if_neg h3]
  case hR =>
    rintro h tk m₁ nx F4 N4 ⟨fig, us, c', o1, o2, w1, w2, fs, rfl, e1, e2, lf, hus, hfs, hlen, hf, hz⟩
    have F5 := fr_sh3 F4 hf hz
    clear F4
    k_steps
    rename_i kF kN kT kX
    exact hret _ _ _ _ kF (fun p hp => kN p (by
      rcases List.mem_cons.mp hp with rfl | hp
      · exact .head _
      · exact .tail _ (.tail _ (.tail _ hp)))) ⟨fig, us, c', rfl, rfl, by rw [hfs, List.take_length] at hus; exact hus, lf.2.2⟩
end
section
local macro_rules | `(tactic| walk_at "MINE pad") => `(tactic| skip)
/-- the number that the figures from lo to hi tell -/
def valL : List Int → Int
  | [] => 0
  | x :: r => x + 2 * valL r
def dval (fs : List Int) (lo hi : Int) : Int := valL ((fs.take hi.toNat).drop lo.toNat)
def InnerSpec (w : World) (mean : ExcName → Option Value) (mg mb : Str → Option Value) (f : Addr) (needs : List (Addr × Obj)) (fs : List Int) (d : Nat) : Prop :=
  ∀ (dp un : Nat) (gd : Option (List Code)) (cn : Str) (cs : Scope) (a : Addr) (ccd : Value) (cl : List (Str × Addr)) (outer : List Env) (A₀ : Around) (base h₀ : Heap) (L : Addr) (m : Str → Option Value) (news : List (Addr × Obj)) (s : Shared) (Q E : Value → Shared → Prop) (lo hi : Int) (t1 t2 : Tok),
    Below A₀ base outer h₀ → Fr h₀ L s.heap m → (hd.heap_39 w.params).In h₀ → News h₀ L s.heap news → Top topProg LL mean mg mb h₀ → cs.kind = .function →
    (∀ p ∈ needs, p ∈ news) → (0 ≤ lo ∧ lo < hi ∧ hi ≤ (fs.length : Int) ∧ hi - lo ≤ (d : Int)) → dp + d + 2 < recursionLimit → un + 8 * d + 16 < cLine →
    (∀ t h' tk', Fr h₀ L h' m → News h₀ L h' news → Q (.int (dval fs lo hi) t) { s with heap := h', toks := tk' }) →
    wpAny (model PySem.Challenge.rw_hd0003_01.row.prog w) (ktrTop dp un gd cn cs L a ccd cl outer) (call (.ref f) [.int lo t1, .int hi t2]) Q E s
theorem inner_all {w : World} {mean : ExcName → Option Value} {mg mb : Str → Option Value} {f : Addr} {needs : List (Addr × Obj)} {fs : List Int}
    (step : ∀ d, (∀ d', d' < d → InnerSpec w mean mg mb f needs fs d') → InnerSpec w mean mg mb f needs fs d) : ∀ d, InnerSpec w mean mg mb f needs fs d := by
  have all : ∀ n, ∀ d, d < n → InnerSpec w mean mg mb f needs fs d := by
    intro n
    induction n with
    | zero => intro d h; exact absurd h (Nat.not_lt_zero _)
    | succ n ih => exact fun d h => step d fun d' h' => ih d' (Nat.lt_of_lt_of_le h' (Nat.le_of_lt_succ h))
  exact fun d => all _ d (Nat.lt_succ_self _)
theorem mid_b {lo hi : Int} (h0 : 0 ≤ lo) (h1 : lo < hi) (h2 : lo + 1 ≠ hi) : lo < (lo + hi).fdiv (2 ^ Int.toNat 1) ∧ (lo + hi).fdiv (2 ^ Int.toNat 1) < hi := by
  have e : (2 : Int) ^ Int.toNat 1 = 2 := by decide
  rw [e, Int.fdiv_eq_ediv_of_nonneg _ (by decide)]; omega
theorem dval_one {fs : List Int} {lo hi : Int} (h0 : 0 ≤ lo) (h1 : lo + 1 = hi) (h2 : hi ≤ (fs.length : Int)) : dval fs lo hi = fs.getD lo.toNat 0 := by
  unfold dval
  have e : hi.toNat = lo.toNat + 1 := by omega
  have hlt : lo.toNat < fs.length := by omega
  rw [e, List.take_add_one, List.getElem?_eq_getElem hlt, List.drop_append, List.drop_eq_nil_of_le (by rw [List.length_take]; omega)]
  have : lo.toNat - (fs.take lo.toNat).length = 0 := by rw [List.length_take]; omega
  rw [this]
  simp [valL, List.getD, hlt]
theorem valL_b : ∀ {xs : List Int}, (∀ n ∈ xs, n = 0 ∨ n = 1) → 0 ≤ valL xs ∧ valL xs < 2 ^ xs.length
  | [], _ => by decide
  | x :: r, h => by
    have h1 := valL_b (xs := r) fun n hn => h n (.tail _ hn)
    have h2 := h x (.head _)
    rw [valL, List.length_cons, Int.pow_succ]
    omega
theorem intBits_lt {a : Int} {k : Nat} (h0 : 0 ≤ a) (h : a < 2 ^ k) : Builtin.Int.intBits a ≤ k := by
  unfold Builtin.Int.intBits
  split
  · exact Nat.zero_le _
  · rename_i hne
    have hne' : a ≠ 0 := by simpa using hne
    have h1 : a.natAbs < 2 ^ k := by
      have : ((a.natAbs : Nat) : Int) < ((2 ^ k : Nat) : Int) := by rw [Int.natAbs_of_nonneg h0]; simpa using h
      exact Int.ofNat_lt.mp this
    exact (Nat.log2_lt (by omega)).mpr h1
theorem dval_b {fs : List Int} {lo hi : Int} (h : ∀ n ∈ fs, n = 0 ∨ n = 1) : 0 ≤ dval fs lo hi ∧ dval fs lo hi < 2 ^ fs.length := by
  have h1 := valL_b (xs := (fs.take hi.toNat).drop lo.toNat) fun n hn => h n (List.mem_of_mem_take (List.mem_of_mem_drop hn))
  refine ⟨h1.1, Int.lt_of_lt_of_le h1.2 ?_⟩
  have hl : ((fs.take hi.toNat).drop lo.toNat).length ≤ fs.length := by rw [List.length_drop, List.length_take]; omega
  exact_mod_cast Nat.pow_le_pow_right (by decide) hl
theorem dval_bits {fs : List Int} {lo hi : Int} (h : ∀ n ∈ fs, n = 0 ∨ n = 1) : Builtin.Int.intBits (dval fs lo hi) ≤ fs.length := intBits_lt (dval_b h).1 (dval_b h).2
theorem valL_append : ∀ (xs ys : List Int), valL (xs ++ ys) = valL xs + 2 ^ xs.length * valL ys
  | [], ys => by simp [valL]
  | x :: r, ys => by
    rw [List.cons_append, valL, valL, valL_append r ys, List.length_cons, Int.pow_succ]
    generalize valL ys = a; generalize (2 : Int) ^ r.length = b; generalize valL r = c
    rw [Int.mul_add, Int.mul_comm b 2, Int.mul_assoc]; omega
theorem dval_split {fs : List Int} {lo hi M : Int} (h0 : 0 ≤ lo) (h1 : lo < M) (h2 : M < hi) (h3 : hi ≤ (fs.length : Int)) : dval fs lo hi = dval fs M hi * 2 ^ ((M - lo) * 1).toNat + dval fs lo M := by
  unfold dval
  have e : (fs.take hi.toNat).drop lo.toNat = (fs.take M.toNat).drop lo.toNat ++ (fs.take hi.toNat).drop M.toNat := by
    have e1 : fs.take M.toNat = (fs.take hi.toNat).take M.toNat := by rw [List.take_take]; congr 1; omega
    rw [e1]
    generalize fs.take hi.toNat = xs
    rw [show M.toNat = lo.toNat + (M.toNat - lo.toNat) by omega, ← List.drop_drop, List.drop_take, show lo.toNat + (M.toNat - lo.toNat) - lo.toNat = M.toNat - lo.toNat by omega]
    exact (List.take_append_drop _ _).symm
  rw [e, valL_append]
  have el : ((fs.take M.toNat).drop lo.toNat).length = ((M - lo) * 1).toNat := by rw [List.length_drop, List.length_take]; omega
  rw [el, Int.mul_comm (2 ^ _)]; omega
theorem inner_use {w : World} {mean : ExcName → Option Value} {mg mb : Str → Option Value} {f : Addr} {needs rest : List (Addr × Obj)} {fs : List Int} {FO : Obj} {h₀ h : Heap} {L : Addr} {P : Prop}
    (_N : News h₀ L h ((f, FO) :: rest)) (step : ∀ d, (∀ d', d' < d → InnerSpec w mean mg mb f ((f, FO) :: needs) fs d') → InnerSpec w mean mg mb f ((f, FO) :: needs) fs d)
    (k : (∀ d, InnerSpec w mean mg mb f ((f, FO) :: needs) fs d) → P) : P := k (inner_all step)
local macro_rules | `(tactic| walk_at "MINE steps") => `(tactic| repeat' (first | (k_unfold; (try dsimp only)) | (k_end; wrow_close) | ((fail_if_success (with_reducible show wpAny _ _ (call (Value.ref _) [Value.int _ _, Value.int _ _]) _ _ _)); walk1) | (dsimp only; walk1) | (leave1; walk_say "STEP leave1"; try dsimp only) | fail "no step"))
set_option maxRecDepth 100000 in
set_option maxHeartbeats 600000 in
theorem d2i_A (w mean mg mb l vs fs c news g t) (hl : (l, listOf (vs : List Value).toArray c) ∈ news) (hi : IntsAre vs fs) (hn : ∀ n ∈ fs, n = 0 ∨ n = 1) (hlen : 1 ≤ fs.length ∧ fs.length ≤ 150) (hl23 : l ≠ 23) (hU : UpdF 23 (tabObj #[]) news g) :
    CallTo 200 w mean mg mb 28 [.ref l, .int 1 t] [] news fun r nx => ∃ t' c' oc vs' tq, r = .int (dval fs 0 fs.length) t' ∧ nx = (c', oc) :: g (tabObj #[rawInt 20, rawInt 4, .ref c']) ∧ oc.data = .fields vs' ∧ vs'[1]? = some (.str (Str.ofString "_digits2int.<locals>.inner") tq) ∧ ∀ p ∈ news, @LT.lt Nat _ p.1 c' := by
  w_top off
  intro dp un gd cn cs a ccd cl outer A₀ base h₀ L m s Q E B F X N T hk hC27 hC20 hd hu hret
  obtain ⟨ck, cns, cgen, ccor, cmore⟩ := cs
  obtain rfl : ck = ScopeKind.function := hk
  delta KK at X
  delta LL at T
  delta Pg
  refine wpAny_call ?_
  k_enter
  rename_i g1 L1 h1 tk1 FG1 F1 B1 X1 T1 l1 o1 o2 o3 d1 d2 d3 N1
  have h23 : @LT.lt Nat _ 23 L1 := l1 _ (updF_mem hU)
  have hA1 : Away g (L1 + 1) := Away.of hU fun p hp => Nat.lt_succ_of_lt (l1 p hp)
  have hA2 : Away g (L1 + 1 + 1) := Away.of hU fun p hp => Nat.lt_succ_of_lt (Nat.lt_succ_of_lt (l1 p hp))
  have hA3 : Away g (L1 + 1 + 1 + 1) := Away.of hU fun p hp => Nat.lt_succ_of_lt (Nat.lt_succ_of_lt (Nat.lt_succ_of_lt (l1 p hp)))
  have hMk := kstMark
  have hul := hi.length
  have hfit : fs.length < 2 ^ 62 := by omega
  walk1
  walk1
  rename_i f2 c2 oc2 vs2 t2 ct2 dc2 h2 tk2 F2 N2 e1 e2 l2 l3
  have hl2 : (l, listOf (vs : List Value).toArray c) ∈ g (tabObj (#[] ++ #[rawInt 20, rawInt 4, .ref c2])) := updF_on hU _ hl hl23
  replace N2 := (show News g1 L1 h2 ((f2, _) :: (c2, oc2) :: (L1 + 1 + 1 + 1, o1) :: (L1 + 1 + 1, o2) :: (L1 + 1, o3) :: g (tabObj (#[] ++ #[rawInt 20, rawInt 4, .ref c2]))) from N2)
  generalize hG : g (tabObj (#[] ++ #[rawInt 20, rawInt 4, .ref c2])) = news2 at N2 hl2
  have hB1 : ∀ p ∈ news2, p.1 ≠ L1 + 1 := hG ▸ hA1.use
  have hB2 : ∀ p ∈ news2, p.1 ≠ L1 + 1 + 1 := hG ▸ hA2.use
  have hB3 : ∀ p ∈ news2, p.1 ≠ L1 + 1 + 1 + 1 := hG ▸ hA3.use
  walk_at "MINE steps"
  rename_i h3 oI F3 N3 dI
  have d3' : o3.data = .cell (some (.ref l)) := d3
  have d2' : o2.data = .cell (some (.int 1 t)) := d2
  refine inner_use (needs := [(c2, oc2), (L1 + 1, o3), (L1 + 1 + 1, o2), (L1 + 1 + 1 + 1, oI), (l, listOf (vs : List Value).toArray c)]) (w := w) (mean := mean) (mg := mg) (mb := mb) (fs := fs) N3 ?step ?use
  case step =>
    intro d IH
    unfold InnerSpec
    intro dp un gd cn cs a ccd cl outer A₀ base h₀ L m news s Q E lo hi t1 t2 B F X N T hk hneeds hb hd hu hret
    obtain ⟨ck, cns, cgen, ccor, cmore⟩ := cs
    obtain rfl : ck = ScopeKind.function := hk
    delta LL at T
    have m1 := hneeds _ (.head _)
    have m2 := hneeds _ (.tail _ (.head _))
    have m3 := hneeds _ (.tail _ (.tail _ (.head _)))
    have m4 := hneeds _ (.tail _ (.tail _ (.tail _ (.head _))))
    have m5 := hneeds _ (.tail _ (.tail _ (.tail _ (.tail _ (.head _)))))
    have m6 := hneeds _ (.tail _ (.tail _ (.tail _ (.tail _ (.tail _ (.head _))))))
    refine wpAny_call ?_
    kn_enter
    walk_at "MINE steps"
    · rename_i heq _ kF kN _ _
      have h := hret
      rw [dval_one hb.1 heq hb.2.2.1] at h
      exact h _ _ _ kF kN
    · (rename Below _ _ _ _ => B2); (rename Fr _ _ _ _ => F4); (rename News _ _ _ _ => N4); (rename Top _ _ _ _ _ _ => T2); (rename Frag.In _ _ => X2); (rename (lo + 1 ≠ hi) => hne)
      have hM := mid_b hb.1 hb.2.1 hne
      generalize (lo + hi).fdiv (2 ^ Int.toNat 1) = M at hM F4 ⊢
      refine IH (d - 1) (by omega) _ _ _ _ _ _ _ _ _ _ _ _ _ _ _ _ _ _ _ _ _ _ B2 F4 X2 N4 T2 rfl hneeds (by omega) ?hd ?hu ?_
      case hd => ktr_room
      case hu => ktr_units
      intro t4 h4 tk4 F5 N5
      have hs0 : 0 ≤ (M - lo) * 1 := by omega
      have hs1 : (Builtin.Int.intBits (dval fs M hi) : Int) + (M - lo) * 1 ≤ 2 ^ 27 := by
        have := dval_bits hn (lo := M) (hi := hi); omega
      walk_at "MINE steps"
      refine IH (d - 1) (by omega) _ _ _ _ _ _ _ _ _ _ _ _ _ _ _ _ _ _ _ _ _ _ B2 F5 X2 N5 T2 rfl hneeds (by omega) ?hd ?hu ?_
      case hd => ktr_room
      case hu => ktr_units
      intro t5 h5 tk5 F6 N6
      walk_at "MINE steps"
      rename_i kF kN _ _
      have h := hret
      rw [dval_split (M := M) hb.1 hM.1 hM.2 hb.2.2.1] at h
      exact h _ _ _ kF kN
  case use =>
    intro INN
    refine INN fs.length _ _ _ _ _ _ _ _ _ _ _ _ _ _ _ _ _ _ 0 (fs.length : Int) _ _ B1 F3 X1 N3 T1 rfl ?nd ⟨by omega, by omega, by omega, by omega⟩ ?hd ?hu ?_
    case nd => exact List.forall_mem_cons.mpr ⟨.head _, List.forall_mem_cons.mpr ⟨.tail _ (.head _), List.forall_mem_cons.mpr ⟨by k_mem, List.forall_mem_cons.mpr ⟨by k_mem, List.forall_mem_cons.mpr ⟨by k_mem, List.forall_mem_cons.mpr ⟨.tail _ (.tail _ (.tail _ (.tail _ (.tail _ hl2)))), fun _ h => nomatch h⟩⟩⟩⟩⟩⟩
    case hd => ktr_room
    case hu => ktr_units
    intro t5 h5 tk5 F6 N6
    walk_at "MINE steps"
    rename_i kF kN _ _
    refine hret _ ((c2, oc2) :: news2) _ _ kF (fun p hp => kN p ?_) ⟨_, c2, oc2, vs2, t2, rfl, by rw [← hG]; rfl, e1, e2, fun p hp => tb_ltOf l2.2.2.2 p hp⟩
    rcases List.mem_cons.mp hp with rfl | hp
    · exact .tail _ (.head _)
    · exact .tail _ (.tail _ (.tail _ (.tail _ (.tail _ hp))))
set_option maxRecDepth 100000 in
set_option maxHeartbeats 600000 in
theorem d2i_B (w mean mg mb l vs fs c news t c2 oc2 vs2 t2) (hl : (l, listOf (vs : List Value).toArray c) ∈ news) (hi : IntsAre vs fs) (hn : ∀ n ∈ fs, n = 0 ∨ n = 1) (hlen : 1 ≤ fs.length ∧ fs.length ≤ 150) (hT : (23, tabObj #[rawInt 20, rawInt 4, .ref c2]) ∈ news) (hC : (c2, oc2) ∈ news) (e1 : (oc2 : Obj).data = .fields vs2) (e2 : (vs2 : Array Value)[1]? = some (.str (Str.ofString "_digits2int.<locals>.inner") t2)) :
    CallTo 200 w mean mg mb 28 [.ref l, .int 1 t] [] news fun r nx => ∃ t', r = .int (dval fs 0 fs.length) t' ∧ nx = news := by
  w_top off
  intro dp un gd cn cs a ccd cl outer A₀ base h₀ L m s Q E B F X N T hk hC27 hC20 hd hu hret
  obtain ⟨ck, cns, cgen, ccor, cmore⟩ := cs
  obtain rfl : ck = ScopeKind.function := hk
  delta KK at X
  delta LL at T
  delta Pg
  refine wpAny_call ?_
  k_enter
  rename_i g1 L1 h1 tk1 FG1 F1 B1 X1 T1 l1 o1 o2 o3 d1 d2 d3 N1
  have hB1 : ∀ p ∈ news, p.1 ≠ L1 + 1 := fun p hp => Nat.ne_of_lt (Nat.lt_succ_of_lt (l1 p hp))
  have hB2 : ∀ p ∈ news, p.1 ≠ L1 + 1 + 1 := fun p hp => Nat.ne_of_lt (Nat.lt_succ_of_lt (Nat.lt_succ_of_lt (l1 p hp)))
  have hB3 : ∀ p ∈ news, p.1 ≠ L1 + 1 + 1 + 1 := fun p hp => Nat.ne_of_lt (Nat.lt_succ_of_lt (Nat.lt_succ_of_lt (Nat.lt_succ_of_lt (l1 p hp))))
  have hMk := kstMark
  have hul := hi.length
  have hfit : fs.length < 2 ^ 62 := by omega
  walk1
  walk1
  rename_i f2 ct2 dc2 h2 tk2 F2 N2 l2
  walk_at "MINE steps"
  rename_i h3 oI F3 N3 dI
  have d3' : o3.data = .cell (some (.ref l)) := d3
  have d2' : o2.data = .cell (some (.int 1 t)) := d2
  refine inner_use (needs := [(c2, oc2), (L1 + 1, o3), (L1 + 1 + 1, o2), (L1 + 1 + 1 + 1, oI), (l, listOf (vs : List Value).toArray c)]) (w := w) (mean := mean) (mg := mg) (mb := mb) (fs := fs) N3 ?step ?use
  case step =>
    intro d IH
    unfold InnerSpec
    intro dp un gd cn cs a ccd cl outer A₀ base h₀ L m news s Q E lo hi t1 t2 B F X N T hk hneeds hb hd hu hret
    obtain ⟨ck, cns, cgen, ccor, cmore⟩ := cs
    obtain rfl : ck = ScopeKind.function := hk
    delta LL at T
    have m1 := hneeds _ (.head _)
    have m2 := hneeds _ (.tail _ (.head _))
    have m3 := hneeds _ (.tail _ (.tail _ (.head _)))
    have m4 := hneeds _ (.tail _ (.tail _ (.tail _ (.head _))))
    have m5 := hneeds _ (.tail _ (.tail _ (.tail _ (.tail _ (.head _)))))
    have m6 := hneeds _ (.tail _ (.tail _ (.tail _ (.tail _ (.tail _ (.head _))))))
    refine wpAny_call ?_
    kn_enter
    walk_at "MINE steps"
    · rename_i heq _ kF kN _ _
      have h := hret
      rw [dval_one hb.1 heq hb.2.2.1] at h
      exact h _ _ _ kF kN
    · (rename Below _ _ _ _ => B2); (rename Fr _ _ _ _ => F4); (rename News _ _ _ _ => N4); (rename Top _ _ _ _ _ _ => T2); (rename Frag.In _ _ => X2); (rename (lo + 1 ≠ hi) => hne)
      have hM := mid_b hb.1 hb.2.1 hne
      generalize (lo + hi).fdiv (2 ^ Int.toNat 1) = M at hM F4 ⊢
      refine IH (d - 1) (by omega) _ _ _ _ _ _ _ _ _ _ _ _ _ _ _ _ _ _ _ _ _ _ B2 F4 X2 N4 T2 rfl hneeds (by omega) ?hd ?hu ?_
      case hd => ktr_room
      case hu => ktr_units
      intro t4 h4 tk4 F5 N5
      have hs0 : 0 ≤ (M - lo) * 1 := by omega
      have hs1 : (Builtin.Int.intBits (dval fs M hi) : Int) + (M - lo) * 1 ≤ 2 ^ 27 := by
        have := dval_bits hn (lo := M) (hi := hi); omega
      walk_at "MINE steps"
      refine IH (d - 1) (by omega) _ _ _ _ _ _ _ _ _ _ _ _ _ _ _ _ _ _ _ _ _ _ B2 F5 X2 N5 T2 rfl hneeds (by omega) ?hd ?hu ?_
      case hd => ktr_room
      case hu => ktr_units
      intro t5 h5 tk5 F6 N6
      walk_at "MINE steps"
      rename_i kF kN _ _
      have h := hret
      rw [dval_split (M := M) hb.1 hM.1 hM.2 hb.2.2.1] at h
      exact h _ _ _ kF kN
  case use =>
    intro INN
    refine INN fs.length _ _ _ _ _ _ _ _ _ _ _ _ _ _ _ _ _ _ 0 (fs.length : Int) _ _ B1 F3 X1 N3 T1 rfl ?nd ⟨by omega, by omega, by omega, by omega⟩ ?hd ?hu ?_
    case nd => exact List.forall_mem_cons.mpr ⟨.head _, List.forall_mem_cons.mpr ⟨.tail _ (.tail _ (.tail _ (.tail _ hC))), List.forall_mem_cons.mpr ⟨by k_mem, List.forall_mem_cons.mpr ⟨by k_mem, List.forall_mem_cons.mpr ⟨by k_mem, List.forall_mem_cons.mpr ⟨.tail _ (.tail _ (.tail _ (.tail _ hl))), fun _ h => nomatch h⟩⟩⟩⟩⟩⟩
    case hd => ktr_room
    case hu => ktr_units
    intro t5 h5 tk5 F6 N6
    walk_at "MINE steps"
    rename_i kF kN _ _
    exact hret _ news _ _ kF (fun p hp => kN p (.tail _ (.tail _ (.tail _ (.tail _ hp))))) ⟨_, rfl, rfl⟩
end
section
local macro_rules | `(tactic| walk_at "MINE pad") => `(tactic| skip)
local macro_rules | `(tactic| walk_at "MINE pad") => `(tactic| skip)
def Sorted (ns : List Int) : Prop := ∀ i j : Nat, i ≤ j → j < ns.length → ns.getD i 0 ≤ ns.getD j 0
def BisP (ns : List Int) (x lo hi : Int) : Prop := 0 ≤ lo ∧ lo ≤ hi ∧ hi ≤ (ns.length : Int) ∧ (∀ i : Nat, (i : Int) < lo → ns.getD i 0 < x) ∧ ∀ i : Nat, hi ≤ (i : Int) → i < ns.length → x ≤ ns.getD i 0
def BisAt (ns : List Int) (x : Int) (p : Int) : Prop := 0 ≤ p ∧ p ≤ (ns.length : Int) ∧ (∀ i : Nat, (i : Int) < p → ns.getD i 0 < x) ∧ ∀ i : Nat, p ≤ (i : Int) → i < ns.length → x ≤ ns.getD i 0
theorem BisP.mid {ns : List Int} {x lo hi : Int} (h : BisP ns x lo hi) (hlen : ns.length ≤ 10000) (hlt : lo < hi) : 0 ≤ (lo + hi).fdiv 2 ∧ (lo + hi).fdiv 2 < (ns.length : Int) ∧ ns.length < 2 ^ 62 := by
  obtain ⟨h0, h1, h2, _⟩ := h
  rw [Int.fdiv_eq_ediv_of_nonneg _ (by decide)]; omega
theorem BisP.up {ns : List Int} {x lo hi : Int} (hs : Sorted ns) (h : BisP ns x lo hi) (hlt : lo < hi) (hx : ns.getD ((lo + hi).fdiv 2).toNat 0 < x) : BisP ns x ((lo + hi).fdiv 2 + 1) hi ∧ hi - ((lo + hi).fdiv 2 + 1) < hi - lo := by
  obtain ⟨h0, h1, h2, h3, h4⟩ := h
  rw [Int.fdiv_eq_ediv_of_nonneg _ (by decide)] at hx ⊢
  refine ⟨⟨by omega, by omega, h2, fun i hi => Int.lt_of_le_of_lt (hs i _ (by omega) (by omega)) hx, h4⟩, by omega⟩
theorem BisP.down {ns : List Int} {x lo hi : Int} (hs : Sorted ns) (h : BisP ns x lo hi) (hlt : lo < hi) (hx : ¬ ns.getD ((lo + hi).fdiv 2).toNat 0 < x) : BisP ns x lo ((lo + hi).fdiv 2) ∧ (lo + hi).fdiv 2 - lo < hi - lo := by
  obtain ⟨h0, h1, h2, h3, h4⟩ := h
  rw [Int.fdiv_eq_ediv_of_nonneg _ (by decide)] at hx ⊢
  refine ⟨⟨h0, by omega, by omega, h3, fun i hi' hl => Int.le_trans (Int.not_lt.mp hx) (hs _ i (by omega) hl)⟩, by omega⟩
theorem BisP.at {ns : List Int} {x lo hi : Int} (h : BisP ns x lo hi) (hge : ¬ lo < hi) : BisAt ns x lo := by
  obtain ⟨h0, h1, h2, h3, h4⟩ := h
  exact ⟨h0, by omega, h3, fun i hi hl => h4 i (by omega) hl⟩
theorem BisP.start {ns : List Int} {x : Int} : BisP ns x 0 (ns.length : Int) := ⟨by omega, by omega, by omega, fun i h => by omega, fun i h1 h2 => by omega⟩
local macro_rules | `(tactic| walk_at "MINE steps") => `(tactic| repeat' (first | (k_unfold; (try dsimp only)) | (k_end; wrow_close) | ((fail_if_success (with_reducible show wpAny _ _ (exec (Stmt.While _ _ _ _) _) _ _ _)); walk1) | (dsimp only; walk1) | (leave1; walk_say "STEP leave1"; try dsimp only) | fail "no step"))
set_option maxRecDepth 100000 in
set_option maxHeartbeats 600000 in
theorem bis_spec (w mean mg mb l vs ns c news x t) (hl : (l, listOf (vs : List Value).toArray c) ∈ news) (hi : IntsAre vs ns) (hlen : ns.length ≤ 10000) (hs : Sorted ns) :
    CallTo 20 w mean mg mb 46 [.ref l, .int x t] [] news fun r nx => ∃ (p : Int) (t' : Tok), r = .int p t' ∧ nx = news ∧ BisAt ns x p := by
  w_top off
  intro dp un gd cn cs a ccd cl outer A₀ base h₀ L m s Q E B F X N T hk hC27 hC20 hd hu hret
  obtain ⟨ck, cns, cgen, ccor, cmore⟩ := cs
  obtain rfl : ck = ScopeKind.function := hk
  delta KK at X
  delta LL at T
  delta Pg
  refine wpAny_call ?_
  k_enter
  have hMk := kstMark
  have hul := hi.length
  have hfit : ns.length < 2 ^ 62 := by omega
  walk_at "MINE steps"
  rename Fr _ _ _ _ => F3
  rename News _ _ _ _ => N3
  refine while_two (Str.ofString "lo") (Str.ofString "hi") (Str.ofString "mid") (BisP ns x) (fun _ _ h => h.2.1) F3 N3 rfl rfl BisP.start ?_
  intro lo hi' tlo thi u h tk hP F4 N4
  have hb := hP.mid hlen
  walk_at "MINE steps"
  · (rename Fr _ _ _ _ => F5); (rename News _ _ _ _ => N5); (rename (ns.getD _ 0 < x) => hx); (rename (lo < hi') => hlt)
    exact ⟨_, _, _, _, _, _, _, rfl, F5, N5, rfl, rfl, (fun z h1 h2 h3 => by simp only [if_neg h1, if_neg h2, if_neg h3]), (hP.up hs hlt hx).1, (hP.up hs hlt hx).2⟩
  · (rename Fr _ _ _ _ => F5); (rename News _ _ _ _ => N5); (rename (¬ ns.getD _ 0 < x) => hx); (rename (lo < hi') => hlt)
    exact ⟨_, _, _, _, _, _, _, rfl, F5, N5, rfl, rfl, (fun z h1 h2 h3 => by simp only [if_neg h1, if_neg h2, if_neg h3]), (hP.down hs hlt hx).1, (hP.down hs hlt hx).2⟩
  · rename_i hge kF kN _ _
    exact hret _ news _ _ kF kN ⟨_, _, rfl, rfl, hP.at hge⟩
set_option maxRecDepth 100000 in
set_option maxHeartbeats 600000 in
theorem bis_spec4 (w mean mg mb l vs ns c news x t t0) (hl : (l, listOf (vs : List Value).toArray c) ∈ news) (hi : IntsAre vs ns) (hlen : ns.length ≤ 10000) (hs : Sorted ns) :
    CallTo 20 w mean mg mb 46 [.ref l, .int x t, .int 0 t0, .none] [] news fun r nx => ∃ (p : Int) (t' : Tok), r = .int p t' ∧ nx = news ∧ BisAt ns x p := by
  w_top off
  intro dp un gd cn cs a ccd cl outer A₀ base h₀ L m s Q E B F X N T hk hC27 hC20 hd hu hret
  obtain ⟨ck, cns, cgen, ccor, cmore⟩ := cs
  obtain rfl : ck = ScopeKind.function := hk
  delta KK at X
  delta LL at T
  delta Pg
  refine wpAny_call ?_
  k_enter
  have hMk := kstMark
  have hul := hi.length
  have hfit : ns.length < 2 ^ 62 := by omega
  walk_at "MINE steps"
  rename Fr _ _ _ _ => F3
  rename News _ _ _ _ => N3
  refine while_two (Str.ofString "lo") (Str.ofString "hi") (Str.ofString "mid") (BisP ns x) (fun _ _ h => h.2.1) F3 N3 rfl rfl BisP.start ?_
  intro lo hi' tlo thi u h tk hP F4 N4
  have hb := hP.mid hlen
  walk_at "MINE steps"
  · (rename Fr _ _ _ _ => F5); (rename News _ _ _ _ => N5); (rename (ns.getD _ 0 < x) => hx); (rename (lo < hi') => hlt)
    exact ⟨_, _, _, _, _, _, _, rfl, F5, N5, rfl, rfl, (fun z h1 h2 h3 => by simp only [if_neg h1, if_neg h2, if_neg h3]), (hP.up hs hlt hx).1, (hP.up hs hlt hx).2⟩
  · (rename Fr _ _ _ _ => F5); (rename News _ _ _ _ => N5); (rename (¬ ns.getD _ 0 < x) => hx); (rename (lo < hi') => hlt)
    exact ⟨_, _, _, _, _, _, _, rfl, F5, N5, rfl, rfl, (fun z h1 h2 h3 => by simp only [if_neg h1, if_neg h2, if_neg h3]), (hP.down hs hlt hx).1, (hP.down hs hlt hx).2⟩
  · rename_i hge kF kN _ _
    exact hret _ news _ _ kF kN ⟨_, _, rfl, rfl, hP.at hge⟩
end
section
local macro_rules | `(tactic| walk_at "MINE pad") => `(tactic| skip)
local macro_rules | `(tactic| walk_at "MINE pad") => `(tactic| skip)
local macro_rules | `(tactic| walk_at "MINE pad") => `(tactic| skip)
local macro_rules | `(tactic| walk_at "MINE steps") => `(tactic| repeat' (first | (k_unfold; (try dsimp only)) | (k_end; wrow_close) | ((fail_if_success (with_reducible show wpAny _ _ (call (Value.ref 46) _) _ _ _)); walk1) | (dsimp only; walk1) | (leave1; walk_say "STEP leave1"; try dsimp only) | fail "no step"))
theorem updF_upd {d : Addr} {o o' : Obj} : ∀ {l : List (Addr × Obj)} {g : Obj → List (Addr × Obj)}, UpdF d o l g → Upd d o o' l (g o')
  | _, _, .head h => .head h
  | _, _, .tail h r => .tail h (updF_upd r)
theorem intsAre_append : ∀ {vs ws : List Value} {ns ms : List Int}, IntsAre vs ns → IntsAre ws ms → IntsAre (vs ++ ws) (ns ++ ms)
  | _, _, _, _, .nil, h => h
  | _, _, _, _, .cons n t r, h => .cons n t (intsAre_append r h)
theorem intsAre_take : ∀ {vs : List Value} {ns : List Int} (k : Nat), IntsAre vs ns → IntsAre (vs.take k) (ns.take k)
  | _, _, _, .nil => by simp; exact .nil
  | _, _, 0, .cons n t r => .nil
  | _, _, k + 1, .cons n t r => .cons n t (intsAre_take k r)
theorem intsAre_drop : ∀ {vs : List Value} {ns : List Int} (k : Nat), IntsAre vs ns → IntsAre (vs.drop k) (ns.drop k)
  | _, _, _, .nil => by simp; exact .nil
  | _, _, 0, .cons n t r => .cons n t r
  | _, _, k + 1, .cons n t r => intsAre_drop k r
set_option maxRecDepth 100000 in
set_option maxHeartbeats 600000 in
theorem ins_spec (w mean mg mb l vs ns c news x t g) (hU : UpdF l (listOf (vs : List Value).toArray c) news g) (hi : IntsAre vs ns) (hlen : ns.length ≤ 10000) (hs : Sorted ns) :
    CallTo 40 w mean mg mb 37 [.ref l, .int x t] [] news fun r nx => ∃ (p : Int) (us : List Value) (c' : Nat), nx = g (listOf us.toArray c') ∧ BisAt ns x p ∧ IntsAre us (ns.take p.toNat ++ x :: ns.drop p.toNat) := by
  w_top off
  intro dp un gd cn cs a ccd cl outer A₀ base h₀ L m s Q E B F X N T hk hC27 hC20 hd hu hret
  obtain ⟨ck, cns, cgen, ccor, cmore⟩ := cs
  obtain rfl : ck = ScopeKind.function := hk
  delta KK at X
  delta LL at T
  delta Pg
  have hl := (updF_mem hU)
  refine wpAny_call ?_
  k_enter
  have hMk := kstMark
  have hul := hi.length
  have hfit : ns.length < 2 ^ 62 := by omega
  walk_at "MINE steps"
  (rename Below _ _ _ _ => B3); (rename Fr _ _ _ _ => F3); (rename News _ _ _ _ => N3); (rename Top _ _ _ _ _ _ => T3); (rename Frag.In _ _ => X3)
  refine bis_spec4 w mean mg mb l vs ns c news x t _ hl hi hlen hs _ _ _ _ _ _ _ _ _ _ _ _ _ _ _ _ _ B3 F3 X3 N3 T3 rfl hC27 hC20 ?hd ?hu ?_
  case hd => ktr_room
  case hu => ktr_units
  rintro r nx h4 tk4 F4 N4 ⟨p, t4, rfl, rfl, hB⟩
  walk_at "MINE steps"
  k_here
  (rename Fr _ _ _ _ => F5); (rename News _ _ _ _ => N5)
  obtain ⟨hp0, hp1, hp2, hp3⟩ := id hB
  refine kl_insert (its := (vs : List Value).toArray) (n := c) (l := (vs : List Value).take p.toNat ++ Value.int x t :: (vs : List Value).drop p.toNat) F5 N5 ?f ?e (updF_upd hU) ?z ?_
  case f =>
    unfold Builtin.List.listFitsIndex
    simp only [Bool.and_eq_true, decide_eq_true_eq]; omega
  case e =>
    have e1 : (vs : List Value).toArray.toList = vs := rfl
    rw [e1]; unfold kl_ins
    have e2 : (if p < 0 then (p + (vs.length : Int)).toNat else min p.toNat vs.length) = p.toNat := by rw [if_neg (by omega)]; omega
    rw [e2]
  case z =>
    show vs.length ≤ sizeLine
    rw [sizeLine_eq]; omega
  intro h6 F6 N6
  walk_at "MINE steps"
  rename_i kF kN _ _
  exact hret _ _ _ _ kF kN ⟨p, _, _, rfl, hB, intsAre_append (intsAre_take _ hi) (.cons x t (intsAre_drop _ hi))⟩
end
section
local macro_rules | `(tactic| walk_at "MINE pad") => `(tactic| skip)
local macro_rules | `(tactic| walk_at "MINE pad") => `(tactic| skip)
local macro_rules | `(tactic| walk_at "MINE pad") => `(tactic| skip)
local macro_rules | `(tactic| walk_at "MINE steps") => `(tactic| repeat' (first | (k_unfold; (try dsimp only)) | (k_end; wrow_close) | ((fail_if_success (with_reducible show wpAny _ _ (call (Value.ref _) [Value.int _ _, Value.int _ _, Value.int _ _]) _ _ _)); walk1) | (dsimp only; walk1) | (leave1; walk_say "STEP leave1"; try dsimp only) | fail "no step"))
/-- the lowest k figures of x, lowest first -/
def bitsL : Nat → Int → List Int
  | 0, _ => []
  | k + 1, x => (x % 2) :: bitsL k (x / 2)
def put (ds : List Int) (lo hi x : Int) : List Int := ds.take lo.toNat ++ bitsL (hi - lo).toNat x ++ ds.drop hi.toNat
theorem bitsL_len : ∀ (k : Nat) (x : Int), (bitsL k x).length = k
  | 0, _ => rfl
  | k + 1, x => by rw [bitsL, List.length_cons, bitsL_len k]
theorem put_len {ds : List Int} {lo hi x : Int} (h : 0 ≤ lo ∧ lo < hi ∧ hi ≤ (ds.length : Int)) : (put ds lo hi x).length = ds.length := by
  unfold put
  rw [List.length_append, List.length_append, bitsL_len, List.length_take, List.length_drop]; omega
theorem put_one {ds : List Int} {lo hi x : Int} (h0 : 0 ≤ lo) (h1 : lo + 1 = hi) (h2 : hi ≤ (ds.length : Int)) (hx : 0 ≤ x ∧ x < 2 ^ (hi - lo).toNat) : put ds lo hi x = ds.set lo.toNat x := by
  unfold put
  have e : (hi - lo).toNat = 1 := by omega
  rw [e] at hx ⊢
  have e2 : hi.toNat = lo.toNat + 1 := by omega
  have e3 : bitsL 1 x = [x] := by
    show [x % 2] = [x]
    have : x % 2 = x := by have := hx.2; simp at this; omega
    rw [this]
  rw [e2, e3, List.set_eq_take_append_cons_drop, if_pos (by omega)]
  simp
theorem pow_pos' (k : Nat) : (0 : Int) < 2 ^ k := Int.pow_pos (by decide)
theorem shr_bits {lo hi M x : Int} {ds : List Int} {d : Nat} (hb : 0 ≤ lo ∧ lo < hi ∧ hi ≤ (ds.length : Int) ∧ hi - lo ≤ (d : Int) ∧ ds.length ≤ 150) (hx : 0 ≤ x ∧ x < 2 ^ (hi - lo).toNat) (hM : lo < M ∧ M < hi) :
    (Builtin.Int.intBits (x.fdiv (2 ^ ((M - lo) * 1).toNat)) : Int) + (M - lo) * 1 ≤ 2 ^ 27 := by
  have h1 : Builtin.Int.intBits (x.fdiv (2 ^ ((M - lo) * 1).toNat)) ≤ (hi - lo).toNat := by
    rw [Int.fdiv_eq_ediv_of_nonneg _ (Int.le_of_lt (pow_pos' _))]
    exact intBits_lt (Int.ediv_nonneg hx.1 (Int.le_of_lt (pow_pos' _))) (Int.lt_of_le_of_lt (Int.ediv_le_self _ hx.1) hx.2)
  omega
theorem and_shr (x k : Nat) : x &&& (x / 2 ^ k * 2 ^ k) = x / 2 ^ k * 2 ^ k := by
  rw [← Nat.shiftRight_eq_div_pow, ← Nat.shiftLeft_eq]
  refine Nat.eq_of_testBit_eq fun j => ?_
  rw [Nat.testBit_and, Nat.testBit_shiftLeft, Nat.testBit_shiftRight]
  by_cases h : k ≤ j
  · rw [show k + (j - k) = j by omega]; simp [h]
  · simp [h]
theorem low_eq {lo hi M x : Int} (hx : 0 ≤ x ∧ x < 2 ^ (hi - lo).toNat) (_hM : lo < M ∧ M < hi) :
    Builtin.bitXor x (x.fdiv (2 ^ ((M - lo) * 1).toNat) * 2 ^ ((M - lo) * 1).toNat) = x % 2 ^ ((M - lo) * 1).toNat := by
  generalize ((M - lo) * 1).toNat = k
  rw [Int.fdiv_eq_ediv_of_nonneg _ (Int.le_of_lt (pow_pos' _))]
  obtain ⟨y, rfl⟩ : ∃ y : Nat, x = (y : Int) := ⟨x.toNat, by omega⟩
  have e : (y : Int) / 2 ^ k * 2 ^ k = ((y / 2 ^ k * 2 ^ k : Nat) : Int) := by simp
  rw [bitXor_and, e, bitAnd_pp (by omega) (by omega)]
  simp only [Int.toNat_natCast]
  rw [and_shr]
  have h2 := Nat.div_add_mod y (2 ^ k)
  have h3 : (y : Int) % 2 ^ k = ((y % 2 ^ k : Nat) : Int) := by simp
  rw [h3]
  have h4 : y / 2 ^ k * 2 ^ k = 2 ^ k * (y / 2 ^ k) := Nat.mul_comm _ _
  omega
theorem low_b {lo hi M x : Int} (hx : 0 ≤ x ∧ x < 2 ^ (hi - lo).toNat) (hM : lo < M ∧ M < hi) :
    0 ≤ x % 2 ^ ((M - lo) * 1).toNat ∧ x % 2 ^ ((M - lo) * 1).toNat < 2 ^ (M - lo).toNat := by
  have e : ((M - lo) * 1).toNat = (M - lo).toNat := by rw [Int.mul_one]
  rw [e]
  exact ⟨Int.emod_nonneg _ (Int.ne_of_gt (pow_pos' _)), Int.emod_lt_of_pos _ (pow_pos' _)⟩
theorem up_b {lo hi M x : Int} (hx : 0 ≤ x ∧ x < 2 ^ (hi - lo).toNat) (hM : lo < M ∧ M < hi) :
    0 ≤ x.fdiv (2 ^ ((M - lo) * 1).toNat) ∧ x.fdiv (2 ^ ((M - lo) * 1).toNat) < 2 ^ (hi - M).toNat := by
  have e : ((M - lo) * 1).toNat = (M - lo).toNat := by rw [Int.mul_one]
  rw [e, Int.fdiv_eq_ediv_of_nonneg _ (Int.le_of_lt (pow_pos' _))]
  refine ⟨Int.ediv_nonneg hx.1 (Int.le_of_lt (pow_pos' _)), Int.ediv_lt_of_lt_mul (pow_pos' _) ?_⟩
  rw [← Int.pow_add, show (hi - M).toNat + (M - lo).toNat = (hi - lo).toNat by omega]
  exact hx.2
theorem bitsL_split : ∀ (a b : Nat) (x : Int), bitsL (a + b) x = bitsL a (x % 2 ^ a) ++ bitsL b (x / 2 ^ a)
  | 0, b, x => by simp [bitsL]
  | a + 1, b, x => by
    rw [show a + 1 + b = (a + b) + 1 by omega, bitsL, bitsL, bitsL_split a b (x / 2), List.cons_append]
    have e1 : x % 2 ^ (a + 1) % 2 = x % 2 := Int.emod_emod_of_dvd x ⟨2 ^ a, by rw [Int.pow_succ, Int.mul_comm]⟩
    have e2 : x % 2 ^ (a + 1) / 2 = x / 2 % 2 ^ a := by
      have h1 := Int.mul_ediv_add_emod x (2 ^ (a + 1))
      have h2 := Int.mul_ediv_add_emod (x / 2) (2 ^ a)
      have h3 : x / 2 ^ (a + 1) = x / 2 / 2 ^ a := by rw [Int.pow_succ, Int.mul_comm, Int.ediv_ediv_of_nonneg (by decide)]
      rw [h3, Int.pow_succ] at h1
      have h4 : 2 ^ a * 2 * (x / 2 / 2 ^ a) = 2 * (2 ^ a * (x / 2 / 2 ^ a)) := by rw [Int.mul_comm (2 ^ a) 2, Int.mul_assoc]
      rw [← Int.pow_succ] at h1
      rw [Int.pow_succ] at h1 ⊢
      omega
    have e3 : x / 2 / 2 ^ a = x / 2 ^ (a + 1) := by rw [Int.pow_succ, Int.mul_comm, Int.ediv_ediv_of_nonneg (by decide)]
    rw [e1, e2, e3]
theorem put_put {ds : List Int} {lo hi M x : Int} (h0 : 0 ≤ lo) (h1 : lo < M) (h2 : M < hi) (h3 : hi ≤ (ds.length : Int)) (hx : 0 ≤ x ∧ x < 2 ^ (hi - lo).toNat) :
    put (put ds lo M (x % 2 ^ ((M - lo) * 1).toNat)) M hi (x.fdiv (2 ^ ((M - lo) * 1).toNat)) = put ds lo hi x := by
  have e : ((M - lo) * 1).toNat = (M - lo).toNat := by rw [Int.mul_one]
  rw [e, Int.fdiv_eq_ediv_of_nonneg _ (Int.le_of_lt (pow_pos' _))]
  unfold put
  have hl : (ds.take lo.toNat ++ bitsL (M - lo).toNat (x % 2 ^ (M - lo).toNat)).length = M.toNat := by
    rw [List.length_append, bitsL_len, List.length_take]; omega
  rw [List.take_left' hl, show (hi - lo).toNat = (M - lo).toNat + (hi - M).toNat by omega, bitsL_split]
  have hd : (ds.take lo.toNat ++ bitsL (M - lo).toNat (x % 2 ^ (M - lo).toNat) ++ ds.drop M.toNat).drop hi.toNat = ds.drop hi.toNat := by
    rw [List.drop_append, hl, List.drop_eq_nil_of_le (by rw [hl]; omega), List.nil_append, List.drop_drop]
    congr 1; omega
  rw [hd]
  simp only [List.append_assoc]
theorem valL_ge : ∀ {fs : List Int}, 1 ≤ fs.length → (∀ n ∈ fs, n = 0 ∨ n = 1) → fs.getD (fs.length - 1) 0 = 1 → 2 ^ (fs.length - 1) ≤ valL fs
  | [x], _, _, h => by simp at h; subst h; decide
  | x :: y :: r, _, hn, h => by
    have h1 := valL_ge (fs := y :: r) (by simp) (fun n hn' => hn n (.tail _ hn')) (by simpa using h)
    have h2 := hn x (.head _)
    rw [valL]
    have e : (2 : Int) ^ ((x :: y :: r).length - 1) = 2 ^ ((y :: r).length - 1) * 2 := by
      rw [← Int.pow_succ]; simp
    rw [e]; omega
theorem intBits_valL {fs : List Int} (hl : 1 ≤ fs.length) (hn : ∀ n ∈ fs, n = 0 ∨ n = 1) (h : fs.getD (fs.length - 1) 0 = 1) : Builtin.Int.intBits (valL fs) = fs.length := by
  have h1 := valL_ge hl hn h
  have h2 := valL_b hn
  have h3 := intBits_lt h2.1 h2.2
  have h4 : ¬ Builtin.Int.intBits (valL fs) ≤ fs.length - 1 := fun hh => by
    have h5 := (PySem.intBits_le_iff (m := fs.length - 1)).mp hh
    have h6 : ((valL fs).natAbs : Int) < 2 ^ (fs.length - 1) := by exact_mod_cast h5
    omega
  omega
theorem bitsL_valL : ∀ {fs : List Int}, (∀ n ∈ fs, n = 0 ∨ n = 1) → bitsL fs.length (valL fs) = fs
  | [], _ => rfl
  | x :: r, hn => by
    have h2 := hn x (.head _)
    have e1 : valL (x :: r) % 2 = x := by rw [valL]; omega
    have e2 : valL (x :: r) / 2 = valL r := by rw [valL]; omega
    rw [List.length_cons, bitsL, e1, e2, bitsL_valL fun n h => hn n (.tail _ h)]
theorem put_all {ds : List Int} {k : Nat} {x : Int} (h : ds.length = k) : put ds 0 (k : Int) x = bitsL k x := by
  unfold put
  have e : ((k : Int) - 0).toNat = k := by omega
  rw [e]
  simp [← h]
def Inner2 (w : World) (mean : ExcName → Option Value) (mg mb : Str → Option Value) (f : Addr) (needs : List (Addr × Obj)) (D : Addr) (d : Nat) : Prop :=
  ∀ (dp un : Nat) (gd : Option (List Code)) (cn : Str) (cs : Scope) (a : Addr) (ccd : Value) (cl : List (Str × Addr)) (outer : List Env) (A₀ : Around) (base h₀ : Heap) (L : Addr) (m : Str → Option Value) (news : List (Addr × Obj)) (s : Shared) (Q E : Value → Shared → Prop) (x lo hi : Int) (t0 t1 t2 : Tok)
    (us : List Value) (ds : List Int) (c : Nat) (g : Obj → List (Addr × Obj)),
    Below A₀ base outer h₀ → Fr h₀ L s.heap m → (hd.heap_39 w.params).In h₀ → News h₀ L s.heap news → Top topProg LL mean mg mb h₀ → cs.kind = .function →
    (∀ p ∈ needs, p ∈ news ∧ @Ne Nat p.1 D) → UpdF D (listOf us.toArray c) news g → IntsAre us ds → (0 ≤ lo ∧ lo < hi ∧ hi ≤ (ds.length : Int) ∧ hi - lo ≤ (d : Int) ∧ ds.length ≤ 150) → (0 ≤ x ∧ x < 2 ^ (hi - lo).toNat) → dp + d + 2 < recursionLimit → un + 8 * d + 16 < cLine →
    (∀ (us' : List Value) c' h' tk', Fr h₀ L h' m → News h₀ L h' (g (listOf us'.toArray c')) → IntsAre us' (put ds lo hi x) → Q .none { s with heap := h', toks := tk' }) →
    wpAny (model PySem.Challenge.rw_hd0003_01.row.prog w) (ktrTop dp un gd cn cs L a ccd cl outer) (call (.ref f) [.int x t0, .int lo t1, .int hi t2]) Q E s
theorem inner2_all {w : World} {mean : ExcName → Option Value} {mg mb : Str → Option Value} {f : Addr} {needs : List (Addr × Obj)} {D : Addr}
    (step : ∀ d, (∀ d', d' < d → Inner2 w mean mg mb f needs D d') → Inner2 w mean mg mb f needs D d) : ∀ d, Inner2 w mean mg mb f needs D d := by
  have all : ∀ n, ∀ d, d < n → Inner2 w mean mg mb f needs D d := by
    intro n
    induction n with
    | zero => intro d h; exact absurd h (Nat.not_lt_zero _)
    | succ n ih => exact fun d h => step d fun d' h' => ih d' (Nat.lt_of_lt_of_le h' (Nat.le_of_lt_succ h))
  exact fun d => all _ d (Nat.lt_succ_self _)
theorem inner2_use {w : World} {mean : ExcName → Option Value} {mg mb : Str → Option Value} {f : Addr} {needs rest : List (Addr × Obj)} {D : Addr} {FO : Obj} {h₀ h : Heap} {L : Addr} {P : Prop}
    (_N : News h₀ L h ((f, FO) :: rest)) (step : ∀ d, (∀ d', d' < d → Inner2 w mean mg mb f ((f, FO) :: needs) D d') → Inner2 w mean mg mb f ((f, FO) :: needs) D d)
    (k : (∀ d, Inner2 w mean mg mb f ((f, FO) :: needs) D d) → P) : P := k (inner2_all step)
theorem updF_again {d : Addr} {o o' : Obj} : ∀ {l : List (Addr × Obj)} {g : Obj → List (Addr × Obj)}, UpdF d o l g → UpdF d o' (g o') g
  | _, _, .head h => .head h
  | _, _, .tail h r => .tail h (updF_again r)
local macro_rules | `(tactic| walk_at "setItem ref int int") => `(tactic| (k_here; (with_reducible show wpAny _ _ (setItem (Value.ref _) (Value.int _ _) (Value.int _ _)) _ _ _); k_dflt (refine' ksa_set ?k1 ?k2 (updF_upd ?k3) ?k4 ?k5 ?k6 ?k7 ?_; (case k1 => k_asm); (case k2 => k_asm); (case k3 => with_reducible assumption); (case k4 => with_reducible assumption); (case k5 => with_reducible assumption); (case k6 => with_reducible assumption); (case k7 => with_reducible assumption); k_whole); intro h' F' N' hi' hl' hs'))
set_option maxRecDepth 100000 in
set_option maxHeartbeats 600000 in
theorem i2d_A (w mean mg mb fs a0 t t1 news g) (hn : ∀ n ∈ fs, n = 0 ∨ n = 1) (hlen : 1 ≤ (fs : List Int).length ∧ fs.length ≤ 150) (hlast : fs.getD (fs.length - 1) 0 = 1) (ha : a0 = valL fs) (hU : UpdF 16 (tabObj #[]) news g) :
    CallTo 200 w mean mg mb 21 [.int a0 t, .int 1 t1] [] news fun r nx => ∃ d us c' c2 oc, r = .ref d ∧ nx = (d, listOf (us : List Value).toArray c') :: (c2, oc) :: g (tabObj #[rawInt 5, rawInt 4, .ref c2]) ∧ IntsAre us fs := by
  w_top off
  intro dp un gd cn cs a ccd cl outer A₀ base h₀ L m s Q E B F X N T hk hC27 hC20 hd hu hret
  obtain ⟨ck, cns, cgen, ccor, cmore⟩ := cs
  obtain rfl : ck = ScopeKind.function := hk
  delta KK at X
  delta LL at T
  delta Pg
  refine wpAny_call ?_
  k_enter
  rename_i g1 L1 h1 tk1 FG1 F1 B1 X1 T1 l1 o1 o2 o3 d1 d2 d3 N1
  have h16 : @LT.lt Nat _ 16 L1 := l1 _ (updF_mem hU)
  have hA1 : Away g (L1 + 1) := Away.of hU fun p hp => Nat.lt_succ_of_lt (l1 p hp)
  have hA2 : Away g (L1 + 1 + 1) := Away.of hU fun p hp => Nat.lt_succ_of_lt (Nat.lt_succ_of_lt (l1 p hp))
  have hA3 : Away g (L1 + 1 + 1 + 1) := Away.of hU fun p hp => Nat.lt_succ_of_lt (Nat.lt_succ_of_lt (Nat.lt_succ_of_lt (l1 p hp)))
  have hL1 : ∀ p ∈ news, p.1 ≠ L1 + 1 := fun p hp => Nat.ne_of_lt (Nat.lt_succ_of_lt (l1 p hp))
  have hL2 : ∀ p ∈ news, p.1 ≠ L1 + 1 + 1 := fun p hp => Nat.ne_of_lt (Nat.lt_succ_of_lt (Nat.lt_succ_of_lt (l1 p hp)))
  have hL3 : ∀ p ∈ news, p.1 ≠ L1 + 1 + 1 + 1 := fun p hp => Nat.ne_of_lt (Nat.lt_succ_of_lt (Nat.lt_succ_of_lt (Nat.lt_succ_of_lt (l1 p hp))))
  have hMk := kstMark
  walk_at "MINE steps"
  have hK : ((Builtin.Int.intBits a0 : Int) + 1 - 1).fdiv 1 = (fs.length : Int) := by
    rw [ha, intBits_valL hlen.1 hn hlast, show (fs.length : Int) + 1 - 1 = fs.length by omega, Int.fdiv_one]
  rw [hK]
  generalize hk : (fs.length : Int) = k
  have hk1 : 1 ≤ k ∧ k ≤ 150 := by omega
  walk1
  rename_i D h4 i44 n4 s4 e4 e5 e6 lD F4 N4
  rename IntsAre _ _ => i4
  walk1
  walk1
  walk1
  rename_i h5 oA F5 N5 dA
  replace N5 : News g1 L1 h5 ((D, listOf (List.replicate k.toNat [Value.int 0 tk1]).flatten.toArray 0) :: (L1 + 1 + 1 + 1, o1) :: (L1 + 1 + 1, oA) :: (L1 + 1, o3) :: news) := fun p hp => N5 p (by
    rcases List.mem_cons.mp hp with rfl | hp
    · exact .head _
    · exact .tail _ (.tail _ hp))
  walk1
  rename_i f2 c2 oc2 vs2 t2 ct2 dc2 h6 tk6 F6 N6 e1 e2 l2 l3
  replace N6 := (show News g1 L1 h6 ((f2, _) :: (c2, oc2) :: (D, listOf (List.replicate k.toNat [Value.int 0 tk1]).flatten.toArray 0) :: (L1 + 1 + 1 + 1, o1) :: (L1 + 1 + 1, oA) :: (L1 + 1, o3) :: g (tabObj (#[] ++ #[rawInt 5, rawInt 4, .ref c2]))) from N6)
  have hlt2 : ∀ p ∈ g (tabObj (#[] ++ #[rawInt 5, rawInt 4, .ref c2])), @LT.lt Nat _ p.1 L1 := fun p hp => by
    rcases updF_back hU p hp with rfl | hp
    · exact h16
    · exact l1 p hp
  generalize hG : g (tabObj (#[] ++ #[rawInt 5, rawInt 4, .ref c2])) = news2 at N6 hlt2
  have hB1 : ∀ p ∈ news2, p.1 ≠ L1 + 1 := hG ▸ hA1.use
  have hB2 : ∀ p ∈ news2, p.1 ≠ L1 + 1 + 1 := hG ▸ hA2.use
  have hB3 : ∀ p ∈ news2, p.1 ≠ L1 + 1 + 1 + 1 := hG ▸ hA3.use
  walk_at "MINE steps"
  · rename_i h7 oI F7 N7 dI ha0
    have d3' : o3.data = .cell (some (.int 1 t1)) := d3
    have hD0 : @LT.lt Nat _ L1 D := by have := N4.2.2.2.1; omega
    refine inner2_use (needs := [(c2, oc2), (L1 + 1 + 1 + 1, oI), (L1 + 1 + 1, oA), (L1 + 1, o3)]) (D := D) (w := w) (mean := mean) (mg := mg) (mb := mb) N7 ?step ?use
    case step =>
      intro d IH
      unfold Inner2
      intro dp un gd cn cs a ccd cl outer A₀ base h₀ L m news s Q E x lo hi t0 t1 t2 us ds c g B F X N T hk hneeds hU hi9 hb hx hd hu hret
      obtain ⟨ck, cns, cgen, ccor, cmore⟩ := cs
      obtain rfl : ck = ScopeKind.function := hk
      delta LL at T
      have m1 := (hneeds _ (.head _)).1
      have m2 := (hneeds _ (.tail _ (.head _))).1
      have m3 := (hneeds _ (.tail _ (.tail _ (.head _)))).1
      have m4 := (hneeds _ (.tail _ (.tail _ (.tail _ (.head _))))).1
      have m5 := (hneeds _ (.tail _ (.tail _ (.tail _ (.tail _ (.head _)))))).1
      have b0 : 0 ≤ lo := hb.1
      have b1 : lo < (ds.length : Int) := by omega
      have b2 : lo < 2 ^ 63 := by omega
      by_cases hone : lo + 1 = hi
      · refine wpAny_call ?_
        kn_enter
        walk_at "MINE steps"
        · rename_i hi' hl' hs' kF kN _ _
          refine hret _ _ _ _ kF kN ?_
          rw [put_one hb.1 hone hb.2.2.1 hx]; exact hi'
        · exact absurd hone (by assumption)
      · have hM := mid_b b0 hb.2.1 hone
        have hs0 : 0 ≤ ((lo + hi).fdiv (2 ^ Int.toNat 1) - lo) * 1 := by omega
        have hs1 : (Builtin.Int.intBits (x.fdiv (2 ^ (((lo + hi).fdiv (2 ^ Int.toNat 1) - lo) * 1).toNat)) : Int) + ((lo + hi).fdiv (2 ^ Int.toNat 1) - lo) * 1 ≤ 2 ^ 27 := shr_bits hb hx hM
        refine wpAny_call ?_
        kn_enter
        walk_at "MINE steps"
        · exact absurd (by assumption) hone
        · (rename Below _ _ _ _ => B2); (rename Fr _ _ _ _ => F4); (rename News _ _ _ _ => N4); (rename Top _ _ _ _ _ _ => T2); (rename Frag.In _ _ => X2)
          rw [low_eq hx hM] at F4 ⊢
          generalize (lo + hi).fdiv (2 ^ Int.toNat 1) = M at hM hs0 hs1 F4 ⊢
          refine IH (d - 1) (by omega) _ _ _ _ _ _ _ _ _ _ _ _ _ _ _ _ _ _ _ _ _ _ _ _ us ds c g B2 F4 X2 N4 T2 rfl hneeds hU hi9 (by omega) (low_b hx hM) ?hd ?hu ?_
          case hd => ktr_room
          case hu => ktr_units
          intro us2 cc2 h5 tk5 F5 N5 hi2
          have hneeds2 := fun p hp => And.intro (updF_on (o' := listOf us2.toArray cc2) hU p (hneeds p hp).1 (hneeds p hp).2) (hneeds p hp).2
          have hU2 : UpdF D (listOf us2.toArray cc2) (g (listOf us2.toArray cc2)) g := updF_again hU
          generalize hG3 : g (listOf us2.toArray cc2) = news3 at N5 hneeds2 hU2
          clear m1 m2 m3 m4 m5 hneeds N4 F4
          have m1 := (hneeds2 _ (.head _)).1
          have m2 := (hneeds2 _ (.tail _ (.head _))).1
          have m3 := (hneeds2 _ (.tail _ (.tail _ (.head _)))).1
          have m4 := (hneeds2 _ (.tail _ (.tail _ (.tail _ (.head _))))).1
          have m5 := (hneeds2 _ (.tail _ (.tail _ (.tail _ (.tail _ (.head _)))))).1
          walk_at "MINE steps"
          have hds : (put ds lo M (x % 2 ^ ((M - lo) * 1).toNat)).length = ds.length := put_len ⟨b0, hM.1, by omega⟩
          refine IH (d - 1) (by omega) _ _ _ _ _ _ _ _ _ _ _ _ _ _ _ _ _ _ _ _ _ _ _ _ us2 _ cc2 g B2 F5 X2 N5 T2 rfl hneeds2 hU2 hi2 (by rw [hds]; omega) (up_b hx hM) ?hd ?hu ?_
          case hd => ktr_room
          case hu => ktr_units
          intro us3 cc3 h6 tk6 F6 N6 hi3
          walk_at "MINE steps"
          rename_i kF kN _ _
          refine hret _ _ _ _ kF kN ?_
          rw [put_put b0 hM.1 hM.2 hb.2.2.1 hx] at hi3; exact hi3
    case use =>
      intro INN
      have hlenR : (List.replicate k.toNat [(0 : Int)]).flatten.length = fs.length := by rw [flat_rep, List.length_replicate]; omega
      rw [hlenR]
      refine INN fs.length _ _ _ _ _ _ _ _ _ _ _ _ _ _ _ _ _ _ a0 0 (fs.length : Int) _ _ _ _ _ 0 _ B1 F7 X1 N7 T1 rfl ?nd (.tail (Nat.ne_of_gt (Nat.lt_trans l2.1 l3)) (.tail (Nat.ne_of_gt l2.1) (.head ?_))) i4 ⟨by omega, by omega, by rw [hlenR]; omega, by omega, by rw [hlenR]; omega⟩ ?hx ?hd ?hu ?_
      case nd =>
        exact List.forall_mem_cons.mpr ⟨⟨.head _, Nat.ne_of_gt (Nat.lt_trans l2.1 l3)⟩, List.forall_mem_cons.mpr ⟨⟨.tail _ (.head _), Nat.ne_of_gt l2.1⟩, List.forall_mem_cons.mpr ⟨⟨.tail _ (.tail _ (.tail _ (.head _))), Nat.ne_of_lt N4.2.1⟩,
          List.forall_mem_cons.mpr ⟨⟨.tail _ (.tail _ (.tail _ (.tail _ (.head _)))), Nat.ne_of_lt N4.2.2.1⟩, List.forall_mem_cons.mpr ⟨⟨.tail _ (.tail _ (.tail _ (.tail _ (.tail _ (.head _))))), Nat.ne_of_lt N4.2.2.2.1⟩, fun _ h => nomatch h⟩⟩⟩⟩⟩
      case hx =>
        have := valL_b hn
        rw [ha, show ((fs.length : Int) - 0).toNat = fs.length by omega]; exact this
      case hd => ktr_room
      case hu => ktr_units
      · exact List.forall_mem_cons.mpr ⟨Nat.ne_of_lt N4.2.1, List.forall_mem_cons.mpr ⟨Nat.ne_of_lt N4.2.2.1, List.forall_mem_cons.mpr ⟨Nat.ne_of_lt N4.2.2.2.1, fun p hp => Nat.ne_of_lt (Nat.lt_trans (hlt2 p hp) hD0)⟩⟩⟩
      intro us5 c5 h8 tk8 F8 N8 hi8
      walk_at "MINE steps"
      rename_i kF kN _ _
      rw [put_all (by rw [hlenR]), ha, bitsL_valL hn] at hi8
      refine hret _ ((D, listOf us5.toArray c5) :: (c2, oc2) :: news2) _ _ kF (fun p hp => kN p ?_) ⟨D, us5, c5, c2, oc2, rfl, by rw [← hG]; rfl, hi8⟩
      rcases List.mem_cons.mp hp with rfl | hp
      · exact .tail _ (.tail _ (.head _))
      · rcases List.mem_cons.mp hp with rfl | hp
        · exact .tail _ (.head _)
        · exact .tail _ (.tail _ (.tail _ (.tail _ (.tail _ (.tail _ hp)))))
  · rename_i hz _ _ _ _
    exact absurd hz (Int.ne_of_gt (by rw [ha]; exact Int.lt_of_lt_of_le (pow_pos' _) (valL_ge hlen.1 hn hlast)))
end
section
local macro_rules | `(tactic| walk_at "MINE pad") => `(tactic| skip)
local macro_rules | `(tactic| walk_at "MINE pad") => `(tactic| skip)
local macro_rules | `(tactic| walk_at "MINE pad") => `(tactic| skip)
local macro_rules | `(tactic| walk_at "MINE pad") => `(tactic| skip)
local macro_rules | `(tactic| walk_at "MINE pad") => `(tactic| skip)
local macro_rules | `(tactic| walk_at "MINE pad") => `(tactic| skip)
/- the plain law -/
def SubS : List Int → Int → Prop
  | [], x => x = 0
  | n :: r, x => SubS r x ∨ SubS r (x - n)
def One (fs : List Int) (x : Int) : Prop := 0 ≤ x ∧ fs.getD x.toNat 0 = 1
def B01 (fs : List Int) : Prop := ∀ n ∈ fs, n = 0 ∨ n = 1
theorem getD_01 {fs : List Int} (h : B01 fs) (k : Nat) : fs.getD k 0 = 0 ∨ fs.getD k 0 = 1 := by
  by_cases hk : k < fs.length
  · rw [show fs.getD k 0 = fs[k] by simp [List.getD, hk]]
    exact h _ (List.getElem_mem hk)
  · left
    simp [List.getD, List.getElem?_eq_none (Nat.le_of_not_lt hk)]
theorem getD_big {fs : List Int} {k : Nat} (h : fs.length ≤ k) : fs.getD k 0 = 0 := by
  simp [List.getD, List.getElem?_eq_none h]
theorem getD_left {fs : List Int} {z k : Nat} : (fs ++ List.replicate z (0 : Int)).getD k 0 = fs.getD k 0 := by
  simp only [List.getD, List.getElem?_append, List.getElem?_replicate]
  split
  · rfl
  · rename_i h
    rw [List.getElem?_eq_none (Nat.le_of_not_lt h)]
    split <;> rfl
theorem getD_right {fs : List Int} {z k : Nat} : (List.replicate z (0 : Int) ++ fs).getD k 0 = if k < z then 0 else fs.getD (k - z) 0 := by
  simp only [List.getD, List.getElem?_append, List.getElem?_replicate, List.length_replicate]
  split <;> rfl
theorem stepF_at {fs : List Int} {n : Int} {k : Nat} (hn : 0 ≤ n) (hk : k < fs.length + n.toNat) : (stepF fs n).getD k 0 = max (if k < n.toNat then 0 else fs.getD (k - n.toNat) 0) (fs.getD k 0) := by
  have e : ((fs.length : Int) + n - 0).toNat = fs.length + n.toNat := by omega
  unfold stepF rangeKs
  rw [e]
  simp only [flat_rep]
  rw [List.map_map]
  have h2 : ∀ (g : Nat → Int), ((List.range (fs.length + n.toNat)).map g).getD k 0 = g k := by
    intro g
    simp [List.getD, hk]
  rw [h2]
  simp only [Function.comp, Int.zero_add, Int.toNat_natCast, getD_left, getD_right, gt_iff_lt]
  generalize (if k < n.toNat then (0 : Int) else fs.getD (k - n.toNat) 0) = a
  generalize fs.getD k 0 = b
  split <;> omega
theorem stepF_at_big {fs : List Int} {n : Int} {k : Nat} (hn : 0 ≤ n) (hk : ¬ k < fs.length + n.toNat) : (stepF fs n).getD k 0 = 0 := by
  apply getD_big
  rw [stepF_len]; omega
theorem one_step {fs : List Int} {n x : Int} (h : B01 fs) (hn : 0 ≤ n) : One (stepF fs n) x ↔ One fs x ∨ One fs (x - n) := by
  unfold One
  by_cases hx : 0 ≤ x
  · simp only [hx, true_and]
    by_cases hk : x.toNat < fs.length + n.toNat
    · rw [stepF_at hn hk]
      have ha := getD_01 h x.toNat
      by_cases hl : x.toNat < n.toNat
      · rw [if_pos hl]
        have : ¬ 0 ≤ x - n := by omega
        simp only [this, false_and, or_false]
        omega
      · rw [if_neg hl]
        have h2 : 0 ≤ x - n := by omega
        have h3 : (x - n).toNat = x.toNat - n.toNat := by omega
        have hb := getD_01 h (x.toNat - n.toNat)
        rw [h3]
        simp only [h2, true_and]
        omega
    · rw [stepF_at_big hn hk, getD_big (show fs.length ≤ x.toNat by omega), getD_big (show fs.length ≤ (x - n).toNat by omega)]
      omega
  · have : ¬ 0 ≤ x - n := by omega
    exact ⟨fun h => absurd h.1 hx, fun h => h.elim (fun h => absurd h.1 hx) (fun h => absurd h.1 this)⟩
theorem stepF_01 {fs : List Int} {n : Int} (h : B01 fs) : B01 (stepF fs n) := by
  intro a ha
  unfold stepF at ha
  obtain ⟨k, _, rfl⟩ := List.mem_map.mp ha
  simp only [flat_rep, getD_left, getD_right]
  have h1 := getD_01 h k.toNat
  have h2 := getD_01 h (k.toNat - n.toNat)
  have h3 : (if k.toNat < n.toNat then (0 : Int) else fs.getD (k.toNat - n.toNat) 0) = 0 ∨ (if k.toNat < n.toNat then (0 : Int) else fs.getD (k.toNat - n.toNat) 0) = 1 := by
    split
    · left; rfl
    · exact h2
  by_cases hc : (if k.toNat < n.toNat then (0 : Int) else fs.getD (k.toNat - n.toNat) 0) > fs.getD k.toNat 0
  · rw [if_pos hc]; exact h3
  · rw [if_neg hc]; exact h1
theorem foldF_01 {ms : List Int} : ∀ {fs : List Int}, B01 fs → B01 (ms.foldl stepF fs) := by
  induction ms with
  | nil => exact fun h => h
  | cons a r ih => exact fun h => ih (stepF_01 h)
theorem mv_01 {ms : List Int} : ∀ n ∈ mv ms, n = 0 ∨ n = 1 :=
  foldF_01 (fun n hn => Or.inr (List.mem_singleton.mp hn))
theorem foldF_len {ms : List Int} : ∀ {fs : List Int}, (∀ n ∈ ms, 1 ≤ n ∧ n ≤ 12) → ((ms.foldl stepF fs).length : Int) = fs.length + ms.sum := by
  induction ms with
  | nil => intro fs _; simp
  | cons a r ih =>
    intro fs h
    have ha := h a (.head _)
    rw [List.foldl_cons, ih (fun n hn => h n (.tail _ hn)), stepF_len, List.sum_cons]
    omega
theorem mv_len {ms : List Int} (hb : ∀ n ∈ ms, 1 ≤ n ∧ n ≤ 12) : ((mv ms).length : Int) = 1 + ms.sum := by
  unfold mv; rw [foldF_len hb]; rfl
theorem foldF_one {ms : List Int} : ∀ {fs : List Int} {x : Int}, B01 fs → (∀ n ∈ ms, 1 ≤ n ∧ n ≤ 12) → (One (ms.foldl stepF fs) x ↔ ∃ s, SubS ms s ∧ One fs (x - s)) := by
  induction ms with
  | nil =>
    intro fs x _ _
    refine ⟨fun h => ⟨0, rfl, by simpa using h⟩, ?_⟩
    rintro ⟨s, hs, h⟩
    have : s = 0 := hs
    subst this; simpa using h
  | cons a r ih =>
    intro fs x h hb
    have ha := hb a (.head _)
    rw [List.foldl_cons, ih (stepF_01 h) (fun n hn => hb n (.tail _ hn))]
    constructor
    · rintro ⟨s, hs, h1⟩
      rcases (one_step h (by omega)).mp h1 with h2 | h2
      · exact ⟨s, .inl hs, h2⟩
      · refine ⟨s + a, .inr ?_, ?_⟩
        · rw [show s + a - a = s by omega]; exact hs
        · rw [show x - (s + a) = x - s - a by omega]; exact h2
    · rintro ⟨s, hs | hs, h1⟩
      · exact ⟨s, hs, (one_step h (by omega)).mpr (.inl h1)⟩
      · refine ⟨s - a, hs, (one_step h (by omega)).mpr (.inr ?_)⟩
        rw [show x - (s - a) - a = x - s by omega]; exact h1
theorem one_one {x : Int} : One [1] x ↔ x = 0 := by
  unfold One
  constructor
  · rintro ⟨h, h1⟩
    by_cases h2 : x.toNat = 0
    · omega
    · rw [getD_big (by simp only [List.length_cons, List.length_nil]; omega)] at h1
      exact absurd h1 (by decide)
  · rintro rfl; exact ⟨by decide, rfl⟩
theorem mv_one {ms : List Int} (hb : ∀ n ∈ ms, 1 ≤ n ∧ n ≤ 12) {x : Int} : One (mv ms) x ↔ SubS ms x := by
  unfold mv
  rw [foldF_one (fun n hn => Or.inr (List.mem_singleton.mp hn)) hb]
  constructor
  · rintro ⟨s, hs, h⟩
    have := one_one.mp h
    rw [show x = s by omega]; exact hs
  · exact fun h => ⟨x, h, one_one.mpr (by omega)⟩
theorem subS_zero : ∀ {ms : List Int}, SubS ms 0
  | [] => rfl
  | _ :: r => .inl (subS_zero (ms := r))
theorem subS_sum : ∀ {ms : List Int}, SubS ms ms.sum
  | [] => rfl
  | a :: r => .inr (by rw [List.sum_cons, show a + r.sum - a = r.sum by omega]; exact subS_sum)
theorem subS_co : ∀ {ms : List Int} {x : Int}, SubS ms x → SubS ms (ms.sum - x)
  | [], x, h => by
    have : x = 0 := h
    subst this; rfl
  | a :: r, x, h => by
    rcases h with h | h
    · refine .inr ?_
      rw [List.sum_cons, show a + r.sum - x - a = r.sum - x by omega]; exact subS_co h
    · refine .inl ?_
      rw [List.sum_cons, show a + r.sum - x = r.sum - (x - a) by omega]; exact subS_co h
theorem subS_b : ∀ {ms : List Int} {x : Int}, (∀ n ∈ ms, 1 ≤ n ∧ n ≤ 12) → SubS ms x → 0 ≤ x ∧ x ≤ ms.sum
  | [], x, _, h => by
    have : x = 0 := h
    subst this; exact ⟨Int.le_refl _, Int.le_refl _⟩
  | a :: r, x, hb, h => by
    have ha := hb a (.head _)
    rw [List.sum_cons]
    rcases h with h | h
    · have := subS_b (fun n hn => hb n (.tail _ hn)) h; omega
    · have := subS_b (fun n hn => hb n (.tail _ hn)) h; omega
theorem subS_perm {ns ms : List Int} (h : List.Perm ns ms) : ∀ x, SubS ns x ↔ SubS ms x := by
  induction h with
  | nil => exact fun _ => Iff.rfl
  | cons a _ ih => exact fun x => or_congr (ih x) (ih _)
  | swap a b l =>
    intro x
    show (SubS l x ∨ SubS l (x - a)) ∨ (SubS l (x - b) ∨ SubS l (x - b - a)) ↔ (SubS l x ∨ SubS l (x - b)) ∨ (SubS l (x - a) ∨ SubS l (x - a - b))
    rw [show x - a - b = x - b - a by omega]
    constructor
    · rintro ((h | h) | (h | h))
      · exact .inl (.inl h)
      · exact .inr (.inl h)
      · exact .inl (.inr h)
      · exact .inr (.inr h)
    · rintro ((h | h) | (h | h))
      · exact .inl (.inl h)
      · exact .inr (.inl h)
      · exact .inl (.inr h)
      · exact .inr (.inr h)
  | trans _ _ h1 h2 => exact fun x => (h1 x).trans (h2 x)
theorem ext01 {fs gs : List Int} (hf : B01 fs) (hg : B01 gs) (hl : fs.length = gs.length) (h : ∀ x, One fs x ↔ One gs x) : fs = gs := by
  apply List.ext_getElem hl
  intro i h1 h2
  have e1 : fs.getD i 0 = fs[i] := by simp [List.getD, h1]
  have e2 : gs.getD i 0 = gs[i] := by simp [List.getD, h2]
  rw [← e1, ← e2]
  have hx := h (i : Int)
  unfold One at hx
  rw [Int.toNat_natCast] at hx
  have a1 := getD_01 hf i
  have a2 := getD_01 hg i
  omega
theorem perm_b {ms ns : List Int} (h : List.Perm ns ms) (hb : ∀ n ∈ ms, 1 ≤ n ∧ n ≤ 12) : ∀ n ∈ ns, 1 ≤ n ∧ n ≤ 12 := fun n hn => hb n (h.mem_iff.mp hn)
theorem perm_sum {ms ns : List Int} (h : List.Perm ns ms) : ns.sum = ms.sum := by
  induction h with
  | nil => rfl
  | cons a _ ih => rw [List.sum_cons, List.sum_cons, ih]
  | swap a b l => simp only [List.sum_cons]; omega
  | trans _ _ h1 h2 => rw [h1, h2]
theorem mv_perm {ms ns : List Int} (hb : ∀ n ∈ ms, 1 ≤ n ∧ n ≤ 12) (h : List.Perm ns ms) : mv ns = mv ms := by
  refine ext01 mv_01 mv_01 ?_ fun x => ?_
  · have h1 := mv_len (perm_b h hb)
    have h2 := mv_len hb
    rw [perm_sum h] at h1
    omega
  · rw [mv_one hb, mv_one (perm_b h hb)]; exact subS_perm h x
theorem sum_nn : ∀ {ms : List Int}, (∀ n ∈ ms, 1 ≤ n ∧ n ≤ 12) → 0 ≤ ms.sum ∧ ms.sum ≤ 12 * (ms.length : Int)
  | [], _ => ⟨Int.le_refl _, Int.le_refl _⟩
  | a :: r, h => by
    have ha := h a (.head _)
    have := sum_nn (ms := r) (fun n hn => h n (.tail _ hn))
    rw [List.sum_cons, List.length_cons]
    omega
theorem sum_b {ms : List Int} (hb : ∀ n ∈ ms, 1 ≤ n ∧ n ≤ 12) (hl : ms.length ≤ 8) : 0 ≤ ms.sum ∧ ms.sum ≤ 96 := by
  have := sum_nn hb; omega
theorem mv_last {ms : List Int} (hb : ∀ n ∈ ms, 1 ≤ n ∧ n ≤ 12) : (mv ms).getD ((mv ms).length - 1) 0 = 1 := by
  have h1 := (mv_one hb).mpr (subS_sum (ms := ms))
  have h2 := mv_len hb
  have h3 := sum_nn hb
  rw [show (mv ms).length - 1 = ms.sum.toNat by omega]
  exact h1.2
theorem mv_rev {ms : List Int} (hb : ∀ n ∈ ms, 1 ≤ n ∧ n ≤ 12) : (mv ms).reverse = mv ms := by
  have h2 := mv_len hb
  have h3 := sum_nn hb
  refine ext01 (fun n hn => mv_01 n (List.mem_reverse.mp hn)) mv_01 List.length_reverse fun x => ?_
  by_cases hx : 0 ≤ x ∧ x ≤ ms.sum
  · have e : (mv ms).reverse.getD x.toNat 0 = (mv ms).getD (ms.sum - x).toNat 0 := by
      simp only [List.getD]
      rw [List.getElem?_reverse (by omega), show (mv ms).length - 1 - x.toNat = (ms.sum - x).toNat by omega]
    have e2 : One (mv ms).reverse x ↔ One (mv ms) (ms.sum - x) := by
      unfold One
      rw [e]
      have : 0 ≤ ms.sum - x := by omega
      exact ⟨fun h => ⟨this, h.2⟩, fun h => ⟨hx.1, h.2⟩⟩
    rw [e2, mv_one hb, mv_one hb]
    constructor
    · intro h
      have := subS_co h
      rw [show ms.sum - (ms.sum - x) = x by omega] at this; exact this
    · exact subS_co
  · have h4 : ¬ One (mv ms) x := fun h => hx (subS_b hb ((mv_one hb).mp h))
    have h5 : ¬ One (mv ms).reverse x := by
      rintro ⟨h6, h7⟩
      rw [getD_big (by rw [List.length_reverse]; omega)] at h7
      exact absurd h7 (by decide)
    exact ⟨fun h => absurd h h5, fun h => absurd h h4⟩
theorem dval_all {fs : List Int} : dval fs 0 (fs.length : Int) = valL fs := by
  unfold dval; simp
end
section
local macro_rules | `(tactic| walk_at "MINE pad") => `(tactic| skip)
local macro_rules | `(tactic| walk_at "MINE pad") => `(tactic| skip)
local macro_rules | `(tactic| walk_at "MINE pad") => `(tactic| skip)
local macro_rules | `(tactic| walk_at "MINE pad") => `(tactic| skip)
local macro_rules | `(tactic| walk_at "MINE pad") => `(tactic| skip)
local macro_rules | `(tactic| walk_at "MINE pad") => `(tactic| skip)
local macro_rules | `(tactic| walk_at "MINE pad") => `(tactic| skip)
def tot (ms : List Int) (i : Nat) : Int := (List.foldl (fun (l : List Int) (k : Int) => if ((i : Int).fdiv (2 ^ k.toNat)).fmod 2 = 1 then l ++ [ms.getD k.toNat 0] else l) [] (rangeKs 0 ((ms.length : Int) - 0).toNat)).sum
def Ord (ms : List Int) (i : Nat) (os : List Int) : Prop := (∀ a b : Nat, a < b → b < os.length → os.getD a 0 < os.getD b 0) ∧ (∀ x, x ∈ os ↔ ∃ j, j < i ∧ tot ms j = x) ∧ os.length ≤ i
theorem ord_sorted {ms : List Int} {i : Nat} {os : List Int} (h : Ord ms i os) : Sorted os := fun a b hab hb => by
  rcases Nat.lt_or_eq_of_le hab with h1 | h1
  · exact Int.le_of_lt (h.1 a b h1 hb)
  · rw [h1]; exact Int.le_refl _
theorem ord_nil {ms : List Int} : Ord ms 0 [] := ⟨fun a b _ h => absurd h (Nat.not_lt_zero _), fun x => ⟨fun h => (nomatch h), fun ⟨j, h, _⟩ => absurd h (Nat.not_lt_zero _)⟩, Nat.le_refl _⟩
theorem bis_one {ns : List Int} {x p q : Int} (hp : BisAt ns x p) (hq : BisAt ns x q) : p = q := by
  have key : ∀ {p q : Int}, BisAt ns x p → BisAt ns x q → ¬ p < q := by
    intro p q hp hq h
    have h1 := hq.2.2.1 p.toNat (by have := hp.1; omega)
    have h2 := hp.2.2.2 p.toNat (by have := hp.1; omega) (by have := hp.1; have := hq.2.1; omega)
    omega
  have h1 := key hp hq
  have h2 := key hq hp
  omega
theorem mem_getD {os : List Int} {x : Int} : x ∈ os ↔ ∃ i, i < os.length ∧ os.getD i 0 = x := by
  rw [List.mem_iff_getElem]
  constructor
  · rintro ⟨i, h, e⟩
    exact ⟨i, h, by rw [← e]; simp [List.getD, h]⟩
  · rintro ⟨i, h, e⟩
    exact ⟨i, h, by rw [← e]; simp [List.getD, h]⟩
theorem ord_same {ms : List Int} {i : Nat} {os : List Int} {p : Int} (h : Ord ms i os) (hB : BisAt os (tot ms i) p) (hn : p ≠ (os.length : Int)) (he : os.getD p.toNat 0 = tot ms i) : Ord ms (i + 1) os := by
  refine ⟨h.1, fun x => ⟨fun hx => ?_, ?_⟩, Nat.le_succ_of_le h.2.2⟩
  · obtain ⟨j, hj, e⟩ := (h.2.1 x).mp hx
    exact ⟨j, Nat.lt_succ_of_lt hj, e⟩
  · rintro ⟨j, hj, e⟩
    by_cases hji : j = i
    · rw [hji] at e
      rw [← e, ← he]
      exact mem_getD.mpr ⟨p.toNat, by have := hB.1; have := hB.2.1; omega, rfl⟩
    · exact (h.2.1 x).mpr ⟨j, by omega, e⟩
theorem ord_pair {os : List Int} : (∀ a b : Nat, a < b → b < os.length → os.getD a 0 < os.getD b 0) ↔ List.Pairwise (· < ·) os := by
  rw [List.pairwise_iff_getElem]
  constructor
  · intro h i j hi hj hij
    have := h i j hij hj
    simpa [List.getD, hi, hj] using this
  · intro h a b hab hb
    have ha : a < os.length := by omega
    have := h a b ha hb hab
    simpa [List.getD, ha, hb] using this
theorem ord_ins {ms : List Int} {i : Nat} {os : List Int} {p : Int} (h : Ord ms i os) (hB : BisAt os (tot ms i) p) (hn : p = (os.length : Int) ∨ os.getD p.toNat 0 ≠ tot ms i) : Ord ms (i + 1) (os.take p.toNat ++ tot ms i :: os.drop p.toNat) := by
  obtain ⟨hp0, hp1, hlo, hhi⟩ := hB
  have hlt : ∀ a ∈ os.take p.toNat, a < tot ms i := by
    intro a ha
    obtain ⟨k, hk, e⟩ := mem_getD.mp ha
    rw [List.length_take] at hk
    have := hlo k (by omega)
    rw [← e]
    simpa [List.getD, List.getElem?_take, show k < p.toNat by omega] using this
  have hgt : ∀ a ∈ os.drop p.toNat, tot ms i < a := by
    intro a ha
    obtain ⟨k, hk, e⟩ := mem_getD.mp ha
    rw [List.length_drop] at hk
    have e2 : (os.drop p.toNat).getD k 0 = os.getD (p.toNat + k) 0 := by simp [List.getD, List.getElem?_drop]
    have h1 := hhi p.toNat (by omega) (by omega)
    have h2 : os.getD p.toNat 0 ≠ tot ms i := hn.resolve_left (by omega)
    have h3 : os.getD p.toNat 0 ≤ os.getD (p.toNat + k) 0 := by
      by_cases hk0 : k = 0
      · subst hk0; exact Int.le_refl _
      · exact Int.le_of_lt (h.1 _ _ (by omega) (by omega))
    rw [← e, e2]; omega
  have hpw := ord_pair.mp h.1
  refine ⟨ord_pair.mpr ?_, fun x => ?_, ?_⟩
  · rw [List.pairwise_append]
    refine ⟨hpw.sublist (List.take_sublist _ _), List.pairwise_cons.mpr ⟨hgt, hpw.sublist (List.drop_sublist _ _)⟩, fun a ha b hb => ?_⟩
    rcases List.mem_cons.mp hb with rfl | hb
    · exact hlt a ha
    · exact Int.lt_trans (hlt a ha) (hgt b hb)
  · have e : x ∈ os ↔ x ∈ os.take p.toNat ∨ x ∈ os.drop p.toNat := by
      rw [← List.mem_append, List.take_append_drop]
    have e2 : x ∈ os.take p.toNat ++ tot ms i :: os.drop p.toNat ↔ x ∈ os ∨ x = tot ms i := by
      rw [List.mem_append, List.mem_cons, e]
      constructor
      · rintro (h | h | h)
        · exact .inl (.inl h)
        · exact .inr h
        · exact .inl (.inr h)
      · rintro ((h | h) | h)
        · exact .inl h
        · exact .inr (.inr h)
        · exact .inr (.inl h)
    rw [e2, h.2.1 x]
    constructor
    · rintro (⟨j, hj, e⟩ | e)
      · exact ⟨j, Nat.lt_succ_of_lt hj, e⟩
      · exact ⟨i, Nat.lt_succ_self _, e.symm⟩
    · rintro ⟨j, hj, e⟩
      by_cases hji : j = i
      · rw [hji] at e; exact .inr e.symm
      · exact .inl ⟨j, by omega, e⟩
  · rw [List.length_append, List.length_cons, List.length_take, List.length_drop]
    have := h.2.2
    omega
theorem foldApp_sum {f : Int → Int} {c : Int → Prop} [DecidablePred c] {ks : List Int} : ∀ {l : List Int}, (ks.foldl (fun (l : List Int) (k : Int) => if c k then l ++ [f k] else l) l).sum = l.sum + (ks.map fun k => if c k then f k else 0).sum := by
  induction ks with
  | nil => intro l; simp
  | cons a r ih =>
    intro l
    rw [List.foldl_cons, ih, List.map_cons, List.sum_cons]
    split
    · rw [List.sum_append]; simp; omega
    · omega
theorem foldApp_filter {c : Int → Prop} [DecidablePred c] {ks : List Int} : ∀ {l : List Int}, ks.foldl (fun (l : List Int) (k : Int) => if c k then l ++ [k] else l) l = l ++ ks.filter (fun k => decide (c k)) := by
  induction ks with
  | nil => intro l; simp
  | cons a r ih =>
    intro l
    rw [List.foldl_cons, ih]
    by_cases h : c a
    · rw [if_pos h, List.filter_cons_of_pos (by simpa using h), List.append_assoc]; rfl
    · rw [if_neg h, List.filter_cons_of_neg (by simpa using h)]
def totN : List Int → Nat → Int
  | [], _ => 0
  | a :: r, i => (if i % 2 = 1 then a else 0) + totN r (i / 2)
theorem tot_range {ms : List Int} {i : Nat} : tot ms i = ((List.range ms.length).map fun k => if i / 2 ^ k % 2 = 1 then ms.getD k 0 else 0).sum := by
  unfold tot
  rw [foldApp_sum (f := fun k => ms.getD k.toNat 0) (c := fun k => ((i : Int).fdiv (2 ^ k.toNat)).fmod 2 = 1)]
  unfold rangeKs
  rw [List.map_map, show ((ms.length : Int) - 0).toNat = ms.length by omega]
  simp only [List.sum_nil, Int.zero_add]
  congr 1
  apply List.map_congr_left
  intro k _
  simp only [Function.comp, Int.toNat_natCast]
  have e : ((i : Int).fdiv (2 ^ k)).fmod 2 = ((i / 2 ^ k % 2 : Nat) : Int) := by
    rw [Int.fdiv_eq_ediv_of_nonneg _ (Int.le_of_lt (Int.pow_pos (by decide))), Int.fmod_eq_emod_of_nonneg _ (by decide)]
    simp
  rw [e]
  by_cases h : i / 2 ^ k % 2 = 1
  · rw [if_pos h, if_pos (by rw [h]; rfl)]
  · rw [if_neg h, if_neg (by omega)]
theorem tot_N : ∀ {ms : List Int} {i : Nat}, tot ms i = totN ms i := by
  have key : ∀ (ms : List Int) (i : Nat), ((List.range ms.length).map fun k => if i / 2 ^ k % 2 = 1 then ms.getD k 0 else 0).sum = totN ms i := by
    intro ms
    induction ms with
    | nil => intro i; rfl
    | cons a r ih =>
      intro i
      rw [List.length_cons, List.range_succ_eq_map, List.map_cons, List.sum_cons, List.map_map]
      have e : (List.map ((fun k => if i / 2 ^ k % 2 = 1 then (a :: r).getD k 0 else 0) ∘ Nat.succ) (List.range r.length)) = ((List.range r.length).map fun k => if (i / 2) / 2 ^ k % 2 = 1 then r.getD k 0 else 0) := by
        apply List.map_congr_left
        intro k _
        simp only [Function.comp, Nat.succ_eq_add_one, List.getD_cons_succ]
        rw [show i / 2 ^ (k + 1) = i / 2 / 2 ^ k by rw [Nat.pow_succ, Nat.mul_comm, Nat.div_div_eq_div_mul]]
      rw [e, ih]
      show (if i / 2 ^ 0 % 2 = 1 then (a :: r).getD 0 0 else 0) + _ = (if i % 2 = 1 then a else 0) + _
      rw [Nat.pow_zero, Nat.div_one, List.getD_cons_zero]
  intro ms i
  rw [tot_range, key]
theorem subS_tot : ∀ {ms : List Int} {x : Int}, SubS ms x ↔ ∃ j, j < 2 ^ ms.length ∧ totN ms j = x
  | [], x => by
    constructor
    · intro h
      have : x = 0 := h
      exact ⟨0, by decide, this.symm⟩
    · rintro ⟨j, _, e⟩; exact e.symm
  | a :: r, x => by
    have e2 : 2 ^ (a :: r).length = 2 ^ r.length * 2 := by rw [List.length_cons, Nat.pow_succ]
    rw [e2]
    constructor
    · rintro (h | h)
      · obtain ⟨j, hj, e⟩ := subS_tot.mp h
        refine ⟨2 * j, by omega, ?_⟩
        show (if 2 * j % 2 = 1 then a else 0) + totN r (2 * j / 2) = x
        rw [if_neg (by omega), show 2 * j / 2 = j by omega, e]; omega
      · obtain ⟨j, hj, e⟩ := subS_tot.mp h
        refine ⟨2 * j + 1, by omega, ?_⟩
        show (if (2 * j + 1) % 2 = 1 then a else 0) + totN r ((2 * j + 1) / 2) = x
        rw [if_pos (by omega), show (2 * j + 1) / 2 = j by omega, e]; omega
    · rintro ⟨j, hj, e⟩
      have e : (if j % 2 = 1 then a else 0) + totN r (j / 2) = x := e
      by_cases h : j % 2 = 1
      · rw [if_pos h] at e
        exact .inr (subS_tot.mpr ⟨j / 2, by omega, by omega⟩)
      · rw [if_neg h] at e
        exact .inl (subS_tot.mpr ⟨j / 2, by omega, by omega⟩)
theorem ord_mem {ms os : List Int} (h : Ord ms (2 ^ ms.length) os) {x : Int} : x ∈ os ↔ SubS ms x := by
  rw [h.2.1 x, subS_tot]
  simp only [tot_N]
theorem eq_of_lt : ∀ {xs ys : List Int}, List.Pairwise (· < ·) xs → List.Pairwise (· < ·) ys → (∀ x, x ∈ xs ↔ x ∈ ys) → xs = ys
  | [], [], _, _, _ => rfl
  | [], y :: ys, _, _, h => absurd ((h y).mpr (.head _)) (fun q => nomatch q)
  | x :: xs, [], _, _, h => absurd ((h x).mp (.head _)) (fun q => nomatch q)
  | x :: xs, y :: ys, hx, hy, h => by
    obtain ⟨hx1, hx2⟩ := List.pairwise_cons.mp hx
    obtain ⟨hy1, hy2⟩ := List.pairwise_cons.mp hy
    have e : x = y := by
      rcases List.mem_cons.mp ((h x).mp (.head _)) with h1 | h1
      · exact h1
      · rcases List.mem_cons.mp ((h y).mpr (.head _)) with h2 | h2
        · exact h2.symm
        · have := hx1 y h2
          have := hy1 x h1
          omega
    subst e
    rw [eq_of_lt hx2 hy2 fun z => ?_]
    constructor
    · intro hz
      rcases List.mem_cons.mp ((h z).mp (.tail _ hz)) with h1 | h1
      · have := hx1 z hz; omega
      · exact h1
    · intro hz
      rcases List.mem_cons.mp ((h z).mpr (.tail _ hz)) with h1 | h1
      · have := hy1 z hz; omega
      · exact h1
theorem rangeKs_pw {n : Nat} : List.Pairwise (· < ·) (rangeKs 0 n) := by
  unfold rangeKs
  rw [List.pairwise_map]
  exact List.pairwise_lt_range.imp fun h => by omega
theorem rangeKs_mem {n : Nat} {x : Int} : x ∈ rangeKs 0 n ↔ 0 ≤ x ∧ x < (n : Int) := by
  constructor
  · intro h
    have := mem_rangeKs h
    omega
  · rintro ⟨h0, h1⟩
    exact List.mem_map.mpr ⟨x.toNat, List.mem_range.mpr (by omega), by omega⟩
theorem ord_all {ms : List Int} {os : List Int} (hb : ∀ n ∈ ms, 1 ≤ n ∧ n ≤ 12) (hl : ms.length ≤ 8) (h : Ord ms (2 ^ ms.length) os) : os = List.foldl (fun (l : List Int) (k : Int) => if (mv ms).getD k.toNat 0 = 1 then l ++ [k] else l) [] (rangeKs 0 (((mv ms).length : Int) - 0).toNat) := by
  rw [foldApp_filter (c := fun k => (mv ms).getD k.toNat 0 = 1), List.nil_append]
  refine eq_of_lt (ord_pair.mp h.1) (rangeKs_pw.filter _) fun x => ?_
  rw [ord_mem h, ← mv_one hb, List.mem_filter, rangeKs_mem]
  have hlen := mv_len hb
  unfold One
  constructor
  · rintro ⟨h0, h1⟩
    refine ⟨⟨h0, ?_⟩, by simpa using h1⟩
    by_cases hk : x.toNat < (mv ms).length
    · omega
    · rw [getD_big (by omega)] at h1
      exact absurd h1 (by decide)
  · rintro ⟨⟨h0, _⟩, h1⟩
    exact ⟨h0, by simpa using h1⟩
theorem ord_b {ms os : List Int} (hb : ∀ n ∈ ms, 1 ≤ n ∧ n ≤ 12) (hl : ms.length ≤ 8) (h : Ord ms (2 ^ ms.length) os) : ∀ x ∈ os, 0 ≤ x ∧ x ≤ 96 := fun x hx => by
  have h1 := subS_b hb ((ord_mem h).mp hx)
  have h2 := sum_b hb hl
  omega
theorem ord_len {ms os : List Int} (hb : ∀ n ∈ ms, 1 ≤ n ∧ n ≤ 12) (hl : ms.length ≤ 8) (h : Ord ms (2 ^ ms.length) os) : 1 ≤ os.length ∧ os.length ≤ 256 := by
  have h1 := List.length_pos_of_mem ((ord_mem h).mpr (subS_zero (ms := ms)))
  have h2 : 2 ^ ms.length ≤ 256 := Nat.pow_le_pow_right (by decide) hl
  exact ⟨h1, Nat.le_trans h.2.2 h2⟩
theorem ord_other {ms os : List Int} {n p : Int} (hb : ∀ n ∈ ms, 1 ≤ n ∧ n ≤ 12) (hl : ms.length ≤ 8) (h : Ord ms (2 ^ ms.length) os) (hn : n ∈ os) (hB : BisAt os (ms.sum - n) p) : p ≠ (os.length : Int) ∧ os.getD p.toNat 0 = ms.sum - n := by
  obtain ⟨i, hi, e⟩ := mem_getD.mp ((ord_mem h).mpr (subS_co ((ord_mem h).mp hn)))
  obtain ⟨h0, h1, h2, h3⟩ := hB
  have hpi : p ≤ (i : Int) := by
    by_cases hc : (i : Int) < p
    · have := h2 i hc; omega
    · omega
  refine ⟨by omega, ?_⟩
  have h4 := h3 p.toNat (by omega) (by omega)
  have h5 := ord_sorted h p.toNat i (by omega) hi
  omega
theorem sub_near : ∀ {ms : List Int} {D X : Int}, (∀ a ∈ ms, 0 ≤ a ∧ a ≤ X) → 0 ≤ X → -X ≤ D → D - 2 * ms.sum ≤ X → ∃ s, SubS ms s ∧ -X ≤ D - 2 * s ∧ D - 2 * s ≤ X
  | [], D, X, _, h0, h1, h2 => ⟨0, rfl, by omega, by simpa using h2⟩
  | a :: r, D, X, hb, h0, h1, h2 => by
    by_cases h : D ≤ X
    · exact ⟨0, subS_zero, by omega, by omega⟩
    · have ha := hb a (.head _)
      rw [List.sum_cons] at h2
      obtain ⟨s, hs, h3, h4⟩ := sub_near (ms := r) (D := D - 2 * a) (X := X) (fun n hn => hb n (.tail _ hn)) h0 (by omega) (by omega)
      refine ⟨s + a, .inr ?_, by omega, by omega⟩
      rw [show s + a - a = s by omega]; exact hs
theorem near_max {ms os : List Int} {M : Int} (hb : ∀ n ∈ ms, 1 ≤ n ∧ n ≤ 12) (hl : ms.length ≤ 8) (h : Ord ms (2 ^ ms.length) os) (hMm : M ∈ List.map (fun x => if ms.sum - 2 * x < 0 then -(ms.sum - 2 * x) else ms.sum - 2 * x) os) (hMb : ∀ a ∈ List.map (fun x => if ms.sum - 2 * x < 0 then -(ms.sum - 2 * x) else ms.sum - 2 * x) os, M ≤ a) : ∀ X : Int, (∀ a ∈ [0] ++ ms, a ≤ X) → M ≤ X := by
  intro X hX
  have h0 := hX 0 (.head _)
  have hs := sum_b hb hl
  obtain ⟨s, h1, h2, h3⟩ := sub_near (ms := ms) (D := ms.sum) (X := X) (fun a ha => ⟨by have := hb a ha; omega, hX a (.tail _ ha)⟩) h0 (by omega) (by omega)
  have h4 := hMb _ (List.mem_map.mpr ⟨s, (ord_mem h).mpr h1, rfl⟩)
  refine Int.le_trans h4 ?_
  split <;> omega
theorem near_par {ms os : List Int} {M : Int} (hMm : M ∈ List.map (fun x => if ms.sum - 2 * x < 0 then -(ms.sum - 2 * x) else ms.sum - 2 * x) os) : M.fmod 2 = ms.sum.fmod 2 := by
  obtain ⟨x, _, rfl⟩ := List.mem_map.mp hMm
  simp only [Int.fmod_eq_emod_of_nonneg _ (show (0 : Int) ≤ 2 by decide)]
  split <;> omega
theorem near_even {ms os : List Int} {M : Int} (hb : ∀ n ∈ ms, 1 ≤ n ∧ n ≤ 12) (hl : ms.length ≤ 8) (h : Ord ms (2 ^ ms.length) os) (hMm : M ∈ List.map (fun x => if ms.sum - 2 * x < 0 then -(ms.sum - 2 * x) else ms.sum - 2 * x) os) (hMb : ∀ a ∈ List.map (fun x => if ms.sum - 2 * x < 0 then -(ms.sum - 2 * x) else ms.sum - 2 * x) os, M ≤ a) : ms.sum.fmod 2 = 0 → (M = 0 ↔ (mv ms).getD (ms.sum.fdiv 2).toNat 0 = 1) := by
  rw [Int.fdiv_eq_ediv_of_nonneg _ (by decide), Int.fmod_eq_emod_of_nonneg _ (by decide)]
  intro hev
  have hs := sum_b hb hl
  have e : (mv ms).getD (ms.sum / 2).toNat 0 = 1 ↔ One (mv ms) (ms.sum / 2) := ⟨fun q => ⟨by omega, q⟩, fun q => q.2⟩
  rw [e, mv_one hb]
  constructor
  · intro hM
    obtain ⟨x, hx, e⟩ := List.mem_map.mp hMm
    have hx2 : x = ms.sum / 2 := by
      split at e <;> omega
    rw [← hx2]; exact (ord_mem h).mp hx
  · intro hS
    have h4 := hMb _ (List.mem_map.mpr ⟨_, (ord_mem h).mpr hS, rfl⟩)
    obtain ⟨x, hx, e⟩ := List.mem_map.mp hMm
    have h5 : 0 ≤ M := by
      rw [← e]; split <;> omega
    rw [if_neg (by omega)] at h4
    omega
theorem near_odd {ms os : List Int} {M : Int} (hMm : M ∈ List.map (fun x => if ms.sum - 2 * x < 0 then -(ms.sum - 2 * x) else ms.sum - 2 * x) os) : ms.sum.fmod 2 ≠ 0 → M ≠ 0 := fun h0 h1 => by
  have := near_par hMm
  rw [h1] at this; exact h0 this.symm
theorem sum01 : ∀ {fs : List Int}, B01 fs → 0 ≤ fs.sum ∧ fs.sum ≤ (fs.length : Int)
  | [], _ => ⟨Int.le_refl _, Int.le_refl _⟩
  | a :: r, h => by
    have ha := h a (.head _)
    have := sum01 (fs := r) (fun n hn => h n (.tail _ hn))
    rw [List.sum_cons, List.length_cons]
    omega
theorem mv_sum_b {ms : List Int} (hb : ∀ n ∈ ms, 1 ≤ n ∧ n ≤ 12) (hl : ms.length ≤ 8) : 0 ≤ (mv ms).sum ∧ (mv ms).sum ≤ 1000 := by
  have h1 := sum01 (fs := mv ms) mv_01
  have h2 := mv_len hb
  have h3 := sum_b hb hl
  omega
theorem sum_zeros {z : Nat} : (List.replicate z (0 : Int)).sum = 0 := by
  induction z with
  | zero => rfl
  | succ k ih => rw [List.replicate_succ, List.sum_cons, ih]; rfl
theorem sum_le_at : ∀ {as bs : List Int}, as.length = bs.length → (∀ k, as.getD k 0 ≤ bs.getD k 0) → as.sum ≤ bs.sum
  | [], [], _, _ => Int.le_refl _
  | [], _ :: _, h, _ => absurd h (by simp)
  | _ :: _, [], h, _ => absurd h (by simp)
  | a :: as, b :: bs, h, hk => by
    have h0 := hk 0
    have h1 := sum_le_at (as := as) (bs := bs) (by simpa using h) (fun k => by simpa using hk (k + 1))
    rw [List.getD_cons_zero, List.getD_cons_zero] at h0
    rw [List.sum_cons, List.sum_cons]; omega
theorem sum_le_two : ∀ {as bs cs : List Int}, as.length = bs.length → as.length = cs.length → (∀ k, as.getD k 0 ≤ bs.getD k 0 + cs.getD k 0) → as.sum ≤ bs.sum + cs.sum
  | [], [], [], _, _, _ => by decide
  | [], _ :: _, _, h, _, _ => absurd h (by simp)
  | [], _, _ :: _, _, h, _ => absurd h (by simp)
  | _ :: _, [], _, h, _, _ => absurd h (by simp)
  | _ :: _, _, [], _, h, _ => absurd h (by simp)
  | a :: as, b :: bs, c :: cs, h, h2, hk => by
    have h0 := hk 0
    have h1 := sum_le_two (as := as) (bs := bs) (cs := cs) (by simpa using h) (by simpa using h2) (fun k => by simpa using hk (k + 1))
    rw [List.getD_cons_zero, List.getD_cons_zero, List.getD_cons_zero] at h0
    rw [List.sum_cons, List.sum_cons, List.sum_cons]; omega
theorem stepF_hi {fs : List Int} {n : Int} (h : B01 fs) (hn : 0 ≤ n) : (stepF fs n).sum ≤ 2 * fs.sum := by
  have e : (stepF fs n).length = fs.length + n.toNat := by rw [stepF_len]; omega
  have h1 := sum_le_two (as := stepF fs n) (bs := List.replicate n.toNat (0 : Int) ++ fs) (cs := fs ++ List.replicate n.toNat (0 : Int))
    (by rw [e, List.length_append, List.length_replicate]; omega) (by rw [e, List.length_append, List.length_replicate]) (fun k => by
      rw [getD_left, getD_right]
      have ha := getD_01 h k
      have hb := getD_01 h (k - n.toNat)
      by_cases hk : k < fs.length + n.toNat
      · rw [stepF_at hn hk]
        split <;> omega
      · rw [stepF_at_big hn hk]
        split <;> omega)
  rw [List.sum_append, List.sum_append, sum_zeros] at h1
  omega
theorem mv_snoc {ms : List Int} {n : Int} : mv (ms ++ [n]) = stepF (mv ms) n := by
  unfold mv; rw [List.foldl_append]; rfl
theorem mv_sum_hi {ms : List Int} (_hb : ∀ n ∈ ms, 1 ≤ n ∧ n ≤ 12) : (mv (ms ++ [5])).sum ≤ 2 * (mv ms).sum := by
  rw [mv_snoc]; exact stepF_hi mv_01 (by decide)
theorem stepF_lo {fs : List Int} {n : Int} (h : B01 fs) (hn : 1 ≤ n) (hl : fs.getD (fs.length - 1) 0 = 1) : fs.sum + 1 ≤ (stepF fs n).sum := by
  have e : (stepF fs n).length = fs.length + n.toNat := by rw [stepF_len]; omega
  have hf : 0 < fs.length := by
    apply Nat.pos_of_ne_zero
    intro h0
    rw [getD_big (by omega)] at hl
    exact absurd hl (by decide)
  have h1 := sum_le_at (as := fs ++ List.replicate (n.toNat - 1) (0 : Int) ++ [1]) (bs := stepF fs n)
    (by rw [e, List.length_append, List.length_append, List.length_replicate, List.length_singleton]; omega) (fun k => by
      have ha := getD_01 h k
      have hb := getD_01 h (k - n.toNat)
      by_cases hk : k < fs.length + n.toNat
      · rw [stepF_at (by omega) hk]
        by_cases hk1 : k = fs.length + n.toNat - 1
        · have h2 : k - n.toNat = fs.length - 1 := by omega
          rw [h2, hl, if_neg (by omega)]
          have : (fs ++ List.replicate (n.toNat - 1) (0 : Int) ++ [1]).getD k 0 = 1 := by
            have hlen : (fs ++ List.replicate (n.toNat - 1) (0 : Int)).length = k := by rw [List.length_append, List.length_replicate]; omega
            simp only [List.getD]
            rw [← hlen, List.getElem?_concat_length]; rfl
          rw [this]; omega
        · have : (fs ++ List.replicate (n.toNat - 1) (0 : Int) ++ [1]).getD k 0 = fs.getD k 0 := by
            rw [← getD_left (fs := fs) (z := n.toNat - 1)]
            simp only [List.getD]
            rw [List.getElem?_append_left (by rw [List.length_append, List.length_replicate]; omega)]
          rw [this]
          split <;> omega
      · rw [stepF_at_big (by omega) hk, getD_big (by rw [List.length_append, List.length_append, List.length_replicate, List.length_singleton]; omega)]
        omega)
  rw [List.sum_append, List.sum_append, sum_zeros] at h1
  simp only [List.sum_cons, List.sum_nil] at h1
  omega
theorem foldF_lo {ms : List Int} : ∀ {fs : List Int}, B01 fs → fs.getD (fs.length - 1) 0 = 1 → (∀ n ∈ ms, 1 ≤ n ∧ n ≤ 12) → fs.sum + (ms.length : Int) ≤ (ms.foldl stepF fs).sum := by
  induction ms with
  | nil => intro fs _ _ _; simp
  | cons a r ih =>
    intro fs h hl hb
    have ha := hb a (.head _)
    have h1 := stepF_lo h ha.1 hl
    have hf : 0 < fs.length := by
      apply Nat.pos_of_ne_zero
      intro h0
      rw [getD_big (by omega)] at hl
      exact absurd hl (by decide)
    have hlast : (stepF fs a).getD ((stepF fs a).length - 1) 0 = 1 := by
      have e : (stepF fs a).length = fs.length + a.toNat := by rw [stepF_len]; omega
      rw [e, stepF_at (by omega) (by omega), if_neg (by omega), show fs.length + a.toNat - 1 - a.toNat = fs.length - 1 by omega, hl]
      have := getD_01 h (fs.length + a.toNat - 1)
      omega
    have h2 := ih (stepF_01 (n := a) h) hlast (fun n hn => hb n (.tail _ hn))
    rw [List.foldl_cons, List.length_cons]
    omega
theorem mv_sum_lo {ms : List Int} (hb : ∀ n ∈ ms, 1 ≤ n ∧ n ≤ 12) : (ms.length : Int) + 1 ≤ (mv ms).sum := by
  have := foldF_lo (ms := ms) (fs := [1]) (fun n hn => Or.inr (List.mem_singleton.mp hn)) rfl hb
  have e : ([1] : List Int).sum = 1 := rfl
  rw [e] at this
  show _ ≤ (ms.foldl stepF [1]).sum
  omega
theorem b5 {ms : List Int} (hb : ∀ n ∈ ms, 1 ≤ n ∧ n ≤ 12) : ∀ n ∈ ms ++ [5], 1 ≤ n ∧ n ≤ 12 := fun n hn => by
  rcases List.mem_append.mp hn with h | h
  · exact hb n h
  · rw [List.mem_singleton.mp h]; decide
end
section
def lawDef : Stmt := PySem.Challenge.pw_hd0003_01.main.body.getD 8 (.Pass ⟨0, 0, 0, 0⟩)
def lawStmts : List Stmt := match lawDef with
  | .FunctionDef _ _ body _ _ _ _ _ _ _ => body
  | _ => []
def lawScope : Scope := match lawDef with
  | .FunctionDef _ _ _ _ _ _ scope _ _ _ => scope
  | _ => default
theorem law_len : lawStmts.length = 11 := by rfl
local macro_rules | `(tactic| walk_at "MINE steps") => `(tactic| repeat' (first | (k_unfold; (try dsimp only)) | (k_end; wrow_close) | ((fail_if_success (with_reducible show wpAny _ _ (call (Value.ref _) _) _ _ _)); (fail_if_success (with_reducible show wpAny _ _ (execs (Stmt.For _ _ _ _ _ :: _) _) _ _ _)); (fail_if_success (with_reducible show wpAny _ _ (execs (Stmt.Assign [Expr.Name (Str.ofString "near") _] _ _ :: _) _) _ _ _)); (fail_if_success (with_reducible show wpAny _ _ (execs (Stmt.If (Expr.BoolOp _ _ _) _ _ _ :: _) _) _ _ _));  walk1) | (dsimp only; (fail_if_success (with_reducible show wpAny _ _ (call (Value.ref _) _) _ _ _)); (fail_if_success (with_reducible show wpAny _ _ (execs (Stmt.For _ _ _ _ _ :: _) _) _ _ _)); (fail_if_success (with_reducible show wpAny _ _ (execs (Stmt.Assign [Expr.Name (Str.ofString "near") _] _ _ :: _) _) _ _ _)); (fail_if_success (with_reducible show wpAny _ _ (execs (Stmt.If (Expr.BoolOp _ _ _) _ _ _ :: _) _) _ _ _));  walk1) | (leave1; walk_say "STEP leave1"; try dsimp only) | fail "no step"))
local macro_rules | `(tactic| walk_at "KCiEl") => `(tactic| (refine kci_el ?kce rfl rfl; (case kce => (refine if_pos ?_; with_reducible assumption))))
local macro_rules | `(tactic| walk_at "KCiNo") => `(tactic| (refine kci_no ?kce rfl; (case kce => (refine if_neg ?_; with_reducible assumption))))
local macro_rules | `(tactic| walk_at "CompEnd") => `(tactic| (refine LCg.CompEnd.intro ?f ?n _ (fun p hp => hp) ?o trivial ?_; (case f => with_reducible assumption); (case n => with_reducible assumption); (case o => with_reducible assumption)))
def Parked (P : Prop) : Prop := P
theorem Parked.mk {P : Prop} (h : Parked P) : P := h
local macro_rules | `(tactic| walk_at "CompSrcT") => `(tactic| refine Parked.mk ?_)
theorem mulok {k : Int} (_h : 0 ≤ k ∧ k ≤ 96) : IntMulOk 2 k := IntMulOk.of_left (by decide)
local macro_rules | `(tactic| walk_at "CompSrc") => `(tactic| refine Parked.mk ?_)
local macro_rules | `(tactic| walk_at "binaryOp Mult int int") => `(tactic| (k_here; refine' mul_int ?_ ?hm; (case hm => with_reducible assumption)))
local macro_rules | `(tactic| walk_at "MINE steps") => `(tactic| repeat' (first | (k_unfold; (try dsimp only)) | (k_end; wrow_close) | ((fail_if_success (with_reducible show wpAny _ _ (call (Value.ref _) _) _ _ _)); walk1) | (dsimp only; (fail_if_success (with_reducible show wpAny _ _ (call (Value.ref _) _) _ _ _)); walk1) | (leave1; walk_say "STEP leave1"; try dsimp only) | fail "no step"))
theorem newsTail {h₀ h : Heap} {L : Addr} {q : Addr × Obj} {l : List (Addr × Obj)} (N : News h₀ L h (q :: l)) : News h₀ L h l := fun p hp => N p (.tail _ hp)
theorem fr_named {h₀ h : Heap} {L : Addr} {M : Str → Option Value} {b : Str} {v : Value} (F : Fr h₀ L h M) (hb : M b = some v) : Fr h₀ L h (fun y => if y = b then some v else M y) := by
  have e : M = fun y => if y = b then some v else M y := by
    funext y
    by_cases h : y = b
    · rw [if_pos h, h, hb]
    · rw [if_neg h]
  rw [← e]; exact F
/-- what the law's end asks: the answer True, the code tables still there -/
def LawQ (h₀ : Heap) (L : Addr) (s : Shared) (Q : Flow → Shared → Prop) : Prop :=
  ∀ (m' : Str → Option Value) (nx : List (Addr × Obj)) (h' : Heap) (tk' : Nat) (p23 p16 : Array Value), Fr h₀ L h' m' → News h₀ L h' nx → (23, tabObj p23) ∈ nx → (16, tabObj p16) ∈ nx → Q (.ret (.bool true)) { s with heap := h', toks := tk' }
set_option maxRecDepth 100000 in
set_option maxHeartbeats 400000 in
theorem law_10 {w : World} {mean : ExcName → Option Value} {mg mb : Str → Option Value} {fa : Addr} {cd : Value} {h₀ : Heap} {L : Addr} {m : Str → Option Value} {s : Shared} {Q : Flow → Shared → Prop} {E : Value → Shared → Prop}
    (B : Below callerA h₀ [] h₀) (X : (hd.heap_39 w.params).In h₀) (T : Top topProg LL mean mg mb h₀) (C27 : CodeHd h₀ 27 23) (C20 : CodeHd h₀ 20 16)
    {Dn cn Df cf Do : Nat} {co : Nat} {ys us vs : List Value} {os : List Int} {ms : List Int} {o1 o2 o3 o4 : Obj} {v4 : Option Value} {tw tM : Tok} {M : Int} {p23 p16 : Array Value} (F : Fr h₀ L s.heap (fun y => if y = Str.ofString "near" then some (Value.int M tM) else if y = Str.ofString "order" then some (Value.ref Do) else m y))
    (N : News h₀ L s.heap [(Do, listOf (vs : List Value).toArray co), (Df, listOf us.toArray cf), (Dn, listOf ys.toArray cn), (L + 1 + 1 + 1 + 1, o4), (L + 1 + 1 + 1, o3), (L + 1 + 1, o2), (L + 1, o1), (23, tabObj p23), (16, tabObj p16)])
    (d1 : o1.data = .cell (some (.ref Dn))) (d2 : o2.data = .cell (some (.ref Df))) (d3 : o3.data = .cell (some (.int ms.sum tw))) (d4 : o4.data = .cell v4) (hi : IntsAre ys ms) (hus : IntsAre us (mv ms)) (hos : IntsAre vs os) (hOrd : Ord ms (2 ^ ms.length) os) (hMm : M ∈ List.map (fun x => if ms.sum - 2 * x < 0 then -(ms.sum - 2 * x) else ms.sum - 2 * x) os) (hMb : ∀ a ∈ List.map (fun x => if ms.sum - 2 * x < 0 then -(ms.sum - 2 * x) else ms.sum - 2 * x) os, M ≤ a) (hb : ∀ n ∈ ms, 1 ≤ n ∧ n ≤ 12) (hl : ms.length ≤ 8)
    (hL : @LT.lt Nat _ 23 L) (hD1 : @Ne Nat (L + 1 + 1) Dn) (hD2 : @Ne Nat (L + 1 + 1 + 1) Dn) (hD3 : @Ne Nat (L + 1 + 1 + 1 + 1) Dn) (hD4 : @Ne Nat 23 Dn) (hD5 : @Ne Nat 16 Dn)
    (hf1 : @Ne Nat Dn Df) (hf2 : @Ne Nat (L + 1 + 1 + 1 + 1) Df) (hf3 : @Ne Nat (L + 1 + 1 + 1) Df) (hf4 : @Ne Nat (L + 1 + 1) Df) (hf5 : @Ne Nat (L + 1) Df) (hf6 : @Ne Nat 23 Df) (hf7 : @Ne Nat 16 Df)
    (ho1 : @LT.lt Nat _ Df Do) (ho2 : @LT.lt Nat _ Dn Do) (ho3 : @LT.lt Nat _ (L + 1 + 1 + 1 + 1) Do)
    (hE : PassesOwn (model PySem.Challenge.rw_hd0003_01.row.prog w) (callerA.deeper (envOfC (Str.ofString "law") lawScope L fa cd)) (envOfC (Str.ofString "law") lawScope L fa cd) E) (hQ : LawQ h₀ L s Q) :
    wpAny (model PySem.Challenge.rw_hd0003_01.row.prog w) (callerA.deeper (envOfC (Str.ofString "law") lawScope L fa cd)) (execs (lawStmts.drop 10) (envOfC (Str.ofString "law") lawScope L fa cd)) Q E s := by
  w_top off
  delta LL at T
  dsimp only [lawStmts, lawScope, lawDef, PySem.Challenge.pw_hd0003_01, List.getD, List.getElem?_cons_succ, List.getElem?_cons_zero, Option.getD_some, List.drop]
  have hMk := kstMark
  have hul := hi.length
  have hfit : ms.length < 2 ^ 62 := by omega
  have hul2 := hus.length
  have hml := mv_len hb
  have hsb := sum_b hb hl
  have hfit2 : (mv ms).length < 2 ^ 62 := by omega
  have hflen : 1 ≤ (mv ms).length ∧ (mv ms).length ≤ 150 := by omega
  have hob := ord_b hb hl hOrd
  have hosl := ord_len hb hl hOrd
  have hwb : 0 ≤ ms.sum.fdiv 2 ∧ ms.sum.fdiv 2 < ((mv ms).length : Int) ∧ (mv ms).length < 2 ^ 62 := by
    rw [Int.fdiv_eq_ediv_of_nonneg _ (by decide)]; omega
  have hE3 := near_max hb hl hOrd hMm hMb
  have hE4 := near_par hMm
  have hE1 := near_even hb hl hOrd hMm hMb
  have hE2 := near_odd hMm
  walk_at "MINE steps"
  · (rename Fr _ _ _ _ => F9); (rename News _ _ _ _ => N9)
    rw [show (M.fmod 2 == ms.sum.fmod 2) = true by rw [hE4]; exact beq_self_eq_true _]
    exact hQ _ _ _ _ p23 p16 F9 N9 (by k_mem) (by k_mem)
  · rename_i hb9 hno; exact absurd (hE3 _ hb9) hno
  · rename_i hev _ hno
    refine absurd hno ?_
    have h9 := hE1 hev
    by_cases h : M = 0
    · rw [h9.mp h, h]; decide
    · have h2 : ¬ (mv ms).getD (ms.sum.fdiv 2).toNat 0 = 1 := fun q => h (h9.mpr q)
      rw [beq_eq_false_iff_ne.mpr h, beq_eq_false_iff_ne.mpr h2]; decide
  · (rename Fr _ _ _ _ => F9); (rename News _ _ _ _ => N9)
    rw [show (M.fmod 2 == ms.sum.fmod 2) = true by rw [hE4]; exact beq_self_eq_true _]
    exact hQ _ _ _ _ p23 p16 F9 N9 (by k_mem) (by k_mem)
  · rename_i hb9 hno; exact absurd (hE3 _ hb9) hno
  · rename_i hod hno
    refine absurd hno ?_
    rw [beq_eq_false_iff_ne.mpr (hE2 hod), beq_eq_false_iff_ne.mpr hod]; decide
end
section
local macro_rules | `(tactic| walk_at "MINE pad") => `(tactic| skip)
local macro_rules | `(tactic| walk_at "MINE steps") => `(tactic| repeat' (first | (k_unfold; (try dsimp only)) | (k_end; wrow_close) | ((fail_if_success (with_reducible show wpAny _ _ (call (Value.ref _) _) _ _ _)); (fail_if_success (with_reducible show wpAny _ _ (execs (Stmt.For _ _ _ _ _ :: _) _) _ _ _)); (fail_if_success (with_reducible show wpAny _ _ (execs (Stmt.Assign [Expr.Name (Str.ofString "near") _] _ _ :: _) _) _ _ _)); (fail_if_success (with_reducible show wpAny _ _ (execs (Stmt.If (Expr.BoolOp _ _ _) _ _ _ :: _) _) _ _ _));  walk1) | (dsimp only; (fail_if_success (with_reducible show wpAny _ _ (call (Value.ref _) _) _ _ _)); (fail_if_success (with_reducible show wpAny _ _ (execs (Stmt.For _ _ _ _ _ :: _) _) _ _ _)); (fail_if_success (with_reducible show wpAny _ _ (execs (Stmt.Assign [Expr.Name (Str.ofString "near") _] _ _ :: _) _) _ _ _)); (fail_if_success (with_reducible show wpAny _ _ (execs (Stmt.If (Expr.BoolOp _ _ _) _ _ _ :: _) _) _ _ _));  walk1) | (leave1; walk_say "STEP leave1"; try dsimp only) | fail "no step"))
local macro_rules | `(tactic| walk_at "KCiEl") => `(tactic| (refine kci_el ?kce rfl rfl; (case kce => (refine if_pos ?_; with_reducible assumption))))
local macro_rules | `(tactic| walk_at "KCiNo") => `(tactic| (refine kci_no ?kce rfl; (case kce => (refine if_neg ?_; with_reducible assumption))))
local macro_rules | `(tactic| walk_at "CompEnd") => `(tactic| (refine LCg.CompEnd.intro ?f ?n _ (fun p hp => hp) ?o trivial ?_; (case f => with_reducible assumption); (case n => with_reducible assumption); (case o => with_reducible assumption)))
local macro_rules | `(tactic| walk_at "CompSrcT") => `(tactic| refine Parked.mk ?_)
local macro_rules | `(tactic| walk_at "CompSrc") => `(tactic| refine Parked.mk ?_)
local macro_rules | `(tactic| walk_at "binaryOp Mult int int") => `(tactic| (k_here; refine' mul_int ?_ ?hm; (case hm => with_reducible assumption)))
local macro_rules | `(tactic| walk_at "MINE steps") => `(tactic| repeat' (first | (k_unfold; (try dsimp only)) | (k_end; wrow_close) | ((fail_if_success (with_reducible show wpAny _ _ (call (Value.ref _) _) _ _ _)); walk1) | (dsimp only; (fail_if_success (with_reducible show wpAny _ _ (call (Value.ref _) _) _ _ _)); walk1) | (leave1; walk_say "STEP leave1"; try dsimp only) | fail "no step"))
set_option maxRecDepth 100000 in
set_option maxHeartbeats 400000 in
theorem law_9 {w : World} {mean : ExcName → Option Value} {mg mb : Str → Option Value} {fa : Addr} {cd : Value} {h₀ : Heap} {L : Addr} {m : Str → Option Value} {s : Shared} {Q : Flow → Shared → Prop} {E : Value → Shared → Prop}
    (B : Below callerA h₀ [] h₀) (X : (hd.heap_39 w.params).In h₀) (T : Top topProg LL mean mg mb h₀) (C27 : CodeHd h₀ 27 23) (C20 : CodeHd h₀ 20 16)
    {Dn cn Df cf Do : Nat} {co : Nat} {ys us vs : List Value} {os : List Int} {ms : List Int} {o1 o2 o3 o4 : Obj} {v4 : Option Value} {tw tM : Tok} {M : Int} {p23 p16 : Array Value} (F : Fr h₀ L s.heap (fun y => if y = Str.ofString "near" then some (Value.int M tM) else if y = Str.ofString "order" then some (Value.ref Do) else m y))
    (N : News h₀ L s.heap [(Do, listOf (vs : List Value).toArray co), (Df, listOf us.toArray cf), (Dn, listOf ys.toArray cn), (L + 1 + 1 + 1 + 1, o4), (L + 1 + 1 + 1, o3), (L + 1 + 1, o2), (L + 1, o1), (23, tabObj p23), (16, tabObj p16)])
    (d1 : o1.data = .cell (some (.ref Dn))) (d2 : o2.data = .cell (some (.ref Df))) (d3 : o3.data = .cell (some (.int ms.sum tw))) (d4 : o4.data = .cell v4) (hi : IntsAre ys ms) (hus : IntsAre us (mv ms)) (hos : IntsAre vs os) (hOrd : Ord ms (2 ^ ms.length) os) (hMm : M ∈ List.map (fun x => if ms.sum - 2 * x < 0 then -(ms.sum - 2 * x) else ms.sum - 2 * x) os) (hMb : ∀ a ∈ List.map (fun x => if ms.sum - 2 * x < 0 then -(ms.sum - 2 * x) else ms.sum - 2 * x) os, M ≤ a) (hb : ∀ n ∈ ms, 1 ≤ n ∧ n ≤ 12) (hl : ms.length ≤ 8)
    (hL : @LT.lt Nat _ 23 L) (hD1 : @Ne Nat (L + 1 + 1) Dn) (hD2 : @Ne Nat (L + 1 + 1 + 1) Dn) (hD3 : @Ne Nat (L + 1 + 1 + 1 + 1) Dn) (hD4 : @Ne Nat 23 Dn) (hD5 : @Ne Nat 16 Dn)
    (hf1 : @Ne Nat Dn Df) (hf2 : @Ne Nat (L + 1 + 1 + 1 + 1) Df) (hf3 : @Ne Nat (L + 1 + 1 + 1) Df) (hf4 : @Ne Nat (L + 1 + 1) Df) (hf5 : @Ne Nat (L + 1) Df) (hf6 : @Ne Nat 23 Df) (hf7 : @Ne Nat 16 Df)
    (ho1 : @LT.lt Nat _ Df Do) (ho2 : @LT.lt Nat _ Dn Do) (ho3 : @LT.lt Nat _ (L + 1 + 1 + 1 + 1) Do)
    (hE : PassesOwn (model PySem.Challenge.rw_hd0003_01.row.prog w) (callerA.deeper (envOfC (Str.ofString "law") lawScope L fa cd)) (envOfC (Str.ofString "law") lawScope L fa cd) E) (hQ : LawQ h₀ L s Q) :
    wpAny (model PySem.Challenge.rw_hd0003_01.row.prog w) (callerA.deeper (envOfC (Str.ofString "law") lawScope L fa cd)) (execs (lawStmts.drop 9) (envOfC (Str.ofString "law") lawScope L fa cd)) Q E s := by
  w_top off
  delta LL at T
  dsimp only [lawStmts, lawScope, lawDef, PySem.Challenge.pw_hd0003_01, List.getD, List.getElem?_cons_succ, List.getElem?_cons_zero, Option.getD_some, List.drop]
  have hMk := kstMark
  have hul := hi.length
  have hfit : ms.length < 2 ^ 62 := by omega
  have hul2 := hus.length
  have hml := mv_len hb
  have hsb := sum_b hb hl
  have hfit2 : (mv ms).length < 2 ^ 62 := by omega
  have hflen : 1 ≤ (mv ms).length ∧ (mv ms).length ≤ 150 := by omega
  have hob := ord_b hb hl hOrd
  have hosl := ord_len hb hl hOrd
  walk1
  refine wpAny_For ?_
  walk_at "MINE steps"
  (rename Fr _ _ _ _ => F2); (rename News _ _ _ _ => N2)
  refine iter_led (vs := vs) (ns := os) (c := co) (l := Do) (L := L) (fun i m' nx => nx = [(Do, listOf (vs : List Value).toArray co), (Df, listOf us.toArray cf), (Dn, listOf ys.toArray cn), (L + 1 + 1 + 1 + 1, o4), (L + 1 + 1 + 1, o3), (L + 1 + 1, o2), (L + 1, o1), (23, tabObj p23), (16, tabObj p16)] ∧ m' (Str.ofString "order") = some (.ref Do) ∧ m' (Str.ofString "near") = some (.int M tM)) rfl ?hJ hos F2 N2 ?h0 ?turn ?hR hE
  case hJ => rintro i m' nx ⟨rfl, _⟩; exact .head _
  case h0 => exact ⟨rfl, rfl, rfl⟩
  case turn =>
    rintro i n t m₁ nx I oI h tk hni hnI ⟨rfl, hmo, hmn⟩ F4 N4
    have F5 := fr_named (fr_named F4 hmn) (b := Str.ofString "order") (by rw [if_neg (by decide)]; exact hmo)
    clear F4 F2 N2
    have hmem := List.mem_of_getElem? hni
    refine wpAny_assign_Name ?_
    walk_at "MINE steps"
    (rename Fr _ _ _ _ => F6); (rename News _ _ _ _ => N6)
    refine bis_spec w mean mg mb Do vs os co _ _ _ (.tail _ (.head _)) hos (by omega) (ord_sorted hOrd) _ _ _ _ _ _ _ _ _ _ _ _ _ _ _ _ _ B F6 X N6 T rfl C27 C20 ?hd ?hu ?_
    case hd => decide
    case hu => decide
    rintro r nx h10 tk10 F10 N10 ⟨p, tp, rfl, rfl, hBis⟩
    have hfd := ord_other hb hl hOrd hmem hBis
    have hosf : os.length < 2 ^ 62 := by omega
    have hpb : p ≠ (os.length : Int) → 0 ≤ p ∧ p < (os.length : Int) ∧ os.length < 2 ^ 62 := fun hne => ⟨hBis.1, by have := hBis.2.1; omega, hosf⟩
    walk_at "MINE steps"
    · rename_i hh; exact absurd hh hfd.1
    · rename_i hh0 _ hh; exact absurd hfd.2 hh
    · (rename Fr _ _ _ _ => F11); (rename News _ _ _ _ => N11)
      exact ⟨_, _, _, _, _, rfl, F11, N11, fun p hp => .tail _ hp, .head _, hnI, ⟨rfl, rfl, rfl⟩⟩
  case hR =>
    rintro h' tk' m' nx F4 N4 ⟨rfl, hmo, hmn⟩
    have F6 := fr_named (fr_named F4 hmo) (b := Str.ofString "near") (by rw [if_neg (by decide)]; exact hmn)
    refine law_10 (s := { heap := h', gens := s.gens, drawn := s.drawn, toks := tk', os := s.os }) (tw := tw) B X T C27 C20 F6 N4 d1 d2 d3 d4 hi hus hos hOrd hMm hMb hb hl hL hD1 hD2 hD3 hD4 hD5 hf1 hf2 hf3 hf4 hf5 hf6 hf7 ho1 ho2 ho3 hE (fun a b c d e f g h i j => hQ a b c d e f g h i j)
end
section
local macro_rules | `(tactic| walk_at "MINE pad") => `(tactic| skip)
local macro_rules | `(tactic| walk_at "MINE pad") => `(tactic| skip)
local macro_rules | `(tactic| walk_at "MINE pad") => `(tactic| skip)
local macro_rules | `(tactic| walk_at "MINE steps") => `(tactic| repeat' (first | (k_unfold; (try dsimp only)) | (k_end; wrow_close) | ((fail_if_success (with_reducible show wpAny _ _ (call (Value.ref _) _) _ _ _)); (fail_if_success (with_reducible show wpAny _ _ (execs (Stmt.For _ _ _ _ _ :: _) _) _ _ _)); (fail_if_success (with_reducible show wpAny _ _ (execs (Stmt.Assign [Expr.Name (Str.ofString "near") _] _ _ :: _) _) _ _ _)); (fail_if_success (with_reducible show wpAny _ _ (execs (Stmt.If (Expr.BoolOp _ _ _) _ _ _ :: _) _) _ _ _));  walk1) | (dsimp only; (fail_if_success (with_reducible show wpAny _ _ (call (Value.ref _) _) _ _ _)); (fail_if_success (with_reducible show wpAny _ _ (execs (Stmt.For _ _ _ _ _ :: _) _) _ _ _)); (fail_if_success (with_reducible show wpAny _ _ (execs (Stmt.Assign [Expr.Name (Str.ofString "near") _] _ _ :: _) _) _ _ _)); (fail_if_success (with_reducible show wpAny _ _ (execs (Stmt.If (Expr.BoolOp _ _ _) _ _ _ :: _) _) _ _ _));  walk1) | (leave1; walk_say "STEP leave1"; try dsimp only) | fail "no step"))
local macro_rules | `(tactic| walk_at "KCiEl") => `(tactic| (refine kci_el ?kce rfl rfl; (case kce => (refine if_pos ?_; with_reducible assumption))))
local macro_rules | `(tactic| walk_at "KCiNo") => `(tactic| (refine kci_no ?kce rfl; (case kce => (refine if_neg ?_; with_reducible assumption))))
local macro_rules | `(tactic| walk_at "CompEnd") => `(tactic| (refine LCg.CompEnd.intro ?f ?n _ (fun p hp => hp) ?o trivial ?_; (case f => with_reducible assumption); (case n => with_reducible assumption); (case o => with_reducible assumption)))
local macro_rules | `(tactic| walk_at "CompSrcT") => `(tactic| refine Parked.mk ?_)
local macro_rules | `(tactic| walk_at "CompSrc") => `(tactic| refine Parked.mk ?_)
local macro_rules | `(tactic| walk_at "binaryOp Mult int int") => `(tactic| (k_here; refine' mul_int ?_ ?hm; (case hm => with_reducible assumption)))
set_option maxRecDepth 100000 in
set_option maxHeartbeats 400000 in
theorem law_8 {w : World} {mean : ExcName → Option Value} {mg mb : Str → Option Value} {fa : Addr} {cd : Value} {h₀ : Heap} {L : Addr} {m : Str → Option Value} {s : Shared} {Q : Flow → Shared → Prop} {E : Value → Shared → Prop}
    (B : Below callerA h₀ [] h₀) (X : (hd.heap_39 w.params).In h₀) (T : Top topProg LL mean mg mb h₀) (C27 : CodeHd h₀ 27 23) (C20 : CodeHd h₀ 20 16)
    {Dn cn Df cf Do : Nat} {co : Nat} {ys us vs : List Value} {os : List Int} {ms : List Int} {o1 o2 o3 o4 : Obj} {v4 : Option Value} {tw : Tok} {p23 p16 : Array Value} (F : Fr h₀ L s.heap (fun y => if y = Str.ofString "order" then some (Value.ref Do) else m y))
    (N : News h₀ L s.heap [(Do, listOf (vs : List Value).toArray co), (Df, listOf us.toArray cf), (Dn, listOf ys.toArray cn), (L + 1 + 1 + 1 + 1, o4), (L + 1 + 1 + 1, o3), (L + 1 + 1, o2), (L + 1, o1), (23, tabObj p23), (16, tabObj p16)])
    (d1 : o1.data = .cell (some (.ref Dn))) (d2 : o2.data = .cell (some (.ref Df))) (d3 : o3.data = .cell (some (.int ms.sum tw))) (d4 : o4.data = .cell v4) (hi : IntsAre ys ms) (hus : IntsAre us (mv ms)) (hos : IntsAre vs os) (hOrd : Ord ms (2 ^ ms.length) os) (hb : ∀ n ∈ ms, 1 ≤ n ∧ n ≤ 12) (hl : ms.length ≤ 8)
    (hL : @LT.lt Nat _ 23 L) (hD1 : @Ne Nat (L + 1 + 1) Dn) (hD2 : @Ne Nat (L + 1 + 1 + 1) Dn) (hD3 : @Ne Nat (L + 1 + 1 + 1 + 1) Dn) (hD4 : @Ne Nat 23 Dn) (hD5 : @Ne Nat 16 Dn)
    (hf1 : @Ne Nat Dn Df) (hf2 : @Ne Nat (L + 1 + 1 + 1 + 1) Df) (hf3 : @Ne Nat (L + 1 + 1 + 1) Df) (hf4 : @Ne Nat (L + 1 + 1) Df) (hf5 : @Ne Nat (L + 1) Df) (hf6 : @Ne Nat 23 Df) (hf7 : @Ne Nat 16 Df)
    (ho1 : @LT.lt Nat _ Df Do) (ho2 : @LT.lt Nat _ Dn Do) (ho3 : @LT.lt Nat _ (L + 1 + 1 + 1 + 1) Do)
    (hE : PassesOwn (model PySem.Challenge.rw_hd0003_01.row.prog w) (callerA.deeper (envOfC (Str.ofString "law") lawScope L fa cd)) (envOfC (Str.ofString "law") lawScope L fa cd) E) (hQ : LawQ h₀ L s Q) :
    wpAny (model PySem.Challenge.rw_hd0003_01.row.prog w) (callerA.deeper (envOfC (Str.ofString "law") lawScope L fa cd)) (execs (lawStmts.drop 8) (envOfC (Str.ofString "law") lawScope L fa cd)) Q E s := by
  w_top off
  delta LL at T
  dsimp only [lawStmts, lawScope, lawDef, PySem.Challenge.pw_hd0003_01, List.getD, List.getElem?_cons_succ, List.getElem?_cons_zero, Option.getD_some, List.drop]
  have hMk := kstMark
  have hul := hi.length
  have hfit : ms.length < 2 ^ 62 := by omega
  have hul2 := hus.length
  have hml := mv_len hb
  have hsb := sum_b hb hl
  have hfit2 : (mv ms).length < 2 ^ 62 := by omega
  have hflen : 1 ≤ (mv ms).length ∧ (mv ms).length ≤ 150 := by omega
  have hob := ord_b hb hl hOrd
  have hosl := ord_len hb hl hOrd
  walk1
  walk_at "MINE steps"
  unfold Parked
  (rename Fr _ _ _ _ => F7); (rename News _ _ _ _ => N7)
  refine LCg.CompSrc.ledger rfl F7 N7 (.head _) (by rw [sizeLine_eq, List.size_toArray, hos.length]; omega) ?_
  intro g7
  refine kcf_list (fun x => if ms.sum - 2 * x < 0 then -(ms.sum - 2 * x) else ms.sum - 2 * x) hos (fun k' t' I' oI' C' oC' D' m' ys' h' tk' E' hk' hC' hx' F' N' off' ne' hMark' => ?_) ?fin
  · have hkb := hob k' hk'
    have hmul : IntMulOk 2 k' := mulok hkb
    walk_at "MINE steps"
  · walk1
    walk_at "MINE steps"
    (rename Fr _ _ _ _ => F8); (rename News _ _ _ _ => N8)
    rename_i M _ _ hMm hMb _
    refine law_9 (s := { heap := _, gens := s.gens, drawn := s.drawn, toks := _, os := s.os }) B X T C27 C20 F8 (newsTail N8) d1 d2 d3 d4 hi hus hos hOrd hMm hMb hb hl hL hD1 hD2 hD3 hD4 hD5 hf1 hf2 hf3 hf4 hf5 hf6 hf7 ho1 ho2 ho3 hE (fun a b c d e f g h i j => hQ a b c d e f g h i j)
end
section
local macro_rules | `(tactic| walk_at "MINE pad") => `(tactic| skip)
local macro_rules | `(tactic| walk_at "MINE pad") => `(tactic| skip)
local macro_rules | `(tactic| walk_at "MINE pad") => `(tactic| skip)
local macro_rules | `(tactic| walk_at "MINE pad") => `(tactic| skip)
local macro_rules | `(tactic| walk_at "MINE pad") => `(tactic| skip)
local macro_rules | `(tactic| walk_at "MINE pad") => `(tactic| skip)
local macro_rules | `(tactic| walk_at "MINE steps") => `(tactic| repeat' (first | (k_unfold; (try dsimp only)) | (k_end; wrow_close) | ((fail_if_success (with_reducible show wpAny _ _ (call (Value.ref _) _) _ _ _)); (fail_if_success (with_reducible show wpAny _ _ (execs (Stmt.For _ _ _ _ _ :: _) _) _ _ _)); (fail_if_success (with_reducible show wpAny _ _ (execs (Stmt.Assign [Expr.Name (Str.ofString "near") _] _ _ :: _) _) _ _ _)); (fail_if_success (with_reducible show wpAny _ _ (execs (Stmt.If (Expr.BoolOp _ _ _) _ _ _ :: _) _) _ _ _));  walk1) | (dsimp only; (fail_if_success (with_reducible show wpAny _ _ (call (Value.ref _) _) _ _ _)); (fail_if_success (with_reducible show wpAny _ _ (execs (Stmt.For _ _ _ _ _ :: _) _) _ _ _)); (fail_if_success (with_reducible show wpAny _ _ (execs (Stmt.Assign [Expr.Name (Str.ofString "near") _] _ _ :: _) _) _ _ _)); (fail_if_success (with_reducible show wpAny _ _ (execs (Stmt.If (Expr.BoolOp _ _ _) _ _ _ :: _) _) _ _ _));  walk1) | (leave1; walk_say "STEP leave1"; try dsimp only) | fail "no step"))
local macro_rules | `(tactic| walk_at "KCiEl") => `(tactic| (refine kci_el ?kce rfl rfl; (case kce => (refine if_pos ?_; with_reducible assumption))))
local macro_rules | `(tactic| walk_at "KCiNo") => `(tactic| (refine kci_no ?kce rfl; (case kce => (refine if_neg ?_; with_reducible assumption))))
local macro_rules | `(tactic| walk_at "CompEnd") => `(tactic| (refine LCg.CompEnd.intro ?f ?n _ (fun p hp => hp) ?o trivial ?_; (case f => with_reducible assumption); (case n => with_reducible assumption); (case o => with_reducible assumption)))
local macro_rules | `(tactic| walk_at "CompSrcT") => `(tactic| refine Parked.mk ?_)
set_option maxRecDepth 100000 in
set_option maxHeartbeats 400000 in
theorem law_7 {w : World} {mean : ExcName → Option Value} {mg mb : Str → Option Value} {fa : Addr} {cd : Value} {h₀ : Heap} {L : Addr} {m : Str → Option Value} {s : Shared} {Q : Flow → Shared → Prop} {E : Value → Shared → Prop}
    (B : Below callerA h₀ [] h₀) (X : (hd.heap_39 w.params).In h₀) (T : Top topProg LL mean mg mb h₀) (C27 : CodeHd h₀ 27 23) (C20 : CodeHd h₀ 20 16)
    {Dn cn Df cf Do : Nat} {co : Nat} {ys us vs : List Value} {os : List Int} {ms : List Int} {o1 o2 o3 o4 : Obj} {v4 : Option Value} {tw : Tok} {p23 p16 : Array Value} (F : Fr h₀ L s.heap (fun y => if y = Str.ofString "order" then some (Value.ref Do) else m y))
    (N : News h₀ L s.heap [(Do, listOf (vs : List Value).toArray co), (Df, listOf us.toArray cf), (Dn, listOf ys.toArray cn), (L + 1 + 1 + 1 + 1, o4), (L + 1 + 1 + 1, o3), (L + 1 + 1, o2), (L + 1, o1), (23, tabObj p23), (16, tabObj p16)])
    (d1 : o1.data = .cell (some (.ref Dn))) (d2 : o2.data = .cell (some (.ref Df))) (d3 : o3.data = .cell (some (.int ms.sum tw))) (d4 : o4.data = .cell v4) (hi : IntsAre ys ms) (hus : IntsAre us (mv ms)) (hos : IntsAre vs os) (hOrd : Ord ms (2 ^ ms.length) os) (hb : ∀ n ∈ ms, 1 ≤ n ∧ n ≤ 12) (hl : ms.length ≤ 8)
    (hL : @LT.lt Nat _ 23 L) (hD1 : @Ne Nat (L + 1 + 1) Dn) (hD2 : @Ne Nat (L + 1 + 1 + 1) Dn) (hD3 : @Ne Nat (L + 1 + 1 + 1 + 1) Dn) (hD4 : @Ne Nat 23 Dn) (hD5 : @Ne Nat 16 Dn)
    (hf1 : @Ne Nat Dn Df) (hf2 : @Ne Nat (L + 1 + 1 + 1 + 1) Df) (hf3 : @Ne Nat (L + 1 + 1 + 1) Df) (hf4 : @Ne Nat (L + 1 + 1) Df) (hf5 : @Ne Nat (L + 1) Df) (hf6 : @Ne Nat 23 Df) (hf7 : @Ne Nat 16 Df)
    (ho1 : @LT.lt Nat _ Df Do) (ho2 : @LT.lt Nat _ Dn Do) (ho3 : @LT.lt Nat _ (L + 1 + 1 + 1 + 1) Do)
    (hE : PassesOwn (model PySem.Challenge.rw_hd0003_01.row.prog w) (callerA.deeper (envOfC (Str.ofString "law") lawScope L fa cd)) (envOfC (Str.ofString "law") lawScope L fa cd) E) (hQ : LawQ h₀ L s Q) :
    wpAny (model PySem.Challenge.rw_hd0003_01.row.prog w) (callerA.deeper (envOfC (Str.ofString "law") lawScope L fa cd)) (execs (lawStmts.drop 7) (envOfC (Str.ofString "law") lawScope L fa cd)) Q E s := by
  w_top off
  delta LL at T
  dsimp only [lawStmts, lawScope, lawDef, PySem.Challenge.pw_hd0003_01, List.getD, List.getElem?_cons_succ, List.getElem?_cons_zero, Option.getD_some, List.drop]
  have hMk := kstMark
  have hul := hi.length
  have hfit : ms.length < 2 ^ 62 := by omega
  have hul2 := hus.length
  have hml := mv_len hb
  have hsb := sum_b hb hl
  have hfit2 : (mv ms).length < 2 ^ 62 := by omega
  have hflen : 1 ≤ (mv ms).length ∧ (mv ms).length ≤ 150 := by omega
  have hS1 := mv_sum_lo hb
  have hS2 := mv_sum_hi hb
  have hS3 := mv_sum_b hb hl
  walk1
  walk_at "MINE steps"
  (rename Fr _ _ _ _ => F9); (rename News _ _ _ _ => N9); (rename IntsAre _ _ => hrv)
  refine moved_spec w mean mg mb _ _ _ _ _ (.head _) hrv (b5 hb) (by rw [List.length_append]; simp only [List.length_cons, List.length_nil]; omega) _ _ _ _ _ _ _ _ _ _ _ _ _ _ _ _ _ B F9 X N9 T rfl C27 C20 ?hd ?hu ?_
  case hd => decide
  case hu => decide
  rintro r nx h2 tk2 F2 N2 ⟨Dr, us4, c4, rfl, rfl, hus4, hne⟩
  clear hne
  have hml5 := mv_len (b5 hb)
  have hs5 : (ms ++ [5]).sum = ms.sum + 5 := by simp
  have hul5 := hus4.length
  have hfit5 : (mv (ms ++ [5])).length < 2 ^ 62 := by omega
  walk_at "MINE steps"
  (rename Fr _ _ _ _ => F3); (rename News _ _ _ _ => N3)
  refine law_8 (s := { heap := _, gens := s.gens, drawn := s.drawn, toks := _, os := s.os }) B X T C27 C20 F3 (newsTail (newsTail (newsTail N3))) d1 d2 d3 d4 hi hus hos hOrd hb hl hL hD1 hD2 hD3 hD4 hD5 hf1 hf2 hf3 hf4 hf5 hf6 hf7 ho1 ho2 ho3 hE (fun a b c d e f g h i j => hQ a b c d e f g h i j)
end
section
local macro_rules | `(tactic| walk_at "MINE pad") => `(tactic| skip)
local macro_rules | `(tactic| walk_at "MINE pad") => `(tactic| skip)
local macro_rules | `(tactic| walk_at "MINE pad") => `(tactic| skip)
local macro_rules | `(tactic| walk_at "MINE pad") => `(tactic| skip)
local macro_rules | `(tactic| walk_at "MINE pad") => `(tactic| skip)
local macro_rules | `(tactic| walk_at "MINE pad") => `(tactic| skip)
local macro_rules | `(tactic| walk_at "MINE pad") => `(tactic| skip)
local macro_rules | `(tactic| walk_at "MINE steps") => `(tactic| repeat' (first | (k_unfold; (try dsimp only)) | (k_end; wrow_close) | ((fail_if_success (with_reducible show wpAny _ _ (call (Value.ref _) _) _ _ _)); (fail_if_success (with_reducible show wpAny _ _ (execs (Stmt.For _ _ _ _ _ :: _) _) _ _ _)); (fail_if_success (with_reducible show wpAny _ _ (execs (Stmt.If (Expr.BoolOp _ _ _) _ _ _ :: _) _) _ _ _));  walk1) | (dsimp only; (fail_if_success (with_reducible show wpAny _ _ (call (Value.ref _) _) _ _ _)); (fail_if_success (with_reducible show wpAny _ _ (execs (Stmt.For _ _ _ _ _ :: _) _) _ _ _)); (fail_if_success (with_reducible show wpAny _ _ (execs (Stmt.If (Expr.BoolOp _ _ _) _ _ _ :: _) _) _ _ _));  walk1) | (leave1; walk_say "STEP leave1"; try dsimp only) | fail "no step"))
local macro_rules | `(tactic| walk_at "KCiEl") => `(tactic| (refine kci_el ?kce rfl rfl; (case kce => (refine if_pos ?_; with_reducible assumption))))
local macro_rules | `(tactic| walk_at "KCiNo") => `(tactic| (refine kci_no ?kce rfl; (case kce => (refine if_neg ?_; with_reducible assumption))))
local macro_rules | `(tactic| walk_at "CompEnd") => `(tactic| (refine LCg.CompEnd.intro ?f ?n _ (fun p hp => hp) ?o trivial ?_; (case f => with_reducible assumption); (case n => with_reducible assumption); (case o => with_reducible assumption)))
local macro_rules | `(tactic| walk_at "CompSrcT") => `(tactic| refine Parked.mk ?_)
set_option maxRecDepth 100000 in
set_option maxHeartbeats 400000 in
theorem law_6 {w : World} {mean : ExcName → Option Value} {mg mb : Str → Option Value} {fa : Addr} {cd : Value} {h₀ : Heap} {L : Addr} {m : Str → Option Value} {s : Shared} {Q : Flow → Shared → Prop} {E : Value → Shared → Prop}
    (B : Below callerA h₀ [] h₀) (X : (hd.heap_39 w.params).In h₀) (T : Top topProg LL mean mg mb h₀) (C27 : CodeHd h₀ 27 23) (C20 : CodeHd h₀ 20 16)
    {Dn cn Df cf Do : Nat} {co : Nat} {ys us vs : List Value} {os : List Int} {ms : List Int} {o1 o2 o3 o4 : Obj} {v4 : Option Value} {tw : Tok} {p23 p16 : Array Value} (F : Fr h₀ L s.heap (fun y => if y = Str.ofString "order" then some (Value.ref Do) else m y))
    (N : News h₀ L s.heap [(Do, listOf (vs : List Value).toArray co), (Df, listOf us.toArray cf), (Dn, listOf ys.toArray cn), (L + 1 + 1 + 1 + 1, o4), (L + 1 + 1 + 1, o3), (L + 1 + 1, o2), (L + 1, o1), (23, tabObj p23), (16, tabObj p16)])
    (d1 : o1.data = .cell (some (.ref Dn))) (d2 : o2.data = .cell (some (.ref Df))) (d3 : o3.data = .cell (some (.int ms.sum tw))) (d4 : o4.data = .cell v4) (hi : IntsAre ys ms) (hus : IntsAre us (mv ms)) (hos : IntsAre vs os) (hOrd : Ord ms (2 ^ ms.length) os) (hb : ∀ n ∈ ms, 1 ≤ n ∧ n ≤ 12) (hl : ms.length ≤ 8)
    (hL : @LT.lt Nat _ 23 L) (hD1 : @Ne Nat (L + 1 + 1) Dn) (hD2 : @Ne Nat (L + 1 + 1 + 1) Dn) (hD3 : @Ne Nat (L + 1 + 1 + 1 + 1) Dn) (hD4 : @Ne Nat 23 Dn) (hD5 : @Ne Nat 16 Dn)
    (hf1 : @Ne Nat Dn Df) (hf2 : @Ne Nat (L + 1 + 1 + 1 + 1) Df) (hf3 : @Ne Nat (L + 1 + 1 + 1) Df) (hf4 : @Ne Nat (L + 1 + 1) Df) (hf5 : @Ne Nat (L + 1) Df) (hf6 : @Ne Nat 23 Df) (hf7 : @Ne Nat 16 Df)
    (ho1 : @LT.lt Nat _ Df Do) (ho2 : @LT.lt Nat _ Dn Do) (ho3 : @LT.lt Nat _ (L + 1 + 1 + 1 + 1) Do)
    (hE : PassesOwn (model PySem.Challenge.rw_hd0003_01.row.prog w) (callerA.deeper (envOfC (Str.ofString "law") lawScope L fa cd)) (envOfC (Str.ofString "law") lawScope L fa cd) E) (hQ : LawQ h₀ L s Q) :
    wpAny (model PySem.Challenge.rw_hd0003_01.row.prog w) (callerA.deeper (envOfC (Str.ofString "law") lawScope L fa cd)) (execs (lawStmts.drop 6) (envOfC (Str.ofString "law") lawScope L fa cd)) Q E s := by
  w_top off
  delta LL at T
  dsimp only [lawStmts, lawScope, lawDef, PySem.Challenge.pw_hd0003_01, List.getD, List.getElem?_cons_succ, List.getElem?_cons_zero, Option.getD_some, List.drop]
  have hMk := kstMark
  have hul := hi.length
  have hfit : ms.length < 2 ^ 62 := by omega
  have hul2 := hus.length
  have hml := mv_len hb
  have hsb := sum_b hb hl
  have hfit2 : (mv ms).length < 2 ^ 62 := by omega
  have hflen : 1 ≤ (mv ms).length ∧ (mv ms).length ≤ 150 := by omega
  walk1
  walk_at "MINE steps"
  (rename Fr _ _ _ _ => F8); (rename News _ _ _ _ => N8); (rename IntsAre _ _ => hso); (rename List.Perm _ _ => hpm)
  refine moved_spec w mean mg mb _ _ _ _ _ (.head _) hso (fun n hn => hb n (hpm.mem_iff.mp hn)) (by rw [hpm.length_eq]; omega) _ _ _ _ _ _ _ _ _ _ _ _ _ _ _ _ _ B F8 X N8 T rfl C27 C20 ?hd ?hu ?_
  case hd => decide
  case hu => decide
  rintro r nx h1 tk1 F1 N1 ⟨Ds, us3, c3, rfl, rfl, hus3, hne⟩
  clear hne
  rw [mv_perm hb hpm] at hus3
  walk_at "MINE steps"
  (rename Fr _ _ _ _ => F9); (rename News _ _ _ _ => N9); (rename IntsAre _ _ => hrv)
  refine moved_spec w mean mg mb _ _ _ _ _ (.head _) hrv (fun n hn => hb n (List.mem_reverse.mp hn)) (by rw [List.length_reverse]; omega) _ _ _ _ _ _ _ _ _ _ _ _ _ _ _ _ _ B F9 X N9 T rfl C27 C20 ?hd ?hu ?_
  case hd => decide
  case hu => decide
  rintro r nx h2 tk2 F2 N2 ⟨Dr, us4, c4, rfl, rfl, hus4, hne⟩
  clear hne
  rw [mv_perm hb (List.reverse_perm ms)] at hus4
  walk_at "MINE steps"
  refine law_7 (s := { heap := h2, gens := s.gens, drawn := s.drawn, toks := _, os := s.os }) B X T C27 C20 F2 (newsTail (newsTail (newsTail (newsTail N2)))) d1 d2 d3 d4 hi hus hos hOrd hb hl hL hD1 hD2 hD3 hD4 hD5 hf1 hf2 hf3 hf4 hf5 hf6 hf7 ho1 ho2 ho3 hE (fun a b c d e f g h i j => hQ a b c d e f g h i j)
end
section
local macro_rules | `(tactic| walk_at "MINE pad") => `(tactic| skip)
local macro_rules | `(tactic| walk_at "MINE pad") => `(tactic| skip)
local macro_rules | `(tactic| walk_at "MINE pad") => `(tactic| skip)
local macro_rules | `(tactic| walk_at "MINE pad") => `(tactic| skip)
local macro_rules | `(tactic| walk_at "MINE pad") => `(tactic| skip)
local macro_rules | `(tactic| walk_at "MINE pad") => `(tactic| skip)
local macro_rules | `(tactic| walk_at "MINE pad") => `(tactic| skip)
local macro_rules | `(tactic| walk_at "MINE pad") => `(tactic| skip)
local macro_rules | `(tactic| walk_at "MINE steps") => `(tactic| repeat' (first | (k_unfold; (try dsimp only)) | (k_end; wrow_close) | ((fail_if_success (with_reducible show wpAny _ _ (call (Value.ref _) _) _ _ _)); (fail_if_success (with_reducible show wpAny _ _ (execs (Stmt.For _ _ _ _ _ :: _) _) _ _ _)); (fail_if_success (with_reducible show wpAny _ _ (execs (Stmt.If (Expr.BoolOp _ _ _) _ _ _ :: _) _) _ _ _));  walk1) | (dsimp only; (fail_if_success (with_reducible show wpAny _ _ (call (Value.ref _) _) _ _ _)); (fail_if_success (with_reducible show wpAny _ _ (execs (Stmt.For _ _ _ _ _ :: _) _) _ _ _)); (fail_if_success (with_reducible show wpAny _ _ (execs (Stmt.If (Expr.BoolOp _ _ _) _ _ _ :: _) _) _ _ _));  walk1) | (leave1; walk_say "STEP leave1"; try dsimp only) | fail "no step"))
local macro_rules | `(tactic| walk_at "KCiEl") => `(tactic| (refine kci_el ?kce rfl rfl; (case kce => (refine if_pos ?_; with_reducible assumption))))
local macro_rules | `(tactic| walk_at "KCiNo") => `(tactic| (refine kci_no ?kce rfl; (case kce => (refine if_neg ?_; with_reducible assumption))))
local macro_rules | `(tactic| walk_at "CompEnd") => `(tactic| (refine LCg.CompEnd.intro ?f ?n _ (fun p hp => hp) ?o trivial ?_; (case f => with_reducible assumption); (case n => with_reducible assumption); (case o => with_reducible assumption)))
local macro_rules | `(tactic| walk_at "CompSrcT") => `(tactic| refine Parked.mk ?_)
set_option maxRecDepth 100000 in
set_option maxHeartbeats 400000 in
theorem law_5 {w : World} {mean : ExcName → Option Value} {mg mb : Str → Option Value} {fa : Addr} {cd : Value} {h₀ : Heap} {L : Addr} {m : Str → Option Value} {s : Shared} {Q : Flow → Shared → Prop} {E : Value → Shared → Prop}
    (B : Below callerA h₀ [] h₀) (X : (hd.heap_39 w.params).In h₀) (T : Top topProg LL mean mg mb h₀) (C27 : CodeHd h₀ 27 23) (C20 : CodeHd h₀ 20 16)
    {Dn cn Df cf Do : Nat} {co : Nat} {ys us vs : List Value} {os : List Int} {ms : List Int} {o1 o2 o3 o4 : Obj} {v4 : Option Value} {tw : Tok} {p23 p16 : Array Value} (F : Fr h₀ L s.heap (fun y => if y = Str.ofString "order" then some (Value.ref Do) else m y))
    (N : News h₀ L s.heap [(Do, listOf (vs : List Value).toArray co), (Df, listOf us.toArray cf), (Dn, listOf ys.toArray cn), (L + 1 + 1 + 1 + 1, o4), (L + 1 + 1 + 1, o3), (L + 1 + 1, o2), (L + 1, o1), (23, tabObj p23), (16, tabObj p16)])
    (d1 : o1.data = .cell (some (.ref Dn))) (d2 : o2.data = .cell (some (.ref Df))) (d3 : o3.data = .cell (some (.int ms.sum tw))) (d4 : o4.data = .cell v4) (hi : IntsAre ys ms) (hus : IntsAre us (mv ms)) (hos : IntsAre vs os) (hOrd : Ord ms (2 ^ ms.length) os) (hb : ∀ n ∈ ms, 1 ≤ n ∧ n ≤ 12) (hl : ms.length ≤ 8)
    (hL : @LT.lt Nat _ 23 L) (hD1 : @Ne Nat (L + 1 + 1) Dn) (hD2 : @Ne Nat (L + 1 + 1 + 1) Dn) (hD3 : @Ne Nat (L + 1 + 1 + 1 + 1) Dn) (hD4 : @Ne Nat 23 Dn) (hD5 : @Ne Nat 16 Dn)
    (hf1 : @Ne Nat Dn Df) (hf2 : @Ne Nat (L + 1 + 1 + 1 + 1) Df) (hf3 : @Ne Nat (L + 1 + 1 + 1) Df) (hf4 : @Ne Nat (L + 1 + 1) Df) (hf5 : @Ne Nat (L + 1) Df) (hf6 : @Ne Nat 23 Df) (hf7 : @Ne Nat 16 Df)
    (ho1 : @LT.lt Nat _ Df Do) (ho2 : @LT.lt Nat _ Dn Do) (ho3 : @LT.lt Nat _ (L + 1 + 1 + 1 + 1) Do)
    (hE : PassesOwn (model PySem.Challenge.rw_hd0003_01.row.prog w) (callerA.deeper (envOfC (Str.ofString "law") lawScope L fa cd)) (envOfC (Str.ofString "law") lawScope L fa cd) E) (hQ : LawQ h₀ L s Q) :
    wpAny (model PySem.Challenge.rw_hd0003_01.row.prog w) (callerA.deeper (envOfC (Str.ofString "law") lawScope L fa cd)) (execs (lawStmts.drop 5) (envOfC (Str.ofString "law") lawScope L fa cd)) Q E s := by
  w_top off
  delta LL at T
  dsimp only [lawStmts, lawScope, lawDef, PySem.Challenge.pw_hd0003_01, List.getD, List.getElem?_cons_succ, List.getElem?_cons_zero, Option.getD_some, List.drop]
  have hMk := kstMark
  have hul := hi.length
  have hfit : ms.length < 2 ^ 62 := by omega
  have hul2 := hus.length
  have hml := mv_len hb
  have hsb := sum_b hb hl
  have hfit2 : (mv ms).length < 2 ^ 62 := by omega
  have hflen : 1 ≤ (mv ms).length ∧ (mv ms).length ≤ 150 := by omega
  walk_at "MINE steps"
  (rename Fr _ _ _ _ => F7); (rename News _ _ _ _ => N7); (rename IsRange _ _ _ _ _ _ _ _ => rg7)
  have hsm : Builtin.Range.small 0 ((mv ms).length : Int) 1 = true := small_one (by decide) (by decide) (by omega) (by omega)
  have hsz : (((mv ms).length : Int) - 0).toNat ≤ sizeLine := by rw [sizeLine_eq]; omega
  unfold Parked
  refine LCt.CompSrcT.range rfl F7 N7 rg7 hsm (rangeSize_nat _ _) hsz ?_
  intro g7
  refine kci_range (fun l k => if (mv ms).getD k.toNat 0 = 1 then l ++ [k] else l) (fun k' t' I' oI' C' oC' D' m' ys' l' h' tk' E' hlo' hhi' hI' hC' hx' F' N' off' ne' hMark' => ?_) ?fin ?grow
  · walk_at "MINE steps"
    · rename_i hc
      exact LCg.CompEnd.intro F' N' _ (fun p hp => hp) off' trivial (kci_el (if_pos hc) rfl rfl)
    · rename_i hc
      exact LCg.CompEnd.intro F' N' _ (fun p hp => hp) off' trivial (kci_no (if_neg hc) rfl)
  · walk1
    have hoe := ord_all hb hl hOrd
    walk_at "MINE steps"
    (rename Fr _ _ _ _ => F8); (rename News _ _ _ _ => N8)
    refine law_6 (s := { heap := _, gens := s.gens, drawn := s.drawn, toks := _, os := s.os }) B X T C27 C20 F8 (newsTail N8) d1 d2 d3 d4 hi hus hos hOrd hb hl hL hD1 hD2 hD3 hD4 hD5 hf1 hf2 hf3 hf4 hf5 hf6 hf7 ho1 ho2 ho3 hE (fun a b c d e f g h i j => hQ a b c d e f g h i j)
  · intro l k
    show (if _ then _ else _ : List Int).length ≤ _
    split
    · rw [List.length_append]; exact Nat.le_refl _
    · exact Nat.le_succ _
end
section
local macro_rules | `(tactic| walk_at "MINE pad") => `(tactic| skip)
local macro_rules | `(tactic| walk_at "MINE pad") => `(tactic| skip)
local macro_rules | `(tactic| walk_at "MINE pad") => `(tactic| skip)
local macro_rules | `(tactic| walk_at "MINE pad") => `(tactic| skip)
local macro_rules | `(tactic| walk_at "MINE pad") => `(tactic| skip)
local macro_rules | `(tactic| walk_at "MINE pad") => `(tactic| skip)
local macro_rules | `(tactic| walk_at "MINE pad") => `(tactic| skip)
local macro_rules | `(tactic| walk_at "MINE pad") => `(tactic| skip)
local macro_rules | `(tactic| walk_at "MINE pad") => `(tactic| skip)
local macro_rules | `(tactic| walk_at "MINE steps") => `(tactic| repeat' (first | (k_unfold; (try dsimp only)) | (k_end; wrow_close) | ((fail_if_success (with_reducible show wpAny _ _ (call (Value.ref _) _) _ _ _)); (fail_if_success (with_reducible show wpAny _ _ (execs (Stmt.For _ _ _ _ _ :: _) _) _ _ _));  walk1) | (dsimp only; (fail_if_success (with_reducible show wpAny _ _ (call (Value.ref _) _) _ _ _)); (fail_if_success (with_reducible show wpAny _ _ (execs (Stmt.For _ _ _ _ _ :: _) _) _ _ _));  walk1) | (leave1; walk_say "STEP leave1"; try dsimp only) | fail "no step"))
local macro_rules | `(tactic| walk_at "KCiEl") => `(tactic| (refine kci_el ?kce rfl rfl; (case kce => (refine if_pos ?_; with_reducible assumption))))
local macro_rules | `(tactic| walk_at "KCiNo") => `(tactic| (refine kci_no ?kce rfl; (case kce => (refine if_neg ?_; with_reducible assumption))))
local macro_rules | `(tactic| walk_at "CompEnd") => `(tactic| (refine LCg.CompEnd.intro ?f ?n _ (fun p hp => hp) ?o trivial ?_; (case f => with_reducible assumption); (case n => with_reducible assumption); (case o => with_reducible assumption)))
local macro_rules | `(tactic| walk_at "CompSrcT") => `(tactic| refine Parked.mk ?_)
set_option maxRecDepth 100000 in
set_option maxHeartbeats 400000 in
theorem law_4 {w : World} {mean : ExcName → Option Value} {mg mb : Str → Option Value} {fa : Addr} {cd : Value} {h₀ : Heap} {L : Addr} {m : Str → Option Value} {s : Shared} {Q : Flow → Shared → Prop} {E : Value → Shared → Prop}
    (B : Below callerA h₀ [] h₀) (X : (hd.heap_39 w.params).In h₀) (T : Top topProg LL mean mg mb h₀) (C27 : CodeHd h₀ 27 23) (C20 : CodeHd h₀ 20 16)
    {Dn cn Df cf Do : Nat} {ys us : List Value} {ms : List Int} {o1 o2 o3 o4 : Obj} {v4 : Option Value} {tw : Tok} {p23 p16 : Array Value} (F : Fr h₀ L s.heap (fun y => if y = Str.ofString "order" then some (Value.ref Do) else m y))
    (N : News h₀ L s.heap [(Do, listOf #[] 0), (Df, listOf us.toArray cf), (Dn, listOf ys.toArray cn), (L + 1 + 1 + 1 + 1, o4), (L + 1 + 1 + 1, o3), (L + 1 + 1, o2), (L + 1, o1), (23, tabObj p23), (16, tabObj p16)])
    (d1 : o1.data = .cell (some (.ref Dn))) (d2 : o2.data = .cell (some (.ref Df))) (d3 : o3.data = .cell (some (.int ms.sum tw))) (d4 : o4.data = .cell v4) (hi : IntsAre ys ms) (hus : IntsAre us (mv ms)) (hb : ∀ n ∈ ms, 1 ≤ n ∧ n ≤ 12) (hl : ms.length ≤ 8)
    (hL : @LT.lt Nat _ 23 L) (hD1 : @Ne Nat (L + 1 + 1) Dn) (hD2 : @Ne Nat (L + 1 + 1 + 1) Dn) (hD3 : @Ne Nat (L + 1 + 1 + 1 + 1) Dn) (hD4 : @Ne Nat 23 Dn) (hD5 : @Ne Nat 16 Dn)
    (hf1 : @Ne Nat Dn Df) (hf2 : @Ne Nat (L + 1 + 1 + 1 + 1) Df) (hf3 : @Ne Nat (L + 1 + 1 + 1) Df) (hf4 : @Ne Nat (L + 1 + 1) Df) (hf5 : @Ne Nat (L + 1) Df) (hf6 : @Ne Nat 23 Df) (hf7 : @Ne Nat 16 Df)
    (ho1 : @LT.lt Nat _ Df Do) (ho2 : @LT.lt Nat _ Dn Do) (ho3 : @LT.lt Nat _ (L + 1 + 1 + 1 + 1) Do)
    (hE : PassesOwn (model PySem.Challenge.rw_hd0003_01.row.prog w) (callerA.deeper (envOfC (Str.ofString "law") lawScope L fa cd)) (envOfC (Str.ofString "law") lawScope L fa cd) E) (hQ : LawQ h₀ L s Q) :
    wpAny (model PySem.Challenge.rw_hd0003_01.row.prog w) (callerA.deeper (envOfC (Str.ofString "law") lawScope L fa cd)) (execs (lawStmts.drop 4) (envOfC (Str.ofString "law") lawScope L fa cd)) Q E s := by
  w_top off
  delta LL at T
  dsimp only [lawStmts, lawScope, lawDef, PySem.Challenge.pw_hd0003_01, List.getD, List.getElem?_cons_succ, List.getElem?_cons_zero, Option.getD_some, List.drop]
  have hMk := kstMark
  have hul := hi.length
  have hfit : ms.length < 2 ^ 62 := by omega
  have hul2 := hus.length
  have hml := mv_len hb
  have hsb := sum_b hb hl
  have hfit2 : (mv ms).length < 2 ^ 62 := by omega
  have hflen : 1 ≤ (mv ms).length ∧ (mv ms).length ≤ 150 := by omega
  have hrest : ∀ o9 : Obj, ∀ p ∈ ([(Df, listOf us.toArray cf), (Dn, listOf ys.toArray cn), (L + 1 + 1 + 1 + 1, o9), (L + 1 + 1 + 1, o3), (L + 1 + 1, o2), (L + 1, o1), (23, tabObj p23), (16, tabObj p16)] : List (Addr × Obj)), p.1 ≠ Do := fun o9 => List.forall_mem_cons.mpr ⟨Nat.ne_of_lt ho1, List.forall_mem_cons.mpr ⟨Nat.ne_of_lt ho2, List.forall_mem_cons.mpr ⟨Nat.ne_of_lt ho3,
    List.forall_mem_cons.mpr ⟨Nat.ne_of_lt (Nat.lt_trans (Nat.lt_succ_self _) ho3), List.forall_mem_cons.mpr ⟨Nat.ne_of_lt (Nat.lt_trans (Nat.lt_succ_of_lt (Nat.lt_succ_self _)) ho3), List.forall_mem_cons.mpr ⟨Nat.ne_of_lt (Nat.lt_trans (Nat.lt_succ_of_lt (Nat.lt_succ_of_lt (Nat.lt_succ_self _))) ho3),
    List.forall_mem_cons.mpr ⟨Nat.ne_of_lt (show @LT.lt Nat _ 23 Do by omega), List.forall_mem_cons.mpr ⟨Nat.ne_of_lt (show @LT.lt Nat _ 16 Do by omega), fun _ h => nomatch h⟩⟩⟩⟩⟩⟩⟩⟩
  walk1
  refine wpAny_For ?_
  walk_at "MINE steps"
  (rename Fr _ _ _ _ => F2); (rename News _ _ _ _ => N2); (rename IsRange _ _ _ _ _ _ _ _ => rg)
  have hp2 : 2 ^ ms.length ≤ 256 := Nat.pow_le_pow_right (by decide) hl
  have hp : (2 : Int) ^ ((ms.length : Int)).toNat = ((2 ^ ms.length : Nat) : Int) := by simp
  rw [hp] at rg
  refine iter_rng (n := 2 ^ ms.length) (L := L) (fun i m' nx => ∃ vs co os oLot vLot, nx = [(Do, listOf (vs : List Value).toArray co), (Df, listOf us.toArray cf), (Dn, listOf ys.toArray cn), (L + 1 + 1 + 1 + 1, oLot), (L + 1 + 1 + 1, o3), (L + 1 + 1, o2), (L + 1, o1), (23, tabObj p23), (16, tabObj p16)] ∧
    (oLot : Obj).data = .cell vLot ∧ IntsAre vs os ∧ Ord ms i os ∧ m' (Str.ofString "order") = some (.ref Do)) rfl rg ?small rfl F2 N2 ?h0 ?turn ?hR hE
  case small =>
    generalize (2 ^ ms.length : Nat) = z at hp2
    exact small_one (by omega) (by omega) (by omega) (by omega)
  case h0 => exact ⟨[], 0, [], o4, v4, rfl, d4, .nil, ord_nil, rfl⟩
  case turn =>
    rintro i t m₁ nx I oI h tk hlt hnI ⟨vs, co, os, oLot, vLot, rfl, dLot, hos, hOrd, hm⟩ F4 N4
    have F5 := fr_named F4 hm
    clear F4
    have hI1 : @Ne Nat Do I := hnI _ (.head _)
    have hI2 : @Ne Nat Df I := hnI _ (.tail _ (.head _))
    have hI3 : @Ne Nat Dn I := hnI _ (.tail _ (.tail _ (.head _)))
    have hI4 : @Ne Nat (L + 1 + 1 + 1 + 1) I := hnI _ (.tail _ (.tail _ (.tail _ (.head _))))
    have hI5 : @Ne Nat (L + 1 + 1 + 1) I := hnI _ (.tail _ (.tail _ (.tail _ (.tail _ (.head _)))))
    have hI6 : @Ne Nat (L + 1 + 1) I := hnI _ (.tail _ (.tail _ (.tail _ (.tail _ (.tail _ (.head _))))))
    have hI7 : @Ne Nat (L + 1) I := hnI _ (.tail _ (.tail _ (.tail _ (.tail _ (.tail _ (.tail _ (.head _)))))))
    have hI8 : @Ne Nat 23 I := hnI _ (.tail _ (.tail _ (.tail _ (.tail _ (.tail _ (.tail _ (.tail _ (.head _))))))))
    have hI9 : @Ne Nat 16 I := hnI _ (.tail _ (.tail _ (.tail _ (.tail _ (.tail _ (.tail _ (.tail _ (.tail _ (.head _)))))))))
    have hneI : ∀ (v9 o9 : Obj), ∀ p ∈ ((Do, v9) :: [(Df, listOf us.toArray cf), (Dn, listOf ys.toArray cn), (L + 1 + 1 + 1 + 1, o9), (L + 1 + 1 + 1, o3), (L + 1 + 1, o2), (L + 1, o1), (23, tabObj p23), (16, tabObj p16)] : List (Addr × Obj)), p.1 ≠ I := fun v9 o9 => List.forall_mem_cons.mpr ⟨hI1, List.forall_mem_cons.mpr ⟨hI2, List.forall_mem_cons.mpr ⟨hI3, List.forall_mem_cons.mpr ⟨hI4, List.forall_mem_cons.mpr ⟨hI5, List.forall_mem_cons.mpr ⟨hI6, List.forall_mem_cons.mpr ⟨hI7, List.forall_mem_cons.mpr ⟨hI8, List.forall_mem_cons.mpr ⟨hI9, fun _ h => nomatch h⟩⟩⟩⟩⟩⟩⟩⟩⟩
    clear F2 N2 rg
    have hi256 : 0 ≤ (i : Int) ∧ (i : Int) < 256 := by clear hI1 hI2 hI3 hI4 hI5 hI6 hI7 hnI; omega
    refine wpAny_assign_Name ?_
    walk_at "MINE steps"
    (rename Fr _ _ _ _ => F7); (rename News _ _ _ _ => N7); (rename IsRange _ _ _ _ _ _ _ _ => rg7)
    have hsm : Builtin.Range.small 0 (ms.length : Int) 1 = true := small_one (by decide) (by decide) (by clear hI1 hI2 hI3 hI4 hI5 hI6 hI7 hnI; omega) (by clear hI1 hI2 hI3 hI4 hI5 hI6 hI7 hnI; omega)
    have hsz : ((ms.length : Int) - 0).toNat ≤ sizeLine := by rw [sizeLine_eq]; clear hI1 hI2 hI3 hI4 hI5 hI6 hI7 hnI; omega
    unfold Parked
    refine LCt.CompSrcT.range rfl F7 N7 rg7 hsm (rangeSize_nat _ _) hsz ?_
    intro g7
    refine kci_range (fun l k => if ((i : Int).fdiv (2 ^ k.toNat)).fmod 2 = 1 then l ++ [ms.getD k.toNat 0] else l) (fun k' t' I' oI' C' oC' D' m' ys' l' h' tk' E' hlo' hhi' hI' hC' hx' F' N' off' ne' hMark' => ?_) ?fin ?grow
    · walk_at "MINE steps"
      · rename_i hc _
        exact LCg.CompEnd.intro F' N' _ (fun p hp => hp) off' trivial (kci_el (if_pos hc) rfl rfl)
      · rename_i hc
        exact LCg.CompEnd.intro F' N' _ (fun p hp => hp) off' trivial (kci_no (if_neg hc) rfl)
    · walk_at "MINE steps"
      (rename Fr _ _ _ _ => F8); (rename News _ _ _ _ => N8)
      have N9 := newsTail N8
      (with_reducible rename (_ = Data.cell (some (Value.int (i : Int) t))) => d8)
      have hosl : os.length ≤ 10000 := Nat.le_trans hOrd.2.2 (Nat.le_trans (Nat.le_of_lt hlt) (Nat.le_trans hp2 (by decide)))
      clear N8
      obtain ⟨x, hx⟩ : ∃ x, x = tot ms i := ⟨_, rfl⟩
      unfold tot at hx
      rw [← hx] at F8 ⊢
      replace hx : x = tot ms i := hx
      refine bis_spec w mean mg mb Do vs os co _ x _ (.tail _ (.head _)) hos hosl (ord_sorted hOrd) _ _ _ _ _ _ _ _ _ _ _ _ _ _ _ _ _ B F8 X N9 T rfl C27 C20 ?hd ?hu ?_
      case hd => decide
      case hu => decide
      rintro r nx h10 tk10 F10 N10 ⟨p, tp, rfl, rfl, hBis⟩
      have hosf : os.length < 2 ^ 62 := Nat.lt_of_le_of_lt hosl (by decide)
      have hpb : p ≠ (os.length : Int) → 0 ≤ p ∧ p < (os.length : Int) ∧ os.length < 2 ^ 62 := fun hne => ⟨hBis.1, by have := hBis.2.1; clear hI1 hI2 hI3 hI4 hI5 hI6 hI7 hnI hf1 hf2 hf3 hf4 hf5 hf6 hf7 hD1 hD2 hD3 hD4 hD5; omega, hosf⟩
      walk_at "MINE steps"
      · rename_i hh
        (rename Fr _ _ _ _ => F11); (rename News _ _ _ _ => N11)
        refine ins_spec w mean mg mb Do vs os co _ x _ _ (.tail (Ne.symm hI1) (.head (hrest _))) hos hosl (ord_sorted hOrd) _ _ _ _ _ _ _ _ _ _ _ _ _ _ _ _ _ B F11 X N11 T rfl C27 C20 ?hd ?hu ?_
        case hd => decide
        case hu => decide
        rintro r nx h12 tk12 F12 N12 ⟨p', us', c', rfl, hB', hI9'⟩
        walk_at "MINE steps"
        have hpp : p' = p := bis_one hB' hBis
        rw [hpp] at hI9'
        exact ⟨_, _, _, _, _, rfl, F12, N12, fun p hp => .tail _ hp, .head _, hneI _ _, ⟨us', c', _, _, _, rfl, d8, hI9', by rw [hx] at hBis ⊢; exact ord_ins hOrd hBis (.inl hh), rfl⟩⟩
      · rename_i hh0 _ hh
        (rename Fr _ _ _ _ => F11); (rename News _ _ _ _ => N11)
        refine ins_spec w mean mg mb Do vs os co _ x _ _ (.tail (Ne.symm hI1) (.head (hrest _))) hos hosl (ord_sorted hOrd) _ _ _ _ _ _ _ _ _ _ _ _ _ _ _ _ _ B F11 X N11 T rfl C27 C20 ?hd ?hu ?_
        case hd => decide
        case hu => decide
        rintro r nx h12 tk12 F12 N12 ⟨p', us', c', rfl, hB', hI9'⟩
        walk_at "MINE steps"
        have hpp : p' = p := bis_one hB' hBis
        rw [hpp] at hI9'
        exact ⟨_, _, _, _, _, rfl, F12, N12, fun p hp => .tail _ hp, .head _, hneI _ _, ⟨us', c', _, _, _, rfl, d8, hI9', by rw [hx] at hBis hh ⊢; exact ord_ins hOrd hBis (.inr hh), rfl⟩⟩
      · rename_i hh0 _ hh
        (rename Fr _ _ _ _ => F11); (rename News _ _ _ _ => N11)
        exact ⟨_, _, _, _, _, rfl, F11, N11, fun p hp => .tail _ hp, .head _, hneI _ _, ⟨vs, co, os, _, _, rfl, d8, hos, by rw [hx] at hBis hh; exact ord_same hOrd hBis hh0 hh, rfl⟩⟩
    · intro l k
      show (if _ then _ else _ : List Int).length ≤ _
      split
      · rw [List.length_append]; exact Nat.le_refl _
      · exact Nat.le_succ _
  case hR =>
    rintro h' tk' m' nx F4 N4 ⟨vs, co, os, oLot, vLot, rfl, dLot, hos, hOrd, hm⟩
    refine law_5 (s := { heap := h', gens := s.gens, drawn := s.drawn, toks := tk', os := s.os }) B X T C27 C20 (fr_named F4 hm) N4 d1 d2 d3 dLot hi hus hos hOrd hb hl hL hD1 hD2 hD3 hD4 hD5 hf1 hf2 hf3 hf4 hf5 hf6 hf7 ho1 ho2 ho3 hE (fun a b c d e f g h i j => hQ a b c d e f g h i j)
end
section
local macro_rules | `(tactic| walk_at "MINE pad") => `(tactic| skip)
local macro_rules | `(tactic| walk_at "MINE pad") => `(tactic| skip)
local macro_rules | `(tactic| walk_at "MINE pad") => `(tactic| skip)
local macro_rules | `(tactic| walk_at "MINE pad") => `(tactic| skip)
local macro_rules | `(tactic| walk_at "MINE pad") => `(tactic| skip)
local macro_rules | `(tactic| walk_at "MINE pad") => `(tactic| skip)
local macro_rules | `(tactic| walk_at "MINE pad") => `(tactic| skip)
local macro_rules | `(tactic| walk_at "MINE pad") => `(tactic| skip)
local macro_rules | `(tactic| walk_at "MINE pad") => `(tactic| skip)
local macro_rules | `(tactic| walk_at "MINE pad") => `(tactic| skip)
local macro_rules | `(tactic| walk_at "MINE pad") => `(tactic| skip)
local macro_rules | `(tactic| walk_at "MINE pad") => `(tactic| skip)
local macro_rules | `(tactic| walk_at "MINE pad") => `(tactic| skip)
local macro_rules | `(tactic| walk_at "MINE pad") => `(tactic| skip)
local macro_rules | `(tactic| walk_at "MINE steps") => `(tactic| repeat' (first | (k_unfold; (try dsimp only)) | (k_end; wrow_close) | ((fail_if_success (with_reducible show wpAny _ _ (call (Value.ref _) _) _ _ _)); (fail_if_success (with_reducible show wpAny _ _ (execs (Stmt.For _ _ _ _ _ :: _) _) _ _ _)); walk1) | (dsimp only; (fail_if_success (with_reducible show wpAny _ _ (call (Value.ref _) _) _ _ _)); (fail_if_success (with_reducible show wpAny _ _ (execs (Stmt.For _ _ _ _ _ :: _) _) _ _ _)); walk1) | (leave1; walk_say "STEP leave1"; try dsimp only) | fail "no step"))
set_option maxRecDepth 100000 in
set_option maxHeartbeats 1000000 in
theorem law_2 {w : World} {mean : ExcName → Option Value} {mg mb : Str → Option Value} {fa : Addr} {cd : Value} {h₀ : Heap} {L : Addr} {m : Str → Option Value} {s : Shared} {Q : Flow → Shared → Prop} {E : Value → Shared → Prop}
    (B : Below callerA h₀ [] h₀) (X : (hd.heap_39 w.params).In h₀) (T : Top topProg LL mean mg mb h₀) (C27 : CodeHd h₀ 27 23) (C20 : CodeHd h₀ 20 16)
    {Dn cn Df cf Do : Nat} {ys us : List Value} {ms : List Int} {o1 o2 o3 o4 : Obj} {v4 : Option Value} {tw : Tok} (F : Fr h₀ L s.heap (fun y => if y = Str.ofString "order" then some (Value.ref Do) else m y))
    (N : News h₀ L s.heap [(Do, listOf #[] 0), (Df, listOf us.toArray cf), (Dn, listOf ys.toArray cn), (L + 1 + 1 + 1 + 1, o4), (L + 1 + 1 + 1, o3), (L + 1 + 1, o2), (L + 1, o1), (23, tabObj #[]), (16, tabObj #[])])
    (d1 : o1.data = .cell (some (.ref Dn))) (d2 : o2.data = .cell (some (.ref Df))) (d3 : o3.data = .cell (some (.int ms.sum tw))) (d4 : o4.data = .cell v4) (hi : IntsAre ys ms) (hus : IntsAre us (mv ms)) (hb : ∀ n ∈ ms, 1 ≤ n ∧ n ≤ 12) (hl : ms.length ≤ 8)
    (hL : @LT.lt Nat _ 23 L) (hD1 : @Ne Nat (L + 1 + 1) Dn) (hD2 : @Ne Nat (L + 1 + 1 + 1) Dn) (hD3 : @Ne Nat (L + 1 + 1 + 1 + 1) Dn) (hD4 : @Ne Nat 23 Dn) (hD5 : @Ne Nat 16 Dn)
    (hf1 : @Ne Nat Dn Df) (hf2 : @Ne Nat (L + 1 + 1 + 1 + 1) Df) (hf3 : @Ne Nat (L + 1 + 1 + 1) Df) (hf4 : @Ne Nat (L + 1 + 1) Df) (hf5 : @Ne Nat (L + 1) Df) (hf6 : @Ne Nat 23 Df) (hf7 : @Ne Nat 16 Df)
    (ho1 : @LT.lt Nat _ Df Do) (ho2 : @LT.lt Nat _ Dn Do) (ho3 : @LT.lt Nat _ (L + 1 + 1 + 1 + 1) Do)
    (hE : PassesOwn (model PySem.Challenge.rw_hd0003_01.row.prog w) (callerA.deeper (envOfC (Str.ofString "law") lawScope L fa cd)) (envOfC (Str.ofString "law") lawScope L fa cd) E) (hQ : LawQ h₀ L s Q) :
    wpAny (model PySem.Challenge.rw_hd0003_01.row.prog w) (callerA.deeper (envOfC (Str.ofString "law") lawScope L fa cd)) (execs (lawStmts.drop 2) (envOfC (Str.ofString "law") lawScope L fa cd)) Q E s := by
  w_top off
  delta LL at T
  dsimp only [lawStmts, lawScope, lawDef, PySem.Challenge.pw_hd0003_01, List.getD, List.getElem?_cons_succ, List.getElem?_cons_zero, Option.getD_some, List.drop]
  have hMk := kstMark
  have hul := hi.length
  have hfit : ms.length < 2 ^ 62 := by omega
  have hul2 := hus.length
  have hml := mv_len hb
  have hsb := sum_b hb hl
  have hfit2 : (mv ms).length < 2 ^ 62 := by omega
  have hflen : 1 ≤ (mv ms).length ∧ (mv ms).length ≤ 150 := by omega
  have hg1 : @Ne Nat 23 Do := by omega
  have hg2 : @Ne Nat 16 Do := by omega
  walk_at "MINE steps"
  refine' d2i_A w mean mg mb Df us (mv ms) cf _ _ _ (.tail _ (.head _)) hus mv_01 hflen hf6.symm ?U _ _ _ _ _ _ _ _ _ _ _ _ _ _ _ _ _ B F X N T rfl C27 C20 ?hd ?hu ?_
  case U => k_updF
  case hd => decide
  case hu => decide
  rintro r nx h1 tk1 F1 N1 ⟨t1, c2, oc2, vs2, tq, rfl, rfl, e1, e2, hc2⟩
  have hc3 := hc2 _ (.head _)
  dsimp only at hc3
  clear hc2
  walk_at "MINE steps"
  (rename Fr _ _ _ _ => F2); (rename News _ _ _ _ => N2)
  have hc16 : @Ne Nat c2 16 := by omega
  refine' i2d_A w mean mg mb (mv ms) _ t1 _ _ _ mv_01 hflen (mv_last hb) dval_all ?U _ _ _ _ _ _ _ _ _ _ _ _ _ _ _ _ _ B F2 X N2 T rfl C27 C20 ?hd ?hu ?_
  case U => k_updF
  case hd => decide
  case hu => decide
  rintro r nx h2 tk2 F3 N3 ⟨Dd, us3, cd3, c3, oc3, rfl, rfl, hus3⟩
  walk_at "MINE steps"
  (rename Fr _ _ _ _ => F4); (rename News _ _ _ _ => N4); (rename IntsAre _ _ => hrv)
  rw [mv_rev hb] at hrv
  refine' d2i_B w mean mg mb _ _ (mv ms) _ _ _ c2 oc2 vs2 tq (.head _) hrv mv_01 hflen ?hT ?hC e1 e2 _ _ _ _ _ _ _ _ _ _ _ _ _ _ _ _ _ B F4 X N4 T rfl C27 C20 ?hd ?hu ?_
  case hT => k_mem
  case hC => k_mem
  case hd => decide
  case hu => decide
  rintro r nx h5 tk5 F5 N5 ⟨t5, rfl, rfl⟩
  walk_at "MINE steps"
  · rename_i hh; exact absurd rfl hh
  · rename_i hh; exact absurd (by omega) hh
  (rename Fr _ _ _ _ => F6); (rename News _ _ _ _ => N6)
  show wpAny (model PySem.Challenge.rw_hd0003_01.row.prog w) (callerA.deeper (envOfC (Str.ofString "law") lawScope L fa cd)) (execs (lawStmts.drop 4) (envOfC (Str.ofString "law") lawScope L fa cd)) Q E _
  refine law_4 (s := { heap := h5, gens := s.gens, drawn := s.drawn, toks := _, os := s.os }) B X T C27 C20 (fr_named F6 (b := Str.ofString "order") rfl) (p23 := #[rawInt 20, rawInt 4, .ref c2]) (p16 := #[rawInt 5, rawInt 4, .ref c3]) (fun p hp => N6 p (.tail _ (.tail _ (.tail _ (.tail _ hp))))) d1 d2 d3 d4 hi hus hb hl hL hD1 hD2 hD3 hD4 hD5 hf1 hf2 hf3 hf4 hf5 hf6 hf7 ho1 ho2 ho3 hE (fun a b c d e f g h i j => hQ a b c d e f g h i j)
end
section
local macro_rules | `(tactic| walk_at "MINE pad") => `(tactic| skip)
local macro_rules | `(tactic| walk_at "MINE pad") => `(tactic| skip)
local macro_rules | `(tactic| walk_at "MINE pad") => `(tactic| skip)
local macro_rules | `(tactic| walk_at "MINE pad") => `(tactic| skip)
local macro_rules | `(tactic| walk_at "MINE pad") => `(tactic| skip)
local macro_rules | `(tactic| walk_at "MINE pad") => `(tactic| skip)
local macro_rules | `(tactic| walk_at "MINE pad") => `(tactic| skip)
local macro_rules | `(tactic| walk_at "MINE pad") => `(tactic| skip)
local macro_rules | `(tactic| walk_at "MINE pad") => `(tactic| skip)
local macro_rules | `(tactic| walk_at "MINE pad") => `(tactic| skip)
local macro_rules | `(tactic| walk_at "MINE pad") => `(tactic| skip)
local macro_rules | `(tactic| walk_at "MINE pad") => `(tactic| skip)
local macro_rules | `(tactic| walk_at "MINE pad") => `(tactic| skip)
local macro_rules | `(tactic| walk_at "MINE pad") => `(tactic| skip)
local macro_rules | `(tactic| walk_at "MINE pad") => `(tactic| skip)
local macro_rules | `(tactic| walk_at "MINE steps") => `(tactic| repeat' (first | (k_unfold; (try dsimp only)) | (k_end; wrow_close) | ((fail_if_success (with_reducible show wpAny _ _ (call (Value.ref _) _) _ _ _)); (fail_if_success (with_reducible show wpAny _ _ (execs (Stmt.Assign [Expr.Name (Str.ofString "told") _] _ _ :: _) _) _ _ _)); walk1) | (dsimp only; (fail_if_success (with_reducible show wpAny _ _ (call (Value.ref _) _) _ _ _)); (fail_if_success (with_reducible show wpAny _ _ (execs (Stmt.Assign [Expr.Name (Str.ofString "told") _] _ _ :: _) _) _ _ _)); walk1) | (leave1; walk_say "STEP leave1"; try dsimp only) | fail "no step"))
set_option maxRecDepth 100000 in
set_option maxHeartbeats 1000000 in
theorem law_1 {w : World} {mean : ExcName → Option Value} {mg mb : Str → Option Value} {fa : Addr} {cd : Value} {h₀ : Heap} {L : Addr} {m : Str → Option Value} {s : Shared} {Q : Flow → Shared → Prop} {E : Value → Shared → Prop}
    (B : Below callerA h₀ [] h₀) (F : Fr h₀ L s.heap m) (X : (hd.heap_39 w.params).In h₀) (T : Top topProg LL mean mg mb h₀) (C27 : CodeHd h₀ 27 23) (C20 : CodeHd h₀ 20 16)
    {Dn cn : Nat} {ys : List Value} {ms : List Int} {o1 o2 o3 o4 : Obj} {v2 v3 v4 : Option Value}
    (N : News h₀ L s.heap [(Dn, listOf ys.toArray cn), (L + 1 + 1 + 1 + 1, o4), (L + 1 + 1 + 1, o3), (L + 1 + 1, o2), (L + 1, o1), (23, tabObj #[]), (16, tabObj #[])])
    (d1 : o1.data = .cell (some (.ref Dn))) (d2 : o2.data = .cell v2) (d3 : o3.data = .cell v3) (d4 : o4.data = .cell v4) (hi : IntsAre ys ms) (hb : ∀ n ∈ ms, 1 ≤ n ∧ n ≤ 12) (hl : ms.length ≤ 8)
    (hL : @LT.lt Nat _ 23 L) (hD1 : @Ne Nat (L + 1 + 1) Dn) (hD2 : @Ne Nat (L + 1 + 1 + 1) Dn) (hD3 : @Ne Nat (L + 1 + 1 + 1 + 1) Dn) (hD4 : @Ne Nat 23 Dn) (hD5 : @Ne Nat 16 Dn)
    (hE : PassesOwn (model PySem.Challenge.rw_hd0003_01.row.prog w) (callerA.deeper (envOfC (Str.ofString "law") lawScope L fa cd)) (envOfC (Str.ofString "law") lawScope L fa cd) E) (hQ : LawQ h₀ L s Q) :
    wpAny (model PySem.Challenge.rw_hd0003_01.row.prog w) (callerA.deeper (envOfC (Str.ofString "law") lawScope L fa cd)) (execs (lawStmts.drop 1) (envOfC (Str.ofString "law") lawScope L fa cd)) Q E s := by
  w_top off
  delta LL at T
  dsimp only [lawStmts, lawScope, lawDef, PySem.Challenge.pw_hd0003_01, List.getD, List.getElem?_cons_succ, List.getElem?_cons_zero, Option.getD_some, List.drop]
  have hMk := kstMark
  have hul := hi.length
  have hfit : ms.length < 2 ^ 62 := by omega
  walk_at "MINE steps"
  refine moved_spec w mean mg mb Dn ys ms cn _ (.head _) hi hb (by omega) _ _ _ _ _ _ _ _ _ _ _ _ _ _ _ _ _ B F X N T rfl C27 C20 ?hd ?hu ?_
  case hd => decide
  case hu => decide
  rintro r nx h1 tk1 F1 N1 ⟨Df, us, cf, rfl, rfl, hus, hne⟩
  have hf1 := hne _ (.head _)
  have hf2 := hne _ (.tail _ (.head _))
  have hf3 := hne _ (.tail _ (.tail _ (.head _)))
  have hf4 := hne _ (.tail _ (.tail _ (.tail _ (.head _))))
  have hf5 := hne _ (.tail _ (.tail _ (.tail _ (.tail _ (.head _)))))
  have hf6 := hne _ (.tail _ (.tail _ (.tail _ (.tail _ (.tail _ (.head _))))))
  have hf7 := hne _ (.tail _ (.tail _ (.tail _ (.tail _ (.tail _ (.tail _ (.head _)))))))
  dsimp only at hf1 hf2 hf3 hf4 hf5 hf6 hf7
  clear hne
  have hul2 := hus.length
  have hml := mv_len hb
  have hsb := sum_b hb hl
  have hfit2 : (mv ms).length < 2 ^ 62 := by omega
  have hflen : 1 ≤ (mv ms).length ∧ (mv ms).length ≤ 150 := by omega
  walk_at "MINE steps"
  (rename Fr _ _ _ _ => F2); (rename News _ _ _ _ => N2)
  rename_i Do hhA lDo Dt hhB lDt hhC hhD oF dF hhE oW dW hhG
  refine law_2 (s := { heap := hhG, gens := s.gens, drawn := s.drawn, toks := _, os := s.os }) B X T C27 C20 F2 (fun p hp => N2 p (.tail _ hp)) d1 dF dW d4 hi hus hb hl hL hD1 hD2 hD3 hD4 hD5 hf1 hf2 hf3 hf4 hf5 hf6 hf7 lDo.1 lDo.2.1 lDo.2.2.1 hE (fun a b c d e f g h i j => hQ a b c d e f g h i j)
end
section
local macro_rules | `(tactic| walk_at "MINE pad") => `(tactic| skip)
local macro_rules | `(tactic| walk_at "MINE pad") => `(tactic| skip)
local macro_rules | `(tactic| walk_at "MINE pad") => `(tactic| skip)
local macro_rules | `(tactic| walk_at "MINE pad") => `(tactic| skip)
local macro_rules | `(tactic| walk_at "MINE pad") => `(tactic| skip)
local macro_rules | `(tactic| walk_at "MINE pad") => `(tactic| skip)
local macro_rules | `(tactic| walk_at "MINE pad") => `(tactic| skip)
local macro_rules | `(tactic| walk_at "MINE pad") => `(tactic| skip)
local macro_rules | `(tactic| walk_at "MINE pad") => `(tactic| skip)
local macro_rules | `(tactic| walk_at "MINE pad") => `(tactic| skip)
local macro_rules | `(tactic| walk_at "MINE pad") => `(tactic| skip)
local macro_rules | `(tactic| walk_at "MINE pad") => `(tactic| skip)
local macro_rules | `(tactic| walk_at "MINE pad") => `(tactic| skip)
local macro_rules | `(tactic| walk_at "MINE pad") => `(tactic| skip)
local macro_rules | `(tactic| walk_at "MINE pad") => `(tactic| skip)
local macro_rules | `(tactic| walk_at "MINE pad") => `(tactic| skip)
theorem newsSecond {h₀ h : Heap} {L : Addr} {q r : Addr × Obj} {l : List (Addr × Obj)} (N : News h₀ L h (q :: r :: l)) : News h₀ L h (q :: l) := fun p hp => N p (by
  rcases List.mem_cons.mp hp with rfl | hp
  · exact .head _
  · exact .tail _ (.tail _ hp))
local macro_rules | `(tactic| walk_at "MINE steps") => `(tactic| repeat' (first | (k_unfold; (try dsimp only)) | (k_end; wrow_close) | ((fail_if_success (with_reducible show wpAny _ _ (execs (Stmt.Assign [Expr.Tuple _ _ _] _ _ :: _) _) _ _ _)); walk1) | (dsimp only; (fail_if_success (with_reducible show wpAny _ _ (execs (Stmt.Assign [Expr.Tuple _ _ _] _ _ :: _) _) _ _ _)); walk1) | (leave1; walk_say "STEP leave1"; try dsimp only) | fail "no step"))
set_option maxRecDepth 100000 in
set_option maxHeartbeats 1000000 in
theorem law_all : PySem.Challenge.rw_hd0003_01.Holds := hd (by
  w_strict (k_go0; (all_goals try k_fold))
  walk_at "MINE steps"
  (rename Fr _ _ _ _ => F9); (rename News _ _ _ _ => N9); (rename Below _ _ _ _ => K9); (rename Top _ _ _ _ _ _ => T9); (rename Frag.In _ _ => X9)
  rename_i Dn hh1 tkk ho hh2 oN dN
  rename IntsAre ys _ => hms
  refine law_1 K9 F9 X9 T9 (by assumption) (by assumption) (newsSecond N9) dN (by with_reducible assumption) (by with_reducible assumption) (by with_reducible assumption) hms ?qqb ?qql ?qqL ?qqn1 ?qqn2 ?qqn3 ?qqn4 ?qqn5 ?qqE ?qqQ
  case qqb =>
    intro n hn
    obtain ⟨k, _, rfl⟩ := List.mem_map.mp hn
    have h1 := Int.fmod_nonneg_of_pos k (show (0 : Int) < 12 by decide)
    have h2 := Int.fmod_lt_of_pos k (show (0 : Int) < 12 by decide)
    exact ⟨by omega, by omega⟩
  case qql =>
    rw [List.length_map, List.length_take]; exact Nat.min_le_left _ _
  case qqL => with_reducible (rename (_ < _) ∧ (_ < _) => l9); exact l9.1
  case qqn1 => exact Ne.symm ho.2.2.2.1.symm
  case qqn2 => exact Ne.symm ho.2.2.1.symm
  case qqn3 => exact Ne.symm ho.2.1.symm
  case qqn4 => exact Ne.symm ho.2.2.2.2.2.1.symm
  case qqn5 => exact Ne.symm ho.2.2.2.2.2.2.symm
  case qqE => with_unfolding_all exact PassesOwn.leaving
  case qqQ =>
    intro m' nx h' tk' p23 p16 F' N' h23 h16
    clear F9 N9
    refine ⟨?_, GrownAt.of N' h23, GrownAt.of N' h16, trivial⟩
    dsimp only
    wrow_close)
end
end Mine
set_option maxRecDepth 100000 in
set_option maxHeartbeats 400000 in
theorem PySem.Challenge.cw_hd0003_01_holds : PySem.Challenge.rw_hd0003_01.Holds := by
  exact Mine.law_all
