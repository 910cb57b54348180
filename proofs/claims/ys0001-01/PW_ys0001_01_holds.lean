import PyProof.Rows.All
import Wide.All
import OpenK.AllK
import Wide.FinOn
import Lean
import PySem.Challenge.RW_ys0001_01
open PySem PySem.W PySem.Spec PySem.Calls PyProof.Rows
set_option Elab.async false
set_option maxRecDepth 100000
set_option maxHeartbeats 8000000
set_option linter.unusedVariables false
set_option linter.unusedSimpArgs false
namespace Mine

/-- the caller's heap, less the ledger's objects, stays below the callee's frame -/
theorem code_defR {prog : Program} {w : World} {A₀ A : Around} {s : Shared} {K : Frag} {L : Addr} {h₀ base : Heap} {m mg mb : Str → Option Value} {news : List (Addr × Obj)} {p : Program} {loose : List Str} {mean : ExcName → Option Value}
    {env : Env} {outer : List Env} {R : Result → Shared → Prop} {name qual : Str} {params : Arguments} {body : List Stmt} {scope : Scope} {dV kV doc pm cdv ct oc : Value} {an od : Option Addr} {osl : Array (Option Value)} {f : Addr} {args : Args} {binds : List (Str × Value)}
    (B : Below A₀ base outer h₀) (F : Fr h₀ L s.heap m) (X₀ : K.In h₀) (N : News h₀ L s.heap news) (T : Top p loose mean mg mb h₀) (hA : A.frames = some (env :: outer)) (hf : env.frame = some L) (hke : env.scope.kind = .function)
    (ho : K.lookup f = some ⟨oc, od, .func (fnOf name qual params body scope dV kV doc pm an cdv ct), osl⟩) (hcd : codeIn K cdv qual = true) (hroom : A.depth < recursionLimit)
    (hbind : BindsTo s (fnOf name qual params body scope dV kV doc pm an cdv ct) args binds) (hloc : ∀ y ∈ binds, scope.names.lookup y.1 = some .local)
    (h : ∀ g L' h₁, Fr h₀ L g m → Fr g L' h₁ (fun y => binds.reverse.lookup y) → News g L' h₁ news → Below A base (env :: outer) g → K.In g → Top p loose mean mg mb g →
      (∀ b o, s.heap.get? b = some o → b ∉ news.map (·.1) → g.get? b = some o) → (∀ b o, s.heap.get? b = some o → b < L') →
      wpAny (model prog w) (A.deeper (envOf qual scope L' f cdv)) (execs body (envOf qual scope L' f cdv))
        (fun fl s' => LeaveK h₀ L m g R (match fl with | .ret v => v | _ => .none) s')
        (fun e s' => wpAny (model prog w) (A.deeper (envOf qual scope L' f cdv)) (leaving (envOf qual scope L' f cdv) e) (fun _ s'' => R (.error e) s'') (fun e' s'' => R (.error e') s'') s')
        { s with heap := h₁, toks := s.toks + binds.length })
    (hco : scope.isCoroutine = false) (hgen : scope.isGenerator = false) (hk : scope.kind = .function)
    (hcell : ∀ x ∈ scope.names, x.2 ≠ .cell) : codeAny (model prog w) A (.call (.ref f) args) R s := by
  obtain ⟨FG, BG, st, lv⟩ := groundX (R := R) B F N hA hf hke
  refine codeAny_call_def (fd := fnOf name qual params body scope dV kV doc pm an cdv ct) (body := body) (binds := binds) hroom ((X₀.keeps F.keep) _ _ ho) rfl (T.nolimit.keeps F.keep) (codeRec_of (X₀.keeps F.keep) hcd) rfl hbind hcell hloc (fun h₁ hns hk₁ => ?_) hco hgen hk
  exact wpAny_mono (h _ s.heap.objs.size h₁ FG ⟨hns, fun b o e => hk₁ b o (of_hideAll _ e), Nat.le_of_eq (hideAll_size _ _)⟩
    (fun p hp => ⟨hk₁ _ _ (N p hp).1, Nat.ne_of_lt (Heap.lt_size (N p hp).1), hideAll_none _ (List.mem_map_of_mem hp)⟩) BG (X₀.keeps st) (T.keeps st)
    (fun b o e hb => hideAll_get _ e hb) (fun b o e => Heap.lt_size e)) (fun fl s' hl => lv _ _ hl) fun _ _ y => y


/-- a call that gives back: pre is what it touches, rest what it does not -/
def Ctr (prog : Program) (w : World) (K : Frag) (p : Program) (loose : List Str) (mean : ExcName → Option Value) (mg mb : Str → Option Value) (f : Addr) (D U : Nat) (vs : List Value) (pre : List (Addr × Obj)) (Post : Value → List (Addr × Obj) → Prop) : Prop :=
  ∀ (dp un : Nat) (gd : Option (List Code)) (cn : Str) (cs : Scope) (a : Addr) (ccd : Value) (cl : List (Str × Addr)) (outer : List Env) (A₀ : Around) (base h₀ : Heap) (L : Addr) (m : Str → Option Value) (rest : List (Addr × Obj)) (s : Shared)
    (Q E : Value → Shared → Prop),
    Below A₀ base outer h₀ → Fr h₀ L s.heap m → K.In h₀ → News h₀ L s.heap (pre ++ rest) → (∀ q ∈ rest, ∀ r ∈ pre, q.1 ≠ r.1) → Top p loose mean mg mb h₀ → cs.kind = .function → dp + D < recursionLimit → un + U < cLine →
    (∀ v pst h' tk', Post v pst → (∀ q ∈ rest, ∀ r ∈ pst, q.1 ≠ r.1) → Fr h₀ L h' m → News h₀ L h' (pst ++ rest) → Q v { s with heap := h', toks := tk' }) →
    wpAny (model prog w) (ktrTop dp un gd cn cs L a ccd cl outer) (call (.ref f) vs) Q E s

/-- the same of a call that reads what stands below (the script) -/
def CtrB (prog : Program) (w : World) (K : Frag) (p : Program) (loose : List Str) (mean : ExcName → Option Value) (mg mb : Str → Option Value) (f : Addr) (D U : Nat) (vs : List Value) (pre : List (Addr × Obj)) (Pb : Heap → Prop) (Post : Value → List (Addr × Obj) → Prop) : Prop :=
  ∀ (dp un : Nat) (gd : Option (List Code)) (cn : Str) (cs : Scope) (a : Addr) (ccd : Value) (cl : List (Str × Addr)) (outer : List Env) (A₀ : Around) (base h₀ : Heap) (L : Addr) (m : Str → Option Value) (rest : List (Addr × Obj)) (s : Shared)
    (Q E : Value → Shared → Prop),
    Below A₀ base outer h₀ → Pb base → Fr h₀ L s.heap m → K.In h₀ → News h₀ L s.heap (pre ++ rest) → (∀ q ∈ rest, ∀ r ∈ pre, q.1 ≠ r.1) → Top p loose mean mg mb h₀ → cs.kind = .function → dp + D < recursionLimit → un + U < cLine →
    (∀ v pst h' tk', Post v pst → (∀ q ∈ rest, ∀ r ∈ pst, q.1 ≠ r.1) → Fr h₀ L h' m → News h₀ L h' (pst ++ rest) → Q v { s with heap := h', toks := tk' }) →
    wpAny (model prog w) (ktrTop dp un gd cn cs L a ccd cl outer) (call (.ref f) vs) Q E s

theorem ret_news {h₀ g h h' : Heap} {L L' : Addr} {m' : Str → Option Value} {pre pst rest : List (Addr × Obj)} (kN : News h₀ L h' pst) (Fg : Fr g L' h' m') (hr : ∀ p ∈ rest, g.get? p.1 = some p.2) (N : News h₀ L h (pre ++ rest)) : News h₀ L h' (pst ++ rest) := by
  intro p hp
  rcases List.mem_append.mp hp with hp | hp
  · exact kN p hp
  · exact ⟨Fg.keep _ _ (hr p hp), (N p (List.mem_append_right _ hp)).2⟩
theorem news_left {h₀ h : Heap} {L : Addr} {pre rest : List (Addr × Obj)} (N : News h₀ L h (pre ++ rest)) : News h₀ L h pre := fun p hp => N p (List.mem_append_left _ hp)
theorem rest_kept {h₀ h g : Heap} {L : Addr} {pre rest : List (Addr × Obj)} (N : News h₀ L h (pre ++ rest)) (hd : ∀ q ∈ rest, ∀ r ∈ pre, q.1 ≠ r.1) (k : ∀ b o, h.get? b = some o → b ∉ pre.map (·.1) → g.get? b = some o) : ∀ p ∈ rest, g.get? p.1 = some p.2 := by
  intro p hp
  refine k _ _ (N p (List.mem_append_right _ hp)).1 fun hm => ?_
  obtain ⟨r, hr, e⟩ := List.mem_map.mp hm
  exact hd p hp r hr e.symm


/-- l less the entries at the addresses ads -/
inductive Rest (ads : List Addr) : List (Addr × Obj) → List (Addr × Obj) → Prop
  | nil : Rest ads [] []
  | tail {own : List (Addr × Obj)} : (∀ p ∈ own, p.1 ∉ ads) → Rest ads own own
  | drop {p : Addr × Obj} {l r : List (Addr × Obj)} : p.1 ∈ ads → Rest ads l r → Rest ads (p :: l) r
  | keep {p : Addr × Obj} {l r : List (Addr × Obj)} : p.1 ∉ ads → Rest ads l r → Rest ads (p :: l) (p :: r)
theorem Rest.sub {ads : List Addr} {l r : List (Addr × Obj)} (h : Rest ads l r) : ∀ p ∈ r, p ∈ l := by
  induction h with
  | nil => exact fun _ h => h
  | tail _ => exact fun _ h => h
  | drop _ _ ih => exact fun p hp => .tail _ (ih p hp)
  | keep _ _ ih =>
    intro p hp
    rcases List.mem_cons.mp hp with rfl | hp
    · exact .head _
    · exact .tail _ (ih p hp)
theorem Rest.off {ads : List Addr} {l r : List (Addr × Obj)} (h : Rest ads l r) : ∀ p ∈ r, p.1 ∉ ads := by
  induction h with
  | nil => exact fun _ h => nomatch h
  | tail h => exact h
  | drop _ _ ih => exact ih
  | keep hn _ ih =>
    intro p hp
    rcases List.mem_cons.mp hp with rfl | hp
    · exact hn
    · exact ih p hp
theorem off0 {a : Nat} : a ∉ ([] : List Addr) := List.not_mem_nil
theorem off1 {a b : Nat} {l : List Addr} (h : @Ne Nat a b) (t : a ∉ l) : a ∉ b :: l := by
  intro hm
  rcases List.mem_cons.mp hm with e | hm
  · exact h e
  · exact t hm
theorem own_off {own : List (Addr × Obj)} {adr ads : List Addr} (h : OwnOff own adr) (hs : ∀ b ∈ ads, b ∈ adr) : ∀ p ∈ own, p.1 ∉ ads := fun p hp hm => h p hp _ (hs _ hm) rfl

theorem Ctr.use {prog : Program} {w : World} {K : Frag} {p : Program} {loose : List Str} {mean : ExcName → Option Value} {mg mb : Str → Option Value} {f : Addr} {D U : Nat} {vs : List Value} {pre : List (Addr × Obj)} {Post : Value → List (Addr × Obj) → Prop}
    {dp un : Nat} {gd : Option (List Code)} {cn : Str} {cs : Scope} {a : Addr} {ccd : Value} {cl : List (Str × Addr)} {outer : List Env} {A₀ : Around} {base h₀ : Heap} {L : Addr} {m : Str → Option Value} {news rest : List (Addr × Obj)} {s : Shared} {Q E : Value → Shared → Prop}
    (C : Ctr prog w K p loose mean mg mb f D U vs pre Post) (B : Below A₀ base outer h₀) (F : Fr h₀ L s.heap m) (X : K.In h₀) (N : News h₀ L s.heap news) (T : Top p loose mean mg mb h₀) (hk : cs.kind = .function)
    (hp : ∀ q ∈ pre, q ∈ news) (hR : Rest (pre.map (·.1)) news rest) (hd : dp + D < recursionLimit) (hu : un + U < cLine)
    (ret : ∀ v pst h' tk', Post v pst → (∀ q ∈ rest, ∀ r ∈ pst, q.1 ≠ r.1) → Fr h₀ L h' m → News h₀ L h' (pst ++ rest) → Q v { s with heap := h', toks := tk' }) :
    wpAny (model prog w) (ktrTop dp un gd cn cs L a ccd cl outer) (call (.ref f) vs) Q E s :=
  C _ _ _ _ _ _ _ _ _ _ _ _ _ _ rest _ _ _ B F X (fun q hq => (List.mem_append.mp hq).elim (fun h => N q (hp q h)) fun h => N q (hR.sub q h))
    (fun q hq r hr e => hR.off q hq (List.mem_map.mpr ⟨r, hr, e.symm⟩)) T hk hd hu ret
theorem CtrB.use {prog : Program} {w : World} {K : Frag} {p : Program} {loose : List Str} {mean : ExcName → Option Value} {mg mb : Str → Option Value} {f : Addr} {D U : Nat} {vs : List Value} {pre : List (Addr × Obj)} {Pb : Heap → Prop} {Post : Value → List (Addr × Obj) → Prop}
    {dp un : Nat} {gd : Option (List Code)} {cn : Str} {cs : Scope} {a : Addr} {ccd : Value} {cl : List (Str × Addr)} {outer : List Env} {A₀ : Around} {base h₀ : Heap} {L : Addr} {m : Str → Option Value} {news rest : List (Addr × Obj)} {s : Shared} {Q E : Value → Shared → Prop}
    (C : CtrB prog w K p loose mean mg mb f D U vs pre Pb Post) (B : Below A₀ base outer h₀) (hB : Pb base) (F : Fr h₀ L s.heap m) (X : K.In h₀) (N : News h₀ L s.heap news) (T : Top p loose mean mg mb h₀) (hk : cs.kind = .function)
    (hp : ∀ q ∈ pre, q ∈ news) (hR : Rest (pre.map (·.1)) news rest) (hd : dp + D < recursionLimit) (hu : un + U < cLine)
    (ret : ∀ v pst h' tk', Post v pst → (∀ q ∈ rest, ∀ r ∈ pst, q.1 ≠ r.1) → Fr h₀ L h' m → News h₀ L h' (pst ++ rest) → Q v { s with heap := h', toks := tk' }) :
    wpAny (model prog w) (ktrTop dp un gd cn cs L a ccd cl outer) (call (.ref f) vs) Q E s :=
  C _ _ _ _ _ _ _ _ _ _ _ _ _ _ rest _ _ _ B hB F X (fun q hq => (List.mem_append.mp hq).elim (fun h => N q (hp q h)) fun h => N q (hR.sub q h))
    (fun q hq r hr e => hR.off q hq (List.mem_map.mpr ⟨r, hr, e.symm⟩)) T hk hd hu ret
/-- the end of a contract's walk -/
theorem m_ret {h₀ g h h' : Heap} {L L' : Addr} {m m' : Str → Option Value} {pre pst rest ng : List (Addr × Obj)} {s : Shared} {Q : Value → Shared → Prop} {Post : Value → List (Addr × Obj) → Prop} {v : Value} {tk' : Nat}
    (hret : ∀ v pst h' tk', Post v pst → (∀ q ∈ rest, ∀ r ∈ pst, q.1 ≠ r.1) → Fr h₀ L h' m → News h₀ L h' (pst ++ rest) → Q v { s with heap := h', toks := tk' })
    (Fg : Fr g L' h' m') (Ng : News g L' h' ng) (kF : Fr h₀ L h' m) (kN : News h₀ L h' ng) (hr : ∀ p ∈ rest, g.get? p.1 = some p.2) (N : News h₀ L h (pre ++ rest)) (hs : ∀ p ∈ pst, p ∈ ng) (hP : Post v pst) :
    Q v { s with heap := h', toks := tk' } := by
  refine hret v pst h' tk' hP (fun q hq r hr' e => ?_) kF (ret_news (fun p hp => kN p (hs p hp)) Fg hr N)
  have h1 := hr q hq
  have h2 := (Ng r (hs r hr')).2.2
  rw [e, h2] at h1
  cases h1
def AllNe (d : Nat) : List (Addr × Obj) → Prop
  | [] => True
  | p :: r => @Ne Nat p.1 d ∧ AllNe d r
theorem allNe_of {d : Addr} {o : Obj} : ∀ {l : List (Addr × Obj)}, (∀ q ∈ l, ∀ r ∈ [(d, o)], q.1 ≠ r.1) → AllNe d l
  | [], _ => trivial
  | p :: _, h => ⟨h p (.head _) _ (.head _), allNe_of fun q hq => h q (.tail _ hq)⟩
theorem news_of {h₀ h : Heap} {L : Addr} {l l' : List (Addr × Obj)} (N : News h₀ L h l) (hs : ∀ p ∈ l', p ∈ l) : News h₀ L h l' := fun p hp => N p (hs p hp)

/-- a hold for the walk -/
def Hold (P : Prop) : Prop := P
theorem hold {P : Prop} (h : Hold P) : P := h

theorem bits_le {x : Int} {M : Nat} (h : x.natAbs < 2 ^ M) : Builtin.Int.intBits x ≤ M := by
  unfold Builtin.Int.intBits
  by_cases h0 : x = 0
  · simp [h0]
  · have hb : (x == 0) = false := by simpa using h0
    rw [hb]
    have hp : x.natAbs ≠ 0 := by omega
    have := (Nat.log2_lt hp).mpr h
    simp only [Bool.false_eq_true, if_false]
    omega
theorem mulOk {a b : Int} (M N : Nat) (ha : a.natAbs < 2 ^ M) (hb : b.natAbs < 2 ^ N) (h : M + N ≤ 134217728) : IntMulOk a b := by
  have h1 := bits_le ha
  have h2 := bits_le hb
  unfold IntMulOk
  intro hc
  simp only [Bool.and_eq_true] at hc
  have h3 := hc.2
  unfold Builtin.Int.intTooBig at h3
  rw [decide_eq_true_eq, bitsLine_eq] at h3
  omega
theorem log2_small {x : Int} (h : x.natAbs < 18446744073709551616) : x.natAbs.log2 < 9000 := by
  by_cases hz : x.natAbs = 0
  · rw [hz]; decide
  · have := (Nat.log2_lt (k := 64) hz).mpr h
    omega
theorem log2_of {x : Int} {M : Nat} (h : x.natAbs < 2 ^ M) (hM : M ≤ 9000) (h0 : 0 < M) : x.natAbs.log2 < 9000 := by
  by_cases hz : x.natAbs = 0
  · rw [hz]; decide
  · exact Nat.lt_of_lt_of_le ((Nat.log2_lt hz).mpr h) hM

section
variable {prog : Program} {w : World} {A : Around} {E : Value → Shared → Prop} {s : Shared} {env : Env} {h₀ : Heap} {x : Str} {body : List Stmt} {Q : Flow → Shared → Prop}
/-- a turn's end, of a loop that may be broken -/
def MPost {σ : Type} (h₀ : Heap) (L : Addr) (Led : σ → List (Addr × Obj)) (ps : σ → List (Str × Value)) (Facts : σ → Prop) (x : Str) (stored : List Str) (m₀ : Str → Option Value) (P Pe : σ → Prop) (own : List (Addr × Obj)) (adr : List Addr) (s₁ : Shared) (Q : Flow → Shared → Prop) (f : Flow) (s₂ : Shared) : Prop :=
  match f with
  | .ret v => Q (.ret v) s₂
  | .brk => InvEndN h₀ L (KstS Led ps Facts x stored m₀ (fun _ => Pe) []) own adr s₁ s₂
  | _ => InvEndN h₀ L (KstS Led ps Facts x stored m₀ (fun _ => P) []) own adr s₁ s₂
theorem m_range {σ : Type} {r : Addr} {a₀ b₀ : Int} {t₀ u₀ v₀ : Tok} {n : Nat} {m₀ : Str → Option Value} {news : List (Addr × Obj)} (Led : σ → List (Addr × Obj)) (ps : σ → List (Str × Value)) (Facts : σ → Prop) (stored : List Str) (P : Nat → σ → Prop) (Pe : σ → Prop) (c₀ : σ)
    (hh : A.handled = none) (hr : IsRange s.heap r a₀ b₀ 1 t₀ u₀ v₀) (hsmall : Builtin.Range.small a₀ b₀ 1 = true) (hn : Builtin.Range.rangeSize a₀ b₀ 1 = (n : Int)) (F : Fr h₀ env.locals s.heap m₀) (N : News h₀ env.locals s.heap news) (hL : ∀ p ∈ Led c₀, p ∈ news)
    (hf : Facts c₀) (hk : ∀ p ∈ ps c₀, m₀ p.1 = some p.2) (hp : P 0 c₀) (hend : ∀ c, P n c → Pe c)
    (turn : ∀ (c : σ) (i : Nat) (k : Int) t (u : Str → Option Value) h tk own, k = a₀ + (i : Int) → i < n → OwnOff own ((Led c₀).map (·.1)) → Facts c → P i c →
      Fr h₀ env.locals h (fun y => if y = x then some (.int k t) else kstB (fun z => if stored.contains z then u z else m₀ z) (ps c) y) → News h₀ env.locals h (Led c ++ own) →
      wpAny (model prog w) A (execs body env) (MPost h₀ env.locals Led ps Facts x stored m₀ (P (i + 1)) Pe own ((Led c₀).map (·.1)) { s with heap := h, toks := tk } Q) E { s with heap := h, toks := tk })
    (done : ∀ (c : σ) (u : Str → Option Value) h tk, Facts c → Pe c → Fr h₀ env.locals h (fun y => if y = x then u y else kstB (fun z => if stored.contains z then u z else m₀ z) (ps c) y) → News h₀ env.locals h (Led c) → Q .next { s with heap := h, toks := tk }) :
    wpAny (model prog w) A (pyIter (.ref r)) (fun it s₂ => LoopAtV prog w A h₀ env x body Q E it s₂) E s := by
  refine kst_range (n := n) Led ps Facts stored (fun pre c => P pre.length c) c₀ hh hr hsmall hn F (fun p hp => N p (hL p hp)) hf hk hp ?_ fun c u h tk hf' hp' F' N' => done c u h tk hf' (hend c (by simpa [rangeKs_length] using hp')) F' N'
  intro c pre k t u h tk own hk' hlt hoff hf' hp' F' N'
  refine wpAny_mono (turn c pre.length k t u h tk own hk' hlt hoff hf' hp' F' N') (fun f s₂ q => ?_) fun _ _ x => x
  have up : ∀ {P' : σ → Prop}, InvEndN h₀ env.locals (KstS Led ps Facts x stored m₀ (fun _ => P') []) own ((Led c₀).map (·.1)) { s with heap := h, toks := tk } s₂ →
      ∃ c h' tk' m' news', s₂ = { s with heap := h', toks := tk' } ∧ Fr h₀ env.locals h' m' ∧ News h₀ env.locals h' news' ∧ (∀ p ∈ Led c, p ∈ news') ∧ (∀ p ∈ own, p ∈ news') ∧ (Led c).map (·.1) = (Led c₀).map (·.1) ∧ Facts c ∧ (∀ p ∈ ps c, m' p.1 = some p.2) ∧ (∀ z, z ≠ x → (∀ p ∈ ps c, z ≠ p.1) → stored.contains z = false → m' z = m₀ z) ∧ P' c := by
    rintro P' ⟨h', tk', m', news', nx, e, F'', N'', hn', ho, ha, c', rfl, hfc, h1, h2, hpc⟩
    exact ⟨c', h', tk', m', news', e, F'', N'', hn', ho, ha, hfc, h1, h2, hpc⟩
  have nxt : InvEndN h₀ env.locals (KstS Led ps Facts x stored m₀ (fun _ => P (pre.length + 1)) []) own ((Led c₀).map (·.1)) { s with heap := h, toks := tk } s₂ → InvEndN h₀ env.locals (KstS Led ps Facts x stored m₀ (fun pre c => P pre.length c) (pre ++ [k])) own ((Led c₀).map (·.1)) { s with heap := h, toks := tk } s₂ := by
    intro q
    obtain ⟨c', h', tk', m', news', e, F'', N'', hn', ho, ha, hfc, h1, h2, hpc⟩ := up q
    exact ⟨h', tk', m', news', Led c', e, F'', N'', hn', ho, ha, c', rfl, hfc, h1, h2, by simpa using hpc⟩
  cases f with
  | ret v => exact q
  | brk =>
    obtain ⟨c', h', tk', m', news', rfl, F'', N'', hn', ho, ha, hfc, h1, h2, hpc⟩ := up q
    exact done c' m' h' tk' hfc hpc (kst_frOut h1 h2 F'') (fun p hp => N'' p (hn' p hp))
  | next => exact nxt q
  | cont => exact nxt q
theorem m_end {σ : Type} {Led : σ → List (Addr × Obj)} {ps : σ → List (Str × Value)} {Facts : σ → Prop} {stored : List Str} {m₀ : Str → Option Value} {P : σ → Prop} (c : σ) {L : Addr} {m' : Str → Option Value} {own news' : List (Addr × Obj)} {adr : List Addr} {s₁ : Shared} {h' : Heap} {tk : Nat}
    (F : Fr h₀ L h' m') (N : News h₀ L h' news') (hn : ∀ p ∈ Led c, p ∈ news') (ho : ∀ p ∈ own, p ∈ news') (ha : (Led c).map (·.1) = adr) (hf : Facts c) (hk : ∀ p ∈ ps c, m' p.1 = some p.2) (hr : ∀ z, z ≠ x → (∀ p ∈ ps c, z ≠ p.1) → stored.contains z = false → m' z = m₀ z) (hp : P c) :
    InvEndN h₀ L (KstS Led ps Facts x stored m₀ (fun _ => P) []) own adr s₁ { s₁ with heap := h', toks := tk } :=
  kst_end c F N hn ho ha hf hk hr hp
end

/-- ways that meet behind a statement -/
def JEnd {σ : Type} (h₀ : Heap) (L : Addr) (Led : σ → List (Addr × Obj)) (ps : σ → List (Str × Value)) (stored : List Str) (m₀ : Str → Option Value) (P : σ → Prop) (s₁ s₂ : Shared) : Prop :=
  ∃ (c : σ) (h' : Heap) (tk : Nat) (m' : Str → Option Value) (news' : List (Addr × Obj)), s₂ = { s₁ with heap := h', toks := tk } ∧ Fr h₀ L h' m' ∧ News h₀ L h' news' ∧ (∀ p ∈ Led c, p ∈ news') ∧ (∀ p ∈ ps c, m' p.1 = some p.2) ∧ (∀ z, (∀ p ∈ ps c, z ≠ p.1) → stored.contains z = false → m' z = m₀ z) ∧ P c
def JPost {σ : Type} (h₀ : Heap) (L : Addr) (Led : σ → List (Addr × Obj)) (ps : σ → List (Str × Value)) (stored : List Str) (m₀ : Str → Option Value) (P : σ → Prop) (s₁ : Shared) (Q : Flow → Shared → Prop) (f : Flow) (s₂ : Shared) : Prop :=
  match f with
  | .next => JEnd h₀ L Led ps stored m₀ P s₁ s₂
  | f => Q f s₂
theorem m_join {M : Model} {A : Around} {E : Value → Shared → Prop} {s : Shared} {h₀ : Heap} {L : Addr} {Q : Flow → Shared → Prop} {t : Sem Flow} {σ : Type} {m₀ : Str → Option Value} (Led : σ → List (Addr × Obj)) (ps : σ → List (Str × Value)) (stored : List Str) (P : σ → Prop)
    (F : Fr h₀ L s.heap m₀)
    (h1 : wpAny M A t (JPost h₀ L Led ps stored m₀ P s Q) E s)
    (h2 : ∀ c (u : Str → Option Value) h tk, P c → Fr h₀ L h (kstB (fun z => if stored.contains z then u z else m₀ z) (ps c)) → News h₀ L h (Led c) → Q .next { s with heap := h, toks := tk }) :
    wpAny M A t Q E s := by
  refine wpAny_mono h1 (fun f s' hj => ?_) fun _ _ x => x
  cases f with
  | next =>
    obtain ⟨c, h', tk, m', news', rfl, F', N', hn, hk, hr, hP⟩ := hj
    exact h2 c m' h' tk hP (ksw_fr hk hr F') (fun p hp => N' p (hn p hp))
  | brk => exact hj
  | cont => exact hj
  | ret v => exact hj
theorem m_jend {σ : Type} {h₀ : Heap} {L : Addr} {Led : σ → List (Addr × Obj)} {ps : σ → List (Str × Value)} {stored : List Str} {m₀ : Str → Option Value} {P : σ → Prop} {s₁ : Shared} (c : σ) {h' : Heap} {tk : Nat} {m' : Str → Option Value} {news' : List (Addr × Obj)}
    (F : Fr h₀ L h' m') (N : News h₀ L h' news') (hn : ∀ p ∈ Led c, p ∈ news') (hk : ∀ p ∈ ps c, m' p.1 = some p.2) (hr : ∀ z, (∀ p ∈ ps c, z ≠ p.1) → stored.contains z = false → m' z = m₀ z) (hP : P c) :
    JEnd h₀ L Led ps stored m₀ P s₁ { s₁ with heap := h', toks := tk } := ⟨c, h', tk, m', news', rfl, F, N, hn, hk, hr, hP⟩

abbrev fstN {a b : Nat} (_ : @Ne Nat a b) : Nat := a
abbrev sndN {a b : Nat} (_ : @Ne Nat a b) : Nat := b
/-- the law's state: a place, and the cells -/
structure StT where
  i : Int
  t : Tok
  n : Nat
  vs : List Value
  ns : List Int
  n2 : Nat
def StOk (S : StT) : Prop := IntsAre S.vs S.ns ∧ 0 < S.ns.length ∧ S.ns.length ≤ 63
abbrev StL (st c : Nat) (S : StT) : List (Addr × Obj) := [(st, listOf #[.int S.i S.t, .ref c] S.n), (c, listOf S.vs.toArray S.n2)]

end Mine

namespace Mine
/-- bits -/
def Bd (k : Nat) (x : Int) : Prop := x.natAbs < 2 ^ k
theorem Bd.mono {j k : Nat} {x : Int} (h : Bd j x) (hk : j ≤ k) : Bd k x := Nat.lt_of_lt_of_le h (Nat.pow_le_pow_right (by decide) hk)
theorem Bd.small {k : Nat} {x : Int} (h : x.natAbs < 4294967296) (hk : 32 ≤ k) : Bd k x := Nat.lt_of_lt_of_le h (Nat.pow_le_pow_right (by decide) hk : 2 ^ 32 ≤ 2 ^ k)
theorem Bd.of_lt {k : Nat} {x y : Int} (h0 : 0 ≤ x) (h1 : x ≤ y) (h : Bd k y) : Bd k x := by
  unfold Bd at *; omega
theorem Bd.mul {j k : Nat} {a b : Int} (h1 : Bd j a) (h2 : Bd k b) : Bd (j + k) (a * b) := by
  unfold Bd at *
  rw [Int.natAbs_mul, Nat.pow_add]
  exact Nat.mul_lt_mul'' h1 h2
theorem Bd.mul2 {k : Nat} {a b : Int} (h1 : Bd (k / 2) a) (h2 : Bd (k / 2) b) : Bd k (a * b) := (h1.mul h2).mono (by omega)
theorem Bd.mulS {k : Nat} {a b : Int} (h1 : Bd (k - 32) a) (h2 : Bd 32 b) (hk : 32 ≤ k) : Bd k (a * b) := (h1.mul h2).mono (by omega)
theorem Bd.add {k : Nat} {a b : Int} (h1 : Bd (k - 1) a) (h2 : Bd (k - 1) b) (hk : 0 < k) : Bd k (a + b) := by
  unfold Bd at *
  have e : k = (k - 1) + 1 := by omega
  rw [e, Nat.pow_succ]
  omega
theorem Bd.sub {k : Nat} {a b : Int} (h1 : Bd (k - 1) a) (h2 : Bd (k - 1) b) (hk : 0 < k) : Bd k (a - b) := by
  unfold Bd at *
  have e : k = (k - 1) + 1 := by omega
  rw [e, Nat.pow_succ]
  omega
theorem Bd.neg {k : Nat} {a : Int} (h1 : Bd k a) : Bd k (-a) := by
  unfold Bd at *; omega
theorem Bd.lt {k : Nat} {x : Int} (h : Bd k x) : x < 2 ^ k := by
  unfold Bd at h
  have h5 : ((2 : Nat) ^ k : Nat) = (2 : Int) ^ k := by simp
  omega
theorem Bd.of_nn {k : Nat} {x : Int} (h0 : 0 ≤ x) (h : x < 2 ^ k) : Bd k x := by
  unfold Bd
  have h5 : ((2 : Nat) ^ k : Nat) = (2 : Int) ^ k := by simp
  omega
/-- euclid's loop with a lid of T turns -/
def GInv (T : Nat) (g : Nat) (i : Nat) (a b : Int) : Prop :=
  0 ≤ a ∧ 0 ≤ b ∧ Int.gcd a b = g ∧ (0 < i → b ≤ a) ∧ (a * b) * 2 ^ (i - 1) < 2 ^ (T - 1)
theorem fmod_nn {a b : Int} (hb : 0 < b) : 0 ≤ a.fmod b ∧ a.fmod b < b := by
  rw [Int.fmod_eq_emod_of_nonneg _ (Int.le_of_lt hb)]
  exact ⟨Int.emod_nonneg _ (by omega), Int.emod_lt_of_pos _ hb⟩
theorem gcd_fmod {a b : Int} (hb : 0 < b) : Int.gcd b (a.fmod b) = Int.gcd a b := by
  rw [Int.fmod_eq_emod_of_nonneg _ (Int.le_of_lt hb), Int.gcd_comm, Int.emod_def, Int.gcd_sub_mul_left_left]
theorem GInv.start {T : Nat} {a b : Int} (ha : 0 ≤ a) (hb : 0 ≤ b) (h : a * b < 2 ^ (T - 1)) : GInv T (Int.gcd a b) 0 a b :=
  ⟨ha, hb, rfl, fun h => absurd h (Nat.lt_irrefl _), by simpa using h⟩
theorem GInv.step {T g i : Nat} {a b : Int} (h : GInv T g i a b) (hb0 : b ≠ 0) : GInv T g (i + 1) b (a.fmod b) := by
  obtain ⟨ha, hb, hg, hle, hp⟩ := h
  have hb' : 0 < b := by omega
  obtain ⟨h1, h2⟩ := fmod_nn (a := a) hb'
  refine ⟨hb, h1, (gcd_fmod hb').trans hg, fun _ => Int.le_of_lt h2, ?_⟩
  rw [Nat.add_sub_cancel]
  by_cases hi : i = 0
  · subst hi
    simp only [Nat.zero_sub, Int.pow_zero, Int.mul_one] at hp ⊢
    refine Int.lt_of_le_of_lt ?_ hp
    rw [Int.mul_comm a b]
    refine Int.mul_le_mul_of_nonneg_left ?_ hb
    rw [Int.fmod_eq_emod_of_nonneg _ hb]
    have hq := Int.emod_add_mul_ediv a b
    have : 0 ≤ b * (a / b) := Int.mul_nonneg hb (Int.ediv_nonneg ha hb)
    omega
  · have hle' := hle (by omega)
    have e : i = (i - 1) + 1 := by omega
    have h3 : 2 * a.fmod b ≤ a := by
      rw [Int.fmod_eq_emod_of_nonneg _ hb]
      rw [Int.fmod_eq_emod_of_nonneg _ hb] at h2
      have hq := Int.emod_add_mul_ediv a b
      have hq1 : 1 ≤ a / b := by
        rw [Int.le_ediv_iff_mul_le hb']; omega
      have : b * 1 ≤ b * (a / b) := Int.mul_le_mul_of_nonneg_left hq1 hb
      omega
    have h4 : (b * a.fmod b) * 2 ≤ a * b := by
      have := Int.mul_le_mul_of_nonneg_left h3 hb
      rw [Int.mul_comm a b]
      calc (b * a.fmod b) * 2 = b * (2 * a.fmod b) := by rw [Int.mul_assoc, Int.mul_comm (a.fmod b)]
        _ ≤ b * a := this
    have h5 : (b * a.fmod b) * 2 ^ i = ((b * a.fmod b) * 2) * 2 ^ (i - 1) := by
      conv => lhs; rw [e]
      rw [Int.pow_succ]; simp only [Int.mul_assoc, Int.mul_comm]
    rw [h5]
    refine Int.lt_of_le_of_lt (Int.mul_le_mul_of_nonneg_right h4 ?_) hp
    exact Int.le_of_lt (Int.pow_pos (by decide))
theorem GInv.last {T g : Nat} {a b : Int} (hT : 0 < T) (h : GInv T g T a b) : b = 0 := by
  obtain ⟨ha, hb, hg, hle, hp⟩ := h
  have hle' := hle hT
  false_or_by_contra
  have h1 : 1 ≤ b := by omega
  have h2 : 1 ≤ a := by omega
  have h3 : 1 ≤ a * b := by
    have := Int.mul_le_mul h2 h1 (by decide) ha
    simpa using this
  have h4 : (2 : Int) ^ (T - 1) ≤ a * b * 2 ^ (T - 1) := by
    have := Int.mul_le_mul_of_nonneg_right (c := (2 : Int) ^ (T - 1)) h3 (Int.le_of_lt (Int.pow_pos (by decide)))
    simpa using this
  omega
theorem GInv.out {T g i : Nat} {a : Int} (h : GInv T g i a 0) : a = (g : Int) := by
  obtain ⟨ha, _, hg, _, _⟩ := h
  rw [Int.gcd_zero_right] at hg
  omega
theorem getD_all {l : List Int} {P : Int → Prop} (h : ∀ x ∈ l, P x) (h0 : P 0) (k : Nat) : P (l.getD k 0) := by
  rw [List.getD_eq_getElem?_getD]
  cases e : l[k]? with
  | none => exact h0
  | some x => exact h x (List.mem_of_getElem? e)
theorem pow_lt_pow {a : Int} {m n : Nat} (h1 : 1 ≤ a) (h : m ≤ n) : a ^ m ≤ a ^ n := by
  obtain ⟨k, rfl⟩ := Nat.exists_eq_add_of_le h
  rw [Int.pow_add]
  have h2 : 1 ≤ a ^ k := by
    have : 0 < a ^ k := Int.pow_pos (show 0 < a by omega)
    omega
  have h3 : 0 ≤ a ^ m := Int.le_of_lt (Int.pow_pos (show 0 < a by omega))
  have := Int.mul_le_mul_of_nonneg_left h2 h3
  omega
theorem number_pow {e r : Int} (h0 : 0 ≤ e) (h1 : e < 300) (h2 : 0 ≤ r) (h3 : r < 3) : 0 ≤ (2 : Int) ^ e.toNat + r - 1 ∧ Bd 300 ((2 : Int) ^ e.toNat + r - 1) := by
  have h4 : (2 : Int) ^ e.toNat ≤ 2 ^ 299 := pow_lt_pow (by decide) (by omega)
  have h5 : 0 < (2 : Int) ^ e.toNat := Int.pow_pos (by decide)
  have h6 : (2 : Int) ^ 299 + 2 < 2 ^ 300 := by decide
  exact ⟨by omega, Bd.of_nn (by omega) (by omega)⟩
theorem great_bd {r : Int} {k : Nat} (h0 : 0 ≤ r) (h : r < 1000003 ^ k) (hk : k ≤ 15) : Bd 300 r := by
  have h4 : (1000003 : Int) ^ k ≤ 1000003 ^ 15 := pow_lt_pow (by decide) hk
  have h6 : (1000003 : Int) ^ 15 < 2 ^ 300 := by decide
  exact Bd.of_nn h0 (by omega)
theorem GInv.startB {a b : Int} (ha : 0 ≤ a) (hb : 0 ≤ b) (h1 : Bd 990 a) (h2 : Bd 990 b) : GInv 2000 (Int.gcd a b) 0 a b :=
  GInv.start ha hb (((h1.mul h2).mono (by decide) : Bd 1999 (a * b)).lt)
end Mine

namespace Mine
/-- where extended_gcd's loop stands -/
structure ERun (oa ob a b x lx y ly : Int) : Prop where
  a0 : 0 < a
  ba : b < a
  aob : a ≤ ob
  altx : (0 ≤ x ∧ lx ≤ 0 ∧ a * x - b * lx = ob) ∨ (x ≤ 0 ∧ 0 ≤ lx ∧ b * lx - a * x = ob)
  alty : 0 ≤ oa → (0 ≤ y ∧ ly ≤ 0 ∧ a * y - b * ly = oa) ∨ (y ≤ 0 ∧ 0 ≤ ly ∧ b * ly - a * y = oa)
  lx1 : -ob ≤ lx
  lx2 : lx ≤ ob
  ly1 : 0 ≤ oa → -oa ≤ ly
  ly2 : 0 ≤ oa → ly ≤ oa ∨ ly ≤ 1
structure EInv (oa ob a b x lx y ly : Int) : Prop where
  hb : 0 ≤ b
  bz1 : lx * oa + ly * ob = a
  bz2 : x * oa + y * ob = b
  g : Int.gcd a b = Int.gcd oa ob
  st : (a = oa ∧ b = ob ∧ x = 0 ∧ lx = 1 ∧ y = 1 ∧ ly = 0) ∨ ERun oa ob a b x lx y ly
theorem EInv.start {oa ob : Int} (hb : 0 ≤ ob) : EInv oa ob oa ob 0 1 1 0 :=
  ⟨hb, by omega, by omega, rfl, .inl ⟨rfl, rfl, rfl, rfl, rfl, rfl⟩⟩
theorem fdiv_fmod (a b : Int) : b * a.fdiv b + a.fmod b = a := by
  have := Int.mul_fdiv_add_fmod a b
  omega
theorem mul_nn_le {a x o : Int} (ha : 0 < a) (hx : 0 ≤ x) (h : a * x ≤ o) : x ≤ o := by
  have : 1 * x ≤ a * x := Int.mul_le_mul_of_nonneg_right (by omega) hx
  omega
theorem EInv.step {oa ob a b x lx y ly : Int} (h : EInv oa ob a b x lx y ly) (h0 : b ≠ 0) :
    EInv oa ob b (a.fmod b) (lx - a.fdiv b * x) x (ly - a.fdiv b * y) y := by
  obtain ⟨hb, bz1, bz2, hg, st⟩ := h
  have hb0 : 0 < b := by omega
  have hm : 0 ≤ a.fmod b ∧ a.fmod b < b := by
    rw [Int.fmod_eq_emod_of_nonneg _ hb]
    exact ⟨Int.emod_nonneg _ h0, Int.emod_lt_of_pos _ hb0⟩
  have hq := fdiv_fmod a b
  generalize hQ : a.fdiv b = q at hq ⊢
  generalize hR : a.fmod b = r at hq hm ⊢
  have hgr : Int.gcd b r = Int.gcd oa ob := by
    rw [← hg, ← hq, Int.add_comm (b * q) r]
    rw [Int.gcd_comm b r, Int.gcd_add_mul_left_left]
  refine ⟨hm.1, bz2, ?_, hgr, .inr ?_⟩
  · have e1 : (lx - q * x) * oa + (ly - q * y) * ob = (lx * oa + ly * ob) - q * (x * oa + y * ob) := by
      simp only [Int.sub_mul, Int.mul_add, Int.mul_assoc]; omega
    rw [e1, bz1, bz2, Int.mul_comm q b]; omega
  · have expand : ∀ u v : Int, b * (u - q * v) - r * v = b * u - (b * q + r) * v := by
      intro u v
      simp only [Int.mul_sub, Int.add_mul, Int.mul_assoc]; omega
    rcases st with ⟨rfl, rfl, rfl, rfl, rfl, rfl⟩ | R
    · refine ⟨hb0, hm.2, Int.le_refl _, .inl ⟨by omega, by omega, by omega⟩, fun ho => .inr ?_, by omega, by omega, fun ho => by omega, fun _ => .inr (Int.le_refl _)⟩
      have hq0 : 0 ≤ q := by
        rw [← hQ, Int.fdiv_eq_ediv_of_nonneg _ hb]
        exact Int.ediv_nonneg ho hb
      refine ⟨by omega, by omega, ?_⟩
      simp only [Int.mul_one, Int.zero_sub, Int.mul_neg]; omega
    · have hq1 : 1 ≤ q := by
        rw [← hQ, Int.fdiv_eq_ediv_of_nonneg _ hb, Int.le_ediv_iff_mul_le hb0]
        have := R.ba; omega
      have sgn : ∀ {u v : Int}, (0 ≤ u ∧ v ≤ 0) → v - q * u ≤ 0 := by
        rintro u v ⟨h1, h2⟩
        have : 0 ≤ q * u := Int.mul_nonneg (by omega) h1
        omega
      have sgn' : ∀ {u v : Int}, (u ≤ 0 ∧ 0 ≤ v) → 0 ≤ v - q * u := by
        rintro u v ⟨h1, h2⟩
        have : 0 ≤ q * (-u) := Int.mul_nonneg (by omega) (by omega)
        rw [Int.mul_neg] at this
        omega
      have bdx : -ob ≤ x ∧ x ≤ ob := by
        rcases R.altx with ⟨h1, h2, h3⟩ | ⟨h1, h2, h3⟩
        · have h4 : 0 ≤ b * (-lx) := Int.mul_nonneg hb (by omega)
          rw [Int.mul_neg] at h4
          have := mul_nn_le R.a0 h1 (o := ob) (by omega)
          omega
        · have h4 : 0 ≤ b * lx := Int.mul_nonneg hb h2
          have := mul_nn_le R.a0 (x := -x) (o := ob) (by omega) (by rw [Int.mul_neg]; omega)
          omega
      have bdy : 0 ≤ oa → -oa ≤ y ∧ y ≤ oa := by
        intro ho
        rcases R.alty ho with ⟨h1, h2, h3⟩ | ⟨h1, h2, h3⟩
        · have h4 : 0 ≤ b * (-ly) := Int.mul_nonneg hb (by omega)
          rw [Int.mul_neg] at h4
          have := mul_nn_le R.a0 h1 (o := oa) (by omega)
          omega
        · have h4 : 0 ≤ b * ly := Int.mul_nonneg hb h2
          have := mul_nn_le R.a0 (x := -y) (o := oa) (by omega) (by rw [Int.mul_neg]; omega)
          omega
      have := R.ba
      have := R.aob
      refine ⟨hb0, hm.2, by omega, ?_, ?_, bdx.1, bdx.2, fun ho => (bdy ho).1, fun ho => .inl (bdy ho).2⟩
      · rcases R.altx with ⟨h1, h2, h3⟩ | ⟨h1, h2, h3⟩
        · refine .inr ⟨sgn ⟨h1, h2⟩, h1, ?_⟩
          have := expand lx x
          rw [hq] at this
          omega
        · refine .inl ⟨sgn' ⟨h1, h2⟩, h1, ?_⟩
          have := expand lx x
          rw [hq] at this
          omega
      · intro ho
        rcases R.alty ho with ⟨h1, h2, h3⟩ | ⟨h1, h2, h3⟩
        · refine .inr ⟨sgn ⟨h1, h2⟩, h1, ?_⟩
          have := expand ly y
          rw [hq] at this
          omega
        · refine .inl ⟨sgn' ⟨h1, h2⟩, h1, ?_⟩
          have := expand ly y
          rw [hq] at this
          omega
theorem natAbs_mul_lt {a b : Int} {M N : Nat} (h1 : a.natAbs < 2 ^ M) (h2 : b.natAbs < 2 ^ N) : (a * b).natAbs < 2 ^ (M + N) := by
  rw [Int.natAbs_mul, Nat.pow_add]
  exact Nat.mul_lt_mul'' h1 h2
theorem EInv.bd {oa ob a b x lx y ly : Int} {N : Nat} (h : EInv oa ob a b x lx y ly) (h1 : Bd N oa) (h2 : Bd N ob) (h0 : b ≠ 0) :
    (a.fdiv b).natAbs < 2 ^ (N + 1) ∧ x.natAbs < 2 ^ N ∧ y.natAbs < 2 ^ (N + N + 1) := by
  unfold Bd at h1 h2
  obtain ⟨hb, bz1, bz2, hg, st⟩ := h
  have hp : 0 < 2 ^ N := Nat.pow_pos (by decide)
  have ha : a.natAbs < 2 ^ N := by
    rcases st with ⟨rfl, _⟩ | R
    · exact h1
    · have := R.a0; have := R.aob; omega
  have hx : x.natAbs < 2 ^ N := by
    rcases st with ⟨_, _, rfl, _⟩ | R
    · simpa using hp
    · have ho : 0 < ob := by have := R.a0; have := R.aob; omega
      rcases R.altx with ⟨k1, k2, k3⟩ | ⟨k1, k2, k3⟩
      · have h4 : 0 ≤ b * (-lx) := Int.mul_nonneg hb (by omega)
        rw [Int.mul_neg] at h4
        have := mul_nn_le R.a0 k1 (o := ob) (by omega)
        omega
      · have h4 : 0 ≤ b * lx := Int.mul_nonneg hb k2
        have := mul_nn_le R.a0 (x := -x) (o := ob) (by omega) (by rw [Int.mul_neg]; omega)
        omega
  refine ⟨?_, hx, ?_⟩
  · have hq := fdiv_fmod a b
    have hm : 0 ≤ a.fmod b ∧ a.fmod b < b := by
      rw [Int.fmod_eq_emod_of_nonneg _ hb]
      exact ⟨Int.emod_nonneg _ h0, Int.emod_lt_of_pos _ (by omega)⟩
    generalize a.fdiv b = q at hq ⊢
    generalize a.fmod b = r at hq hm
    have hbl : b ≤ ob ∧ 0 < b := by
      rcases st with ⟨_, rfl, _⟩ | R
      · exact ⟨Int.le_refl _, by omega⟩
      · have := R.ba; have := R.aob; omega
    have e : (b * q).natAbs = b.natAbs * q.natAbs := Int.natAbs_mul ..
    have h5 : 1 * q.natAbs ≤ b.natAbs * q.natAbs := Nat.mul_le_mul_right _ (by omega)
    have h6 : (b * q).natAbs < 2 ^ N + 2 ^ N := by omega
    rw [Nat.pow_succ]; omega
  · have ho : 0 < ob ∨ ob = 0 := by
      rcases st with ⟨_, rfl, _⟩ | R
      · omega
      · have := R.a0; have := R.aob; omega
    rcases ho with ho | ho
    · have hbl : b ≤ ob := by
        rcases st with ⟨_, rfl, _⟩ | R
        · exact Int.le_refl _
        · have := R.ba; have := R.aob; omega
      have e : (y * ob).natAbs = y.natAbs * ob.natAbs := Int.natAbs_mul ..
      have h5 : y.natAbs * 1 ≤ y.natAbs * ob.natAbs := Nat.mul_le_mul_left _ (by omega)
      have h6 := natAbs_mul_lt hx h1
      have h7 : 2 ^ N ≤ 2 ^ (N + N) := Nat.pow_le_pow_right (by decide) (by omega)
      rw [Nat.pow_succ]
      omega
    · rcases st with ⟨_, rfl, _⟩ | R
      · exact absurd ho h0
      · have := R.a0; have := R.aob; omega
theorem EInv.bdb {oa ob a b x lx y ly : Int} {N : Nat} (h : EInv oa ob a b x lx y ly) (h2 : Bd N ob) : Bd N b := by
  unfold Bd at h2 ⊢
  obtain ⟨hb, bz1, bz2, hg, st⟩ := h
  rcases st with ⟨_, rfl, _⟩ | R
  · exact h2
  · have := R.ba; have := R.aob; omega
theorem EInv.lg {oa ob a b x lx y ly : Int} {N : Nat} (h : EInv oa ob a b x lx y ly) (h2 : Bd N ob) (hN : N ≤ 8000) : b.natAbs.log2 < 9000 :=
  log2_of (M := N + 1) (Nat.lt_trans (h.bdb h2) (by rw [Nat.pow_succ]; have : 0 < 2 ^ N := Nat.pow_pos (by decide); omega)) (by omega) (by omega)
theorem EInv.mul1 {oa ob a b x lx y ly : Int} {N : Nat} (h : EInv oa ob a b x lx y ly) (h1 : Bd N oa) (h2 : Bd N ob) (hN : N ≤ 1000000) (h0 : b ≠ 0) : IntMulOk (a.fdiv b) x :=
  mulOk _ _ (h.bd h1 h2 h0).1 (h.bd h1 h2 h0).2.1 (by omega)
theorem EInv.mul2 {oa ob a b x lx y ly : Int} {N : Nat} (h : EInv oa ob a b x lx y ly) (h1 : Bd N oa) (h2 : Bd N ob) (hN : N ≤ 1000000) (h0 : b ≠ 0) : IntMulOk (a.fdiv b) y :=
  mulOk _ _ (h.bd h1 h2 h0).1 (h.bd h1 h2 h0).2.2 (by omega)
theorem EInv.seven {a x lx y ly fx fy : Int} (h : EInv 7 4 a 0 x lx y ly) (hx : fx = if lx < 0 then lx + 4 else lx) (hy : fy = if ly < 0 then ly + 7 else ly) : (a == 1 && (fx == 3 && fy == 2)) = true := by
  obtain ⟨hb, bz1, bz2, hg, st⟩ := h
  have ha : a = 1 := by
    rw [Int.gcd_zero_right] at hg
    have e : Int.gcd 7 4 = 1 := by decide
    rw [e] at hg
    rcases st with ⟨h1, h2, _⟩ | R
    · omega
    · have := R.a0; omega
  rcases st with ⟨h1, h2, _⟩ | R
  · omega
  · have h1 := R.lx1
    have h2 := R.lx2
    have h3 : fx = 3 ∧ fy = 2 := by
      subst hx; subst hy
      split <;> split <;> omega
    rw [ha, h3.1, h3.2]; rfl
theorem EInv.gcdIs {oa ob a x lx y ly : Int} (h : EInv oa ob a 0 x lx y ly) (h1 : 0 ≤ oa ∨ 0 < ob) : a = (Int.gcd oa ob : Int) := by
  obtain ⟨hb, bz1, bz2, hg, st⟩ := h
  rw [Int.gcd_zero_right] at hg
  rcases st with ⟨k1, k2, _⟩ | R
  · omega
  · have := R.a0; omega
theorem EInv.fst {oa ob a x lx y ly fx : Int} (h : EInv oa ob a 0 x lx y ly) (hx : fx = if lx < 0 then lx + ob else lx) : 0 ≤ fx ∧ (fx ≤ ob ∨ fx ≤ 1) := by
  obtain ⟨hb, bz1, bz2, hg, st⟩ := h
  subst hx
  rcases st with ⟨k1, k2, k3, k4, k5, k6⟩ | R
  · split <;> omega
  · have h1 := R.lx1
    have h2 := R.lx2
    split <;> omega
theorem EInv.snd {oa ob a x lx y ly fy : Int} (h : EInv oa ob a 0 x lx y ly) (h0 : 0 ≤ oa) (hy : fy = if ly < 0 then ly + oa else ly) : 0 ≤ fy ∧ (fy ≤ oa ∨ fy ≤ 1) := by
  obtain ⟨hb, bz1, bz2, hg, st⟩ := h
  subst hy
  rcases st with ⟨k1, k2, k3, k4, k5, k6⟩ | R
  · split <;> omega
  · have h1 := R.ly1 h0
    have h2 := R.ly2 h0
    split <;> omega
theorem EInv.sum {oa ob a x lx y ly fx fy : Int} (h : EInv oa ob a 0 x lx y ly) (h0 : 0 ≤ oa) (h1 : 0 ≤ ob) (hx : fx = if lx < 0 then lx + ob else lx) (hy : fy = if ly < 0 then ly + oa else ly) :
    fx * oa + fy * ob = a ∨ fx * oa + fy * ob = a + oa * ob := by
  have ha := h.gcdIs (.inl h0)
  obtain ⟨hb, bz1, bz2, hg, st⟩ := h
  subst hx; subst hy
  have e := Int.mul_comm oa ob
  split
  · split
    · rename_i k1 k2
      have : lx * oa ≤ 0 := Int.mul_nonpos_of_nonpos_of_nonneg (by omega) h0
      have h5 : ly * ob ≤ 0 := Int.mul_nonpos_of_nonpos_of_nonneg (by omega) h1
      have : 0 ≤ a := by omega
      have e1 : (lx + ob) * oa = lx * oa + ob * oa := Int.add_mul ..
      have e2 : (ly + oa) * ob = ly * ob + oa * ob := Int.add_mul ..
      have e3 : oa * ob = 0 ∨ 0 < oa * ob := by
        have := Int.mul_nonneg h0 h1; omega
      rcases e3 with e3 | e3
      · omega
      · have o1 : 0 < oa := by
          rcases Int.lt_or_eq_of_le h0 with q | q
          · exact q
          · rw [← q] at e3; simp at e3
        have : lx * oa < 0 := Int.mul_neg_of_neg_of_pos (by omega) o1
        omega
    · have e1 : (lx + ob) * oa = lx * oa + ob * oa := Int.add_mul ..
      right; omega
  · split
    · have e2 : (ly + oa) * ob = ly * ob + oa * ob := Int.add_mul ..
      right; omega
    · left; omega
theorem mul_nn0 {a b : Int} (h1 : 0 ≤ a) (h2 : 0 ≤ b) : 0 ≤ a * b := Int.mul_nonneg h1 h2
theorem mulOkB {a b : Int} (M N : Nat) (ha : Bd M a) (hb : Bd N b) (h : M + N ≤ 134217728) : IntMulOk a b := mulOk M N ha hb h
theorem EInv.facts {oa ob a x lx y ly fx fy : Int} (h : EInv oa ob a 0 x lx y ly) (h0 : 0 ≤ oa) (h1 : 0 ≤ ob) (b1 : Bd 490 oa) (b2 : Bd 490 ob) (hx : fx = if lx < 0 then lx + ob else lx) (hy : fy = if ly < 0 then ly + oa else ly) :
    a = (Int.gcd oa ob : Int) ∧ 0 ≤ fx ∧ (fx ≤ ob ∨ fx ≤ 1) ∧ 0 ≤ fy ∧ (fy ≤ oa ∨ fy ≤ 1) ∧ IntMulOk fx oa ∧ IntMulOk fy ob ∧ IntMulOk oa ob ∧ (fx * oa + fy * ob = a ∨ fx * oa + fy * ob = a + oa * ob) := by
  have p1 := h.fst hx
  have p2 := h.snd h0 hy
  have q1 : Bd 490 fx := by
    rcases p1.2 with q | q
    · exact .of_lt p1.1 q b2
    · exact .small (by omega) (by decide)
  have q2 : Bd 490 fy := by
    rcases p2.2 with q | q
    · exact .of_lt p2.1 q b1
    · exact .small (by omega) (by decide)
  exact ⟨h.gcdIs (.inl h0), p1.1, p1.2, p2.1, p2.2, mulOkB _ _ q1 b1 (by decide), mulOkB _ _ q2 b2 (by decide), mulOkB _ _ b1 b2 (by decide), h.sum h0 h1 hx hy⟩
theorem Bd.lg {k : Nat} {x : Int} (h : Bd k x) (hk : k < 9000) : x.natAbs.log2 < 9000 :=
  log2_of (M := k + 1) (h.mono (Nat.le_succ k)) (by omega) (by omega)
end Mine

namespace Mine
open_top hd for PySem.Challenge.rw_ys0001_01
local macro_rules | `(tactic| walk_at "m_enter") => `(tactic| ((case kA => exact rfl); (case kF => exact rfl); (case kK => assumption); (case k1 => k_asm); (case k2 => k_asm); (case k3 => k_asm); (case k4 => k_asm); (case k5 => k_asm); (case k6 => k_is); (case k7 => k_is); (case k8 => ktr_room); (case k9 => exact BindsTo.of_eq rfl); (case c5 => decide); (case kB => exact locs rfl); (case c2 => exact rfl); (case c3 => exact rfl); (case c4 => exact rfl); k_whole))
local macro_rules | `(tactic| walk_at "m_pre") => `(tactic| first | exact List.forall_mem_nil _ | (refine List.forall_mem_cons.mpr ⟨?a, ?b⟩; (case a => k_mem); (case b => walk_at "m_pre")) | (intro p hp; kst_mem))
local macro_rules | `(tactic| walk_at "m_same") => `(tactic| (intro z h2 h3; (try simp only [List.forall_mem_cons, List.not_mem_nil, false_implies, implies_true, and_true, ne_eq] at h2); (try simp only [List.contains_cons, List.contains_nil, Bool.or_false, Bool.or_eq_false_iff, beq_eq_false_iff_ne, ne_eq] at h3); simp [kstB, h2, h3]))
local macro_rules | `(tactic| walk_at "m_same3") => `(tactic| (intro z h1 h2 h3; (try simp only [List.forall_mem_cons, List.not_mem_nil, false_implies, implies_true, and_true, ne_eq] at h2); (try simp only [List.contains_cons, List.contains_nil, Bool.or_false, Bool.or_eq_false_iff, beq_eq_false_iff_ne, ne_eq] at h3); simp [kstB, h1, h2, h3]))
local macro_rules | `(tactic| walk_at "m_off") => `(tactic| first | exact off0 | (refine' off1 ?a ?b; (case a => ((try dsimp only); first | assumption | (apply Ne.symm; assumption) | omega)); (case b => walk_at "m_off")))
local macro_rules | `(tactic| walk_at "m_rest") => `(tactic| first
  | exact Rest.nil
  | (refine' Rest.drop ?a ?b; (case a => k_mem); (case b => walk_at "m_rest"))
  | (refine' Rest.keep ?a ?b; (case a => walk_at "m_off"); (case b => walk_at "m_rest"))
  | exact Rest.tail (fun _ _ => List.not_mem_nil)
  | exact Rest.tail (own_off (by assumption) (by intro b hb; simp only [StL, List.map_cons, List.map_nil, List.mem_cons, List.not_mem_nil, or_false] at hb ⊢; omega)))
local macro_rules | `(tactic| walk_at "m_use") => `(tactic| ((case k1 => k_asm); (case k2 => k_asm); (case k3 => k_asm); (case k4 => k_asm); (case k5 => k_asm); (case kk => first | exact rfl | assumption); (case hp => walk_at "m_pre"); (case hR => walk_at "m_rest"); (case kd => ktr_room); (case ku => ktr_units)))
local macro_rules | `(tactic| walk_at "pyIter ref") => `(tactic| (refine hold ?_))
local macro_rules | `(tactic| walk_at "m_bd") => `(tactic| first | assumption | exact Bd.mono (by assumption) (by decide) | (refine Bd.small ?a ?b; (case b => decide); (case a => omega)) | (refine Bd.mulS ?a ?b ?c; (case c => decide); (case b => first | assumption | (refine Bd.small ?d ?e; (case e => decide); (case d => omega))); (case a => walk_at "m_bd")) | (refine Bd.mul2 ?a ?b; (case a => walk_at "m_bd"); (case b => walk_at "m_bd")) | (refine Bd.add ?a ?b ?c; (case c => decide); (case a => walk_at "m_bd"); (case b => walk_at "m_bd")) | (refine Bd.sub ?a ?b ?c; (case c => decide); (case a => walk_at "m_bd"); (case b => walk_at "m_bd")) | (refine Bd.neg ?a; (case a => walk_at "m_bd")))
local macro_rules | `(tactic| walk_at "m_fact") => `(tactic| first | assumption | omega | (refine mul_nn0 ?a ?b; (case a => walk_at "m_fact"); (case b => walk_at "m_fact")))
local macro_rules | `(tactic| walk_at "binaryOp Mult int int") => `(tactic| (refine mul_int ?_ ?m; (case m => first | assumption | exact mulOkB 990 990 (by walk_at "m_bd") (by walk_at "m_bd") (by decide) | mul_fits)))
local macro_rules | `(tactic| walk_at "call ref") => `(tactic| (k_here; refine hold ?_))
local macro_rules | `(tactic| walk_at "exec While") => `(tactic| (refine hold ?_))
local macro_rules | `(tactic| walk_at "exec While Compare") => `(tactic| (refine hold ?_))
local macro_rules | `(tactic| walk_at "binaryOp FloorDiv int int") => `(tactic| (refine floordiv_int ?ne ?_ (Or.inl (PyProof.noPylong_of_log2 ?lg)); (case ne => first | assumption | omega); (case lg => first | assumption | decide +kernel)))
theorem c_gcd (w : World) (mean : ExcName → Option Value) (mg mb : Str → Option Value) {one two : Int} {t1 t2 : Tok} (h1 : 0 ≤ one) (h2 : 0 ≤ two) (h3 : Bd 990 one) (h4 : Bd 990 two) :
    Ctr PySem.Challenge.rw_ys0001_01.row.prog w (Mine.hd.heap_39 w.params) Mine.hd.view_39 (looseW Mine.hd.view_39 []) mean mg mb 54 5 20 [.int one t1, .int two t2] []
      (fun v l => (∃ tr, v = .int (Int.gcd one two) tr) ∧ l = []) := by
  k_fill
  intro dp un gd cn cs' a ccd cl outer A₀ base h₀ L m rest s Q E B F X N hdis T hk hd hu hret
  refine wpAny_call ?_
  have N0 := news_left N
  k_dflt refine' code_defR (binds := [(Str.ofString "one", .int one t1), (Str.ofString "two", .int two t2)]) ?k1 ?k2 ?k3 ?k4 ?k5 ?kA ?kF ?kK ?k6 ?k7 ?k8 ?k9 ?kB ?_ ?c2 ?c3 ?c4 ?c5
  k_dflt walk_at "m_enter"
  intro g' L' h' FG F' N' B' X' T' kept small
  (try dsimp only)
  (try k_fold)
  have hr := rest_kept N hdis kept
  k_steps
  unfold Hold
  (try k_gentoks)
  rename IsRange _ _ _ _ _ _ _ _ => hrng
  rename Fr _ _ _ _ => fr1
  rename News _ _ _ _ => ne1
  k_dflt refine m_range (σ := Int × Tok × Int × Tok) (n := 2000) (fun _ => []) (fun c => [(Str.ofString "one", .int c.1 c.2.1), (Str.ofString "two", .int c.2.2.1 c.2.2.2)]) (fun _ => True) [Str.ofString "one", Str.ofString "two"]
    (fun i c => GInv 2000 (Int.gcd one two) i c.1 c.2.2.1) (fun c => c.1 = (Int.gcd one two : Int)) (one, t1, two, t2) rfl hrng (by decide) (by rfl) fr1 ne1 ?_ trivial ?_ ?_ ?_ ?_ ?_
  · exact List.forall_mem_nil _
  · kst_all
  · exact GInv.startB h1 h2 h3 h4
  · rintro ⟨a, ta, b, tb⟩ hp
    have := hp.last (by decide)
    dsimp only at this hp ⊢
    subst this
    exact hp.out
  · clear fr1 ne1
    rintro ⟨a, ta, b, tb⟩ i k t u h tk own hk' hi hoff - hp fr1 ne1
    dsimp only at hp fr1 ne1 ⊢
    (try k_fold)
    k_steps
    · rename _ = _ => hb0
      (try dsimp only at hb0)
      subst hb0
      dsimp only [MPost]
      rename Fr _ _ _ _ => fr2
      rename News _ _ _ _ => ne2
      with_unfolding_all exact m_end (_, _, _, _) fr2 ne2 (List.forall_mem_nil _) (by intro p hp; kst_mem) rfl trivial (List.forall_mem_cons.mpr ⟨rfl, List.forall_mem_cons.mpr ⟨rfl, List.forall_mem_nil _⟩⟩) (by intro z h1 h2 h3; simp only [List.forall_mem_cons, List.not_mem_nil, false_implies, implies_true, and_true, ne_eq] at h2; simp [kstB, h1, h2]) (hp.out)
    · rename _ ≠ _ => hb0
      dsimp only [MPost]
      rename Fr _ _ _ _ => fr2
      rename News _ _ _ _ => ne2
      with_unfolding_all exact m_end (_, _, _, _) fr2 ne2 (List.forall_mem_nil _) (by intro p hp; kst_mem) rfl trivial (List.forall_mem_cons.mpr ⟨rfl, List.forall_mem_cons.mpr ⟨rfl, List.forall_mem_nil _⟩⟩) (by intro z h1 h2 h3; simp only [List.forall_mem_cons, List.not_mem_nil, false_implies, implies_true, and_true, ne_eq] at h2; simp [kstB, h1, h2]) (hp.step hb0)
  · clear fr1 ne1
    rintro ⟨a, ta, b, tb⟩ u h tk - hp fr1 ne1
    dsimp only at hp fr1 ne1 ⊢
    replace fr1 : Fr g' L' h _ := fr1
    replace ne1 : News g' L' h _ := ne1
    k_sweep
    k_steps
    subst hp
    (rename Fr g' _ _ _ => fr8); (rename News g' _ _ _ => ne8); exact m_ret hret fr8 ne8 (by assumption) (by assumption) hr N (by walk_at "m_pre") ⟨⟨_, rfl⟩, rfl⟩
local macro_rules | `(tactic| walk_at "call ref") => `(tactic| (k_here; (with_reducible show wpAny _ _ (call (Value.ref 54) _) _ _ _); k_dflt (refine' Ctr.use (c_gcd _ _ _ _ ?h1 ?h2 ?h3 ?h4) ?k1 ?k2 ?k3 ?k4 ?k5 ?kk ?hp ?hR ?kd ?ku ?_; (walk_at "m_use"); (case h1 => walk_at "m_fact"); (case h2 => walk_at "m_fact"); (case h3 => walk_at "m_bd"); (case h4 => walk_at "m_bd"); k_whole); rintro v9 l9 h9 tk9 ⟨⟨tr9, e1⟩, e2⟩ hlo9 F9 N9; subst e1; subst e2; clear hlo9; (try dsimp only [List.nil_append] at N9); k_sweep; (try k_fold)))
theorem c_take (w : World) (mean : ExcName → Option Value) (mg mb : Str → Option Value) {st c : Nat} {S : StT} {most : Int} {tm : Tok} (hS : StOk S) (hm : 0 < most) (hlg : most.natAbs.log2 < 9000) (hne : @Ne Nat st c) :
    Ctr PySem.Challenge.rw_ys0001_01.row.prog w (Mine.hd.heap_39 w.params) Mine.hd.view_39 (looseW Mine.hd.view_39 []) mean mg mb 33 5 20 [.ref st, .int most tm] (StL st c S)
      (fun v l => ∃ r tr S', v = .int r tr ∧ 0 ≤ r ∧ r < most ∧ l = StL st c S' ∧ StOk S') := by
  obtain ⟨i, t, n, vs, ns, n2⟩ := S
  obtain ⟨hI, hl0, hl1⟩ := hS
  dsimp only at hI hl0 hl1
  k_fill
  intro dp un gd cn cs' a ccd cl outer A₀ base h₀ L m rest s Q E B F X N hdis T hk hd hu hret
  refine wpAny_call ?_
  have N0 := news_left N
  k_dflt refine' code_defR (binds := [(Str.ofString "state", .ref st), (Str.ofString "most", .int most tm)]) ?k1 ?k2 ?k3 ?k4 ?k5 ?kA ?kF ?kK ?k6 ?k7 ?k8 ?k9 ?kB ?_ ?c2 ?c3 ?c4 ?c5
  k_dflt walk_at "m_enter"
  intro g' L' h' FG F' N' B' X' T' kept small
  (try dsimp only)
  (try k_fold)
  have hr := rest_kept N hdis kept
  k_steps
  · rename IntsAre _ _ => hI2
    (rename Fr g' _ _ _ => fr8); (rename News g' _ _ _ => ne8); exact m_ret hret fr8 ne8 (by assumption) (by assumption) hr N (by walk_at "m_pre") ⟨_, _, ⟨_, _, _, _, _, _⟩, rfl, (fmod_nn hm).1, (fmod_nn hm).2, rfl, hI2, by simpa using hl0, by simpa using hl1⟩
  · (rename Fr g' _ _ _ => fr8); (rename News g' _ _ _ => ne8); exact m_ret hret fr8 ne8 (by assumption) (by assumption) hr N (by walk_at "m_pre") ⟨_, _, ⟨_, _, _, _, _, _⟩, rfl, (fmod_nn hm).1, (fmod_nn hm).2, rfl, hI, hl0, hl1⟩
local macro_rules | `(tactic| walk_at "call ref") => `(tactic| (k_here; (with_reducible show wpAny _ _ (call (Value.ref 33) _) _ _ _); k_dflt (refine' Ctr.use (c_take _ _ _ _ ?h1 ?h4 ?h5 ?h6) ?k1 ?k2 ?k3 ?k4 ?k5 ?kk ?hp ?hR ?kd ?ku ?_; (case h6 => first | assumption | omega); (walk_at "m_use"); (case h1 => assumption); (case h4 => first | decide | omega); (case h5 => first | decide | assumption | exact log2_small (by omega)); k_whole); rintro v9 l9 h9 tk9 ⟨r9, tr9, S9, e1, hr0, hr1, e2, hS9⟩ hlo9 F9 N9; subst e1; subst e2; clear hlo9; (try dsimp only [StL, List.cons_append, List.nil_append] at N9); k_sweep; (try k_fold)))
theorem c_great (w : World) (mean : ExcName → Option Value) (mg mb : Str → Option Value) {st c : Nat} {S : StT} {words : Int} {tm : Tok} (hS : StOk S) (hm : 0 ≤ words) (hm1 : words ≤ 15) (hne : @Ne Nat st c) :
    Ctr PySem.Challenge.rw_ys0001_01.row.prog w (Mine.hd.heap_39 w.params) Mine.hd.view_39 (looseW Mine.hd.view_39 []) mean mg mb 40 7 40 [.ref st, .int words tm] (StL st c S)
      (fun v l => ∃ r tr S', v = .int r tr ∧ 0 ≤ r ∧ Bd 300 r ∧ l = StL st c S' ∧ StOk S') := by
  k_fill
  intro dp un gd cn cs' a ccd cl outer A₀ base h₀ L m rest s Q E B F X N hdis T hk hd hu hret
  refine wpAny_call ?_
  have N0 := news_left N
  k_dflt refine' code_defR (binds := [(Str.ofString "state", .ref st), (Str.ofString "words", .int words tm)]) ?k1 ?k2 ?k3 ?k4 ?k5 ?kA ?kF ?kK ?k6 ?k7 ?k8 ?k9 ?kB ?_ ?c2 ?c3 ?c4 ?c5
  k_dflt walk_at "m_enter"
  intro g' L' h' FG F' N' B' X' T' kept small
  (try dsimp only)
  (try k_fold)
  have hr := rest_kept N hdis kept
  k_steps
  unfold Hold
  (try k_gentoks)
  rename IsRange _ _ _ _ _ _ _ _ => hrng
  rename Fr _ _ _ _ => fr1
  rename News _ _ _ _ => ne1
  with_unfolding_all refine m_range (σ := (Int × Tok) × StT) (n := words.toNat) (fun s => StL st c s.2) (fun s => [(Str.ofString "number", .int s.1.1 s.1.2)]) (fun s => StOk s.2) [Str.ofString "number"] (fun k s => 0 ≤ s.1.1 ∧ s.1.1 < 1000003 ^ k) (fun s => 0 ≤ s.1.1 ∧ s.1.1 < 1000003 ^ words.toNat) ((0, _), S) rfl hrng (small_one (by omega) (by omega) (by omega) (by omega)) (by rw [rangeSize_nat]; simp) fr1 ne1 (fun p hp => hp) hS (List.forall_mem_cons.mpr ⟨rfl, List.forall_mem_nil _⟩) (by constructor <;> simp) (fun _ h => h) ?_ ?_
  · clear fr1 ne1
    rintro ⟨⟨r, tr⟩, S1⟩ k kk t u h tk own hk' hi hoff hS1 ⟨hp1, hp2⟩ fr1 ne1
    dsimp only [StL, List.cons_append, List.nil_append] at hp1 hp2 hS1 fr1 ne1 ⊢
    replace fr1 : Fr g' L' h _ := fr1
    replace ne1 : News g' L' h _ := ne1
    k_sweep
    (try k_fold)
    k_steps
    dsimp only [MPost]
    rename Fr g' _ _ _ => fr2
    rename News g' _ _ _ => ne2
    rename StOk _ => hS2
    with_unfolding_all refine' m_end ((_, _), _) fr2 ne2 ?_ ?_ ?_ hS2 (List.forall_mem_cons.mpr ⟨rfl, List.forall_mem_nil _⟩) ?_ ?_
    · walk_at "m_pre"
    · intro p hp; kst_mem
    · rfl
    · intro z h1 h2 h3; simp only [List.forall_mem_cons, List.not_mem_nil, false_implies, implies_true, and_true, ne_eq] at h2; simp [kstB, h1, h2]
    · dsimp only
      rw [Int.pow_succ]
      constructor <;> omega
  · clear fr1 ne1
    rintro ⟨⟨r, tr⟩, S1⟩ u h tk hS1 ⟨hp1, hp2⟩ fr1 ne1
    dsimp only [StL] at hp1 hp2 hS1 fr1 ne1 ⊢
    replace fr1 : Fr g' L' h _ := fr1
    replace ne1 : News g' L' h _ := ne1
    k_sweep
    k_steps
    (rename Fr g' _ _ _ => fr8); (rename News g' _ _ _ => ne8); exact m_ret hret fr8 ne8 (by assumption) (by assumption) hr N (by walk_at "m_pre") ⟨_, _, _, rfl, hp1, great_bd hp1 hp2 (by omega), rfl, hS1⟩
local macro_rules | `(tactic| walk_at "call ref") => `(tactic| (k_here; (with_reducible show wpAny _ _ (call (Value.ref 40) _) _ _ _); k_dflt (refine' Ctr.use (c_great _ _ _ _ ?h1 ?h4 ?h5 ?h6) ?k1 ?k2 ?k3 ?k4 ?k5 ?kk ?hp ?hR ?kd ?ku ?_; (case h6 => first | assumption | omega); (walk_at "m_use"); (case h1 => assumption); (case h4 => omega); (case h5 => omega); k_whole); rintro v9 l9 h9 tk9 ⟨r9, tr9, S9, e1, hr0, hr1, e2, hS9⟩ hlo9 F9 N9; subst e1; subst e2; clear hlo9; (try dsimp only [StL, List.cons_append, List.nil_append] at N9); k_sweep; (try k_fold)))
theorem c_number (w : World) (mean : ExcName → Option Value) (mg mb : Str → Option Value) {st c : Nat} {S : StT} (hS : StOk S) (hne : @Ne Nat st c) :
    Ctr PySem.Challenge.rw_ys0001_01.row.prog w (Mine.hd.heap_39 w.params) Mine.hd.view_39 (looseW Mine.hd.view_39 []) mean mg mb 47 9 60 [.ref st] (StL st c S)
      (fun v l => ∃ r tr S', v = .int r tr ∧ 0 ≤ r ∧ Bd 300 r ∧ l = StL st c S' ∧ StOk S') := by
  k_fill
  intro dp un gd cn cs' a ccd cl outer A₀ base h₀ L m rest s Q E B F X N hdis T hk hd hu hret
  refine wpAny_call ?_
  have N0 := news_left N
  k_dflt refine' code_defR (binds := [(Str.ofString "state", .ref st)]) ?k1 ?k2 ?k3 ?k4 ?k5 ?kA ?kF ?kK ?k6 ?k7 ?k8 ?k9 ?kB ?_ ?c2 ?c3 ?c4 ?c5
  k_dflt walk_at "m_enter"
  intro g' L' h' FG F' N' B' X' T' kept small
  (try dsimp only)
  (try k_fold)
  have hr := rest_kept N hdis kept
  k_steps
  · rename StOk _ => hS2
    have hb := getD_all (l := [0, 1, 2, 255, 256, 65535, 65536]) (P := fun x => 0 ≤ x ∧ x.natAbs < 4294967296) (by decide) (by decide)
    (rename Fr g' _ _ _ => fr8); (rename News g' _ _ _ => ne8); exact m_ret hret fr8 ne8 (by assumption) (by assumption) hr N (by walk_at "m_pre") ⟨_, _, _, rfl, (hb _).1, (Bd.small (hb _).2 (by decide)), rfl, hS2⟩
  · rename StOk _ => hS2
    (rename Fr g' _ _ _ => fr8); (rename News g' _ _ _ => ne8); refine m_ret hret fr8 ne8 (by assumption) (by assumption) hr N (by walk_at "m_pre") ⟨_, _, _, rfl, ?_, ?_, rfl, hS2⟩
    · exact (number_pow (by assumption) (by assumption) (by assumption) (by assumption)).1
    · exact (number_pow (by assumption) (by assumption) (by assumption) (by assumption)).2
  · rename StOk _ => hS2
    (rename Fr g' _ _ _ => fr8); (rename News g' _ _ _ => ne8); exact m_ret hret fr8 ne8 (by assumption) (by assumption) hr N (by walk_at "m_pre") ⟨_, _, _, rfl, by assumption, by assumption, rfl, hS2⟩
local macro_rules | `(tactic| walk_at "call ref") => `(tactic| (k_here; (with_reducible show wpAny _ _ (call (Value.ref 47) _) _ _ _); k_dflt (refine' Ctr.use (c_number _ _ _ _ ?h1 ?h6) ?k1 ?k2 ?k3 ?k4 ?k5 ?kk ?hp ?hR ?kd ?ku ?_; (case h6 => first | assumption | omega); (walk_at "m_use"); (case h1 => assumption); k_whole); rintro v9 l9 h9 tk9 ⟨r9, tr9, S9, e1, hr0, hr1, e2, hS9⟩ hlo9 F9 N9; subst e1; subst e2; clear hlo9; (try dsimp only [StL, List.cons_append, List.nil_append] at N9); k_sweep; (try k_fold)))
theorem c_state (w : World) (mean : ExcName → Option Value) (mg mb : Str → Option Value) {sc : Nat} {vs : List Value} {ns : List Int} (hI : IntsAre vs ns) (hn : ns.length ≤ 100) :
    CtrB PySem.Challenge.rw_ys0001_01.row.prog w (Mine.hd.heap_39 w.params) Mine.hd.view_39 (looseW Mine.hd.view_39 []) mean mg mb 26 5 20 [.ref sc] [] (fun base => base.IsList sc vs.toArray)
      (fun v l => ∃ st c S, v = .ref st ∧ l = StL st c S ∧ StOk S ∧ @Ne Nat st c) := by
  k_fill
  intro dp un gd cn cs' a ccd cl outer A₀ base h₀ L m rest s Q E B hL0 F X N hdis T hk hd hu hret
  refine wpAny_call ?_
  have N0 := news_left N
  k_dflt refine' code_defR (binds := [(Str.ofString "script", .ref sc)]) ?k1 ?k2 ?k3 ?k4 ?k5 ?kA ?kF ?kK ?k6 ?k7 ?k8 ?k9 ?kB ?_ ?c2 ?c3 ?c4 ?c5
  k_dflt walk_at "m_enter"
  intro g' L' h' FG F' N' B' X' T' kept small
  have hL1 := stays_list B'.stays hL0
  (try dsimp only)
  (try k_fold)
  have hr := rest_kept N hdis kept
  k_steps
  · (rename Fr g' _ _ _ => fr8); (rename News g' _ _ _ => ne8); refine m_ret hret fr8 ne8 (by assumption) (by assumption) hr N (by walk_at "m_pre") ⟨_, _, ⟨0, _, 0, _, [0], _⟩, rfl, rfl, ⟨.cons 0 _ .nil, Nat.le_of_ble_eq_true rfl, Nat.le_of_ble_eq_true rfl⟩, ?_⟩
    refine neN ?_
    omega
  · rename ¬ _ = (0 : Int) => hz
    rename IntsAre _ (List.map _ _) => hI8
    (rename Fr g' _ _ _ => fr8); (rename News g' _ _ _ => ne8); refine m_ret hret fr8 ne8 (by assumption) (by assumption) hr N (by walk_at "m_pre") ⟨_, _, ⟨0, _, 0, _, _, _⟩, rfl, rfl, ⟨hI8, ?_, ?_⟩, ?_⟩
    · dsimp only; omega
    · dsimp only; rw [List.length_map, List.length_take]; omega
    · refine neN ?_
      omega
local macro_rules | `(tactic| walk_at "call ref") => `(tactic| (k_here; (with_reducible show wpAny _ _ (call (Value.ref 26) _) _ _ _); k_dflt (refine' CtrB.use (c_state _ _ _ _ ?h1 ?h2) ?k1 ?hB ?k2 ?k3 ?k4 ?k5 ?kk ?hp ?hR ?kd ?ku ?_; (case hB => assumption); (walk_at "m_use"); (case h1 => assumption); (case h2 => omega); k_whole); rintro v9 l9 h9 tk9 ⟨st9, c9, S9, e1, e2, hS9, hne9⟩ hlo9 F9 N9; subst e1; subst e2; clear hlo9; (try dsimp only [StL, List.cons_append, List.nil_append] at N9); k_sweep; (try k_fold)))
theorem c_egcd (w : World) (mean : ExcName → Option Value) (mg mb : Str → Option Value) {oa ob : Int} {t1 t2 : Tok} {B1 : Nat} (h1 : Bd B1 oa) (h2 : Bd B1 ob) (hB1 : B1 ≤ 8000) (hob : 0 ≤ ob) :
    Ctr PySem.Challenge.rw_ys0001_01.row.prog w (Mine.hd.heap_39 w.params) Mine.hd.view_39 (looseW Mine.hd.view_39 []) mean mg mb 21 5 20 [.int oa t1, .int ob t2] []
      (fun v l => ∃ q a fx fy lx ly x y u1 u2 u3, v = .ref q ∧ l = [(q, ({ cls := .type "tuple", data := .seq #[.int a u1, .int fx u2, .int fy u3] } : Obj))] ∧ EInv oa ob a 0 x lx y ly ∧ fx = (if lx < 0 then lx + ob else lx) ∧ fy = (if ly < 0 then ly + oa else ly)) := by
  k_fill
  intro dp un gd cn cs' a ccd cl outer A₀ base h₀ L m rest s Q E B F X N hdis T hk hd hu hret
  refine wpAny_call ?_
  have N0 := news_left N
  k_dflt refine' code_defR (binds := [(Str.ofString "a", .int oa t1), (Str.ofString "b", .int ob t2)]) ?k1 ?k2 ?k3 ?k4 ?k5 ?kA ?kF ?kK ?k6 ?k7 ?k8 ?k9 ?kB ?_ ?c2 ?c3 ?c4 ?c5
  k_dflt walk_at "m_enter"
  intro g' L' h' FG F' N' B' X' T' kept small
  (try dsimp only)
  (try k_fold)
  have hr := rest_kept N hdis kept
  k_steps
  unfold Hold
  (try k_gentoks)
  rename Fr _ _ _ _ => fr1
  rename News _ _ _ _ => ne1
  with_unfolding_all refine ksw_while (σ := (Int × Tok) × (Int × Tok) × (Int × Tok) × (Int × Tok) × (Int × Tok) × (Int × Tok)) (fun _ => []) (fun c => [(Str.ofString "a", .int c.1.1 c.1.2), (Str.ofString "b", .int c.2.1.1 c.2.1.2), (Str.ofString "x", .int c.2.2.1.1 c.2.2.1.2), (Str.ofString "lx", .int c.2.2.2.1.1 c.2.2.2.1.2), (Str.ofString "y", .int c.2.2.2.2.1.1 c.2.2.2.2.1.2), (Str.ofString "ly", .int c.2.2.2.2.2.1 c.2.2.2.2.2.2)]) (fun _ => True) [Str.ofString "q", Str.ofString "a", Str.ofString "b", Str.ofString "x", Str.ofString "lx", Str.ofString "y", Str.ofString "ly"] (fun c => EInv oa ob c.1.1 c.2.1.1 c.2.2.1.1 c.2.2.2.1.1 c.2.2.2.2.1.1 c.2.2.2.2.2.1) (fun c => c.2.1.1.toNat) ((oa, t1), (ob, t2), (0, _), (1, _), (1, _), (0, _)) fr1 ne1 trivial (List.forall_mem_cons.mpr ⟨rfl, List.forall_mem_cons.mpr ⟨rfl, List.forall_mem_cons.mpr ⟨rfl, List.forall_mem_cons.mpr ⟨rfl, List.forall_mem_cons.mpr ⟨rfl, List.forall_mem_cons.mpr ⟨rfl, List.forall_mem_nil _⟩⟩⟩⟩⟩⟩) (EInv.start hob) ?_ ?_
  · clear fr1 ne1
    rintro ⟨⟨a, ta⟩, ⟨b, tb⟩, ⟨x, tx⟩, ⟨lx, tlx⟩, ⟨y, ty⟩, ⟨ly, tly⟩⟩ u h tk - hp fr1 ne1
    dsimp only at hp fr1 ne1 ⊢
    replace fr1 : Fr g' L' h _ := fr1
    replace ne1 : News g' L' h _ := ne1
    k_sweep
    (try k_fold)
    have hlg := hp.lg h2 hB1
    k_steps
    · rename b ≠ 0 => hb0
      have hm1 := hp.mul1 h1 h2 (by omega) hb0
      have hm2 := hp.mul2 h1 h2 (by omega) hb0
      dsimp only
      k_steps
      rename Fr g' _ _ _ => fr2
      rename News g' _ _ _ => ne2
      with_unfolding_all refine' ksw_end ((_, _), (_, _), (_, _), (_, _), (_, _), (_, _)) fr2 ne2 (List.forall_mem_nil _) trivial (List.forall_mem_cons.mpr ⟨rfl, List.forall_mem_cons.mpr ⟨rfl, List.forall_mem_cons.mpr ⟨rfl, List.forall_mem_cons.mpr ⟨rfl, List.forall_mem_cons.mpr ⟨rfl, List.forall_mem_cons.mpr ⟨rfl, List.forall_mem_nil _⟩⟩⟩⟩⟩⟩) ?_ ?_ ?_
      · intro z h2 h3
        simp only [List.forall_mem_cons, List.not_mem_nil, false_implies, implies_true, and_true, ne_eq] at h2
        simp only [List.contains_cons, List.contains_nil, Bool.or_false, Bool.or_eq_false_iff, beq_eq_false_iff_ne, ne_eq] at h3
        simp [kstB, h2, h3]
      · exact hp.step hb0
      · have := hp.hb
        have := fmod_nn (a := a) (b := b) (by omega)
        show (a.fmod b).toNat < b.toNat
        omega
    all_goals (rename b = 0 => hb0; subst hb0; (rename Fr g' _ _ _ => fr8); (rename News g' _ _ _ => ne8); refine m_ret hret fr8 ne8 (by assumption) (by assumption) hr N (fun p hp => hp) ⟨_, _, _, _, lx, ly, x, y, _, _, _, rfl, rfl, hp, ?_, ?_⟩)
    · exact (if_pos (by assumption)).symm
    · exact (if_pos (by assumption)).symm
    · exact (if_pos (by assumption)).symm
    · exact (if_neg (by assumption)).symm
    · exact (if_neg (by assumption)).symm
    · exact (if_pos (by assumption)).symm
    · exact (if_neg (by assumption)).symm
    · exact (if_neg (by assumption)).symm
  · with_unfolding_all passes_own
local macro_rules | `(tactic| walk_at "call ref") => `(tactic| (k_here; (with_reducible show wpAny _ _ (call (Value.ref 21) _) _ _ _); k_dflt (refine' Ctr.use (c_egcd (B1 := 990) _ _ _ _ ?h1 ?h2 ?h3 ?h4) ?k1 ?k2 ?k3 ?k4 ?k5 ?kk ?hp ?hR ?kd ?ku ?_; (walk_at "m_use"); (case h1 => walk_at "m_bd"); (case h2 => walk_at "m_bd"); (case h3 => decide); (case h4 => walk_at "m_fact"); k_whole); rintro v9 l9 h9 tk9 ⟨q9, a9, fx9, fy9, lx9, ly9, x9, y9, u91, u92, u93, e1, e2, he9, hx9, hy9⟩ hlo9 F9 N9; subst e1; subst e2; (try obtain ⟨hg9, hf1, hf2, hf3, hf4, hf5, hf6, hf7, hf8⟩ := EInv.facts he9 (by walk_at "m_fact") (by walk_at "m_fact") (by walk_at "m_bd") (by walk_at "m_bd") hx9 hy9); replace hlo9 := allNe_of hlo9; (try simp only [AllNe, and_true] at hlo9); (try dsimp only [List.cons_append, List.nil_append] at N9); k_sweep; (try k_fold)))
local macro_rules | `(tactic| walk_at "exec If") => `(tactic| ((with_reducible show wpAny _ _ (exec (Stmt.If (Expr.Compare (Expr.Name (Str.ofString "kind") _) [CmpOp.Eq] [Expr.Constant (Const.int 0) _ _] _) _ _ _) _) _ _ _); refine hold ?_))
theorem holds : PySem.Challenge.rw_ys0001_01.Holds := by
  refine hd ?_
  k_go0
  (all_goals try k_fold)
  k_steps
  · unfold Hold
    (try k_gentoks)
    rename IsRange _ _ _ _ _ _ _ _ => hrng
    rename Fr _ _ _ _ => fr1
    rename News _ _ _ _ => ne1
    rename StOk _ => hS0
    rename @Ne Nat _ _ => hne0
    with_unfolding_all refine m_range (σ := StT) (n := 3) (fun s => StL _ _ s) (fun _ => []) StOk [Str.ofString "one", Str.ofString "two", Str.ofString "kind", Str.ofString "part", Str.ofString "told", Str.ofString "first", Str.ofString "second"] (fun _ _ => True) (fun _ => True) _ rfl hrng (by decide) (by rfl) fr1 ne1 (by walk_at "m_pre") hS0 (List.forall_mem_nil _) trivial (fun _ _ => trivial) ?_ ?_
    · clear fr1 ne1
      rintro S1 i k t u h tk own hk' hi hoff hS1 - fr1 ne1
      dsimp only [StL, List.cons_append, List.nil_append] at hS1 fr1 ne1 ⊢
      (try k_fold)
      k_steps
      unfold Hold
      rename Fr _ _ _ _ => fr1
      rename News _ _ _ _ => ne1
      rename StOk _ => hS0
      with_unfolding_all refine m_join (σ := (Int × Tok) × (Int × Tok) × StT) (fun s => StL (fstN hne0) (sndN hne0) s.2.2 ++ own) (fun s => [(Str.ofString "one", .int s.1.1 s.1.2), (Str.ofString "two", .int s.2.1.1 s.2.1.2)]) [Str.ofString "one", Str.ofString "two", Str.ofString "part"] (fun s => 0 ≤ s.1.1 ∧ 0 ≤ s.2.1.1 ∧ Bd 490 s.1.1 ∧ Bd 490 s.2.1.1 ∧ StOk s.2.2) fr1 ?_ ?_
      · refine wpAny_If ?_
        (try k_fold)
        k_steps
        all_goals (dsimp only [JPost]; (rename Fr _ _ _ _ => fr2); (rename News _ _ _ _ => ne2); (rename StOk _ => hS2))
        all_goals (with_unfolding_all refine' m_jend ((_, _), (_, _), _) fr2 ne2 ?_ (List.forall_mem_cons.mpr ⟨rfl, List.forall_mem_cons.mpr ⟨rfl, List.forall_mem_nil _⟩⟩) ?_ ⟨?_, ?_, ?_, ?_, hS2⟩)
        all_goals ((try dsimp only [fstN, sndN]); first | (walk_at "m_fact") | (walk_at "m_bd") | (walk_at "m_pre") | (walk_at "m_same"))
      · clear fr1 ne1
        rintro ⟨⟨one, t1⟩, ⟨two, t2⟩, S2⟩ u h tk ⟨p1, p2, p3, p4, hS2⟩ fr1 ne1
        dsimp only [fstN, sndN, StL, List.cons_append, List.nil_append] at p1 p2 p3 p4 hS2 fr1 ne1 ⊢
        (try k_fold)
        k_steps
        all_goals first | (exfalso; omega) | skip
        · dsimp only [MPost]
          rename Fr _ _ _ _ => fr2
          rename News _ _ _ _ => ne2
          with_unfolding_all refine' m_end S2 fr2 ne2 ?_ ?_ ?_ hS2 (List.forall_mem_nil _) ?_ trivial
          · walk_at "m_pre"
          · intro p hp; kst_mem
          · rfl
          · walk_at "m_same3"
        · exfalso
          rename _ = false => hf
          rename _ ∨ _ = _ + _ => h8
          rcases h8 with h8 | h8 <;> rw [h8] at hf <;> simp at hf
    · clear fr1 ne1
      rintro S1 u h tk hS1 - fr1 ne1
      dsimp only [StL] at hS1 fr1 ne1 ⊢
      k_steps
  · rename EInv _ _ _ _ _ _ _ _ => he
    rename _ = false => hf
    have hs := he.seven (by assumption) (by assumption)
    rw [hs] at hf
    cases hf
end Mine
theorem PySem.Challenge.cw_ys0001_01_holds : PySem.Challenge.rw_ys0001_01.Holds :=
  Mine.holds
