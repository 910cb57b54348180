import PyProof.Rows.All
import Wide.All
import OpenK.AllK
import Wide.FinOn
import Lean
import PySem.Challenge.RW_ys0001_11
set_option compiler.extract_closed false
open PySem PySem.W PySem.Spec PySem.Calls PyProof.Rows
set_option Elab.async false
set_option maxRecDepth 100000
set_option maxHeartbeats 8000000
set_option linter.unusedVariables false
set_option linter.unusedSimpArgs false
set_option linter.all false
namespace Mine
noncomputable section
noncomputable def nthS : List Stmt → Nat → Stmt
  | [], _ => default
  | s :: _, 0 => s
  | _ :: r, n + 1 => nthS r n
noncomputable def fdA : Stmt → Arguments
  | .FunctionDef _ a _ _ _ _ _ _ _ _ => a
  | _ => default
noncomputable def fdB : Stmt → List Stmt
  | .FunctionDef _ _ b _ _ _ _ _ _ _ => b
  | .ClassDef _ _ _ b _ _ _ _ _ _ _ => b
  | _ => []
noncomputable def fdS : Stmt → Scope
  | .FunctionDef _ _ _ _ _ _ s _ _ _ => s
  | _ => default
end
end Mine

namespace Mine

theorem code_defR {prog : Program} {w : World} {A₀ A : Around} {s : Shared} {K : Frag} {L : Addr} {h₀ base : Heap} {m mg mb : Str → Option Value} {news : List (Addr × Obj)} {p : Program} {loose : List Str} {mean : ExcName → Option Value}
    {env : Env} {outer : List Env} {R : Result → Shared → Prop} {name qual : Str} {params : Arguments} {body : List Stmt} {scope : Scope} {dV kV doc pm cdv ct oc : Value} {an od : Option Addr} {osl : Array (Option Value)} {f : Addr} {args : Args} {binds : List (Str × Value)}
    (B : Below A₀ base outer h₀) (F : Fr h₀ L s.heap m) (X₀ : K.In h₀) (N : News h₀ L s.heap news) (T : Top p loose mean mg mb h₀) (hA : A.frames = some (env :: outer)) (hf : env.frame = some L) (hke : env.scope.kind = .function)
    (ho : K.lookup f = some ⟨oc, od, .func (fnOf name qual params body scope dV kV doc pm an cdv ct), osl⟩) (hcd : codeIn K cdv qual = true) (hroom : A.depth < recursionLimit)
    (hbind : BindsTo s (fnOf name qual params body scope dV kV doc pm an cdv ct) args binds) (hloc : ∀ y ∈ binds, scope.names.lookup y.1 = some .local)
    (h : ∀ g L' h₁, Fr h₀ L g m → Fr g L' h₁ (fun y => binds.reverse.lookup y) → News g L' h₁ news → Below A base (env :: outer) g → K.In g → Top p loose mean mg mb g →
      (∀ b o, s.heap.get? b = some o → b ∉ news.map (·.1) → g.get? b = some o) → (∀ b o, s.heap.get? b = some o → b < L') →
      wpAny (model prog w) (A.deeper (envOf qual scope L' f cdv)) (execs body (envOf qual scope L' f cdv))
        (fun fl s' => LeaveK h₀ L m g R (match fl with | .ret v => v | _ => .none) s')
        (fun e s' => wpAny (model prog w) (A.deeper (envOf qual scope L' f cdv)) (leaving (envOf qual scope L' f cdv) e) (fun _ s'' => R (.error e) s'') (fun e' s'' => R (.error e') s'') s')
        { s with heap := h₁, toks := s.toks + binds.length })
    (hco : scope.isCoroutine = false) (hgen : scope.isGenerator = false) (hk : scope.kind = .function)
    (hcell : ∀ x ∈ scope.names, x.2 ≠ .cell) : codeAny (model prog w) A (.call (.ref f) args) R s := by
  obtain ⟨FG, BG, st, lv⟩ := groundX (R := R) B F N hA hf hke
  refine codeAny_call_def (fd := fnOf name qual params body scope dV kV doc pm an cdv ct) (body := body) (binds := binds) hroom ((X₀.keeps F.keep) _ _ ho) rfl (T.nolimit.keeps F.keep) (codeRec_of (X₀.keeps F.keep) hcd) rfl hbind hcell hloc (fun h₁ hns hk₁ => ?_) hco hgen hk
  exact wpAny_mono (h _ s.heap.objs.size h₁ FG ⟨hns, fun b o e => hk₁ b o (of_hideAll _ e), Nat.le_of_eq (hideAll_size _ _)⟩
    (fun p hp => ⟨hk₁ _ _ (N p hp).1, Nat.ne_of_lt (Heap.lt_size (N p hp).1), hideAll_none _ (List.mem_map_of_mem hp)⟩) BG (X₀.keeps st) (T.keeps st)
    (fun b o e hb => hideAll_get _ e hb) (fun b o e => Heap.lt_size e)) (fun fl s' hl => lv _ _ hl) fun _ _ y => y


noncomputable def Ctr (prog : Program) (w : World) (K : Frag) (p : Program) (loose : List Str) (mean : ExcName → Option Value) (mg mb : Str → Option Value) (f : Addr) (D U : Nat) (vs : List Value) (pre : List (Addr × Obj)) (Post : Value → List (Addr × Obj) → Prop) : Prop :=
  ∀ (dp un : Nat) (gd : Option (List Code)) (cn : Str) (cs : Scope) (a : Addr) (ccd : Value) (cl : List (Str × Addr)) (outer : List Env) (A₀ : Around) (base h₀ : Heap) (L : Addr) (m : Str → Option Value) (rest : List (Addr × Obj)) (s : Shared)
    (Q E : Value → Shared → Prop),
    Below A₀ base outer h₀ → Fr h₀ L s.heap m → K.In h₀ → News h₀ L s.heap (pre ++ rest) → (∀ q ∈ rest, ∀ r ∈ pre, q.1 ≠ r.1) → Top p loose mean mg mb h₀ → cs.kind = .function → dp + D < recursionLimit → un + U < cLine →
    (∀ v pst h' tk', Post v pst → (∀ q ∈ rest, ∀ r ∈ pst, q.1 ≠ r.1) → Fr h₀ L h' m → News h₀ L h' (pst ++ rest) → Q v { s with heap := h', toks := tk' }) →
    wpAny (model prog w) (ktrTop dp un gd cn cs L a ccd cl outer) (call (.ref f) vs) Q E s

noncomputable def CtrB (prog : Program) (w : World) (K : Frag) (p : Program) (loose : List Str) (mean : ExcName → Option Value) (mg mb : Str → Option Value) (f : Addr) (D U : Nat) (vs : List Value) (pre : List (Addr × Obj)) (Pb : Heap → Prop) (Post : Value → List (Addr × Obj) → Prop) : Prop :=
  ∀ (dp un : Nat) (gd : Option (List Code)) (cn : Str) (cs : Scope) (a : Addr) (ccd : Value) (cl : List (Str × Addr)) (outer : List Env) (A₀ : Around) (base h₀ : Heap) (L : Addr) (m : Str → Option Value) (rest : List (Addr × Obj)) (s : Shared)
    (Q E : Value → Shared → Prop),
    Below A₀ base outer h₀ → Pb base → Fr h₀ L s.heap m → K.In h₀ → News h₀ L s.heap (pre ++ rest) → (∀ q ∈ rest, ∀ r ∈ pre, q.1 ≠ r.1) → Top p loose mean mg mb h₀ → cs.kind = .function → dp + D < recursionLimit → un + U < cLine →
    (∀ v pst h' tk', Post v pst → (∀ q ∈ rest, ∀ r ∈ pst, q.1 ≠ r.1) → Fr h₀ L h' m → News h₀ L h' (pst ++ rest) → Q v { s with heap := h', toks := tk' }) →
    wpAny (model prog w) (ktrTop dp un gd cn cs L a ccd cl outer) (call (.ref f) vs) Q E s

theorem ret_news {h₀ g h h' : Heap} {L L' : Addr} {m' : Str → Option Value} {pre pst rest : List (Addr × Obj)} (kN : News h₀ L h' pst) (Fg : Fr g L' h' m') (hr : ∀ p ∈ rest, g.get? p.1 = some p.2) (N : News h₀ L h (pre ++ rest)) : News h₀ L h' (pst ++ rest) := by
  intro p hp
  rcases List.mem_append.mp hp with hp | hp
  · exact kN p hp
  · exact ⟨Fg.keep _ _ (hr p hp), (N p (List.mem_append_right _ hp)).2⟩
theorem news_left {h₀ h : Heap} {L : Addr} {pre rest : List (Addr × Obj)} (N : News h₀ L h (pre ++ rest)) : News h₀ L h pre := fun p hp => N p (List.mem_append_left _ hp)
theorem rest_kept {h₀ h g : Heap} {L : Addr} {pre rest : List (Addr × Obj)} (N : News h₀ L h (pre ++ rest)) (hd : ∀ q ∈ rest, ∀ r ∈ pre, q.1 ≠ r.1) (k : ∀ b o, h.get? b = some o → b ∉ pre.map (·.1) → g.get? b = some o) : ∀ p ∈ rest, g.get? p.1 = some p.2 := by
  intro p hp
  refine k _ _ (N p (List.mem_append_right _ hp)).1 fun hm => ?_
  obtain ⟨r, hr, e⟩ := List.mem_map.mp hm
  exact hd p hp r hr e.symm


inductive Rest (ads : List Addr) : List (Addr × Obj) → List (Addr × Obj) → Prop
  | nil : Rest ads [] []
  | tail {own : List (Addr × Obj)} : (∀ p ∈ own, p.1 ∉ ads) → Rest ads own own
  | drop {p : Addr × Obj} {l r : List (Addr × Obj)} : p.1 ∈ ads → Rest ads l r → Rest ads (p :: l) r
  | keep {p : Addr × Obj} {l r : List (Addr × Obj)} : p.1 ∉ ads → Rest ads l r → Rest ads (p :: l) (p :: r)
theorem Rest.sub {ads : List Addr} {l r : List (Addr × Obj)} (h : Rest ads l r) : ∀ p ∈ r, p ∈ l := by
  induction h with
  | nil => exact fun _ h => h
  | tail _ => exact fun _ h => h
  | drop _ _ ih => exact fun p hp => .tail _ (ih p hp)
  | keep _ _ ih =>
    intro p hp
    rcases List.mem_cons.mp hp with rfl | hp
    · exact .head _
    · exact .tail _ (ih p hp)
theorem Rest.off {ads : List Addr} {l r : List (Addr × Obj)} (h : Rest ads l r) : ∀ p ∈ r, p.1 ∉ ads := by
  induction h with
  | nil => exact fun _ h => nomatch h
  | tail h => exact h
  | drop _ _ ih => exact ih
  | keep hn _ ih =>
    intro p hp
    rcases List.mem_cons.mp hp with rfl | hp
    · exact hn
    · exact ih p hp
theorem off0 {a : Nat} : a ∉ ([] : List Addr) := List.not_mem_nil
theorem off1 {a b : Nat} {l : List Addr} (h : @Ne Nat a b) (t : a ∉ l) : a ∉ b :: l := by
  intro hm
  rcases List.mem_cons.mp hm with e | hm
  · exact h e
  · exact t hm
theorem own_off {own : List (Addr × Obj)} {adr ads : List Addr} (h : OwnOff own adr) (hs : ∀ b ∈ ads, b ∈ adr) : ∀ p ∈ own, p.1 ∉ ads := fun p hp hm => h p hp _ (hs _ hm) rfl

theorem Ctr.use {prog : Program} {w : World} {K : Frag} {p : Program} {loose : List Str} {mean : ExcName → Option Value} {mg mb : Str → Option Value} {f : Addr} {D U : Nat} {vs : List Value} {pre : List (Addr × Obj)} {Post : Value → List (Addr × Obj) → Prop}
    {dp un : Nat} {gd : Option (List Code)} {cn : Str} {cs : Scope} {a : Addr} {ccd : Value} {cl : List (Str × Addr)} {outer : List Env} {A₀ : Around} {base h₀ : Heap} {L : Addr} {m : Str → Option Value} {news rest : List (Addr × Obj)} {s : Shared} {Q E : Value → Shared → Prop}
    (C : Ctr prog w K p loose mean mg mb f D U vs pre Post) (B : Below A₀ base outer h₀) (F : Fr h₀ L s.heap m) (X : K.In h₀) (N : News h₀ L s.heap news) (T : Top p loose mean mg mb h₀) (hk : cs.kind = .function)
    (hp : ∀ q ∈ pre, q ∈ news) (hR : Rest (pre.map (·.1)) news rest) (hd : dp + D < recursionLimit) (hu : un + U < cLine)
    (ret : ∀ v pst h' tk', Post v pst → (∀ q ∈ rest, ∀ r ∈ pst, q.1 ≠ r.1) → Fr h₀ L h' m → News h₀ L h' (pst ++ rest) → Q v { s with heap := h', toks := tk' }) :
    wpAny (model prog w) (ktrTop dp un gd cn cs L a ccd cl outer) (call (.ref f) vs) Q E s :=
  C _ _ _ _ _ _ _ _ _ _ _ _ _ _ rest _ _ _ B F X (fun q hq => (List.mem_append.mp hq).elim (fun h => N q (hp q h)) fun h => N q (hR.sub q h))
    (fun q hq r hr e => hR.off q hq (List.mem_map.mpr ⟨r, hr, e.symm⟩)) T hk hd hu ret
theorem CtrB.use {prog : Program} {w : World} {K : Frag} {p : Program} {loose : List Str} {mean : ExcName → Option Value} {mg mb : Str → Option Value} {f : Addr} {D U : Nat} {vs : List Value} {pre : List (Addr × Obj)} {Pb : Heap → Prop} {Post : Value → List (Addr × Obj) → Prop}
    {dp un : Nat} {gd : Option (List Code)} {cn : Str} {cs : Scope} {a : Addr} {ccd : Value} {cl : List (Str × Addr)} {outer : List Env} {A₀ : Around} {base h₀ : Heap} {L : Addr} {m : Str → Option Value} {news rest : List (Addr × Obj)} {s : Shared} {Q E : Value → Shared → Prop}
    (C : CtrB prog w K p loose mean mg mb f D U vs pre Pb Post) (B : Below A₀ base outer h₀) (hB : Pb base) (F : Fr h₀ L s.heap m) (X : K.In h₀) (N : News h₀ L s.heap news) (T : Top p loose mean mg mb h₀) (hk : cs.kind = .function)
    (hp : ∀ q ∈ pre, q ∈ news) (hR : Rest (pre.map (·.1)) news rest) (hd : dp + D < recursionLimit) (hu : un + U < cLine)
    (ret : ∀ v pst h' tk', Post v pst → (∀ q ∈ rest, ∀ r ∈ pst, q.1 ≠ r.1) → Fr h₀ L h' m → News h₀ L h' (pst ++ rest) → Q v { s with heap := h', toks := tk' }) :
    wpAny (model prog w) (ktrTop dp un gd cn cs L a ccd cl outer) (call (.ref f) vs) Q E s :=
  C _ _ _ _ _ _ _ _ _ _ _ _ _ _ rest _ _ _ B hB F X (fun q hq => (List.mem_append.mp hq).elim (fun h => N q (hp q h)) fun h => N q (hR.sub q h))
    (fun q hq r hr e => hR.off q hq (List.mem_map.mpr ⟨r, hr, e.symm⟩)) T hk hd hu ret
theorem m_ret {h₀ g h h' : Heap} {L L' : Addr} {m m' : Str → Option Value} {pre pst rest ng : List (Addr × Obj)} {s : Shared} {Q : Value → Shared → Prop} {Post : Value → List (Addr × Obj) → Prop} {v : Value} {tk' : Nat}
    (hret : ∀ v pst h' tk', Post v pst → (∀ q ∈ rest, ∀ r ∈ pst, q.1 ≠ r.1) → Fr h₀ L h' m → News h₀ L h' (pst ++ rest) → Q v { s with heap := h', toks := tk' })
    (Fg : Fr g L' h' m') (Ng : News g L' h' ng) (kF : Fr h₀ L h' m) (kN : News h₀ L h' ng) (hr : ∀ p ∈ rest, g.get? p.1 = some p.2) (N : News h₀ L h (pre ++ rest)) (hs : ∀ p ∈ pst, p ∈ ng) (hP : Post v pst) :
    Q v { s with heap := h', toks := tk' } := by
  refine hret v pst h' tk' hP (fun q hq r hr' e => ?_) kF (ret_news (fun p hp => kN p (hs p hp)) Fg hr N)
  have h1 := hr q hq
  have h2 := (Ng r (hs r hr')).2.2
  rw [e, h2] at h1
  cases h1
theorem news_of {h₀ h : Heap} {L : Addr} {l l' : List (Addr × Obj)} (N : News h₀ L h l) (hs : ∀ p ∈ l', p ∈ l) : News h₀ L h l' := fun p hp => N p (hs p hp)

noncomputable def Hold (P : Prop) : Prop := P
theorem hold {P : Prop} (h : Hold P) : P := h

theorem bits_le {x : Int} {M : Nat} (h : x.natAbs < 2 ^ M) : Builtin.Int.intBits x ≤ M := by
  unfold Builtin.Int.intBits
  by_cases h0 : x = 0
  · simp [h0]
  · have hb : (x == 0) = false := by simpa using h0
    rw [hb]
    have hp : x.natAbs ≠ 0 := by lia
    have := (Nat.log2_lt hp).mpr h
    simp only [Bool.false_eq_true, if_false]
    lia
theorem mulOk {a b : Int} (M N : Nat) (ha : a.natAbs < 2 ^ M) (hb : b.natAbs < 2 ^ N) (h : M + N ≤ 134217728) : IntMulOk a b := by
  have h1 := bits_le ha
  have h2 := bits_le hb
  unfold IntMulOk
  intro hc
  simp only [Bool.and_eq_true] at hc
  have h3 := hc.2
  unfold Builtin.Int.intTooBig at h3
  rw [decide_eq_true_eq, bitsLine_eq] at h3
  lia
theorem log2_small {x : Int} (h : x.natAbs < 18446744073709551616) : x.natAbs.log2 < 9000 := by
  by_cases hz : x.natAbs = 0
  · rw [hz]; decide
  · have := (Nat.log2_lt (k := 64) hz).mpr h
    lia
theorem log2_of {x : Int} {M : Nat} (h : x.natAbs < 2 ^ M) (hM : M ≤ 9000) (h0 : 0 < M) : x.natAbs.log2 < 9000 := by
  by_cases hz : x.natAbs = 0
  · rw [hz]; decide
  · exact Nat.lt_of_lt_of_le ((Nat.log2_lt hz).mpr h) hM

section
variable {prog : Program} {w : World} {A : Around} {E : Value → Shared → Prop} {s : Shared} {env : Env} {h₀ : Heap} {x : Str} {body : List Stmt} {Q : Flow → Shared → Prop}
noncomputable def MPost {σ : Type} (h₀ : Heap) (L : Addr) (Led : σ → List (Addr × Obj)) (ps : σ → List (Str × Value)) (Facts : σ → Prop) (x : Str) (stored : List Str) (m₀ : Str → Option Value) (P Pe : σ → Prop) (own : List (Addr × Obj)) (adr : List Addr) (s₁ : Shared) (Q : Flow → Shared → Prop) (f : Flow) (s₂ : Shared) : Prop :=
  match f with
  | .ret v => Q (.ret v) s₂
  | .brk => InvEndN h₀ L (KstS Led ps Facts x stored m₀ (fun _ => Pe) []) own adr s₁ s₂
  | _ => InvEndN h₀ L (KstS Led ps Facts x stored m₀ (fun _ => P) []) own adr s₁ s₂
theorem m_range {σ : Type} {r : Addr} {a₀ b₀ : Int} {t₀ u₀ v₀ : Tok} {n : Nat} {m₀ : Str → Option Value} {news : List (Addr × Obj)} (Led : σ → List (Addr × Obj)) (ps : σ → List (Str × Value)) (Facts : σ → Prop) (stored : List Str) (P : Nat → σ → Prop) (Pe : σ → Prop) (c₀ : σ)
    (hh : A.handled = none) (hr : IsRange s.heap r a₀ b₀ 1 t₀ u₀ v₀) (hsmall : Builtin.Range.small a₀ b₀ 1 = true) (hn : Builtin.Range.rangeSize a₀ b₀ 1 = (n : Int)) (F : Fr h₀ env.locals s.heap m₀) (N : News h₀ env.locals s.heap news) (hL : ∀ p ∈ Led c₀, p ∈ news)
    (hf : Facts c₀) (hk : ∀ p ∈ ps c₀, m₀ p.1 = some p.2) (hp : P 0 c₀) (hend : ∀ c, P n c → Pe c)
    (turn : ∀ (c : σ) (i : Nat) (k : Int) t (u : Str → Option Value) h tk own, k = a₀ + (i : Int) → i < n → OwnOff own ((Led c₀).map (·.1)) → Facts c → P i c →
      Fr h₀ env.locals h (fun y => if y = x then some (.int k t) else kstB (fun z => if stored.contains z then u z else m₀ z) (ps c) y) → News h₀ env.locals h (Led c ++ own) →
      wpAny (model prog w) A (execs body env) (MPost h₀ env.locals Led ps Facts x stored m₀ (P (i + 1)) Pe own ((Led c₀).map (·.1)) { s with heap := h, toks := tk } Q) E { s with heap := h, toks := tk })
    (done : ∀ (c : σ) (u : Str → Option Value) h tk, Facts c → Pe c → Fr h₀ env.locals h (fun y => if y = x then u y else kstB (fun z => if stored.contains z then u z else m₀ z) (ps c) y) → News h₀ env.locals h (Led c) → Q .next { s with heap := h, toks := tk }) :
    wpAny (model prog w) A (pyIter (.ref r)) (fun it s₂ => LoopAtV prog w A h₀ env x body Q E it s₂) E s := by
  refine kst_range (n := n) Led ps Facts stored (fun pre c => P pre.length c) c₀ hh hr hsmall hn F (fun p hp => N p (hL p hp)) hf hk hp ?_ fun c u h tk hf' hp' F' N' => done c u h tk hf' (hend c (by simpa [rangeKs_length] using hp')) F' N'
  intro c pre k t u h tk own hk' hlt hoff hf' hp' F' N'
  refine wpAny_mono (turn c pre.length k t u h tk own hk' hlt hoff hf' hp' F' N') (fun f s₂ q => ?_) fun _ _ x => x
  have up : ∀ {P' : σ → Prop} {G : Prop}, InvEndN h₀ env.locals (KstS Led ps Facts x stored m₀ (fun _ => P') []) own ((Led c₀).map (·.1)) { s with heap := h, toks := tk } s₂ →
      (∀ (c : σ) (h' : Heap) (tk' : Nat) (m' : Str → Option Value) (news' : List (Addr × Obj)), s₂ = { s with heap := h', toks := tk' } → Fr h₀ env.locals h' m' → News h₀ env.locals h' news' → (∀ p ∈ Led c, p ∈ news') → (∀ p ∈ own, p ∈ news') → (Led c).map (·.1) = (Led c₀).map (·.1) → Facts c → (∀ p ∈ ps c, m' p.1 = some p.2) → (∀ z, z ≠ x → (∀ p ∈ ps c, z ≠ p.1) → stored.contains z = false → m' z = m₀ z) → P' c → G) → G := by
    rintro P' G ⟨h', tk', m', news', nx, e, F'', N'', hn', ho, ha, c', rfl, hfc, h1, h2, hpc⟩ k
    exact k c' h' tk' m' news' e F'' N'' hn' ho ha hfc h1 h2 hpc
  have nxt : InvEndN h₀ env.locals (KstS Led ps Facts x stored m₀ (fun _ => P (pre.length + 1)) []) own ((Led c₀).map (·.1)) { s with heap := h, toks := tk } s₂ → InvEndN h₀ env.locals (KstS Led ps Facts x stored m₀ (fun pre c => P pre.length c) (pre ++ [k])) own ((Led c₀).map (·.1)) { s with heap := h, toks := tk } s₂ :=
    fun q => up q fun c' h' tk' m' news' e F'' N'' hn' ho ha hfc h1 h2 hpc => ⟨h', tk', m', news', Led c', e, F'', N'', hn', ho, ha, c', rfl, hfc, h1, h2, by simpa using hpc⟩
  cases f with
  | ret v => exact q
  | brk =>
    refine up q fun c' h' tk' m' news' e F'' N'' hn' ho ha hfc h1 h2 hpc => ?_
    subst e
    exact done c' m' h' tk' hfc hpc (kst_frOut h1 h2 F'') (fun p hp => N'' p (hn' p hp))
  | next => exact nxt q
  | cont => exact nxt q
theorem m_end {σ : Type} {Led : σ → List (Addr × Obj)} {ps : σ → List (Str × Value)} {Facts : σ → Prop} {stored : List Str} {m₀ : Str → Option Value} {P : σ → Prop} (c : σ) {L : Addr} {m' : Str → Option Value} {own news' : List (Addr × Obj)} {adr : List Addr} {s₁ : Shared} {h' : Heap} {tk : Nat}
    (F : Fr h₀ L h' m') (N : News h₀ L h' news') (hn : ∀ p ∈ Led c, p ∈ news') (ho : ∀ p ∈ own, p ∈ news') (ha : (Led c).map (·.1) = adr) (hf : Facts c) (hk : ∀ p ∈ ps c, m' p.1 = some p.2) (hr : ∀ z, z ≠ x → (∀ p ∈ ps c, z ≠ p.1) → stored.contains z = false → m' z = m₀ z) (hp : P c) :
    InvEndN h₀ L (KstS Led ps Facts x stored m₀ (fun _ => P) []) own adr s₁ { s₁ with heap := h', toks := tk } :=
  kst_end c F N hn ho ha hf hk hr hp
end

noncomputable def JEnd {σ : Type} (h₀ : Heap) (L : Addr) (Led : σ → List (Addr × Obj)) (ps : σ → List (Str × Value)) (stored : List Str) (m₀ : Str → Option Value) (P : σ → Prop) (s₁ s₂ : Shared) : Prop :=
  ∃ (c : σ) (h' : Heap) (tk : Nat) (m' : Str → Option Value) (news' : List (Addr × Obj)), s₂ = { s₁ with heap := h', toks := tk } ∧ Fr h₀ L h' m' ∧ News h₀ L h' news' ∧ (∀ p ∈ Led c, p ∈ news') ∧ (∀ p ∈ ps c, m' p.1 = some p.2) ∧ (∀ z, (∀ p ∈ ps c, z ≠ p.1) → stored.contains z = false → m' z = m₀ z) ∧ P c
noncomputable def JPost {σ : Type} (h₀ : Heap) (L : Addr) (Led : σ → List (Addr × Obj)) (ps : σ → List (Str × Value)) (stored : List Str) (m₀ : Str → Option Value) (P : σ → Prop) (s₁ : Shared) (Q : Flow → Shared → Prop) (f : Flow) (s₂ : Shared) : Prop :=
  match f with
  | .next => JEnd h₀ L Led ps stored m₀ P s₁ s₂
  | f => Q f s₂
theorem m_join {M : Model} {A : Around} {E : Value → Shared → Prop} {s : Shared} {h₀ : Heap} {L : Addr} {Q : Flow → Shared → Prop} {t : Sem Flow} {σ : Type} {m₀ : Str → Option Value} (Led : σ → List (Addr × Obj)) (ps : σ → List (Str × Value)) (stored : List Str) (P : σ → Prop)
    (F : Fr h₀ L s.heap m₀)
    (h1 : wpAny M A t (JPost h₀ L Led ps stored m₀ P s Q) E s)
    (h2 : ∀ c (u : Str → Option Value) h tk, P c → Fr h₀ L h (kstB (fun z => if stored.contains z then u z else m₀ z) (ps c)) → News h₀ L h (Led c) → Q .next { s with heap := h, toks := tk }) :
    wpAny M A t Q E s := by
  refine wpAny_mono h1 (fun f s' hj => ?_) fun _ _ x => x
  cases f with
  | next =>
    obtain ⟨c, h', tk, m', news', rfl, F', N', hn, hk, hr, hP⟩ := hj
    exact h2 c m' h' tk hP (ksw_fr hk hr F') (fun p hp => N' p (hn p hp))
  | brk => exact hj
  | cont => exact hj
  | ret v => exact hj
theorem m_jend {σ : Type} {h₀ : Heap} {L : Addr} {Led : σ → List (Addr × Obj)} {ps : σ → List (Str × Value)} {stored : List Str} {m₀ : Str → Option Value} {P : σ → Prop} {s₁ : Shared} (c : σ) {h' : Heap} {tk : Nat} {m' : Str → Option Value} {news' : List (Addr × Obj)}
    (F : Fr h₀ L h' m') (N : News h₀ L h' news') (hn : ∀ p ∈ Led c, p ∈ news') (hk : ∀ p ∈ ps c, m' p.1 = some p.2) (hr : ∀ z, (∀ p ∈ ps c, z ≠ p.1) → stored.contains z = false → m' z = m₀ z) (hP : P c) :
    JEnd h₀ L Led ps stored m₀ P s₁ { s₁ with heap := h', toks := tk } := ⟨c, h', tk, m', news', rfl, F, N, hn, hk, hr, hP⟩

set_option genInjectivity false in
structure StT where
  i : Int
  t : Tok
  n : Nat
  vs : List Value
  ns : List Int
  n2 : Nat
noncomputable abbrev StL (st c : Nat) (S : StT) : List (Addr × Obj) := [(st, listOf #[.int S.i S.t, .ref c] S.n), (c, listOf S.vs.toArray S.n2)]

inductive PInt (z : Int) (l0 : List (Addr × Obj)) : Value → List (Addr × Obj) → Prop
  | mk (tr : Tok) : PInt z l0 (.int z tr) l0
theorem PInt.of {z z' : Int} {l0 : List (Addr × Obj)} {tr : Tok} (h : z' = z) : PInt z l0 (.int z' tr) l0 := h ▸ .mk tr
inductive PUnb (n z : Int) (l0 : List (Addr × Obj)) : Value → List (Addr × Obj) → Prop
  | mk (r : Int) (tr : Tok) (h0 : 0 ≤ r) (h1 : r < n) (h2 : n ∣ r - z) : PUnb n z l0 (.int r tr) l0
inductive PByt (ks : List Int) (l0 : List (Addr × Obj)) : Value → List (Addr × Obj) → Prop
  | mk (b : Array UInt8) (tb : Tok) (h : KBw.bInts b = ks) : PByt ks l0 (.bytes b tb) l0
inductive PStr (x : Str) (l0 : List (Addr × Obj)) : Value → List (Addr × Obj) → Prop
  | mk (tk : Tok) : PStr x l0 (.str x tk) l0
noncomputable def sepR (a : Nat) : List (Addr × Obj) → Prop → Prop
  | [], P => P
  | r :: rs, P => @Ne Nat a r.1 ∧ sepR a rs P
noncomputable def sepL (rs : List (Addr × Obj)) : List (Addr × Obj) → Prop
  | [] => True
  | p :: l => sepR p.1 rs (sepL rs l)
theorem sepR_of {a : Nat} {P : Prop} (h : P) : ∀ {rs : List (Addr × Obj)}, (∀ r ∈ rs, a ≠ r.1) → sepR a rs P
  | [], _ => h
  | r :: _, k => ⟨k r (.head _), sepR_of h fun q hq => k q (.tail _ hq)⟩
theorem sepL_of {rs : List (Addr × Obj)} : ∀ {l : List (Addr × Obj)}, (∀ q ∈ l, ∀ r ∈ rs, q.1 ≠ r.1) → sepL rs l
  | [], _ => trivial
  | p :: _, h => sepR_of (sepL_of fun q hq => h q (.tail _ hq)) (h p (.head _))
theorem room0 {dp D R : Nat} (hd : dp + D < R) : dp < R := Nat.lt_of_le_of_lt (Nat.le_add_right _ _) hd
theorem roomj {dp D k R : Nat} (hd : dp + D < R) (h : k ≤ D) : dp + k < R := by lia
theorem roomk2 {dp D d k j R : Nat} (hd : dp + D < R) (h : j + k + d ≤ D) : dp + j + k + d < R := by lia
theorem roomk {dp D d k R : Nat} (hd : dp + D < R) (h : k + d ≤ D) : dp + k + d < R := by lia

end Mine

namespace Mine
noncomputable def Bd (k : Nat) (x : Int) : Prop := x.natAbs < 2 ^ k
theorem Bd.mono {j k : Nat} {x : Int} (h : Bd j x) (hk : j ≤ k) : Bd k x := Nat.lt_of_lt_of_le h (Nat.pow_le_pow_right (by decide) hk)
theorem Bd.small {k : Nat} {x : Int} (h : x.natAbs < 4294967296) (hk : 32 ≤ k) : Bd k x := Nat.lt_of_lt_of_le h (Nat.pow_le_pow_right (by decide) hk : 2 ^ 32 ≤ 2 ^ k)
theorem Bd.of_lt {k : Nat} {x y : Int} (h0 : 0 ≤ x) (h1 : x ≤ y) (h : Bd k y) : Bd k x := by
  unfold Bd at *; lia
theorem Bd.mul {j k : Nat} {a b : Int} (h1 : Bd j a) (h2 : Bd k b) : Bd (j + k) (a * b) := by
  unfold Bd at *
  rw [Int.natAbs_mul, Nat.pow_add]
  exact Nat.mul_lt_mul'' h1 h2
theorem Bd.mul2 {k : Nat} {a b : Int} (h1 : Bd (k / 2) a) (h2 : Bd (k / 2) b) : Bd k (a * b) := (h1.mul h2).mono (by lia)
theorem Bd.mulS {k : Nat} {a b : Int} (h1 : Bd (k - 32) a) (h2 : Bd 32 b) (hk : 32 ≤ k) : Bd k (a * b) := (h1.mul h2).mono (by lia)
theorem Bd.add {k : Nat} {a b : Int} (h1 : Bd (k - 1) a) (h2 : Bd (k - 1) b) (hk : 0 < k) : Bd k (a + b) := by
  unfold Bd at *
  have e : k = (k - 1) + 1 := by lia
  rw [e, Nat.pow_succ, Nat.mul_two]
  exact Nat.lt_of_le_of_lt (Int.natAbs_add_le a b) (Nat.add_lt_add h1 h2)
theorem Bd.sub {k : Nat} {a b : Int} (h1 : Bd (k - 1) a) (h2 : Bd (k - 1) b) (hk : 0 < k) : Bd k (a - b) := by
  unfold Bd at *
  have e : k = (k - 1) + 1 := by lia
  rw [e, Nat.pow_succ, Nat.mul_two]
  exact Nat.lt_of_le_of_lt (Int.natAbs_sub_le a b) (Nat.add_lt_add h1 h2)
theorem Bd.neg {k : Nat} {a : Int} (h1 : Bd k a) : Bd k (-a) := by
  unfold Bd at *; rw [Int.natAbs_neg]; exact h1
theorem Bd.lt {k : Nat} {x : Int} (h : Bd k x) : x < 2 ^ k := by
  unfold Bd at h
  have h5 : ((2 : Nat) ^ k : Nat) = (2 : Int) ^ k := by simp
  lia
theorem Bd.of_nn {k : Nat} {x : Int} (h0 : 0 ≤ x) (h : x < 2 ^ k) : Bd k x := by
  unfold Bd
  have h5 : ((2 : Nat) ^ k : Nat) = (2 : Int) ^ k := by simp
  lia
noncomputable def GInv (T : Nat) (g : Nat) (i : Nat) (a b : Int) : Prop :=
  0 ≤ a ∧ 0 ≤ b ∧ Int.gcd a b = g ∧ (0 < i → b ≤ a) ∧ (a * b) * 2 ^ (i - 1) < 2 ^ (T - 1)
theorem fmod_nn {a b : Int} (hb : 0 < b) : 0 ≤ a.fmod b ∧ a.fmod b < b := by
  rw [Int.fmod_eq_emod_of_nonneg _ (Int.le_of_lt hb)]
  exact ⟨Int.emod_nonneg _ (by lia), Int.emod_lt_of_pos _ hb⟩
theorem gcd_fmod {a b : Int} (hb : 0 < b) : Int.gcd b (a.fmod b) = Int.gcd a b := by
  rw [Int.fmod_eq_emod_of_nonneg _ (Int.le_of_lt hb), Int.gcd_comm, Int.emod_def, Int.gcd_sub_mul_left_left]
theorem GInv.start {T : Nat} {a b : Int} (ha : 0 ≤ a) (hb : 0 ≤ b) (h : a * b < 2 ^ (T - 1)) : GInv T (Int.gcd a b) 0 a b :=
  ⟨ha, hb, rfl, fun h => absurd h (Nat.lt_irrefl _), by simpa using h⟩
theorem GInv.step {T g i : Nat} {a b : Int} (h : GInv T g i a b) (hb0 : b ≠ 0) : GInv T g (i + 1) b (a.fmod b) := by
  obtain ⟨ha, hb, hg, hle, hp⟩ := h
  have hb' : 0 < b := by lia
  obtain ⟨h1, h2⟩ := fmod_nn (a := a) hb'
  refine ⟨hb, h1, (gcd_fmod hb').trans hg, fun _ => Int.le_of_lt h2, ?_⟩
  rw [Nat.add_sub_cancel]
  by_cases hi : i = 0
  · subst hi
    simp only [Nat.zero_sub, Int.pow_zero, Int.mul_one] at hp ⊢
    refine Int.lt_of_le_of_lt ?_ hp
    rw [Int.mul_comm a b]
    refine Int.mul_le_mul_of_nonneg_left ?_ hb
    rw [Int.fmod_eq_emod_of_nonneg _ hb]
    have hq := Int.emod_add_mul_ediv a b
    have : 0 ≤ b * (a / b) := Int.mul_nonneg hb (Int.ediv_nonneg ha hb)
    lia
  · have hle' := hle (by lia)
    have e : i = (i - 1) + 1 := by lia
    have h3 : 2 * a.fmod b ≤ a := by
      rw [Int.fmod_eq_emod_of_nonneg _ hb]
      rw [Int.fmod_eq_emod_of_nonneg _ hb] at h2
      have hq := Int.emod_add_mul_ediv a b
      have hq1 : 1 ≤ a / b := by
        rw [Int.le_ediv_iff_mul_le hb']; lia
      have : b * 1 ≤ b * (a / b) := Int.mul_le_mul_of_nonneg_left hq1 hb
      lia
    have h4 : (b * a.fmod b) * 2 ≤ a * b := by
      have := Int.mul_le_mul_of_nonneg_left h3 hb
      rw [Int.mul_comm a b]
      calc (b * a.fmod b) * 2 = b * (2 * a.fmod b) := by rw [Int.mul_assoc, Int.mul_comm (a.fmod b)]
        _ ≤ b * a := this
    have h5 : (b * a.fmod b) * 2 ^ i = ((b * a.fmod b) * 2) * 2 ^ (i - 1) := by
      conv => lhs; rw [e]
      rw [Int.pow_succ]; simp only [Int.mul_assoc, Int.mul_comm]
    rw [h5]
    refine Int.lt_of_le_of_lt (Int.mul_le_mul_of_nonneg_right h4 ?_) hp
    exact Int.le_of_lt (Int.pow_pos (by decide))
theorem GInv.last {T g : Nat} {a b : Int} (hT : 0 < T) (h : GInv T g T a b) : b = 0 := by
  obtain ⟨ha, hb, hg, hle, hp⟩ := h
  have hle' := hle hT
  false_or_by_contra
  have h1 : 1 ≤ b := by lia
  have h2 : 1 ≤ a := by lia
  have h3 : 1 ≤ a * b := by
    have := Int.mul_le_mul h2 h1 (by decide) ha
    simpa using this
  have h4 : (2 : Int) ^ (T - 1) ≤ a * b * 2 ^ (T - 1) := by
    have := Int.mul_le_mul_of_nonneg_right (c := (2 : Int) ^ (T - 1)) h3 (Int.le_of_lt (Int.pow_pos (by decide)))
    simpa using this
  lia
theorem GInv.out {T g i : Nat} {a : Int} (h : GInv T g i a 0) : a = (g : Int) := by
  obtain ⟨ha, _, hg, _, _⟩ := h
  rw [Int.gcd_zero_right] at hg
  lia
theorem getD_all {l : List Int} {P : Int → Prop} (h : ∀ x ∈ l, P x) (h0 : P 0) (k : Nat) : P (l.getD k 0) := by
  rw [List.getD_eq_getElem?_getD]
  cases e : l[k]? with
  | none => exact h0
  | some x => exact h x (List.mem_of_getElem? e)
theorem pow_lt_pow {a : Int} {m n : Nat} (h1 : 1 ≤ a) (h : m ≤ n) : a ^ m ≤ a ^ n := by
  obtain ⟨k, rfl⟩ := Nat.exists_eq_add_of_le h
  rw [Int.pow_add]
  have h2 : 1 ≤ a ^ k := by
    have : 0 < a ^ k := Int.pow_pos (show 0 < a by lia)
    lia
  have h3 : 0 ≤ a ^ m := Int.le_of_lt (Int.pow_pos (show 0 < a by lia))
  have := Int.mul_le_mul_of_nonneg_left h2 h3
  lia
theorem GInv.startB {a b : Int} (ha : 0 ≤ a) (hb : 0 ≤ b) (h1 : Bd 2490 a) (h2 : Bd 2490 b) : GInv 5000 (Int.gcd a b) 0 a b :=
  GInv.start ha hb (((h1.mul h2).mono (by decide) : Bd 4999 (a * b)).lt)
theorem Bd.small' {k : Nat} {x : Int} (hk : 32 ≤ k) (h : x.natAbs < 4294967296) : Bd k x := Bd.small h hk
theorem Bd.mulS' {k : Nat} {a b : Int} (hk : 32 ≤ k) (h2 : Bd 32 b) (h1 : Bd (k - 32) a) : Bd k (a * b) := Bd.mulS h1 h2 hk
theorem Bd.add' {k : Nat} {a b : Int} (hk : 0 < k) (h1 : Bd (k - 1) a) (h2 : Bd (k - 1) b) : Bd k (a + b) := Bd.add h1 h2 hk
theorem Bd.sub' {k : Nat} {a b : Int} (hk : 0 < k) (h1 : Bd (k - 1) a) (h2 : Bd (k - 1) b) : Bd k (a - b) := Bd.sub h1 h2 hk
end Mine

namespace Mine
structure ERun (oa ob a b x lx y ly : Int) : Prop where
  a0 : 0 < a
  ba : b < a
  aob : a ≤ ob
  altx : (0 ≤ x ∧ lx ≤ 0 ∧ a * x - b * lx = ob) ∨ (x ≤ 0 ∧ 0 ≤ lx ∧ b * lx - a * x = ob)
  alty : 0 ≤ oa → (0 ≤ y ∧ ly ≤ 0 ∧ a * y - b * ly = oa) ∨ (y ≤ 0 ∧ 0 ≤ ly ∧ b * ly - a * y = oa)
  lx1 : -ob ≤ lx
  lx2 : lx ≤ ob
  ly1 : 0 ≤ oa → -oa ≤ ly
  ly2 : 0 ≤ oa → ly ≤ oa ∨ ly ≤ 1
  lx3 : 2 * lx ≤ ob
  lx4 : -ob ≤ 2 * lx
structure EInv (oa ob a b x lx y ly : Int) : Prop where
  hb : 0 ≤ b
  bz1 : lx * oa + ly * ob = a
  bz2 : x * oa + y * ob = b
  g : Int.gcd a b = Int.gcd oa ob
  st : (a = oa ∧ b = ob ∧ x = 0 ∧ lx = 1 ∧ y = 1 ∧ ly = 0) ∨ ERun oa ob a b x lx y ly
theorem EInv.start {oa ob : Int} (hb : 0 ≤ ob) : EInv oa ob oa ob 0 1 1 0 :=
  ⟨hb, by lia, by lia, rfl, .inl ⟨rfl, rfl, rfl, rfl, rfl, rfl⟩⟩
theorem fdiv_fmod (a b : Int) : b * a.fdiv b + a.fmod b = a := by
  have := Int.mul_fdiv_add_fmod a b
  lia
theorem mul_nn_le {a x o : Int} (ha : 0 < a) (hx : 0 ≤ x) (h : a * x ≤ o) : x ≤ o := by
  have : 1 * x ≤ a * x := Int.mul_le_mul_of_nonneg_right (by lia) hx
  lia
theorem EInv.step {oa ob a b x lx y ly : Int} (h : EInv oa ob a b x lx y ly) (h0 : b ≠ 0) :
    EInv oa ob b (a.fmod b) (lx - a.fdiv b * x) x (ly - a.fdiv b * y) y := by
  obtain ⟨hb, bz1, bz2, hg, st⟩ := h
  have hb0 : 0 < b := by lia
  have hm : 0 ≤ a.fmod b ∧ a.fmod b < b := by
    rw [Int.fmod_eq_emod_of_nonneg _ hb]
    exact ⟨Int.emod_nonneg _ h0, Int.emod_lt_of_pos _ hb0⟩
  have hq := fdiv_fmod a b
  generalize hQ : a.fdiv b = q at hq ⊢
  generalize hR : a.fmod b = r at hq hm ⊢
  have hgr : Int.gcd b r = Int.gcd oa ob := by
    rw [← hg, ← hq, Int.add_comm (b * q) r]
    rw [Int.gcd_comm b r, Int.gcd_add_mul_left_left]
  refine ⟨hm.1, bz2, ?_, hgr, .inr ?_⟩
  · have e1 : (lx - q * x) * oa + (ly - q * y) * ob = (lx * oa + ly * ob) - q * (x * oa + y * ob) := by
      simp only [Int.sub_mul, Int.mul_add, Int.mul_assoc]; lia
    rw [e1, bz1, bz2, Int.mul_comm q b]; lia
  · clear bz1 bz2 hg hgr
    have expand : ∀ u v : Int, b * (u - q * v) - r * v = b * u - (b * q + r) * v := by
      intro u v
      simp only [Int.mul_sub, Int.add_mul, Int.mul_assoc]; lia
    rcases st with ⟨rfl, rfl, rfl, rfl, rfl, rfl⟩ | R
    · refine ⟨hb0, hm.2, Int.le_refl _, .inl ⟨by lia, by lia, by lia⟩, fun ho => .inr ?_, by lia, by lia, fun ho => by lia, fun _ => .inr (Int.le_refl _), by lia, by lia⟩
      have hq0 : 0 ≤ q := by
        rw [← hQ, Int.fdiv_eq_ediv_of_nonneg _ hb]
        exact Int.ediv_nonneg ho hb
      refine ⟨by lia, by lia, ?_⟩
      simp only [Int.mul_one, Int.zero_sub, Int.mul_neg]; lia
    · have hq1 : 1 ≤ q := by
        rw [← hQ, Int.fdiv_eq_ediv_of_nonneg _ hb, Int.le_ediv_iff_mul_le hb0]
        have := R.ba; lia
      have sgn : ∀ {u v : Int}, (0 ≤ u ∧ v ≤ 0) → v - q * u ≤ 0 := by
        rintro u v ⟨h1, h2⟩
        have : 0 ≤ q * u := Int.mul_nonneg (by lia) h1
        lia
      have sgn' : ∀ {u v : Int}, (u ≤ 0 ∧ 0 ≤ v) → 0 ≤ v - q * u := by
        rintro u v ⟨h1, h2⟩
        have : 0 ≤ q * (-u) := Int.mul_nonneg (by lia) (by lia)
        rw [Int.mul_neg] at this
        lia
      have bdx : -ob ≤ x ∧ x ≤ ob := by
        clear hq hm sgn sgn' expand hq1
        rcases R.altx with ⟨h1, h2, h3⟩ | ⟨h1, h2, h3⟩
        · have h4 : 0 ≤ b * (-lx) := Int.mul_nonneg hb (by lia)
          rw [Int.mul_neg] at h4
          have := mul_nn_le R.a0 h1 (o := ob) (by lia)
          lia
        · have h4 : 0 ≤ b * lx := Int.mul_nonneg hb h2
          have := mul_nn_le R.a0 (x := -x) (o := ob) (by lia) (by rw [Int.mul_neg]; lia)
          lia
      have bdy : 0 ≤ oa → -oa ≤ y ∧ y ≤ oa := by
        clear hq hm sgn sgn' expand hq1 bdx
        intro ho
        rcases R.alty ho with ⟨h1, h2, h3⟩ | ⟨h1, h2, h3⟩
        · have h4 : 0 ≤ b * (-ly) := Int.mul_nonneg hb (by lia)
          rw [Int.mul_neg] at h4
          have := mul_nn_le R.a0 h1 (o := oa) (by lia)
          lia
        · have h4 : 0 ≤ b * ly := Int.mul_nonneg hb h2
          have := mul_nn_le R.a0 (x := -y) (o := oa) (by lia) (by rw [Int.mul_neg]; lia)
          lia
      have := R.ba
      have := R.aob
      have two : ∀ z : Int, 0 ≤ z → a * z ≤ ob → 2 * z ≤ ob := fun z hz h => by
        have : 2 * z ≤ a * z := Int.mul_le_mul_of_nonneg_right (by lia) hz
        lia
      have b2x : 2 * x ≤ ob ∧ -ob ≤ 2 * x := by
        clear hq hm sgn sgn' expand hq1 bdx bdy
        rcases R.altx with ⟨h1, h2, h3⟩ | ⟨h1, h2, h3⟩
        · have h4 : 0 ≤ b * (-lx) := Int.mul_nonneg hb (by lia)
          rw [Int.mul_neg] at h4
          have := two x h1 (by lia)
          lia
        · have h4 : 0 ≤ b * lx := Int.mul_nonneg hb h2
          have := two (-x) (by lia) (by rw [Int.mul_neg]; lia)
          lia
      refine ⟨hb0, hm.2, by lia, ?_, ?_, bdx.1, bdx.2, fun ho => (bdy ho).1, fun ho => .inl (bdy ho).2, b2x.1, b2x.2⟩
      · rcases R.altx with ⟨h1, h2, h3⟩ | ⟨h1, h2, h3⟩
        · refine .inr ⟨sgn ⟨h1, h2⟩, h1, ?_⟩
          have := expand lx x
          rw [hq] at this
          lia
        · refine .inl ⟨sgn' ⟨h1, h2⟩, h1, ?_⟩
          have := expand lx x
          rw [hq] at this
          lia
      · intro ho
        rcases R.alty ho with ⟨h1, h2, h3⟩ | ⟨h1, h2, h3⟩
        · refine .inr ⟨sgn ⟨h1, h2⟩, h1, ?_⟩
          have := expand ly y
          rw [hq] at this
          lia
        · refine .inl ⟨sgn' ⟨h1, h2⟩, h1, ?_⟩
          have := expand ly y
          rw [hq] at this
          lia
theorem natAbs_mul_lt {a b : Int} {M N : Nat} (h1 : a.natAbs < 2 ^ M) (h2 : b.natAbs < 2 ^ N) : (a * b).natAbs < 2 ^ (M + N) := by
  rw [Int.natAbs_mul, Nat.pow_add]
  exact Nat.mul_lt_mul'' h1 h2
theorem EInv.bd {oa ob a b x lx y ly : Int} {N : Nat} (h : EInv oa ob a b x lx y ly) (h1 : Bd N oa) (h2 : Bd N ob) (h0 : b ≠ 0) :
    (a.fdiv b).natAbs < 2 ^ (N + 1) ∧ x.natAbs < 2 ^ N ∧ y.natAbs < 2 ^ (N + N + 1) := by
  unfold Bd at h1 h2
  obtain ⟨hb, bz1, bz2, hg, st⟩ := h
  clear bz1 hg
  have hp : 0 < 2 ^ N := Nat.pow_pos (by decide)
  have ha : a.natAbs < 2 ^ N := by
    clear bz2
    rcases st with ⟨rfl, _⟩ | R
    · exact h1
    · have := R.a0; have := R.aob; lia
  have hx : x.natAbs < 2 ^ N := by
    clear bz2 h1 ha
    rcases st with ⟨_, _, rfl, _⟩ | R
    · simpa using hp
    · have ho : 0 < ob := by have := R.a0; have := R.aob; lia
      rcases R.altx with ⟨k1, k2, k3⟩ | ⟨k1, k2, k3⟩
      · have h4 : 0 ≤ b * (-lx) := Int.mul_nonneg hb (by lia)
        rw [Int.mul_neg] at h4
        have := mul_nn_le R.a0 k1 (o := ob) (by lia)
        lia
      · have h4 : 0 ≤ b * lx := Int.mul_nonneg hb k2
        have := mul_nn_le R.a0 (x := -x) (o := ob) (by lia) (by rw [Int.mul_neg]; lia)
        lia
  refine ⟨?_, hx, ?_⟩
  · clear bz2 h1 hx
    have hq := fdiv_fmod a b
    have hm : 0 ≤ a.fmod b ∧ a.fmod b < b := by
      rw [Int.fmod_eq_emod_of_nonneg _ hb]
      exact ⟨Int.emod_nonneg _ h0, Int.emod_lt_of_pos _ (by lia)⟩
    generalize a.fdiv b = q at hq ⊢
    generalize a.fmod b = r at hq hm
    have hbl : b ≤ ob ∧ 0 < b := by
      rcases st with ⟨_, rfl, _⟩ | R
      · exact ⟨Int.le_refl _, by lia⟩
      · have := R.ba; have := R.aob; lia
    have h5 : q.natAbs ≤ (b * q).natAbs := by
      rw [Int.natAbs_mul]
      exact Nat.le_mul_of_pos_left _ (Int.natAbs_pos.mpr h0)
    have e2 : r.natAbs < 2 ^ N := by
      clear hq ha h5 st hp
      lia
    rw [Nat.pow_succ, Nat.mul_two]
    refine Nat.lt_of_le_of_lt h5 ?_
    rw [show b * q = a - r by rw [← hq]; exact (Int.add_sub_cancel ..).symm]
    exact Nat.lt_of_le_of_lt (Int.natAbs_sub_le a r) (Nat.add_lt_add ha e2)
  · have ho : 0 < ob ∨ ob = 0 := by
      clear bz2 h1 h2 hx ha
      rcases st with ⟨_, rfl, _⟩ | R
      · lia
      · have := R.a0; have := R.aob; lia
    rcases ho with ho | ho
    · have hbl : b ≤ ob := by
        clear bz2 h1 h2 hx ha
        rcases st with ⟨_, rfl, _⟩ | R
        · exact Int.le_refl _
        · have := R.ba; have := R.aob; lia
      have h5 : y.natAbs ≤ (y * ob).natAbs := by
        rw [Int.natAbs_mul]
        exact Nat.le_mul_of_pos_right _ (Int.natAbs_pos.mpr (Int.ne_of_gt ho))
      have h6 := natAbs_mul_lt hx h1
      have h7 : 2 ^ N ≤ 2 ^ (N + N) := Nat.pow_le_pow_right (by decide) (Nat.le_add_right N N)
      have e2 : b.natAbs < 2 ^ N := by
        clear bz2 h5 h6 h7 ha hx h1 st hp
        lia
      rw [Nat.pow_succ, Nat.mul_two]
      refine Nat.lt_of_le_of_lt h5 ?_
      rw [show y * ob = b - x * oa by rw [← bz2]; rw [Int.add_comm]; exact (Int.add_sub_cancel ..).symm]
      exact Nat.lt_of_le_of_lt (Int.natAbs_sub_le b (x * oa)) (Nat.add_lt_add (Nat.lt_of_lt_of_le e2 h7) h6)
    · rcases st with ⟨_, rfl, _⟩ | R
      · exact absurd ho h0
      · have := R.a0; have := R.aob; lia
theorem EInv.bdb {oa ob a b x lx y ly : Int} {N : Nat} (h : EInv oa ob a b x lx y ly) (h2 : Bd N ob) : Bd N b := by
  unfold Bd at h2 ⊢
  obtain ⟨hb, bz1, bz2, hg, st⟩ := h
  rcases st with ⟨_, rfl, _⟩ | R
  · exact h2
  · have := R.ba; have := R.aob; lia
theorem EInv.lg {oa ob a b x lx y ly : Int} {N : Nat} (h : EInv oa ob a b x lx y ly) (h2 : Bd N ob) (hN : N ≤ 8000) : b.natAbs.log2 < 9000 :=
  log2_of (M := N + 1) (Nat.lt_trans (h.bdb h2) (by rw [Nat.pow_succ]; have : 0 < 2 ^ N := Nat.pow_pos (by decide); lia)) (by lia) (by lia)
theorem EInv.mul1 {oa ob a b x lx y ly : Int} {N : Nat} (h : EInv oa ob a b x lx y ly) (h1 : Bd N oa) (h2 : Bd N ob) (hN : N ≤ 1000000) (h0 : b ≠ 0) : IntMulOk (a.fdiv b) x :=
  mulOk _ _ (h.bd h1 h2 h0).1 (h.bd h1 h2 h0).2.1 (by lia)
theorem EInv.mul2 {oa ob a b x lx y ly : Int} {N : Nat} (h : EInv oa ob a b x lx y ly) (h1 : Bd N oa) (h2 : Bd N ob) (hN : N ≤ 1000000) (h0 : b ≠ 0) : IntMulOk (a.fdiv b) y :=
  mulOk _ _ (h.bd h1 h2 h0).1 (h.bd h1 h2 h0).2.2 (by lia)
theorem EInv.gcdIs {oa ob a x lx y ly : Int} (h : EInv oa ob a 0 x lx y ly) (h1 : 0 ≤ oa ∨ 0 < ob) : a = (Int.gcd oa ob : Int) := by
  obtain ⟨hb, bz1, bz2, hg, st⟩ := h
  rw [Int.gcd_zero_right] at hg
  rcases st with ⟨k1, k2, _⟩ | R
  · lia
  · have := R.a0; lia
theorem EInv.fst {oa ob a x lx y ly fx : Int} (h : EInv oa ob a 0 x lx y ly) (hx : fx = if lx < 0 then lx + ob else lx) : 0 ≤ fx ∧ (fx ≤ ob ∨ fx ≤ 1) := by
  obtain ⟨hb, bz1, bz2, hg, st⟩ := h
  subst hx
  rcases st with ⟨k1, k2, k3, k4, k5, k6⟩ | R
  · split <;> lia
  · have h1 := R.lx1
    have h2 := R.lx2
    split <;> lia
theorem EInv.snd {oa ob a x lx y ly fy : Int} (h : EInv oa ob a 0 x lx y ly) (h0 : 0 ≤ oa) (hy : fy = if ly < 0 then ly + oa else ly) : 0 ≤ fy ∧ (fy ≤ oa ∨ fy ≤ 1) := by
  obtain ⟨hb, bz1, bz2, hg, st⟩ := h
  subst hy
  rcases st with ⟨k1, k2, k3, k4, k5, k6⟩ | R
  · split <;> lia
  · have h1 := R.ly1 h0
    have h2 := R.ly2 h0
    split <;> lia
theorem EInv.sum {oa ob a x lx y ly fx fy : Int} (h : EInv oa ob a 0 x lx y ly) (h0 : 0 ≤ oa) (h1 : 0 ≤ ob) (hx : fx = if lx < 0 then lx + ob else lx) (hy : fy = if ly < 0 then ly + oa else ly) :
    fx * oa + fy * ob = a ∨ fx * oa + fy * ob = a + oa * ob := by
  have ha := h.gcdIs (.inl h0)
  obtain ⟨hb, bz1, bz2, hg, st⟩ := h
  subst hx; subst hy
  have e := Int.mul_comm oa ob
  split
  · split
    · rename_i k1 k2
      have : lx * oa ≤ 0 := Int.mul_nonpos_of_nonpos_of_nonneg (by lia) h0
      have h5 : ly * ob ≤ 0 := Int.mul_nonpos_of_nonpos_of_nonneg (by lia) h1
      have : 0 ≤ a := by lia
      have e1 : (lx + ob) * oa = lx * oa + ob * oa := Int.add_mul ..
      have e2 : (ly + oa) * ob = ly * ob + oa * ob := Int.add_mul ..
      have e3 : oa * ob = 0 ∨ 0 < oa * ob := by
        have := Int.mul_nonneg h0 h1; omega
      rcases e3 with e3 | e3
      · lia
      · have o1 : 0 < oa := by
          rcases Int.lt_or_eq_of_le h0 with q | q
          · exact q
          · rw [← q] at e3; simp at e3
        have : lx * oa < 0 := Int.mul_neg_of_neg_of_pos (by lia) o1
        lia
    · have e1 : (lx + ob) * oa = lx * oa + ob * oa := Int.add_mul ..
      right; lia
  · split
    · have e2 : (ly + oa) * ob = ly * ob + oa * ob := Int.add_mul ..
      right; lia
    · left; lia
theorem mul_nn0 {a b : Int} (h1 : 0 ≤ a) (h2 : 0 ≤ b) : 0 ≤ a * b := Int.mul_nonneg h1 h2
theorem mulOkB {a b : Int} (M N : Nat) (ha : Bd M a) (hb : Bd N b) (h : M + N ≤ 134217728) : IntMulOk a b := mulOk M N ha hb h
theorem EInv.facts {oa ob a x lx y ly fx fy : Int} (h : EInv oa ob a 0 x lx y ly) (h0 : 0 ≤ oa) (h1 : 0 ≤ ob) (b1 : Bd 490 oa) (b2 : Bd 490 ob) (hx : fx = if lx < 0 then lx + ob else lx) (hy : fy = if ly < 0 then ly + oa else ly) :
    a = (Int.gcd oa ob : Int) ∧ 0 ≤ fx ∧ (fx ≤ ob ∨ fx ≤ 1) ∧ 0 ≤ fy ∧ (fy ≤ oa ∨ fy ≤ 1) ∧ IntMulOk fx oa ∧ IntMulOk fy ob ∧ IntMulOk oa ob ∧ (fx * oa + fy * ob = a ∨ fx * oa + fy * ob = a + oa * ob) := by
  have p1 := h.fst hx
  have p2 := h.snd h0 hy
  have q1 : Bd 490 fx := by
    rcases p1.2 with q | q
    · exact .of_lt p1.1 q b2
    · exact .small (by lia) (by decide)
  have q2 : Bd 490 fy := by
    rcases p2.2 with q | q
    · exact .of_lt p2.1 q b1
    · exact .small (by lia) (by decide)
  exact ⟨h.gcdIs (.inl h0), p1.1, p1.2, p2.1, p2.2, mulOkB _ _ q1 b1 (by decide), mulOkB _ _ q2 b2 (by decide), mulOkB _ _ b1 b2 (by decide), h.sum h0 h1 hx hy⟩
theorem EInv.facts_k {P : Prop} {oa ob a x lx y ly fx fy : Int} (h : EInv oa ob a 0 x lx y ly) (h0 : 0 ≤ oa) (h1 : 0 ≤ ob) (b1 : Bd 490 oa) (b2 : Bd 490 ob) (hx : fx = if lx < 0 then lx + ob else lx) (hy : fy = if ly < 0 then ly + oa else ly)
    (k : a = (Int.gcd oa ob : Int) → 0 ≤ fx → (fx ≤ ob ∨ fx ≤ 1) → 0 ≤ fy → (fy ≤ oa ∨ fy ≤ 1) → IntMulOk fx oa → IntMulOk fy ob → IntMulOk oa ob → (fx * oa + fy * ob = a ∨ fx * oa + fy * ob = a + oa * ob) → P) : P :=
  have f := h.facts h0 h1 b1 b2 hx hy
  k f.1 f.2.1 f.2.2.1 f.2.2.2.1 f.2.2.2.2.1 f.2.2.2.2.2.1 f.2.2.2.2.2.2.1 f.2.2.2.2.2.2.2.1 f.2.2.2.2.2.2.2.2
theorem Bd.lg {k : Nat} {x : Int} (h : Bd k x) (hk : k < 9000) : x.natAbs.log2 < 9000 :=
  log2_of (M := k + 1) (h.mono (Nat.le_succ k)) (by lia) (by lia)
end Mine

namespace Mine
theorem abs_Q {α : Type} {M : Model} {A : Around} {t : Sem α} {Q : α → Shared → Prop} {E : Value → Shared → Prop} {s : Shared}
    (h : ∀ Q9 : α → Shared → Prop, (∀ a s', Q a s' → Q9 a s') → wpAny M A t Q9 E s) : wpAny M A t Q E s :=
  h Q fun _ _ q => q
theorem abs_QE {α : Type} {M : Model} {A : Around} {t : Sem α} {Q : α → Shared → Prop} {E : Value → Shared → Prop} {s : Shared}
    (h : ∀ (Q9 : α → Shared → Prop) (E9 : Value → Shared → Prop), (∀ a s', Q a s' → Q9 a s') → wpAny M A t Q9 E9 s) : wpAny M A t Q E s :=
  h Q E fun _ _ q => q
theorem abs_turn {α : Type} {M : Model} {A : Around} {t : Sem α} {b : Sem Flow} {P : Flow → Shared → Prop} {E : Value → Shared → Prop} {s : Shared}
    (h : ∀ P9 : Flow → Shared → Prop, (∀ f s', P f s' → P9 f s') → wpAny M A t (fun _ s₃ => wpAny M A b P9 E s₃) E s) : wpAny M A t (fun _ s₃ => wpAny M A b P E s₃) E s :=
  h P fun _ _ q => q
end Mine

namespace Mine
noncomputable def Pr (p : Nat) : Prop := 2 ≤ p ∧ ∀ d, d ∣ p → d = 1 ∨ d = p
theorem Pr.coprime {p a : Nat} (h : Pr p) (ha : ¬ p ∣ a) : Nat.gcd p a = 1 := by
  rcases h.2 _ (Nat.gcd_dvd_left p a) with e | e
  · exact e
  · exact absurd (e ▸ Nat.gcd_dvd_right p a) ha
theorem Pr.dvd_mul {p a b : Nat} (h : Pr p) (hd : p ∣ a * b) : p ∣ a ∨ p ∣ b := by
  by_cases ha : p ∣ a
  · exact .inl ha
  · exact .inr (Nat.Coprime.dvd_of_dvd_mul_left (h.coprime ha) hd)

noncomputable def chs : Nat → Nat → Nat
  | _, 0 => 1
  | 0, _ + 1 => 0
  | n + 1, k + 1 => chs n k + chs n (k + 1)
theorem chs_zero (n : Nat) : chs n 0 = 1 := by cases n <;> rfl
theorem chs_gt : ∀ {n k : Nat}, n < k → chs n k = 0
  | 0, _ + 1, _ => rfl
  | n + 1, k + 1, h => by
    rw [chs, chs_gt (by lia), chs_gt (by lia)]
theorem chs_self : ∀ n : Nat, chs n n = 1
  | 0 => rfl
  | n + 1 => by rw [chs, chs_self n, chs_gt (by lia)]
theorem chs_mul : ∀ n k : Nat, (k + 1) * chs (n + 1) (k + 1) = (n + 1) * chs n k
  | 0, 0 => rfl
  | 0, k + 1 => by
    have h1 : chs 1 (k + 1 + 1) = 0 := chs_gt (by lia)
    have h2 : chs 0 (k + 1) = 0 := rfl
    rw [h1, h2]
    lia
  | n + 1, 0 => by
    have h := chs_mul n 0
    rw [chs_zero] at h ⊢
    rw [chs, chs_zero]
    lia
  | n + 1, k + 1 => by
    have h1 := chs_mul n k
    have h2 := chs_mul n (k + 1)
    have e1 : chs (n + 1 + 1) (k + 1 + 1) = chs (n + 1) (k + 1) + chs (n + 1) (k + 1 + 1) := rfl
    have e2 : chs (n + 1) (k + 1) = chs n k + chs n (k + 1) := rfl
    rw [e1]
    have e3 : (k + 1 + 1) * (chs (n + 1) (k + 1) + chs (n + 1) (k + 1 + 1)) = (k + 1) * chs (n + 1) (k + 1) + chs (n + 1) (k + 1) + (k + 1 + 1) * chs (n + 1) (k + 1 + 1) := by
      rw [Nat.mul_add, Nat.add_mul (k + 1) 1, Nat.one_mul]
    rw [e3, h1, h2, Nat.add_mul (n + 1) 1 (chs (n + 1) (k + 1)), Nat.one_mul]
    have e4 : (n + 1) * chs (n + 1) (k + 1) = (n + 1) * chs n k + (n + 1) * chs n (k + 1) := by rw [e2, Nat.mul_add]
    lia
theorem Pr.dvd_chs {p k : Nat} (h : Pr p) (h0 : 0 < k) (h1 : k < p) : p ∣ chs p k := by
  obtain ⟨n, rfl⟩ : ∃ n, p = n + 1 := ⟨p - 1, by have := h.1; lia⟩
  obtain ⟨j, rfl⟩ : ∃ j, k = j + 1 := ⟨k - 1, by lia⟩
  have e := chs_mul n j
  have hd : (n + 1) ∣ (j + 1) * chs (n + 1) (j + 1) := ⟨_, e⟩
  rcases h.dvd_mul hd with q | q
  · exact absurd (Nat.le_of_dvd (by lia) q) (by lia)
  · exact q
noncomputable def bsum (a n : Nat) : Nat → Nat
  | 0 => 0
  | m + 1 => bsum a n m + chs n m * a ^ m
theorem bsum_step (a n : Nat) : ∀ m, bsum a (n + 1) (m + 1) = (a + 1) * bsum a n m + chs n m * a ^ m
  | 0 => by
    show 0 + chs (n + 1) 0 * a ^ 0 = (a + 1) * 0 + chs n 0 * a ^ 0
    rw [chs_zero, chs_zero]
    lia
  | m + 1 => by
    have ih := bsum_step a n m
    show bsum a (n + 1) (m + 1) + chs (n + 1) (m + 1) * a ^ (m + 1) = (a + 1) * (bsum a n m + chs n m * a ^ m) + chs n (m + 1) * a ^ (m + 1)
    rw [ih]
    show _ + (chs n m + chs n (m + 1)) * a ^ (m + 1) = _
    have e1 : (chs n m + chs n (m + 1)) * a ^ (m + 1) = chs n m * a ^ (m + 1) + chs n (m + 1) * a ^ (m + 1) := Nat.add_mul ..
    have e2 : (a + 1) * (bsum a n m + chs n m * a ^ m) = (a + 1) * bsum a n m + (a * (chs n m * a ^ m) + chs n m * a ^ m) := by
      rw [Nat.mul_add, Nat.add_mul a 1 (chs n m * a ^ m), Nat.one_mul]
    have e3 : chs n m * a ^ (m + 1) = a * (chs n m * a ^ m) := by
      rw [Nat.pow_succ, ← Nat.mul_assoc, Nat.mul_comm]
    lia
theorem bsum_pow (a : Nat) : ∀ n, bsum a n (n + 1) = (a + 1) ^ n
  | 0 => by
    show 0 + chs 0 0 * a ^ 0 = (a + 1) ^ 0
    simp [chs]
  | n + 1 => by
    have e : (a + 1) ^ (n + 1) = (a + 1) * (a + 1) ^ n := by rw [Nat.pow_succ, Nat.mul_comm]
    rw [bsum_step, e, ← bsum_pow a n, chs_gt (n := n) (k := n + 1) (by lia), Nat.zero_mul, Nat.add_zero]
theorem Pr.bsum_mod {p a : Nat} (h : Pr p) : ∀ m, 0 < m → m ≤ p → bsum a p m % p = 1 % p
  | 0, h0, _ => absurd h0 (Nat.lt_irrefl _)
  | 1, _, _ => by
    show (0 + chs p 0 * a ^ 0) % p = 1 % p
    rw [chs_zero]; simp
  | m + 2, _, hm => by
    have ih := Pr.bsum_mod (a := a) h (m + 1) (by lia) (by lia)
    show (bsum a p (m + 1) + chs p (m + 1) * a ^ (m + 1)) % p = 1 % p
    obtain ⟨c, hc⟩ := h.dvd_chs (k := m + 1) (by lia) (by lia)
    rw [hc, Nat.mul_assoc, Nat.add_mul_mod_self_left]
    exact ih
theorem Pr.fermat {p : Nat} (h : Pr p) : ∀ a : Nat, a ^ p % p = a % p
  | 0 => by
    have := h.1
    rw [Nat.zero_pow (by lia)]
  | a + 1 => by
    have ih := Pr.fermat h a
    have e := bsum_pow a p
    have hb : bsum a p (p + 1) = bsum a p p + chs p p * a ^ p := rfl
    rw [chs_self, Nat.one_mul] at hb
    rw [← e, hb, Nat.add_mod, h.bsum_mod p (by have := h.1; lia) (Nat.le_refl _), ih, ← Nat.add_mod, Nat.add_comm]
theorem Pr.fermat1 {p a : Nat} (h : Pr p) (ha : ¬ p ∣ a) : a ^ (p - 1) % p = 1 % p := by
  have hp := h.1
  have e := h.fermat a
  obtain ⟨n, rfl⟩ : ∃ n, p = n + 1 := ⟨p - 1, by lia⟩
  rw [Nat.add_sub_cancel]
  -- a * (a^n - 1) = 0 mod p
  have hpos : 0 < a := Nat.pos_of_ne_zero fun q => ha (q ▸ Nat.dvd_zero _)
  have h1 : 1 ≤ a ^ n := Nat.pow_pos hpos
  have hd : (n + 1) ∣ a * (a ^ n - 1) := by
    rw [Nat.mul_sub, Nat.mul_one, Nat.mul_comm, ← Nat.pow_succ]
    exact Nat.dvd_of_mod_eq_zero (Nat.sub_mod_eq_zero_of_mod_eq e)
  rcases h.dvd_mul hd with q | q
  · exact absurd q ha
  · obtain ⟨c, hc⟩ := q
    have e2 : a ^ n = 1 + (n + 1) * c := by lia
    rw [e2, Nat.add_mul_mod_self_left]
theorem pow_mod_of {m a e k j : Nat} (h : a ^ e % m = 1 % m) (hk : k = 1 + j * e) : a ^ k % m = a % m := by
  subst hk
  rw [Nat.pow_add, Nat.pow_one, Nat.mul_comm j e, Nat.pow_mul, Nat.mul_mod, Nat.pow_mod, h, ← Nat.pow_mod, Nat.one_pow, ← Nat.mul_mod, Nat.mul_one]
theorem Pr.pow1 {p a k j : Nat} (h : Pr p) (hk : k = 1 + j * (p - 1)) : a ^ k % p = a % p := by
  by_cases ha : p ∣ a
  · have h2 : p ∣ a ^ k := Nat.dvd_trans ha (by subst hk; rw [Nat.pow_add, Nat.pow_one]; exact Nat.dvd_mul_right _ _)
    rw [Nat.mod_eq_zero_of_dvd ha, Nat.mod_eq_zero_of_dvd h2]
  · exact pow_mod_of (h.fermat1 ha) hk
noncomputable def noDiv (n : Nat) : Nat → Nat → Bool
  | 0, _ => true
  | f + 1, d => if n % d == 0 then false else noDiv n f (d + 1)
theorem noDiv_spec {n : Nat} : ∀ {f d : Nat}, noDiv n f d = true → ∀ e, d ≤ e → e < d + f → n % e ≠ 0
  | 0, d, _, e, h1, h2 => absurd h2 (by lia)
  | f + 1, d, h, e, h1, h2 => by
    unfold noDiv at h
    split at h
    · cases h
    · rename_i hd
      by_cases he : e = d
      · subst he; simpa using hd
      · exact noDiv_spec h e (by lia) (by lia)
theorem Pr.of_noDiv {n : Nat} (h2 : 2 ≤ n) (h : ∀ e, 2 ≤ e → e * e ≤ n → n % e ≠ 0) : Pr n := by
  have small : ∀ d, d ∣ n → d * d ≤ n → d = 1 := fun d hd hle => by
    by_cases h0 : d = 0
    · subst h0
      have := Nat.eq_zero_of_zero_dvd hd; lia
    by_cases h1 : d = 1
    · exact h1
    · exact absurd (Nat.mod_eq_zero_of_dvd hd) (h d (by lia) hle)
  refine ⟨h2, fun d hd => ?_⟩
  obtain ⟨e, he⟩ := hd
  by_cases hle : d * d ≤ n
  · exact .inl (small d ⟨e, he⟩ hle)
  · have hlt : e ≤ d := by
      false_or_by_contra
      have := Nat.mul_le_mul_left d (show d ≤ e by lia)
      lia
    have h1 : e = 1 := small e ⟨d, by rw [he, Nat.mul_comm]⟩ (by have := Nat.mul_le_mul_right e hlt; lia)
    subst h1
    right; lia
theorem Pr.of_test {n f : Nat} (h2 : 2 ≤ n) (hf : n < (f + 2) * (f + 2)) (h : noDiv n f 2 = true) : Pr n := by
  refine .of_noDiv h2 fun e h1 h3 => noDiv_spec h e h1 ?_
  false_or_by_contra
  have : f + 2 ≤ e := by lia
  have := Nat.mul_le_mul this this
  lia
theorem pigeon : ∀ (m n : Nat) (f : Nat → Nat), (∀ i, i < n → f i < m) → m < n → ∃ i j, i < j ∧ j < n ∧ f i = f j
  | 0, n, f, h, hn => absurd (h 0 hn) (Nat.not_lt_zero _)
  | m + 1, n, f, h, hn => by
    obtain ⟨k, rfl⟩ : ∃ k, n = k + 1 := ⟨n - 1, by lia⟩
    by_cases hc : ∃ i, i < k ∧ f i = f k
    · obtain ⟨i, hi, e⟩ := hc
      exact ⟨i, k, hi, Nat.lt_succ_self _, e⟩
    · have hno : ∀ i, i < k → f i ≠ f k := fun i hi e => hc ⟨i, hi, e⟩
      have hk := h k (Nat.lt_succ_self _)
      obtain ⟨i, j, hij, hj, e⟩ := pigeon m k (fun i => if f i = m then f k else f i) (fun i hi => by
        have h1 := h i (by lia)
        have h2 := hno i hi
        show (if f i = m then f k else f i) < m
        split <;> lia) (by lia)
      refine ⟨i, j, hij, by lia, ?_⟩
      have hi' := hno i (by lia)
      have hj' := hno j hj
      (try dsimp only at e)
      split at e <;> split at e <;> lia

noncomputable def lx : Nat → Int × Int
  | 0 => (1, 0)
  | n + 1 => (2 * (lx n).1 + 3 * (lx n).2, (lx n).1 + 2 * (lx n).2)
theorem lx_add (m : Nat) : ∀ n, lx (m + n) = ((lx m).1 * (lx n).1 + 3 * ((lx m).2 * (lx n).2), (lx m).1 * (lx n).2 + (lx m).2 * (lx n).1)
  | 0 => by simp [lx]
  | n + 1 => by
    show (2 * (lx (m + n)).1 + 3 * (lx (m + n)).2, (lx (m + n)).1 + 2 * (lx (m + n)).2) = _
    rw [lx_add m n]
    show _ = ((lx m).1 * (2 * (lx n).1 + 3 * (lx n).2) + 3 * ((lx m).2 * ((lx n).1 + 2 * (lx n).2)), (lx m).1 * ((lx n).1 + 2 * (lx n).2) + (lx m).2 * (2 * (lx n).1 + 3 * (lx n).2))
    refine Prod.ext ?_ ?_ <;> dsimp only <;> grind
theorem lx_norm : ∀ n, (lx n).1 * (lx n).1 - 3 * ((lx n).2 * (lx n).2) = 1
  | 0 => by simp [lx]
  | n + 1 => by
    have ih := lx_norm n
    show (2 * (lx n).1 + 3 * (lx n).2) * (2 * (lx n).1 + 3 * (lx n).2) - 3 * (((lx n).1 + 2 * (lx n).2) * ((lx n).1 + 2 * (lx n).2)) = 1
    generalize (lx n).1 = x at *
    generalize (lx n).2 = y at *
    grind
theorem lx_dbl (n : Nat) : (lx (n + n)).1 = 2 * ((lx n).1 * (lx n).1) - 1 ∧ (lx (n + n)).2 = 2 * ((lx n).1 * (lx n).2) := by
  have h := lx_norm n
  rw [lx_add]
  have e : (lx n).2 * (lx n).1 = (lx n).1 * (lx n).2 := Int.mul_comm ..
  dsimp only
  lia
noncomputable def LId (d : Int) (n : Nat) : Prop := d ∣ (lx n).1 - 1 ∧ d ∣ (lx n).2
noncomputable def LNg (d : Int) (n : Nat) : Prop := d ∣ (lx n).1 + 1 ∧ d ∣ (lx n).2
theorem dvd_of_eq {d a b : Int} (h : d ∣ a) (e : a = b) : d ∣ b := e ▸ h
theorem LId.add {d : Int} {m n : Nat} (h : LId d m) (k : LId d n) : LId d (m + n) := by
  obtain ⟨⟨a, ha⟩, b, hb⟩ := h
  obtain ⟨⟨a', ha'⟩, b', hb'⟩ := k
  unfold LId
  rw [lx_add]
  have e1 : (lx m).1 = d * a + 1 := by lia
  have e2 : (lx n).1 = d * a' + 1 := by lia
  rw [e1, e2, hb, hb']
  constructor
  · exact ⟨a * (d * a') + a + a' + 3 * (b * (d * b')), by grind⟩
  · exact ⟨a * (d * b') + b' + (b * (d * a') + b), by grind⟩
theorem LId.mul {d : Int} {n : Nat} (h : LId d n) : ∀ c, LId d (n * c)
  | 0 => ⟨⟨0, by simp [lx]⟩, ⟨0, by simp [lx]⟩⟩
  | c + 1 => by rw [Nat.mul_succ]; exact (h.mul c).add h
theorem LNg.addI {d : Int} {m n : Nat} (h : LId d m) (k : LNg d n) : LNg d (m + n) := by
  obtain ⟨⟨a, ha⟩, b, hb⟩ := h
  obtain ⟨⟨a', ha'⟩, b', hb'⟩ := k
  unfold LNg
  rw [lx_add]
  have e1 : (lx m).1 = d * a + 1 := by lia
  have e2 : (lx n).1 = d * a' - 1 := by lia
  rw [e1, e2, hb, hb']
  constructor
  · exact ⟨a * (d * a') - a + a' + 3 * (b * (d * b')), by grind⟩
  · exact ⟨a * (d * b') + b' + (b * (d * a') - b), by grind⟩
theorem LNg.dbl {d : Int} {n : Nat} (k : LNg d n) : LId d (n + n) := by
  obtain ⟨⟨a', ha'⟩, b', hb'⟩ := k
  unfold LId
  obtain ⟨q1, q2⟩ := lx_dbl n
  rw [q1, q2]
  have e2 : (lx n).1 = d * a' - 1 := by lia
  rw [e2, hb']
  constructor
  · exact ⟨2 * (a' * (d * a')) - 4 * a', by grind⟩
  · exact ⟨2 * (a' * (d * b')) - 2 * b', by grind⟩
theorem LNg.odd {d : Int} {n : Nat} (k : LNg d n) (c : Nat) : LNg d (n * (2 * c + 1)) := by
  have h := LNg.addI (k.dbl.mul c) k
  have e : (n + n) * c + n = n * (2 * c + 1) := by
    rw [Nat.mul_add, Nat.mul_one, Nat.add_mul, ← Nat.mul_assoc, Nat.mul_comm n 2, Nat.two_mul, Nat.add_mul]
  rw [← e]; exact h
theorem two_part : ∀ n : Nat, 0 < n → ∃ t c, n = 2 ^ t * (2 * c + 1) := by
  intro n
  induction n using Nat.strongRecOn with
  | ind n ih =>
    intro hn
    by_cases h : n % 2 = 1
    · exact ⟨0, n / 2, by lia⟩
    · obtain ⟨t, c, e⟩ := ih (n / 2) (by lia) (by lia)
      refine ⟨t + 1, c, ?_⟩
      have e2 : n = 2 * (n / 2) := by lia
      rw [e2, Nat.pow_succ, Nat.mul_comm (2 ^ t) 2, Nat.mul_assoc, ← e]

noncomputable def llR (M : Nat) : Nat → Nat → Nat
  | 0, s => s
  | k + 1, s => llR M k ((s * s + (M - 2)) % M)
theorem llR_spec {M : Nat} (hM : 2 ≤ M) : ∀ (k i : Nat) (s : Nat), (M : Int) ∣ (s : Int) - 2 * (lx (2 ^ i)).1 → (M : Int) ∣ (llR M k s : Int) - 2 * (lx (2 ^ (i + k))).1
  | 0, i, s, h => h
  | k + 1, i, s, h => by
    have key : (M : Int) ∣ (((s * s + (M - 2)) % M : Nat) : Int) - 2 * (lx (2 ^ (i + 1))).1 := by
      have e : 2 ^ (i + 1) = 2 ^ i + 2 ^ i := by rw [Nat.pow_succ]; lia
      rw [e, (lx_dbl (2 ^ i)).1]
      obtain ⟨c, hc⟩ := h
      have hs : (s : Int) = M * c + 2 * (lx (2 ^ i)).1 := by lia
      have e1 : (((s * s + (M - 2)) % M : Nat) : Int) = ((s : Int) * s + (M - 2)) - M * (((s * s + (M - 2)) / M : Nat) : Int) := by
        have := Nat.div_add_mod (s * s + (M - 2)) M
        have h3 : ((M * ((s * s + (M - 2)) / M) + (s * s + (M - 2)) % M : Nat) : Int) = ((s * s + (M - 2) : Nat) : Int) := by rw [this]
        rw [Int.natCast_add, Int.natCast_mul, Int.natCast_add, Int.natCast_mul, Int.natCast_sub hM] at h3
        lia
      rw [e1, hs]
      generalize (((s * s + (M - 2)) / M : Nat) : Int) = q
      generalize (lx (2 ^ i)).1 = x
      exact ⟨c * (M * c) + 4 * (c * x) + 1 - q, by grind⟩
    have := llR_spec hM k (i + 1) _ key
    have e : i + 1 + k = i + (k + 1) := by lia
    rw [e] at this
    exact this
theorem dvd_odd {d x : Int} (hd : ∃ c, d = 2 * c + 1) (h : d ∣ 2 * x) : d ∣ x := by
  obtain ⟨c, rfl⟩ := hd
  obtain ⟨k, hk⟩ := h
  refine ⟨x - c * k, ?_⟩
  have e : (2 * c + 1) * k = 2 * (c * k) + k := by rw [Int.add_mul, Int.mul_assoc, Int.one_mul]
  rw [e] at hk
  have e2 : (2 * c + 1) * (x - c * k) = 2 * (c * (x - c * k)) + (x - c * k) := by rw [Int.add_mul, Int.mul_assoc, Int.one_mul]
  rw [e2, Int.mul_sub]
  have hk' : k = 2 * (x - c * k) := by lia
  have : c * k = c * (2 * (x - c * k)) := by rw [← hk']
  rw [Int.mul_left_comm, Int.mul_sub] at this
  lia
theorem Pr.ll {p : Nat} (hp : 3 ≤ p) (h : llR (2 ^ p - 1) (p - 2) 4 = 0) : Pr (2 ^ p - 1) := by
  have hpow : 8 ≤ 2 ^ p := Nat.pow_le_pow_right (n := 2) (by decide) hp
  have hodd : 2 ^ p = 2 * 2 ^ (p - 1) := by
    have e : p = (p - 1) + 1 := by lia
    conv => lhs; rw [e]
    rw [Nat.pow_succ, Nat.mul_comm]
  have hs := llR_spec (M := 2 ^ p - 1) (by lia) (p - 2) 0 4 ⟨0, by rw [Int.mul_zero]; rfl⟩
  rw [h, Nat.zero_add] at hs
  have small : ∀ d, d ∣ 2 ^ p - 1 → d * d ≤ 2 ^ p - 1 → d = 1 := by
    intro d hd hle
    false_or_by_contra
    rename_i hne
    obtain ⟨m, hm⟩ := hd
    have hd0 : 0 < d := Nat.pos_of_ne_zero fun q => by rw [q, Nat.zero_mul] at hm; clear hs hodd hle hne h q; lia
    have hdp : 0 < (d : Int) := Int.natCast_pos.mpr hd0
    have hdz : (d : Int) ≠ 0 := Int.ne_of_gt hdp
    have hdodd : ∃ c : Int, (d : Int) = 2 * c + 1 := by
      by_cases q : d % 2 = 1
      · exact ⟨(d / 2 : Nat), by clear hs hodd hpow h hle hm hd0 hdp hdz hne hp; lia⟩
      · exfalso
        have e : d * m = 2 * (d / 2 * m) := by
          have : d = 2 * (d / 2) := by clear hs hodd hpow h hle hm hd0 hdp hdz hne hp; lia
          conv => lhs; rw [this]
          rw [Nat.mul_assoc]
        clear hs hle hd0 hdp hdz hne q h
        rw [e, hodd] at hm
        lia
    have hX : (d : Int) ∣ (lx (2 ^ (p - 2))).1 := by
      refine dvd_odd hdodd ?_
      have h1 : (d : Int) ∣ ((2 ^ p - 1 : Nat) : Int) := Int.natCast_dvd_natCast.mpr ⟨m, hm⟩
      have h2 := Int.dvd_trans h1 hs
      have h3 : (d : Int) ∣ -(((0 : Nat) : Int) - 2 * (lx (2 ^ (p - 2))).1) := Int.dvd_neg.mpr h2
      exact dvd_of_eq h3 (by lia)
    have e1 : 2 ^ (p - 1) = 2 ^ (p - 2) + 2 ^ (p - 2) := by
      have e : p - 1 = (p - 2) + 1 := by clear hs hodd hpow h hle hm hd0 hdp hdz hne hX hdodd; lia
      rw [e, Nat.pow_succ, Nat.mul_two]
    have hng : LNg d (2 ^ (p - 1)) := by
      obtain ⟨a, ha⟩ := hX
      unfold LNg
      rw [e1, (lx_dbl _).1, (lx_dbl _).2, ha]
      refine ⟨⟨2 * (a * (d * a)), ?_⟩, ⟨2 * (a * (lx (2 ^ (p - 2))).2), ?_⟩⟩
      · grind
      · grind
    obtain ⟨i, j, hij, hj, e⟩ := pigeon (d * d) (2 ^ p) (fun n => ((lx n).1 % d).toNat * d + ((lx n).2 % d).toNat) (fun n _ => by
      clear hX hdodd e1 hng hs hodd h hm hne hpow hle
      have a1 := Int.emod_nonneg (lx n).1 (b := (d : Int)) hdz
      have a2 := Int.emod_lt_of_pos (lx n).1 (b := (d : Int)) hdp
      have b1 := Int.emod_nonneg (lx n).2 (b := (d : Int)) hdz
      have b2 := Int.emod_lt_of_pos (lx n).2 (b := (d : Int)) hdp
      have h3 : ((lx n).1 % d).toNat + 1 ≤ d := by lia
      have h4 := Nat.mul_le_mul_right d h3
      rw [Nat.add_mul] at h4
      lia) (by clear hX hdodd e1 hng hs hodd h hm hne; lia)
    (try dsimp only at e)
    have ai := Int.emod_nonneg (lx i).2 (b := (d : Int)) hdz
    have ai2 := Int.emod_lt_of_pos (lx i).2 (b := (d : Int)) hdp
    have aj := Int.emod_nonneg (lx j).2 (b := (d : Int)) hdz
    have aj2 := Int.emod_lt_of_pos (lx j).2 (b := (d : Int)) hdp
    have bi := Int.emod_nonneg (lx i).1 (b := (d : Int)) hdz
    have bj := Int.emod_nonneg (lx j).1 (b := (d : Int)) hdz
    have hy : ((lx i).2 % d).toNat = ((lx j).2 % d).toNat := by
      have := congrArg (· % d) e
      simpa [Nat.add_mod, Nat.mod_eq_of_lt (show ((lx i).2 % d).toNat < d by lia), Nat.mod_eq_of_lt (show ((lx j).2 % d).toNat < d by lia)] using this
    have hx : ((lx i).1 % d).toNat = ((lx j).1 % d).toNat := Nat.eq_of_mul_eq_mul_right hd0 (by rw [hy] at e; exact Nat.add_right_cancel e)
    have hx' : (lx i).1 % d = (lx j).1 % d := by rw [← Int.toNat_of_nonneg bi, ← Int.toNat_of_nonneg bj, hx]
    have hy' : (lx i).2 % d = (lx j).2 % d := by rw [← Int.toNat_of_nonneg ai, ← Int.toNat_of_nonneg aj, hy]
    obtain ⟨u, hu⟩ : (d : Int) ∣ (lx j).1 - (lx i).1 := Int.dvd_of_emod_eq_zero (Int.emod_eq_emod_iff_emod_sub_eq_zero.mp hx'.symm)
    obtain ⟨v, hv⟩ : (d : Int) ∣ (lx j).2 - (lx i).2 := Int.dvd_of_emod_eq_zero (Int.emod_eq_emod_iff_emod_sub_eq_zero.mp hy'.symm)
    -- the difference's power is one
    have hji : j - i + i = j := by lia
    have hid : LId d (j - i) := by
      clear ai ai2 aj aj2 bi bj hy hx hx' hy' e hng e1 hX hdodd hle hne hd0 hm hs hodd hpow h hij hj hdp hdz
      have ha := lx_add (j - i) i
      have hn := lx_norm i
      rw [hji] at ha
      have h1 := congrArg Prod.fst ha
      have h2 := congrArg Prod.snd ha
      dsimp only at h1 h2
      unfold LId
      generalize (lx (j - i)).1 = a at *
      generalize (lx (j - i)).2 = b at *
      generalize (lx i).1 = x at *
      generalize (lx i).2 = y at *
      generalize (lx j).1 = x' at *
      generalize (lx j).2 = y' at *
      refine ⟨⟨u * x - 3 * (v * y), ?_⟩, ⟨v * x - u * y, ?_⟩⟩
      · have : a = x' * x - 3 * (y' * y) := by grind
        grind
      · have : b = y' * x - x' * y := by grind
        grind
    obtain ⟨t, c, ht⟩ := two_part (j - i) (by lia)
    have htp : t < p := by
      false_or_by_contra
      have h5 : 2 ^ p ≤ 2 ^ t := Nat.pow_le_pow_right (by decide) (by lia)
      have h6 : 2 ^ t * 1 ≤ 2 ^ t * (2 * c + 1) := Nat.mul_le_mul_left _ (by lia)
      lia
    have h7 := hid.mul (2 ^ (p - 1 - t))
    have h8 := hng.odd c
    have e9 : (j - i) * 2 ^ (p - 1 - t) = 2 ^ (p - 1) * (2 * c + 1) := by
      rw [ht, Nat.mul_right_comm, ← Nat.pow_add]
      congr 2
      lia
    rw [e9] at h7
    obtain ⟨⟨a, ha⟩, -⟩ := h7
    obtain ⟨⟨b, hb⟩, -⟩ := h8
    have h2d : (d : Int) ∣ 2 := ⟨b - a, by rw [Int.mul_sub]; lia⟩
    have h3 : d ∣ 2 := Int.natCast_dvd_natCast.mp h2d
    have h4 := Nat.le_of_dvd (by decide) h3
    obtain ⟨k, hk⟩ := hdodd
    lia
  refine ⟨by lia, fun d hd => ?_⟩
  obtain ⟨e, he⟩ := hd
  by_cases hle : d * d ≤ 2 ^ p - 1
  · exact .inl (small d ⟨e, he⟩ hle)
  · have hlt : e ≤ d := by
      false_or_by_contra
      have := Nat.mul_le_mul_left d (show d ≤ e by lia)
      lia
    have h1 : e = 1 := small e ⟨d, by rw [he, Nat.mul_comm]⟩ (by have := Nat.mul_le_mul_right e hlt; lia)
    subst h1
    right; lia
end Mine

namespace Mine
theorem powMod_go (b m e : Nat) : ∀ (k p : Nat), p % m = b ^ (e >>> k) % m → ((List.range k).reverse.foldl (fun p i => if e.testBit i then p * p % m * b % m else p * p % m) p) % m = b ^ e % m
  | 0, p, h => by simpa using h
  | k + 1, p, h => by
    rw [List.range_succ, List.reverse_append]
    show ((List.range k).reverse.foldl _ (if e.testBit k then p * p % m * b % m else p * p % m)) % m = _
    refine powMod_go b m e k _ ?_
    have hs : e >>> k = 2 * (e >>> (k + 1)) + (if e.testBit k then 1 else 0) := by
      have h1 : e >>> (k + 1) = (e >>> k) / 2 := by rw [Nat.shiftRight_succ]
      have h2 : e.testBit k = decide ((e >>> k) % 2 = 1) := by
        rw [Nat.testBit_eq_decide_div_mod_eq, Nat.shiftRight_eq_div_pow]
      rw [h1, h2]
      by_cases q : (e >>> k) % 2 = 1
      · simp [q]; lia
      · simp [q]; lia
    have hq : p * p % m = b ^ (2 * (e >>> (k + 1))) % m := by
      rw [Nat.mul_mod, h, ← Nat.mul_mod, ← Nat.pow_add, Nat.two_mul]
    rw [hs]
    by_cases hb : e.testBit k
    · simp only [hb, if_true]
      rw [Nat.mod_mod, Nat.mul_mod, Nat.mod_mod, hq, ← Nat.mul_mod, Nat.pow_add, Nat.pow_one]
    · simp only [hb, if_false, Nat.add_zero, Bool.false_eq_true]
      rw [Nat.mod_mod, hq]
noncomputable def PM (x y m : Int) : Int := (((x % m).toNat ^ y.toNat % m.toNat : Nat) : Int)
theorem PM_nn (x y m : Int) : 0 ≤ PM x y m := Int.natCast_nonneg _
theorem PM_lt {x y m : Int} (hm : 0 < m) : PM x y m < m := by
  unfold PM
  have := Nat.mod_lt ((x % m).toNat ^ y.toNat) (show 0 < m.toNat by lia)
  lia
theorem powMod_lt (b m e : Nat) (hm : 0 < m) : Builtin.powMod b e m < m := by
  unfold Builtin.powMod
  have : ∀ (l : List Nat) (p : Nat), p < m → l.foldl (fun p i => if e.testBit i then p * p % m * b % m else p * p % m) p < m := by
    intro l
    induction l with
    | nil => intro p h; exact h
    | cons x r ih =>
      intro p h
      refine ih _ ?_
      show (if e.testBit x = true then p * p % m * b % m else p * p % m) < m
      split <;> exact Nat.mod_lt _ hm
  exact this _ _ (Nat.mod_lt _ hm)
theorem powMod_is (b e m : Nat) (hm : 0 < m) : Builtin.powMod b e m = b ^ e % m := by
  have h1 := powMod_lt b m e hm
  rw [← Nat.mod_eq_of_lt h1]
  unfold Builtin.powMod
  refine powMod_go b m e _ _ ?_
  have hb : e >>> Builtin.Int.intBits (e : Int) = 0 := by
    unfold Builtin.Int.intBits
    by_cases h0 : e = 0
    · subst h0; rfl
    · have hb : ((e : Int) == 0) = false := by simpa using h0
      rw [hb]
      simp only [Bool.false_eq_true, if_false, Int.natAbs_natCast]
      rw [Nat.shiftRight_eq_div_pow]
      exact Nat.div_eq_of_lt Nat.lt_log2_self
  rw [hb]; simp

theorem entry_powT : entryFor table "pow" = some Builtin.«pow» := entryFor_of_fast (by kernel_rfl)
theorem kind_powT : builtinKind "pow" = none := by decide +kernel
theorem plain_powT : plainId "pow" = true := by decide +kernel
theorem args_pow3 (a b c : Value) : argsOk "pow" ⟨[a, b, c], []⟩ := by unfold argsOk; kernel_rfl
section
variable {prog : Program} {w : World} {A : Around} {E : Value → Shared → Prop} {s : Shared} {x y m : Int} {t u v : Tok} {Q : Value → Shared → Prop}
theorem call_int_pow3 (hm : 0 < m) (hy : 0 ≤ y) (h : Q (.int ((((x % m).toNat ^ y.toNat % m.toNat : Nat) : Int)) s.toks) { s with toks := s.toks + 1 }) :
    wpAny (model prog w) A (call (.builtin "int.__pow__") [.int x t, .int y u, .int m v]) (fun r s' => r ≠ .notImplemented ∧ Q r s') E s := by
  refine wpAny_call_entry slot_int_pow (typeIs_int s x t) entry_int_pow ?_ (F.args_int_pow_3 _ _ _)
  have hm0 : (m == 0) = false := by simpa using (show m ≠ 0 by lia)
  have hy0 : ¬ y < 0 := by lia
  show wpAny _ _ (if (m == 0) = true then _ else _) _ _ s
  rw [if_neg (by rw [hm0]; exact Bool.false_ne_true)]
  show wpAny _ _ (if (m.natAbs == 1) = true then _ else _) _ _ s
  by_cases h1 : m.natAbs = 1
  · have e1 : m = 1 := by lia
    subst e1
    rw [if_pos (by decide : (Int.natAbs 1 == 1) = true)]
    have e2 : (((x % 1).toNat ^ y.toNat % (1 : Int).toNat : Nat) : Int) = 0 := by
      have : (1 : Int).toNat = 1 := rfl
      rw [this, Nat.mod_one]; rfl
    rw [e2] at h
    exact wpAny_bind (wpAny_rule (wpAny_ret_mkInt ⟨by simp, h⟩))
  · rw [if_neg (by simpa using h1)]
    show wpAny _ _ (if y < 0 then _ else _) _ _ s
    rw [if_neg hy0]
    show wpAny _ _ (do ret (← mkInt (if (decide (m < 0) && ((Builtin.powMod (x % (m.natAbs : Int)).toNat y.natAbs m.natAbs : Nat) : Int) != 0) = true then ((Builtin.powMod (x % (m.natAbs : Int)).toNat y.natAbs m.natAbs : Nat) : Int) - m.natAbs else ((Builtin.powMod (x % (m.natAbs : Int)).toNat y.natAbs m.natAbs : Nat) : Int)))) _ _ s
    have hlt : decide (m < 0) = false := by simpa using (show 0 ≤ m by lia)
    rw [hlt, Bool.false_and, if_neg Bool.false_ne_true]
    have e1 : m.natAbs = m.toNat := by lia
    have e2 : y.natAbs = y.toNat := by lia
    have e3 : ((m.toNat : Nat) : Int) = m := by lia
    rw [e1, e2, e3, powMod_is _ _ _ (by lia)]
    exact wpAny_ret_mkInt ⟨by simp, h⟩
theorem pow3 (hm : 0 < m) (hy : 0 ≤ y) (h : Q (.int (PM x y m) s.toks) { s with toks := s.toks + 1 }) :
    wpAny (model prog w) A (call (.builtin "pow") [.int x t, .int y u, .int m v]) Q E s := by
  refine Calls.call_function_entry kind_powT plain_powT entry_powT (args_pow3 _ _ _) ?_
  unfold Builtin.«pow»
  refine wpAny_bind (m := Builtin.Builtins.bindParams "pow" ["base", "exp", "mod"] 2 _) (wpAny_pure ?_)
  refine wpAny_bind (wpAny_rule ?_)
  refine wpAny_bind (m := typeOf (.int x t)) (wpAny_pure ?_)
  have hT : s.TypeIs (.int x t) "int" := rfl
  have f3 : typeLookup (.type "int") (Str.ofString "__pow__") = pure (some (.builtin "int.__pow__")) := slot_int_pow.lookup
  refine wpAny_bind (m := typeLookup (.type "int") (Str.ofString "__pow__")) ?_
  rw [f3]
  refine wpAny_pure ?_
  refine wpAny_bind (m := callSpecial? (.int x t) (Str.ofString "__pow__") [.int y u, .int m v]) ?_
  refine wpAny_callSpecial?_slot (name := Str.ofString "__pow__") hT slot_int_pow (wpAny_mono (call_int_pow3 hm hy (Q := Q) h) (fun r s' hr => ?_) fun _ _ z => z)
  show wpAny _ _ (if (r != .notImplemented) = true then ret r else _) _ _ s'
  rw [if_pos (by simpa using hr.1)]
  exact wpAny_pure ⟨_, rfl, hr.2⟩
end
theorem pow_dvd_sub {m a b : Int} (h : m ∣ a - b) : ∀ k : Nat, m ∣ a ^ k - b ^ k
  | 0 => ⟨0, by simp⟩
  | k + 1 => by
    obtain ⟨c, hc⟩ := h
    obtain ⟨d, hd⟩ := pow_dvd_sub ⟨c, hc⟩ k
    exact ⟨d * a + b ^ k * c, by rw [Int.pow_succ, Int.pow_succ]; grind⟩
theorem emod_dvd (m a : Int) : m ∣ a % m - a := ⟨-(a / m), by have := Int.emod_add_mul_ediv a m; grind⟩
theorem fmod_dvd {m a : Int} (hm : 0 < m) : m ∣ a.fmod m - a := by rw [Int.fmod_eq_emod_of_nonneg _ (Int.le_of_lt hm)]; exact emod_dvd m a
theorem PM_eq {x y m : Int} (hm : 0 < m) : PM x y m = (x % m) ^ y.toNat % m := by
  unfold PM
  have h1 : ((x % m).toNat : Int) = x % m := Int.toNat_of_nonneg (Int.emod_nonneg _ (by lia))
  have h2 : (m.toNat : Int) = m := Int.toNat_of_nonneg (by lia)
  rw [Int.natCast_emod, Int.natCast_pow, h1, h2]
theorem PM_dvd {x y m : Int} (hm : 0 < m) : m ∣ PM x y m - x ^ y.toNat := by
  rw [PM_eq hm]
  obtain ⟨c, hc⟩ := emod_dvd m ((x % m) ^ y.toNat)
  obtain ⟨d, hd⟩ := pow_dvd_sub (emod_dvd m x) y.toNat
  exact ⟨c + d, by grind⟩
theorem res_unique {m a b : Int} (h : m ∣ a - b) (ha : 0 ≤ a) (ha1 : a < m) (hb : 0 ≤ b) (hb1 : b < m) : a = b := by
  have := Int.emod_emod_of_dvd
  have h1 := Int.emod_eq_emod_iff_emod_sub_eq_zero.mpr (Int.emod_eq_zero_of_dvd h)
  rwa [Int.emod_eq_of_lt ha ha1, Int.emod_eq_of_lt hb hb1] at h1
theorem dvd_trans_sub {m a b c : Int} (h : m ∣ a - b) (k : m ∣ b - c) : m ∣ a - c := by
  obtain ⟨x, hx⟩ := h
  obtain ⟨y, hy⟩ := k
  exact ⟨x + y, by grind⟩
theorem dvd_sub_symm {m a b : Int} (h : m ∣ a - b) : m ∣ b - a := by
  obtain ⟨x, hx⟩ := h
  exact ⟨-x, by grind⟩
theorem dvd_mul_sub {m a b c d : Int} (h : m ∣ a - b) (k : m ∣ c - d) : m ∣ a * c - b * d := by
  obtain ⟨x, hx⟩ := h
  obtain ⟨y, hy⟩ := k
  exact ⟨x * c + b * y, by grind⟩
theorem PM_of_dvd {x y m r : Int} (hm : 0 < m) (h : m ∣ r - x ^ y.toNat) (h0 : 0 ≤ r) (h1 : r < m) : r = PM x y m :=
  res_unique (dvd_trans_sub h (dvd_sub_symm (PM_dvd hm))) h0 h1 (PM_nn _ _ _) (PM_lt hm)
theorem PM_bd {x y m : Int} {k : Nat} (hm : 0 < m) (h : Bd k m) : Bd k (PM x y m) := Bd.of_lt (PM_nn _ _ _) (Int.le_of_lt (PM_lt hm)) h
theorem fmod_bd {x m : Int} {k : Nat} (hm : 0 < m) (h : Bd k m) : Bd k (x.fmod m) := Bd.of_lt (fmod_nn hm).1 (Int.le_of_lt (fmod_nn hm).2) h
theorem blinded_dvd {x b e n : Int} (hn : 0 < n) : n ∣ (x * PM b e n).fmod n - x * b ^ e.toNat := by
  obtain ⟨c, hc⟩ := fmod_dvd (a := x * PM b e n) hn
  obtain ⟨d, hd⟩ := PM_dvd (x := b) (y := e) hn
  exact ⟨c + x * d, by grind⟩
end Mine

namespace Mine
set_option genInjectivity false in
structure KeyS where
  n : Int
  e : Int
  d : Int
  p : Int
  q : Int
  x1 : Int
  x2 : Int
  cf : Int
  tn : Tok
  te : Tok
  td : Tok
  tp : Tok
  tq : Tok
  tx1 : Tok
  tx2 : Tok
  tcf : Tok
  k1 : Tok
  k2 : Tok
  k3 : Tok
  k4 : Tok
  k5 : Tok
  k6 : Tok
  k7 : Tok
  k8 : Tok
  k9 : Tok
  k10 : Tok
noncomputable abbrev keyE (w : World) (nm : Str) (k : Tok) (v : Value) : DictEntry := ⟨PyData.keyHash w.params nm, .str nm k, v⟩
noncomputable abbrev KeyD (w : World) (S : KeyS) (bf : Int) (tbf : Tok) (bi : Int) (tbi : Tok) : Obj :=
  dictOf [keyE w (Str.ofString "n") S.k1 (.int S.n S.tn), keyE w (Str.ofString "e") S.k2 (.int S.e S.te), keyE w (Str.ofString "blindfac") S.k3 (.int bf tbf), keyE w (Str.ofString "blindfac_inverse") S.k4 (.int bi tbi),
    keyE w (Str.ofString "d") S.k5 (.int S.d S.td), keyE w (Str.ofString "p") S.k6 (.int S.p S.tp), keyE w (Str.ofString "q") S.k7 (.int S.q S.tq), keyE w (Str.ofString "exp1") S.k8 (.int S.x1 S.tx1), keyE w (Str.ofString "exp2") S.k9 (.int S.x2 S.tx2), keyE w (Str.ofString "coef") S.k10 (.int S.cf S.tcf)] 10
noncomputable abbrev KeyL (w : World) (C x dx : Nat) (S : KeyS) (bf : Int) (tbf : Tok) (bi : Int) (tbi : Tok) : List (Addr × Obj) :=
  [(x, instObj C dx), (dx, KeyD w S bf tbf bi tbi)]
noncomputable abbrev PubD (w : World) (S : KeyS) (bf : Int) (tbf : Tok) (bi : Int) (tbi : Tok) : Obj :=
  dictOf [keyE w (Str.ofString "n") S.k1 (.int S.n S.tn), keyE w (Str.ofString "e") S.k2 (.int S.e S.te), keyE w (Str.ofString "blindfac") S.k3 (.int bf tbf), keyE w (Str.ofString "blindfac_inverse") S.k4 (.int bi tbi)] 4
noncomputable abbrev PubL (w : World) (C x dx : Nat) (S : KeyS) (bf : Int) (tbf : Tok) (bi : Int) (tbi : Tok) : List (Addr × Obj) :=
  [(x, instObj C dx), (dx, PubD w S bf tbf bi tbi)]
noncomputable def KOk (S : KeyS) : Prop := 0 < S.n ∧ Bd 1230 S.n ∧ (0 ≤ S.e ∧ Bd 1230 S.e)
noncomputable def BfOk (S : KeyS) (bf bi : Int) : Prop := (bf < 0 ∨ (0 ≤ bf ∧ Bd 1231 bf ∧ 0 ≤ bi ∧ bi ≤ S.n ∧ S.n ∣ bi * bf - 1))
theorem Bd.lt_succ {M : Nat} {a b : Int} (h : Bd M a) (h0 : 0 ≤ b) (h1 : b ≤ a + 1) : Bd (M + 1) b := by
  unfold Bd at *
  have : 2 ^ (M + 1) = 2 * 2 ^ M := by rw [Nat.pow_succ]; lia
  have : 0 < 2 ^ M := Nat.two_pow_pos M
  lia
theorem gcd_succ (n : Int) : Int.gcd n (n + 1) = 1 := by
  rw [Int.add_comm, Int.gcd_add_self_right]
  exact Int.gcd_one_right n
theorem BfOk.first {S : KeyS} {r i : Int} (hk : KOk S) (h2 : 2 ≤ r) (hb : Bd 1231 r) (h0 : 0 ≤ i) (h1 : i ≤ S.n) (hd : S.n ∣ i * r - 1) : BfOk S r i := .inr ⟨by lia, hb, h0, h1, hd⟩
theorem BfOk.next {S : KeyS} {bf bi : Int} (hk : KOk S) (h : BfOk S bf bi) (hn : ¬ bf < 0) : BfOk S (PM bf 2 S.n) (PM bi 2 S.n) := by
  rcases h with h | ⟨h1, h2, h3, h4, h5⟩
  · exact absurd h hn
  · refine .inr ⟨PM_nn _ _ _, Bd.of_lt (PM_nn _ _ _) (Int.le_of_lt (PM_lt hk.1)) (hk.2.1.mono (by decide)), PM_nn _ _ _, Int.le_of_lt (PM_lt hk.1), ?_⟩
    have a1 := PM_dvd (x := bf) (y := 2) hk.1
    have a2 := PM_dvd (x := bi) (y := 2) hk.1
    have a3 := dvd_mul_sub a2 a1
    refine dvd_trans_sub a3 ?_
    have a4 := dvd_mul_sub h5 h5
    obtain ⟨c, hc⟩ := a4
    refine ⟨c, ?_⟩
    show bi ^ 2 * bf ^ 2 - 1 = _
    grind
structure KRsa (S : KeyS) : Prop where
  ok : KOk S
  npq : S.n = S.p * S.q
  p0 : 0 < S.p
  q0 : 0 < S.q
  pB : Bd 610 S.p
  qB : Bd 610 S.q
  dB : Bd 1230 S.d
  c0 : 0 ≤ S.cf
  c1 : S.cf ≤ S.p
  cd : S.p ∣ S.cf * S.q - 1
  x10 : 0 ≤ S.x1
  x20 : 0 ≤ S.x2
  d0 : 0 ≤ S.d
  xp : ∀ z : Int, S.p ∣ z ^ S.x1.toNat - z ^ S.d.toNat
  xq : ∀ z : Int, S.q ∣ z ^ S.x2.toNat - z ^ S.d.toNat
  both : ∀ a : Int, S.p ∣ a → S.q ∣ a → S.n ∣ a
  ed : ∀ z : Int, S.n ∣ z ^ (S.e.toNat * S.d.toNat) - z
theorem KRsa.bdec {S : KeyS} {r y b i u : Int} (K : KRsa S) (h1 : S.n ∣ r - y * b ^ S.e.toNat) (hb : BfOk S b i) (hb0 : 0 ≤ b) (u0 : 0 ≤ u) (u1 : u < S.n)
    (hu : S.n ∣ u - i * (PM r S.x2 S.q + S.q * ((PM r S.x1 S.p - PM r S.x2 S.q) * S.cf).fmod S.p)) : u = PM y S.d S.n := by
  have hbi : S.n ∣ i * b - 1 := by
    rcases hb with h | ⟨_, _, _, _, h⟩
    · lia
    · exact h
  refine PM_of_dvd K.ok.1 ?_ u0 u1
  have e1 : S.p ∣ PM r S.x1 S.p - r ^ S.d.toNat := dvd_trans_sub (PM_dvd K.p0) (K.xp r)
  have e2 : S.q ∣ PM r S.x2 S.q - r ^ S.d.toNat := dvd_trans_sub (PM_dvd K.q0) (K.xq r)
  have e3 := fmod_dvd (a := (PM r S.x1 S.p - PM r S.x2 S.q) * S.cf) K.p0
  generalize PM r S.x1 S.p = s1 at *
  generalize PM r S.x2 S.q = s2 at *
  generalize ((s1 - s2) * S.cf).fmod S.p = h at *
  have e4 : S.n ∣ (s2 + S.q * h) - r ^ S.d.toNat := by
    refine K.both _ ?_ ?_
    · obtain ⟨a1, q1⟩ := e1
      obtain ⟨a3, q3⟩ := e3
      obtain ⟨a4, q4⟩ := K.cd
      exact ⟨a1 + S.q * a3 + (s1 - s2) * a4, by grind⟩
    · obtain ⟨a2, q2⟩ := e2
      exact ⟨a2 + h, by grind⟩
  have e5 := pow_dvd_sub h1 S.d.toNat
  have e6 : S.n ∣ (y * b ^ S.e.toNat) ^ S.d.toNat - y ^ S.d.toNat * b := by
    have := K.ed b
    rw [Int.mul_pow, ← Int.pow_mul]
    obtain ⟨c, hc⟩ := this
    exact ⟨y ^ S.d.toNat * c, by grind⟩
  have e7 := dvd_trans_sub e4 (dvd_trans_sub e5 e6)
  obtain ⟨a1, q1⟩ := e7
  obtain ⟨a2, q2⟩ := hu
  obtain ⟨a3, q3⟩ := hbi
  exact ⟨a2 + i * a1 + y ^ S.d.toNat * a3, by grind⟩
theorem KRsa.benc {S : KeyS} {r y b i u : Int} (K : KRsa S) (h1 : S.n ∣ r - y * b ^ S.e.toNat) (hb : BfOk S b i) (hb0 : 0 ≤ b) (u0 : 0 ≤ u) (u1 : u < S.n)
    (hu : S.n ∣ u - i * PM r S.d S.n) : u = PM y S.d S.n := by
  have hbi : S.n ∣ i * b - 1 := by
    rcases hb with h | ⟨_, _, _, _, h⟩
    · lia
    · exact h
  refine PM_of_dvd K.ok.1 ?_ u0 u1
  have e4 := PM_dvd (x := r) (y := S.d) K.ok.1
  have e5 := pow_dvd_sub h1 S.d.toNat
  have e6 : S.n ∣ (y * b ^ S.e.toNat) ^ S.d.toNat - y ^ S.d.toNat * b := by
    have := K.ed b
    rw [Int.mul_pow, ← Int.pow_mul]
    obtain ⟨c, hc⟩ := this
    exact ⟨y ^ S.d.toNat * c, by grind⟩
  have e7 := dvd_trans_sub e4 (dvd_trans_sub e5 e6)
  obtain ⟨a1, q1⟩ := e7
  obtain ⟨a2, q2⟩ := hu
  obtain ⟨a3, q3⟩ := hbi
  exact ⟨a2 + i * a1 + y ^ S.d.toNat * a3, by grind⟩
theorem BfOk.bd {S : KeyS} {b i : Int} (hk : KOk S) (h : BfOk S b i) (h0 : 0 ≤ b) : Bd 1231 i := by
  rcases h with h | ⟨_, _, h3, h4, _⟩
  · lia
  · exact Bd.of_lt h3 h4 (hk.2.1.mono (by decide))
noncomputable def PrOk (r : Int) : Prop := 3 ≤ r ∧ Bd 607 r ∧ Pr r.toNat
theorem prOk_of {n : Nat} (h3 : 3 ≤ n) (hb : n < 2 ^ 607) (hp : Pr n) : PrOk (n : Int) := ⟨by lia, hb, hp⟩
theorem four_le {p q : Int} (hp : 3 ≤ p) (hq : 3 ≤ q) : 4 ≤ (p - 1) * (q - 1) := by
  obtain ⟨a, rfl⟩ : ∃ a, p = a + 3 := ⟨p - 3, by lia⟩
  obtain ⟨b, rfl⟩ : ∃ b, q = b + 3 := ⟨q - 3, by lia⟩
  have h : 0 ≤ a * b := Int.mul_nonneg (by lia) (by lia)
  have e : (a + 3 - 1) * (b + 3 - 1) = a * b + 2 * a + 2 * b + 4 := by grind
  lia
theorem pq_lt {p q : Int} (hp : 3 ≤ p) (hq : 3 ≤ q) : (p - 1) * (q - 1) + 5 ≤ p * q ∧ 9 ≤ p * q := by
  have e : p * q = (p - 1) * (q - 1) + (p - 1) + (q - 1) + 1 := by grind
  have := four_le hp hq
  lia
end Mine

namespace Mine
theorem Pr.powI {p : Nat} (h : Pr p) (z : Int) (j : Nat) : (p : Int) ∣ z ^ (1 + j * (p - 1)) - z := by
  have hp : (0 : Int) < (p : Int) := by have := h.1; lia
  obtain ⟨r, hr⟩ : ∃ r : Nat, (r : Int) = z % (p : Int) := ⟨(z % (p : Int)).toNat, Int.toNat_of_nonneg (Int.emod_nonneg _ (by lia))⟩
  have h1 : (p : Int) ∣ (r : Int) - z := hr ▸ emod_dvd (p : Int) z
  have h2 : (p : Int) ∣ (r : Int) ^ (1 + j * (p - 1)) - (r : Int) := by
    have h3 := h.pow1 (a := r) (k := 1 + j * (p - 1)) (j := j) rfl
    have h4 : (((r ^ (1 + j * (p - 1)) : Nat) : Int)) % (p : Int) = ((r : Nat) : Int) % (p : Int) := by
      rw [← Int.natCast_emod, ← Int.natCast_emod, h3]
    have h5 := Int.dvd_of_emod_eq_zero (Int.emod_eq_emod_iff_emod_sub_eq_zero.mp h4)
    rwa [Int.natCast_pow] at h5
  exact dvd_trans_sub (dvd_sub_symm (pow_dvd_sub h1 _)) (dvd_trans_sub h2 h1)
theorem Pr.powC {p : Nat} (h : Pr p) (z : Int) {a b j : Nat} (ha : 1 ≤ a) (hb : b = a + j * (p - 1)) : (p : Int) ∣ z ^ a - z ^ b := by
  obtain ⟨c, rfl⟩ : ∃ c, a = c + 1 := ⟨a - 1, by lia⟩
  have e1 : b = c + (1 + j * (p - 1)) := by lia
  rw [e1, Int.pow_add, Int.pow_add, Int.pow_one]
  obtain ⟨k, hk⟩ := h.powI z j
  refine ⟨z ^ c * -k, ?_⟩
  generalize z ^ (1 + j * (p - 1)) = y at *
  generalize z ^ c = x at *
  have : y = z + (p : Int) * k := by lia
  subst this
  grind
theorem fmod_div_eq {d m : Int} (hm : 0 < m) (hd : 0 ≤ d) : ∃ j : Nat, d.toNat = (d.fmod m).toNat + j * m.toNat := by
  refine ⟨(d / m).toNat, ?_⟩
  have h0 := Int.emod_nonneg d (show m ≠ 0 by lia)
  have h1 := Int.emod_add_mul_ediv d m
  have h2 : 0 ≤ d / m := Int.ediv_nonneg hd (by lia)
  rw [Int.fmod_eq_emod_of_nonneg _ (by lia)]
  have h3 : ((d.toNat : Nat) : Int) = (((d % m).toNat + (d / m).toNat * m.toNat : Nat) : Int) := by
    rw [Int.natCast_add, Int.natCast_mul, Int.toNat_of_nonneg hd, Int.toNat_of_nonneg h0, Int.toNat_of_nonneg h2, Int.toNat_of_nonneg (by lia)]
    rw [Int.mul_comm]; lia
  exact_mod_cast h3
theorem prime_share {p : Int} (hp : PrOk p) {d e : Int} (hd : 0 ≤ d) (he : 0 ≤ e) (hm : (p - 1) ∣ d * e - 1) :
    0 ≤ d.fmod (p - 1) ∧ (∀ z : Int, p ∣ z ^ (d.fmod (p - 1)).toNat - z ^ d.toNat) ∧ (∀ z : Int, p ∣ z ^ (e.toNat * d.toNat) - z) := by
  obtain ⟨h3, -, hpr⟩ := hp
  have hpn : ((p.toNat : Nat) : Int) = p := Int.toNat_of_nonneg (by lia)
  have hpt : (p - 1).toNat = p.toNat - 1 := by lia
  have hf := fmod_nn (a := d) (b := p - 1) (by lia)
  refine ⟨hf.1, fun z => ?_, fun z => ?_⟩
  · obtain ⟨j, hj⟩ := fmod_div_eq (m := p - 1) (by lia) hd
    rw [hpt] at hj
    have h1 : 1 ≤ (d.fmod (p - 1)).toNat := by
      refine Nat.pos_of_ne_zero fun hz => ?_
      have hz' : d.fmod (p - 1) = 0 := by lia
      have h4 := fmod_dvd (a := d) (m := p - 1) (by lia)
      rw [hz'] at h4
      obtain ⟨u, hu⟩ := h4
      obtain ⟨v, hv⟩ := hm
      have h5 : (p - 1) * (-(u * e) - v) = 1 := by
        have : d = -((p - 1) * u) := by lia
        subst this
        grind
      have h6 : (p - 1) ∣ 1 := ⟨_, h5.symm⟩
      have := Int.le_of_dvd (by decide) h6
      lia
    have := hpr.powC z h1 hj
    rwa [hpn] at this
  · obtain ⟨v, hv⟩ := hm
    have hde : 0 ≤ d * e := Int.mul_nonneg hd he
    have hv0 : 0 ≤ v := by
      refine Int.not_lt.mp fun hc => ?_
      have h7 : (p - 1) * v ≤ (p - 1) * (-1) := Int.mul_le_mul_of_nonneg_left (by lia) (by lia)
      lia
    have h8 : e.toNat * d.toNat = 1 + v.toNat * (p.toNat - 1) := by
      have h9 : (((e.toNat * d.toNat : Nat)) : Int) = ((1 + v.toNat * (p.toNat - 1) : Nat) : Int) := by
        rw [Int.natCast_mul, Int.natCast_add, Int.natCast_mul, Int.toNat_of_nonneg hd, Int.toNat_of_nonneg he, Int.toNat_of_nonneg hv0, ← hpt, Int.toNat_of_nonneg (by lia)]
        have e1 : e * d = d * e := Int.mul_comm ..
        have e2 : v * (p - 1) = (p - 1) * v := Int.mul_comm ..
        rw [e1, e2]
        show d * e = 1 + _
        lia
      exact_mod_cast h9
    have := hpr.powI z v.toNat
    rw [← h8, hpn] at this
    exact this
theorem primes_gcd {p q : Int} (hp : PrOk p) (hq : PrOk q) (hne : p ≠ q) : Int.gcd q p = 1 := by
  obtain ⟨h3, -, hpr⟩ := hp
  obtain ⟨k3, -, hqr⟩ := hq
  have e1 : q.natAbs = q.toNat := by lia
  have e2 : p.natAbs = p.toNat := by lia
  show Nat.gcd q.natAbs p.natAbs = 1
  rw [e1, e2]
  refine hqr.coprime fun hd => ?_
  rcases hpr.2 _ hd with h | h <;> lia
theorem both_dvd {p q a : Int} (hg : Int.gcd q p = 1) (h1 : p ∣ a) (h2 : q ∣ a) : p * q ∣ a := by
  obtain ⟨u, rfl⟩ := h1
  have h3 : q ∣ u := by
    have h4 := Int.natAbs_dvd_natAbs.mpr h2
    rw [Int.natAbs_mul] at h4
    exact Int.natAbs_dvd_natAbs.mp (Nat.Coprime.dvd_of_dvd_mul_left hg h4)
  obtain ⟨v, rfl⟩ := h3
  exact ⟨v, by grind⟩
theorem KRsa.made {S : KeyS} {p q e d : Int} (hp : PrOk p) (hq : PrOk q) (hne : p ≠ q) (he : 0 ≤ e) (heB : Bd 1230 e) (hd : 0 ≤ d) (hd1 : d < (p - 1) * (q - 1)) (hed : (p - 1) * (q - 1) ∣ d * e - 1)
    (en : S.n = p * q) (ee : S.e = e) (ed : S.d = d) (ep : S.p = p) (eq : S.q = q) (e1 : S.x1 = d.fmod (p - 1)) (e2 : S.x2 = d.fmod (q - 1)) (c0 : 0 ≤ S.cf) (c1 : S.cf ≤ p) (cd : p ∣ S.cf * q - 1) : KRsa S := by
  have hg := primes_gcd hp hq hne
  have sp := prime_share hp hd he (Int.dvd_trans ⟨q - 1, rfl⟩ hed)
  have sq := prime_share hq hd he (Int.dvd_trans ⟨p - 1, Int.mul_comm ..⟩ hed)
  have p3 := hp.1
  have q3 := hq.1
  have hpq := pq_lt p3 q3
  have hB : Bd 1214 (p * q) := hp.2.1.mul hq.2.1
  have hb : ∀ a : Int, p ∣ a → q ∣ a → p * q ∣ a := fun a => both_dvd hg
  obtain ⟨n', e', d', p', q', x1', x2', cf', tn, te, td, tp, tq, tx1, tx2, tcf, k1, k2, k3, k4, k5, k6, k7, k8, k9, k10⟩ := S
  dsimp only at en ee ed ep eq e1 e2 c0 c1 cd
  subst en ee ed ep eq e1 e2
  exact ⟨⟨by dsimp only; lia, hB.mono (by decide), he, heB⟩, rfl, by dsimp only; lia, by dsimp only; lia, hp.2.1.mono (by decide), hq.2.1.mono (by decide), Bd.of_lt hd (by dsimp only at hd1 ⊢; lia) (hB.mono (by decide)), c0, c1, cd, sp.1, sq.1, hd, sp.2.1, sq.2.1, hb, fun z => hb _ (sp.2.2 z) (sq.2.2 z)⟩
theorem dB_pq {p q : Int} (hp : PrOk p) (hq : PrOk q) : Bd 1230 ((p - 1) * (q - 1)) := by
  have h1 := hp.1
  have h2 := hq.1
  have h3 := four_le h1 h2
  have h4 := pq_lt h1 h2
  exact Bd.of_lt (by lia) (by lia) ((hp.2.1.mul hq.2.1).mono (by decide))
end Mine

namespace Mine
theorem code_defCR {prog : Program} {w : World} {A₀ A : Around} {s : Shared} {K : Frag} {L : Addr} {h₀ base : Heap} {m mg mb : Str → Option Value} {news : List (Addr × Obj)} {p : Program} {loose : List Str} {mean : ExcName → Option Value}
    {env : Env} {outer : List Env} {R : Result → Shared → Prop} {name qual : Str} {params : Arguments} {body : List Stmt} {scope : Scope} {dV kV doc pm cdv ct oc : Value} {an od : Option Addr} {osl : Array (Option Value)} {f : Addr} {args : Args} {binds : List (Str × Value)}
    (B : Below A₀ base outer h₀) (F : Fr h₀ L s.heap m) (X₀ : K.In h₀) (N : News h₀ L s.heap news) (T : Top p loose mean mg mb h₀) (hA : A.frames = some (env :: outer)) (hf : env.frame = some L) (hke : env.scope.kind = .function)
    (ho : K.lookup f = some ⟨oc, od, .func (fnOf name qual params body scope dV kV doc pm an cdv ct), osl⟩) (hcd : codeIn K cdv qual = true) (hroom : A.depth < recursionLimit)
    (hbind : BindsTo s (fnOf name qual params body scope dV kV doc pm an cdv ct) args binds) (hkind : (binds.all fun y => scope.names.lookup y.1 == some .local || scope.names.lookup y.1 == some .cell) = true)
    (hnd : ((cellsFrom 0 scope.names []).map (·.1)).Nodup)
    (h : ∀ g L' h₁ tk cells, Fr h₀ L g m → Fr g L' h₁ (bindL (envOfC qual scope L' f cdv).kindOf binds fun _ => none) → News g L' h₁ (cells ++ news) →
      CellsAre (bindC (envOfC qual scope L' f cdv).kindOf binds fun _ => none) (cellsFrom (L' + 1) scope.names []) cells → Below A base (env :: outer) g → K.In g → Top p loose mean mg mb g →
      (∀ b o, s.heap.get? b = some o → b ∉ news.map (·.1) → g.get? b = some o) → (∀ b o, s.heap.get? b = some o → b < L') →
      wpAny (model prog w) (A.deeper (envOfC qual scope L' f cdv)) (execs body (envOfC qual scope L' f cdv))
        (fun fl s' => LeaveK h₀ L m g R (match fl with | .ret v => v | _ => .none) s')
        (fun e s' => wpAny (model prog w) (A.deeper (envOfC qual scope L' f cdv)) (leaving (envOfC qual scope L' f cdv) e) (fun _ s'' => R (.error e) s'') (fun e' s'' => R (.error e') s'') s')
        { s with heap := h₁, toks := tk })
    (hco : scope.isCoroutine = false) (hgen : scope.isGenerator = false) (hk : scope.kind = .function) : codeAny (model prog w) A (.call (.ref f) args) R s := by
  obtain ⟨FG, BG, st, lv⟩ := groundX (R := R) B F N hA hf hke
  refine codeAny_call_function hroom ((X₀.keeps F.keep) _ _ ho) rfl hco hgen rfl (codeRec_of (X₀.keeps F.keep) hcd) (hbind _ _ _ _ ?_)
  refine wpAny_newFunctionEnv_cells hk (kindsX hkind _) fun env' he s' x => ?_
  subst he
  refine ⟨(T.nolimit.keeps F.keep).keeps x.toInCall.keep, codeAny_func ?_⟩
  obtain ⟨h₁, tk, rfl, _⟩ := x.done
  have hk₁ := x.toInCall.keep
  obtain ⟨cells, NC, Y⟩ := Cl.news (h₀ := s.heap) (Nat.le_refl _) fun n c hm => ⟨x.cell n c (lookup_of_mem_nodup (cellsFrom_names scope.names 0 (s.heap.objs.size + 1) [] [] rfl ▸ hnd) hm), x.above n c hm⟩
  refine wpAny_mono (h _ s.heap.objs.size h₁ tk cells FG ⟨x.toInCall.ns, fun b o e => hk₁ b o (of_hideAll _ e), Nat.le_of_eq (hideAll_size _ _)⟩ (fun p hp => ?_) Y BG (X₀.keeps st) (T.keeps st) (fun b o e hb => hideAll_get _ e hb) (fun b o e => Heap.lt_size e)) (fun fl s' hl => lv _ _ hl) fun _ _ y => y
  rcases List.mem_append.mp hp with hp | hp
  · refine ⟨(NC p hp).1, (NC p hp).2.1, ?_⟩
    cases q : (hideAll s.heap (news.map (·.1))).get? p.1 with
    | none => rfl
    | some o => have := of_hideAll _ q; rw [(NC p hp).2.2] at this; cases this
  · exact ⟨hk₁ _ _ (N p hp).1, Nat.ne_of_lt (Heap.lt_size (N p hp).1), hideAll_none _ (List.mem_map_of_mem hp)⟩

section
variable {prog : Program} {w : World} {A : Around} {E : Value → Shared → Prop} {s : Shared} {env : Env} {h₀ : Heap} {target : Expr} {body : List Stmt} {Q : Flow → Shared → Prop}
noncomputable def TurnS {σ : Type} (Led : σ → List (Addr × Obj)) (ps : σ → List (Str × Value)) (stored : List Str) (m₀ : Str → Option Value) (P : σ → Prop) (m : Str → Option Value) (nx : List (Addr × Obj)) : Prop :=
  ∃ c : σ, nx = Led c ∧ (∀ p ∈ ps c, m p.1 = some p.2) ∧ (∀ z, (∀ p ∈ ps c, z ≠ p.1) → stored.contains z = false → m z = m₀ z) ∧ P c
theorem m_endT {σ : Type} {L : Addr} {Led : σ → List (Addr × Obj)} {ps : σ → List (Str × Value)} {stored : List Str} {m₀ : Str → Option Value} {P : σ → Prop} (c : σ) {m' : Str → Option Value} {own news' : List (Addr × Obj)} {adr : List Addr} {s₁ : Shared} {h' : Heap} {tk : Nat}
    (F : Fr h₀ L h' m') (N : News h₀ L h' news') (hn : ∀ p ∈ Led c, p ∈ news') (ho : ∀ p ∈ own, p ∈ news') (ha : (Led c).map (·.1) = adr) (hk : ∀ p ∈ ps c, m' p.1 = some p.2) (hr : ∀ z, (∀ p ∈ ps c, z ≠ p.1) → stored.contains z = false → m' z = m₀ z) (hp : P c) :
    InvEndN h₀ L (TurnS Led ps stored m₀ P) own adr s₁ { s₁ with heap := h', toks := tk } :=
  InvEndN.intro F N ⟨c, rfl, hk, hr, hp⟩ ha hn ho
end
section
 open PyProof.Rows.LCg PyProof.Rows.LCt
variable {prog : Program} {w : World} {A : Around} {s : Shared} {h₀ : Heap} {L : Addr} {m : Str → Option Value} {env : Env}
theorem compEnd_mono {s₁ s₂ : Shared} {I C D : Addr} {oI oC oD : Obj} {S : List (Addr × Obj) → Prop} {r r' : Value → List (Addr × Obj) → Prop} {y : Value} (h : CompEnd h₀ L m s₁ I oI C oC D oD S r y s₂) (k : ∀ n, r y n → r' y n) : CompEnd h₀ L m s₁ I oI C oC D oD S r' y s₂ := by
  obtain ⟨h', tk, n', a, b, c, d, e, f⟩ := h
  exact ⟨h', tk, n', a, b, c, d, e, k _ f⟩
theorem compT_ind {ct elt : Expr} {x : Str} {scope : Scope} {cl : List (Str × Addr)} {S : List (Addr × Obj) → Prop} {P : Nat → Value → Prop} {Fin : List Value → List (Addr × Obj) → Prop} {news : List (Addr × Obj)} {n : Nat} (J : Nat → List Value → Prop) (h0 : J 0 [])
    (turn : ∀ i ys (R' : List Value → Prop), i < n → J i ys → (∀ ys', J (i + 1) ys' → R' ys') → ∀ v I oI C oC D m₂ h tk (E' : Value → Shared → Prop), P i v → NsObj oC m₂ → m₂ x = some v → Fr h₀ L h m → News h₀ L h ((I, oI) :: (C, oC) :: (D, lst ys) :: news) → Off3 I C D news → ((@Ne Nat I C) ∧ (@Ne Nat I D) ∧ (@Ne Nat C D)) →
      wpAny (model prog w) A (isTrue ct (compEnvC scope cl C env) (eval ct (compEnvC scope cl C env))) (fun ok s' => if ok = true then
        wpAny (model prog w) A (eval elt (compEnvC scope cl C env)) (CompEnd h₀ L m { s with heap := h, toks := tk } I oI C oC D (lst ys) S (fun y news' => news' = news ∧ R' (ys ++ [y]))) E' s'
        else CompEnd h₀ L m { s with heap := h, toks := tk } I oI C oC D (lst ys) S (fun _ news' => news' = news ∧ R' ys) Value.none s') E' { s with heap := h, toks := tk })
    (fin : ∀ ys, J n ys → Fin ys news) : CompRestT prog w A h₀ L m env ct elt x scope cl s S P Fin n 0 [] news := by
  have key : ∀ k i ys, i + k = n → J i ys → CompRestT prog w A h₀ L m env ct elt x scope cl s S P Fin k i ys news := by
    intro k
    induction k with
    | zero => intro i ys hi hj; exact .zero (fin ys (by simpa using hi ▸ hj))
    | succ k ih =>
      intro i ys hi hj
      refine .succ fun v I oI C oC D m₂ h tk E' a b c d e f g => ?_
      refine wpAny_mono (turn i ys (fun ys' => CompRestT prog w A h₀ L m env ct elt x scope cl s S P Fin k (i + 1) ys' news) (by lia) hj (fun ys' hy => ih _ _ (by lia) hy) v I oI C oC D m₂ h tk E' a b c d e f g) (fun ok s' hq => ?_) fun _ _ z => z
      cases ok with
      | true =>
        simp only [if_true] at hq ⊢
        exact wpAny_mono hq (fun y s'' z => compEnd_mono z fun _ q => q.1 ▸ q.2) fun _ _ z => z
      | false =>
        simp only [Bool.false_eq_true, if_false] at hq ⊢
        exact compEnd_mono hq fun _ q => q.1 ▸ q.2
  exact key n 0 [] (by lia) h0
end
end Mine

namespace Mine
noncomputable def Fly (B : Heap) (l : List Env) (e : Addr) (cls : Value) (dd : Option Addr) (fl : Value) (h : Heap) : Prop :=
  B.StaysIn h ∧ B.get? e = none ∧ h.FunFrames B l ∧ ∃ oe vs T oT ts, h.get? e = some oe ∧ oe.cls = cls ∧ oe.dict = dd ∧ oe.data = .fields vs ∧ vs[1]? = some (.ref T) ∧ B.get? T = none ∧ T ≠ e ∧ h.get? T = some oT ∧ oT.data = .fields ts ∧ ts[3]? = some fl
theorem Fly.tail {B h : Heap} {env : Env} {l : List Env} {e : Addr} {cls fl : Value} {dd : Option Addr} (x : Fly B (env :: l) e cls dd fl h) : Fly B l e cls dd fl h := by
  obtain ⟨f1, f2, ⟨_, _, f3⟩, r⟩ := x
  exact ⟨f1, f2, f3, r⟩
section
variable {M : Model} {A : Around} {E : Value → Shared → Prop} {s : Shared} {B : Heap} {env : Env} {outer l : List Env} {L e : Addr} {cls fl : Value} {dd : Option Addr}
end
end Mine

namespace Mine
section
variable {M : Model} {A : Around} {E : Value → Shared → Prop} {s' : Shared} {base g g₂ : Heap} {outer : List Env} {L a e : Addr} {m : Str → Option Value} {name : Str} {scope : Scope} {cd : Value} {Q : Unit → Shared → Prop} {news : List (Addr × Obj)}
end
section
variable {prog : Program} {w : World} {A₀ : Around} {E : Value → Shared → Prop} {s' : Shared} {base g G : Heap} {outer : List Env} {L a e C : Addr} {m : Str → Option Value} {name : Str} {scope : Scope} {cd : Value}
  {n : Str} {b₀ : Stmt} {suite : List Stmt} {pos np : Pos} {rest : List ExceptHandler} {Q : Flow → Shared → Prop} {news : List (Addr × Obj)} {KF : Frag}
  {p : Program} {loose : List Str} {mean : ExcName → Option Value} {mg mb : Str → Option Value} {x : Str} {dd : Option Addr}
end
end Mine

set_option maxHeartbeats 4000000
namespace Mine
section
variable {prog : Program} {w : World} {A : Around} {K : Frag} {C fI : Addr} {R : Result → Shared → Prop} {h : Heap} {g : Array GenState} {d : Drawn} {t : Nat} {os : OsState}
end
section
variable {prog : Program} {w : World} {A : Around} {K : Frag} {C fI e : Addr} {E : Value → Shared → Prop} {s : Shared} {oe : Obj} {name : Str} {v : Value} {Q : Unit → Shared → Prop} {h₀ : Heap} {L : Addr} {m : Str → Option Value} {news : List (Addr × Obj)}
end
section
variable {prog : Program} {w : World} {A : Around} {K : Frag} {C fI e : Addr} {E : Value → Shared → Prop} {s : Shared} {oe od : Obj} {name : Str} {v : Value} {h₀ : Heap} {L : Addr} {m : Str → Option Value} {news : List (Addr × Obj)}
end
section
variable {prog : Program} {w : World} {A : Around} {K : Frag} {C fI : Addr} {E : Value → Shared → Prop} {s : Shared} {h₀ : Heap} {L : Addr} {m : Str → Option Value} {news : List (Addr × Obj)}
end
theorem turn_leave {h₀ g g' h' : Heap} {L L' : Addr} {m m' : Str → Option Value} {oL : Obj} {fs : List Addr} {news' : List (Addr × Obj)} (nL : h₀.get? L = none) (hfs : ∀ b ∈ fs, b = L) (hLg : g.get? L = some oL) (st : h₀.StaysIn g) (hab : h₀.objs.size ≤ L)
    (hNs : ∀ (sl : Array (Option Value)) h', h'.get? L = some { oL with slots := sl } → Heap.Ns h' L m) (T : KtsTurn fs g g') (F' : Fr g' L' h' m') (N' : News g' L' h' news') : Fr h₀ L h' m ∧ News h₀ L h' news' := by
  obtain ⟨sl, hs⟩ := T.up hLg
  refine ⟨⟨hNs sl _ (F'.keep _ _ hs), fun b o e => F'.keep b o (T.other b o (st b o e) fun q => by rw [hfs b q, nL] at e; cases e), hab⟩, fun p hp => ⟨(N' p hp).1, fun q => ?_, ?_⟩⟩
  · have := (N' p hp).2.2; rw [q, hs] at this; cases this
  · cases q : h₀.get? p.1 with
    | none => rfl
    | some o =>
      obtain ⟨sl', hs'⟩ := T.up (st _ _ q)
      have := (N' p hp).2.2
      rw [hs'] at this; cases this
theorem code_defSR {prog : Program} {w : World} {A₀ A : Around} {s : Shared} {base h₀ : Heap} {L a : Addr} {m : Str → Option Value} {cn : Str} {cs : Scope} {ccd : Value} {news : List (Addr × Obj)} {K : Frag} {p : Program} {loose : List Str} {mean : ExcName → Option Value} {mg mb : Str → Option Value}
    {R : Result → Shared → Prop} {name qual : Str} {params : Arguments} {body : List Stmt} {scope : Scope} {dV kV doc pm cdv ct oc : Value} {an od : Option Addr} {osl : Array (Option Value)} {f : Addr} {args : Args} {binds : List (Str × Value)}
    (B : Below A₀ base [] h₀) (F : Fr h₀ L s.heap m) (X₀ : K.In h₀) (N : News h₀ L s.heap news) (T : Top p loose mean mg mb h₀) (hA : A.frames = some [envOf cn cs L a ccd])
    (ho : K.lookup f = some ⟨oc, od, .func (fnOf name qual params body scope dV kV doc pm an cdv ct), osl⟩) (hcd : codeIn K cdv qual = true) (hroom : A.depth < recursionLimit)
    (hbind : BindsTo s (fnOf name qual params body scope dV kV doc pm an cdv ct) args binds) (hloc : ∀ y ∈ binds, scope.names.lookup y.1 = some .local)
    (h : ∀ g L' h₁, Fr h₀ L g m → Fr g L' h₁ (fun y => binds.reverse.lookup y) → News g L' h₁ news → Below A base [envOf cn cs L a ccd] g → K.In g → Top p loose mean mg mb g → KtsDicts ([envOf cn cs L a ccd].filterMap (·.frame)) g →
      (∀ b o, s.heap.get? b = some o → b ∉ news.map (·.1) → g.get? b = some o) → (∀ b o, s.heap.get? b = some o → b < L') →
      wpAny (model prog w) (A.deeper (envOf qual scope L' f cdv)) (execs body (envOf qual scope L' f cdv))
        (fun fl s' => LeaveS0 ([envOf cn cs L a ccd].filterMap (·.frame)) h₀ L m g R (match fl with | .ret v => v | _ => .none) s')
        (fun e s' => wpAny (model prog w) (A.deeper (envOf qual scope L' f cdv)) (leaving (envOf qual scope L' f cdv) e) (fun _ s'' => R (.error e) s'') (fun e' s'' => R (.error e') s'') s')
        { s with heap := h₁, toks := s.toks + binds.length })
    (hck : cs.kind = .function) (hco : scope.isCoroutine = false) (hgen : scope.isGenerator = false) (hk : scope.kind = .function)
    (hcell : ∀ x ∈ scope.names, x.2 ≠ .cell) : codeAny (model prog w) A (.call (.ref f) args) R s := by
  have X := X₀.keeps F.keep
  refine codeAny_call_def (fd := fnOf name qual params body scope dV kV doc pm an cdv ct) (body := body) (binds := binds) hroom (X _ _ ho) rfl (T.nolimit.keeps F.keep) (codeRec_of X hcd) rfl hbind hcell hloc (fun h₁ hns hk₁ => ?_) hco hgen hk
  obtain ⟨oL, es, ep, hLg, hLd, hN, hNs, st, B₂⟩ := kts_enter B F N hA hck
  refine wpAny_mono (h _ s.heap.objs.size h₁ ⟨hN _ hLg, st, F.above⟩ ⟨hns, fun b o e => hk₁ b o (of_hideAll _ e), Nat.le_of_eq (hideAll_size _ _)⟩
    (fun p hp => ⟨hk₁ _ _ (N p hp).1, Nat.ne_of_lt (Heap.lt_size (N p hp).1), hideAll_none _ (List.mem_map_of_mem hp)⟩) B₂ (X₀.keeps st) (T.keeps st) (fun b hb => by
      rcases kts_mem hb with rfl | z
      · exact ⟨oL, es, ep, hLg, hLd⟩
      · simp at z) (fun b o e hb => hideAll_get _ e hb) (fun b o e => Heap.lt_size e)) (fun fl s' hl => ?_) fun _ _ y => y
  obtain ⟨g', L', m', news', T', F', N', k⟩ := hl
  have z := turn_leave (kts_self F) (fun b q => by
    rcases kts_mem q with z | z
    · exact z
    · simp at z) hLg st F.above hNs T' F' N'
  exact k z.1 z.2
noncomputable def CtrO (prog : Program) (w : World) (K : Frag) (p : Program) (loose : List Str) (mean : ExcName → Option Value) (mg mb : Str → Option Value) (f : Addr) (D U : Nat) (vs : List Value) (pre : List (Addr × Obj)) (Post : Value → List (Addr × Obj) → Prop) : Prop :=
  ∀ (dp un : Nat) (gd : Option (List Code)) (cn : Str) (cs : Scope) (a : Addr) (ccd : Value) (A₀ : Around) (h₀ : Heap) (L : Addr) (m : Str → Option Value) (rest : List (Addr × Obj)) (s : Shared)
    (Q E : Value → Shared → Prop),
    Below A₀ h₀ [] h₀ → Fr h₀ L s.heap m → K.In h₀ → News h₀ L s.heap (pre ++ rest) → (∀ q ∈ rest, ∀ r ∈ pre, q.1 ≠ r.1) → Top p loose mean mg mb h₀ → cs.kind = .function → dp + D < recursionLimit → un + U < cLine →
    (∀ v pst h' tk', Post v pst → (∀ q ∈ rest, ∀ r ∈ pst, q.1 ≠ r.1) → Fr h₀ L h' m → News h₀ L h' (pst ++ rest) → Q v { s with heap := h', toks := tk' }) →
    wpAny (model prog w) (ktrTop dp un gd cn cs L a ccd [] []) (call (.ref f) vs) Q E s
theorem CtrO.use {prog : Program} {w : World} {K : Frag} {p : Program} {loose : List Str} {mean : ExcName → Option Value} {mg mb : Str → Option Value} {f : Addr} {D U : Nat} {vs : List Value} {pre : List (Addr × Obj)} {Post : Value → List (Addr × Obj) → Prop}
    {dp un : Nat} {gd : Option (List Code)} {cn : Str} {cs : Scope} {a : Addr} {ccd : Value} {A₀ : Around} {h₀ : Heap} {L : Addr} {m : Str → Option Value} {news rest : List (Addr × Obj)} {s : Shared} {Q E : Value → Shared → Prop}
    (C : CtrO prog w K p loose mean mg mb f D U vs pre Post) (B : Below A₀ h₀ [] h₀) (F : Fr h₀ L s.heap m) (X : K.In h₀) (N : News h₀ L s.heap news) (T : Top p loose mean mg mb h₀) (hk : cs.kind = .function)
    (hp : ∀ q ∈ pre, q ∈ news) (hR : Rest (pre.map (·.1)) news rest) (hd : dp + D < recursionLimit) (hu : un + U < cLine)
    (ret : ∀ v pst h' tk', Post v pst → (∀ q ∈ rest, ∀ r ∈ pst, q.1 ≠ r.1) → Fr h₀ L h' m → News h₀ L h' (pst ++ rest) → Q v { s with heap := h', toks := tk' }) :
    wpAny (model prog w) (ktrTop dp un gd cn cs L a ccd [] []) (call (.ref f) vs) Q E s :=
  C _ _ _ _ _ _ _ _ _ _ _ rest _ _ _ B F X (fun q hq => (List.mem_append.mp hq).elim (fun h => N q (hp q h)) fun h => N q (hR.sub q h))
    (fun q hq r hr e => hR.off q hq (List.mem_map.mpr ⟨r, hr, e.symm⟩)) T hk hd hu ret
theorem m_retO {h₀ g g' h h' : Heap} {L L' : Addr} {m m' : Str → Option Value} {fs : List Addr} {pre pst rest ng : List (Addr × Obj)} {s : Shared} {Q : Value → Shared → Prop} {Post : Value → List (Addr × Obj) → Prop} {v : Value} {tk' : Nat}
    (hret : ∀ v pst h' tk', Post v pst → (∀ q ∈ rest, ∀ r ∈ pst, q.1 ≠ r.1) → Fr h₀ L h' m → News h₀ L h' (pst ++ rest) → Q v { s with heap := h', toks := tk' })
    (hfs : ∀ b ∈ fs, b = L) (T : KtsTurn fs g g') (Fg : Fr g' L' h' m') (Ng : News g' L' h' ng) (kF : Fr h₀ L h' m) (kN : News h₀ L h' ng) (hr : ∀ p ∈ rest, g.get? p.1 = some p.2) (N : News h₀ L h (pre ++ rest)) (hs : ∀ p ∈ pst, p ∈ ng) (hP : Post v pst) :
    Q v { s with heap := h', toks := tk' } := by
  have hr' : ∀ p ∈ rest, g'.get? p.1 = some p.2 := fun p hp => T.other _ _ (hr p hp) fun q => (N p (List.mem_append_right _ hp)).2.1 (hfs _ q)
  exact m_ret hret Fg Ng kF kN hr' N hs hP
end Mine

set_option maxHeartbeats 4000000
namespace Mine
section
variable {M : Model} {A : Around} {E : Value → Shared → Prop} {s' : Shared} {base g h : Heap} {outer : List Env} {L a e : Addr} {m : Str → Option Value} {name : Str} {scope : Scope} {cd : Value} {Q : Unit → Shared → Prop} {news : List (Addr × Obj)} {X : String}
end
section
variable {prog : Program} {w : World} {A₀ : Around} {E : Value → Shared → Prop} {s' : Shared} {base g G : Heap} {outer : List Env} {L a e C fI : Addr} {m : Str → Option Value} {name : Str} {scope : Scope} {cd : Value}
  {b₀ : Stmt} {suite : List Stmt} {pos np np' pos' : Pos} {rest : List ExceptHandler} {Q : Flow → Shared → Prop} {news : List (Addr × Obj)} {KF : Frag} {as' : Option Str} {bd' : List Stmt}
  {p : Program} {loose : List Str} {mean : ExcName → Option Value} {mg mb : Str → Option Value} {x : Str} {dd : Option Addr}
end
end Mine

set_option maxHeartbeats 4000000
namespace Mine
section
variable {prog : Program} {w : World} {A₀ : Around} {E : Value → Shared → Prop} {s' : Shared} {base g G : Heap} {outer : List Env} {L a e : Addr} {m : Str → Option Value} {name : Str} {scope : Scope} {cd : Value}
  {b₀ : Stmt} {suite : List Stmt} {pos np : Pos} {rest : List ExceptHandler} {Q : Flow → Shared → Prop} {news : List (Addr × Obj)} {KF : Frag}
  {p : Program} {loose : List Str} {mean : ExcName → Option Value} {mg mb : Str → Option Value} {dd : Option Addr}
end
end Mine

set_option maxHeartbeats 4000000
namespace Mine
section
variable {prog : Program} {w : World} {A₀ : Around} {E : Value → Shared → Prop} {s' : Shared} {base g G : Heap} {outer : List Env} {L a e : Addr} {m : Str → Option Value} {name : Str} {scope : Scope} {cd : Value}
  {b₀ : Stmt} {suite : List Stmt} {pos np : Pos} {rest : List ExceptHandler} {Q : Flow → Shared → Prop} {news : List (Addr × Obj)} {KF : Frag}
  {p : Program} {loose : List Str} {mean : ExcName → Option Value} {mg mb : Str → Option Value} {dd : Option Addr}
end
end Mine

namespace Mine
section
variable {prog : Program} {w : World} {A : Around} {E : Value → Shared → Prop} {s : Shared} {env : Env} {h₀ : Heap} {x : Str} {target : Expr} {body : List Stmt} {Q : Flow → Shared → Prop}
theorem m_listK {σ : Type} {l : Addr} {vs : List Value} {ns : List Int} {nn : Nat} {m₀ : Str → Option Value} {news : List (Addr × Obj)} (Led : σ → List (Addr × Obj)) (ps : σ → List (Str × Value)) (stored : List Str) (P : Nat → σ → Prop) (c₀ : σ)
    (hh : A.handled = none) (hl : ∀ c : σ, (l, listOf vs.toArray nn) ∈ Led c) (hi : IntsAre vs ns) (F : Fr h₀ env.locals s.heap m₀) (N : News h₀ env.locals s.heap news) (hL : ∀ p ∈ Led c₀, p ∈ news)
    (hk : ∀ p ∈ ps c₀, m₀ p.1 = some p.2) (hp : P 0 c₀)
    (turn : ∀ (c : σ) i n t (u : Str → Option Value) h tk own, ns[i]? = some n → OwnOff own ((Led c₀).map (·.1)) → P i c →
      Fr h₀ env.locals h (fun y => if y = x then some (.int n t) else kstB (fun z => if stored.contains z then u z else m₀ z) (ps c) y) → News h₀ env.locals h (Led c ++ own) →
      wpAny (model prog w) A (execs body env) (InvPostN h₀ env.locals (TurnS Led ps stored m₀ (P (i + 1))) own ((Led c₀).map (·.1)) { s with heap := h, toks := tk } Q) E { s with heap := h, toks := tk })
    (done : ∀ (c : σ) (u : Str → Option Value) h tk, P ns.length c → Fr h₀ env.locals h (kstB (fun z => if stored.contains z then u z else m₀ z) (ps c)) → News h₀ env.locals h (Led c) → Q .next { s with heap := h, toks := tk }) :
    wpAny (model prog w) A (pyIter (.ref l)) (fun it s₂ => LoopAtV prog w A h₀ env x body Q E it s₂) E s := by
  refine iter_invNL (fun i m nx => TurnS Led ps stored m₀ (P i) m nx) hh (hl c₀) hi F (fun p hp => N p (hL p hp)) ⟨c₀, rfl, hk, fun _ _ _ => rfl, hp⟩ ?_ ?_
  · rintro i n t m₁ nx h tk own hn _ hoff _ ⟨c, rfl, h1, h2, hp'⟩ F₁ N₁
    have em : m₁ = kstB (fun z => if stored.contains z then m₁ z else m₀ z) (ps c) := by
      funext y
      refine (kstB_eq h1 fun hn => ?_).symm
      show (if stored.contains y = true then m₁ y else m₀ y) = m₁ y
      cases h3 : stored.contains y with
      | true => rfl
      | false => exact (h2 y hn h3).symm
    have F₂ : Fr h₀ env.locals h (fun y => if y = x then some (.int n t) else kstB (fun z => if stored.contains z then m₁ z else m₀ z) (ps c) y) := by rw [← em]; exact F₁
    refine wpAny_mono (turn c i n t m₁ h tk own hn hoff hp' F₂ N₁) (fun f s₂ p => ?_) fun _ _ x => x
    have up : InvEndN h₀ env.locals (TurnS Led ps stored m₀ (P (i + 1))) own ((Led c₀).map (·.1)) { s with heap := h, toks := tk } s₂ →
        InvEndN h₀ env.locals (fun m' nx => (l, listOf vs.toArray nn) ∈ nx ∧ TurnS Led ps stored m₀ (P (i + 1)) m' nx) own ((Led c₀).map (·.1)) { s with heap := h, toks := tk } s₂ := by
      rintro ⟨h', tk', m', news', nx', e', F', N', hn', ho', ha, c', rfl, hr⟩
      exact ⟨h', tk', m', news', Led c', e', F', N', hn', ho', ha, hl c', c', rfl, hr⟩
    cases f with
    | ret v => exact p
    | brk => exact p
    | next => exact up p
    | cont => exact up p
  · rintro m₁ nx h tk _ ⟨c, rfl, h1, h2, hp'⟩ F₁ N₁
    exact done c m₁ h tk hp' (ksw_fr h1 h2 F₁) N₁

theorem intsAre_at {vs : List Value} {ns : List Int} (h : IntsAre vs ns) {i : Nat} {v : Value} (e : vs[i]? = some v) : ∃ n t, v = .int n t ∧ ns[i]? = some n := h.at i v e
end
section
 open PyProof.Rows.LCg PyProof.Rows.LCt
variable {prog : Program} {w : World} {A : Around} {s : Shared} {h₀ : Heap} {L : Addr} {m : Str → Option Value} {env : Env}
theorem comp_ind {σ : Type} (Led : σ → List (Addr × Obj)) {elt : Expr} {x : Str} {scope : Scope} {cl : List (Str × Addr)} {S : List (Addr × Obj) → Prop} {P : Nat → Value → Prop} {Fin : List Value → List (Addr × Obj) → Prop} {n : Nat} (J : Nat → List Value → σ → Prop) (c₀ : σ) {news : List (Addr × Obj)} (hnews : news = Led c₀) (h0 : J 0 [] c₀)
    (turn : ∀ i ys c (R' : List Value → σ → Prop), i < n → J i ys c → (∀ ys' c', J (i + 1) ys' c' → R' ys' c') → ∀ v I oI C oC D m₂ h tk (E' : Value → Shared → Prop), P i v → NsObj oC m₂ → m₂ x = some v → Fr h₀ L h m → News h₀ L h ((I, oI) :: (C, oC) :: (D, lst ys) :: Led c) → Off3 I C D (Led c) → ((@Ne Nat I C) ∧ (@Ne Nat I D) ∧ (@Ne Nat C D)) →
      wpAny (model prog w) A (eval elt (compEnvC scope cl C env)) (CompEnd h₀ L m { s with heap := h, toks := tk } I oI C oC D (lst ys) S (fun y news' => ∃ c', news' = Led c' ∧ R' (ys ++ [y]) c')) E' { s with heap := h, toks := tk })
    (fin : ∀ ys c, J n ys c → Fin ys (Led c)) : CompRest prog w A h₀ L m env elt x scope cl s S P Fin n 0 [] news := by
  subst hnews
  have key : ∀ k i ys c, i + k = n → J i ys c → CompRest prog w A h₀ L m env elt x scope cl s S P Fin k i ys (Led c) := by
    intro k
    induction k with
    | zero => intro i ys c hi hj; exact .zero (fin ys c (by simpa using hi ▸ hj))
    | succ k ih =>
      intro i ys c hi hj
      refine .succ fun v I oI C oC D m₂ h tk E' a b c1 d e f g => ?_
      refine wpAny_mono (turn i ys c (fun ys' c' => CompRest prog w A h₀ L m env elt x scope cl s S P Fin k (i + 1) ys' (Led c')) (by lia) hj (fun ys' c' hy => ih _ _ _ (by lia) hy) v I oI C oC D m₂ h tk E' a b c1 d e f g) (fun y s' z => compEnd_mono z ?_) fun _ _ z => z
      rintro n' ⟨c', rfl, r⟩
      exact r
  exact key n 0 [] c₀ (by lia) h0
end
theorem all_app {ns : List Int} {n : Int} {P : Int → Prop} (h : ∀ x ∈ ns, P x) (hn : P n) : ∀ x ∈ ns ++ [n], P x := fun x hx => (List.mem_append.mp hx).elim (h x) fun e => (List.mem_singleton.mp e) ▸ hn
noncomputable abbrev tlN {h₀ h : Heap} {L : Addr} {l : List (Addr × Obj)} (_ : News h₀ L h l) (k : Nat) : List (Addr × Obj) := l.drop k
noncomputable abbrev hdN {h₀ h : Heap} {L : Addr} {l : List (Addr × Obj)} (_ : News h₀ L h l) (k : Nat) : List (Addr × Obj) := l.take k
noncomputable def adL : List (Addr × Obj) → Nat → Addr
  | [], _ => 0
  | p :: _, 0 => p.1
  | _ :: r, k + 1 => adL r k
noncomputable abbrev adN {h₀ h : Heap} {L : Addr} {l : List (Addr × Obj)} (_ : News h₀ L h l) (k : Nat) : Addr := adL l k
theorem len_at {prog : Program} {w : World} {A : Around} {E Q : Value → Shared → Prop} {s : Shared} {h₀ : Heap} {L : Addr} {news : List (Addr × Obj)} {l : Addr} {vs : List Value} {nn : Nat} (n : Nat)
    (N : News h₀ L s.heap news) (hm : (l, listOf vs.toArray nn) ∈ news) (hn : vs.length = n) (hf : n < 2 ^ 63)
    (h : Q (.int (n : Int) (s.toks + 1)) { s with toks := s.toks + 1 + 1 }) : wpAny (model prog w) A (call (.builtin "len") [.ref l]) Q E s := by
  subst hn
  refine PyProof.Rows.len_list (items := vs.toArray) ⟨_, (N _ hm).1, rfl, nn, rfl⟩ ?_ ?_
  · rw [List.size_toArray]; lia
  · rw [List.size_toArray]; exact h
theorem item_any {prog : Program} {w : World} {A : Around} {E Q : Value → Shared → Prop} {s : Shared} {h₀ : Heap} {L : Addr} {news : List (Addr × Obj)} {value slice : PySem.Expr} {l : Addr} {vs : List Value} {nn : Nat} {k : Int} {u : Tok} {v : Value} (i : Nat)
    (N : News h₀ L s.heap news) (hm : (l, listOf vs.toArray nn) ∈ news) (hk : k = (i : Int)) (hv : vs[i]? = some v) (hf : i < 2 ^ 63)
    (hs : subscripted slice false (.ref l) (.int k u) = operate [.ref l, .int k u] (getItem (.ref l) (.int k u)) := by with_unfolding_all rfl)
    (h : Q v s) : wpAny (model prog w) A (subscriptTail value slice (.ref l) (.int k u)) Q E s := by
  have hl : s.heap.IsList l vs.toArray := ⟨_, (N _ hm).1, rfl, nn, rfl⟩
  subst hk
  refine tail_any hl.typeIs slot_list_getitem.lookup (wpAny_getItem_list hl (Int.natCast_nonneg i) (by lia) ?_ h) hs
  rw [Int.toNat_natCast, List.getElem?_toArray]
  exact hv
theorem append_led {prog : Program} {w : World} {A : Around} {E Q : Value → Shared → Prop} {s : Shared} {h₀ : Heap} {L : Addr} {m : Str → Option Value} {news : List (Addr × Obj)} {l : Addr} {vs : List Value} {nn : Nat} {x : Value}
    (F : Fr h₀ L s.heap m) (N : News h₀ L s.heap ((l, listOf vs.toArray nn) :: news)) (off : ∀ p ∈ news, @Ne Nat p.1 l) (hsz : vs.length ≤ sizeLine)
    (h : ∀ h', Fr h₀ L h' m → News h₀ L h' ((l, listOf (vs ++ [x]).toArray (nn + 1)) :: news) → Q .none { s with heap := h' }) :
    wpAny (model prog w) A (call (.builtin "list.append") [.ref l, x]) Q E s := by
  obtain ⟨hg, hL, h0⟩ := N _ (.head _)
  refine append_at (its := vs.toArray) (n := nn) hg (fun h' hs hD => ?_) (by rw [List.size_toArray]; exact hsz)
  refine h h' (F.change hs hL h0) fun p hp => ?_
  rcases List.mem_cons.mp hp with rfl | hp
  · refine ⟨?_, hL, h0⟩
    rw [List.push_toArray] at hD
    exact hD
  · exact ⟨hs.extBut _ _ (off p hp) (N p (.tail _ hp)).1, (N p (.tail _ hp)).2⟩
end Mine

set_option maxHeartbeats 4000000
namespace Mine
 open PyProof.Rows.LCg
theorem compTurn_in (elt target iter ct : Expr) (g₀ : Comprehension) (scope : Scope) (pos : Pos) (it acc : Value) (env : Env) :
    compTurn (.ListComp elt [g₀, ⟨target, iter, [ct], 0⟩] scope pos) 1 it acc env = (do
      standAt iter.pos
      match ← pyNext it with
      | none => pure (.done .next)
      | some v =>
        letOwnedTupleGo target it v
        assign target env v
        let mut ok := true
        for c in [ct] do
          if ok then ok ← isTrue c env (eval c env)
        if ok then
          (do let _ ← call (.builtin "list.append") [acc, ← eval elt env])
        again (.compLoop (.ListComp elt [g₀, ⟨target, iter, [ct], 0⟩] scope pos) 1 it acc env)) := by rfl
theorem compTurn_out (elt target iter target' iter' ct : Expr) (scope : Scope) (pos : Pos) (it acc : Value) (env : Env) :
    compTurn (.ListComp elt [⟨target, iter, [], 0⟩, ⟨target', iter', [ct], 0⟩] scope pos) 0 it acc env = (do
      standAt iter.pos
      match ← pyNext it with
      | none => pure (.done .next)
      | some v =>
        letOwnedTupleGo target it v
        assign target env v
        let x ← eval iter' env
        standAt iter'.pos
        let x ← foldedSetIterable iter' env x
        let _ ← runOwn (.compStart (.ListComp elt [⟨target, iter, [], 0⟩, ⟨target', iter', [ct], 0⟩] scope pos) 1 (← holding [x] (pyIter x)) acc env) env
        again (.compLoop (.ListComp elt [⟨target, iter, [], 0⟩, ⟨target', iter', [ct], 0⟩] scope pos) 0 it acc env)) := by rfl
section
variable {prog : Program} {w : World} {A : Around} {E : Value → Shared → Prop} {R : Result → Shared → Prop} {s : Shared}
noncomputable abbrev NB (prog : Program) (w : World) (A : Around) (env : Env) (R : Result → Shared → Prop) : Value → Shared → Prop := notedBy (model prog w) A env fun e s' => R (.error e) s'
theorem loop_in {elt target iter ct : Expr} {g₀ : Comprehension} {scope : Scope} {pos : Pos} {it acc : Value} {env : Env} (I : Nat → Shared → Prop)
    (turn : ∀ n s, I n s → wpAny (model prog w) A (pyNext it) (fun r s₁ => match r with
      | none => R (.ok .next) s₁
      | some v => wpAny (model prog w) A (assign target env v) (fun _ s₂ => wpAny (model prog w) A (isTrue ct env (eval ct env)) (fun ok s₃ =>
          if ok = true then wpAny (model prog w) A (eval elt env) (fun x s₄ => wpAny (model prog w) A (call (.builtin "list.append") [acc, x]) (fun _ s₅ => ∃ m, m < n ∧ I m s₅) (NB prog w A env R) s₄) (NB prog w A env R) s₃
          else ∃ m, m < n ∧ I m s₃) (NB prog w A env R) s₂) (NB prog w A env R) s₁) (NB prog w A env R) s)
    (n : Nat) (h : I n s) (ht : ∀ v, letOwnedTupleGo target it v = pure ()) :
    codeAny (model prog w) A (.compLoop (.ListComp elt [g₀, ⟨target, iter, [ct], 0⟩] scope pos) 1 it acc env) R s := by
  refine codeAny_loop rfl I (fun n s hI => ?_) n h
  show wpAny _ A ((compTurn (.ListComp elt [g₀, ⟨target, iter, [ct], 0⟩] scope pos) 1 it acc env).onRaise (fun x => do noteFrame x env; theTreesLotGoes x)) _ _ s
  refine wpAny_noted ?_
  rw [compTurn_in]
  refine wpAny_bind (wpAny_standAt (wpAny_bind (wpAny_mono (turn n s hI) (fun r s₁ h₁ => ?_) fun _ _ h' => h')))
  cases r with
  | none => exact wpAny_pure h₁
  | some v =>
    refine wpAny_bind (wpAny_of_eq (ht v) ?_)
    refine wpAny_bind (wpAny_mono h₁ (fun _ s₂ h₂ => wpAny_bind (wpAny_tests_one (wpAny_mono h₂ (fun ok s₃ h₃ => ?_) fun _ _ h' => h'))) fun _ _ h' => h')
    cases ok with
    | false => exact wpAny_pure ⟨rfl, h₃⟩
    | true =>
      exact wpAny_bind (wpAny_bind (wpAny_mono h₃ (fun x s₄ h₄ => wpAny_bind (wpAny_mono h₄ (fun _ s₅ h₅ => wpAny_pure (wpAny_pure ⟨rfl, h₅⟩)) fun _ _ h' => h')) fun _ _ h' => h'))
theorem start_in {elt target iter ct : Expr} {g₀ : Comprehension} {scope : Scope} {pos : Pos} {it acc : Value} {env : Env}
    (h0 : codeAny (model prog w) A (.compLoop (.ListComp elt [g₀, ⟨target, iter, [ct], 0⟩] scope pos) 1 it acc env) R s)
    (h : wpAny (model prog w) A (pyIter it) (fun it' s' => codeAny (model prog w) A (.compLoop (.ListComp elt [g₀, ⟨target, iter, [ct], 0⟩] scope pos) 1 it' acc env) R s') (NB prog w A env R) s) :
    codeAny (model prog w) A (.compStart (.ListComp elt [g₀, ⟨target, iter, [ct], 0⟩] scope pos) 1 it acc env) R s := by
  refine codeAny_of_tree ?_
  show wpAny _ _ ((compStart (.ListComp elt [g₀, ⟨target, iter, [ct], 0⟩] scope pos) 1 it acc env).onRaise (fun x => do noteFrame x env; standAt theWindowsPlace)) _ _ s
  refine wpAny_notedAt ?_
  unfold compStart
  show wpAny _ _ (ask >>= _) _ _ s
  refine wpAny_bind (wpAny_askSetting (wpAny_ite ?_))
  split
  · first
      | exact wpAny_bind (wpAny_pure (wpAny_pure (And.intro rfl h0)))
      | exact wpAny_pure (And.intro rfl h0)
  · first
      | exact wpAny_bind (wpAny_rule (wpAny_bind (wpAny_standAt (wpAny_bind (wpAny_mono h (fun it' s' h' => wpAny_pure (And.intro rfl h')) fun _ _ x => x)))))
      | (refine wpAny_bind (wpAny_rule ?_); show wpAny _ _ (standAt iter.pos >>= _) _ _ s; exact wpAny_bind (wpAny_standAt (wpAny_bind (wpAny_mono h (fun it' s' h' => wpAny_pure (And.intro rfl h')) fun _ _ x => x))))
theorem loop_out {elt target iter target' iter' ct : Expr} {scope : Scope} {pos : Pos} {it acc : Value} {env : Env} (I : Nat → Shared → Prop)
    (turn : ∀ n s, I n s → wpAny (model prog w) A (pyNext it) (fun r s₁ => match r with
      | none => R (.ok .next) s₁
      | some v => wpAny (model prog w) A (assign target env v) (fun _ s₂ => wpAny (model prog w) A (eval iter' env) (fun x s₃ => wpAny (model prog w) A (pyIter x) (fun it' s₄ =>
          codeAny (model prog w) (A.mark none) (.compStart (.ListComp elt [⟨target, iter, [], 0⟩, ⟨target', iter', [ct], 0⟩] scope pos) 1 it' acc env) (fun r s₅ => match r with | .ok _ => ∃ m, m < n ∧ I m s₅ | .error e => cameBackBy (model prog w) A env (NB prog w A env R) e s₅) s₄) (NB prog w A env R) s₃) (NB prog w A env R) s₂) (NB prog w A env R) s₁) (NB prog w A env R) s)
    (n : Nat) (h : I n s) (ht : ∀ v, letOwnedTupleGo target it v = pure ()) (hs : ∀ x, foldedSetIterable iter' env x = pure x) :
    codeAny (model prog w) A (.compLoop (.ListComp elt [⟨target, iter, [], 0⟩, ⟨target', iter', [ct], 0⟩] scope pos) 0 it acc env) R s := by
  refine codeAny_loop rfl I (fun n s hI => ?_) n h
  show wpAny _ A ((compTurn (.ListComp elt [⟨target, iter, [], 0⟩, ⟨target', iter', [ct], 0⟩] scope pos) 0 it acc env).onRaise (fun x => do noteFrame x env; theTreesLotGoes x)) _ _ s
  refine wpAny_noted ?_
  rw [compTurn_out]
  refine wpAny_bind (wpAny_standAt (wpAny_bind (wpAny_mono (turn n s hI) (fun r s₁ h₁ => ?_) fun _ _ h' => h')))
  cases r with
  | none => exact wpAny_pure h₁
  | some v =>
    refine wpAny_bind (wpAny_of_eq (ht v) ?_)
    refine wpAny_bind (wpAny_mono h₁ (fun _ s₂ h₂ => wpAny_bind (wpAny_mono h₂ (fun x s₃ h₃ => wpAny_bind (wpAny_standAt (wpAny_bind (wpAny_of_eq (hs x) (wpAny_bind (wpAny_holding (wpAny_mono h₃ (fun it' s₄ h₄ => ?_) fun _ _ h' => h'))))))) fun _ _ h' => h')) fun _ _ h' => h')
    exact wpAny_bind (wpAny_runOwn (codeAny_mono h₄ fun r s₅ h₅ => by
      cases r with
      | ok f => exact wpAny_pure ⟨rfl, h₅⟩
      | error e => exact h₅))
end
theorem fr_ext {h₀ h h' : Heap} {L I : Addr} {m : Str → Option Value} (F : Fr h₀ L h m) (hk : Heap.ExtBut I h h') (hL : L ≠ I) (hI : h₀.get? I = none) : Fr h₀ L h' m :=
  ⟨F.ns.at' fun o e => hk L o hL e, fun b o e => hk b o (fun hm => by rw [hm, hI] at e; cases e) (F.keep b o e), F.above⟩
theorem news_ext {h₀ h h' : Heap} {L I : Addr} {news : List (Addr × Obj)} (N : News h₀ L h news) (hk : Heap.ExtBut I h h') (off : ∀ p ∈ news, p.1 ≠ I) : News h₀ L h' news :=
  fun p hp => ⟨hk _ _ (off p hp) (N p hp).1, (N p hp).2⟩
noncomputable def End2 {σ : Type} (h₀ : Heap) (L : Addr) (m : Str → Option Value) (s₁ : Shared) (I : Addr) (oI : Obj) (I2 : Addr) (o2 : Obj) (C : Addr) (oC : Obj) (D : Addr) (oD : Obj) (Led : σ → List (Addr × Obj)) (r : σ → Prop) (s₂ : Shared) : Prop :=
  ∃ h' tk c, s₂ = { s₁ with heap := h', toks := tk } ∧ Fr h₀ L h' m ∧ News h₀ L h' ((I, oI) :: (I2, o2) :: (C, oC) :: (D, oD) :: Led c) ∧ (∀ p ∈ Led c, p.1 ≠ I ∧ p.1 ≠ I2 ∧ p.1 ≠ C ∧ p.1 ≠ D) ∧ r c
section
variable {prog : Program} {w : World} {A : Around} {E : Value → Shared → Prop} {s : Shared}
inductive Out2 {σ : Type} (h₀ : Heap) (L : Addr) (m : Str → Option Value) (ax : Addr) (its : Array Value) (I C D : Addr) (Led : σ → List (Addr × Obj)) (J : Nat → Nat → List Value → σ → Prop) (s : Shared) (n : Nat) (s' : Shared) : Prop
  | mk (h' : Heap) (tk i : Nat) (ys : List Value) (c : σ) (m' : Str → Option Value) (e : s' = { s with heap := h', toks := tk }) (hi : i ≤ its.size) (hn : n = its.size + 1 - i) (hy : ys.length ≤ i * its.size) (hit : h'.IsListIter I ax i) (F : Fr h₀ L h' m) (hns : h'.Ns C m')
      (N : News h₀ L h' ((D, lst ys) :: Led c)) (off : ∀ p ∈ Led c, p.1 ≠ I ∧ p.1 ≠ C ∧ p.1 ≠ D) (hj : J i 0 ys c) : Out2 h₀ L m ax its I C D Led J s n s'
inductive In2 {σ : Type} (h₀ : Heap) (L : Addr) (m : Str → Option Value) (x : Str) (v : Value) (ax : Addr) (its : Array Value) (I I2 C D : Addr) (Led : σ → List (Addr × Obj)) (J : Nat → Nat → List Value → σ → Prop) (i : Nat) (s : Shared) (n : Nat) (s' : Shared) : Prop
  | mk (h' : Heap) (tk j : Nat) (ys' : List Value) (c' : σ) (m' : Str → Option Value) (e : s' = { s with heap := h', toks := tk }) (hj : j ≤ its.size) (hn : n = its.size + 1 - j) (hy : ys'.length ≤ i * its.size + j) (hit2 : h'.IsListIter I2 ax j) (hit1 : h'.IsListIter I ax (i + 1)) (F : Fr h₀ L h' m) (hns : h'.Ns C m') (hm : m' x = some v)
      (N : News h₀ L h' ((D, lst ys') :: Led c')) (off : ∀ p ∈ Led c', p.1 ≠ I ∧ p.1 ≠ I2 ∧ p.1 ≠ C ∧ p.1 ≠ D) (hJ : J i j ys' c') : In2 h₀ L m x v ax its I I2 C D Led J i s n s'
theorem block2 {σ : Type} {elt iter iter' ct : Expr} {x y : Str} {px py : Pos} {scope : Scope} {cl : List (Str × Addr)} {pos : Pos} {ax : Addr} {its : Array Value} {k : Nat} {h₀ : Heap} {L : Addr} {m : Str → Option Value} {env : Env} {RR : Value → Addr → Result → Shared → Prop}
    (Led : σ → List (Addr × Obj)) (J : Nat → Nat → List Value → σ → Prop) (c₀ : σ)
    (hh : A.handled = none) (hcell : ∀ z ∈ scope.names, z.2 ≠ .cell) (hkind : scope.kind = .function)
    (hx : scope.names.lookup x = some .local) (hy : scope.names.lookup y = some .local) (hxy : x ≠ y)
    (hs₁ : ∀ C v, foldedSetIterable iter' (compEnvC scope cl C env) v = pure v)
    (hlist : ∀ c, (ax, ({ cls := .type "list", data := .seq its k } : Obj)) ∈ Led c) (hsz : its.size * its.size + its.size ≤ sizeLine) (h0 : J 0 0 [] c₀)
    {h1 : Heap} {tk1 : Nat} (F : Fr h₀ L h1 m) (N : News h₀ L h1 (Led c₀))
    (second : ∀ i c ys v I oI C oC D m₂ h tk (E' : Value → Shared → Prop), i < its.size → J i 0 ys c → its[i]? = some v → NsObj oC m₂ → m₂ x = some v → Fr h₀ L h m → News h₀ L h ((I, oI) :: (C, oC) :: (D, lst ys) :: Led c) →
      wpAny (model prog w) A (eval iter' (compEnvC scope cl C env)) (fun xv s₁ => ∃ tk', xv = .ref ax ∧ s₁ = { s with heap := h, toks := tk' }) E' { s with heap := h, toks := tk })
    (turn : ∀ i j c ys v u I oI I2 o2 C oC D m₂ h tk (E' : Value → Shared → Prop), i < its.size → j < its.size → J i j ys c → its[i]? = some v → its[j]? = some u → NsObj oC m₂ → m₂ x = some v → m₂ y = some u → Fr h₀ L h m →
      News h₀ L h ((I, oI) :: (I2, o2) :: (C, oC) :: (D, lst ys) :: Led c) → (∀ p ∈ Led c, p.1 ≠ I ∧ p.1 ≠ I2 ∧ p.1 ≠ C ∧ p.1 ≠ D) → I ≠ I2 ∧ I ≠ C ∧ I ≠ D ∧ I2 ≠ C ∧ I2 ≠ D ∧ C ≠ D →
      wpAny (model prog w) A (isTrue ct (compEnvC scope cl C env) (eval ct (compEnvC scope cl C env))) (fun ok s' => if ok = true then
        wpAny (model prog w) A (eval elt (compEnvC scope cl C env)) (fun yv s'' => End2 h₀ L m { s with heap := h, toks := tk } I oI I2 o2 C oC D (lst ys) Led (fun c' => J i (j + 1) (ys ++ [yv]) c') s'') E' s'
        else End2 h₀ L m { s with heap := h, toks := tk } I oI I2 o2 C oC D (lst ys) Led (fun c' => J i (j + 1) ys c') s') E' { s with heap := h, toks := tk })
    (next : ∀ i ys c, i < its.size → J i its.size ys c → J (i + 1) 0 ys c)
    (hRR : ∀ D C h tk m' ys c, Fr h₀ L h m → News h₀ L h ((D, lst ys) :: Led c) → (∀ p ∈ Led c, p.1 ≠ C ∧ p.1 ≠ D) → h.Ns C m' → h₀.get? C = none → h₀.get? D = none → C ≠ L → D ≠ L → C ≠ D → J its.size 0 ys c → RR (.ref D) C (.ok .next) { s with heap := h, toks := tk }) :
    wpAny (model prog w) A (pyIter (.ref ax)) (fun it s₂ => wpAny (model prog w) A (newList []) (fun acc s₃ => wpAny (model prog w) A (newFunctionEnv scope env.globals cl [] env.qual none .none (some env)) (fun cenv s₄ =>
      codeAny (model prog w) A (.compStart (.ListComp elt [⟨.Name x px, iter, [], 0⟩, ⟨.Name y py, iter', [ct], 0⟩] scope pos) 0 it acc { cenv with scope := relabel scope env }) (RR acc cenv.locals) s₄) E s₃) E s₂) E { s with heap := h1, toks := tk1 } := by
  have lis : ∀ {h : Heap} {c : σ} {pre : List (Addr × Obj)}, News h₀ L h (pre ++ Led c) → h.IsList ax its := fun {h c pre} N => ⟨_, (N _ (List.mem_append_right _ (hlist c))).1, rfl, k, rfl⟩
  have hl : h1.IsList ax its := lis (pre := []) N
  have hlt : ax < h1.objs.size := by obtain ⟨_, e, _⟩ := hl; exact Heap.lt_size e
  refine wpAny_pyIter_list hl ?_
  refine wpAny_newObj_type (wpAny_newFunctionEnv hcell (by intro z hz; simp at hz) (fun h₂ hns₂ hsb₂ => ?_) hkind)
  dsimp only at hns₂ hsb₂ ⊢
  generalize hH1 : h1.push { cls := .type "list_iterator", data := .fields #[.ref ax, .int 0 0] } = H1 at hns₂ hsb₂ ⊢
  generalize hH2 : H1.push { cls := .type "list", dict := none, data := .seq ([] : List Value).toArray } = H2 at hns₂ hsb₂ ⊢
  have sz1 : H1.objs.size = h1.objs.size + 1 := by rw [← hH1, Heap.size_push]
  have sz2 : H2.objs.size = h1.objs.size + 2 := by rw [← hH2, Heap.size_push, sz1]
  have hne : ∀ {b : Addr}, b < H2.objs.size → b ≠ H2.objs.size := fun hb => Nat.ne_of_lt hb
  have up : ∀ b o, h1.get? b = some o → h₂.get? b = some o := fun b o e =>
    hsb₂.extBut b o (hne (by rw [sz2]; exact Nat.lt_of_lt_of_le (Heap.lt_size e) (by lia))) (Heap.get?_push_of_some _ (hH2 ▸ Heap.get?_push_of_some _ (hH1 ▸ Heap.get?_push_of_some _ e)))
  have hI : h₂.get? h1.objs.size = some { cls := .type "list_iterator", data := .fields #[.ref ax, .int 0 0] } :=
    hsb₂.extBut _ _ (hne (by rw [sz2]; exact Nat.lt_add_of_pos_right (by decide))) (Heap.get?_push_of_some _ (hH2 ▸ Heap.get?_push_of_some _ (hH1 ▸ Heap.get?_push_size _ rfl)))
  have hD : h₂.get? H1.objs.size = some (lst []) := hsb₂.extBut _ _ (hne (by rw [sz2, sz1]; exact Nat.lt_succ_self _)) (Heap.get?_push_of_some _ (hH2 ▸ Heap.get?_push_size _ rfl))
  have fresh₀ : ∀ a, h1.objs.size ≤ a → h₀.get? a = none := fun a ha => by
    cases e : h₀.get? a with
    | none => rfl
    | some o' => exact absurd (Heap.lt_size (F.keep a o' e)) (Nat.not_lt.mpr ha)
  have hLlt : L < h1.objs.size := F.ns.lt
  generalize hIe : h1.objs.size = I at *
  generalize hDe : H1.objs.size = D at *
  generalize hCe : H2.objs.size = C at *
  have I₀ : h₀.get? I = none := fresh₀ _ (Nat.le_refl _)
  have lID : Nat.lt I D := by rw [sz1]; exact Nat.lt_succ_self _
  have lIC : Nat.lt I C := by rw [sz2]; exact Nat.lt_add_of_pos_right (by decide)
  have lDC : Nat.lt D C := by rw [sz1, sz2]; exact Nat.lt_succ_self _
  have D₀ : h₀.get? D = none := fresh₀ _ (Nat.le_of_lt lID)
  have C₀ : h₀.get? C = none := fresh₀ _ (Nat.le_of_lt lIC)
  have nIL : L ≠ I := Nat.ne_of_lt hLlt
  have nDL : L ≠ D := Nat.ne_of_lt (Nat.lt_trans hLlt lID)
  have nCL : L ≠ C := Nat.ne_of_lt (Nat.lt_trans hLlt lIC)
  have nID : I ≠ D := Nat.ne_of_lt lID
  have nIC : I ≠ C := Nat.ne_of_lt lIC
  have nDC : D ≠ C := Nat.ne_of_lt lDC
  have off₀ : ∀ p ∈ Led c₀, p.1 ≠ I ∧ p.1 ≠ C ∧ p.1 ≠ D := fun p hp => by
    have hb : p.1 < I := hIe ▸ Heap.lt_size (N p hp).1
    exact ⟨Nat.ne_of_lt hb, Nat.ne_of_lt (Nat.lt_trans hb lIC), Nat.ne_of_lt (Nat.lt_trans hb lID)⟩
  have loop : codeAny (model prog w) A (.compLoop (.ListComp elt [⟨.Name x px, iter, [], 0⟩, ⟨.Name y py, iter', [ct], 0⟩] scope pos) 0 (.ref I) (.ref D) (compEnvC scope cl C env))
      (RR (.ref D) C) { s with heap := h₂, toks := tk1 + ([] : List (Str × Value)).length } := by
    refine loop_out (Out2 h₀ L m ax its I C D Led J s) ?_ (its.size + 1) ⟨h₂, _, 0, [], c₀, _, rfl, Nat.zero_le _, rfl, Nat.zero_le _, ⟨_, hI, rfl, rfl⟩, F.keeps up, hns₂, ?_, off₀, h0⟩ (by intro _; rfl) (hs₁ C)
    · rintro n s' ⟨h', tk, i, ys, c, m', rfl, hi, rfl, hyl, hit, F', hn', N', off', hJ⟩
      have hl' : h'.IsList ax its := lis (pre := [_]) N'
      by_cases hlt : i < its.size
      · obtain ⟨v, hv⟩ : ∃ v, its[i]? = some v := ⟨its[i], by simp [hlt]⟩
        refine wpAny_pyNext_list_item hit hl' hv fun h₃ hit₃ hs₃ => ?_
        refine wpAny_assign_Name (wpAny_storeName_local (lookup_relabel_local hx) (hn'.sameBut hs₃ (Ne.symm nIC)) (fun h₄ hn₄ hs₄ => ?_) (by simp [compEnvC, relabel, hkind]))
        have F₄ : Fr h₀ L h₄ m := (fr_ext F' hs₃.extBut nIL I₀).change hs₄ (Ne.symm nCL) C₀
        have N₄ : News h₀ L h₄ ((D, lst ys) :: Led c) := news_ext (news_ext N' hs₃.extBut (fun p hp => by
          rcases List.mem_cons.mp hp with rfl | hp
          · exact Ne.symm nID
          · exact (off' p hp).1)) hs₄.extBut (fun p hp => by
          rcases List.mem_cons.mp hp with rfl | hp
          · exact nDC
          · exact (off' p hp).2.1)
        have hit₄ := hit₃.extBut hs₄.extBut nIC
        obtain ⟨oI, heI, hcI⟩ := id hit₄
        obtain ⟨oC, heC, hoC⟩ := ns_obj hn₄
        have NN : News h₀ L h₄ ((I, oI) :: (C, oC) :: (D, lst ys) :: Led c) := fun p hp => by
          rcases List.mem_cons.mp hp with rfl | hp
          · exact ⟨heI, Ne.symm nIL, I₀⟩
          · rcases List.mem_cons.mp hp with rfl | hp
            · exact ⟨heC, Ne.symm nCL, C₀⟩
            · exact N₄ p hp
        refine wpAny_mono (second i c ys v I oI C oC D _ h₄ _ _ hlt hJ hv hoC (by simp) F₄ NN) (fun xv s₅ e => ?_) fun _ _ e => e
        obtain ⟨tk', rfl, rfl⟩ := e
        refine wpAny_pyIter_list (lis (pre := [_]) N₄) ?_
        dsimp only
        generalize hH5 : h₄.push { cls := .type "list_iterator", data := .fields #[.ref ax, .int 0 0] } = h₅
        have up₅ : ∀ b o, h₄.get? b = some o → h₅.get? b = some o := fun b o e => hH5 ▸ Heap.get?_push_of_some _ e
        have hI2 : h₅.get? h₄.objs.size = some { cls := .type "list_iterator", data := .fields #[.ref ax, .int 0 0] } := hH5 ▸ Heap.get?_push_size _ rfl
        have lL := F₄.ns.lt
        have lI := Heap.lt_size heI
        have lC := Heap.lt_size heC
        have lD := Heap.lt_size (N₄ _ (.head _)).1
        have lLed : ∀ p ∈ Led c, p.1 < h₄.objs.size := fun p hp => Heap.lt_size (N₄ p (.tail _ hp)).1
        have I2₀ : h₀.get? h₄.objs.size = none := by
          cases e : h₀.get? h₄.objs.size with
          | none => rfl
          | some o' => exact absurd (Heap.lt_size (F₄.keep _ o' e)) (Nat.lt_irrefl _)
        generalize h₄.objs.size = I2 at *
        have nL2 : L ≠ I2 := Nat.ne_of_lt lL
        have nI2 : I ≠ I2 := Nat.ne_of_lt lI
        have nC2 : C ≠ I2 := Nat.ne_of_lt lC
        have nD2 : D ≠ I2 := Nat.ne_of_lt lD
        have loop2 : ∀ tk₅, codeAny (model prog w) (A.mark none) (.compLoop (.ListComp elt [⟨.Name x px, iter, [], 0⟩, ⟨.Name y py, iter', [ct], 0⟩] scope pos) 1 (.ref I2) (.ref D) (compEnvC scope cl C env))
            (fun r s₅ => match r with | .ok _ => ∃ n, n < its.size + 1 - i ∧ Out2 h₀ L m ax its I C D Led J s n s₅ | .error e => cameBackBy (model prog w) A (compEnvC scope cl C env) (NB prog w A (compEnvC scope cl C env) (RR (.ref D) C)) e s₅) { s with heap := h₅, toks := tk₅ } := by
          intro tk₅
          refine loop_in (In2 h₀ L m x v ax its I I2 C D Led J i s) ?_ (its.size + 1) ⟨h₅, _, 0, ys, c, _, rfl, Nat.zero_le _, rfl, hyl, ⟨_, hI2, rfl, rfl⟩, hit₄.at fun o e => up₅ _ o e, F₄.keeps up₅, hn₄.at' fun o e => up₅ _ o e, by simp, fun p hp => ⟨up₅ _ _ (N₄ p hp).1, (N₄ p hp).2⟩, fun p hp => ⟨(off' p hp).1, Nat.ne_of_lt (lLed p hp), (off' p hp).2.1, (off' p hp).2.2⟩, hJ⟩ (by intro _; rfl)
          rintro n s' ⟨h₆, tk₆, j, ys', c', m', rfl, hj, rfl, hyl', hit2, hit1, F₆, hn₆, hm₆, N₆, off₆, hJ₆⟩
          have hl₆ : h₆.IsList ax its := lis (pre := [_]) N₆
          by_cases hjt : j < its.size
          · obtain ⟨u, hu⟩ : ∃ u, its[j]? = some u := ⟨its[j], by simp [hjt]⟩
            refine wpAny_pyNext_list_item hit2 hl₆ hu fun h₇ hit₇ hs₇ => ?_
            refine wpAny_assign_Name (wpAny_storeName_local (lookup_relabel_local hy) (hn₆.sameBut hs₇ nC2) (fun h₈ hn₈ hs₈ => ?_) (by simp [compEnvC, relabel, hkind]))
            have F₈ : Fr h₀ L h₈ m := (fr_ext F₆ hs₇.extBut nL2 I2₀).change hs₈ (Ne.symm nCL) C₀
            have N₈ : News h₀ L h₈ ((D, lst ys') :: Led c') := news_ext (news_ext N₆ hs₇.extBut (fun p hp => by
              rcases List.mem_cons.mp hp with rfl | hp
              · exact nD2
              · exact (off₆ p hp).2.1)) hs₈.extBut (fun p hp => by
              rcases List.mem_cons.mp hp with rfl | hp
              · exact nDC
              · exact (off₆ p hp).2.2.1)
            have hitI := (hit1.extBut hs₇.extBut nI2).extBut hs₈.extBut nIC
            have hit2' := hit₇.extBut hs₈.extBut (Ne.symm nC2)
            obtain ⟨oI, heI8, hcI8⟩ := id hitI
            obtain ⟨o2, he28, hc28⟩ := id hit2'
            obtain ⟨oC, heC8, hoC8⟩ := ns_obj hn₈
            have NN8 : News h₀ L h₈ ((I, oI) :: (I2, o2) :: (C, oC) :: (D, lst ys') :: Led c') := fun p hp => by
              rcases List.mem_cons.mp hp with rfl | hp
              · exact ⟨heI8, Ne.symm nIL, I₀⟩
              · rcases List.mem_cons.mp hp with rfl | hp
                · exact ⟨he28, Ne.symm nL2, I2₀⟩
                · rcases List.mem_cons.mp hp with rfl | hp
                  · exact ⟨heC8, Ne.symm nCL, C₀⟩
                  · exact N₈ p hp
            refine wpAny_mono (turn i j c' ys' v u I oI I2 o2 C oC D _ h₈ _ _ hlt hjt hJ₆ hv hu hoC8 (by simp [hxy, hm₆]) (by simp) F₈ NN8 off₆ ⟨nI2, nIC, nID, Ne.symm nC2, Ne.symm nD2, Ne.symm nDC⟩) (fun ok s₉ h₉ => ?_) fun _ _ e => e
            have sizes : its.size + 1 - (j + 1) < its.size + 1 - j := by lia
            cases ok with
            | true =>
              simp only [if_true] at h₉ ⊢
              refine wpAny_mono h₉ (fun yv s₁₀ e => ?_) fun _ _ e => e
              obtain ⟨ha, tka, ca, rfl, Fa, Na, offa, hJa⟩ := e
              have zI := (Na _ (.head _)).1
              have z2 := (Na _ (.tail _ (.head _))).1
              have zC := (Na _ (.tail _ (.tail _ (.head _)))).1
              have zD := (Na _ (.tail _ (.tail _ (.tail _ (.head _))))).1
              have hij : i * its.size + its.size ≤ its.size * its.size := by
                have h1 : (i + 1) * its.size ≤ its.size * its.size := Nat.mul_le_mul_right _ hlt
                rwa [Nat.succ_mul] at h1
              have hys : ys'.toArray.size ≤ sizeLine := by
                rw [List.size_toArray]
                lia
              refine append_at (hsz := hys) zD fun hb hsb hDb => ?_
              refine ⟨its.size + 1 - (j + 1), sizes, hb, tka, j + 1, ys' ++ [yv], ca, _, rfl, hjt, rfl, by rw [List.length_append, List.length_singleton]; lia, (show ha.IsListIter I2 ax (j + 1) from ⟨o2, z2, hc28⟩).extBut hsb.extBut (Ne.symm nD2), (show ha.IsListIter I ax (i + 1) from ⟨oI, zI, hcI8⟩).extBut hsb.extBut nID, Fa.change hsb (Ne.symm nDL) D₀, (hoC8.ns zC).sameBut hsb (Ne.symm nDC), by simp [hxy, hm₆], fun p hp => ?_, offa, hJa⟩
              rcases List.mem_cons.mp hp with rfl | hp
              · exact ⟨hDb.trans (congrArg some (lst_snoc ys' yv)), Ne.symm nDL, D₀⟩
              · have z := Na p (.tail _ (.tail _ (.tail _ (.tail _ hp))))
                exact ⟨hsb.extBut _ _ (offa p hp).2.2.2 z.1, z.2⟩
            | false =>
              simp only [Bool.false_eq_true, if_false] at h₉ ⊢
              obtain ⟨ha, tka, ca, rfl, Fa, Na, offa, hJa⟩ := h₉
              have zI := (Na _ (.head _)).1
              have z2 := (Na _ (.tail _ (.head _))).1
              have zC := (Na _ (.tail _ (.tail _ (.head _)))).1
              exact ⟨its.size + 1 - (j + 1), sizes, ha, tka, j + 1, ys', ca, _, rfl, hjt, rfl, by lia, ⟨o2, z2, hc28⟩, ⟨oI, zI, hcI8⟩, Fa, hoC8.ns zC, by simp [hxy, hm₆], fun p hp => Na p (.tail _ (.tail _ (.tail _ hp))), offa, hJa⟩
          · obtain rfl : j = its.size := Nat.le_antisymm hj (Nat.not_lt.mp hjt)
            refine wpAny_pyNext_list_end hh hit2 hl₆ (by simp) fun h₇ he₇ => ?_
            refine ⟨its.size + 1 - (i + 1), by lia, h₇, tk₆, i + 1, ys', c', m', rfl, hlt, rfl, by rw [Nat.succ_mul]; exact hyl', hit1.extBut he₇ nI2, fr_ext F₆ he₇ nL2 I2₀, hn₆.extBut he₇ nC2, news_ext N₆ he₇ (fun p hp => ?_), fun p hp => ⟨(off₆ p hp).1, (off₆ p hp).2.2.1, (off₆ p hp).2.2.2⟩, next _ _ _ hlt hJ₆⟩
            rcases List.mem_cons.mp hp with rfl | hp
            · exact nD2
            · exact (off₆ p hp).2.1
        exact start_in (loop2 _) ((Walks.list (A := A.mark none) hh I2 ax (Nat.ne_of_lt (lLed _ (hlist c))) its).self 0 _ _ _ ⟨⟨_, hI2, rfl, rfl⟩, lis (pre := [_]) fun p hp => ⟨up₅ _ _ (N₄ p hp).1, (N₄ p hp).2⟩⟩ (loop2 _))
      · obtain rfl : i = its.size := Nat.le_antisymm hi (Nat.not_lt.mp hlt)
        refine wpAny_pyNext_list_end hh hit hl' (by simp) fun h₃ he₃ => ?_
        refine hRR D C h₃ tk m' ys c (fr_ext F' he₃ nIL I₀) (news_ext N' he₃ ?_) (fun p hp => (off' p hp).2) (hn'.extBut he₃ (Ne.symm nIC)) C₀ D₀ (Ne.symm nCL) (Ne.symm nDL) (Ne.symm nDC) hJ
        intro p hp
        rcases List.mem_cons.mp hp with rfl | hp
        · exact Ne.symm nID
        · exact (off' p hp).1
    · intro p hp
      rcases List.mem_cons.mp hp with rfl | hp
      · exact ⟨hD, Ne.symm nDL, D₀⟩
      · exact ⟨up _ _ (N p hp).1, (N p hp).2⟩
  exact codeAny_compStart_list loop ((Walks.list (A := A) hh I ax (Nat.ne_of_lt hlt) its).self 0 _ _ _ ⟨⟨_, hI, rfl, rfl⟩, lis (pre := []) fun p hp => ⟨up _ _ (N p hp).1, (N p hp).2⟩⟩ loop)
theorem comp2A {σ : Type} {elt iter iter' ct : Expr} {x y : Str} {px py : Pos} {scope : Scope} {cl : List (Str × Addr)} {pos : Pos} {ax : Addr} {its : Array Value} {k : Nat} {h₀ : Heap} {L : Addr} {m : Str → Option Value} {env : Env} {z : Str} {pz spos : Pos} {Q : Flow → Shared → Prop}
    (Led : σ → List (Addr × Obj)) (J : Nat → Nat → List Value → σ → Prop) (c₀ : σ) (F₀ : Fr h₀ L s.heap m)
    (hh : A.handled = none) (hcell : ∀ z ∈ scope.names, z.2 ≠ .cell) (hkind : scope.kind = .function)
    (hx : scope.names.lookup x = some .local) (hy : scope.names.lookup y = some .local) (hxy : x ≠ y)
    (hs₁ : ∀ C v, foldedSetIterable iter' (compEnvC scope cl C env) v = pure v)
    (hlist : ∀ c, (ax, ({ cls := .type "list", data := .seq its k } : Obj)) ∈ Led c) (hsz : its.size * its.size + its.size ≤ sizeLine) (h0 : J 0 0 [] c₀)
    (hclos : closureFor scope env = pure cl) (hnames : ∀ z ∈ scope.names, z.2 = .local → scope.names.lookup z.1 = some .local) (hs₀ : ∀ v, foldedSetIterable iter env v = pure v)
    (hLe : env.locals = L) (hsw : swapsWith (.ListComp elt [⟨.Name x px, iter, [], 0⟩, ⟨.Name y py, iter', [ct], 0⟩] scope pos) (some (.Name z pz)) spos.line env = pure true)
    (hz : env.kindOf z = some .local) (hp : (env.scope.kind == .class || (env.scope.kind == .module && env.locals != env.globals)) = false)
    (first : wpAny (model prog w) A (eval iter env) (fun xv s₁ => ∃ h tk, xv = .ref ax ∧ s₁ = { s with heap := h, toks := tk } ∧ Fr h₀ L h m ∧ News h₀ L h (Led c₀)) E s)
    (second : ∀ i c ys v I oI C oC D m₂ h tk (E' : Value → Shared → Prop), i < its.size → J i 0 ys c → its[i]? = some v → NsObj oC m₂ → m₂ x = some v → Fr h₀ L h m → News h₀ L h ((I, oI) :: (C, oC) :: (D, lst ys) :: Led c) →
      wpAny (model prog w) A (eval iter' (compEnvC scope cl C env)) (fun xv s₁ => ∃ tk', xv = .ref ax ∧ s₁ = { s with heap := h, toks := tk' }) E' { s with heap := h, toks := tk })
    (turn : ∀ i j c ys v u I oI I2 o2 C oC D m₂ h tk (E' : Value → Shared → Prop), i < its.size → j < its.size → J i j ys c → its[i]? = some v → its[j]? = some u → NsObj oC m₂ → m₂ x = some v → m₂ y = some u → Fr h₀ L h m →
      News h₀ L h ((I, oI) :: (I2, o2) :: (C, oC) :: (D, lst ys) :: Led c) → (∀ p ∈ Led c, p.1 ≠ I ∧ p.1 ≠ I2 ∧ p.1 ≠ C ∧ p.1 ≠ D) → I ≠ I2 ∧ I ≠ C ∧ I ≠ D ∧ I2 ≠ C ∧ I2 ≠ D ∧ C ≠ D →
      wpAny (model prog w) A (isTrue ct (compEnvC scope cl C env) (eval ct (compEnvC scope cl C env))) (fun ok s' => if ok = true then
        wpAny (model prog w) A (eval elt (compEnvC scope cl C env)) (fun yv s'' => End2 h₀ L m { s with heap := h, toks := tk } I oI I2 o2 C oC D (lst ys) Led (fun c' => J i (j + 1) (ys ++ [yv]) c') s'') E' s'
        else End2 h₀ L m { s with heap := h, toks := tk } I oI I2 o2 C oC D (lst ys) Led (fun c' => J i (j + 1) ys c') s') E' { s with heap := h, toks := tk })
    (next : ∀ i ys c, i < its.size → J i its.size ys c → J (i + 1) 0 ys c)
    (fin : ∀ ys c D h tk, J its.size 0 ys c → Fr h₀ L h (fun q => if q = z then some (.ref D) else m q) → News h₀ L h ((D, lst ys) :: Led c) → (∀ p ∈ Led c, p.1 ≠ D) → Q .next { s with heap := h, toks := tk }) :
    wpAny (model prog w) A (exec (.Assign [.Name z pz] (.ListComp elt [⟨.Name x px, iter, [], 0⟩, ⟨.Name y py, iter', [ct], 0⟩] scope pos) spos) env) Q E s := by
  subst hLe
  rw [exec_Assign_Name_used _ _ _ _ hsw]
  refine wpAny_bind (wpAny_standAt (wpAny_bind ?_))
  show wpAny _ A (do let _ ← comprehension (.ListComp elt [⟨.Name x px, iter, [], 0⟩, ⟨.Name y py, iter', [ct], 0⟩] scope pos) scope env _ (newList []) false (eval iter env) (some (assign (.Name z pz) env))) _ _ s
  refine wpAny_bind (wpAny_mono (wpAny_comprehension_free (use := some (assign (.Name z pz) env)) (Q := fun _ s' => Q .next s') rfl hs₀ hclos hkind hnames
    (wpAny_mono first (fun xv s₁ h₁ => ?_) fun _ _ e => e)) (fun _ s' hq => wpAny_pure (wpAny_pure hq)) fun _ _ e => e)
  obtain ⟨h1, tk1, rfl, rfl, F, N⟩ := h₁
  refine block2 Led J c₀ hh hcell hkind hx hy hxy hs₁ hlist hsz h0 F N second turn next ?_
  intro D C h tk m' ys c F' N' off hn C₀ D₀ hCL hDL hCD hJ
  show wpAny _ A (assign (.Name z pz) env (.ref D)) _ _ _
  refine wpAny_assign_Name (wpAny_storeName_local hz F'.ns (fun h₂ hn₂ hs₂ => ?_) hp)
  have F₂ : Fr h₀ env.locals h₂ (fun q => if q = z then some (.ref D) else m q) := F'.set hn₂ hs₂
  refine ⟨m', hn.sameBut hs₂ hCL, fun h'' hs'' => fin ys c D h'' _ hJ (F₂.change hs'' hCL C₀) (fun p hp => ?_) fun p hp => (off p hp).2⟩
  have q : h₂.get? p.1 = some p.2 := hs₂.extBut _ _ (N' p hp).2.1 (N' p hp).1
  refine ⟨hs''.extBut _ _ ?_ q, (N' p hp).2⟩
  rcases List.mem_cons.mp hp with rfl | hp
  · exact Ne.symm hCD
  · exact (off p hp).1
end
end Mine

namespace Mine
section
 open PyProof.Rows.LCg PyProof.Rows.LCt
variable {prog : Program} {w : World} {A : Around} {E : Value → Shared → Prop} {s : Shared} {h₀ : Heap} {L : Addr} {m : Str → Option Value} {env : Env}
theorem str_of_is {prog : Program} {w : World} {k : Str} {v : Value} (h : (PySem.strKind prog w).is k v = true) : ∃ t, v = .str k t := by
  cases v <;> simp_all [PySem.strKind, Value.isStrOf]
end
end Mine

namespace Mine
noncomputable def EndV {σ : Type} (h₀ : Heap) (L : Addr) (Led : σ → List (Addr × Obj)) (ps : σ → List (Str × Value)) (stored : List Str) (m₀ : Str → Option Value) (P : σ → Prop) (own : List (Addr × Obj)) (s₁ s₂ : Shared) : Prop :=
  ∃ (c : σ) (h' : Heap) (tk : Nat) (m' : Str → Option Value) (news' : List (Addr × Obj)), s₂ = { s₁ with heap := h', toks := tk } ∧ Fr h₀ L h' m' ∧ News h₀ L h' news' ∧ (∀ p ∈ Led c, p ∈ news') ∧ (∀ p ∈ own, p ∈ news') ∧ (∀ q ∈ own, ∀ p ∈ Led c, @Ne Nat q.1 p.1) ∧
    (∀ p ∈ ps c, m' p.1 = some p.2) ∧ (∀ z, (∀ p ∈ ps c, z ≠ p.1) → stored.contains z = false → m' z = m₀ z) ∧ P c
theorem EndV.out {σ : Type} {h₀ : Heap} {L : Addr} {Led : σ → List (Addr × Obj)} {ps : σ → List (Str × Value)} {stored : List Str} {m₀ : Str → Option Value} {P : σ → Prop} {own : List (Addr × Obj)} {s₁ s₂ : Shared} {G : Prop} (h : EndV h₀ L Led ps stored m₀ P own s₁ s₂)
    (k : ∀ (c : σ) (h' : Heap) (tk : Nat) (m' : Str → Option Value) (news' : List (Addr × Obj)), s₂ = { s₁ with heap := h', toks := tk } → Fr h₀ L h' m' → News h₀ L h' news' → (∀ p ∈ Led c, p ∈ news') → (∀ p ∈ own, p ∈ news') → (∀ q ∈ own, ∀ p ∈ Led c, @Ne Nat q.1 p.1) →
      (∀ p ∈ ps c, m' p.1 = some p.2) → (∀ z, (∀ p ∈ ps c, z ≠ p.1) → stored.contains z = false → m' z = m₀ z) → P c → G) : G := by
  obtain ⟨c, h', tk, m', news', e, F, N, hn, ho, hs, k1, k2, kp⟩ := h
  exact k c h' tk m' news' e F N hn ho hs k1 k2 kp
noncomputable def PostV {σ : Type} (h₀ : Heap) (L : Addr) (Led : σ → List (Addr × Obj)) (ps : σ → List (Str × Value)) (stored : List Str) (m₀ : Str → Option Value) (P Pe : σ → Prop) (own : List (Addr × Obj)) (s₁ : Shared) (Q : Flow → Shared → Prop) (f : Flow) (s₂ : Shared) : Prop :=
  match f with
  | .ret v => Q (.ret v) s₂
  | .brk => EndV h₀ L Led ps stored m₀ Pe own s₁ s₂
  | _ => EndV h₀ L Led ps stored m₀ P own s₁ s₂
section
variable {prog : Program} {w : World} {A : Around} {E : Value → Shared → Prop} {s : Shared} {env : Env} {h₀ : Heap} {target : Expr} {body : List Stmt} {Q : Flow → Shared → Prop}
theorem m_endV {σ : Type} {L : Addr} {Led : σ → List (Addr × Obj)} {ps : σ → List (Str × Value)} {stored : List Str} {m₀ : Str → Option Value} {P : σ → Prop} {own : List (Addr × Obj)} {s₁ : Shared} (c : σ) {h' : Heap} {tk : Nat} {m' : Str → Option Value} {news' : List (Addr × Obj)}
    (F : Fr h₀ L h' m') (N : News h₀ L h' news') (hn : ∀ p ∈ Led c, p ∈ news') (ho : ∀ p ∈ own, p ∈ news') (hs : ∀ q ∈ own, ∀ p ∈ Led c, @Ne Nat q.1 p.1) (hk : ∀ p ∈ ps c, m' p.1 = some p.2) (hr : ∀ z, (∀ p ∈ ps c, z ≠ p.1) → stored.contains z = false → m' z = m₀ z) (hP : P c) :
    EndV h₀ L Led ps stored m₀ P own s₁ { s₁ with heap := h', toks := tk } := ⟨c, h', tk, m', news', rfl, F, N, hn, ho, hs, hk, hr, hP⟩
end
end Mine

namespace Mine
section
variable {prog : Program} {w : World} {A : Around} {E : Value → Shared → Prop} {s : Shared} {env : Env} {h₀ : Heap} {target : Expr} {body : List Stmt} {Q : Flow → Shared → Prop}
theorem go_tuple {elts : List Expr} {k : Nat} {pos : Pos} {l : Addr} (i : Nat) (v : Value) (s : Shared) (Q : Unit → Shared → Prop) (E : Value → Shared → Prop) (I : Addr) (hit : s.heap.IsListIter I l i) (hq : Q () s) :
    wpAny (model prog w) A (letOwnedTupleGo (.Tuple elts k pos) (.ref I) v) Q E s := by
  cases v with
  | ref T => exact wpAny_letOwnedTupleGo_listiter hit hq
  | _ => exact wpAny_pure hq
theorem m_listV {σ : Type} {l : Addr} {vs : List Value} {nn : Nat} {m₀ : Str → Option Value} {news : List (Addr × Obj)} (Led : σ → List (Addr × Obj)) (ps : σ → List (Str × Value)) (stored : List Str) (P : Nat → σ → Prop) (Pe : σ → Prop) (c₀ : σ)
    (hh : A.handled = none) (hl : ∀ c : σ, (l, listOf vs.toArray nn) ∈ Led c) (F : Fr h₀ env.locals s.heap m₀) (N : News h₀ env.locals s.heap news) (hL : ∀ p ∈ Led c₀, p ∈ news)
    (hk : ∀ p ∈ ps c₀, m₀ p.1 = some p.2) (hp : P 0 c₀) (hend : ∀ c, P vs.length c → Pe c)
    (hgo : ∀ i v (s : Shared) (Q : Unit → Shared → Prop) (E : Value → Shared → Prop), ∀ I, s.heap.IsListIter I l i → Q () s → wpAny (model prog w) A (letOwnedTupleGo target (.ref I) v) Q E s)
    (turn : ∀ (c : σ) (i : Nat) v (u : Str → Option Value) h tk own, vs[i]? = some v → (∀ q ∈ own, ∀ p ∈ Led c, @Ne Nat q.1 p.1) → (∀ q ∈ own, q.1 < h.objs.size) → P i c →
      Fr h₀ env.locals h (kstB (fun z => if stored.contains z then u z else m₀ z) (ps c)) → News h₀ env.locals h (Led c ++ own) →
      wpAny (model prog w) A (assign target env v) (fun _ s₃ => wpAny (model prog w) A (execs body env) (PostV h₀ env.locals Led ps stored m₀ (P (i + 1)) Pe own { s with heap := h, toks := tk } Q) E s₃) E { s with heap := h, toks := tk })
    (done : ∀ (c : σ) (u : Str → Option Value) h tk, Pe c → Fr h₀ env.locals h (kstB (fun z => if stored.contains z then u z else m₀ z) (ps c)) → News h₀ env.locals h (Led c) → Q .next { s with heap := h, toks := tk }) :
    wpAny (model prog w) A (pyIter (.ref l)) (fun it s₂ => TurnsAt prog w A h₀ env target body Q E it s₂) E s := by
  have N0 : News h₀ env.locals s.heap (Led c₀) := fun p hp => N p (hL p hp)
  have hax := N0 _ (hl c₀)
  have hlt : l < s.heap.objs.size := Heap.lt_size hax.1
  have hlI : l ≠ s.heap.objs.size := Nat.ne_of_lt hlt
  refine wpAny_pyIter_list (items := vs.toArray) ⟨_, hax.1, rfl, nn, rfl⟩ ?_
  have W := Walks.list (prog := prog) (w := w) hh s.heap.objs.size l hlI vs.toArray
  let J : Nat → (Str → Option Value) → List (Addr × Obj) → Prop := fun i m nx => ∃ c : σ, nx = Led c ∧ (∀ p ∈ ps c, m p.1 = some p.2) ∧ (∀ z, (∀ p ∈ ps c, z ≠ p.1) → stored.contains z = false → m z = m₀ z) ∧ P i c
  have upd : ∀ b o, s.heap.get? b = some o → (s.heap.push { cls := .type "list_iterator", data := .fields #[.ref l, .int 0 0] }).get? b = some o := fun b o e => Heap.get?_push_of_some _ e
  refine ⟨s.heap.objs.size, [s.heap.objs.size, l], [s.heap.objs.size], vs.toArray.size, _, _, _, m₀, Led c₀, J, rfl, KTurns.ofWalks W (fun i v s Q E st q => hgo i v s Q E _ st.1 q), ?_, ?_, ?_, ⟨⟨_, Heap.get?_push_size _ rfl, rfl, rfl⟩, ⟨_, upd _ _ hax.1, rfl, nn, rfl⟩⟩, F.push _, fun p hp => ⟨upd _ _ (N0 p hp).1, (N0 p hp).2⟩, ⟨c₀, rfl, hk, fun _ _ _ => rfl, hp⟩, ?_, ?_⟩
  · intro hm
    rcases List.mem_cons.mp hm with e | hm
    · exact absurd F.ns.lt (e ▸ Nat.lt_irrefl _)
    · exact hax.2.1 (List.mem_singleton.mp hm).symm
  · intro b hb
    rw [List.mem_singleton.mp hb]
    exact next_is_new F
  · intro p hp hI
    exact absurd (Heap.lt_size (N0 p hp).1) ((List.mem_singleton.mp hI) ▸ Nat.lt_irrefl _)
  · rintro i v m₁ nx h tk own hi hv ⟨c, rfl, h1, h2, hp'⟩ hwr hfp hat hown hst F₁ N₁
    have hv' : vs[i]? = some v := by simpa using hv
    let own' := own.filter fun p => !decide (p.1 = l)
    have in' : ∀ q ∈ own', q ∈ own ∧ q.1 = s.heap.objs.size := fun q hq => by
      obtain ⟨h3, h4⟩ := List.mem_filter.mp hq
      refine ⟨h3, ?_⟩
      rcases List.mem_cons.mp (hfp q h3) with e | e
      · exact e
      · exact absurd (List.mem_singleton.mp e) (by simpa using h4)
    have sep : ∀ q ∈ own', ∀ p ∈ Led c, @Ne Nat q.1 p.1 := fun q hq p hp z => hwr p hp (List.mem_singleton.mpr (z ▸ (in' q hq).2))
    have N₂ : News h₀ env.locals h (Led c ++ own') := fun p hp => N₁ p ((List.mem_append.mp hp).elim (fun h => List.mem_append.mpr (.inr h)) fun h => List.mem_append.mpr (.inl (in' p h).1))
    have hlo : h.get? l = some (listOf vs.toArray nn) := (N₁ _ (List.mem_append.mpr (.inr (hl c)))).1
    obtain ⟨oI, hoI⟩ : ∃ o, (s.heap.objs.size, o) ∈ own' := by
      obtain ⟨o, ho, -⟩ := hst.1
      refine ⟨o, List.mem_filter.mpr ⟨hown _ (.head _) (next_is_new F) o ho, ?_⟩⟩
      simpa using Ne.symm hlI
    refine wpAny_mono (turn c i v m₁ h tk own' hv' sep (fun q hq => Heap.lt_size (hat q (in' q hq).1)) hp' (ksw_fr h1 h2 F₁) N₂) (fun _ s₃ p => wpAny_mono p (fun f s₂ p => ?_) fun _ _ e => e) fun _ _ e => e
    have fin : EndV h₀ env.locals Led ps stored m₀ (P (i + 1)) own' { s with heap := h, toks := tk } s₂ → LoopStepU h₀ env.locals [s.heap.objs.size] own (J (i + 1)) { s with heap := h, toks := tk } .next s₂ := by
      intro p
      refine p.out fun c' h' tk' m' news' e F' N' hn' ho' hs' k1 k2 kp => ?_
      subst e
      refine ⟨rfl, h', tk', m', Led c', rfl, F', fun p hp => ?_, fun p hp hI => ?_, c', rfl, k1, k2, kp⟩
      · rcases List.mem_append.mp hp with hp | hp
        · by_cases e : p.1 = l
          · obtain ⟨pa, po⟩ := p
            have e' : pa = l := e
            subst e'
            have h3 : po = listOf vs.toArray nn := Option.some.inj ((hat _ hp).symm.trans hlo)
            subst h3
            exact N' _ (hn' _ (hl c'))
          · exact N' p (ho' p (List.mem_filter.mpr ⟨hp, by simpa using e⟩))
        · exact N' p (hn' p hp)
      · exact hs' _ hoI p hp (List.mem_singleton.mp hI).symm
    cases f with
    | ret v => exact .ret p
    | brk =>
      refine .brk ?_
      refine EndV.out p fun c' h' tk' m' news' e F' N' hn' ho' hs' k1 k2 kp => ?_
      subst e
      exact done c' m' h' tk' kp (ksw_fr k1 k2 F') (fun p hp => N' p (hn' p hp))
    | next => exact .next (fin p)
    | cont => exact .cont (fin p)
  · rintro h' tk m' news' F' N' _ ⟨c, rfl, h1, h2, hp'⟩
    exact done c m' h' tk (hend c (by simpa using hp')) (ksw_fr h1 h2 F') N'
end
end Mine

namespace Mine
structure LI (num n : Int) (i : Nat) (x1 y1 x2 y2 : Int) : Prop where
  g : GInv 5000 1 i x1 x2
  d1 : n ∣ x1 - y1 * num
  d2 : n ∣ x2 - y2 * num
  b1 : Bd (2500 * (i + 1)) y1
  b2 : Bd (2500 * (i + 1)) y2
  c1 : Bd 2480 x1
  c2 : Bd 2480 x2
theorem LI.start {num n : Int} (hn : 0 < n) (hB : Bd 2480 n) (hg : Int.gcd num n = 1) : LI num n 0 n 0 (num.fmod n) 1 := by
  have h := fmod_nn (a := num) hn
  have hb : Bd 2480 (num.fmod n) := fmod_bd hn hB
  refine ⟨?_, ⟨1, by grind⟩, ?_, .small (by decide) (by decide), .small (by decide) (by decide), hB, hb⟩
  · have e : Int.gcd n (num.fmod n) = 1 := by rw [gcd_fmod hn, hg]
    have := GInv.startB (Int.le_of_lt hn) h.1 (hB.mono (by decide)) (hb.mono (by decide))
    rwa [e] at this
  · have := fmod_dvd (a := num) hn
    rwa [Int.one_mul]
theorem LI.q {num n : Int} {i : Nat} {x1 y1 x2 y2 : Int} (h : LI num n i x1 y1 x2 y2) (h0 : x2 ≠ 0) : Bd 2481 (x1.fdiv x2) ∧ x1 - x1.fdiv x2 * x2 = x1.fmod x2 := by
  obtain ⟨hg, -, -, -, -, c1, c2⟩ := h
  have ha := hg.1
  have hb : 0 < x2 := by have := hg.2.1; lia
  have hq := Int.mul_fdiv_add_fmod x1 x2
  have hm := fmod_nn (a := x1) hb
  have hq0 : 0 ≤ x1.fdiv x2 := by
    rw [Int.fdiv_eq_ediv_of_nonneg _ (Int.le_of_lt hb)]
    exact Int.ediv_nonneg ha (Int.le_of_lt hb)
  have e : x2 * x1.fdiv x2 = x1.fdiv x2 * x2 := Int.mul_comm ..
  have h1 : 1 * x1.fdiv x2 ≤ x2 * x1.fdiv x2 := Int.mul_le_mul_of_nonneg_right (by lia) hq0
  exact ⟨Bd.of_lt hq0 (by lia) (c1.mono (by decide)), by lia⟩
theorem LI.ok {num n : Int} {i : Nat} {x1 y1 x2 y2 : Int} (h : LI num n i x1 y1 x2 y2) (hi : i < 5000) (h0 : x2 ≠ 0) : IntMulOk (x1.fdiv x2) x2 ∧ IntMulOk (x1.fdiv x2) y2 :=
  ⟨mulOkB 2481 2480 (h.q h0).1 h.c2 (by decide), mulOkB 2481 (2500 * (i + 1)) (h.q h0).1 h.b2 (by lia)⟩
theorem LI.step {num n : Int} {i : Nat} {x1 y1 x2 y2 : Int} (h : LI num n i x1 y1 x2 y2) (h0 : x2 ≠ 0) : LI num n (i + 1) x2 y2 (x1 - x1.fdiv x2 * x2) (y1 - x1.fdiv x2 * y2) := by
  obtain ⟨hq, he⟩ := h.q h0
  obtain ⟨hg, d1, d2, b1, b2, c1, c2⟩ := h
  have hb : 0 < x2 := by have := hg.2.1; lia
  have hm := fmod_nn (a := x1) hb
  refine ⟨he ▸ hg.step h0, d2, ?_, b2.mono (by lia), ?_, c2, he ▸ Bd.of_lt hm.1 (Int.le_of_lt hm.2) c2⟩
  · obtain ⟨u, hu⟩ := d1
    obtain ⟨v, hv⟩ := d2
    exact ⟨u - x1.fdiv x2 * v, by grind⟩
  · have e : 2500 * (i + 1 + 1) = (2500 * (i + 1) + 2499) + 1 := by lia
    rw [e]
    refine Bd.sub (b1.mono (by lia)) ?_ (by lia)
    exact (hq.mul b2).mono (by lia)
theorem LI.done {num n y1 y2 x1 : Int} {i : Nat} (h : LI num n i x1 y1 0 y2) (hn : 0 < n) : 0 ≤ y1.fmod n ∧ y1.fmod n < n ∧ n ∣ y1.fmod n * num - 1 := by
  have e := h.g.out
  have e1 : x1 = 1 := e
  have hf := fmod_nn (a := y1) hn
  refine ⟨hf.1, hf.2, ?_⟩
  obtain ⟨u, hu⟩ := h.d1
  obtain ⟨v, hv⟩ := fmod_dvd (a := y1) hn
  exact ⟨v * num - u, by grind⟩
theorem LI.lg {num n y1 y2 x1 x2 : Int} {i : Nat} (h : LI num n i x1 y1 x2 y2) : x2.natAbs.log2 < 9000 := Bd.lg h.c2 (by decide)
noncomputable def szI (n : Int) : Int := ((Builtin.Int.intBits n : Int) + 7).fdiv 8
theorem szI_up {n : Int} (h : ((Builtin.Int.intBits n : Nat) : Int).fmod 8 ≠ 0) : ((Builtin.Int.intBits n : Nat) : Int).fdiv 8 + 1 = szI n := by
  unfold szI
  generalize ((Builtin.Int.intBits n : Nat) : Int) = b at *
  rw [Int.fmod_eq_emod_of_nonneg _ (by decide)] at h
  rw [Int.fdiv_eq_ediv_of_nonneg _ (by decide), Int.fdiv_eq_ediv_of_nonneg _ (by decide)]
  lia
theorem szI_even {n : Int} (h : ((Builtin.Int.intBits n : Nat) : Int).fmod 8 = 0) : ((Builtin.Int.intBits n : Nat) : Int).fdiv 8 = szI n := by
  unfold szI
  generalize ((Builtin.Int.intBits n : Nat) : Int) = b at *
  rw [Int.fmod_eq_emod_of_nonneg _ (by decide)] at h
  rw [Int.fdiv_eq_ediv_of_nonneg _ (by decide), Int.fdiv_eq_ediv_of_nonneg _ (by decide)]
  lia
structure Scr (vs : List Value) (ns : List Int) : Prop where
  i : IntsAre vs ns
  n : ns.length ≤ 100
  b : ∀ n ∈ ns, Bd 1048577 n
theorem Scr.cell {vs : List Value} {ns : List Int} (h : Scr vs ns) (k : Nat) : Bd 1048577 (ns.getD k 0) := getD_all h.b (Bd.small (by decide) (by decide)) k
theorem bd_abs {k : Nat} {x : Int} (h : Bd k x) : Bd k (if x < 0 then -x else x) := by
  unfold Bd at *
  split <;> lia
end Mine

namespace Mine
section
variable {prog : Program} {w : World} {M : Model} {A : Around} {E : Value → Shared → Prop} {s : Shared} {K : Frag} {h₀ : Heap} {L : Addr} {m : Str → Option Value} {news : List (Addr × Obj)}
theorem to_octets {x : Int} {k : Nat} {kk : Int} {t u v : Tok} {Q : Value → Shared → Prop} (hkk : kk = (k : Int)) (hk : k ≤ 100000) (h0 : 0 ≤ x) (h1 : x < 256 ^ k)
    (h : ∀ (b : Array UInt8) t' n, KBw.bInts b = (KTBy.little k x).reverse → Q (.bytes b t') { s with toks := n }) :
    wpAny (model prog w) A (call (.builtin "int.to_bytes") [.int x t, .int kk u, .str (Str.ofString "big") v]) Q E s := by
  subst hkk
  have hbits := KTBy.bits_le (k := k) (B := 256 ^ k) rfl h0 h1
  refine wpAny_call_entry KTBy.slot (typeIs_int s x t) KTBy.entry ?_ (KTBy.args _ _ _)
  refine wpAny_bind (m := Builtin.Int.intOfSelf (.int x t)) (wpAny_of_eq (a := x) rfl ?_)
  refine wpAny_bind (m := Builtin.Int.intBindNamed "to_bytes" ["length", "byteorder", "signed"] 0 2 [.int (k : Int) u, .str (Str.ofString "big") v] []) (wpAny_of_eq (a := [some (.int (k : Int) u), some (.str (Str.ofString "big") v), none]) (by kernel_rfl) ?_)
  refine wpAny_bind (m := Builtin.Int.intIndex "int.to_bytes" (.int (k : Int) u)) (wpAny_of_eq (a := (k : Int)) rfl ?_)
  refine KTBy.if_not (Bool.or_eq_false_iff.mpr ⟨decide_eq_false (by lia), decide_eq_false (by lia)⟩) ?_
  refine wpAny_bind (wpAny_of_eq (a := Str.ofString "big") (by kernel_rfl) ?_)
  refine wpAny_bind (wpAny_of_eq (a := false) rfl ?_)
  refine wpAny_bind (wpAny_of_eq (a := false) (by kernel_rfl) ?_)
  refine wpAny_ite_false (decide_eq_false (by lia)) ?_
  refine wpAny_ite_false (decide_eq_false (by lia)) ?_
  refine wpAny_ite_false (decide_eq_false (by rw [sizeLine_eq]; lia)) ?_
  refine KTBy.if_not (Bool.and_eq_false_iff.mpr (.inl (decide_eq_false (by lia)))) ?_
  refine KTBy.if_not (Bool.and_eq_false_iff.mpr (.inr (decide_eq_false (show ¬ ((Builtin.Int.intBits x : Int) > 8 * (k : Int)) by lia)))) ?_
  have hlen : (KTBy.low x ((k : Int)).toNat).length = k := by rw [KTBy.low_length, Int.toNat_natCast]
  refine wpAny_bind (wpAny_mkBytes (wpAny_pure ⟨_, rfl, h _ _ _ ?_⟩) ?_)
  · show ((KTBy.low x ((k : Int)).toNat).reverse).map (fun c : UInt8 => ((c.toNat : Nat) : Int)) = (KTBy.little k x).reverse
    rw [List.map_reverse, Int.toNat_natCast, KTBy.low_ints h0 h1, KTBy.little_eq]
  · show ((KTBy.low x ((k : Int)).toNat).reverse).length ≤ sizeLine
    rw [List.length_reverse, hlen, sizeLine_eq]
    lia
theorem from_check {b : Array UInt8} {t u : Tok} : checkBoundCall "int.from_bytes" ⟨[.type "int", .bytes b t, .str (Str.ofString "big") u], [(Str.ofString "signed", .bool false)]⟩ = pure () := by kernel_rfl
theorem from_octets_tree {b : Array UInt8} {t u : Tok} {P : Fin → Shared → Prop} (hl : b.size ≤ 1000000) (h : P (.done (.ret (.int (KFB.value (KBw.bInts b)) s.toks))) { s with toks := s.toks + 1 }) :
    wpAny M A (Builtin.«int.from_bytes» ⟨[.type "int", .bytes b t, .str (Str.ofString "big") u], [(Str.ofString "signed", .bool false)]⟩) P E s := by
  have hlt := KFB.fold_lt b.toList 0
  rw [Nat.zero_add, Nat.one_mul, Array.length_toList] at hlt
  unfold Builtin.«int.from_bytes»
  refine wpAny_bind (wpAny_of_eq (a := true) KFB.type_int ?_)
  refine KFB.if_not rfl ?_
  refine wpAny_bind (wpAny_of_eq (a := true) F.conv_sub_int ?_)
  refine KFB.if_not rfl ?_
  refine wpAny_bind (wpAny_of_eq (a := [some (.bytes b t), some (.str (Str.ofString "big") u), some (.bool false)]) (by kernel_rfl) ?_)
  refine wpAny_bind (wpAny_of_eq (a := Str.ofString "big") (by kernel_rfl) ?_)
  refine wpAny_bind (wpAny_of_eq (a := false) (by first | rfl | kernel_rfl) ?_)
  refine wpAny_bind (wpAny_of_eq (a := false) (by kernel_rfl) ?_)
  refine wpAny_bind (wpAny_of_eq (a := b) rfl ?_)
  show wpAny _ _ (mkIntGrown (b.toList.foldl (fun (acc : Int) (c : UInt8) => acc * 256 + (c.toNat : Int)) ((0 : Nat) : Int)) >>= fun v => _) _ _ _
  rw [KFB.foldI_eq]
  refine wpAny_bind (m := mkIntGrown _) ?_
  unfold mkIntGrown
  generalize hN : b.toList.foldl (fun (acc : Nat) (b : UInt8) => acc * 256 + b.toNat) 0 = N at hlt
  have hbig : ¬ ((N : Int).natAbs.log2 ≥ bitsLine) := by
    rw [Int.natAbs_natCast]
    have hb : bitsLine = 134217728 := by first | rfl | decide
    by_cases hz : N = 0
    · subst hz; rw [hb]; decide
    · have e : (256 : Nat) ^ b.size = 2 ^ (8 * b.size) := by rw [Nat.pow_mul]
      have h2 := (Nat.log2_lt hz).mpr (e ▸ hlt)
      lia
  rw [if_neg hbig]
  refine wpAny_mkInt ?_
  refine KFB.if_so (by decide +kernel) ?_
  have hv : (N : Int) = KFB.value (KBw.bInts b) := by
    rw [← hN]; exact KFB.fold_cast b.toList 0
  rw [hv]
  exact wpAny_bind (wpAny_pure (wpAny_pure h))
theorem from_octets {x : Addr} {b : Array UInt8} {t u : Tok} {Q : Value → Shared → Prop} (N : News h₀ L s.heap news) (hm : (x, KFB.bound) ∈ news) (hl : b.size ≤ 1000000)
    (h : ∀ t' k, Q (.int (KFB.value (KBw.bInts b)) t') { s with toks := k }) : wpAny (model prog w) A (call (.ref x) [.bytes b t, .str (Str.ofString "big") u] [(Str.ofString "signed", .bool false)]) Q E s := by
  refine wpAny_call (codeAny_of_tree ?_)
  show wpAny _ A.in1 (callAny (.ref x) ⟨[.bytes b t, .str (Str.ofString "big") u], [(Str.ofString "signed", .bool false)]⟩) _ _ s
  simp only [callAny]
  refine wpAny_bind (wpAny_load (KFB.at_of N hm) ?_)
  simp only [KFB.bound, show (Value.type "builtin_function_or_method" == Value.type "method" || Value.type "builtin_function_or_method" == Value.type "builtin_function_or_method" || Value.type "builtin_function_or_method" == Value.type "method-wrapper") = true by decide, if_true]
  refine KFB.if_so (by decide) ?_
  refine wpAny_bind (wpAny_of_eq (a := ()) from_check ?_)
  refine wpAny_bind (wpAny_pure (wpAny_pure ?_))
  exact ⟨KFB.quiet_fb, codeAny_builtin KFB.entry_fb (from_octets_tree hl (h _ _))⟩
theorem keeps_bound {x : Addr} (h : Heap) (X : KFB.StandsAt x h) : ∃ k, (k = Keeper.frame ∨ k = Keeper.machine ∨ k = Keeper.boundFrame) ∧ Looks M h (keeperOf (.ref x)) k :=
  ⟨.machine, .inr (.inl rfl), (Looks.ld (part := none) X).andThen .now⟩
theorem callWith_boundKw {pos : Pos} {env : Env} {u : Addr} {first : List Value} {e : Expr} {rest : List Expr} {kws : List Keyword} {Q : Value → Shared → Prop} (hall : (backToKw pos (keywordEach kws env)).all (·.1.isSome) = true)
    (h : wpAny M A (spliced (backTo pos (starEach (e :: rest) env))) (fun vs s₁ => wpAny M A (evalAll ((backToKw pos (keywordEach kws env)).map (·.2)))
      (fun ks s₂ => KFB.StandsAt u s₂.heap ∧ wpAny M A (call (.ref u) (first ++ vs) (((backToKw pos (keywordEach kws env)).filterMap (·.1)).zip ks)) Q E s₂) E s₁) E s)
    (hplain : ((backTo pos (starEach (e :: rest) env)).any (·.1) || (backToKw pos (keywordEach kws env)).any (·.1.isNone)) = false := by rfl) (he : starEach (e :: rest) env = (false, eval e env) :: starEach rest env := by rfl) :
    wpAny M A (callWith pos (.ref u) first (backTo pos (starEach (e :: rest) env)) (backToKw pos (keywordEach kws env))) Q E s :=
  callWith_of hplain (fun h X => keeps_bound h X) (evalArgs_kw2 hall h he)
end
theorem slot_bytes_join : Slot "bytes" "join" "bytes.join" :=
  .of (owner := "bytes") (n := "join") (by rw [typeLookup_type, builtinLookup_eq_fast]; kernel_rfl) (by decide +kernel) (by decide +kernel) (by decide +kernel)
    (by first | exact .inl (by decide +kernel) | exact .inr (by decide +kernel)) (by rw [isSubtype_type]; kernel_rfl)
theorem type_bytes_join : typeOf (.builtin "bytes.join") = pure (.type "method_descriptor") := by show builtinType _ = _; rw [builtinType_eq_fast]; kernel_rfl
theorem entry_bytes_join : entryFor table "bytes.join" = some Builtin.«bytes.join» := by first | exact entryFor_of_fast (by kernel_rfl) | exact entryFor_of_tree (by kernel_rfl)
theorem args_bytes_join (a b : Value) : argsOk "bytes.join" ⟨[a, b], []⟩ := by unfold argsOk; kernel_rfl
section
variable {prog : Program} {w : World} {M : Model} {A : Around} {E : Value → Shared → Prop} {s : Shared}
theorem join_method {b : Array UInt8} {t : Tok} {pl : Sem Bool} {Q : Value × List Value → Shared → Prop} (h : Q (.builtin "bytes.join", [.bytes b t]) s) :
    wpAny M A (getMethod (.bytes b t) (Str.ofString "join") pl) Q E s :=
  getMethod_builtin (typeIs_bytes _ _ _) FB.plainAttrs_bytes slot_bytes_join type_bytes_join (fun _ e => nomatch e) h
theorem take_quiet {id : String} {b : Array UInt8} {t : Tok} {Q : Option (Array UInt8 × Option Value) → Shared → Prop} (h : Q (some (b, none)) s) : wpAny M A (Builtin.Bytes.takeBufferQuiet? id (.bytes b t) 0) Q E s := by
  unfold Builtin.Bytes.takeBufferQuiet? Builtin.Bytes.takeBuffer?
  refine wpAny_bind (wpAny_attempt ?_)
  refine wpAny_bind (wpAny_of_eq (KBy.special_eq KBy.look_buffer) ?_)
  refine wpAny_bind (wpAny_of_eq KBy.own_buffer ?_)
  refine KFB.if_not rfl ?_
  refine wpAny_bind (wpAny_of_eq (KBy.special_eq KBy.look_buffer) ?_)
  refine wpAny_bind (wpAny_of_eq KBy.buffer_eq ?_)
  exact wpAny_pure (wpAny_pure h)
theorem let_go_join : ∀ {l : List (Value × Option Value)} {keep : List Value} {Q : Unit → Shared → Prop}, (∀ p ∈ l, p.2 = none) → Q () s → wpAny M A (Builtin.Bytes.joinLetGo l keep) Q E s
  | [], _, _, _, hq => wpAny_pure hq
  | (x, u) :: r, keep, Q, h, hq => by
    obtain rfl : u = none := h _ (.head _)
    unfold Builtin.Bytes.joinLetGo
    dsimp only
    exact wpAny_bind (wpAny_letGo (let_go_join (fun p hp => h p (.tail _ hp)) hq))
theorem join4 {l : Addr} {b1 b2 b3 b4 : Array UInt8} {t t1 t2 t3 t4 : Tok} {Q : Value → Shared → Prop} (hl : s.heap.IsList l #[.bytes b1 t1, .bytes b2 t2, .bytes b3 t3, .bytes b4 t4]) (hsz : b1.size + b2.size + b3.size + b4.size ≤ 16777216)
    (h : ∀ t' k, Q (.bytes (b1 ++ b2 ++ b3 ++ b4) t') { s with toks := k }) : wpAny (model prog w) A (call (.builtin "bytes.join") [.bytes #[] t, .ref l]) Q E s := by
  obtain ⟨o, ho, hoc, n, hod⟩ := id hl
  have seqI : ∀ {A' : Around} {E' : Value → Shared → Prop} {Q' : Option (Array Value) → Shared → Prop}, Q' (some #[.bytes b1 t1, .bytes b2 t2, .bytes b3 t3, .bytes b4 t4]) s → wpAny (model prog w) A' (seqItems? (.ref l)) Q' E' s := by
    intro A' E' Q' hq
    unfold seqItems?
    refine wpAny_bind (wpAny_load ho ?_)
    rw [hod]
    exact wpAny_pure hq
  refine wpAny_call_entry slot_bytes_join (typeIs_bytes _ _ _) entry_bytes_join ?_ (args_bytes_join _ _)
  unfold Builtin.«bytes.join» Builtin.Bytes.joinM
  refine wpAny_bind (wpAny_of_eq (a := (.bytes #[] t, .ref l)) (by kernel_rfl) ?_)
  dsimp only
  refine KFB.if_so rfl ?_
  refine wpAny_bind ?_
  unfold Builtin.Bytes.joinItems
  refine wpAny_bind (wpAny_typeOf hl.typeIs ?_)
  refine KFB.if_so (by decide) ?_
  refine wpAny_pure ?_
  refine wpAny_bind (seqI ?_)
  dsimp only
  refine KFB.if_so rfl ?_
  refine wpAny_bind ?_
  rw [Std.Legacy.Range.forIn_eq_forIn_range']
  rw [show (#[Value.bytes b1 t1, Value.bytes b2 t2, Value.bytes b3 t3, Value.bytes b4 t4] : Array Value).size = 4 from rfl]
  rw [show List.range' ([:4] : Std.Legacy.Range).start ([:4] : Std.Legacy.Range).size ([:4] : Std.Legacy.Range).step = [0, 1, 2, 3] from by decide]
  iterate 4 (rw [List.forIn_cons]; refine wpAny_bind (wpAny_bind (seqI ?_)); refine KFB.if_not rfl ?_; refine wpAny_bind (wpAny_holding (take_quiet ?_)); dsimp only; refine wpAny_bind (seqI ?_); dsimp only; refine KFB.if_not rfl ?_; refine wpAny_pure ?_; dsimp only)
  rw [List.forIn_nil]
  refine wpAny_pure ?_
  refine wpAny_bind (wpAny_of_eq (a := #[]) rfl ?_)
  refine KFB.if_not (KBy.tooLong_not ?_) ?_
  · show Array.foldl (fun x1 x2 => x1 + x2.size) _ #[b1, b2, b3, b4] ≤ _
    simp
    lia
  have ej : Builtin.Bytes.joined #[] [b1, b2, b3, b4] = b1 ++ b2 ++ b3 ++ b4 := by simp [Builtin.Bytes.joined]
  refine wpAny_bind (m := mkBytes (Builtin.Bytes.joined #[] [b1, b2, b3, b4])) ?_
  rw [ej]
  refine wpAny_mkBytes ?_ (by simp only [Array.size_append, sizeLine_eq]; exact hsz)
  refine wpAny_bind (wpAny_holding (wpAny_point ?_))
  refine wpAny_bind (let_go_join (by intro p hp; simp only [List.nil_append, List.cons_append, List.mem_cons, List.not_mem_nil, or_false] at hp; rcases hp with rfl | rfl | rfl | rfl <;> rfl) ?_)
  exact wpAny_pure ⟨_, rfl, h _ _⟩
theorem int_declines_bytes (a : Int) (t : Tok) (b : Array UInt8) (u : Tok) : Gives (Builtin.«int.__mul__» ⟨[.int a t, .bytes b u], []⟩) (.val (Value.notImplemented)) :=
  .of_wp fun M A E s Q h => by obtain ⟨hp, g, d, tk, os⟩ := s; wp_walk; exact ⟨_, rfl, h⟩
theorem ff_times {n : Int} {t u : Tok} {Q : Value → Shared → Prop} (h2 : 2 ≤ n) (hn : n ≤ 100000) (h : ∀ t' k, Q (.bytes (List.replicate n.toNat (255 : UInt8)).toArray t') { s with toks := k }) :
    wpAny (model prog w) A (binaryOp .Mult (.int n t) (.bytes #[255] u)) Q E s := by
  have hf : Builtin.Bytes.fitsIndex n = true := by
    simp only [Builtin.Bytes.fitsIndex, Bool.and_eq_true, decide_eq_true_eq]
    lia
  have hsz : (#[255] : Array UInt8).size * n.toNat = n.toNat := Nat.one_mul _
  have h63 : ¬ (#[255] : Array UInt8).size * n.toNat ≥ 2 ^ 63 := by rw [hsz]; lia
  have hne : ((#[255] : Array UInt8).size * n.toNat == (#[255] : Array UInt8).size) = false := by
    rw [hsz]
    exact beq_false_of_ne (show ¬ n.toNat = 1 by lia)
  have hl : Builtin.Bytes.tooLong ((#[255] : Array UInt8).size * n.toNat) = false := by rw [hsz]; exact KBy.tooLong_not (by lia)
  have er : Builtin.Bytes.repeated #[255] n.toNat = (List.replicate n.toNat (255 : UInt8)).toArray := by
    have e := BMul.repeated_list (b := [255]) (List.cons_ne_nil _ _) n.toNat
    have e2 : (List.replicate n.toNat [(255 : UInt8)]).flatten = List.replicate n.toNat 255 := by
      induction n.toNat with
      | zero => rfl
      | succ k ih => rw [List.replicate_succ, List.flatten_cons, ih]; rfl
    rw [e2] at e
    exact e
  refine lm_binaryOp_repeat_right (T := "bytes") (U := "int") (by decide) (fun s' => typeIs_int s' n t) (typeIs_bytes s _ u) F.fills_int_mul BMul.noFill F.slot_int_mul lm_noRepeat_int BMul.repeats F.slot_int_index.lookup
    (call_gives F.slot_int_mul (typeIs_int s n t) F.entry_int_mul (F.args_int_mul_2 _ _) (int_declines_bytes n t _ u)
      ⟨rfl, typeIs_bytes _ _ _, call_gives BMul.slot_mul (typeIs_bytes s _ u) BMul.entry_mul (BMul.args_mul _ _) (BMul.gives_mul hf h63 hne hl) ?_⟩)
  rw [er]
  exact ⟨by rw [sizeLine_eq, List.size_toArray, List.length_replicate]; lia, h _ _⟩
end
theorem pad_ints {b : Array UInt8} {ms : List Int} {n : Nat} (hb : KBw.bInts b = ms) : KBw.bInts (#[0, 1] ++ (List.replicate n (255 : UInt8)).toArray ++ #[0] ++ b) = [0, 1] ++ List.replicate n 255 ++ [0] ++ ms := by
  refine KBw.ints_app (KBw.ints_app (KBw.ints_app rfl ?_) rfl) hb
  show (List.replicate n (255 : UInt8)).map (fun c : UInt8 => ((c.toNat : Nat) : Int)) = _
  rw [List.map_replicate]
  rfl
theorem pad_size {b : Array UInt8} {ms : List Int} {n : Nat} (hb : KBw.bInts b = ms) (h : n + ms.length ≤ 100000) : (#[0, 1] : Array UInt8).size + (List.replicate n (255 : UInt8)).toArray.size + (#[0] : Array UInt8).size + b.size ≤ 16777216 := by
  have e : b.size = ms.length := by rw [← hb]; exact (KBw.ints_length b).symm
  have e2 : (List.replicate n (255 : UInt8)).toArray.size = n := by simp
  rw [e, e2]
  show 2 + n + 1 + ms.length ≤ _
  lia
theorem pad_total {b : Array UInt8} {ms : List Int} {k : Int} (hb : KBw.bInts b = ms) (h : (ms.length : Int) ≤ k - 3) : (((#[0, 1] ++ (List.replicate (k - (ms.length : Int) - 3).toNat (255 : UInt8)).toArray ++ #[0] ++ b : Array UInt8).size : Nat) : Int) = k := by
  have e : b.size = ms.length := by rw [← hb]; exact (KBw.ints_length b).symm
  have e2 : (List.replicate (k - (ms.length : Int) - 3).toNat (255 : UInt8)).toArray.size = (k - (ms.length : Int) - 3).toNat := by simp
  rw [Array.size_append, Array.size_append, Array.size_append, e, e2]
  show ((2 + (k - (ms.length : Int) - 3).toNat + 1 + ms.length : Nat) : Int) = k
  lia
end Mine

namespace Mine
theorem bytes_len_look : typeLookup (.type "bytes") "__len__" = pure (some (.builtin "bytes.__len__")) := by rw [typeLookup_type, builtinLookup_eq_fast]; kernel_rfl
noncomputable abbrev ByteAt (b : Array UInt8) (i : Nat) (v : Value) : Prop := ∃ c u, b[i]? = some c ∧ v = .int (c.toNat : Int) u
section
variable {prog : Program} {w : World} {A : Around} {E : Value → Shared → Prop} {s : Shared}
theorem extend_bytes {R : Result → Shared → Prop} (hh : A.handled = none) (x : Array UInt8) (t : Tok) (S : Addr) (res : Value) (c₀ : Nat) (hS : s.heap.get? S = some { cls := .type "list", data := .seq #[] c₀ })
    (hR : ∀ h' tk acc' c', (∀ b o, b ≠ S → s.heap.get? b = some o → h'.get? b = some o) → h'.get? S = some { cls := .type "list", dict := none, data := .seq acc' c', slots := #[] } →
      ItemsOf (ByteAt x) acc' x.size → R (.ok (.ret res)) { s with heap := h', toks := tk }) (hn : x.size ≤ sizeLine) :
    wpAny (model prog w) A.in1 (Builtin.List.listExtendWith (.ref S) (.bytes x t) res)
      (fun fin s' => match fin with | .done f => R (.ok f) s' | .again c' => c'.quiet = true ∧ codeAny (model prog w) A c' R s') (fun e s' => R (.error e) s') s := by
  have hSI : S ≠ s.heap.objs.size := Nat.ne_of_lt (Heap.lt_size hS)
  have hSf : S ∉ [s.heap.objs.size] := fun hm => hSI (List.mem_singleton.mp hm)
  unfold Builtin.List.listExtendWith
  refine wpAny_bind (wpAny_typeOf (T := "bytes") (v := .bytes x t) rfl ?_)
  have h1 : Builtin.List.listSameRef (.ref S) (.bytes x t) = false := rfl
  have h2 : (Value.type "bytes" == Value.type "list") = false := by decide
  have h3 : (Value.type "bytes" == Value.type "tuple") = false := by decide
  simp only [h1, h2, h3, Bool.or_false, Bool.false_eq_true, if_false]
  refine wpAny_bind (KBw.pyIter_bytes ?_)
  refine wpAny_bind (wpAny_holding ?_)
  unfold Builtin.List.listLengthHint
  refine wpAny_bind (wpAny_specialOf (T := "bytes") (v := .bytes x t) rfl bytes_len_look ?_)
  wp_delta
  refine wpAny_bind (wpAny_isInstance (T := "bytes") (v := .bytes x t) (b := true) rfl (by rw [isSubtype_type]; kernel_rfl) ?_)
  show wpAny _ _ (typeOf (Value.bytes x t) >>= _) _ _ _
  refine wpAny_bind (wpAny_typeOf (T := "bytes") (v := .bytes x t) rfl ?_)
  refine wpAny_pure ?_
  rw [if_neg (by decide)]
  refine wpAny_pure ⟨plainId_quiet F.plain_extend_loop _, codeAny_extend_loopS (KBw.walks (A := A.in1) hh s.heap.objs.size x t).toS hn _ hSf _ x.size 0 _ _ _ rfl (Nat.zero_le _) ⟨_, Heap.get?_push_size _ rfl, rfl, rfl⟩ (Heap.get?_push_of_some _ hS) (ItemsOf.nil _) fun s' acc' c' hm hS' hacc => ?_⟩
  rw [Moved.eq_with hm]
  refine hR s'.heap s'.toks acc' c' (fun b ob hb e => hm.heap b ob (fun hmem => ?_) (Heap.get?_push_of_some _ e)) hS' hacc
  rcases List.mem_cons.mp hmem with e' | hmem
  · exact hb e'
  · exact absurd (Heap.lt_size e) (by rw [List.mem_singleton.mp hmem]; exact Nat.lt_irrefl _)
theorem list_init_bytes {R : Result → Shared → Prop} (hh : A.handled = none) (x : Array UInt8) (t : Tok) (S : Addr) (hS : s.heap.get? S = some { cls := .type "list", data := .seq #[] })
    (hR : ∀ h' tk acc' c', (∀ b o, b ≠ S → s.heap.get? b = some o → h'.get? b = some o) → h'.get? S = some { cls := .type "list", dict := none, data := .seq acc' c', slots := #[] } →
      ItemsOf (ByteAt x) acc' x.size → R (.ok (.ret .none)) { s with heap := h', toks := tk }) (hn : x.size ≤ sizeLine) :
    wpAny (model prog w) A.in1 (Builtin.«list.__init__» ⟨[.ref S, .bytes x t], []⟩)
      (fun fin s' => match fin with | .done f => R (.ok f) s' | .again c' => c'.quiet = true ∧ codeAny (model prog w) A c' R s') (fun e s' => R (.error e) s') s := by
  show wpAny _ _ (do let old ← Builtin.List.listItems (.ref S); Builtin.List.listUpdate (.ref S) (fun _ => #[]); letGo old.toList.reverse; Builtin.List.listExtendWith (.ref S) (.bytes x t) .none) _ _ s
  refine wpAny_bind ?_
  unfold Builtin.List.listItems
  refine wpAny_bind (wpAny_seqItems hS rfl (wpAny_pure ?_))
  show wpAny _ _ (updateSeq S (fun _ => #[]) >>= fun _ => letGo (#[] : Array Value).toList.reverse >>= fun _ => Builtin.List.listExtendWith (.ref S) (.bytes x t) .none) _ _ s
  refine wpAny_bind (wpAny_updateSeq hS rfl ?_)
  have hS₂ := Heap.get?_update_self (Obj.mapSeq (fun _ => (#[] : Array Value))) hS rfl
  have oth : ∀ b o, b ≠ S → s.heap.get? b = some o → (s.heap.update S (Obj.mapSeq (fun _ => (#[] : Array Value)))).get? b = some o :=
    fun b o hb e => (Heap.get?_update_other _ _ (Ne.symm hb)).trans e
  refine wpAny_bind (wpAny_letGo ?_)
  refine extend_bytes (hn := hn) hh x t S .none _ hS₂ fun h' tk acc' c' hk hS' hacc => ?_
  exact hR h' tk acc' c' (fun b o hb e => hk b o hb (oth b o hb e)) hS' hacc
theorem call_list_bytes {Q : Value → Shared → Prop} (hh : A.handled = none) (x : Array UInt8) (t : Tok)
    (hQ : ∀ h' tk acc' c', (∀ b o, s.heap.get? b = some o → h'.get? b = some o) →
      h'.get? s.heap.objs.size = some { cls := .type "list", dict := none, data := .seq acc' c', slots := #[] } → ItemsOf (ByteAt x) acc' x.size → Q (.ref s.heap.objs.size) { s with heap := h', toks := tk }) (hn : x.size ≤ sizeLine) :
    wpAny (model prog w) A (call (.type "list") [.bytes x t]) Q E s := by
  refine callType_codes (Q₁ := fun obj s₁ => obj = .ref s.heap.objs.size ∧ s₁ = { s with heap := s.heap.push { cls := .type "list", data := .seq #[] } }) F.called_list (F.typeCall_list_1 _) F.entry_list_init
    (code_list_new _ ⟨rfl, rfl⟩) fun obj s₁ h₁ => ?_
  obtain ⟨rfl, rfl⟩ := h₁
  have hS : (s.heap.push { cls := .type "list", data := .seq #[] }).get? s.heap.objs.size = some { cls := .type "list", data := .seq #[] } := Heap.get?_push_size _ rfl
  refine ⟨⟨_, hS, rfl⟩, F.args_list_init_2 _ _, list_init_bytes (A := A.in1) (hn := hn) hh x t _ hS fun h' tk acc' c' hk hS' hacc => ?_⟩
  exact ⟨rfl, hQ h' tk acc' c' (fun b o e => hk b o (Nat.ne_of_lt (Heap.lt_size e)) (Heap.get?_push_of_some _ e)) hS' hacc⟩
theorem bytes_ints {x : Array UInt8} {acc : Array Value} (h : ItemsOf (ByteAt x) acc x.size) : IntsAre acc.toList (KBw.bInts x) := by
  have gen : ∀ (vs : List Value) (ks : List Int), vs.length = ks.length → (∀ (j : Nat) v, vs[j]? = some v → ∃ u, ∃ k, ks[j]? = some k ∧ v = .int k u) → IntsAre vs ks := by
    intro vs
    induction vs with
    | nil => intro ks hl _; cases ks with
      | nil => exact .nil
      | cons _ _ => simp at hl
    | cons v r ih =>
      intro ks hl hv
      cases ks with
      | nil => simp at hl
      | cons k ks =>
        obtain ⟨u, k', hk', rfl⟩ := hv 0 v rfl
        obtain rfl : k = k' := by simpa using hk'
        exact .cons _ _ (ih ks (by simpa using hl) fun j v h => hv (j + 1) v (by simpa using h))
  refine gen _ _ (by rw [KBw.ints_length, Array.length_toList]; exact h.1) fun j v hj => ?_
  obtain ⟨c, u, hc, rfl⟩ := h.2 j v (by simpa using hj)
  exact ⟨u, _, KBw.ints_get hc, rfl⟩
theorem list_bytesL {x : Array UInt8} {t : Tok} {h₀ : Heap} {L : Addr} {m : Str → Option Value} {news : List (Addr × Obj)} {Q : Value → Shared → Prop} (hh : A.handled = none) (F : Fr h₀ L s.heap m) (N : News h₀ L s.heap news)
    (hQ : ∀ D h' tk ys c, D = s.heap.objs.size → (∀ p ∈ news, p.1 < D) → IntsAre ys (KBw.bInts x) → Fr h₀ L h' m → News h₀ L h' ((D, listOf ys.toArray c) :: news) → Q (.ref D) { s with heap := h', toks := tk }) (hn : x.size ≤ sizeLine) :
    wpAny (model prog w) A (call (.type "list") [.bytes x t]) Q E s := by
  refine call_list_bytes hh x t (hn := hn) fun h' tk acc' c' hk hS' hacc => ?_
  refine hQ _ h' tk acc'.toList c' rfl (fun p hp => Heap.lt_size (N p hp).1) (bytes_ints hacc) (F.keeps hk) fun p hp => ?_
  rcases List.mem_cons.mp hp with rfl | hp
  · refine ⟨by simpa [PySem.W.listOf] using hS', Ne.symm (Nat.ne_of_lt F.ns.lt), ?_⟩
    cases e : h₀.get? s.heap.objs.size with
    | none => rfl
    | some o => exact absurd (Heap.lt_size (F.keep _ _ e)) (Nat.lt_irrefl _)
  · exact ⟨hk _ _ (N p hp).1, (N p hp).2⟩
end
end Mine

namespace Mine
noncomputable def strRows (o : Option Obj) : List (Str × Tok × Value) := match o with
  | some o => (match o.data with | .dict es _ => es.toList.map fun e => (match e.key with | .str x t => (x, t, e.val) | _ => (Str.ofString "", 0, .none)) | _ => [])
  | none => []
noncomputable def strEs (P : Params) (rows : List (Str × Tok × Value)) : List DictEntry := rows.map fun x => ⟨PyData.keyHash P x.1, .str x.1 x.2.1, x.2.2⟩
theorem strEs_pairs {prog : Program} {w : World} : ∀ (rows : List (Str × Tok × Value)), Pairs (PySem.strKind prog w) (strEs w.params rows) (rows.map fun x => (x.1, x.2.2))
  | [] => .nil
  | x :: r => .cons (show Value.isStrOf x.1 (.str x.1 x.2.1) = true by simp [Value.isStrOf]) rfl (strEs_pairs r)
theorem dictOf_rows {prog : Program} {w : World} {h : Heap} {a : Addr} {rows : List (Str × Tok × Value)} {n : Nat} (ho : h.get? a = some { cls := .type "dict", data := .dict (strEs w.params rows).toArray n }) (hn : (rows.map (·.1)).Nodup) :
    h.DictOf (PySem.strKind prog w) a (rows.map fun x => (x.1, x.2.2)) := by
  refine ⟨_, _, n, ho, ⟨rfl, rfl, rfl⟩, rfl, ?_, strEs_pairs rows, ?_⟩
  · intro e he
    obtain ⟨x, hx, rfl⟩ := List.mem_map.mp (by simpa using he : e ∈ strEs w.params rows)
    exact ⟨x.1, show Value.isStrOf x.1 (.str x.1 x.2.1) = true by simp [Value.isStrOf], rfl⟩
  · rw [List.map_map]
    exact hn
noncomputable def hN : List Str := [Str.ofString "MD5", Str.ofString "SHA-1", Str.ofString "SHA-224", Str.ofString "SHA-256", Str.ofString "SHA-384", Str.ofString "SHA-512", Str.ofString "SHA3-256", Str.ofString "SHA3-384", Str.ofString "SHA3-512"]
noncomputable def codeOf (kind : List Int) (size : Int) : List Int := [48, (kind.length : Int) + 6 + 2 + size] ++ ([48, (kind.length : Int) + 4, 6, (kind.length : Int)] ++ kind ++ [5, 0]) ++ [4, size]
noncomputable def shaOf (last size : Int) : List Int := codeOf [96, 134, 72, 1, 101, 3, 4, 2, last] size
noncomputable def hC : List (List Int) := [codeOf [42, 134, 72, 134, 247, 13, 2, 5] 16, codeOf [43, 14, 3, 2, 26] 20, shaOf 4 28, shaOf 1 32, shaOf 2 48, shaOf 3 64, shaOf 8 32, shaOf 9 48, shaOf 10 64]
noncomputable def isBy : Value → Bool
  | .bytes _ _ => true
  | _ => false
noncomputable def octs : Value → List Int
  | .bytes b _ => KBw.bInts b
  | _ => []
noncomputable def TabOk (kvs : List (Str × Value)) : Prop := kvs.map (·.1) = hN ∧ kvs.map (fun p => octs p.2) = hC ∧ kvs.all (fun p => isBy p.2) = true
theorem valueAt_of {kvs : List (Str × Value)} {x : Str} {v : Value} : ∀ {i : Nat}, (kvs.map (·.1)).Nodup → kvs[i]? = some (x, v) → valueAt kvs x = some v := by
  induction kvs with
  | nil => intro i _ h; simp at h
  | cons p r ih =>
    intro i hn h
    have hn' := List.nodup_cons.mp (by simpa using hn : (p.1 :: r.map (·.1)).Nodup)
    cases i with
    | zero =>
      obtain rfl : p = (x, v) := by simpa using h
      unfold valueAt
      simp
    | succ i =>
      have h2 : r[i]? = some (x, v) := by simpa using h
      have hx : x ∈ r.map (·.1) := List.mem_map.mpr ⟨_, List.mem_of_getElem? h2, rfl⟩
      have hne : ¬ p.1 = x := fun e => hn'.1 (e ▸ hx)
      have := ih (i := i) hn'.2 h2
      unfold valueAt at this ⊢
      rw [List.find?_cons_of_neg (by simpa using hne)]
      exact this
theorem hN_nodup : hN.Nodup := by decide
theorem TabOk.at {kvs : List (Str × Value)} (h : TabOk kvs) {i : Nat} (hi : i < 9) : ∃ b t, valueAt kvs (hN.getD i (Str.ofString "")) = some (.bytes b t) ∧ KBw.bInts b = hC.getD i [] := by
  obtain ⟨h1, h2, h3⟩ := h
  have hl : kvs.length = 9 := by have := congrArg List.length h1; rwa [List.length_map] at this
  have hi' : i < kvs.length := by lia
  obtain ⟨⟨x, v⟩, hp⟩ : ∃ p, kvs[i]? = some p := ⟨_, List.getElem?_eq_getElem hi'⟩
  have e1 : hN.getD i (Str.ofString "") = x := by rw [← h1, List.getD_eq_getElem?_getD, List.getElem?_map, hp]; rfl
  have e2 : hC.getD i [] = octs v := by rw [← h2, List.getD_eq_getElem?_getD, List.getElem?_map, hp]; rfl
  have e3 := List.all_eq_true.mp h3 _ (List.mem_of_getElem? hp)
  rw [e1, e2]
  have hv := valueAt_of (h1 ▸ hN_nodup) hp
  cases v with
  | bytes b t => exact ⟨b, t, hv, rfl⟩
  | _ => cases e3
theorem TabOk.no {kvs : List (Str × Value)} (h : TabOk kvs) {x : Str} (hx : x ∉ hN) : valueAt kvs x = none := by
  unfold valueAt
  rw [Option.map_eq_none_iff, List.find?_eq_none]
  intro p hp e
  have e' : p.1 = x := by simpa using e
  exact hx (h.1 ▸ List.mem_map.mpr ⟨p, hp, e'⟩)
theorem hC_len {i : Nat} (hi : i < 9) : 15 ≤ (hC.getD i []).length ∧ (hC.getD i []).length ≤ 19 := by
  have : ∀ i : Fin 9, 15 ≤ (hC.getD i.val []).length ∧ (hC.getD i.val []).length ≤ 19 := by decide
  exact this ⟨i, hi⟩
theorem value_lt : ∀ (l : List Int) (a : Int), (∀ n ∈ l, 0 ≤ n ∧ n < 256) → 0 ≤ a → 0 ≤ l.foldl (fun a k => a * 256 + k) a ∧ l.foldl (fun a k => a * 256 + k) a < (a + 1) * 256 ^ l.length
  | [], a, _, h0 => ⟨h0, by simp; lia⟩
  | n :: r, a, h, h0 => by
    obtain ⟨n0, n1⟩ := h n (.head _)
    obtain ⟨v0, v1⟩ := value_lt r (a * 256 + n) (fun k hk => h k (.tail _ hk)) (by lia)
    refine ⟨v0, Int.lt_of_lt_of_le v1 ?_⟩
    rw [List.length_cons, Int.pow_succ]
    have e : (a + 1) * (256 ^ r.length * 256) = ((a + 1) * 256) * 256 ^ r.length := by rw [Int.mul_comm (256 ^ r.length) 256, Int.mul_assoc]
    rw [e]
    exact Int.mul_le_mul_of_nonneg_right (by lia) (Int.le_of_lt (Int.pow_pos (by decide)))
theorem p256 (k : Nat) : (256 : Int) ^ k = 2 ^ (8 * k) := by rw [Int.pow_mul, show (2 : Int) ^ 8 = 256 from by decide]
theorem value_bd {l : List Int} (h : ∀ n ∈ l, 0 ≤ n ∧ n < 256) (hl : l.length ≤ 155) : 0 ≤ KFB.value l ∧ Bd 1240 (KFB.value l) := by
  obtain ⟨v0, v1⟩ := value_lt l 0 h (Int.le_refl _)
  refine ⟨v0, Bd.of_nn v0 (Int.lt_of_lt_of_le v1 ?_)⟩
  have e : (0 + 1) * (256 : Int) ^ l.length = 2 ^ (8 * l.length) := by rw [p256]; lia
  rw [e]
  exact pow_lt_pow (by decide) (by lia)
theorem lt_octets {n : Int} (h0 : 0 < n) : n < 256 ^ (szI n).toNat := by
  rw [p256]
  have hb : (Builtin.Int.intBits n : Nat) ≤ 8 * (szI n).toNat := by
    unfold szI
    rw [Int.fdiv_eq_ediv_of_nonneg _ (by decide)]
    lia
  have h1 : n.natAbs < 2 ^ (Builtin.Int.intBits n) := by
    unfold Builtin.Int.intBits
    rw [if_neg (by simpa using (show n ≠ 0 by lia))]
    exact Nat.lt_log2_self
  have h2 : n.natAbs < 2 ^ (8 * (szI n).toNat) := Nat.lt_of_lt_of_le h1 (Nat.pow_le_pow_right (by decide) hb)
  have h5 : ((2 : Nat) ^ (8 * (szI n).toNat) : Nat) = (2 : Int) ^ (8 * (szI n).toNat) := by simp
  lia
theorem szI_le {n : Int} {k : Nat} (h : Bd k n) : szI n ≤ ((k + 7) / 8 : Nat) := by
  unfold szI
  have := bits_le h
  rw [Int.fdiv_eq_ediv_of_nonneg _ (by decide)]
  lia
section
variable {prog : Program} {w : World} {A : Around} {E : Value → Shared → Prop} {s : Shared} {d : Addr} {kvs : List (Str × Value)} {x : Str} {t : Tok} {Q : Value → Shared → Prop}
theorem strKey : (PySem.strKind prog w).is x (.str x t) = true := show Value.isStrOf x (.str x t) = true by simp [Value.isStrOf]
theorem tab_notin {v : Value} (hT : s.heap.DictOf (PySem.strKind prog w) d kvs) (hd : (d == sysModules) = false) (hv : valueAt kvs x = some v) (h : Q (.bool false) { s with toks := s.toks + 1 }) : wpAny (model prog w) A (compareOp .NotIn (.str x t) (.ref d)) Q E s :=
  wpAny_notIn_of strKey hd hT.mapOf (by rw [hv]; exact h)
theorem tab_item {value slice : PySem.Expr} {v : Value} (hT : s.heap.DictOf (PySem.strKind prog w) d kvs) (hv : valueAt kvs x = some v) (h : Q v { s with toks := s.toks + 1 })
    (hs : subscripted slice false (.ref d) (.str x t) = operate [.ref d, .str x t] (getItem (.ref d) (.str x t)) := by with_unfolding_all rfl) (hg : ∀ r, letTemporaryGo value (.ref d) r = pure () := by intro _; with_unfolding_all rfl) :
    wpAny (model prog w) A (subscriptTail value slice (.ref d) (.str x t)) Q E s :=
  subscriptTail_builtin hT.typeIs slot_dict_getitem.lookup (wpAny_getItem_of strKey hT.mapOf hv h) hs hg
end
theorem bInts_in (b : Array UInt8) : ∀ n ∈ KBw.bInts b, 0 ≤ n ∧ n < 256 := by
  intro n hn
  obtain ⟨c, -, rfl⟩ := List.mem_map.mp (show n ∈ b.toList.map fun c : UInt8 => ((c.toNat : Nat) : Int) from hn)
  have := c.toNat_lt
  lia
noncomputable def hRow (p : Str × List Int) : Dat := .tuple [.str p.1, .list (p.2.map .int)]
noncomputable def hD : List Dat := (hN.zip hC).map hRow
noncomputable def srcA : List (Str × Int × Int) := [(Str.ofString "SHA-224", 4, 28), (Str.ofString "SHA-256", 1, 32), (Str.ofString "SHA-384", 2, 48), (Str.ofString "SHA-512", 3, 64)]
noncomputable def srcB : List (Str × Int × Int) := [(Str.ofString "SHA3-256", 8, 32), (Str.ofString "SHA3-384", 9, 48), (Str.ofString "SHA3-512", 10, 64)]
noncomputable def srcD (r : Str × Int × Int) : Dat := .tuple [.str r.1, .int r.2.1, .int r.2.2]
noncomputable def shaRow (r : Str × Int × Int) : Str × List Int × Int := (r.1, [96, 134, 72, 1, 101, 3, 4, 2, r.2.1], r.2.2)
noncomputable def rows0 : List (Str × List Int × Int) := [(Str.ofString "MD5", [42, 134, 72, 134, 247, 13, 2, 5], 16), (Str.ofString "SHA-1", [43, 14, 3, 2, 26], 20)]
noncomputable def rows1 : List (Str × List Int × Int) := rows0 ++ srcA.map shaRow
noncomputable def rows2 : List (Str × List Int × Int) := rows1 ++ srcB.map shaRow
noncomputable def rowD (r : Str × List Int × Int) : Dat := .tuple [.str r.1, .list (r.2.1.map .int), .int r.2.2]
noncomputable def madeD (r : Str × List Int × Int) : Dat := hRow (r.1, codeOf r.2.1 r.2.2)
theorem datIn_inv {news : List (Addr × Obj)} {v : Value} {d : Dat} (h : DatIn news v d) : match d with
    | .str x => ∃ t, v = .str x t
    | .int i => ∃ t, v = .int i t
    | .tuple ds => ∃ a vs n, v = .ref a ∧ (a, ({ cls := .type "tuple", data := .seq (List.toArray vs) n } : Obj)) ∈ news ∧ DatAll news vs ds
    | .list ds => ∃ a vs n, v = .ref a ∧ (a, listOf (List.toArray vs) n) ∈ news ∧ DatAll news vs ds
    | _ => True := by
  cases h with
  | int i t => exact ⟨t, rfl⟩
  | str x t => exact ⟨t, rfl⟩
  | tuple hm r => exact ⟨_, _, _, rfl, hm, r⟩
  | list hm r => exact ⟨_, _, _, rfl, hm, r⟩
  | _ => trivial
theorem datAll_inv {news : List (Addr × Obj)} {vs : List Value} {ds : List Dat} (h : DatAll news vs ds) : match ds with
    | [] => vs = []
    | d :: r => ∃ v ws, vs = v :: ws ∧ DatIn news v d ∧ DatAll news ws r := by
  cases h with
  | nil => rfl
  | cons h r => exact ⟨_, _, rfl, h, r⟩
theorem datAll_length {news : List (Addr × Obj)} : ∀ {vs : List Value} {ds : List Dat}, DatAll news vs ds → vs.length = ds.length
  | vs, [], h => by
    have e : vs = [] := datAll_inv h
    rw [e]; rfl
  | vs, _ :: _, h => by
    obtain ⟨v, ws, e, -, r⟩ := datAll_inv h
    rw [e]; exact congrArg Nat.succ (datAll_length r)
theorem datAll_at {news : List (Addr × Obj)} : ∀ {vs : List Value} {ds : List Dat} {i : Nat} {v : Value}, DatAll news vs ds → vs[i]? = some v → ∃ d, ds[i]? = some d ∧ DatIn news v d
  | _, _, _, _, .nil, h => by simp at h
  | _, _, 0, _, .cons d _, h => ⟨_, rfl, by obtain rfl := Option.some.inj h; exact d⟩
  | _, _, i + 1, _, .cons _ r, h => by
    obtain ⟨d, h1, h2⟩ := datAll_at (i := i) r (by simpa using h)
    exact ⟨d, by simpa using h1, h2⟩
theorem datAll_get {news : List (Addr × Obj)} : ∀ {vs : List Value} {ds : List Dat} {i : Nat} {d : Dat}, DatAll news vs ds → ds[i]? = some d → ∃ v, vs[i]? = some v ∧ DatIn news v d
  | _, _, _, _, .nil, h => by simp at h
  | _, _, 0, _, .cons d _, h => ⟨_, rfl, by obtain rfl := Option.some.inj h; exact d⟩
  | _, _, i + 1, _, .cons _ r, h => by
    obtain ⟨v, h1, h2⟩ := datAll_get (i := i) r (by simpa using h)
    exact ⟨v, by simpa using h1, h2⟩
theorem datAll_ints {news : List (Addr × Obj)} : ∀ {vs : List Value} {ks : List Int}, DatAll news vs (ks.map .int) → IntsAre vs ks
  | vs, [], h => by
    have e : vs = [] := datAll_inv h
    rw [e]; exact .nil
  | vs, k :: r, h => by
    obtain ⟨v, ws, e, h1, h2⟩ := datAll_inv h
    obtain ⟨t, e1⟩ := datIn_inv h1
    rw [e, e1]; exact .cons k t (datAll_ints h2)
theorem datAll_of_ints {news : List (Addr × Obj)} : ∀ {vs : List Value} {ks : List Int}, IntsAre vs ks → DatAll news vs (ks.map .int)
  | _, _, .nil => .nil
  | _, _, .cons k t h => .cons (.int k t) (datAll_of_ints h)
theorem datAll_app {news : List (Addr × Obj)} : ∀ {vs ws : List Value} {ds es : List Dat}, DatAll news vs ds → DatAll news ws es → DatAll news (vs ++ ws) (ds ++ es)
  | vs, _, [], _, h, h' => by
    have e : vs = [] := datAll_inv h
    rw [e]; exact h'
  | vs, _, _ :: _, _, h, h' => by
    obtain ⟨v, ws, e, h1, h2⟩ := datAll_inv h
    rw [e]; exact .cons h1 (datAll_app h2 h')
theorem all3_in {news : List (Addr × Obj)} {vs : List Value} {x : Str} {d : Dat} {i : Int} (h : DatAll news vs [.str x, d, .int i]) : ∃ t1 v t3, vs = [.str x t1, v, .int i t3] ∧ DatIn news v d := by
  obtain ⟨v1, w1, e1, h1, h⟩ := datAll_inv h
  obtain ⟨v2, w2, e2, h2, h⟩ := datAll_inv h
  obtain ⟨v3, w3, e3, h3, h⟩ := datAll_inv h
  have e4 : w3 = [] := datAll_inv h
  obtain ⟨t1, e5⟩ := datIn_inv h1
  obtain ⟨t3, e6⟩ := datIn_inv h3
  exact ⟨t1, v2, t3, by rw [e1, e2, e3, e4, e5, e6], h2⟩
theorem all2_in {news : List (Addr × Obj)} {vs : List Value} {x : Str} {d : Dat} (h : DatAll news vs [.str x, d]) : ∃ t1 v, vs = [.str x t1, v] ∧ DatIn news v d := by
  obtain ⟨v1, w1, e1, h1, h⟩ := datAll_inv h
  obtain ⟨v2, w2, e2, h2, h⟩ := datAll_inv h
  have e4 : w2 = [] := datAll_inv h
  obtain ⟨t1, e5⟩ := datIn_inv h1
  exact ⟨t1, v2, by rw [e1, e2, e4, e5], h2⟩
theorem srcD_in {news : List (Addr × Obj)} {v : Value} {r : Str × Int × Int} (h : DatIn news v (srcD r)) : ∃ a n t1 t2 t3, v = .ref a ∧ (a, ({ cls := .type "tuple", data := .seq #[.str r.1 t1, .int r.2.1 t2, .int r.2.2 t3] n } : Obj)) ∈ news := by
  obtain ⟨a, vs, n, e, hm, h1⟩ := datIn_inv h
  obtain ⟨t1, v2, t3, e1, h2⟩ := all3_in h1
  obtain ⟨t2, e2⟩ := datIn_inv h2
  rw [e1, e2] at hm
  exact ⟨a, n, t1, t2, t3, e, hm⟩
theorem rowD_in {news : List (Addr × Obj)} {v : Value} {r : Str × List Int × Int} (h : DatIn news v (rowD r)) : ∃ a n b ws k t1 t3, v = .ref a ∧ (a, ({ cls := .type "tuple", data := .seq #[.str r.1 t1, .ref b, .int r.2.2 t3] n } : Obj)) ∈ news ∧ (b, listOf ws.toArray k) ∈ news ∧ IntsAre ws r.2.1 := by
  obtain ⟨a, vs, n, e, hm, h1⟩ := datIn_inv h
  obtain ⟨t1, v2, t3, e1, h2⟩ := all3_in h1
  obtain ⟨b, ws, k, e2, hb, hw⟩ := datIn_inv h2
  rw [e1, e2] at hm
  exact ⟨a, n, b, ws, k, t1, t3, e, hm, hb, datAll_ints hw⟩
theorem hRow_in {news : List (Addr × Obj)} {v : Value} {p : Str × List Int} (h : DatIn news v (hRow p)) : ∃ a n b ws k t1, v = .ref a ∧ (a, ({ cls := .type "tuple", data := .seq #[.str p.1 t1, .ref b] n } : Obj)) ∈ news ∧ (b, listOf ws.toArray k) ∈ news ∧ IntsAre ws p.2 := by
  obtain ⟨a, vs, n, e, hm, h1⟩ := datIn_inv h
  obtain ⟨t1, v2, e1, h2⟩ := all2_in h1
  obtain ⟨b, ws, k, e2, hb, hw⟩ := datIn_inv h2
  rw [e1, e2] at hm
  exact ⟨a, n, b, ws, k, t1, e, hm, hb, datAll_ints hw⟩
theorem rows_step {S : List (Str × Int × Int)} {i : Nat} {r : Str × Int × Int} {prev : List (Str × List Int × Int)} (h : S[i]? = some r) : (prev ++ (S.take (i + 1)).map shaRow).map rowD = (prev ++ (S.take i).map shaRow).map rowD ++ [rowD (shaRow r)] := by
  rw [List.take_add_one, h, Option.toList_some]
  simp only [List.map_append, List.append_assoc, List.map_cons, List.map_nil]
theorem mem_tl1 {p : Addr × Obj} {a b c : List (Addr × Obj)} (h : p ∈ a) : p ∈ a ++ (b ++ c) := List.mem_append_left _ h
theorem mem_tl2 {p : Addr × Obj} {a b c : List (Addr × Obj)} (h : p ∈ b) : p ∈ a ++ (b ++ c) := List.mem_append_right _ (List.mem_append_left _ h)
theorem mem_tl3 {p : Addr × Obj} {a b c : List (Addr × Obj)} (h : p ∈ c) : p ∈ a ++ (b ++ c) := List.mem_append_right _ (List.mem_append_right _ h)
end Mine

namespace Mine
theorem pow_gcd {b p : Nat} : ∀ {m n : Nat}, b ^ m % p = 1 % p → b ^ n % p = 1 % p → b ^ Nat.gcd m n % p = 1 % p := by
  intro m n
  induction m, n using Nat.gcd.induction with
  | H0 n => intro _ h; rwa [Nat.gcd_zero_left]
  | H1 m n hm ih =>
    intro h1 h2
    rw [Nat.gcd_rec]
    refine ih ?_ h1
    have e : n = n % m + m * (n / m) := (Nat.mod_add_div n m).symm
    have h3 : b ^ (m * (n / m)) % p = 1 % p := by
      rw [Nat.pow_mul, Nat.pow_mod, h1, ← Nat.pow_mod, Nat.one_pow]
    have h4 : b ^ n % p = b ^ (n % m) % p := by
      have e1 : b ^ n = b ^ (n % m) * b ^ (m * (n / m)) := by rw [← Nat.pow_add, ← e]
      rw [e1, Nat.mul_mod, h3, ← Nat.mul_mod, Nat.mul_one]
    rw [← h4, h2]
theorem prime_factor : ∀ {n : Nat}, 2 ≤ n → ∃ p, Pr p ∧ p ∣ n := by
  intro n
  induction n using Nat.strongRecOn with
  | ind n ih =>
    intro h2
    by_cases h : Pr n
    · exact ⟨n, h, Nat.dvd_refl n⟩
    · have : ∃ d, d ∣ n ∧ d ≠ 1 ∧ d ≠ n := by
        refine Classical.byContradiction fun hc => h ⟨h2, fun d hd => ?_⟩
        by_cases h1 : d = 1
        · exact .inl h1
        · exact .inr (Classical.byContradiction fun h3 => hc ⟨d, hd, h1, h3⟩)
      obtain ⟨d, hd, h1, h3⟩ := this
      have hle := Nat.le_of_dvd (by lia) hd
      have h0 : d ≠ 0 := fun e => by rw [e] at hd; have := Nat.eq_zero_of_zero_dvd hd; lia
      obtain ⟨p, hp, hpd⟩ := ih d (by lia) (by lia)
      exact ⟨p, hp, Nat.dvd_trans hpd hd⟩
theorem pock_one {N p q r a : Nat} (hN : 2 ≤ N) (hp : Pr p) (hpN : p ∣ N) (hq : Pr q) (e : N - 1 = q * r) (h1 : Builtin.powMod a (N - 1) N = 1) (h2 : Nat.gcd (Builtin.powMod a r N + (N - 1)) N = 1) : q ∣ p - 1 := by
  rw [powMod_is _ _ _ (by lia)] at h1 h2
  have p2 := hp.1
  refine Classical.byContradiction fun hc => ?_
  have hg := hq.coprime hc
  have toP : ∀ {x y : Nat}, x % N = y % N → x % p = y % p := fun {x y} h => by
    have := congrArg (· % p) h
    simpa [Nat.mod_mod_of_dvd _ hpN] using this
  have hb : (a ^ r) ^ q % p = 1 % p := by
    rw [← Nat.pow_mul, Nat.mul_comm r q, ← e]
    refine toP ?_
    rw [h1, Nat.mod_eq_of_lt (by lia : 1 < N)]
  have hnd : ¬ p ∣ a ^ r := fun hd => by
    have h3 : (a ^ r) ^ q % p = 0 := by
      have hq0 : q = (q - 1) + 1 := by have := hq.1; lia
      rw [hq0, Nat.pow_succ, Nat.mul_mod, Nat.mod_eq_zero_of_dvd hd, Nat.mul_zero, Nat.zero_mod]
    rw [h3, Nat.mod_eq_of_lt (by lia : 1 < p)] at hb
    lia
  have h4 := pow_gcd hb (hp.fermat1 hnd)
  rw [hg, Nat.pow_one, Nat.mod_eq_of_lt (by lia : 1 < p)] at h4
  have h5 : p ∣ a ^ r % N + (N - 1) := by
    refine Nat.dvd_of_mod_eq_zero ?_
    have h6 : a ^ r % N % p = 1 := by rw [Nat.mod_mod_of_dvd _ hpN, h4]
    obtain ⟨c, hc'⟩ := hpN
    have hc0 : 1 ≤ c := by
      refine Nat.pos_of_ne_zero fun e0 => ?_
      rw [e0] at hc'
      lia
    have h7 : a ^ r % N = p * (a ^ r % N / p) + 1 := by
      have := Nat.div_add_mod (a ^ r % N) p
      lia
    have h8 : a ^ r % N + (N - 1) = p * (a ^ r % N / p + c) := by
      rw [Nat.mul_add, ← hc']
      lia
    rw [h8]
    exact Nat.mul_mod_right _ _
  have h9 := Nat.dvd_gcd h5 hpN
  rw [h2] at h9
  have := Nat.le_of_dvd (by decide) h9
  lia
theorem pr_of_factors {N : Nat} (hN : 2 ≤ N) (h : ∀ p, Pr p → p ∣ N → N < p * p) : Pr N := by
  refine Pr.of_noDiv hN fun e he hle hm => ?_
  obtain ⟨p, hp, hpe⟩ := prime_factor he
  have h1 := h p hp (Nat.dvd_trans hpe (Nat.dvd_of_mod_eq_zero hm))
  have h2 := Nat.le_of_dvd (by lia) hpe
  have h3 := Nat.mul_le_mul h2 h2
  lia
theorem pock1 {N q r a : Nat} (hN : 2 ≤ N) (hq : Pr q) (e : N - 1 = q * r) (h1 : Builtin.powMod a (N - 1) N = 1) (h2 : Nat.gcd (Builtin.powMod a r N + (N - 1)) N = 1) (hs : N < (q + 1) * (q + 1)) : Pr N :=
  pr_of_factors hN fun p hp hpN => by
    have h3 := Nat.le_of_dvd (by have := hp.1; lia) (pock_one hN hp hpN hq e h1 h2)
    have h4 : q + 1 ≤ p := by have := hp.1; lia
    exact Nat.lt_of_lt_of_le hs (Nat.mul_le_mul h4 h4)
theorem pock2 {N q r a q' r' a' : Nat} (hN : 2 ≤ N) (hq : Pr q) (e : N - 1 = q * r) (h1 : Builtin.powMod a (N - 1) N = 1) (h2 : Nat.gcd (Builtin.powMod a r N + (N - 1)) N = 1) (hq' : Pr q') (e' : N - 1 = q' * r') (h1' : Builtin.powMod a' (N - 1) N = 1) (h2' : Nat.gcd (Builtin.powMod a' r' N + (N - 1)) N = 1) (hne : ¬ q ∣ q')
    (hs : N < (q * q' + 1) * (q * q' + 1)) : Pr N :=
  pr_of_factors hN fun p hp hpN => by
    have h3 := pock_one hN hp hpN hq e h1 h2
    have h4 := pock_one hN hp hpN hq' e' h1' h2'
    have h5 : q * q' ∣ p - 1 := Nat.Coprime.mul_dvd_of_dvd_of_dvd (hq.coprime hne) h3 h4
    have h6 := Nat.le_of_dvd (by have := hp.1; lia) h5
    have h7 : q * q' + 1 ≤ p := by have := hp.1; lia
    exact Nat.lt_of_lt_of_le hs (Nat.mul_le_mul h7 h7)
theorem pr_2131 : Pr 2131 := Pr.of_test (f := 46) (by decide) (by decide) (by decide +kernel)
theorem pr_15331 : Pr 15331 := Pr.of_test (f := 123) (by decide) (by decide) (by decide +kernel)
theorem pr_4153 : Pr 4153 := Pr.of_test (f := 64) (by decide) (by decide) (by decide +kernel)
theorem pr_430751 : Pr 430751 := Pr.of_test (f := 656) (by decide) (by decide) (by decide +kernel)
theorem pr_569003 : Pr 569003 := Pr.of_test (f := 754) (by decide) (by decide) (by decide +kernel)
theorem pr_127 : Pr 127 := Pr.of_test (f := 11) (by decide) (by decide) (by decide +kernel)
theorem pr_8574133 : Pr 8574133 := Pr.of_test (f := 2928) (by decide) (by decide) (by decide +kernel)
theorem pr_5594472617641 : Pr 5594472617641 := pock2 (q := 15331) (r := 364912440) (a := 2) (q' := 2131) (r' := 2625280440) (a' := 2) (by decide) pr_15331 (by decide) (by decide +kernel) (by decide +kernel) pr_2131 (by decide) (by decide +kernel) (by decide +kernel) (by decide) (by decide)
theorem pr_18446744073709551557 : Pr 18446744073709551557 := pock1 (q := 5594472617641) (r := 3297316) (a := 2) (by decide) pr_5594472617641 (by decide) (by decide +kernel) (by decide +kernel) (by decide)
theorem pr_31757755568855353 : Pr 31757755568855353 := pock2 (q := 430751) (r := 73726481352) (a := 2) (q' := 4153) (r' := 7646943310584) (a' := 2) (by decide) pr_430751 (by decide) (by decide +kernel) (by decide +kernel) pr_4153 (by decide) (by decide +kernel) (by decide +kernel) (by decide) (by decide)
theorem pr_2773320623 : Pr 2773320623 := pock1 (q := 569003) (r := 4874) (a := 2) (by decide) pr_569003 (by decide) (by decide +kernel) (by decide +kernel) (by decide)
theorem pr_72106336199 : Pr 72106336199 := pock1 (q := 2773320623) (r := 26) (a := 2) (by decide) pr_2773320623 (by decide) (by decide +kernel) (by decide +kernel) (by decide)
theorem pr_1919519569386763 : Pr 1919519569386763 := pock2 (q := 8574133) (r := 223873314) (a := 2) (q' := 127) (r' := 15114327318006) (a' := 2) (by decide) pr_8574133 (by decide) (by decide +kernel) (by decide +kernel) pr_127 (by decide) (by decide +kernel) (by decide +kernel) (by decide) (by decide)
theorem pr_75445702479781427272750846543864801 : Pr 75445702479781427272750846543864801 := pock2 (q := 1919519569386763) (r := 39304471641247389600) (a := 2) (q' := 72106336199) (r' := 1046311689884858398375200) (a' := 2) (by decide) pr_1919519569386763 (by decide) (by decide +kernel) (by decide +kernel) pr_72106336199 (by decide) (by decide +kernel) (by decide +kernel) (by decide) (by decide)
theorem pr_74058212732561358302231226437062788676166966415465897661863160754340907 : Pr 74058212732561358302231226437062788676166966415465897661863160754340907 := pock2 (q := 75445702479781427272750846543864801) (r := 981609426360740691344999861639072106) (a := 2) (q' := 31757755568855353) (r' := 2331972502653487852620185443007392165117953542933313402) (a' := 2) (by decide) pr_75445702479781427272750846543864801 (by decide) (by decide +kernel) (by decide +kernel) pr_31757755568855353 (by decide) (by decide +kernel) (by decide +kernel) (by decide) (by decide)
theorem pr_57896044618658097711785492504343953926634992332820282019728792003956564819949 : Pr 57896044618658097711785492504343953926634992332820282019728792003956564819949 := pock1 (q := 74058212732561358302231226437062788676166966415465897661863160754340907) (r := 781764) (a := 2) (by decide) pr_74058212732561358302231226437062788676166966415465897661863160754340907 (by decide) (by decide +kernel) (by decide +kernel) (by decide)
noncomputable def pL : List Int := [2 ^ 31 - 1, 2 ^ 61 - 1, 2 ^ 89 - 1, 2 ^ 107 - 1, 2 ^ 127 - 1, 2 ^ 521 - 1, 2 ^ 607 - 1, 2 ^ 64 - 59, 2 ^ 255 - 19]
theorem pL_ok : ∀ p ∈ pL, PrOk p := by
  refine List.forall_mem_cons.mpr ⟨prOk_of (n := 2 ^ 31 - 1) (by decide) (by decide +kernel) (Pr.ll (by decide) (by decide +kernel)), ?_⟩
  refine List.forall_mem_cons.mpr ⟨prOk_of (n := 2 ^ 61 - 1) (by decide) (by decide +kernel) (Pr.ll (by decide) (by decide +kernel)), ?_⟩
  refine List.forall_mem_cons.mpr ⟨prOk_of (n := 2 ^ 89 - 1) (by decide) (by decide +kernel) (Pr.ll (by decide) (by decide +kernel)), ?_⟩
  refine List.forall_mem_cons.mpr ⟨prOk_of (n := 2 ^ 107 - 1) (by decide) (by decide +kernel) (Pr.ll (by decide) (by decide +kernel)), ?_⟩
  refine List.forall_mem_cons.mpr ⟨prOk_of (n := 2 ^ 127 - 1) (by decide) (by decide +kernel) (Pr.ll (by decide) (by decide +kernel)), ?_⟩
  refine List.forall_mem_cons.mpr ⟨prOk_of (n := 2 ^ 521 - 1) (by decide +kernel) (by decide +kernel) (Pr.ll (by decide) (by decide +kernel)), ?_⟩
  refine List.forall_mem_cons.mpr ⟨prOk_of (n := 2 ^ 607 - 1) (by decide +kernel) (by decide +kernel) (Pr.ll (by decide) (by decide +kernel)), ?_⟩
  refine List.forall_mem_cons.mpr ⟨prOk_of (n := 18446744073709551557) (by decide) (by decide +kernel) pr_18446744073709551557, ?_⟩
  refine List.forall_mem_cons.mpr ⟨prOk_of (n := 57896044618658097711785492504343953926634992332820282019728792003956564819949) (by decide) (by decide +kernel) pr_57896044618658097711785492504343953926634992332820282019728792003956564819949, ?_⟩
  exact List.forall_mem_nil _
noncomputable def wL : List Nat := [3989, 7979, 11971, 15959, 19951, 23939, 27919, 31907, 35899, 39887, 43867, 47857, 51853, 55849, 59833, 63827, 67819, 71809, 75797, 79777, 83773]
theorem wL_ok : ∀ w ∈ wL, ∀ p ∈ pL, Nat.gcd w (p - 1).toNat = 1 := by decide +kernel
noncomputable def gapsOk : Nat → List Nat → Bool
  | _, [] => true
  | lo, w :: r => decide (w ≤ lo + 4000) && decide (w % 2 = 1) && gapsOk w r
noncomputable def lastOf : Nat → List Nat → Nat
  | lo, [] => lo
  | _, w :: r => lastOf w r
theorem gaps_pick : ∀ (l : List Nat) (lo e : Nat), gapsOk lo l = true → lo < e → e ≤ lastOf lo l → ∃ w, w ∈ l ∧ e ≤ w ∧ w < e + 4000 ∧ w % 2 = 1
  | [], _, _, _, h1, h2 => absurd h2 (Nat.not_le.mpr h1)
  | w :: r, lo, e, h, h1, h2 => by
    unfold gapsOk at h
    simp only [Bool.and_eq_true, decide_eq_true_eq] at h
    by_cases hw : e ≤ w
    · exact ⟨w, .head _, hw, Nat.lt_of_le_of_lt h.1.1 (Nat.add_lt_add_right h1 _), h.1.2⟩
    · obtain ⟨x, hx, hr⟩ := gaps_pick r w e h.2 (Nat.not_le.mp hw) h2
      exact ⟨x, .tail _ hx, hr⟩
theorem wL_at {e : Nat} (h3 : 3 ≤ e) (_ : e % 2 = 1) (h : e ≤ 80001) : ∃ w, w ∈ wL ∧ e ≤ w ∧ w < e + 4000 ∧ w % 2 = 1 :=
  gaps_pick wL 2 e (by decide) h3 (Nat.le_trans h (by decide))
theorem exp_ex {p q s : Int} (hp : p ∈ pL) (hq : q ∈ pL) (h0 : 0 ≤ s) (h1 : s < 40000) : ∃ j : Nat, j < 2 * 1000 ∧ Int.gcd (3 + 2 * s + 2 * (j : Int)) ((p - 1) * (q - 1)) = 1 := by
  obtain ⟨w, hw, l1, l2, ho⟩ := wL_at (e := (3 + 2 * s).toNat) (by lia) (by lia) (by lia)
  refine ⟨(w - (3 + 2 * s).toNat) / 2, by lia, ?_⟩
  have e : 3 + 2 * s + 2 * (((w - (3 + 2 * s).toNat) / 2 : Nat) : Int) = (w : Int) := by lia
  rw [e]
  have p3 := (pL_ok p hp).1
  have q3 := (pL_ok q hq).1
  have a := wL_ok w hw p hp
  have b := wL_ok w hw q hq
  show Nat.gcd (w : Int).natAbs ((p - 1) * (q - 1)).natAbs = 1
  rw [Int.natAbs_natCast, Int.natAbs_mul]
  have e1 : (p - 1).natAbs = (p - 1).toNat := by lia
  have e2 : (q - 1).natAbs = (q - 1).toNat := by lia
  rw [e1, e2]
  exact Nat.Coprime.mul_right a b
theorem mem_bd {k : Int} (h : k ∈ ([31, 61, 89, 107, 127, 521, 607] : List Int)) : 0 ≤ k ∧ k ≤ 1000000 := by
  simp only [List.mem_cons, List.not_mem_nil, or_false] at h
  lia
noncomputable abbrev pairObj (p q : Int) (t u : Tok) : Obj := { cls := .type "tuple", data := .seq #[.int p t, .int q u] }
noncomputable def PairsJ (least : Int) (own : List (Addr × Obj)) (ys : List Value) : Prop := ∀ v ∈ ys, ∃ T p q t u, v = .ref T ∧ (T, pairObj p q t u) ∈ own ∧ p ∈ pL ∧ q ∈ pL ∧ p ≠ q ∧ least ≤ szI (p * q)
noncomputable def KeysJ (least : Int) (i j : Nat) (ys : List Value) (own : List (Addr × Obj)) : Prop := PairsJ least own ys ∧ (0 < i ∨ 6 ≤ j → ys ≠ []) ∧ ys.length ≤ i * 9 + j
theorem KeysJ.start {least : Int} : KeysJ least 0 0 [] [] := ⟨(fun _ h => nomatch h), fun h => by lia, Nat.le_refl _⟩
theorem KeysJ.next {least : Int} {i : Nat} {ys : List Value} {own : List (Addr × Obj)} (h : KeysJ least i 9 ys own) : KeysJ least (i + 1) 0 ys own := ⟨h.1, ⟨fun _ => h.2.1 (.inr (by decide)), by have := h.2.2; lia⟩⟩
theorem KeysJ.yes {least p q : Int} {i j : Nat} {ys : List Value} {own : List (Addr × Obj)} {T : Addr} {t u : Tok} (h : KeysJ least i j ys own) (hp : p ∈ pL) (hq : q ∈ pL) (hne : p ≠ q) (hl : least ≤ szI (p * q)) :
    KeysJ least i (j + 1) (ys ++ [.ref T]) ((T, pairObj p q t u) :: own) := by
  refine ⟨fun v hv => ?_, fun _ => by simp, by have := h.2.2; rw [List.length_append, List.length_singleton]; lia⟩
  rcases List.mem_append.mp hv with hv | hv
  · obtain ⟨T', p', q', t', u', e, hm, r⟩ := h.1 v hv
    exact ⟨T', p', q', t', u', e, .tail _ hm, r⟩
  · exact ⟨T, p, q, t, u, List.mem_singleton.mp hv, .head _, hp, hq, hne, hl⟩
theorem szI_first : szI ((2 ^ 31 - 1) * (2 ^ 521 - 1)) = 69 := by decide +kernel
theorem KeysJ.no {least p q : Int} {i j : Nat} {ys : List Value} {own : List (Addr × Obj)} (h : KeysJ least i j ys own) (hl : least ≤ 69) (hp : pL[i]? = some p) (hq : pL[j]? = some q) (hn : ¬ (p ≠ q ∧ least ≤ szI (p * q))) : KeysJ least i (j + 1) ys own := by
  refine ⟨h.1, fun hc => ?_, by have := h.2.2; lia⟩
  by_cases h0 : 0 < i ∨ 6 ≤ j
  · exact h.2.1 h0
  · exfalso
    obtain rfl : i = 0 := by lia
    obtain rfl : j = 5 := by lia
    have e1 : p = 2 ^ 31 - 1 := (Option.some.inj hp).symm
    have e2 : q = 2 ^ 521 - 1 := (Option.some.inj hq).symm
    subst e1 e2
    exact hn ⟨by decide +kernel, by rw [szI_first]; exact hl⟩
theorem KeysJ.pick {least : Int} {ys : List Value} {own : List (Addr × Obj)} (h : KeysJ least 9 0 ys own) : 0 < ys.length ∧ ys.length ≤ 81 ∧ ∀ k : Nat, k < ys.length → ∃ T p q t u, ys[k]? = some (.ref T) ∧ (T, pairObj p q t u) ∈ own ∧ p ∈ pL ∧ q ∈ pL ∧ p ≠ q ∧ least ≤ szI (p * q) := by
  refine ⟨List.length_pos_iff.mpr (h.2.1 (.inl (by decide))), h.2.2, fun k hk => ?_⟩
  obtain ⟨T, p, q, t, u, e, r⟩ := h.1 ys[k] (List.getElem_mem hk)
  exact ⟨T, p, q, t, u, by rw [List.getElem?_eq_getElem hk, e], r⟩
theorem intsAre_cast {vs : List Value} {a b : List Int} (h : IntsAre vs a) (e : a = b) : IntsAre vs b := e ▸ h
end Mine

set_option maxHeartbeats 4000000
namespace Mine
theorem over_msg {prog : Program} {w : World} {A : Around} {E : Value → Shared → Prop} {s : Shared} {h₀ : Heap} {L b : Addr} {news : List (Addr × Obj)} {x y : Int} {t u v : Tok} {n : Nat} {Q : Value → Shared → Prop}
    (N : News h₀ L s.heap news) (hb : (b, ({ cls := .type "tuple", data := .seq #[.int x t, .int y u] n } : Obj)) ∈ news) (hx0 : 0 ≤ x) (hx1 : x < 10000) (hy0 : 0 ≤ y) (hy1 : y < 10000)
    (h : ∀ T t' k, Q (.str T t') { s with toks := k }) : wpAny (model prog w) A (binaryOp .Mod (.str (Str.ofString "%i bytes needed for message, but there is only space for %i") v) (.ref b)) Q E s := by
  refine' KPt.mod_tuple N hb ?kptF ?kptm ?_
  case kptF => kpt_eq
  case kptm => kpt_run
  exact h _
end Mine

set_option maxHeartbeats 4000000
namespace Mine
theorem look_index_bytes : typeLookup (.type "bytes") "__index__" = pure none := by rw [typeLookup_type, builtinLookup_eq_fast]; kernel_rfl
section
variable {prog : Program} {w : World} {M : Model} {A : Around} {E : Value → Shared → Prop} {s : Shared} {h₀ : Heap} {L : Addr} {m : Str → Option Value} {news : List (Addr × Obj)} {b c : Array UInt8} {t u : Tok}
theorem cut_bytes {n : Nat} {Q : String → Shared → Prop} (h : Q "bytes" s) : wpAny M A (typeNameOfCut n (.bytes b t)) Q E s := by
  unfold typeNameOfCut shownTypeOf
  refine wpAny_bind (wpAny_bind (wpAny_typeOf (typeIs_bytes _ b t) ?_))
  simp only [show (Value.type "bytes" == Value.type "builtin_function_or_method") = false by decide, Bool.false_eq_true, if_false]
  refine wpAny_pure ?_
  rw [show typeNameCut n (.type "bytes") = typeName (.type "bytes") from rfl]
  refine wpAny_of_eq (a := "bytes") (by kernel_rfl) h
theorem bytes_noidx {Q : Int → Shared → Prop} (hh : A.handled = none) (h : ∀ h' tk e, Heap.NewExc s.heap h' e "TypeError" → E (.ref e) { s with heap := h', toks := tk }) : wpAny M A (asIndex (.bytes c u)) Q E s := by
  unfold asIndex
  refine wpAny_bind (wpAny_of_eq (a := none) rfl ?_)
  dsimp only
  refine wpAny_bind ?_
  unfold callSpecial?
  refine wpAny_bind (wpAny_of_eq (KBy.special_eq look_index_bytes) ?_)
  refine wpAny_pure ?_
  refine wpAny_bind (cut_bytes ?_)
  exact wpAny_raiseErrorMade plainExc_TypeError hh h (by decide +kernel)
theorem in_bytes {Q : Value → Shared → Prop} (hh : A.handled = none) (F : Fr h₀ L s.heap m) (N : News h₀ L s.heap news)
    (h : ∀ h' tk, Fr h₀ L h' m → News h₀ L h' news → Q (.bool (Builtin.Bytes.find? b c 0 b.size).isSome) { s with heap := h', toks := tk }) :
    wpAny (model prog w) A (compareOp .In (.bytes c u) (.bytes b t)) Q E s := by
  refine In_slot (typeIs_bytes s b t) FB.slot_bytes_contains (wpAny_call_entry FB.slot_bytes_contains (typeIs_bytes _ _ _) FB.entry_bytes_contains ?_ (FB.args_bytes_contains_2 _ _))
  unfold Builtin.«bytes.__contains__»
  refine wpAny_bind (wpAny_of_eq (a := (.bytes b t, [.bytes c u])) (by kernel_rfl) ?_)
  dsimp only
  refine wpAny_bind ?_
  unfold Builtin.Bytes.containsIn
  refine wpAny_bind (wpAny_attempt (bytes_noidx hh fun h' tk e hx => ?_))
  refine wpAny_bind (wpAny_of_eq KBy.buffer_eq ?_)
  dsimp only
  refine wpAny_bind (wpAny_of_eq KBy.buffer_eq ?_)
  dsimp only
  refine wpAny_bind (wpAny_rule ?_)
  refine wpAny_pure ?_
  exact wpAny_pure ⟨_, rfl, wpAny_truthy_bool (h _ _ (F.keeps hx.keeps) (N.grown hx.keeps))⟩
end
theorem slot_bytes_find : Slot "bytes" "find" "bytes.find" :=
  .of (owner := "bytes") (n := "find") (by rw [typeLookup_type, builtinLookup_eq_fast]; kernel_rfl) (by decide +kernel) (by decide +kernel) (by decide +kernel)
    (by first | exact .inl (by decide +kernel) | exact .inr (by decide +kernel)) (by rw [isSubtype_type]; kernel_rfl)
theorem type_bytes_find : typeOf (.builtin "bytes.find") = pure (.type "method_descriptor") := by show builtinType _ = _; rw [builtinType_eq_fast]; kernel_rfl
theorem entry_bytes_find : entryFor table "bytes.find" = some Builtin.«bytes.find» := by first | exact entryFor_of_fast (by kernel_rfl) | exact entryFor_of_tree (by kernel_rfl)
theorem args_bytes_find (a b c : Value) : argsOk "bytes.find" ⟨[a, b, c], []⟩ := by unfold argsOk; kernel_rfl
section
variable {prog : Program} {w : World} {M : Model} {A : Around} {E : Value → Shared → Prop} {s : Shared}
theorem find_method {b : Array UInt8} {t : Tok} {pl : Sem Bool} {Q : Value × List Value → Shared → Prop} (h : Q (.builtin "bytes.find", [.bytes b t]) s) :
    wpAny M A (getMethod (.bytes b t) (Str.ofString "find") pl) Q E s :=
  getMethod_builtin (typeIs_bytes _ _ _) FB.plainAttrs_bytes slot_bytes_find type_bytes_find (fun _ e => nomatch e) h
theorem find_call {b c : Array UInt8} {t u v : Tok} {Q : Value → Shared → Prop} (hs : 2 + c.size ≤ b.size)
    (h : ∀ k t', Q (.int (match Builtin.Bytes.find? b c 2 b.size with | some i => (i : Int) | none => -1) t') { s with toks := k }) :
    wpAny (model prog w) A (call (.builtin "bytes.find") [.bytes b t, .bytes c u, .int 2 v]) Q E s := by
  refine wpAny_call_entry slot_bytes_find (typeIs_bytes _ _ _) entry_bytes_find ?_ (args_bytes_find _ _ _)
  unfold Builtin.«bytes.find» Builtin.Bytes.searchM
  refine wpAny_bind ?_
  unfold Builtin.Bytes.searchArgs
  refine wpAny_bind (wpAny_of_eq (a := (.bytes b t, [.bytes c u, .int 2 v])) (by kernel_rfl) ?_)
  dsimp only
  refine wpAny_bind (wpAny_of_eq (a := some 2) (by kernel_rfl) ?_)
  refine wpAny_bind (wpAny_of_eq (a := none) (by kernel_rfl) ?_)
  refine wpAny_bind (wpAny_of_eq KBy.buffer_eq ?_)
  dsimp only
  refine wpAny_bind (wpAny_pure ?_)
  refine wpAny_bind (wpAny_of_eq (a := b) (by rfl) ?_)
  refine wpAny_pure ?_
  have hw : Builtin.Bytes.window b.size (some 2) none = (2, (b.size : Int)) := by
    unfold Builtin.Bytes.window
    simp only [Option.getD_some, Option.getD_none]
    rw [if_neg (by decide), if_neg (by lia)]
    congr 1
    lia
  simp only [hw, Bool.false_eq_true, if_false]
  rw [if_neg (by lia)]
  simp only [Option.bind_some, Int.toNat_natCast]
  rw [show (2 : Int).toNat = 2 from rfl]
  cases hf : Builtin.Bytes.find? b c 2 b.size with
  | some i =>
    rw [hf] at h
    exact wpAny_bind (wpAny_mkInt (wpAny_pure ⟨_, rfl, h _ _⟩))
  | none =>
    rw [hf] at h
    exact wpAny_bind (wpAny_rule (wpAny_bind (wpAny_mkInt (wpAny_pure ⟨_, rfl, h _ _⟩))))
end
noncomputable def fz (ks : List Int) : Int := if 0 ∈ ks.drop 2 then 2 + ((ks.drop 2).idxOf 0 : Nat) else -1
theorem ext_one {b : Array UInt8} {c : UInt8} {i : Nat} (hi : i < b.size) : (b.extract i (i + 1) == #[c]) = true ↔ (KBw.bInts b)[i]? = some (c.toNat : Int) := by
  have hb : b[i]? = some b[i] := by simp [hi]
  have hk := KBw.ints_get hb
  rw [hk, beq_iff_eq]
  have he : b.extract i (i + 1) = #[b[i]] := by
    apply Array.ext
    · simp; lia
    · intro j h1 h2
      have : j = 0 := by simp at h2; lia
      subst this
      simp
  rw [he]
  constructor
  · intro h
    have : b[i] = c := by simpa using h
    rw [this]
  · intro h
    have h2 : ((b[i].toNat : Nat) : Int) = (c.toNat : Int) := by simpa using h
    have h3 : b[i] = c := UInt8.toNat_inj.mp (by lia)
    rw [h3]
theorem find_zero {b : Array UInt8} {ks : List Int} (hk : KBw.bInts b = ks) : (match Builtin.Bytes.find? b #[0] 2 b.size with | some i => (i : Int) | none => -1) = fz ks := by
  have hl : b.size = ks.length := by rw [← hk, KBw.ints_length]
  unfold Builtin.Bytes.find?
  rw [List.find?_map]
  have hs1 : (#[0] : Array UInt8).size = 1 := rfl
  rw [hs1]
  have hp : ∀ j, j < b.size + 1 - (2 + 1) → ((((fun i => b.extract i (i + 1) == #[0]) ∘ fun x => x + 2) j) = true ↔ (ks.drop 2)[j]? = some 0) := by
    intro j hj
    have := ext_one (b := b) (c := 0) (i := j + 2) (by lia)
    rw [hk] at this
    rw [List.getElem?_drop, Nat.add_comm 2 j]
    exact this
  unfold fz
  cases hf : (List.range (b.size + 1 - (2 + 1))).find? ((fun i => b.extract i (i + 1) == #[0]) ∘ fun x => x + 2) with
  | none =>
    have hn := List.find?_eq_none.mp hf
    rw [if_neg]
    · rfl
    · intro hm
      obtain ⟨j, hj⟩ := List.mem_iff_getElem?.mp hm
      have hjl : j < (ks.drop 2).length := (List.getElem?_eq_some_iff.mp hj).1
      rw [List.length_drop] at hjl
      exact hn j (List.mem_range.mpr (by lia)) ((hp j (by lia)).mpr hj)
  | some j =>
    obtain ⟨h1, h2, h3⟩ := List.find?_range_eq_some.mp hf
    have hj : j < b.size + 1 - (2 + 1) := List.mem_range.mp h2
    have e := (hp j hj).mp h1
    rw [if_pos (List.mem_of_getElem? e)]
    have hjl := (List.getElem?_eq_some_iff.mp e).1
    have hi : (ks.drop 2).idxOf 0 = j := by
      show List.findIdx (· == (0 : Int)) (ks.drop 2) = j
      refine (List.findIdx_eq hjl).mpr ⟨by simpa using (List.getElem?_eq_some_iff.mp e).2, fun i hi => ?_⟩
      have := h3 i hi
      have hq := (hp i (by lia))
      by_cases hc : ((ks.drop 2)[i]'(by lia) == (0 : Int)) = true
      · have : (ks.drop 2)[i]? = some 0 := by rw [List.getElem?_eq_getElem (by lia)]; simpa using hc
        have := hq.mpr this
        simp_all
      · simpa using hc
    rw [hi]
    show (((j + 2 : Nat)) : Int) = 2 + (j : Int)
    lia
end Mine

set_option maxHeartbeats 4000000
namespace Mine
section
 open PyProof.Rows.LCg PyProof.Rows.LCt
variable {prog : Program} {w : World} {A : Around} {E : Value → Shared → Prop} {s : Shared} {h₀ : Heap} {L : Addr} {m : Str → Option Value} {env : Env}
noncomputable def SrcBT (prog : Program) (w : World) (A : Around) (h₀ : Heap) (L : Addr) (m : Str → Option Value) (env : Env) (ct elt : Expr) (x : Str) (scope : Scope) (cl : List (Str × Addr)) (Fin : Shared → List Value → List (Addr × Obj) → Prop) (xv : Value) (s₁ : Shared) : Prop :=
  ∃ b t news, xv = .bytes b t ∧ A.handled = none ∧ Fr h₀ L s₁.heap m ∧ News h₀ L s₁.heap news ∧ b.size ≤ sizeLine ∧
    ∀ s₂ : Shared, (∃ h, s₂ = { s₁ with heap := h }) → CompRestT prog w A h₀ L m env ct elt x scope cl s₂ (fun _ => True) (ByteAt b) (Fin s₂) b.size 0 [] news
theorem ListComp_TB {ct elt iter : Expr} {x : Str} {px : Pos} {scope : Scope} {cl : List (Str × Addr)} {pos : Pos} {Q : Value → Shared → Prop} (_F₀ : Fr h₀ L s.heap m)
    (hclos : closureFor scope env = pure cl) (hcell : ∀ y ∈ scope.names, y.2 ≠ .cell) (hkind : scope.kind = .function)
    (hnames : ∀ y ∈ scope.names, y.2 = .local → scope.names.lookup y.1 = some .local) (hx : scope.names.lookup x = some .local)
    (h : wpAny (model prog w) A (eval iter env) (SrcBT prog w A h₀ L m env ct elt x scope cl (fun s₂ => FinE h₀ L m s₂ Q)) E s)
    (hs : ∀ x, foldedSetIterable iter env x = pure x) :
    wpAny (model prog w) A (eval (.ListComp elt [⟨.Name x px, iter, [ct], 0⟩] scope pos) env) Q E s := by
  rw [eval_ListComp]
  refine wpAny_comprehension_free (use := none) rfl hs hclos hkind hnames (wpAny_mono h (fun xv s₁ h₁ => ?_) fun _ _ e => e)
  obtain ⟨b, t, news, rfl, hh, F, N, hsz, R⟩ := h₁
  refine KBw.pyIter_bytes ?_
  refine block_T (KBw.walks hh s₁.heap.objs.size b t) hsz (fun i h st => by obtain ⟨o, e, _⟩ := st; exact ⟨o, e⟩)
    (fun i h h' o nw st e e' _ _ _ => by obtain ⟨o', ho, r⟩ := st; rw [e] at ho; cases ho; exact ⟨_, e', r⟩) hcell hkind hx ⟨_, Heap.get?_push_size _ rfl, rfl, rfl⟩ (fun c hc => ?_)
    (F.keeps fun _ _ e => Heap.get?_push_of_some _ e) (N.grown fun _ _ e => Heap.get?_push_of_some _ e) (Nat.ne_of_lt F.ns.lt) (next_is_new F) (fun p hp => Nat.ne_of_lt (Heap.lt_size (N p hp).1)) trivial (R _ ⟨_, rfl⟩) ?_
  · rw [List.mem_singleton.mp hc]
    show s₁.heap.objs.size < (s₁.heap.push _).objs.size
    rw [Heap.size_push]; exact Nat.lt_succ_self _
  · intro D C h tk m' ys news' F' N' o1 hn hC₀ hD₀ hCL hDL hCD offC fin
    refine ⟨m', hn, fun h'' hs'' => fin D h'' tk (F'.change hs'' hCL hC₀) (fun p hp => ?_) o1⟩
    refine ⟨hs''.extBut _ _ ?_ (N' p hp).1, (N' p hp).2⟩
    rcases List.mem_cons.mp hp with rfl | hp
    · exact Ne.symm hCD
    · exact offC p hp
theorem SrcBT.mk {ct elt : Expr} {x : Str} {scope : Scope} {cl : List (Str × Addr)} {Fin : Shared → List Value → List (Addr × Obj) → Prop} {b : Array UInt8} {t : Tok} {news : List (Addr × Obj)} {s₁ : Shared}
    (hh : A.handled = none) (F : Fr h₀ L s₁.heap m) (N : News h₀ L s₁.heap news) (hsz : b.size ≤ sizeLine)
    (h : ∀ g, CompRestT prog w A h₀ L m env ct elt x scope cl { s₁ with heap := g } (fun _ => True) (ByteAt b) (Fin { s₁ with heap := g }) b.size 0 [] news) :
    SrcBT prog w A h₀ L m env ct elt x scope cl Fin (.bytes b t) s₁ := ⟨b, t, news, rfl, hh, F, N, hsz, fun _ ⟨g, e⟩ => e ▸ h g⟩
end
theorem clip_le {n : Nat} {i : Int} (h0 : 0 ≤ i) (h : i ≤ (n : Int)) : clipAt n i = i.toNat := by
  unfold clipAt
  rw [if_neg (by lia)]
  lia
theorem enc_ints {p b : Array UInt8} {ps ms : List Int} (hp : KBw.bInts p = ps) (hb : KBw.bInts b = ms) : KBw.bInts (#[0, 2] ++ p ++ #[0] ++ b) = 0 :: ([2] ++ ps ++ [0] ++ ms) :=
  KBw.ints_app (KBw.ints_app (KBw.ints_app rfl hp) rfl) hb
theorem enc_total {p b : Array UInt8} {ps ms : List Int} (hp : KBw.bInts p = ps) (hb : KBw.bInts b = ms) : ((#[0, 2] ++ p ++ #[0] ++ b : Array UInt8).size = 3 + ps.length + ms.length) ∧ (#[0, 2] : Array UInt8).size + p.size + (#[0] : Array UInt8).size + b.size = 3 + ps.length + ms.length := by
  have e1 : p.size = ps.length := by rw [← hp, KBw.ints_length]
  have e2 : b.size = ms.length := by rw [← hb, KBw.ints_length]
  have e3 : (#[0, 2] : Array UInt8).size = 2 := rfl
  have e4 : (#[0] : Array UInt8).size = 1 := rfl
  rw [Array.size_append, Array.size_append, Array.size_append, e1, e2, e3, e4]
  constructor <;> lia
theorem ge_octets {n : Int} (h0 : 0 < n) : 256 ^ (szI n - 1).toNat ≤ n := by
  rw [p256]
  have hp : n.natAbs ≠ 0 := by lia
  have hb : 8 * (szI n - 1).toNat ≤ n.natAbs.log2 := by
    unfold szI Builtin.Int.intBits
    rw [if_neg (by simpa using (show n ≠ 0 by lia)), Int.fdiv_eq_ediv_of_nonneg _ (by decide)]
    lia
  have h1 : 2 ^ (8 * (szI n - 1).toNat) ≤ n.natAbs := Nat.le_trans (Nat.pow_le_pow_right (by decide) hb) (Nat.log2_self_le hp)
  have h2 : ((2 : Nat) ^ (8 * (szI n - 1).toNat) : Nat) = (2 : Int) ^ (8 * (szI n - 1).toNat) := by simp
  lia
theorem pay_le {n : Int} {cs : List Int} (h0 : 0 < n) (h : ∀ k ∈ (0 :: cs : List Int), 0 ≤ k ∧ k < 256) (hl : ((0 :: cs : List Int).length : Int) = szI n) : 0 ≤ KFB.value (0 :: cs) ∧ KFB.value (0 :: cs) ≤ n := by
  have e : KFB.value (0 :: cs) = cs.foldl (fun a k => a * 256 + k) 0 := rfl
  obtain ⟨v0, v1⟩ := value_lt cs 0 (fun k hk => h k (.tail _ hk)) (Int.le_refl _)
  have hg := ge_octets h0
  have hc : (szI n - 1).toNat = cs.length := by rw [List.length_cons] at hl; lia
  rw [hc] at hg
  rw [e]
  exact ⟨v0, by lia⟩
theorem fz_lt {ks : List Int} (h : 0 ≤ fz ks) : fz ks + 1 ≤ (ks.length : Int) := by
  unfold fz at h ⊢
  split at h
  · rename 0 ∈ _ => hm
    rw [if_pos hm]
    have := List.idxOf_lt_length_of_mem hm
    rw [List.length_drop] at this
    lia
  · exact absurd h (by decide)
theorem bInts_inj {b c : Array UInt8} (h : KBw.bInts b = KBw.bInts c) : b = c := by
  have key : ∀ l r : List UInt8, l.map (fun c : UInt8 => ((c.toNat : Nat) : Int)) = r.map (fun c : UInt8 => ((c.toNat : Nat) : Int)) → l = r := by
    intro l
    induction l with
    | nil => intro r e; cases r with
      | nil => rfl
      | cons _ _ => cases e
    | cons a l ih =>
      intro r e
      cases r with
      | nil => cases e
      | cons d r =>
        obtain ⟨e1, e2⟩ := List.cons.inj e
        have e1' : ((a.toNat : Nat) : Int) = ((d.toNat : Nat) : Int) := e1
        rw [UInt8.toNat_inj.mp (Int.ofNat.inj e1'), ih r e2]
  exact Array.toList_inj.mp (key _ _ h)
theorem bne_ints {b c : Array UInt8} {ks ls : List Int} (hb : KBw.bInts b = ks) (hc : KBw.bInts c = ls) : (b.toList != c.toList) = decide (ks ≠ ls) := by
  by_cases h : b = c
  · subst h
    rw [hb] at hc
    simp [hc]
  · have h1 : b.toList ≠ c.toList := fun e => h (Array.toList_inj.mp e)
    have h2 : ks ≠ ls := fun e => h (bInts_inj (by rw [hb, hc, e]))
    simp [h1, h2]
theorem mark_eq {b : Array UInt8} {ks : List Int} (hb : KBw.bInts b = ks) : ((KBy.picked b none (some 2)).toList != (#[0, 2] : Array UInt8).toList) = decide (ks.take 2 ≠ [0, 2]) := by
  refine bne_ints ?_ rfl
  have := KBc.ints_picked hb none (some 2)
  have e : List.take (clipAt ks.length 2) ks = ks.take 2 := by
    rw [List.take_eq_take_iff]
    unfold clipAt
    rw [if_neg (by decide)]
    lia
  rw [← e]
  simpa using this
theorem cut_from {b : Array UInt8} {ks : List Int} {i : Int} (hb : KBw.bInts b = ks) (h0 : 0 ≤ i) (h1 : i ≤ (ks.length : Int)) : KBw.bInts (KBy.picked b (some i) none) = ks.drop i.toNat := by
  have := KBc.ints_picked hb (some i) none
  simp only [Option.elim] at this
  rw [this, clip_le h0 h1, List.take_of_length_le (by rw [List.length_drop]; exact Nat.le_refl _)]
end Mine

set_option maxHeartbeats 4000000
namespace Mine
section
variable {prog : Program} {w : World} {A : Around} {E : Value → Shared → Prop} {s : Shared} {env : Env} {h₀ : Heap} {body : List Stmt} {Q : Flow → Shared → Prop}
theorem m_items {elts : List Expr} {kk : Nat} {pos : Pos} {d vw : Addr} {kvs : List (Str × Value)} {m₀ : Str → Option Value} {news : List (Addr × Obj)} (stored : List Str) (P : Nat → Prop)
    (hh : A.handled = none) (hvw : s.heap.IsItemsView vw d) (hdo : h₀.DictOf (PySem.strKind prog w) d kvs) (F : Fr h₀ env.locals s.heap m₀) (N : News h₀ env.locals s.heap news) (hp : P 0)
    (turn : ∀ (i : Nat) k x t T (u : Str → Option Value) h tk own, kvs[i]? = some (k, x) → (∀ q ∈ own, ∀ p ∈ news, @Ne Nat q.1 p.1) → P i → IsTup h T #[.str k t, x] →
      Fr h₀ env.locals h (kstB (fun z => if stored.contains z then u z else m₀ z) []) → News h₀ env.locals h (news ++ own) →
      wpAny (model prog w) A (assign (.Tuple elts kk pos) env (.ref T)) (fun _ s₃ => wpAny (model prog w) A (execs body env) (PostV h₀ env.locals (fun _ : Unit => news) (fun _ => []) stored m₀ (fun _ => P (i + 1)) (fun _ => False) own { s with heap := h, toks := tk } Q) E s₃) E { s with heap := h, toks := tk })
    (done : ∀ (u : Str → Option Value) h tk, P kvs.length → Fr h₀ env.locals h (kstB (fun z => if stored.contains z then u z else m₀ z) []) → News h₀ env.locals h news → Q .next { s with heap := h, toks := tk }) :
    wpAny (model prog w) A (pyIter (.ref vw)) (fun it s₂ => TurnsAt prog w A h₀ env (.Tuple elts kk pos) body Q E it s₂) E s := by
  obtain ⟨ep, hD₀⟩ := hdo.dictAt
  have hat : s.heap.DictAt (PySem.strKind prog w) d kvs ep := hD₀.at' fun o q => F.keep d o q
  have hne : d ≠ s.heap.objs.size := Nat.ne_of_lt hat.lt_size
  obtain ⟨od, hod⟩ : ∃ o, h₀.get? d = some o := by obtain ⟨o, _, e, _⟩ := hD₀; exact ⟨o, e⟩
  have hdL : env.locals ≠ d := fun e => by
    have := Heap.get?_none_of_le F.above
    rw [e, hod] at this
    cases this
  refine wpAny_pyIter_items hvw hat ?_
  have W := kti_itemsTurns (knd := PySem.strKind prog w) (elts := elts) (kk := kk) (pos := pos) hh s.heap.objs.size d hne kvs ep
  let J : Nat → (Str → Option Value) → List (Addr × Obj) → Prop := fun i m nx => ∃ c : Unit, nx = news ∧ (∀ p ∈ ([] : List (Str × Value)), m p.1 = some p.2) ∧ (∀ z, (∀ p ∈ ([] : List (Str × Value)), z ≠ p.1) → stored.contains z = false → m z = m₀ z) ∧ P i
  refine ⟨s.heap.objs.size, [s.heap.objs.size, d], [s.heap.objs.size], kvs.length, _, _, _, m₀, news, J, rfl, W, ?_, ?_, ?_, ⟨⟨_, _, Heap.get?_push_size _ rfl⟩, hat.push _⟩, F.push _, fun p hp => ⟨Heap.get?_push_of_some _ (N p hp).1, (N p hp).2⟩, ⟨(), rfl, (fun _ h => nomatch h), fun _ _ _ => rfl, hp⟩, ?_, ?_⟩
  · intro hm
    rcases List.mem_cons.mp hm with e | hm
    · exact absurd F.ns.lt (e ▸ Nat.lt_irrefl _)
    · exact hdL (List.mem_singleton.mp hm)
  · intro b hb
    rw [List.mem_singleton.mp hb]
    exact next_is_new F
  · intro p hp hI
    exact absurd (Heap.lt_size (N p hp).1) ((List.mem_singleton.mp hI) ▸ Nat.lt_irrefl _)
  · rintro i v m₁ nx h tk own hi ⟨T, key, k, x, rfl, hkx, hkey, hT⟩ ⟨c, rfl, h1, h2, hp'⟩ hwr hfp hat' hown hst F₁ N₁
    obtain ⟨t, rfl⟩ := str_of_is hkey
    let own' := own.filter fun p => !decide (p.1 = d)
    have in' : ∀ q ∈ own', q ∈ own ∧ q.1 = s.heap.objs.size := fun q hq => by
      obtain ⟨h3, h4⟩ := List.mem_filter.mp hq
      refine ⟨h3, ?_⟩
      rcases List.mem_cons.mp (hfp q h3) with e | e
      · exact e
      · exact absurd (List.mem_singleton.mp e) (by simpa using h4)
    have sep : ∀ q ∈ own', ∀ p ∈ nx, @Ne Nat q.1 p.1 := fun q hq p hp z => hwr p hp (List.mem_singleton.mpr (z ▸ (in' q hq).2))
    have N₂ : News h₀ env.locals h (nx ++ own') := fun p hp => N₁ p ((List.mem_append.mp hp).elim (fun h => List.mem_append.mpr (.inr h)) fun h => List.mem_append.mpr (.inl (in' p h).1))
    have noD : ∀ p ∈ own, p.1 ≠ d := fun p hp e => by
      have := (N₁ p (List.mem_append_left _ hp)).2.2
      rw [e, hod] at this
      cases this
    obtain ⟨oI, hoI⟩ : ∃ o, (s.heap.objs.size, o) ∈ own' := by
      obtain ⟨⟨ok, ov, he⟩, -⟩ := hst
      refine ⟨_, List.mem_filter.mpr ⟨hown _ (.head _) (next_is_new F) _ he, ?_⟩⟩
      simpa using Ne.symm hne
    refine wpAny_mono (turn i k x t T m₁ h tk own' hkx sep hp' hT (ksw_fr h1 h2 F₁) N₂) (fun _ s₃ p => wpAny_mono p (fun f s₂ p => ?_) fun _ _ e => e) fun _ _ e => e
    have fin : EndV h₀ env.locals (fun _ : Unit => nx) (fun _ => []) stored m₀ (fun _ => P (i + 1)) own' { s with heap := h, toks := tk } s₂ → LoopStepU h₀ env.locals [s.heap.objs.size] own (J (i + 1)) { s with heap := h, toks := tk } .next s₂ := by
      intro p
      refine p.out fun c' h' tk' m' news' e F' N' hn' ho' hs' k1 k2 kp => ?_
      subst e
      refine ⟨rfl, h', tk', m', nx, rfl, F', fun p hp => ?_, fun p hp hI => ?_, (), rfl, k1, k2, kp⟩
      · rcases List.mem_append.mp hp with hp | hp
        · exact N' p (ho' p (List.mem_filter.mpr ⟨hp, by simpa using noD p hp⟩))
        · exact N' p (hn' p hp)
      · exact hs' _ hoI p hp (List.mem_singleton.mp hI).symm
    cases f with
    | ret v => exact .ret p
    | brk =>
      exact EndV.out p fun _ _ _ _ _ _ _ _ _ _ _ _ _ kp => absurd kp id
    | next => exact .next (fin p)
    | cont => exact .cont (fin p)
  · rintro h' tk m' news' F' N' _ ⟨c, rfl, h1, h2, hp'⟩
    exact done m' h' tk hp' (ksw_fr h1 h2 F') N'
theorem tab_method {d : Addr} {kvs : List (Str × Value)} {pl : Sem Bool} {Q : Value × List Value → Shared → Prop} (hT : s.heap.DictOf (PySem.strKind prog w) d kvs) (h : Q (.builtin "dict.items", [.ref d]) s) :
    wpAny (model prog w) A (getMethod (.ref d) (Str.ofString "items") pl) Q E s :=
  getMethod_builtin hT.typeIs PySem.F.plainAttrs_dict PySem.F.slot_dict_items PySem.F.type_dict_items hT.mapOf.noDict h
theorem tab_items {L d : Addr} {m : Str → Option Value} {news : List (Addr × Obj)} {kvs : List (Str × Value)} {Q : Value → Shared → Prop} (hd : (d == sysModules) = false) (hT : s.heap.DictOf (PySem.strKind prog w) d kvs) (F : Fr h₀ L s.heap m) (N : News h₀ L s.heap news)
    (h : ∀ V h', h'.IsItemsView V d → Fr h₀ L h' m → News h₀ L h' news → Q (.ref V) { s with heap := h' }) : wpAny (model prog w) A (call (.builtin "dict.items") [.ref d]) Q E s :=
  call_meetsIn PySem.F.slot_dict_items hT.typeIs PySem.F.entry_dict_items (PySem.F.args_dict_items_1 _) (meets_dict_items (PySem.strKind prog w) d hd)
    ⟨⟨kvs, hT⟩, h _ _ ⟨_, Heap.get?_push_size _ rfl, rfl, rfl⟩ (F.push _) (N.grown fun _ _ e => Heap.get?_push_of_some _ e)⟩
end
end Mine

set_option maxHeartbeats 4000000
namespace Mine
noncomputable def hasB (ks cs : List Int) : Bool := (List.range (ks.length + 1 - cs.length)).any fun i => (ks.drop i).take cs.length == cs
theorem ext_ints {b c : Array UInt8} {ks cs : List Int} (hb : KBw.bInts b = ks) (hc : KBw.bInts c = cs) (i : Nat) : (b.extract i (i + c.size) == c) = ((ks.drop i).take cs.length == cs) := by
  have h1 : KBw.bInts (b.extract i (i + c.size)) = (ks.drop i).take cs.length := by
    show ((b.extract i (i + c.size)).toList).map (fun c : UInt8 => ((c.toNat : Nat) : Int)) = _
    rw [Array.toList_extract, ← hb, ← hc, KBw.ints_length]
    show ((b.toList.drop i).take (i + c.size - i)).map _ = ((b.toList.map _).drop i).take c.size
    rw [Nat.add_sub_cancel_left, List.map_take, List.map_drop]
  by_cases h : b.extract i (i + c.size) = c
  · rw [h] at h1 ⊢
    rw [hc] at h1
    rw [← h1]
    simp
  · have h2 : ¬ (ks.drop i).take cs.length = cs := fun e => h (bInts_inj (by rw [h1, hc, e]))
    rw [show (b.extract i (i + c.size) == c) = false from Bool.eq_false_iff.mpr (by simpa using h), show ((ks.drop i).take cs.length == cs) = false from Bool.eq_false_iff.mpr (by simpa using h2)]
theorem has_find {b c : Array UInt8} {ks cs : List Int} (hb : KBw.bInts b = ks) (hc : KBw.bInts c = cs) : (Builtin.Bytes.find? b c 0 b.size).isSome = hasB ks cs := by
  unfold Builtin.Bytes.find? hasB
  rw [List.isSome_find?, List.any_map]
  have e1 : b.size = ks.length := by rw [← hb, KBw.ints_length]
  have e2 : c.size = cs.length := by rw [← hc, KBw.ints_length]
  rw [e1, e2, Nat.zero_add]
  refine congrArg (fun f => (List.range (ks.length + 1 - cs.length)).any f) (funext fun i => ?_)
  have := ext_ints hb hc i
  rw [e2] at this
  simpa using this
noncomputable def hit (ks : List Int) : Option Nat := (List.range 9).find? fun i => hasB ks (hC.getD i [])
theorem hit_some {ks : List Int} {i : Nat} (hi : i < 9) (h : hasB ks (hC.getD i []) = true) (hn : ∀ j, j < i → hasB ks (hC.getD j []) = false) : hit ks = some i := by
  unfold hit
  rw [List.find?_range_eq_some]
  exact ⟨h, List.mem_range.mpr hi, fun j hj => by rw [hn j hj]; rfl⟩
theorem hit_none {ks : List Int} (hn : ∀ j, j < 9 → hasB ks (hC.getD j []) = false) : hit ks = none := by
  unfold hit
  rw [List.find?_eq_none]
  intro j hj
  rw [hn j (List.mem_range.mp hj)]
  decide
theorem TabOk.row {kvs : List (Str × Value)} (h : TabOk kvs) {i : Nat} {x : Str} {v : Value} (hp : kvs[i]? = some (x, v)) : i < 9 ∧ x = hN.getD i (Str.ofString "") ∧ ∃ c t, v = .bytes c t ∧ KBw.bInts c = hC.getD i [] := by
  obtain ⟨h1, h2, h3⟩ := h
  have hl : kvs.length = 9 := by have := congrArg List.length h1; rwa [List.length_map] at this
  have hi : i < kvs.length := (List.getElem?_eq_some_iff.mp hp).1
  have e1 : hN.getD i (Str.ofString "") = x := by rw [← h1, List.getD_eq_getElem?_getD, List.getElem?_map, hp]; rfl
  have e2 : hC.getD i [] = octs v := by rw [← h2, List.getD_eq_getElem?_getD, List.getElem?_map, hp]; rfl
  have e3 := List.all_eq_true.mp h3 _ (List.mem_of_getElem? hp)
  refine ⟨by lia, e1.symm, ?_⟩
  cases v with
  | bytes b t => exact ⟨b, t, rfl, e2.symm⟩
  | _ => cases e3
theorem TabOk.len {kvs : List (Str × Value)} (h : TabOk kvs) : kvs.length = 9 := by have := congrArg List.length h.1; rwa [List.length_map] at this
noncomputable def Jd (told sig clear : List Int) : Str := match hit clear with
  | none => Str.ofString "refused"
  | some i => if (clear.length : Int) - 11 < ((hC.getD i []).length : Int) + told.length then Str.ofString "long" else if sig.length ≠ clear.length ∨ clear ≠ [0, 1] ++ List.replicate ((clear.length : Int) - ((hC.getD i [] ++ told).length : Int) - 3).toNat 255 ++ [0] ++ (hC.getD i [] ++ told) then Str.ofString "refused" else hN.getD i (Str.ofString "")
noncomputable def hasP (ks cs : List Int) (i : Nat) : Bool := (ks.drop i).take cs.length == cs
noncomputable def hasL (ks cs : List Int) : Bool := (List.range ks.length).any (hasP ks cs)
theorem any_succ {p : Nat → Bool} {i : Nat} : (List.range (i + 1)).any p = ((List.range i).any p || p i) := by
  rw [List.range_succ, List.any_append]
  simp
theorem has_eq {ks cs : List Int} (h : 0 < cs.length) : hasL ks cs = hasB ks cs := by
  have key : ∀ i, hasP ks cs i = true → i < ks.length + 1 - cs.length := by
    intro i hp
    have e : (ks.drop i).take cs.length = cs := by simpa [hasP] using hp
    have := congrArg List.length e
    rw [List.length_take, List.length_drop] at this
    lia
  unfold hasL hasB
  rw [Bool.eq_iff_iff, List.any_eq_true, List.any_eq_true]
  constructor
  · rintro ⟨i, hi, hp⟩
    exact ⟨i, List.mem_range.mpr (key i hp), hp⟩
  · rintro ⟨i, hi, hp⟩
    have := List.mem_range.mp hi
    exact ⟨i, List.mem_range.mpr (by lia), hp⟩
inductive PBo (b : Bool) (l0 : List (Addr × Obj)) : Value → List (Addr × Obj) → Prop
  | mk : PBo b l0 (.bool b) l0
theorem PBo.of {b c : Bool} {l0 : List (Addr × Obj)} (h : c = b) : PBo b l0 (.bool c) l0 := h ▸ .mk
theorem run_eq {ks : List Int} {i c : Nat} : (ks.drop ((0 : Int) + (i : Int)).toNat).take (min ((0 : Int) + (i : Int) + (c : Int)).toNat ks.length - ((0 : Int) + (i : Int)).toNat) = (ks.drop i).take c := by
  have e1 : ((0 : Int) + (i : Int)).toNat = i := by lia
  have e2 : ((0 : Int) + (i : Int) + (c : Int)).toNat = i + c := by lia
  rw [e1, e2, List.take_eq_take_iff, List.length_drop, Nat.sub_min_sub_right, Nat.min_assoc, Nat.min_self, ← Nat.sub_min_sub_right, Nat.add_sub_cancel_left]
noncomputable def firstN (ks : List Int) (i : Nat) : Option Nat := (List.range i).find? fun j => hasB ks (hC.getD j [])
theorem firstN_succ {ks : List Int} {i : Nat} : firstN ks (i + 1) = (firstN ks i).or (if hasB ks (hC.getD i []) = true then some i else none) := by
  unfold firstN
  rw [List.range_succ, List.find?_append]
  congr 1
  rw [List.find?_cons]
  split <;> simp_all
structure NamesJ (ks : List Int) (i : Nat) (ys : List Value) : Prop where
  len : ys.length ≤ i
  no : firstN ks i = none → ys = []
  yes : ∀ j, firstN ks i = some j → ∃ t r, ys = .str (hN.getD j (Str.ofString "")) t :: r
theorem NamesJ.start (ks : List Int) : NamesJ ks 0 [] := ⟨Nat.le_refl _, fun _ => rfl, fun j h => by cases h⟩
theorem NamesJ.skip {ks : List Int} {i : Nat} {ys : List Value} (h : NamesJ ks i ys) (hn : hasB ks (hC.getD i []) = false) : NamesJ ks (i + 1) ys := by
  have e : firstN ks (i + 1) = firstN ks i := by rw [firstN_succ, hn]; cases firstN ks i <;> rfl
  exact ⟨Nat.le_succ_of_le h.len, fun q => h.no (e ▸ q), fun j q => h.yes j (e ▸ q)⟩
theorem NamesJ.take {ks : List Int} {i : Nat} {ys : List Value} {t : Tok} (h : NamesJ ks i ys) (hn : hasB ks (hC.getD i []) = true) : NamesJ ks (i + 1) (ys ++ [.str (hN.getD i (Str.ofString "")) t]) := by
  have hl := h.len
  refine ⟨by rw [List.length_append, List.length_singleton]; lia, fun q => ?_, fun j q => ?_⟩
  · rw [firstN_succ, hn] at q
    cases hf : firstN ks i <;> rw [hf] at q <;> cases q
  · rw [firstN_succ, hn] at q
    cases hf : firstN ks i with
    | none =>
      rw [hf] at q
      obtain rfl : i = j := by simpa using q
      rw [h.no hf]
      exact ⟨_, _, rfl⟩
    | some k =>
      rw [hf] at q
      obtain rfl : k = j := by simpa using q
      obtain ⟨t', r, e⟩ := h.yes k hf
      exact ⟨t', r ++ _, by rw [e]; rfl⟩
inductive PFd (r : Option Nat) (l0 : List (Addr × Obj)) : Value → List (Addr × Obj) → Prop
  | no (h : r = none) : PFd r l0 .none l0
  | yes (i : Nat) (tk : Tok) (h : r = some i) : PFd r l0 (.str (hN.getD i (Str.ofString "")) tk) l0
theorem hD_at : ∀ {i : Nat}, i < 9 → hD[i]? = some (hRow (hN.getD i (Str.ofString ""), hC.getD i []))
  | 0, _ => rfl
  | 1, _ => rfl
  | 2, _ => rfl
  | 3, _ => rfl
  | 4, _ => rfl
  | 5, _ => rfl
  | 6, _ => rfl
  | 7, _ => rfl
  | 8, _ => rfl
  | n + 9, h => absurd h (by omega)
theorem flat_one {n : Nat} : (List.replicate n [(255 : Int)]).flatten = List.replicate n 255 := by
  induction n with
  | zero => rfl
  | succ k ih => rw [List.replicate_succ, List.flatten_cons, ih]; rfl
theorem hN_inj {i j : Nat} (hi : i < 9) (hj : j < 9) (h : hN.getD i (Str.ofString "") = hN.getD j (Str.ofString "")) : i = j := by
  have : ∀ i j : Fin 9, hN.getD i.val (Str.ofString "") = hN.getD j.val (Str.ofString "") → i.val = j.val := by decide
  exact this ⟨i, hi⟩ ⟨j, hj⟩ h
structure CodeJ (own : List (Addr × Obj)) (i k : Nat) (ys : List Value) : Prop where
  lo : k ≤ i → ys = []
  hi : i < k → ∃ b ws kk, ys = [.ref b] ∧ (b, listOf (List.toArray ws) kk) ∈ own ∧ IntsAre ws (hC.getD i [])
theorem CodeJ.start (own : List (Addr × Obj)) (i : Nat) : CodeJ own i 0 [] := ⟨fun _ => rfl, fun h => absurd h (Nat.not_lt_zero _)⟩
theorem CodeJ.skip {own : List (Addr × Obj)} {i k : Nat} {ys : List Value} (h : CodeJ own i k ys) (hn : k ≠ i) : CodeJ own i (k + 1) ys := ⟨fun q => h.lo (by lia), fun q => h.hi (by lia)⟩
theorem CodeJ.take {own : List (Addr × Obj)} {i k : Nat} {ys : List Value} {b : Nat} {ws : List Value} {kk : Nat} (h : CodeJ own i k ys) (hn : k = i) (hm : (b, listOf ws.toArray kk) ∈ own) (hI : IntsAre ws (hC.getD k [])) : CodeJ own i (k + 1) (ys ++ [.ref b]) := by
  subst hn
  rw [h.lo (Nat.le_refl _)]
  exact ⟨fun q => absurd q (by lia), fun _ => ⟨b, ws, kk, rfl, hm, hI⟩⟩
end Mine

set_option maxHeartbeats 4000000
namespace Mine
section
 open PyProof.Rows.LCg PyProof.Rows.LCt
variable {prog : Program} {w : World} {A : Around} {E : Value → Shared → Prop} {s : Shared} {h₀ : Heap} {L : Addr} {m : Str → Option Value} {env : Env}
noncomputable def SrcPT (prog : Program) (w : World) (A : Around) (h₀ : Heap) (L : Addr) (m : Str → Option Value) (env : Env) (ct elt : Expr) (x x₂ : Str) (scope : Scope) (cl : List (Str × Addr)) (Fin : Shared → List Value → List (Addr × Obj) → Prop) (xv : Value) (s₁ : Shared) : Prop :=
  ∃ (ax : Addr) (its : List Value) (k : Nat) (news : List (Addr × Obj)) (J : Nat → List Value → Prop), xv = .ref ax ∧ A.handled = none ∧ Fr h₀ L s₁.heap m ∧ News h₀ L s₁.heap news ∧ (ax, listOf its.toArray k) ∈ news ∧ its.length ≤ sizeLine ∧ J 0 [] ∧
    ∀ g : Heap, (∀ i v ys, its[i]? = some v → J i ys → ∃ t v₁ v₂ nt, v = .ref t ∧ (t, ({ cls := .type "tuple", data := .seq #[v₁, v₂] nt } : Obj)) ∈ news ∧ ∀ (R' : List Value → Prop), (∀ ys', J (i + 1) ys' → R' ys') →
        ∀ I oI C oC D m₂ h tk (E' : Value → Shared → Prop), NsObj oC m₂ → m₂ x = some v₁ → m₂ x₂ = some v₂ → Fr h₀ L h m → News h₀ L h ((I, oI) :: (C, oC) :: (D, lst ys) :: news) → Off3 I C D news → ((@Ne Nat I C) ∧ (@Ne Nat I D) ∧ (@Ne Nat C D)) →
        wpAny (model prog w) A (isTrue ct (compEnvC scope cl C env) (eval ct (compEnvC scope cl C env))) (fun ok s' => if ok = true then
          wpAny (model prog w) A (eval elt (compEnvC scope cl C env)) (CompEnd h₀ L m { s₁ with heap := h, toks := tk } I oI C oC D (lst ys) (fun _ => True) (fun y news' => news' = news ∧ R' (ys ++ [y]))) E' s'
          else CompEnd h₀ L m { s₁ with heap := h, toks := tk } I oI C oC D (lst ys) (fun _ => True) (fun _ news' => news' = news ∧ R' ys) Value.none s') E' { s₁ with heap := h, toks := tk }) ∧
      ∀ ys, J its.length ys → Fin { s₁ with heap := g } ys news
inductive PTI (h₀ : Heap) (L : Addr) (m : Str → Option Value) (I ax C D : Addr) (n : Nat) (news : List (Addr × Obj)) (J : Nat → List Value → Prop) (s : Shared) : Nat → Shared → Prop
  | mk (h' : Heap) (tk : Tok) (i : Nat) (ys : List Value) (m' : Str → Option Value) (hi : i ≤ n) (hyl : ys.length ≤ i) (hst : h'.IsListIter I ax i) (F : Fr h₀ L h' m) (hn : h'.Ns C m') (N : News h₀ L h' ((D, lst ys) :: news)) (hJ : J i ys) : PTI h₀ L m I ax C D n news J s (n + 1 - i) { s with heap := h', toks := tk }
theorem compEnd_out {h₀ : Heap} {L I C D : Addr} {m : Str → Option Value} {s₁ s₂ : Shared} {oI oC oD : Obj} {S : List (Addr × Obj) → Prop} {rest : Value → List (Addr × Obj) → Prop} {y : Value} {G : Prop} (h : CompEnd h₀ L m s₁ I oI C oC D oD S rest y s₂)
    (k : ∀ h' tk news', s₂ = { s₁ with heap := h', toks := tk } → Fr h₀ L h' m → News h₀ L h' ((I, oI) :: (C, oC) :: (D, oD) :: news') → rest y news' → G) : G := by
  obtain ⟨h', tk, news', e, F, N, -, -, r⟩ := h
  exact k h' tk news' e F N r
theorem block_PT {ct elt iter : Expr} {x x₂ : Str} {px px₂ tp : Pos} {tk0 : Nat} {scope : Scope} {cl : List (Str × Addr)} {pos : Pos} {s₂ : Shared} {I ax : Addr} {its : List Value} {kz : Nat} {news : List (Addr × Obj)}
    {RR : Value → Addr → Result → Shared → Prop} (J : Nat → List Value → Prop) (hh : A.handled = none) (hax : (ax, listOf its.toArray kz) ∈ news) (hne : ax ≠ I) (hsz : its.length ≤ sizeLine)
    (hcell : ∀ y ∈ scope.names, y.2 ≠ .cell) (hkind : scope.kind = .function) (hx : scope.names.lookup x = some .local) (hx₂ : scope.names.lookup x₂ = some .local) (hxx : x ≠ x₂)
    (hIt : s₂.heap.IsListIter I ax 0) (F : Fr h₀ L s₂.heap m) (N : News h₀ L s₂.heap news) (hIL : L ≠ I) (hI₀ : h₀.get? I = none) (off : ∀ p ∈ news, p.1 ≠ I) (hJ0 : J 0 [])
    (turn : ∀ i v ys, its[i]? = some v → J i ys → ∃ t v₁ v₂ nt, v = .ref t ∧ (t, ({ cls := .type "tuple", data := .seq #[v₁, v₂] nt } : Obj)) ∈ news ∧ ∀ (R' : List Value → Prop), (∀ ys', J (i + 1) ys' → R' ys') →
        ∀ I oI C oC D m₂ h tk (E' : Value → Shared → Prop), NsObj oC m₂ → m₂ x = some v₁ → m₂ x₂ = some v₂ → Fr h₀ L h m → News h₀ L h ((I, oI) :: (C, oC) :: (D, lst ys) :: news) → Off3 I C D news → ((@Ne Nat I C) ∧ (@Ne Nat I D) ∧ (@Ne Nat C D)) →
        wpAny (model prog w) A (isTrue ct (compEnvC scope cl C env) (eval ct (compEnvC scope cl C env))) (fun ok s' => if ok = true then
          wpAny (model prog w) A (eval elt (compEnvC scope cl C env)) (CompEnd h₀ L m { s₂ with heap := h, toks := tk } I oI C oC D (lst ys) (fun _ => True) (fun y news' => news' = news ∧ R' (ys ++ [y]))) E' s'
          else CompEnd h₀ L m { s₂ with heap := h, toks := tk } I oI C oC D (lst ys) (fun _ => True) (fun _ news' => news' = news ∧ R' ys) Value.none s') E' { s₂ with heap := h, toks := tk })
    (hRR : ∀ D C h tk m' ys, Fr h₀ L h m → News h₀ L h ((D, lst ys) :: news) → Off1 D news → h.Ns C m' → h₀.get? C = none → h₀.get? D = none → C ≠ L → D ≠ L → C ≠ D → (∀ p ∈ news, p.1 ≠ C) → J its.length ys → RR (.ref D) C (.ok .next) { s₂ with heap := h, toks := tk }) :
    wpAny (model prog w) A (newList []) (fun acc s₃ => wpAny (model prog w) A (newFunctionEnv scope env.globals cl [] env.qual none .none (some env)) (fun cenv s₄ =>
      codeAny (model prog w) A (.compStart (.ListComp elt [⟨.Tuple [.Name x px, .Name x₂ px₂] tk0 tp, iter, [ct], 0⟩] scope pos) 0 (.ref I) acc { cenv with scope := relabel scope env }) (RR acc cenv.locals) s₄) E s₃) E s₂ := by
  have W := Walks.list (prog := prog) (w := w) (A := A) hh I ax hne its.toArray
  have hIlt : I < s₂.heap.objs.size := by obtain ⟨o, e, _⟩ := hIt; exact Heap.lt_size e
  have haxlt : ax < s₂.heap.objs.size := Heap.lt_size (N _ hax).1
  refine wpAny_newObj_type (wpAny_newFunctionEnv hcell (by intro y hy; simp at hy) (fun h₁ hns₁ hsb₁ => ?_) hkind)
  dsimp only at hns₁ hsb₁ ⊢
  generalize hH2 : s₂.heap.push { cls := .type "list", dict := none, data := .seq ([] : List Value).toArray } = H2 at hns₁ hsb₁ ⊢
  have hC : H2.objs.size = s₂.heap.objs.size + 1 := by rw [← hH2, Heap.size_push]
  have below : ∀ b, b < s₂.heap.objs.size → b ≠ H2.objs.size ∧ b ≠ s₂.heap.objs.size := fun b hb => ⟨by lia, by lia⟩
  have old : ∀ b o, s₂.heap.get? b = some o → h₁.get? b = some o := fun b o e => hsb₁.extBut b o (below b (Heap.lt_size e)).1 (Heap.get?_push_of_some _ (hH2 ▸ Heap.get?_push_of_some _ e))
  have hDC : s₂.heap.objs.size ≠ H2.objs.size := by lia
  have hacc : h₁.get? s₂.heap.objs.size = some (lst []) := hsb₁.extBut _ _ hDC (Heap.get?_push_of_some _ (hH2 ▸ Heap.get?_push_size _ rfl))
  have fr0 : ∀ a, s₂.heap.objs.size ≤ a → h₀.get? a = none := fun a ha => by
    cases e : h₀.get? a with
    | none => rfl
    | some o' => exact absurd (Heap.lt_size (F.keep a o' e)) (Nat.not_lt.mpr ha)
  have hD₀ := fr0 _ (Nat.le_refl _)
  have hC₀ := fr0 H2.objs.size (by lia)
  have hLlt : L < s₂.heap.objs.size := F.ns.lt
  have hnlt : ∀ p ∈ news, p.1 < s₂.heap.objs.size := fun p hp => Heap.lt_size (N p hp).1
  generalize hDn : s₂.heap.objs.size = D at *
  generalize hCn : H2.objs.size = C at *
  have hDL : D ≠ L := by lia
  have hCL : C ≠ L := by lia
  have hCI : I ≠ C := by lia
  have hDI : I ≠ D := by lia
  have off3 : ∀ p ∈ news, p.1 ≠ I ∧ p.1 ≠ C ∧ p.1 ≠ D := fun p hp => by have := hnlt p hp; exact ⟨off p hp, by lia, by lia⟩
  have offn : Off3 I C D news := Off3.of off3
  have memI : ∀ b, b ∈ [I, ax] → b ≠ C ∧ b ≠ D := fun b hb => by
    rcases List.mem_cons.mp hb with e | hb
    · exact ⟨by lia, by lia⟩
    · have := List.mem_singleton.mp hb; exact ⟨by lia, by lia⟩
  have isL : ∀ h, News h₀ L h news → h.IsList ax its.toArray := fun h n => ⟨_, (n _ hax).1, rfl, kz, rfl⟩
  have loop : ∀ s₃ : Shared, s₃ = { s₂ with heap := h₁, toks := s₂.toks + ([] : List (Str × Value)).length } →
      codeAny (model prog w) A (.compLoop (.ListComp elt [⟨.Tuple [.Name x px, .Name x₂ px₂] tk0 tp, iter, [ct], 0⟩] scope pos) 0 (.ref I) (.ref D) (compEnvC scope cl C env)) (RR (.ref D) C) s₃ := by
    rintro s₃ rfl
    refine kct_loop (PTI h₀ L m I ax C D its.length news J s₂) ?_ (its.length + 1)
      (PTI.mk h₁ _ 0 [] _ (Nat.zero_le _) (Nat.le_refl _) ?_ (F.keeps old) hns₁ (fun p hp => ?_) hJ0)
    · rintro k s' ⟨h', tk, i, ys, m', hi, hyl, hst', F', hn', N', hJ⟩
      have hL' : h'.IsList ax its.toArray := isL h' fun p hp => N' p (.tail _ hp)
      by_cases hlt : i < its.length
      · refine W.item i _ _ _ (by simpa using hlt) ⟨hst', hL'⟩ fun v h₂ tk₂ hPv hst₂ hk₂ => ?_
        obtain ⟨t, v₁, v₂, nt, rfl, hmt, R''⟩ := turn i v ys (by simpa using hPv) hJ
        have N₂ : News h₀ L h₂ ((D, lst ys) :: news) := news_but N' hk₂ fun p hp => by
          rcases List.mem_cons.mp hp with rfl | hp
          · exact Ne.symm hDI
          · exact (off3 p hp).1
        refine wpAny_letOwnedTupleGo_listiter hst₂.1 ?_
        refine assign_Tuple_tuple hh ⟨_, (N₂ _ (.tail _ hmt)).1, rfl, nt, rfl⟩ rfl rfl fun h₅ he => ?_
        have he' : ∀ b o, h₂.get? b = some o → h₅.get? b = some o := fun b o e => he b o (Nat.ne_of_lt (Heap.lt_size e)) e
        refine assignInOrder_cons (wpAny_assign_Name (wpAny_storeName_local (lookup_relabel_local hx) ((hn'.at' fun o e => hk₂ _ o (by simpa using Ne.symm hCI) e).at' fun o e => he' _ o e) (fun h₆ hn₆ hs₆ => ?_) (by simp [compEnvC, relabel, hkind])))
        refine assignInOrder_cons (wpAny_assign_Name (wpAny_storeName_local (lookup_relabel_local hx₂) hn₆ (fun h₃ hn₃ hs₃ => ?_) (by simp [compEnvC, relabel, hkind])))
        refine assignInOrder_nil ?_
        have old3 : ∀ b o, b ≠ C → h₂.get? b = some o → h₃.get? b = some o := fun b o hb e => hs₃.extBut b o hb (hs₆.extBut b o hb (he' b o e))
        obtain ⟨oI, heI, rI⟩ : ∃ o, h₃.get? I = some o ∧ o.cls = .type "list_iterator" ∧ o.data = .fields #[.ref ax, .int ((i + 1 : Nat) : Int) 0] := by
          obtain ⟨o, e, r⟩ := hst₂.1
          exact ⟨o, old3 _ _ hCI e, r⟩
        obtain ⟨oC, heC, hoC⟩ := ns_obj hn₃
        have F₃ : Fr h₀ L h₃ m := (((fr_but F' hk₂ hIL hI₀).keeps he').change hs₆ hCL hC₀).change hs₃ hCL hC₀
        have N₃ : News h₀ L h₃ ((I, oI) :: (C, oC) :: (D, lst ys) :: news) := fun p hp => by
          rcases List.mem_cons.mp hp with rfl | hp
          · exact ⟨heI, Ne.symm hIL, hI₀⟩
          · rcases List.mem_cons.mp hp with rfl | hp
            · exact ⟨heC, hCL, hC₀⟩
            · have z := N₂ p hp
              refine ⟨old3 _ _ ?_ z.1, z.2⟩
              rcases List.mem_cons.mp hp with rfl | hp
              · exact hDC
              · exact (off3 p hp).2.1
        refine wpAny_mono (R'' (J (i + 1)) (fun _ h => h) I oI C oC D _ h₃ _ _ hoC (by simp [hxx]) (by simp) F₃ N₃ offn ⟨hCI, hDI, Ne.symm hDC⟩) (fun ok s₄ h₄ => ?_) fun _ _ e => e
        cases ok with
        | true =>
          simp only [if_true] at h₄ ⊢
          refine wpAny_mono h₄ (fun y s₅ h₅ => ?_) fun _ _ e => e
          refine compEnd_out h₅ fun h₄ tk₄ news₄ e F₄ N₄ hJ₄ => ?_
          subst e
          obtain ⟨rfl, hJ₄⟩ := hJ₄
          have zI := (N₄ _ (.head _)).1
          have zC := (N₄ _ (.tail _ (.head _))).1
          have zD := (N₄ _ (.tail _ (.tail _ (.head _)))).1
          refine append_at (hsz := by show ys.toArray.size ≤ sizeLine; rw [List.size_toArray]; exact Nat.le_trans (Nat.le_trans hyl hi) hsz) zD fun h₅ hs₅ hD₅ => ?_
          refine ⟨its.length + 1 - (i + 1), by lia, .mk h₅ tk₄ (i + 1) (ys ++ [y]) _ hlt (by rw [List.length_append, List.length_singleton]; exact Nat.succ_le_succ hyl) ⟨oI, hs₅.extBut _ _ hDI zI, rI⟩ (F₄.change hs₅ hDL hD₀) ((hoC.ns zC).sameBut hs₅ (Ne.symm hDC)) (fun p hp => ?_) hJ₄⟩
          rcases List.mem_cons.mp hp with rfl | hp
          · exact ⟨hD₅.trans (congrArg some (lst_snoc ys y)), hDL, hD₀⟩
          · have z := N₄ p (.tail _ (.tail _ (.tail _ hp)))
            exact ⟨hs₅.extBut _ _ (off3 p hp).2.2 z.1, z.2⟩
        | false =>
          simp only [Bool.false_eq_true, if_false] at h₄ ⊢
          refine compEnd_out h₄ fun h₅ tk₄ news₄ e F₄ N₄ hJ₄ => ?_
          subst e
          obtain ⟨rfl, hJ₄⟩ := hJ₄
          have zI := (N₄ _ (.head _)).1
          have zC := (N₄ _ (.tail _ (.head _))).1
          exact ⟨its.length + 1 - (i + 1), by lia, .mk h₅ tk₄ (i + 1) ys _ hlt (Nat.le_succ_of_le hyl) ⟨oI, zI, rI⟩ F₄ (hoC.ns zC) (fun p hp => N₄ p (.tail _ (.tail _ hp))) hJ₄⟩
      · obtain rfl : i = its.length := Nat.le_antisymm hi (Nat.not_lt.mp hlt)
        refine W.done _ _ _ ⟨hst', hL'⟩ fun h₂ tk₂ hk₂ => ?_
        exact hRR _ _ h₂ tk₂ _ ys (fr_but F' hk₂ hIL hI₀) (news_but N' hk₂ fun p hp => by
          rcases List.mem_cons.mp hp with rfl | hp
          · exact Ne.symm hDI
          · exact (off3 p hp).1) offn.one (hn'.at' fun o e => hk₂ _ o (by simpa using Ne.symm hCI) e) hC₀ hD₀ hCL hDL (Ne.symm hDC) (fun p hp => (off3 p hp).2.1) hJ
    · obtain ⟨o, e, r⟩ := hIt
      exact ⟨o, old _ _ e, r⟩
    · rcases List.mem_cons.mp hp with rfl | hp
      · exact ⟨hacc, hDL, hD₀⟩
      · exact ⟨old _ _ (N p hp).1, (N p hp).2⟩
  exact codeAny_compStart_list (loop _ rfl) (W.self 0 _ _ _ ⟨by obtain ⟨o, e, r⟩ := hIt; exact ⟨o, old _ _ e, r⟩, isL h₁ fun p hp => ⟨old _ _ (N p hp).1, (N p hp).2⟩⟩ (loop _ rfl))
theorem ListComp_PT {ct elt iter : Expr} {x x₂ : Str} {px px₂ tp : Pos} {tk0 : Nat} {scope : Scope} {cl : List (Str × Addr)} {pos : Pos} {Q : Value → Shared → Prop} (_F₀ : Fr h₀ L s.heap m)
    (hclos : closureFor scope env = pure cl) (hcell : ∀ y ∈ scope.names, y.2 ≠ .cell) (hkind : scope.kind = .function)
    (hnames : ∀ y ∈ scope.names, y.2 = .local → scope.names.lookup y.1 = some .local) (hx : scope.names.lookup x = some .local) (hx₂ : scope.names.lookup x₂ = some .local) (hxx : x ≠ x₂)
    (h : wpAny (model prog w) A (eval iter env) (SrcPT prog w A h₀ L m env ct elt x x₂ scope cl (fun s₂ => FinE h₀ L m s₂ Q)) E s)
    (hs : ∀ x, foldedSetIterable iter env x = pure x) :
    wpAny (model prog w) A (eval (.ListComp elt [⟨.Tuple [.Name x px, .Name x₂ px₂] tk0 tp, iter, [ct], 0⟩] scope pos) env) Q E s := by
  rw [eval_ListComp]
  refine wpAny_comprehension_free (use := none) rfl hs hclos hkind hnames (wpAny_mono h (fun xv s₁ h₁ => ?_) fun _ _ e => e)
  obtain ⟨ax, its, kz, news, J, rfl, hh, F, N, hax, hsz, hJ0, R⟩ := h₁
  have hl : s₁.heap.IsList ax its.toArray := ⟨_, (N _ hax).1, rfl, kz, rfl⟩
  refine wpAny_pyIter_list hl ?_
  have up : ∀ b o, s₁.heap.get? b = some o → (s₁.heap.push { cls := .type "list_iterator", data := .fields #[.ref ax, .int 0 0] }).get? b = some o := fun b o e => Heap.get?_push_of_some _ e
  obtain ⟨R1, R2⟩ := R (s₁.heap.push { cls := .type "list_iterator", data := .fields #[.ref ax, .int 0 0] })
  refine block_PT J hh hax (Nat.ne_of_lt (Heap.lt_size (N _ hax).1)) hsz hcell hkind hx hx₂ hxx ⟨_, Heap.get?_push_size _ rfl, rfl, rfl⟩ (F.keeps up) (N.grown up) (Nat.ne_of_lt F.ns.lt) (next_is_new F) (fun p hp => Nat.ne_of_lt (Heap.lt_size (N p hp).1)) hJ0 R1 ?_
  intro D C h tk m' ys F' N' o1 hn hC₀ hD₀ hCL hDL hCD offC hJ
  refine ⟨m', hn, fun h'' hs'' => R2 ys hJ D h'' tk (F'.change hs'' hCL hC₀) (fun p hp => ?_) o1⟩
  refine ⟨hs''.extBut _ _ ?_ (N' p hp).1, (N' p hp).2⟩
  rcases List.mem_cons.mp hp with rfl | hp
  · exact Ne.symm hCD
  · exact offC p hp
theorem Assign_ListComp_PT {ct elt iter : Expr} {x x₂ y : Str} {px px₂ tp py : Pos} {tk0 : Nat} {scope : Scope} {cl : List (Str × Addr)} {pos spos : Pos} {Q : Flow → Shared → Prop} (_F₀ : Fr h₀ L s.heap m) (hLe : env.locals = L)
    (hsw : swapsWith (.ListComp elt [⟨.Tuple [.Name x px, .Name x₂ px₂] tk0 tp, iter, [ct], 0⟩] scope pos) (some (.Name y py)) spos.line env = pure true)
    (hclos : closureFor scope env = pure cl) (hcell : ∀ z ∈ scope.names, z.2 ≠ .cell) (hkind : scope.kind = .function)
    (hnames : ∀ z ∈ scope.names, z.2 = .local → scope.names.lookup z.1 = some .local) (hx : scope.names.lookup x = some .local) (hx₂ : scope.names.lookup x₂ = some .local) (hxx : x ≠ x₂)
    (hy : env.kindOf y = some .local) (hp : (env.scope.kind == .class || (env.scope.kind == .module && env.locals != env.globals)) = false)
    (h : wpAny (model prog w) A (eval iter env) (SrcPT prog w A h₀ L m env ct elt x x₂ scope cl (fun s₂ => FinA h₀ L m s₂ y Q)) E s)
    (hs : ∀ x, foldedSetIterable iter env x = pure x) :
    wpAny (model prog w) A (exec (.Assign [.Name y py] (.ListComp elt [⟨.Tuple [.Name x px, .Name x₂ px₂] tk0 tp, iter, [ct], 0⟩] scope pos) spos) env) Q E s := by
  subst hLe
  rw [exec_Assign_Name_used _ _ _ _ hsw]
  refine wpAny_bind (wpAny_standAt (wpAny_bind ?_))
  show wpAny _ A (do let _ ← comprehension (.ListComp elt [⟨.Tuple [.Name x px, .Name x₂ px₂] tk0 tp, iter, [ct], 0⟩] scope pos) scope env _ (newList []) false (eval iter env) (some (assign (.Name y py) env))) _ _ s
  refine wpAny_bind (wpAny_mono (wpAny_comprehension_free (use := some (assign (.Name y py) env)) (Q := fun _ s' => Q .next s') rfl hs hclos hkind hnames
    (wpAny_mono h (fun xv s₁ h₁ => ?_) fun _ _ e => e)) (fun _ s' hq => wpAny_pure (wpAny_pure hq)) fun _ _ e => e)
  obtain ⟨ax, its, kz, news, J, rfl, hh, F, N, hax, hsz, hJ0, R⟩ := h₁
  have hl : s₁.heap.IsList ax its.toArray := ⟨_, (N _ hax).1, rfl, kz, rfl⟩
  refine wpAny_pyIter_list hl ?_
  have up : ∀ b o, s₁.heap.get? b = some o → (s₁.heap.push { cls := .type "list_iterator", data := .fields #[.ref ax, .int 0 0] }).get? b = some o := fun b o e => Heap.get?_push_of_some _ e
  obtain ⟨R1, R2⟩ := R (s₁.heap.push { cls := .type "list_iterator", data := .fields #[.ref ax, .int 0 0] })
  refine block_PT J hh hax (Nat.ne_of_lt (Heap.lt_size (N _ hax).1)) hsz hcell hkind hx hx₂ hxx ⟨_, Heap.get?_push_size _ rfl, rfl, rfl⟩ (F.keeps up) (N.grown up) (Nat.ne_of_lt F.ns.lt) (next_is_new F) (fun p hp => Nat.ne_of_lt (Heap.lt_size (N p hp).1)) hJ0 R1 ?_
  intro D C h' tk m' ys F' N' o1 hn hC₀ hD₀ hCL hDL hCD offC hJ
  show wpAny _ A (assign (.Name y py) env (.ref D)) _ _ _
  refine wpAny_assign_Name (wpAny_storeName_local hy F'.ns (fun h₂ hn₂ hs₂ => ?_) hp)
  have hL₀ : h₀.get? env.locals = none := Heap.get?_none_of_le F'.above
  have F₂ : Fr h₀ env.locals h₂ (fun z => if z = y then some (.ref D) else m z) := ⟨hn₂, fun b o e => hs₂.extBut b o (fun q => by rw [q, hL₀] at e; cases e) (F'.keep b o e), F'.above⟩
  refine ⟨m', hn.sameBut hs₂ hCL, fun h'' hs'' => R2 ys hJ D h'' _ (F₂.change hs'' hCL hC₀) (fun p hp => ?_) o1⟩
  have z : h₂.get? p.1 = some p.2 := hs₂.extBut _ _ (N' p hp).2.1 (N' p hp).1
  refine ⟨hs''.extBut _ _ ?_ z, (N' p hp).2⟩
  rcases List.mem_cons.mp hp with rfl | hp
  · exact Ne.symm hCD
  · exact offC p hp
end
theorem rest_filter (ads : List Addr) : ∀ l : List (Addr × Obj), Rest ads l (l.filter fun p => !decide (p.1 ∈ ads))
  | [] => .nil
  | p :: l => by
    by_cases h : p.1 ∈ ads
    · rw [List.filter_cons_of_neg (by simpa using h)]
      exact .drop h (rest_filter ads l)
    · rw [List.filter_cons_of_pos (by simpa using h)]
      exact .keep h (rest_filter ads l)
theorem Ctr.useS {prog : Program} {w : World} {K : Frag} {p : Program} {loose : List Str} {mean : ExcName → Option Value} {mg mb : Str → Option Value} {f : Addr} {D U : Nat} {vs : List Value} {pre : List (Addr × Obj)} {Post : Value → List (Addr × Obj) → Prop}
    {dp un : Nat} {gd : Option (List Code)} {cn : Str} {cs : Scope} {a : Addr} {ccd : Value} {cl : List (Str × Addr)} {outer : List Env} {A₀ : Around} {base h₀ : Heap} {L : Addr} {m : Str → Option Value} {news : List (Addr × Obj)} {s : Shared} {Q E : Value → Shared → Prop}
    (C : Ctr prog w K p loose mean mg mb f D U vs pre Post) (hsame : ∀ v l, Post v l → l = pre) (B : Below A₀ base outer h₀) (F : Fr h₀ L s.heap m) (X : K.In h₀) (N : News h₀ L s.heap news) (T : Top p loose mean mg mb h₀) (hk : cs.kind = .function)
    (hp : ∀ q ∈ pre, q ∈ news) (hd : dp + D < recursionLimit) (hu : un + U < cLine)
    (ret : ∀ v h' tk', Post v pre → Fr h₀ L h' m → News h₀ L h' news → Q v { s with heap := h', toks := tk' }) :
    wpAny (model prog w) (ktrTop dp un gd cn cs L a ccd cl outer) (call (.ref f) vs) Q E s := by
  refine C.use B F X N T hk hp (rest_filter (pre.map (·.1)) news) hd hu fun v pst h' tk' hP _ F' N' => ?_
  obtain rfl := hsame _ _ hP
  refine ret v h' tk' hP F' fun q hq => ?_
  by_cases h : q.1 ∈ pst.map (·.1)
  · obtain ⟨r, hr, e⟩ := List.mem_map.mp h
    have h1 := (N q hq).1
    have h2 := (N r (hp r hr)).1
    rw [e] at h2
    have h3 : r.2 = q.2 := Option.some.inj (h2.symm.trans h1)
    have h4 : r = q := Prod.ext e h3
    exact N' q (List.mem_append_left _ (h4 ▸ hr))
  · exact N' q (List.mem_append_right _ (List.mem_filter.mpr ⟨hq, by simpa using h⟩))
end Mine

set_option maxHeartbeats 4000000
namespace Mine
/-! a list of ints: what the finding lines ask -/
theorem ints_kf {vs : List Value} {ns : List Int} (h : IntsAre vs ns) : kf_ints vs = true := by
  induction h with
  | nil => rfl
  | cons n t _ ih => exact ih
theorem ints_any {vs : List Value} {ns : List Int} {k : Int} (h : IntsAre vs ns) : vs.any (isInt k) = decide (k ∈ ns) := by
  induction h with
  | nil => rfl
  | cons n t _ ih =>
    rw [List.any_cons, ih]
    have e : isInt k (Value.int n t) = (n == k) := rfl
    rw [e]
    by_cases hn : n = k
    · subst hn; simp
    · have : ¬ k = n := fun e => hn e.symm
      simp [hn, this]
theorem ints_at {vs : List Value} {ns : List Int} {k : Int} (h : IntsAre vs ns) (hm : k ∈ ns) : kf_at k vs = some (ns.idxOf k) := by
  induction h with
  | nil => cases hm
  | cons n t _ ih =>
    unfold kf_at
    have e : isInt k (Value.int n t) = (n == k) := rfl
    rw [e]
    by_cases hn : n = k
    · subst hn; simp
    · have hk : ¬ k = n := fun e => hn e.symm
      have hm' := (List.mem_cons.mp hm).resolve_left hk
      rw [ih hm', List.idxOf_cons]
      have hb : (n == k) = false := beq_eq_false_iff_ne.mpr hn
      rw [hb]; rfl
end Mine

set_option maxHeartbeats 4000000
namespace Mine
noncomputable abbrev frOf {h₀ h : Heap} {L : Addr} {m : Str → Option Value} (_ : Fr h₀ L h m) : Str → Option Value := m
/-! a name is bound: the counter's state and the value's mark by letters, so that what was walked before is not written out again -/
theorem store_v {M : Model} {A : Around} {E : Value → Shared → Prop} {s : Shared} {h₀ : Heap} {L a : Addr} {m : Str → Option Value} {cn : Str} {cs : Scope} {ccd : Value} {cl : List (Str × Addr)} {x : Str} {v : Value} {Q : Unit → Shared → Prop} {news : List (Addr × Obj)} {S : Shared} (F : Fr h₀ L s.heap m) (N : News h₀ L s.heap news)
    (e : ∀ h' k, ({ s with heap := h', toks := k } : Shared) = { S with heap := h', toks := k })
    (h : ∀ h' k, Fr h₀ L h' (fun y => if y = x then some v else m y) → News h₀ L h' news → Q () { S with heap := h', toks := k })
    (hk : cs.kind = .function) (hx : (envX cn cs L a ccd cl).kindOf x = some .local) : wpAny M A (storeName (envX cn cs L a ccd cl) x v) Q E s :=
  storeX_L F N (fun h' F' N' => e h' _ ▸ h h' _ F' N') hk hx
theorem store_i {M : Model} {A : Around} {E : Value → Shared → Prop} {s : Shared} {h₀ : Heap} {L a : Addr} {m : Str → Option Value} {cn : Str} {cs : Scope} {ccd : Value} {cl : List (Str × Addr)} {x : Str} {i : Int} {t : Tok} {Q : Unit → Shared → Prop} {news : List (Addr × Obj)} {S : Shared} (F : Fr h₀ L s.heap m) (N : News h₀ L s.heap news)
    (e : ∀ h' k, ({ s with heap := h', toks := k } : Shared) = { S with heap := h', toks := k })
    (h : ∀ h' u k, Fr h₀ L h' (fun y => if y = x then some (.int i u) else m y) → News h₀ L h' news → Q () { S with heap := h', toks := k })
    (hk : cs.kind = .function) (hx : (envX cn cs L a ccd cl).kindOf x = some .local) : wpAny M A (storeName (envX cn cs L a ccd cl) x (.int i t)) Q E s :=
  storeX_L F N (fun h' F' N' => e h' _ ▸ h h' t _ F' N') hk hx
/-! displays that begin with so many ints -/
theorem spliced8 {M : Model} {A : Around} {E : Value → Shared → Prop} {env : Env} {pos : Pos} {s : Shared} {Q : List Value → Shared → Prop} {n1 n2 n3 n4 n5 n6 n7 n8 : Int} {k1 k2 k3 k4 k5 k6 k7 k8} {p1 p2 p3 p4 p5 p6 p7 p8 : Pos} {rest : List PySem.Expr}
    (h : ∀ vs k, IntsAre vs [n1, n2, n3, n4, n5, n6, n7, n8] → wpAny M A (spliced (backTo pos (starEach rest env))) (fun ws s₂ => Q (vs ++ ws) s₂) E { s with toks := k }) : wpAny M A (spliced (backTo pos (starEach (.Constant (.int n1) k1 p1 :: .Constant (.int n2) k2 p2 :: .Constant (.int n3) k3 p3 :: .Constant (.int n4) k4 p4 :: .Constant (.int n5) k5 p5 :: .Constant (.int n6) k6 p6 :: .Constant (.int n7) k7 p7 :: .Constant (.int n8) k8 p8 :: rest) env))) Q E s :=
  args_cons (wpAny_Constant_int (args_cons (wpAny_Constant_int (args_cons (wpAny_Constant_int (args_cons (wpAny_Constant_int (args_cons (wpAny_Constant_int (args_cons (wpAny_Constant_int (args_cons (wpAny_Constant_int (args_cons (wpAny_Constant_int (h _ _ (.cons _ _ (.cons _ _ (.cons _ _ (.cons _ _ (.cons _ _ (.cons _ _ (.cons _ _ (.cons _ _ (.nil)))))))))))))))))))))))))
theorem spliced8n {M : Model} {A : Around} {E : Value → Shared → Prop} {env : Env} {pos : Pos} {s : Shared} {Q : List Value → Shared → Prop} {n1 n2 n3 n4 n5 n6 n7 n8 : Int} {k1 k2 k3 k4 k5 k6 k7 k8} {p1 p2 p3 p4 p5 p6 p7 p8 : Pos}
    (h : ∀ vs k, IntsAre vs [n1, n2, n3, n4, n5, n6, n7, n8] → Q vs { s with toks := k }) : wpAny M A (spliced (backTo pos (starEach (.Constant (.int n1) k1 p1 :: .Constant (.int n2) k2 p2 :: .Constant (.int n3) k3 p3 :: .Constant (.int n4) k4 p4 :: .Constant (.int n5) k5 p5 :: .Constant (.int n6) k6 p6 :: .Constant (.int n7) k7 p7 :: .Constant (.int n8) k8 p8 :: []) env))) Q E s :=
  spliced8 fun vs k hI => args_nil (by rw [List.append_nil]; exact h vs k hI)
theorem spliced5 {M : Model} {A : Around} {E : Value → Shared → Prop} {env : Env} {pos : Pos} {s : Shared} {Q : List Value → Shared → Prop} {n1 n2 n3 n4 n5 : Int} {k1 k2 k3 k4 k5} {p1 p2 p3 p4 p5 : Pos} {rest : List PySem.Expr}
    (h : ∀ vs k, IntsAre vs [n1, n2, n3, n4, n5] → wpAny M A (spliced (backTo pos (starEach rest env))) (fun ws s₂ => Q (vs ++ ws) s₂) E { s with toks := k }) : wpAny M A (spliced (backTo pos (starEach (.Constant (.int n1) k1 p1 :: .Constant (.int n2) k2 p2 :: .Constant (.int n3) k3 p3 :: .Constant (.int n4) k4 p4 :: .Constant (.int n5) k5 p5 :: rest) env))) Q E s :=
  args_cons (wpAny_Constant_int (args_cons (wpAny_Constant_int (args_cons (wpAny_Constant_int (args_cons (wpAny_Constant_int (args_cons (wpAny_Constant_int (h _ _ (.cons _ _ (.cons _ _ (.cons _ _ (.cons _ _ (.cons _ _ (.nil))))))))))))))))
theorem spliced5n {M : Model} {A : Around} {E : Value → Shared → Prop} {env : Env} {pos : Pos} {s : Shared} {Q : List Value → Shared → Prop} {n1 n2 n3 n4 n5 : Int} {k1 k2 k3 k4 k5} {p1 p2 p3 p4 p5 : Pos}
    (h : ∀ vs k, IntsAre vs [n1, n2, n3, n4, n5] → Q vs { s with toks := k }) : wpAny M A (spliced (backTo pos (starEach (.Constant (.int n1) k1 p1 :: .Constant (.int n2) k2 p2 :: .Constant (.int n3) k3 p3 :: .Constant (.int n4) k4 p4 :: .Constant (.int n5) k5 p5 :: []) env))) Q E s :=
  spliced5 fun vs k hI => args_nil (by rw [List.append_nil]; exact h vs k hI)
end Mine

namespace Mine
noncomputable abbrev PP : Program := PySem.Challenge.rw_ys0001_11.row.prog
noncomputable def V : Program := PySem.W.view PP [1, 2, 3, 4, 5, 6, 8, 9, 10, 12, 15, 16, 17, 18, 19, 20, 21, 22, 23, 24, 25, 26, 28, 29, 31, 32, 33, 35, 36, 37, 38, 39, 40, 41, 42, 43, 44, 45, 46, 47, 48, 49, 50, 51]
noncomputable def o11 : Params → Obj := fun P => { cls := Value.type "tuple", data := Data.seq #[] }
noncomputable def o12 : Params → Obj := fun P => { cls := Value.none, data := Data.fields #[] }
noncomputable def o13 : Params → Obj := fun P => { cls := Value.type "code", data := Data.fields #[Value.str (Str.ofString "<module>") 182, Value.str (Str.ofString "<module>") 183, Value.str (Str.ofString "/claim/cut.py") 184, Value.int 1 0, Value.int 0 0, Value.int 0 0, Value.int 0 0, Value.int 0 0, Value.ref 11, Value.bool Bool.false, Value.int 181 0, Value.ref 12, Value.none, Value.none, Value.none, Value.none, Value.int 185 0, Value.int 1 0, Value.str (Str.ofString "/claim/cut.py") 186] }
noncomputable def o14 : Params → Obj := fun P => { cls := Value.type "frame", slots := #[Option.some (Value.ref 13), Option.some (Value.ref 3), Option.some (Value.ref 3), Option.none, Option.some (Value.str (Str.ofString "__main__") 164), Option.none, Option.some (Value.ref 0)] }
noncomputable def o15 : Params → Obj := fun P => { cls := Value.type "tuple", data := Data.seq #[Value.type "ValueError"] }
noncomputable def o16 : Params → Obj := fun P => { cls := Value.type "builtin_function_or_method", data := Data.fields #[Value.builtin "type.__prepare__", Value.type "type"] }
noncomputable def o17 : Params → Obj := fun P => { cls := Value.type "dict", data := Data.dict #[{ hash := PyData.keyHash P (Str.ofString "__module__"), key := Value.str (Str.ofString "__module__") 196, val := Value.str (Str.ofString "rsa.common") 187 }, { hash := PyData.keyHash P (Str.ofString "__qualname__"), key := Value.str (Str.ofString "__qualname__") 198, val := Value.str (Str.ofString "NotRelativePrimeError") 197 }, { hash := PyData.keyHash P (Str.ofString "__firstlineno__"), key := Value.str (Str.ofString "__firstlineno__") 200, val := Value.int 2 199 }, { hash := PyData.keyHash P (Str.ofString "__init__"), key := Value.str (Str.ofString "__init__") 212, val := Value.ref 29 }, { hash := PyData.keyHash P (Str.ofString "__static_attributes__"), key := Value.str (Str.ofString "__static_attributes__") 216, val := Value.ref 30 }] 5 }
noncomputable def o18 : Params → Obj := fun P => { cls := Value.type "tuple", data := Data.seq #[] }
noncomputable def o19 : Params → Obj := fun P => { cls := Value.none, data := Data.fields #[Value.int 4 0, Value.int 4 0, Value.ref 28] }
noncomputable def o20 : Params → Obj := fun P => { cls := Value.type "code", data := Data.fields #[Value.str (Str.ofString "NotRelativePrimeError") 191, Value.str (Str.ofString "NotRelativePrimeError") 192, Value.str (Str.ofString "/claim/cut.py") 193, Value.int 2 0, Value.int 0 0, Value.int 0 0, Value.int 0 0, Value.int 0 0, Value.ref 18, Value.bool Bool.false, Value.int 181 0, Value.ref 19, Value.none, Value.none, Value.none, Value.none, Value.int 194 0, Value.int 2 0, Value.str (Str.ofString "/claim/cut.py") 195] }
noncomputable def o21 : Params → Obj := fun P => { cls := Value.type "frame", slots := #[Option.some (Value.ref 20), Option.some (Value.ref 3), Option.some (Value.ref 17), Option.none, Option.some (Value.str (Str.ofString "rsa.common") 187), Option.none, Option.some (Value.ref 0)] }
noncomputable def o22 : Params → Obj := fun P => { cls := Value.type "tuple", data := Data.seq #[Value.str (Str.ofString "") 201] }
noncomputable def o23 : Params → Obj := fun P => { cls := Value.type "tuple", data := Data.seq #[] }
noncomputable def o24 : Params → Obj := fun P => { cls := Value.none, data := Data.fields #[] }
noncomputable def o25 : Params → Obj := fun P => { cls := Value.type "tuple", data := Data.seq #[Value.str (Str.ofString "self") 205, Value.str (Str.ofString "a") 206, Value.str (Str.ofString "b") 207, Value.str (Str.ofString "d") 208, Value.str (Str.ofString "msg") 209] }
noncomputable def o26 : Params → Obj := fun P => { cls := Value.type "tuple", data := Data.seq #[] }
noncomputable def o27 : Params → Obj := fun P => { cls := Value.none, data := Data.func { name := Str.ofString "__init__", qualname := Str.ofString "NotRelativePrimeError.__init__", params := (fdA (nthS (fdB (nthS PP.main.body 1)) 0)), body := FuncBody.stmts (fdB (nthS (fdB (nthS PP.main.body 1)) 0)), scope := (fdS (nthS (fdB (nthS PP.main.body 1)) 0)), globals := 0, closure := [], defaults := Value.none, kwdefaults := Value.none } }
noncomputable def o28 : Params → Obj := fun P => { cls := Value.type "code", data := Data.fields #[Value.str (Str.ofString "__init__") 202, Value.str (Str.ofString "NotRelativePrimeError.__init__") 203, Value.str (Str.ofString "/claim/cut.py") 204, Value.int 4 0, Value.int 5 0, Value.int 0 0, Value.int 0 0, Value.int 3 0, Value.ref 23, Value.bool Bool.true, Value.int 181 0, Value.ref 24, Value.none, Value.ref 25, Value.ref 26, Value.ref 27, Value.int 210 0, Value.int 4 0, Value.str (Str.ofString "/claim/cut.py") 211] }
noncomputable def o29 : Params → Obj := fun P => { cls := Value.type "function", data := Data.func { name := Str.ofString "__init__", qualname := Str.ofString "NotRelativePrimeError.__init__", params := (fdA (nthS (fdB (nthS PP.main.body 1)) 0)), body := FuncBody.stmts (fdB (nthS (fdB (nthS PP.main.body 1)) 0)), scope := (fdS (nthS (fdB (nthS PP.main.body 1)) 0)), globals := 3, closure := [], defaults := Value.ref 22, kwdefaults := Value.none, pyModule := Value.str (Str.ofString "rsa.common") 187, code := Value.ref 28 } }
noncomputable def o30 : Params → Obj := fun P => { cls := Value.type "tuple", data := Data.seq #[Value.str (Str.ofString "a") 213, Value.str (Str.ofString "b") 214, Value.str (Str.ofString "d") 215] }
noncomputable def o31 : Params → Obj := fun P => { cls := Value.type "dict", data := Data.dict #[{ hash := PyData.keyHash P (Str.ofString "__module__"), key := Value.str (Str.ofString "__module__") 196, val := Value.str (Str.ofString "rsa.common") 187 }, { hash := PyData.keyHash P (Str.ofString "__firstlineno__"), key := Value.str (Str.ofString "__firstlineno__") 200, val := Value.int 2 199 }, { hash := PyData.keyHash P (Str.ofString "__init__"), key := Value.str (Str.ofString "__init__") 212, val := Value.ref 29 }, { hash := PyData.keyHash P (Str.ofString "__static_attributes__"), key := Value.str (Str.ofString "__static_attributes__") 216, val := Value.ref 30 }, { hash := PyData.keyHash P (Str.ofString "__weakref__"), key := Value.str (Str.ofString "__weakref__") 218, val := Value.ref 33 }, { hash := PyData.keyHash P (Str.ofString "__doc__"), key := Value.str (Str.ofString "__doc__") 219, val := Value.none }] 3 }
noncomputable def o32 : Params → Obj := fun P => { cls := Value.type "type", data := Data.cls { name := Str.ofString "NotRelativePrimeError", bases := [Value.type "ValueError"], mro := [Value.ref 32, Value.type "ValueError", Value.type "Exception", Value.type "BaseException", Value.type "object"], ns := 31, qualname := Str.ofString "NotRelativePrimeError" }, slots := #[Option.some (Value.ref 15), Option.none, Option.some (Value.str (Str.ofString "NotRelativePrimeError") 189), Option.some (Value.str (Str.ofString "NotRelativePrimeError") 197), Option.some (Value.builtin "ValueError.__new__"), Option.some (Value.bool Bool.true)] }
noncomputable def o33 : Params → Obj := fun P => { cls := Value.type "getset_descriptor", data := Data.fields #[Value.str (Str.ofString "__weakref__") 217, Value.ref 32, Value.builtin "ExceptionGroup.__weakref__", Value.none] }
noncomputable def o34 : Params → Obj := fun P => { cls := Value.type "super", data := Data.fields #[Value.ref 32, Value.ref 32, Value.ref 32] }
noncomputable def o35 : Params → Obj := fun P => { cls := Value.type "builtin_function_or_method", data := Data.fields #[Value.builtin "object.__init_subclass__", Value.ref 32] }
noncomputable def o36 : Params → Obj := fun P => { cls := Value.type "tuple", data := Data.seq #[] }
noncomputable def o37 : Params → Obj := fun P => { cls := Value.none, data := Data.fields #[] }
noncomputable def o38 : Params → Obj := fun P => { cls := Value.type "tuple", data := Data.seq #[Value.str (Str.ofString "num") 225] }
noncomputable def o39 : Params → Obj := fun P => { cls := Value.type "tuple", data := Data.seq #[] }
noncomputable def o40 : Params → Obj := fun P => { cls := Value.none, data := Data.func { name := Str.ofString "bit_size", qualname := Str.ofString "bit_size", params := (fdA (nthS PP.main.body 2)), body := FuncBody.stmts (fdB (nthS PP.main.body 2)), scope := (fdS (nthS PP.main.body 2)), globals := 0, closure := [], defaults := Value.none, kwdefaults := Value.none } }
noncomputable def o41 : Params → Obj := fun P => { cls := Value.type "code", data := Data.fields #[Value.str (Str.ofString "bit_size") 222, Value.str (Str.ofString "bit_size") 223, Value.str (Str.ofString "/claim/cut.py") 224, Value.int 8 0, Value.int 1 0, Value.int 0 0, Value.int 0 0, Value.int 3 0, Value.ref 36, Value.bool Bool.true, Value.int 181 0, Value.ref 37, Value.none, Value.ref 38, Value.ref 39, Value.ref 40, Value.int 226 0, Value.int 8 0, Value.str (Str.ofString "/claim/cut.py") 227] }
noncomputable def o42 : Params → Obj := fun P => { cls := Value.type "function", data := Data.func { name := Str.ofString "bit_size", qualname := Str.ofString "bit_size", params := (fdA (nthS PP.main.body 2)), body := FuncBody.stmts (fdB (nthS PP.main.body 2)), scope := (fdS (nthS PP.main.body 2)), globals := 3, closure := [], defaults := Value.none, kwdefaults := Value.none, pyModule := Value.str (Str.ofString "rsa.common") 187, code := Value.ref 41 } }
noncomputable def o43 : Params → Obj := fun P => { cls := Value.type "tuple", data := Data.seq #[] }
noncomputable def o44 : Params → Obj := fun P => { cls := Value.none, data := Data.fields #[] }
noncomputable def o45 : Params → Obj := fun P => { cls := Value.type "tuple", data := Data.seq #[Value.str (Str.ofString "number") 232] }
noncomputable def o46 : Params → Obj := fun P => { cls := Value.type "tuple", data := Data.seq #[] }
noncomputable def o47 : Params → Obj := fun P => { cls := Value.none, data := Data.func { name := Str.ofString "byte_size", qualname := Str.ofString "byte_size", params := (fdA (nthS PP.main.body 3)), body := FuncBody.stmts (fdB (nthS PP.main.body 3)), scope := (fdS (nthS PP.main.body 3)), globals := 0, closure := [], defaults := Value.none, kwdefaults := Value.none } }
noncomputable def o48 : Params → Obj := fun P => { cls := Value.type "code", data := Data.fields #[Value.str (Str.ofString "byte_size") 229, Value.str (Str.ofString "byte_size") 230, Value.str (Str.ofString "/claim/cut.py") 231, Value.int 10 0, Value.int 1 0, Value.int 0 0, Value.int 0 0, Value.int 3 0, Value.ref 43, Value.bool Bool.true, Value.int 181 0, Value.ref 44, Value.none, Value.ref 45, Value.ref 46, Value.ref 47, Value.int 233 0, Value.int 10 0, Value.str (Str.ofString "/claim/cut.py") 234] }
noncomputable def o49 : Params → Obj := fun P => { cls := Value.type "function", data := Data.func { name := Str.ofString "byte_size", qualname := Str.ofString "byte_size", params := (fdA (nthS PP.main.body 3)), body := FuncBody.stmts (fdB (nthS PP.main.body 3)), scope := (fdS (nthS PP.main.body 3)), globals := 3, closure := [], defaults := Value.none, kwdefaults := Value.none, pyModule := Value.str (Str.ofString "rsa.common") 187, code := Value.ref 48 } }
noncomputable def o50 : Params → Obj := fun P => { cls := Value.type "tuple", data := Data.seq #[] }
noncomputable def o51 : Params → Obj := fun P => { cls := Value.none, data := Data.fields #[] }
noncomputable def o52 : Params → Obj := fun P => { cls := Value.type "tuple", data := Data.seq #[Value.str (Str.ofString "num") 239, Value.str (Str.ofString "div") 240, Value.str (Str.ofString "quanta") 241, Value.str (Str.ofString "mod") 242] }
noncomputable def o53 : Params → Obj := fun P => { cls := Value.type "tuple", data := Data.seq #[] }
noncomputable def o54 : Params → Obj := fun P => { cls := Value.none, data := Data.func { name := Str.ofString "ceil_div", qualname := Str.ofString "ceil_div", params := (fdA (nthS PP.main.body 4)), body := FuncBody.stmts (fdB (nthS PP.main.body 4)), scope := (fdS (nthS PP.main.body 4)), globals := 0, closure := [], defaults := Value.none, kwdefaults := Value.none } }
noncomputable def o55 : Params → Obj := fun P => { cls := Value.type "code", data := Data.fields #[Value.str (Str.ofString "ceil_div") 236, Value.str (Str.ofString "ceil_div") 237, Value.str (Str.ofString "/claim/cut.py") 238, Value.int 14 0, Value.int 2 0, Value.int 0 0, Value.int 0 0, Value.int 3 0, Value.ref 50, Value.bool Bool.true, Value.int 181 0, Value.ref 51, Value.none, Value.ref 52, Value.ref 53, Value.ref 54, Value.int 243 0, Value.int 14 0, Value.str (Str.ofString "/claim/cut.py") 244] }
noncomputable def o56 : Params → Obj := fun P => { cls := Value.type "function", data := Data.func { name := Str.ofString "ceil_div", qualname := Str.ofString "ceil_div", params := (fdA (nthS PP.main.body 4)), body := FuncBody.stmts (fdB (nthS PP.main.body 4)), scope := (fdS (nthS PP.main.body 4)), globals := 3, closure := [], defaults := Value.none, kwdefaults := Value.none, pyModule := Value.str (Str.ofString "rsa.common") 187, code := Value.ref 55 } }
noncomputable def o57 : Params → Obj := fun P => { cls := Value.type "tuple", data := Data.seq #[] }
noncomputable def o58 : Params → Obj := fun P => { cls := Value.none, data := Data.fields #[] }
noncomputable def o59 : Params → Obj := fun P => { cls := Value.type "tuple", data := Data.seq #[Value.str (Str.ofString "a") 249, Value.str (Str.ofString "b") 250, Value.str (Str.ofString "x") 251, Value.str (Str.ofString "y") 252, Value.str (Str.ofString "lx") 253, Value.str (Str.ofString "ly") 254, Value.str (Str.ofString "oa") 255, Value.str (Str.ofString "ob") 256, Value.str (Str.ofString "q") 257] }
noncomputable def o60 : Params → Obj := fun P => { cls := Value.type "tuple", data := Data.seq #[] }
noncomputable def o61 : Params → Obj := fun P => { cls := Value.none, data := Data.func { name := Str.ofString "extended_gcd", qualname := Str.ofString "extended_gcd", params := (fdA (nthS PP.main.body 5)), body := FuncBody.stmts (fdB (nthS PP.main.body 5)), scope := (fdS (nthS PP.main.body 5)), globals := 0, closure := [], defaults := Value.none, kwdefaults := Value.none } }
noncomputable def o62 : Params → Obj := fun P => { cls := Value.type "code", data := Data.fields #[Value.str (Str.ofString "extended_gcd") 246, Value.str (Str.ofString "extended_gcd") 247, Value.str (Str.ofString "/claim/cut.py") 248, Value.int 19 0, Value.int 2 0, Value.int 0 0, Value.int 0 0, Value.int 3 0, Value.ref 57, Value.bool Bool.true, Value.int 181 0, Value.ref 58, Value.none, Value.ref 59, Value.ref 60, Value.ref 61, Value.int 258 0, Value.int 19 0, Value.str (Str.ofString "/claim/cut.py") 259] }
noncomputable def o63 : Params → Obj := fun P => { cls := Value.type "function", data := Data.func { name := Str.ofString "extended_gcd", qualname := Str.ofString "extended_gcd", params := (fdA (nthS PP.main.body 5)), body := FuncBody.stmts (fdB (nthS PP.main.body 5)), scope := (fdS (nthS PP.main.body 5)), globals := 3, closure := [], defaults := Value.none, kwdefaults := Value.none, pyModule := Value.str (Str.ofString "rsa.common") 187, code := Value.ref 62 } }
noncomputable def o64 : Params → Obj := fun P => { cls := Value.type "tuple", data := Data.seq #[] }
noncomputable def o65 : Params → Obj := fun P => { cls := Value.none, data := Data.fields #[] }
noncomputable def o66 : Params → Obj := fun P => { cls := Value.type "tuple", data := Data.seq #[Value.str (Str.ofString "x") 264, Value.str (Str.ofString "n") 265, Value.str (Str.ofString "divider") 266, Value.str (Str.ofString "inv") 267, Value.str (Str.ofString "_") 268] }
noncomputable def o67 : Params → Obj := fun P => { cls := Value.type "tuple", data := Data.seq #[] }
noncomputable def o68 : Params → Obj := fun P => { cls := Value.none, data := Data.func { name := Str.ofString "inverse", qualname := Str.ofString "inverse", params := (fdA (nthS PP.main.body 6)), body := FuncBody.stmts (fdB (nthS PP.main.body 6)), scope := (fdS (nthS PP.main.body 6)), globals := 0, closure := [], defaults := Value.none, kwdefaults := Value.none } }
noncomputable def o69 : Params → Obj := fun P => { cls := Value.type "code", data := Data.fields #[Value.str (Str.ofString "inverse") 261, Value.str (Str.ofString "inverse") 262, Value.str (Str.ofString "/claim/cut.py") 263, Value.int 36 0, Value.int 2 0, Value.int 0 0, Value.int 0 0, Value.int 3 0, Value.ref 64, Value.bool Bool.true, Value.int 181 0, Value.ref 65, Value.none, Value.ref 66, Value.ref 67, Value.ref 68, Value.int 269 0, Value.int 36 0, Value.str (Str.ofString "/claim/cut.py") 270] }
noncomputable def o70 : Params → Obj := fun P => { cls := Value.type "function", data := Data.func { name := Str.ofString "inverse", qualname := Str.ofString "inverse", params := (fdA (nthS PP.main.body 6)), body := FuncBody.stmts (fdB (nthS PP.main.body 6)), scope := (fdS (nthS PP.main.body 6)), globals := 3, closure := [], defaults := Value.none, kwdefaults := Value.none, pyModule := Value.str (Str.ofString "rsa.common") 187, code := Value.ref 69 } }
noncomputable def o3p8 : Params → Obj := fun P => { cls := Value.type "dict", data := Data.dict #[{ hash := PyData.keyHash P (Str.ofString "__name__"), key := Value.str (Str.ofString "__name__") 165, val := Value.str (Str.ofString "rsa.core") 272 }, { hash := PyData.keyHash P (Str.ofString "__doc__"), key := Value.str (Str.ofString "__doc__") 166, val := Value.none }, { hash := PyData.keyHash P (Str.ofString "__package__"), key := Value.str (Str.ofString "__package__") 167, val := Value.none }, { hash := PyData.keyHash P (Str.ofString "__loader__"), key := Value.str (Str.ofString "__loader__") 168, val := Value.builtin "__main__.__loader__#opaque" }, { hash := PyData.keyHash P (Str.ofString "__spec__"), key := Value.str (Str.ofString "__spec__") 169, val := Value.none }, { hash := PyData.keyHash P (Str.ofString "__annotations__"), key := Value.str (Str.ofString "__annotations__") 170, val := Value.ref 6 }, { hash := PyData.keyHash P (Str.ofString "__builtins__"), key := Value.str (Str.ofString "__builtins__") 171, val := Value.ref 4 }, { hash := PyData.keyHash P (Str.ofString "__file__"), key := Value.str (Str.ofString "__file__") 173, val := Value.str (Str.ofString "/claim/cut.py") 172 }, { hash := PyData.keyHash P (Str.ofString "__cached__"), key := Value.str (Str.ofString "__cached__") 174, val := Value.none }, { hash := PyData.keyHash P (Str.ofString "NotRelativePrimeError"), key := Value.str (Str.ofString "NotRelativePrimeError") 221, val := Value.ref 32 }, { hash := PyData.keyHash P (Str.ofString "bit_size"), key := Value.str (Str.ofString "bit_size") 228, val := Value.ref 42 }, { hash := PyData.keyHash P (Str.ofString "byte_size"), key := Value.str (Str.ofString "byte_size") 235, val := Value.ref 49 }, { hash := PyData.keyHash P (Str.ofString "ceil_div"), key := Value.str (Str.ofString "ceil_div") 245, val := Value.ref 56 }, { hash := PyData.keyHash P (Str.ofString "extended_gcd"), key := Value.str (Str.ofString "extended_gcd") 260, val := Value.ref 63 }, { hash := PyData.keyHash P (Str.ofString "inverse"), key := Value.str (Str.ofString "inverse") 271, val := Value.ref 70 }, { hash := PyData.keyHash P (Str.ofString "assert_int"), key := Value.str (Str.ofString "assert_int") 281, val := Value.ref 77 }] 16 }
noncomputable def o12p8 : Params → Obj := fun P => { cls := Value.none, data := Data.fields #[Value.int 2 0, Value.int 0 0, Value.ref 20, Value.int 8 0, Value.int 0 0, Value.ref 41, Value.int 10 0, Value.int 0 0, Value.ref 48, Value.int 14 0, Value.int 0 0, Value.ref 55, Value.int 19 0, Value.int 0 0, Value.ref 62, Value.int 36 0, Value.int 0 0, Value.ref 69, Value.int 42 0, Value.int 0 0, Value.ref 76] }
noncomputable def o71 : Params → Obj := fun P => { cls := Value.type "tuple", data := Data.seq #[] }
noncomputable def o72 : Params → Obj := fun P => { cls := Value.none, data := Data.fields #[] }
noncomputable def o73 : Params → Obj := fun P => { cls := Value.type "tuple", data := Data.seq #[Value.str (Str.ofString "var") 277, Value.str (Str.ofString "name") 278] }
noncomputable def o74 : Params → Obj := fun P => { cls := Value.type "tuple", data := Data.seq #[] }
noncomputable def o75 : Params → Obj := fun P => { cls := Value.none, data := Data.func { name := Str.ofString "assert_int", qualname := Str.ofString "assert_int", params := (fdA (nthS PP.main.body 8)), body := FuncBody.stmts (fdB (nthS PP.main.body 8)), scope := (fdS (nthS PP.main.body 8)), globals := 0, closure := [], defaults := Value.none, kwdefaults := Value.none } }
noncomputable def o76 : Params → Obj := fun P => { cls := Value.type "code", data := Data.fields #[Value.str (Str.ofString "assert_int") 274, Value.str (Str.ofString "assert_int") 275, Value.str (Str.ofString "/claim/cut.py") 276, Value.int 42 0, Value.int 2 0, Value.int 0 0, Value.int 0 0, Value.int 3 0, Value.ref 71, Value.bool Bool.true, Value.int 181 0, Value.ref 72, Value.none, Value.ref 73, Value.ref 74, Value.ref 75, Value.int 279 0, Value.int 42 0, Value.str (Str.ofString "/claim/cut.py") 280] }
noncomputable def o77 : Params → Obj := fun P => { cls := Value.type "function", data := Data.func { name := Str.ofString "assert_int", qualname := Str.ofString "assert_int", params := (fdA (nthS PP.main.body 8)), body := FuncBody.stmts (fdB (nthS PP.main.body 8)), scope := (fdS (nthS PP.main.body 8)), globals := 3, closure := [], defaults := Value.none, kwdefaults := Value.none, pyModule := Value.str (Str.ofString "rsa.core") 272, code := Value.ref 76 } }
noncomputable def o78 : Params → Obj := fun P => { cls := Value.type "tuple", data := Data.seq #[] }
noncomputable def o79 : Params → Obj := fun P => { cls := Value.none, data := Data.fields #[] }
noncomputable def o80 : Params → Obj := fun P => { cls := Value.type "tuple", data := Data.seq #[Value.str (Str.ofString "message") 285, Value.str (Str.ofString "ekey") 286, Value.str (Str.ofString "n") 287] }
noncomputable def o81 : Params → Obj := fun P => { cls := Value.type "tuple", data := Data.seq #[] }
noncomputable def o82 : Params → Obj := fun P => { cls := Value.none, data := Data.func { name := Str.ofString "encrypt_int", qualname := Str.ofString "encrypt_int", params := (fdA (nthS PP.main.body 9)), body := FuncBody.stmts (fdB (nthS PP.main.body 9)), scope := (fdS (nthS PP.main.body 9)), globals := 0, closure := [], defaults := Value.none, kwdefaults := Value.none } }
noncomputable def o83 : Params → Obj := fun P => { cls := Value.type "code", data := Data.fields #[Value.str (Str.ofString "encrypt_int") 282, Value.str (Str.ofString "encrypt_int") 283, Value.str (Str.ofString "/claim/cut.py") 284, Value.int 46 0, Value.int 3 0, Value.int 0 0, Value.int 0 0, Value.int 3 0, Value.ref 78, Value.bool Bool.true, Value.int 181 0, Value.ref 79, Value.none, Value.ref 80, Value.ref 81, Value.ref 82, Value.int 288 0, Value.int 46 0, Value.str (Str.ofString "/claim/cut.py") 289] }
noncomputable def o84 : Params → Obj := fun P => { cls := Value.type "function", data := Data.func { name := Str.ofString "encrypt_int", qualname := Str.ofString "encrypt_int", params := (fdA (nthS PP.main.body 9)), body := FuncBody.stmts (fdB (nthS PP.main.body 9)), scope := (fdS (nthS PP.main.body 9)), globals := 3, closure := [], defaults := Value.none, kwdefaults := Value.none, pyModule := Value.str (Str.ofString "rsa.core") 272, code := Value.ref 83 } }
noncomputable def o85 : Params → Obj := fun P => { cls := Value.type "tuple", data := Data.seq #[] }
noncomputable def o86 : Params → Obj := fun P => { cls := Value.none, data := Data.fields #[] }
noncomputable def o87 : Params → Obj := fun P => { cls := Value.type "tuple", data := Data.seq #[Value.str (Str.ofString "cyphertext") 294, Value.str (Str.ofString "dkey") 295, Value.str (Str.ofString "n") 296, Value.str (Str.ofString "message") 297] }
noncomputable def o88 : Params → Obj := fun P => { cls := Value.type "tuple", data := Data.seq #[] }
noncomputable def o89 : Params → Obj := fun P => { cls := Value.none, data := Data.func { name := Str.ofString "decrypt_int", qualname := Str.ofString "decrypt_int", params := (fdA (nthS PP.main.body 10)), body := FuncBody.stmts (fdB (nthS PP.main.body 10)), scope := (fdS (nthS PP.main.body 10)), globals := 0, closure := [], defaults := Value.none, kwdefaults := Value.none } }
noncomputable def o90 : Params → Obj := fun P => { cls := Value.type "code", data := Data.fields #[Value.str (Str.ofString "decrypt_int") 291, Value.str (Str.ofString "decrypt_int") 292, Value.str (Str.ofString "/claim/cut.py") 293, Value.int 55 0, Value.int 3 0, Value.int 0 0, Value.int 0 0, Value.int 3 0, Value.ref 85, Value.bool Bool.true, Value.int 181 0, Value.ref 86, Value.none, Value.ref 87, Value.ref 88, Value.ref 89, Value.int 298 0, Value.int 55 0, Value.str (Str.ofString "/claim/cut.py") 299] }
noncomputable def o91 : Params → Obj := fun P => { cls := Value.type "function", data := Data.func { name := Str.ofString "decrypt_int", qualname := Str.ofString "decrypt_int", params := (fdA (nthS PP.main.body 10)), body := FuncBody.stmts (fdB (nthS PP.main.body 10)), scope := (fdS (nthS PP.main.body 10)), globals := 3, closure := [], defaults := Value.none, kwdefaults := Value.none, pyModule := Value.str (Str.ofString "rsa.core") 272, code := Value.ref 90 } }
noncomputable def o92 : Params → Obj := fun P => { cls := Value.type "tuple", data := Data.seq #[] }
noncomputable def o93 : Params → Obj := fun P => { cls := Value.none, data := Data.fields #[] }
noncomputable def o94 : Params → Obj := fun P => { cls := Value.type "tuple", data := Data.seq #[Value.str (Str.ofString "raw_bytes") 306] }
noncomputable def o95 : Params → Obj := fun P => { cls := Value.type "tuple", data := Data.seq #[] }
noncomputable def o96 : Params → Obj := fun P => { cls := Value.none, data := Data.func { name := Str.ofString "bytes2int", qualname := Str.ofString "bytes2int", params := (fdA (nthS PP.main.body 12)), body := FuncBody.stmts (fdB (nthS PP.main.body 12)), scope := (fdS (nthS PP.main.body 12)), globals := 0, closure := [], defaults := Value.none, kwdefaults := Value.none } }
noncomputable def o97 : Params → Obj := fun P => { cls := Value.type "code", data := Data.fields #[Value.str (Str.ofString "bytes2int") 303, Value.str (Str.ofString "bytes2int") 304, Value.str (Str.ofString "/claim/cut.py") 305, Value.int 62 0, Value.int 1 0, Value.int 0 0, Value.int 0 0, Value.int 3 0, Value.ref 92, Value.bool Bool.true, Value.int 181 0, Value.ref 93, Value.none, Value.ref 94, Value.ref 95, Value.ref 96, Value.int 307 0, Value.int 62 0, Value.str (Str.ofString "/claim/cut.py") 308] }
noncomputable def o98 : Params → Obj := fun P => { cls := Value.type "function", data := Data.func { name := Str.ofString "bytes2int", qualname := Str.ofString "bytes2int", params := (fdA (nthS PP.main.body 12)), body := FuncBody.stmts (fdB (nthS PP.main.body 12)), scope := (fdS (nthS PP.main.body 12)), globals := 3, closure := [], defaults := Value.none, kwdefaults := Value.none, pyModule := Value.str (Str.ofString "rsa.transform") 301, code := Value.ref 97 } }
noncomputable def o12p13 : Params → Obj := fun P => { cls := Value.none, data := Data.fields #[Value.int 2 0, Value.int 0 0, Value.ref 20, Value.int 8 0, Value.int 0 0, Value.ref 41, Value.int 10 0, Value.int 0 0, Value.ref 48, Value.int 14 0, Value.int 0 0, Value.ref 55, Value.int 19 0, Value.int 0 0, Value.ref 62, Value.int 36 0, Value.int 0 0, Value.ref 69, Value.int 42 0, Value.int 0 0, Value.ref 76, Value.int 46 0, Value.int 0 0, Value.ref 83, Value.int 55 0, Value.int 0 0, Value.ref 90, Value.int 62 0, Value.int 0 0, Value.ref 97, Value.int 64 0, Value.int 0 0, Value.ref 105] }
noncomputable def o99 : Params → Obj := fun P => { cls := Value.type "tuple", data := Data.seq #[Value.int 0 310] }
noncomputable def o100 : Params → Obj := fun P => { cls := Value.type "tuple", data := Data.seq #[] }
noncomputable def o101 : Params → Obj := fun P => { cls := Value.none, data := Data.fields #[] }
noncomputable def o102 : Params → Obj := fun P => { cls := Value.type "tuple", data := Data.seq #[Value.str (Str.ofString "number") 314, Value.str (Str.ofString "fill_size") 315, Value.str (Str.ofString "bytes_required") 316] }
noncomputable def o103 : Params → Obj := fun P => { cls := Value.type "tuple", data := Data.seq #[] }
noncomputable def o104 : Params → Obj := fun P => { cls := Value.none, data := Data.func { name := Str.ofString "int2bytes", qualname := Str.ofString "int2bytes", params := (fdA (nthS PP.main.body 13)), body := FuncBody.stmts (fdB (nthS PP.main.body 13)), scope := (fdS (nthS PP.main.body 13)), globals := 0, closure := [], defaults := Value.none, kwdefaults := Value.none } }
noncomputable def o105 : Params → Obj := fun P => { cls := Value.type "code", data := Data.fields #[Value.str (Str.ofString "int2bytes") 311, Value.str (Str.ofString "int2bytes") 312, Value.str (Str.ofString "/claim/cut.py") 313, Value.int 64 0, Value.int 2 0, Value.int 0 0, Value.int 0 0, Value.int 3 0, Value.ref 100, Value.bool Bool.true, Value.int 181 0, Value.ref 101, Value.none, Value.ref 102, Value.ref 103, Value.ref 104, Value.int 317 0, Value.int 64 0, Value.str (Str.ofString "/claim/cut.py") 318] }
noncomputable def o106 : Params → Obj := fun P => { cls := Value.type "function", data := Data.func { name := Str.ofString "int2bytes", qualname := Str.ofString "int2bytes", params := (fdA (nthS PP.main.body 13)), body := FuncBody.stmts (fdB (nthS PP.main.body 13)), scope := (fdS (nthS PP.main.body 13)), globals := 3, closure := [], defaults := Value.ref 99, kwdefaults := Value.none, pyModule := Value.str (Str.ofString "rsa.transform") 301, code := Value.ref 105 } }
noncomputable def o3p15 : Params → Obj := fun P => { cls := Value.type "dict", data := Data.dict #[{ hash := PyData.keyHash P (Str.ofString "__name__"), key := Value.str (Str.ofString "__name__") 165, val := Value.str (Str.ofString "rsa.pkcs1") 320 }, { hash := PyData.keyHash P (Str.ofString "__doc__"), key := Value.str (Str.ofString "__doc__") 166, val := Value.none }, { hash := PyData.keyHash P (Str.ofString "__package__"), key := Value.str (Str.ofString "__package__") 167, val := Value.none }, { hash := PyData.keyHash P (Str.ofString "__loader__"), key := Value.str (Str.ofString "__loader__") 168, val := Value.builtin "__main__.__loader__#opaque" }, { hash := PyData.keyHash P (Str.ofString "__spec__"), key := Value.str (Str.ofString "__spec__") 169, val := Value.none }, { hash := PyData.keyHash P (Str.ofString "__annotations__"), key := Value.str (Str.ofString "__annotations__") 170, val := Value.ref 6 }, { hash := PyData.keyHash P (Str.ofString "__builtins__"), key := Value.str (Str.ofString "__builtins__") 171, val := Value.ref 4 }, { hash := PyData.keyHash P (Str.ofString "__file__"), key := Value.str (Str.ofString "__file__") 173, val := Value.str (Str.ofString "/claim/cut.py") 172 }, { hash := PyData.keyHash P (Str.ofString "__cached__"), key := Value.str (Str.ofString "__cached__") 174, val := Value.none }, { hash := PyData.keyHash P (Str.ofString "NotRelativePrimeError"), key := Value.str (Str.ofString "NotRelativePrimeError") 221, val := Value.ref 32 }, { hash := PyData.keyHash P (Str.ofString "bit_size"), key := Value.str (Str.ofString "bit_size") 228, val := Value.ref 42 }, { hash := PyData.keyHash P (Str.ofString "byte_size"), key := Value.str (Str.ofString "byte_size") 235, val := Value.ref 49 }, { hash := PyData.keyHash P (Str.ofString "ceil_div"), key := Value.str (Str.ofString "ceil_div") 245, val := Value.ref 56 }, { hash := PyData.keyHash P (Str.ofString "extended_gcd"), key := Value.str (Str.ofString "extended_gcd") 260, val := Value.ref 63 }, { hash := PyData.keyHash P (Str.ofString "inverse"), key := Value.str (Str.ofString "inverse") 271, val := Value.ref 70 }, { hash := PyData.keyHash P (Str.ofString "assert_int"), key := Value.str (Str.ofString "assert_int") 281, val := Value.ref 77 }, { hash := PyData.keyHash P (Str.ofString "encrypt_int"), key := Value.str (Str.ofString "encrypt_int") 290, val := Value.ref 84 }, { hash := PyData.keyHash P (Str.ofString "decrypt_int"), key := Value.str (Str.ofString "decrypt_int") 300, val := Value.ref 91 }, { hash := PyData.keyHash P (Str.ofString "bytes2int"), key := Value.str (Str.ofString "bytes2int") 309, val := Value.ref 98 }, { hash := PyData.keyHash P (Str.ofString "int2bytes"), key := Value.str (Str.ofString "int2bytes") 319, val := Value.ref 106 }, { hash := PyData.keyHash P (Str.ofString "HASH_ASN1"), key := Value.str (Str.ofString "HASH_ASN1") 349, val := Value.ref 107 }] 21 }
noncomputable def o107 : Params → Obj := fun P => { cls := Value.type "dict", data := Data.dict #[{ hash := PyData.keyHash P (Str.ofString "MD5"), key := Value.str (Str.ofString "MD5") 322, val := Value.bytes #[48, 32, 48, 12, 6, 8, 42, 134, 72, 134, 247, 13, 2, 5, 5, 0, 4, 16] 323 }, { hash := PyData.keyHash P (Str.ofString "SHA-1"), key := Value.str (Str.ofString "SHA-1") 324, val := Value.bytes #[48, 33, 48, 9, 6, 5, 43, 14, 3, 2, 26, 5, 0, 4, 20] 325 }, { hash := PyData.keyHash P (Str.ofString "SHA-224"), key := Value.str (Str.ofString "SHA-224") 326, val := Value.bytes #[48, 45, 48, 13, 6, 9, 96, 134, 72, 1, 101, 3, 4, 2, 4, 5, 0, 4, 28] 327 }, { hash := PyData.keyHash P (Str.ofString "SHA-256"), key := Value.str (Str.ofString "SHA-256") 328, val := Value.bytes #[48, 49, 48, 13, 6, 9, 96, 134, 72, 1, 101, 3, 4, 2, 1, 5, 0, 4, 32] 329 }, { hash := PyData.keyHash P (Str.ofString "SHA-384"), key := Value.str (Str.ofString "SHA-384") 330, val := Value.bytes #[48, 65, 48, 13, 6, 9, 96, 134, 72, 1, 101, 3, 4, 2, 2, 5, 0, 4, 48] 331 }, { hash := PyData.keyHash P (Str.ofString "SHA-512"), key := Value.str (Str.ofString "SHA-512") 332, val := Value.bytes #[48, 81, 48, 13, 6, 9, 96, 134, 72, 1, 101, 3, 4, 2, 3, 5, 0, 4, 64] 333 }, { hash := PyData.keyHash P (Str.ofString "SHA3-256"), key := Value.str (Str.ofString "SHA3-256") 334, val := Value.bytes #[48, 49, 48, 13, 6, 9, 96, 134, 72, 1, 101, 3, 4, 2, 8, 5, 0, 4, 32] 335 }, { hash := PyData.keyHash P (Str.ofString "SHA3-384"), key := Value.str (Str.ofString "SHA3-384") 336, val := Value.bytes #[48, 65, 48, 13, 6, 9, 96, 134, 72, 1, 101, 3, 4, 2, 9, 5, 0, 4, 48] 337 }, { hash := PyData.keyHash P (Str.ofString "SHA3-512"), key := Value.str (Str.ofString "SHA3-512") 338, val := Value.bytes #[48, 81, 48, 13, 6, 9, 96, 134, 72, 1, 101, 3, 4, 2, 10, 5, 0, 4, 64] 339 }] 9 }
noncomputable def o2p16 : Params → Obj := fun P => { cls := Value.none, data := Data.dict #[{ hash := PyData.keyHash P (Str.ofString "type.__subclasses__.Exception.0"), key := Value.str (Str.ofString "type.__subclasses__.Exception.0") 366, val := Value.int 117 0 }, { hash := PyData.keyHash P (Str.ofString "type.__subclasses__.Exception.n"), key := Value.str (Str.ofString "type.__subclasses__.Exception.n") 367, val := Value.int 1 0 }] 2 }
noncomputable def o108 : Params → Obj := fun P => { cls := Value.type "tuple", data := Data.seq #[Value.type "Exception"] }
noncomputable def o109 : Params → Obj := fun P => { cls := Value.type "builtin_function_or_method", data := Data.fields #[Value.builtin "type.__prepare__", Value.type "type"] }
noncomputable def o110 : Params → Obj := fun P => { cls := Value.type "dict", data := Data.dict #[{ hash := PyData.keyHash P (Str.ofString "__module__"), key := Value.str (Str.ofString "__module__") 357, val := Value.str (Str.ofString "rsa.pkcs1") 320 }, { hash := PyData.keyHash P (Str.ofString "__qualname__"), key := Value.str (Str.ofString "__qualname__") 359, val := Value.str (Str.ofString "CryptoError") 358 }, { hash := PyData.keyHash P (Str.ofString "__firstlineno__"), key := Value.str (Str.ofString "__firstlineno__") 361, val := Value.int 73 360 }, { hash := PyData.keyHash P (Str.ofString "__static_attributes__"), key := Value.str (Str.ofString "__static_attributes__") 362, val := Value.ref 115 }] 4 }
noncomputable def o111 : Params → Obj := fun P => { cls := Value.type "tuple", data := Data.seq #[] }
noncomputable def o112 : Params → Obj := fun P => { cls := Value.none, data := Data.fields #[] }
noncomputable def o113 : Params → Obj := fun P => { cls := Value.type "code", data := Data.fields #[Value.str (Str.ofString "CryptoError") 352, Value.str (Str.ofString "CryptoError") 353, Value.str (Str.ofString "/claim/cut.py") 354, Value.int 73 0, Value.int 0 0, Value.int 0 0, Value.int 0 0, Value.int 0 0, Value.ref 111, Value.bool Bool.false, Value.int 181 0, Value.ref 112, Value.none, Value.none, Value.none, Value.none, Value.int 355 0, Value.int 73 0, Value.str (Str.ofString "/claim/cut.py") 356] }
noncomputable def o114 : Params → Obj := fun P => { cls := Value.type "frame", slots := #[Option.some (Value.ref 113), Option.some (Value.ref 3), Option.some (Value.ref 110), Option.none, Option.some (Value.str (Str.ofString "rsa.pkcs1") 320), Option.none, Option.some (Value.ref 0)] }
noncomputable def o115 : Params → Obj := fun P => { cls := Value.type "tuple", data := Data.seq #[] }
noncomputable def o116 : Params → Obj := fun P => { cls := Value.type "dict", data := Data.dict #[{ hash := PyData.keyHash P (Str.ofString "__module__"), key := Value.str (Str.ofString "__module__") 357, val := Value.str (Str.ofString "rsa.pkcs1") 320 }, { hash := PyData.keyHash P (Str.ofString "__firstlineno__"), key := Value.str (Str.ofString "__firstlineno__") 361, val := Value.int 73 360 }, { hash := PyData.keyHash P (Str.ofString "__static_attributes__"), key := Value.str (Str.ofString "__static_attributes__") 362, val := Value.ref 115 }, { hash := PyData.keyHash P (Str.ofString "__weakref__"), key := Value.str (Str.ofString "__weakref__") 364, val := Value.ref 118 }, { hash := PyData.keyHash P (Str.ofString "__doc__"), key := Value.str (Str.ofString "__doc__") 365, val := Value.none }] 3 }
noncomputable def o118 : Params → Obj := fun P => { cls := Value.type "getset_descriptor", data := Data.fields #[Value.str (Str.ofString "__weakref__") 363, Value.ref 117, Value.builtin "ExceptionGroup.__weakref__", Value.none] }
noncomputable def o119 : Params → Obj := fun P => { cls := Value.type "super", data := Data.fields #[Value.ref 117, Value.ref 117, Value.ref 117] }
noncomputable def o120 : Params → Obj := fun P => { cls := Value.type "builtin_function_or_method", data := Data.fields #[Value.builtin "object.__init_subclass__", Value.ref 117] }
noncomputable def o3p17 : Params → Obj := fun P => { cls := Value.type "dict", data := Data.dict #[{ hash := PyData.keyHash P (Str.ofString "__name__"), key := Value.str (Str.ofString "__name__") 165, val := Value.str (Str.ofString "rsa.pkcs1") 320 }, { hash := PyData.keyHash P (Str.ofString "__doc__"), key := Value.str (Str.ofString "__doc__") 166, val := Value.none }, { hash := PyData.keyHash P (Str.ofString "__package__"), key := Value.str (Str.ofString "__package__") 167, val := Value.none }, { hash := PyData.keyHash P (Str.ofString "__loader__"), key := Value.str (Str.ofString "__loader__") 168, val := Value.builtin "__main__.__loader__#opaque" }, { hash := PyData.keyHash P (Str.ofString "__spec__"), key := Value.str (Str.ofString "__spec__") 169, val := Value.none }, { hash := PyData.keyHash P (Str.ofString "__annotations__"), key := Value.str (Str.ofString "__annotations__") 170, val := Value.ref 6 }, { hash := PyData.keyHash P (Str.ofString "__builtins__"), key := Value.str (Str.ofString "__builtins__") 171, val := Value.ref 4 }, { hash := PyData.keyHash P (Str.ofString "__file__"), key := Value.str (Str.ofString "__file__") 173, val := Value.str (Str.ofString "/claim/cut.py") 172 }, { hash := PyData.keyHash P (Str.ofString "__cached__"), key := Value.str (Str.ofString "__cached__") 174, val := Value.none }, { hash := PyData.keyHash P (Str.ofString "NotRelativePrimeError"), key := Value.str (Str.ofString "NotRelativePrimeError") 221, val := Value.ref 32 }, { hash := PyData.keyHash P (Str.ofString "bit_size"), key := Value.str (Str.ofString "bit_size") 228, val := Value.ref 42 }, { hash := PyData.keyHash P (Str.ofString "byte_size"), key := Value.str (Str.ofString "byte_size") 235, val := Value.ref 49 }, { hash := PyData.keyHash P (Str.ofString "ceil_div"), key := Value.str (Str.ofString "ceil_div") 245, val := Value.ref 56 }, { hash := PyData.keyHash P (Str.ofString "extended_gcd"), key := Value.str (Str.ofString "extended_gcd") 260, val := Value.ref 63 }, { hash := PyData.keyHash P (Str.ofString "inverse"), key := Value.str (Str.ofString "inverse") 271, val := Value.ref 70 }, { hash := PyData.keyHash P (Str.ofString "assert_int"), key := Value.str (Str.ofString "assert_int") 281, val := Value.ref 77 }, { hash := PyData.keyHash P (Str.ofString "encrypt_int"), key := Value.str (Str.ofString "encrypt_int") 290, val := Value.ref 84 }, { hash := PyData.keyHash P (Str.ofString "decrypt_int"), key := Value.str (Str.ofString "decrypt_int") 300, val := Value.ref 91 }, { hash := PyData.keyHash P (Str.ofString "bytes2int"), key := Value.str (Str.ofString "bytes2int") 309, val := Value.ref 98 }, { hash := PyData.keyHash P (Str.ofString "int2bytes"), key := Value.str (Str.ofString "int2bytes") 319, val := Value.ref 106 }, { hash := PyData.keyHash P (Str.ofString "HASH_ASN1"), key := Value.str (Str.ofString "HASH_ASN1") 349, val := Value.ref 107 }, { hash := PyData.keyHash P (Str.ofString "CryptoError"), key := Value.str (Str.ofString "CryptoError") 369, val := Value.ref 117 }, { hash := PyData.keyHash P (Str.ofString "DecryptionError"), key := Value.str (Str.ofString "DecryptionError") 385, val := Value.ref 130 }] 23 }
noncomputable def o12p17 : Params → Obj := fun P => { cls := Value.none, data := Data.fields #[Value.int 2 0, Value.int 0 0, Value.ref 20, Value.int 8 0, Value.int 0 0, Value.ref 41, Value.int 10 0, Value.int 0 0, Value.ref 48, Value.int 14 0, Value.int 0 0, Value.ref 55, Value.int 19 0, Value.int 0 0, Value.ref 62, Value.int 36 0, Value.int 0 0, Value.ref 69, Value.int 42 0, Value.int 0 0, Value.ref 76, Value.int 46 0, Value.int 0 0, Value.ref 83, Value.int 55 0, Value.int 0 0, Value.ref 90, Value.int 62 0, Value.int 0 0, Value.ref 97, Value.int 64 0, Value.int 0 0, Value.ref 105, Value.int 73 0, Value.int 0 0, Value.ref 113, Value.int 75 0, Value.int 0 0, Value.ref 126] }
noncomputable def o117p17 : Params → Obj := fun P => { cls := Value.type "type", data := Data.cls { name := Str.ofString "CryptoError", bases := [Value.type "Exception"], mro := [Value.ref 117, Value.type "Exception", Value.type "BaseException", Value.type "object"], ns := 116, qualname := Str.ofString "CryptoError", subclasses := [Value.ref 130] }, slots := #[Option.some (Value.ref 108), Option.none, Option.some (Value.str (Str.ofString "CryptoError") 350), Option.some (Value.str (Str.ofString "CryptoError") 358), Option.some (Value.builtin "Exception.__new__"), Option.some (Value.bool Bool.true)] }
noncomputable def o121 : Params → Obj := fun P => { cls := Value.type "tuple", data := Data.seq #[Value.ref 117] }
noncomputable def o122 : Params → Obj := fun P => { cls := Value.type "builtin_function_or_method", data := Data.fields #[Value.builtin "type.__prepare__", Value.type "type"] }
noncomputable def o123 : Params → Obj := fun P => { cls := Value.type "dict", data := Data.dict #[{ hash := PyData.keyHash P (Str.ofString "__module__"), key := Value.str (Str.ofString "__module__") 377, val := Value.str (Str.ofString "rsa.pkcs1") 320 }, { hash := PyData.keyHash P (Str.ofString "__qualname__"), key := Value.str (Str.ofString "__qualname__") 379, val := Value.str (Str.ofString "DecryptionError") 378 }, { hash := PyData.keyHash P (Str.ofString "__firstlineno__"), key := Value.str (Str.ofString "__firstlineno__") 381, val := Value.int 75 380 }, { hash := PyData.keyHash P (Str.ofString "__static_attributes__"), key := Value.str (Str.ofString "__static_attributes__") 382, val := Value.ref 128 }] 4 }
noncomputable def o124 : Params → Obj := fun P => { cls := Value.type "tuple", data := Data.seq #[] }
noncomputable def o125 : Params → Obj := fun P => { cls := Value.none, data := Data.fields #[] }
noncomputable def o126 : Params → Obj := fun P => { cls := Value.type "code", data := Data.fields #[Value.str (Str.ofString "DecryptionError") 372, Value.str (Str.ofString "DecryptionError") 373, Value.str (Str.ofString "/claim/cut.py") 374, Value.int 75 0, Value.int 0 0, Value.int 0 0, Value.int 0 0, Value.int 0 0, Value.ref 124, Value.bool Bool.false, Value.int 181 0, Value.ref 125, Value.none, Value.none, Value.none, Value.none, Value.int 375 0, Value.int 75 0, Value.str (Str.ofString "/claim/cut.py") 376] }
noncomputable def o127 : Params → Obj := fun P => { cls := Value.type "frame", slots := #[Option.some (Value.ref 126), Option.some (Value.ref 3), Option.some (Value.ref 123), Option.none, Option.some (Value.str (Str.ofString "rsa.pkcs1") 320), Option.none, Option.some (Value.ref 0)] }
noncomputable def o128 : Params → Obj := fun P => { cls := Value.type "tuple", data := Data.seq #[] }
noncomputable def o129 : Params → Obj := fun P => { cls := Value.type "dict", data := Data.dict #[{ hash := PyData.keyHash P (Str.ofString "__module__"), key := Value.str (Str.ofString "__module__") 377, val := Value.str (Str.ofString "rsa.pkcs1") 320 }, { hash := PyData.keyHash P (Str.ofString "__firstlineno__"), key := Value.str (Str.ofString "__firstlineno__") 381, val := Value.int 75 380 }, { hash := PyData.keyHash P (Str.ofString "__static_attributes__"), key := Value.str (Str.ofString "__static_attributes__") 382, val := Value.ref 128 }, { hash := PyData.keyHash P (Str.ofString "__doc__"), key := Value.str (Str.ofString "__doc__") 383, val := Value.none }] 2 }
noncomputable def o130 : Params → Obj := fun P => { cls := Value.type "type", data := Data.cls { name := Str.ofString "DecryptionError", bases := [Value.ref 117], mro := [Value.ref 130, Value.ref 117, Value.type "Exception", Value.type "BaseException", Value.type "object"], ns := 129, qualname := Str.ofString "DecryptionError" }, slots := #[Option.some (Value.ref 121), Option.none, Option.some (Value.str (Str.ofString "DecryptionError") 370), Option.some (Value.str (Str.ofString "DecryptionError") 378), Option.some (Value.builtin "Exception.__new__"), Option.some (Value.bool Bool.true)] }
noncomputable def o131 : Params → Obj := fun P => { cls := Value.type "super", data := Data.fields #[Value.ref 130, Value.ref 130, Value.ref 130] }
noncomputable def o132 : Params → Obj := fun P => { cls := Value.type "builtin_function_or_method", data := Data.fields #[Value.builtin "object.__init_subclass__", Value.ref 130] }
noncomputable def o117p18 : Params → Obj := fun P => { cls := Value.type "type", data := Data.cls { name := Str.ofString "CryptoError", bases := [Value.type "Exception"], mro := [Value.ref 117, Value.type "Exception", Value.type "BaseException", Value.type "object"], ns := 116, qualname := Str.ofString "CryptoError", subclasses := [Value.ref 130, Value.ref 142] }, slots := #[Option.some (Value.ref 108), Option.none, Option.some (Value.str (Str.ofString "CryptoError") 350), Option.some (Value.str (Str.ofString "CryptoError") 358), Option.some (Value.builtin "Exception.__new__"), Option.some (Value.bool Bool.true)] }
noncomputable def o133 : Params → Obj := fun P => { cls := Value.type "tuple", data := Data.seq #[Value.ref 117] }
noncomputable def o134 : Params → Obj := fun P => { cls := Value.type "builtin_function_or_method", data := Data.fields #[Value.builtin "type.__prepare__", Value.type "type"] }
noncomputable def o135 : Params → Obj := fun P => { cls := Value.type "dict", data := Data.dict #[{ hash := PyData.keyHash P (Str.ofString "__module__"), key := Value.str (Str.ofString "__module__") 393, val := Value.str (Str.ofString "rsa.pkcs1") 320 }, { hash := PyData.keyHash P (Str.ofString "__qualname__"), key := Value.str (Str.ofString "__qualname__") 395, val := Value.str (Str.ofString "VerificationError") 394 }, { hash := PyData.keyHash P (Str.ofString "__firstlineno__"), key := Value.str (Str.ofString "__firstlineno__") 397, val := Value.int 77 396 }, { hash := PyData.keyHash P (Str.ofString "__static_attributes__"), key := Value.str (Str.ofString "__static_attributes__") 398, val := Value.ref 140 }] 4 }
noncomputable def o136 : Params → Obj := fun P => { cls := Value.type "tuple", data := Data.seq #[] }
noncomputable def o137 : Params → Obj := fun P => { cls := Value.none, data := Data.fields #[] }
noncomputable def o138 : Params → Obj := fun P => { cls := Value.type "code", data := Data.fields #[Value.str (Str.ofString "VerificationError") 388, Value.str (Str.ofString "VerificationError") 389, Value.str (Str.ofString "/claim/cut.py") 390, Value.int 77 0, Value.int 0 0, Value.int 0 0, Value.int 0 0, Value.int 0 0, Value.ref 136, Value.bool Bool.false, Value.int 181 0, Value.ref 137, Value.none, Value.none, Value.none, Value.none, Value.int 391 0, Value.int 77 0, Value.str (Str.ofString "/claim/cut.py") 392] }
noncomputable def o139 : Params → Obj := fun P => { cls := Value.type "frame", slots := #[Option.some (Value.ref 138), Option.some (Value.ref 3), Option.some (Value.ref 135), Option.none, Option.some (Value.str (Str.ofString "rsa.pkcs1") 320), Option.none, Option.some (Value.ref 0)] }
noncomputable def o140 : Params → Obj := fun P => { cls := Value.type "tuple", data := Data.seq #[] }
noncomputable def o141 : Params → Obj := fun P => { cls := Value.type "dict", data := Data.dict #[{ hash := PyData.keyHash P (Str.ofString "__module__"), key := Value.str (Str.ofString "__module__") 393, val := Value.str (Str.ofString "rsa.pkcs1") 320 }, { hash := PyData.keyHash P (Str.ofString "__firstlineno__"), key := Value.str (Str.ofString "__firstlineno__") 397, val := Value.int 77 396 }, { hash := PyData.keyHash P (Str.ofString "__static_attributes__"), key := Value.str (Str.ofString "__static_attributes__") 398, val := Value.ref 140 }, { hash := PyData.keyHash P (Str.ofString "__doc__"), key := Value.str (Str.ofString "__doc__") 399, val := Value.none }] 2 }
noncomputable def o142 : Params → Obj := fun P => { cls := Value.type "type", data := Data.cls { name := Str.ofString "VerificationError", bases := [Value.ref 117], mro := [Value.ref 142, Value.ref 117, Value.type "Exception", Value.type "BaseException", Value.type "object"], ns := 141, qualname := Str.ofString "VerificationError" }, slots := #[Option.some (Value.ref 133), Option.none, Option.some (Value.str (Str.ofString "VerificationError") 386), Option.some (Value.str (Str.ofString "VerificationError") 394), Option.some (Value.builtin "Exception.__new__"), Option.some (Value.bool Bool.true)] }
noncomputable def o143 : Params → Obj := fun P => { cls := Value.type "super", data := Data.fields #[Value.ref 142, Value.ref 142, Value.ref 142] }
noncomputable def o144 : Params → Obj := fun P => { cls := Value.type "builtin_function_or_method", data := Data.fields #[Value.builtin "object.__init_subclass__", Value.ref 142] }
noncomputable def o145 : Params → Obj := fun P => { cls := Value.type "tuple", data := Data.seq #[] }
noncomputable def o146 : Params → Obj := fun P => { cls := Value.none, data := Data.fields #[] }
noncomputable def o147 : Params → Obj := fun P => { cls := Value.none, data := Data.func { name := Str.ofString "_pad_for_encryption", qualname := Str.ofString "_pad_for_encryption", params := (fdA (nthS PP.main.body 19)), body := FuncBody.stmts (fdB (nthS PP.main.body 19)), scope := (fdS (nthS PP.main.body 19)), globals := 0, closure := [], defaults := Value.none, kwdefaults := Value.none } }
noncomputable def o148 : Params → Obj := fun P => { cls := Value.type "code", data := Data.fields #[Value.str (Str.ofString "_pad_for_encryption") 402, Value.str (Str.ofString "_pad_for_encryption") 403, Value.str (Str.ofString "/claim/cut.py") 404, Value.int 79 0, Value.int 3 0, Value.int 0 0, Value.int 0 0, Value.int 3 0, Value.ref 145, Value.bool Bool.true, Value.int 181 0, Value.ref 146, Value.none, Value.none, Value.none, Value.ref 147, Value.int 405 0, Value.int 79 0, Value.str (Str.ofString "/claim/cut.py") 406] }
noncomputable def o149 : Params → Obj := fun P => { cls := Value.type "function", data := Data.func { name := Str.ofString "_pad_for_encryption", qualname := Str.ofString "_pad_for_encryption", params := (fdA (nthS PP.main.body 19)), body := FuncBody.stmts (fdB (nthS PP.main.body 19)), scope := (fdS (nthS PP.main.body 19)), globals := 3, closure := [], defaults := Value.none, kwdefaults := Value.none, pyModule := Value.str (Str.ofString "rsa.pkcs1") 320, code := Value.ref 148 } }
noncomputable def o150 : Params → Obj := fun P => { cls := Value.type "tuple", data := Data.seq #[] }
noncomputable def o151 : Params → Obj := fun P => { cls := Value.none, data := Data.fields #[] }
noncomputable def o152 : Params → Obj := fun P => { cls := Value.type "tuple", data := Data.seq #[Value.str (Str.ofString "message") 411, Value.str (Str.ofString "target_length") 412, Value.str (Str.ofString "max_msglength") 413, Value.str (Str.ofString "msglength") 414, Value.str (Str.ofString "padding_length") 415] }
noncomputable def o153 : Params → Obj := fun P => { cls := Value.type "tuple", data := Data.seq #[] }
noncomputable def o154 : Params → Obj := fun P => { cls := Value.none, data := Data.func { name := Str.ofString "_pad_for_signing", qualname := Str.ofString "_pad_for_signing", params := (fdA (nthS PP.main.body 20)), body := FuncBody.stmts (fdB (nthS PP.main.body 20)), scope := (fdS (nthS PP.main.body 20)), globals := 0, closure := [], defaults := Value.none, kwdefaults := Value.none } }
noncomputable def o155 : Params → Obj := fun P => { cls := Value.type "code", data := Data.fields #[Value.str (Str.ofString "_pad_for_signing") 408, Value.str (Str.ofString "_pad_for_signing") 409, Value.str (Str.ofString "/claim/cut.py") 410, Value.int 88 0, Value.int 2 0, Value.int 0 0, Value.int 0 0, Value.int 3 0, Value.ref 150, Value.bool Bool.true, Value.int 181 0, Value.ref 151, Value.none, Value.ref 152, Value.ref 153, Value.ref 154, Value.int 416 0, Value.int 88 0, Value.str (Str.ofString "/claim/cut.py") 417] }
noncomputable def o156 : Params → Obj := fun P => { cls := Value.type "function", data := Data.func { name := Str.ofString "_pad_for_signing", qualname := Str.ofString "_pad_for_signing", params := (fdA (nthS PP.main.body 20)), body := FuncBody.stmts (fdB (nthS PP.main.body 20)), scope := (fdS (nthS PP.main.body 20)), globals := 3, closure := [], defaults := Value.none, kwdefaults := Value.none, pyModule := Value.str (Str.ofString "rsa.pkcs1") 320, code := Value.ref 155 } }
noncomputable def o157 : Params → Obj := fun P => { cls := Value.type "tuple", data := Data.seq #[] }
noncomputable def o158 : Params → Obj := fun P => { cls := Value.none, data := Data.fields #[] }
noncomputable def o159 : Params → Obj := fun P => { cls := Value.type "tuple", data := Data.seq #[Value.str (Str.ofString "message") 422, Value.str (Str.ofString "pub_key") 423, Value.str (Str.ofString "drawn") 424, Value.str (Str.ofString "keylength") 425, Value.str (Str.ofString "padded") 426, Value.str (Str.ofString "payload") 427, Value.str (Str.ofString "encrypted") 428, Value.str (Str.ofString "block") 429] }
noncomputable def o160 : Params → Obj := fun P => { cls := Value.type "tuple", data := Data.seq #[] }
noncomputable def o161 : Params → Obj := fun P => { cls := Value.none, data := Data.func { name := Str.ofString "encrypt", qualname := Str.ofString "encrypt", params := (fdA (nthS PP.main.body 21)), body := FuncBody.stmts (fdB (nthS PP.main.body 21)), scope := (fdS (nthS PP.main.body 21)), globals := 0, closure := [], defaults := Value.none, kwdefaults := Value.none } }
noncomputable def o162 : Params → Obj := fun P => { cls := Value.type "code", data := Data.fields #[Value.str (Str.ofString "encrypt") 419, Value.str (Str.ofString "encrypt") 420, Value.str (Str.ofString "/claim/cut.py") 421, Value.int 95 0, Value.int 3 0, Value.int 0 0, Value.int 0 0, Value.int 3 0, Value.ref 157, Value.bool Bool.true, Value.int 181 0, Value.ref 158, Value.none, Value.ref 159, Value.ref 160, Value.ref 161, Value.int 430 0, Value.int 95 0, Value.str (Str.ofString "/claim/cut.py") 431] }
noncomputable def o163 : Params → Obj := fun P => { cls := Value.type "function", data := Data.func { name := Str.ofString "encrypt", qualname := Str.ofString "encrypt", params := (fdA (nthS PP.main.body 21)), body := FuncBody.stmts (fdB (nthS PP.main.body 21)), scope := (fdS (nthS PP.main.body 21)), globals := 3, closure := [], defaults := Value.none, kwdefaults := Value.none, pyModule := Value.str (Str.ofString "rsa.pkcs1") 320, code := Value.ref 162 } }
noncomputable def o164 : Params → Obj := fun P => { cls := Value.type "tuple", data := Data.seq #[] }
noncomputable def o165 : Params → Obj := fun P => { cls := Value.none, data := Data.fields #[] }
noncomputable def o166 : Params → Obj := fun P => { cls := Value.type "tuple", data := Data.seq #[Value.str (Str.ofString "crypto") 436, Value.str (Str.ofString "priv_key") 437, Value.str (Str.ofString "blocksize") 438, Value.str (Str.ofString "encrypted") 439, Value.str (Str.ofString "decrypted") 440, Value.str (Str.ofString "cleartext") 441, Value.str (Str.ofString "cleartext_marker_bad") 442, Value.str (Str.ofString "sep_idx") 443, Value.str (Str.ofString "sep_idx_bad") 444, Value.str (Str.ofString "anything_bad") 445] }
noncomputable def o167 : Params → Obj := fun P => { cls := Value.type "tuple", data := Data.seq #[] }
noncomputable def o168 : Params → Obj := fun P => { cls := Value.none, data := Data.func { name := Str.ofString "decrypt", qualname := Str.ofString "decrypt", params := (fdA (nthS PP.main.body 22)), body := FuncBody.stmts (fdB (nthS PP.main.body 22)), scope := (fdS (nthS PP.main.body 22)), globals := 0, closure := [], defaults := Value.none, kwdefaults := Value.none } }
noncomputable def o169 : Params → Obj := fun P => { cls := Value.type "code", data := Data.fields #[Value.str (Str.ofString "decrypt") 433, Value.str (Str.ofString "decrypt") 434, Value.str (Str.ofString "/claim/cut.py") 435, Value.int 102 0, Value.int 2 0, Value.int 0 0, Value.int 0 0, Value.int 3 0, Value.ref 164, Value.bool Bool.true, Value.int 181 0, Value.ref 165, Value.none, Value.ref 166, Value.ref 167, Value.ref 168, Value.int 446 0, Value.int 102 0, Value.str (Str.ofString "/claim/cut.py") 447] }
noncomputable def o170 : Params → Obj := fun P => { cls := Value.type "function", data := Data.func { name := Str.ofString "decrypt", qualname := Str.ofString "decrypt", params := (fdA (nthS PP.main.body 22)), body := FuncBody.stmts (fdB (nthS PP.main.body 22)), scope := (fdS (nthS PP.main.body 22)), globals := 3, closure := [], defaults := Value.none, kwdefaults := Value.none, pyModule := Value.str (Str.ofString "rsa.pkcs1") 320, code := Value.ref 169 } }
noncomputable def o171 : Params → Obj := fun P => { cls := Value.type "tuple", data := Data.seq #[] }
noncomputable def o172 : Params → Obj := fun P => { cls := Value.none, data := Data.fields #[] }
noncomputable def o173 : Params → Obj := fun P => { cls := Value.type "tuple", data := Data.seq #[Value.str (Str.ofString "hash_value") 452, Value.str (Str.ofString "priv_key") 453, Value.str (Str.ofString "hash_method") 454, Value.str (Str.ofString "asn1code") 455, Value.str (Str.ofString "cleartext") 456, Value.str (Str.ofString "keylength") 457, Value.str (Str.ofString "padded") 458, Value.str (Str.ofString "payload") 459, Value.str (Str.ofString "encrypted") 460, Value.str (Str.ofString "block") 461] }
noncomputable def o174 : Params → Obj := fun P => { cls := Value.type "tuple", data := Data.seq #[] }
noncomputable def o175 : Params → Obj := fun P => { cls := Value.none, data := Data.func { name := Str.ofString "sign_hash", qualname := Str.ofString "sign_hash", params := (fdA (nthS PP.main.body 23)), body := FuncBody.stmts (fdB (nthS PP.main.body 23)), scope := (fdS (nthS PP.main.body 23)), globals := 0, closure := [], defaults := Value.none, kwdefaults := Value.none } }
noncomputable def o176 : Params → Obj := fun P => { cls := Value.type "code", data := Data.fields #[Value.str (Str.ofString "sign_hash") 449, Value.str (Str.ofString "sign_hash") 450, Value.str (Str.ofString "/claim/cut.py") 451, Value.int 116 0, Value.int 3 0, Value.int 0 0, Value.int 0 0, Value.int 3 0, Value.ref 171, Value.bool Bool.true, Value.int 181 0, Value.ref 172, Value.none, Value.ref 173, Value.ref 174, Value.ref 175, Value.int 462 0, Value.int 116 0, Value.str (Str.ofString "/claim/cut.py") 463] }
noncomputable def o177 : Params → Obj := fun P => { cls := Value.type "function", data := Data.func { name := Str.ofString "sign_hash", qualname := Str.ofString "sign_hash", params := (fdA (nthS PP.main.body 23)), body := FuncBody.stmts (fdB (nthS PP.main.body 23)), scope := (fdS (nthS PP.main.body 23)), globals := 3, closure := [], defaults := Value.none, kwdefaults := Value.none, pyModule := Value.str (Str.ofString "rsa.pkcs1") 320, code := Value.ref 176 } }
noncomputable def o3p24 : Params → Obj := fun P => { cls := Value.type "dict", data := Data.dict #[{ hash := PyData.keyHash P (Str.ofString "__name__"), key := Value.str (Str.ofString "__name__") 165, val := Value.str (Str.ofString "rsa.pkcs1") 320 }, { hash := PyData.keyHash P (Str.ofString "__doc__"), key := Value.str (Str.ofString "__doc__") 166, val := Value.none }, { hash := PyData.keyHash P (Str.ofString "__package__"), key := Value.str (Str.ofString "__package__") 167, val := Value.none }, { hash := PyData.keyHash P (Str.ofString "__loader__"), key := Value.str (Str.ofString "__loader__") 168, val := Value.builtin "__main__.__loader__#opaque" }, { hash := PyData.keyHash P (Str.ofString "__spec__"), key := Value.str (Str.ofString "__spec__") 169, val := Value.none }, { hash := PyData.keyHash P (Str.ofString "__annotations__"), key := Value.str (Str.ofString "__annotations__") 170, val := Value.ref 6 }, { hash := PyData.keyHash P (Str.ofString "__builtins__"), key := Value.str (Str.ofString "__builtins__") 171, val := Value.ref 4 }, { hash := PyData.keyHash P (Str.ofString "__file__"), key := Value.str (Str.ofString "__file__") 173, val := Value.str (Str.ofString "/claim/cut.py") 172 }, { hash := PyData.keyHash P (Str.ofString "__cached__"), key := Value.str (Str.ofString "__cached__") 174, val := Value.none }, { hash := PyData.keyHash P (Str.ofString "NotRelativePrimeError"), key := Value.str (Str.ofString "NotRelativePrimeError") 221, val := Value.ref 32 }, { hash := PyData.keyHash P (Str.ofString "bit_size"), key := Value.str (Str.ofString "bit_size") 228, val := Value.ref 42 }, { hash := PyData.keyHash P (Str.ofString "byte_size"), key := Value.str (Str.ofString "byte_size") 235, val := Value.ref 49 }, { hash := PyData.keyHash P (Str.ofString "ceil_div"), key := Value.str (Str.ofString "ceil_div") 245, val := Value.ref 56 }, { hash := PyData.keyHash P (Str.ofString "extended_gcd"), key := Value.str (Str.ofString "extended_gcd") 260, val := Value.ref 63 }, { hash := PyData.keyHash P (Str.ofString "inverse"), key := Value.str (Str.ofString "inverse") 271, val := Value.ref 70 }, { hash := PyData.keyHash P (Str.ofString "assert_int"), key := Value.str (Str.ofString "assert_int") 281, val := Value.ref 77 }, { hash := PyData.keyHash P (Str.ofString "encrypt_int"), key := Value.str (Str.ofString "encrypt_int") 290, val := Value.ref 84 }, { hash := PyData.keyHash P (Str.ofString "decrypt_int"), key := Value.str (Str.ofString "decrypt_int") 300, val := Value.ref 91 }, { hash := PyData.keyHash P (Str.ofString "bytes2int"), key := Value.str (Str.ofString "bytes2int") 309, val := Value.ref 98 }, { hash := PyData.keyHash P (Str.ofString "int2bytes"), key := Value.str (Str.ofString "int2bytes") 319, val := Value.ref 106 }, { hash := PyData.keyHash P (Str.ofString "HASH_ASN1"), key := Value.str (Str.ofString "HASH_ASN1") 349, val := Value.ref 107 }, { hash := PyData.keyHash P (Str.ofString "CryptoError"), key := Value.str (Str.ofString "CryptoError") 369, val := Value.ref 117 }, { hash := PyData.keyHash P (Str.ofString "DecryptionError"), key := Value.str (Str.ofString "DecryptionError") 385, val := Value.ref 130 }, { hash := PyData.keyHash P (Str.ofString "VerificationError"), key := Value.str (Str.ofString "VerificationError") 401, val := Value.ref 142 }, { hash := PyData.keyHash P (Str.ofString "_pad_for_encryption"), key := Value.str (Str.ofString "_pad_for_encryption") 407, val := Value.ref 149 }, { hash := PyData.keyHash P (Str.ofString "_pad_for_signing"), key := Value.str (Str.ofString "_pad_for_signing") 418, val := Value.ref 156 }, { hash := PyData.keyHash P (Str.ofString "encrypt"), key := Value.str (Str.ofString "encrypt") 432, val := Value.ref 163 }, { hash := PyData.keyHash P (Str.ofString "decrypt"), key := Value.str (Str.ofString "decrypt") 448, val := Value.ref 170 }, { hash := PyData.keyHash P (Str.ofString "sign_hash"), key := Value.str (Str.ofString "sign_hash") 464, val := Value.ref 177 }, { hash := PyData.keyHash P (Str.ofString "verify"), key := Value.str (Str.ofString "verify") 480, val := Value.ref 184 }] 30 }
noncomputable def o12p24 : Params → Obj := fun P => { cls := Value.none, data := Data.fields #[Value.int 2 0, Value.int 0 0, Value.ref 20, Value.int 8 0, Value.int 0 0, Value.ref 41, Value.int 10 0, Value.int 0 0, Value.ref 48, Value.int 14 0, Value.int 0 0, Value.ref 55, Value.int 19 0, Value.int 0 0, Value.ref 62, Value.int 36 0, Value.int 0 0, Value.ref 69, Value.int 42 0, Value.int 0 0, Value.ref 76, Value.int 46 0, Value.int 0 0, Value.ref 83, Value.int 55 0, Value.int 0 0, Value.ref 90, Value.int 62 0, Value.int 0 0, Value.ref 97, Value.int 64 0, Value.int 0 0, Value.ref 105, Value.int 73 0, Value.int 0 0, Value.ref 113, Value.int 75 0, Value.int 0 0, Value.ref 126, Value.int 77 0, Value.int 0 0, Value.ref 138, Value.int 79 0, Value.int 0 0, Value.ref 148, Value.int 88 0, Value.int 0 0, Value.ref 155, Value.int 95 0, Value.int 0 0, Value.ref 162, Value.int 102 0, Value.int 0 0, Value.ref 169, Value.int 116 0, Value.int 0 0, Value.ref 176, Value.int 127 0, Value.int 0 0, Value.ref 183] }
noncomputable def o178 : Params → Obj := fun P => { cls := Value.type "tuple", data := Data.seq #[] }
noncomputable def o179 : Params → Obj := fun P => { cls := Value.none, data := Data.fields #[] }
noncomputable def o180 : Params → Obj := fun P => { cls := Value.type "tuple", data := Data.seq #[Value.str (Str.ofString "message_hash") 468, Value.str (Str.ofString "signature") 469, Value.str (Str.ofString "pub_key") 470, Value.str (Str.ofString "keylength") 471, Value.str (Str.ofString "encrypted") 472, Value.str (Str.ofString "decrypted") 473, Value.str (Str.ofString "clearsig") 474, Value.str (Str.ofString "method_name") 475, Value.str (Str.ofString "cleartext") 476, Value.str (Str.ofString "expected") 477] }
noncomputable def o181 : Params → Obj := fun P => { cls := Value.type "tuple", data := Data.seq #[] }
noncomputable def o182 : Params → Obj := fun P => { cls := Value.none, data := Data.func { name := Str.ofString "verify", qualname := Str.ofString "verify", params := (fdA (nthS PP.main.body 24)), body := FuncBody.stmts (fdB (nthS PP.main.body 24)), scope := (fdS (nthS PP.main.body 24)), globals := 0, closure := [], defaults := Value.none, kwdefaults := Value.none } }
noncomputable def o183 : Params → Obj := fun P => { cls := Value.type "code", data := Data.fields #[Value.str (Str.ofString "verify") 465, Value.str (Str.ofString "verify") 466, Value.str (Str.ofString "/claim/cut.py") 467, Value.int 127 0, Value.int 3 0, Value.int 0 0, Value.int 0 0, Value.int 3 0, Value.ref 178, Value.bool Bool.true, Value.int 181 0, Value.ref 179, Value.none, Value.ref 180, Value.ref 181, Value.ref 182, Value.int 478 0, Value.int 127 0, Value.str (Str.ofString "/claim/cut.py") 479] }
noncomputable def o184 : Params → Obj := fun P => { cls := Value.type "function", data := Data.func { name := Str.ofString "verify", qualname := Str.ofString "verify", params := (fdA (nthS PP.main.body 24)), body := FuncBody.stmts (fdB (nthS PP.main.body 24)), scope := (fdS (nthS PP.main.body 24)), globals := 3, closure := [], defaults := Value.none, kwdefaults := Value.none, pyModule := Value.str (Str.ofString "rsa.pkcs1") 320, code := Value.ref 183 } }
noncomputable def o185 : Params → Obj := fun P => { cls := Value.type "tuple", data := Data.seq #[] }
noncomputable def o186 : Params → Obj := fun P => { cls := Value.none, data := Data.fields #[] }
noncomputable def o187 : Params → Obj := fun P => { cls := Value.type "tuple", data := Data.seq #[Value.str (Str.ofString "signature") 484, Value.str (Str.ofString "pub_key") 485, Value.str (Str.ofString "keylength") 486, Value.str (Str.ofString "encrypted") 487, Value.str (Str.ofString "decrypted") 488, Value.str (Str.ofString "clearsig") 489] }
noncomputable def o188 : Params → Obj := fun P => { cls := Value.type "tuple", data := Data.seq #[] }
noncomputable def o189 : Params → Obj := fun P => { cls := Value.none, data := Data.func { name := Str.ofString "find_signature_hash", qualname := Str.ofString "find_signature_hash", params := (fdA (nthS PP.main.body 25)), body := FuncBody.stmts (fdB (nthS PP.main.body 25)), scope := (fdS (nthS PP.main.body 25)), globals := 0, closure := [], defaults := Value.none, kwdefaults := Value.none } }
noncomputable def o190 : Params → Obj := fun P => { cls := Value.type "code", data := Data.fields #[Value.str (Str.ofString "find_signature_hash") 481, Value.str (Str.ofString "find_signature_hash") 482, Value.str (Str.ofString "/claim/cut.py") 483, Value.int 140 0, Value.int 2 0, Value.int 0 0, Value.int 0 0, Value.int 3 0, Value.ref 185, Value.bool Bool.true, Value.int 181 0, Value.ref 186, Value.none, Value.ref 187, Value.ref 188, Value.ref 189, Value.int 490 0, Value.int 140 0, Value.str (Str.ofString "/claim/cut.py") 491] }
noncomputable def o191 : Params → Obj := fun P => { cls := Value.type "function", data := Data.func { name := Str.ofString "find_signature_hash", qualname := Str.ofString "find_signature_hash", params := (fdA (nthS PP.main.body 25)), body := FuncBody.stmts (fdB (nthS PP.main.body 25)), scope := (fdS (nthS PP.main.body 25)), globals := 3, closure := [], defaults := Value.none, kwdefaults := Value.none, pyModule := Value.str (Str.ofString "rsa.pkcs1") 320, code := Value.ref 190 } }
noncomputable def o192 : Params → Obj := fun P => { cls := Value.type "tuple", data := Data.seq #[] }
noncomputable def o193 : Params → Obj := fun P => { cls := Value.none, data := Data.fields #[] }
noncomputable def o194 : Params → Obj := fun P => { cls := Value.type "tuple", data := Data.seq #[Value.str (Str.ofString "clearsig") 496, Value.str (Str.ofString "hashname") 497, Value.str (Str.ofString "asn1code") 498] }
noncomputable def o195 : Params → Obj := fun P => { cls := Value.type "tuple", data := Data.seq #[] }
noncomputable def o196 : Params → Obj := fun P => { cls := Value.none, data := Data.func { name := Str.ofString "_find_method_hash", qualname := Str.ofString "_find_method_hash", params := (fdA (nthS PP.main.body 26)), body := FuncBody.stmts (fdB (nthS PP.main.body 26)), scope := (fdS (nthS PP.main.body 26)), globals := 0, closure := [], defaults := Value.none, kwdefaults := Value.none } }
noncomputable def o197 : Params → Obj := fun P => { cls := Value.type "code", data := Data.fields #[Value.str (Str.ofString "_find_method_hash") 493, Value.str (Str.ofString "_find_method_hash") 494, Value.str (Str.ofString "/claim/cut.py") 495, Value.int 146 0, Value.int 1 0, Value.int 0 0, Value.int 0 0, Value.int 3 0, Value.ref 192, Value.bool Bool.true, Value.int 181 0, Value.ref 193, Value.none, Value.ref 194, Value.ref 195, Value.ref 196, Value.int 499 0, Value.int 146 0, Value.str (Str.ofString "/claim/cut.py") 500] }
noncomputable def o198 : Params → Obj := fun P => { cls := Value.type "function", data := Data.func { name := Str.ofString "_find_method_hash", qualname := Str.ofString "_find_method_hash", params := (fdA (nthS PP.main.body 26)), body := FuncBody.stmts (fdB (nthS PP.main.body 26)), scope := (fdS (nthS PP.main.body 26)), globals := 3, closure := [], defaults := Value.none, kwdefaults := Value.none, pyModule := Value.str (Str.ofString "rsa.pkcs1") 320, code := Value.ref 197 } }
noncomputable def o199 : Params → Obj := fun P => { cls := Value.type "tuple", data := Data.seq #[] }
noncomputable def o200 : Params → Obj := fun P => { cls := Value.none, data := Data.fields #[] }
noncomputable def o201 : Params → Obj := fun P => { cls := Value.type "tuple", data := Data.seq #[Value.str (Str.ofString "p") 507, Value.str (Str.ofString "q") 508] }
noncomputable def o202 : Params → Obj := fun P => { cls := Value.type "tuple", data := Data.seq #[] }
noncomputable def o203 : Params → Obj := fun P => { cls := Value.none, data := Data.func { name := Str.ofString "gcd", qualname := Str.ofString "gcd", params := (fdA (nthS PP.main.body 28)), body := FuncBody.stmts (fdB (nthS PP.main.body 28)), scope := (fdS (nthS PP.main.body 28)), globals := 0, closure := [], defaults := Value.none, kwdefaults := Value.none } }
noncomputable def o204 : Params → Obj := fun P => { cls := Value.type "code", data := Data.fields #[Value.str (Str.ofString "gcd") 504, Value.str (Str.ofString "gcd") 505, Value.str (Str.ofString "/claim/cut.py") 506, Value.int 152 0, Value.int 2 0, Value.int 0 0, Value.int 0 0, Value.int 3 0, Value.ref 199, Value.bool Bool.true, Value.int 181 0, Value.ref 200, Value.none, Value.ref 201, Value.ref 202, Value.ref 203, Value.int 509 0, Value.int 152 0, Value.str (Str.ofString "/claim/cut.py") 510] }
noncomputable def o205 : Params → Obj := fun P => { cls := Value.type "function", data := Data.func { name := Str.ofString "gcd", qualname := Str.ofString "gcd", params := (fdA (nthS PP.main.body 28)), body := FuncBody.stmts (fdB (nthS PP.main.body 28)), scope := (fdS (nthS PP.main.body 28)), globals := 3, closure := [], defaults := Value.none, kwdefaults := Value.none, pyModule := Value.str (Str.ofString "rsa.prime") 502, code := Value.ref 204 } }
noncomputable def o12p29 : Params → Obj := fun P => { cls := Value.none, data := Data.fields #[Value.int 2 0, Value.int 0 0, Value.ref 20, Value.int 8 0, Value.int 0 0, Value.ref 41, Value.int 10 0, Value.int 0 0, Value.ref 48, Value.int 14 0, Value.int 0 0, Value.ref 55, Value.int 19 0, Value.int 0 0, Value.ref 62, Value.int 36 0, Value.int 0 0, Value.ref 69, Value.int 42 0, Value.int 0 0, Value.ref 76, Value.int 46 0, Value.int 0 0, Value.ref 83, Value.int 55 0, Value.int 0 0, Value.ref 90, Value.int 62 0, Value.int 0 0, Value.ref 97, Value.int 64 0, Value.int 0 0, Value.ref 105, Value.int 73 0, Value.int 0 0, Value.ref 113, Value.int 75 0, Value.int 0 0, Value.ref 126, Value.int 77 0, Value.int 0 0, Value.ref 138, Value.int 79 0, Value.int 0 0, Value.ref 148, Value.int 88 0, Value.int 0 0, Value.ref 155, Value.int 95 0, Value.int 0 0, Value.ref 162, Value.int 102 0, Value.int 0 0, Value.ref 169, Value.int 116 0, Value.int 0 0, Value.ref 176, Value.int 127 0, Value.int 0 0, Value.ref 183, Value.int 140 0, Value.int 0 0, Value.ref 190, Value.int 146 0, Value.int 0 0, Value.ref 197, Value.int 152 0, Value.int 0 0, Value.ref 204, Value.int 156 0, Value.int 0 0, Value.ref 211] }
noncomputable def o206 : Params → Obj := fun P => { cls := Value.type "tuple", data := Data.seq #[] }
noncomputable def o207 : Params → Obj := fun P => { cls := Value.none, data := Data.fields #[] }
noncomputable def o208 : Params → Obj := fun P => { cls := Value.type "tuple", data := Data.seq #[Value.str (Str.ofString "a") 515, Value.str (Str.ofString "b") 516, Value.str (Str.ofString "d") 517] }
noncomputable def o209 : Params → Obj := fun P => { cls := Value.type "tuple", data := Data.seq #[] }
noncomputable def o210 : Params → Obj := fun P => { cls := Value.none, data := Data.func { name := Str.ofString "are_relatively_prime", qualname := Str.ofString "are_relatively_prime", params := (fdA (nthS PP.main.body 29)), body := FuncBody.stmts (fdB (nthS PP.main.body 29)), scope := (fdS (nthS PP.main.body 29)), globals := 0, closure := [], defaults := Value.none, kwdefaults := Value.none } }
noncomputable def o211 : Params → Obj := fun P => { cls := Value.type "code", data := Data.fields #[Value.str (Str.ofString "are_relatively_prime") 512, Value.str (Str.ofString "are_relatively_prime") 513, Value.str (Str.ofString "/claim/cut.py") 514, Value.int 156 0, Value.int 2 0, Value.int 0 0, Value.int 0 0, Value.int 3 0, Value.ref 206, Value.bool Bool.true, Value.int 181 0, Value.ref 207, Value.none, Value.ref 208, Value.ref 209, Value.ref 210, Value.int 518 0, Value.int 156 0, Value.str (Str.ofString "/claim/cut.py") 519] }
noncomputable def o212 : Params → Obj := fun P => { cls := Value.type "function", data := Data.func { name := Str.ofString "are_relatively_prime", qualname := Str.ofString "are_relatively_prime", params := (fdA (nthS PP.main.body 29)), body := FuncBody.stmts (fdB (nthS PP.main.body 29)), scope := (fdS (nthS PP.main.body 29)), globals := 3, closure := [], defaults := Value.none, kwdefaults := Value.none, pyModule := Value.str (Str.ofString "rsa.prime") 502, code := Value.ref 211 } }
noncomputable def o3p30 : Params → Obj := fun P => { cls := Value.type "dict", data := Data.dict #[{ hash := PyData.keyHash P (Str.ofString "__name__"), key := Value.str (Str.ofString "__name__") 165, val := Value.str (Str.ofString "rsa.key") 521 }, { hash := PyData.keyHash P (Str.ofString "__doc__"), key := Value.str (Str.ofString "__doc__") 166, val := Value.none }, { hash := PyData.keyHash P (Str.ofString "__package__"), key := Value.str (Str.ofString "__package__") 167, val := Value.none }, { hash := PyData.keyHash P (Str.ofString "__loader__"), key := Value.str (Str.ofString "__loader__") 168, val := Value.builtin "__main__.__loader__#opaque" }, { hash := PyData.keyHash P (Str.ofString "__spec__"), key := Value.str (Str.ofString "__spec__") 169, val := Value.none }, { hash := PyData.keyHash P (Str.ofString "__annotations__"), key := Value.str (Str.ofString "__annotations__") 170, val := Value.ref 6 }, { hash := PyData.keyHash P (Str.ofString "__builtins__"), key := Value.str (Str.ofString "__builtins__") 171, val := Value.ref 4 }, { hash := PyData.keyHash P (Str.ofString "__file__"), key := Value.str (Str.ofString "__file__") 173, val := Value.str (Str.ofString "/claim/cut.py") 172 }, { hash := PyData.keyHash P (Str.ofString "__cached__"), key := Value.str (Str.ofString "__cached__") 174, val := Value.none }, { hash := PyData.keyHash P (Str.ofString "NotRelativePrimeError"), key := Value.str (Str.ofString "NotRelativePrimeError") 221, val := Value.ref 32 }, { hash := PyData.keyHash P (Str.ofString "bit_size"), key := Value.str (Str.ofString "bit_size") 228, val := Value.ref 42 }, { hash := PyData.keyHash P (Str.ofString "byte_size"), key := Value.str (Str.ofString "byte_size") 235, val := Value.ref 49 }, { hash := PyData.keyHash P (Str.ofString "ceil_div"), key := Value.str (Str.ofString "ceil_div") 245, val := Value.ref 56 }, { hash := PyData.keyHash P (Str.ofString "extended_gcd"), key := Value.str (Str.ofString "extended_gcd") 260, val := Value.ref 63 }, { hash := PyData.keyHash P (Str.ofString "inverse"), key := Value.str (Str.ofString "inverse") 271, val := Value.ref 70 }, { hash := PyData.keyHash P (Str.ofString "assert_int"), key := Value.str (Str.ofString "assert_int") 281, val := Value.ref 77 }, { hash := PyData.keyHash P (Str.ofString "encrypt_int"), key := Value.str (Str.ofString "encrypt_int") 290, val := Value.ref 84 }, { hash := PyData.keyHash P (Str.ofString "decrypt_int"), key := Value.str (Str.ofString "decrypt_int") 300, val := Value.ref 91 }, { hash := PyData.keyHash P (Str.ofString "bytes2int"), key := Value.str (Str.ofString "bytes2int") 309, val := Value.ref 98 }, { hash := PyData.keyHash P (Str.ofString "int2bytes"), key := Value.str (Str.ofString "int2bytes") 319, val := Value.ref 106 }, { hash := PyData.keyHash P (Str.ofString "HASH_ASN1"), key := Value.str (Str.ofString "HASH_ASN1") 349, val := Value.ref 107 }, { hash := PyData.keyHash P (Str.ofString "CryptoError"), key := Value.str (Str.ofString "CryptoError") 369, val := Value.ref 117 }, { hash := PyData.keyHash P (Str.ofString "DecryptionError"), key := Value.str (Str.ofString "DecryptionError") 385, val := Value.ref 130 }, { hash := PyData.keyHash P (Str.ofString "VerificationError"), key := Value.str (Str.ofString "VerificationError") 401, val := Value.ref 142 }, { hash := PyData.keyHash P (Str.ofString "_pad_for_encryption"), key := Value.str (Str.ofString "_pad_for_encryption") 407, val := Value.ref 149 }, { hash := PyData.keyHash P (Str.ofString "_pad_for_signing"), key := Value.str (Str.ofString "_pad_for_signing") 418, val := Value.ref 156 }, { hash := PyData.keyHash P (Str.ofString "encrypt"), key := Value.str (Str.ofString "encrypt") 432, val := Value.ref 163 }, { hash := PyData.keyHash P (Str.ofString "decrypt"), key := Value.str (Str.ofString "decrypt") 448, val := Value.ref 170 }, { hash := PyData.keyHash P (Str.ofString "sign_hash"), key := Value.str (Str.ofString "sign_hash") 464, val := Value.ref 177 }, { hash := PyData.keyHash P (Str.ofString "verify"), key := Value.str (Str.ofString "verify") 480, val := Value.ref 184 }, { hash := PyData.keyHash P (Str.ofString "find_signature_hash"), key := Value.str (Str.ofString "find_signature_hash") 492, val := Value.ref 191 }, { hash := PyData.keyHash P (Str.ofString "_find_method_hash"), key := Value.str (Str.ofString "_find_method_hash") 501, val := Value.ref 198 }, { hash := PyData.keyHash P (Str.ofString "gcd"), key := Value.str (Str.ofString "gcd") 511, val := Value.ref 205 }, { hash := PyData.keyHash P (Str.ofString "are_relatively_prime"), key := Value.str (Str.ofString "are_relatively_prime") 520, val := Value.ref 212 }] 34 }
noncomputable def o3p31 : Params → Obj := fun P => { cls := Value.type "dict", data := Data.dict #[{ hash := PyData.keyHash P (Str.ofString "__name__"), key := Value.str (Str.ofString "__name__") 165, val := Value.str (Str.ofString "rsa.key") 521 }, { hash := PyData.keyHash P (Str.ofString "__doc__"), key := Value.str (Str.ofString "__doc__") 166, val := Value.none }, { hash := PyData.keyHash P (Str.ofString "__package__"), key := Value.str (Str.ofString "__package__") 167, val := Value.none }, { hash := PyData.keyHash P (Str.ofString "__loader__"), key := Value.str (Str.ofString "__loader__") 168, val := Value.builtin "__main__.__loader__#opaque" }, { hash := PyData.keyHash P (Str.ofString "__spec__"), key := Value.str (Str.ofString "__spec__") 169, val := Value.none }, { hash := PyData.keyHash P (Str.ofString "__annotations__"), key := Value.str (Str.ofString "__annotations__") 170, val := Value.ref 6 }, { hash := PyData.keyHash P (Str.ofString "__builtins__"), key := Value.str (Str.ofString "__builtins__") 171, val := Value.ref 4 }, { hash := PyData.keyHash P (Str.ofString "__file__"), key := Value.str (Str.ofString "__file__") 173, val := Value.str (Str.ofString "/claim/cut.py") 172 }, { hash := PyData.keyHash P (Str.ofString "__cached__"), key := Value.str (Str.ofString "__cached__") 174, val := Value.none }, { hash := PyData.keyHash P (Str.ofString "NotRelativePrimeError"), key := Value.str (Str.ofString "NotRelativePrimeError") 221, val := Value.ref 32 }, { hash := PyData.keyHash P (Str.ofString "bit_size"), key := Value.str (Str.ofString "bit_size") 228, val := Value.ref 42 }, { hash := PyData.keyHash P (Str.ofString "byte_size"), key := Value.str (Str.ofString "byte_size") 235, val := Value.ref 49 }, { hash := PyData.keyHash P (Str.ofString "ceil_div"), key := Value.str (Str.ofString "ceil_div") 245, val := Value.ref 56 }, { hash := PyData.keyHash P (Str.ofString "extended_gcd"), key := Value.str (Str.ofString "extended_gcd") 260, val := Value.ref 63 }, { hash := PyData.keyHash P (Str.ofString "inverse"), key := Value.str (Str.ofString "inverse") 271, val := Value.ref 70 }, { hash := PyData.keyHash P (Str.ofString "assert_int"), key := Value.str (Str.ofString "assert_int") 281, val := Value.ref 77 }, { hash := PyData.keyHash P (Str.ofString "encrypt_int"), key := Value.str (Str.ofString "encrypt_int") 290, val := Value.ref 84 }, { hash := PyData.keyHash P (Str.ofString "decrypt_int"), key := Value.str (Str.ofString "decrypt_int") 300, val := Value.ref 91 }, { hash := PyData.keyHash P (Str.ofString "bytes2int"), key := Value.str (Str.ofString "bytes2int") 309, val := Value.ref 98 }, { hash := PyData.keyHash P (Str.ofString "int2bytes"), key := Value.str (Str.ofString "int2bytes") 319, val := Value.ref 106 }, { hash := PyData.keyHash P (Str.ofString "HASH_ASN1"), key := Value.str (Str.ofString "HASH_ASN1") 349, val := Value.ref 107 }, { hash := PyData.keyHash P (Str.ofString "CryptoError"), key := Value.str (Str.ofString "CryptoError") 369, val := Value.ref 117 }, { hash := PyData.keyHash P (Str.ofString "DecryptionError"), key := Value.str (Str.ofString "DecryptionError") 385, val := Value.ref 130 }, { hash := PyData.keyHash P (Str.ofString "VerificationError"), key := Value.str (Str.ofString "VerificationError") 401, val := Value.ref 142 }, { hash := PyData.keyHash P (Str.ofString "_pad_for_encryption"), key := Value.str (Str.ofString "_pad_for_encryption") 407, val := Value.ref 149 }, { hash := PyData.keyHash P (Str.ofString "_pad_for_signing"), key := Value.str (Str.ofString "_pad_for_signing") 418, val := Value.ref 156 }, { hash := PyData.keyHash P (Str.ofString "encrypt"), key := Value.str (Str.ofString "encrypt") 432, val := Value.ref 163 }, { hash := PyData.keyHash P (Str.ofString "decrypt"), key := Value.str (Str.ofString "decrypt") 448, val := Value.ref 170 }, { hash := PyData.keyHash P (Str.ofString "sign_hash"), key := Value.str (Str.ofString "sign_hash") 464, val := Value.ref 177 }, { hash := PyData.keyHash P (Str.ofString "verify"), key := Value.str (Str.ofString "verify") 480, val := Value.ref 184 }, { hash := PyData.keyHash P (Str.ofString "find_signature_hash"), key := Value.str (Str.ofString "find_signature_hash") 492, val := Value.ref 191 }, { hash := PyData.keyHash P (Str.ofString "_find_method_hash"), key := Value.str (Str.ofString "_find_method_hash") 501, val := Value.ref 198 }, { hash := PyData.keyHash P (Str.ofString "gcd"), key := Value.str (Str.ofString "gcd") 511, val := Value.ref 205 }, { hash := PyData.keyHash P (Str.ofString "are_relatively_prime"), key := Value.str (Str.ofString "are_relatively_prime") 520, val := Value.ref 212 }, { hash := PyData.keyHash P (Str.ofString "AbstractKey"), key := Value.str (Str.ofString "AbstractKey") 590, val := Value.ref 257 }] 35 }
noncomputable def o12p31 : Params → Obj := fun P => { cls := Value.none, data := Data.fields #[Value.int 2 0, Value.int 0 0, Value.ref 20, Value.int 8 0, Value.int 0 0, Value.ref 41, Value.int 10 0, Value.int 0 0, Value.ref 48, Value.int 14 0, Value.int 0 0, Value.ref 55, Value.int 19 0, Value.int 0 0, Value.ref 62, Value.int 36 0, Value.int 0 0, Value.ref 69, Value.int 42 0, Value.int 0 0, Value.ref 76, Value.int 46 0, Value.int 0 0, Value.ref 83, Value.int 55 0, Value.int 0 0, Value.ref 90, Value.int 62 0, Value.int 0 0, Value.ref 97, Value.int 64 0, Value.int 0 0, Value.ref 105, Value.int 73 0, Value.int 0 0, Value.ref 113, Value.int 75 0, Value.int 0 0, Value.ref 126, Value.int 77 0, Value.int 0 0, Value.ref 138, Value.int 79 0, Value.int 0 0, Value.ref 148, Value.int 88 0, Value.int 0 0, Value.ref 155, Value.int 95 0, Value.int 0 0, Value.ref 162, Value.int 102 0, Value.int 0 0, Value.ref 169, Value.int 116 0, Value.int 0 0, Value.ref 176, Value.int 127 0, Value.int 0 0, Value.ref 183, Value.int 140 0, Value.int 0 0, Value.ref 190, Value.int 146 0, Value.int 0 0, Value.ref 197, Value.int 152 0, Value.int 0 0, Value.ref 204, Value.int 156 0, Value.int 0 0, Value.ref 211, Value.int 160 0, Value.int 0 0, Value.ref 218] }
noncomputable def o213 : Params → Obj := fun P => { cls := Value.type "tuple", data := Data.seq #[] }
noncomputable def o214 : Params → Obj := fun P => { cls := Value.type "builtin_function_or_method", data := Data.fields #[Value.builtin "type.__prepare__", Value.type "type"] }
noncomputable def o215 : Params → Obj := fun P => { cls := Value.type "dict", data := Data.dict #[{ hash := PyData.keyHash P (Str.ofString "__module__"), key := Value.str (Str.ofString "__module__") 530, val := Value.str (Str.ofString "rsa.key") 521 }, { hash := PyData.keyHash P (Str.ofString "__qualname__"), key := Value.str (Str.ofString "__qualname__") 532, val := Value.str (Str.ofString "AbstractKey") 531 }, { hash := PyData.keyHash P (Str.ofString "__firstlineno__"), key := Value.str (Str.ofString "__firstlineno__") 534, val := Value.int 160 533 }, { hash := PyData.keyHash P (Str.ofString "__init__"), key := Value.str (Str.ofString "__init__") 543, val := Value.ref 226 }, { hash := PyData.keyHash P (Str.ofString "blind"), key := Value.str (Str.ofString "blind") 554, val := Value.ref 233 }, { hash := PyData.keyHash P (Str.ofString "unblind"), key := Value.str (Str.ofString "unblind") 563, val := Value.ref 240 }, { hash := PyData.keyHash P (Str.ofString "_initial_blinding_factor"), key := Value.str (Str.ofString "_initial_blinding_factor") 571, val := Value.ref 247 }, { hash := PyData.keyHash P (Str.ofString "_update_blinding_factor"), key := Value.str (Str.ofString "_update_blinding_factor") 578, val := Value.ref 254 }, { hash := PyData.keyHash P (Str.ofString "__static_attributes__"), key := Value.str (Str.ofString "__static_attributes__") 583, val := Value.ref 255 }] 9 }
noncomputable def o216 : Params → Obj := fun P => { cls := Value.type "tuple", data := Data.seq #[] }
noncomputable def o217 : Params → Obj := fun P => { cls := Value.none, data := Data.fields #[Value.int 162 0, Value.int 4 0, Value.ref 225, Value.int 167 0, Value.int 4 0, Value.ref 232, Value.int 172 0, Value.int 4 0, Value.ref 239, Value.int 175 0, Value.int 4 0, Value.ref 246, Value.int 181 0, Value.int 4 0, Value.ref 253] }
noncomputable def o218 : Params → Obj := fun P => { cls := Value.type "code", data := Data.fields #[Value.str (Str.ofString "AbstractKey") 525, Value.str (Str.ofString "AbstractKey") 526, Value.str (Str.ofString "/claim/cut.py") 527, Value.int 160 0, Value.int 0 0, Value.int 0 0, Value.int 0 0, Value.int 0 0, Value.ref 216, Value.bool Bool.false, Value.int 181 0, Value.ref 217, Value.none, Value.none, Value.none, Value.none, Value.int 528 0, Value.int 160 0, Value.str (Str.ofString "/claim/cut.py") 529] }
noncomputable def o219 : Params → Obj := fun P => { cls := Value.type "frame", slots := #[Option.some (Value.ref 218), Option.some (Value.ref 3), Option.some (Value.ref 215), Option.none, Option.some (Value.str (Str.ofString "rsa.key") 521), Option.none, Option.some (Value.ref 0)] }
noncomputable def o220 : Params → Obj := fun P => { cls := Value.type "tuple", data := Data.seq #[] }
noncomputable def o221 : Params → Obj := fun P => { cls := Value.none, data := Data.fields #[] }
noncomputable def o222 : Params → Obj := fun P => { cls := Value.type "tuple", data := Data.seq #[Value.str (Str.ofString "self") 538, Value.str (Str.ofString "n") 539, Value.str (Str.ofString "e") 540] }
noncomputable def o223 : Params → Obj := fun P => { cls := Value.type "tuple", data := Data.seq #[] }
noncomputable def o224 : Params → Obj := fun P => { cls := Value.none, data := Data.func { name := Str.ofString "__init__", qualname := Str.ofString "AbstractKey.__init__", params := (fdA (nthS (fdB (nthS PP.main.body 31)) 0)), body := FuncBody.stmts (fdB (nthS (fdB (nthS PP.main.body 31)) 0)), scope := (fdS (nthS (fdB (nthS PP.main.body 31)) 0)), globals := 0, closure := [], defaults := Value.none, kwdefaults := Value.none } }
noncomputable def o225 : Params → Obj := fun P => { cls := Value.type "code", data := Data.fields #[Value.str (Str.ofString "__init__") 535, Value.str (Str.ofString "AbstractKey.__init__") 536, Value.str (Str.ofString "/claim/cut.py") 537, Value.int 162 0, Value.int 3 0, Value.int 0 0, Value.int 0 0, Value.int 3 0, Value.ref 220, Value.bool Bool.true, Value.int 181 0, Value.ref 221, Value.none, Value.ref 222, Value.ref 223, Value.ref 224, Value.int 541 0, Value.int 162 0, Value.str (Str.ofString "/claim/cut.py") 542] }
noncomputable def o226 : Params → Obj := fun P => { cls := Value.type "function", data := Data.func { name := Str.ofString "__init__", qualname := Str.ofString "AbstractKey.__init__", params := (fdA (nthS (fdB (nthS PP.main.body 31)) 0)), body := FuncBody.stmts (fdB (nthS (fdB (nthS PP.main.body 31)) 0)), scope := (fdS (nthS (fdB (nthS PP.main.body 31)) 0)), globals := 3, closure := [], defaults := Value.none, kwdefaults := Value.none, pyModule := Value.str (Str.ofString "rsa.key") 521, code := Value.ref 225 } }
noncomputable def o227 : Params → Obj := fun P => { cls := Value.type "tuple", data := Data.seq #[] }
noncomputable def o228 : Params → Obj := fun P => { cls := Value.none, data := Data.fields #[] }
noncomputable def o229 : Params → Obj := fun P => { cls := Value.type "tuple", data := Data.seq #[Value.str (Str.ofString "self") 547, Value.str (Str.ofString "message") 548, Value.str (Str.ofString "blindfac") 549, Value.str (Str.ofString "blindfac_inverse") 550, Value.str (Str.ofString "blinded") 551] }
noncomputable def o230 : Params → Obj := fun P => { cls := Value.type "tuple", data := Data.seq #[] }
noncomputable def o231 : Params → Obj := fun P => { cls := Value.none, data := Data.func { name := Str.ofString "blind", qualname := Str.ofString "AbstractKey.blind", params := (fdA (nthS (fdB (nthS PP.main.body 31)) 1)), body := FuncBody.stmts (fdB (nthS (fdB (nthS PP.main.body 31)) 1)), scope := (fdS (nthS (fdB (nthS PP.main.body 31)) 1)), globals := 0, closure := [], defaults := Value.none, kwdefaults := Value.none } }
noncomputable def o232 : Params → Obj := fun P => { cls := Value.type "code", data := Data.fields #[Value.str (Str.ofString "blind") 544, Value.str (Str.ofString "AbstractKey.blind") 545, Value.str (Str.ofString "/claim/cut.py") 546, Value.int 167 0, Value.int 2 0, Value.int 0 0, Value.int 0 0, Value.int 3 0, Value.ref 227, Value.bool Bool.true, Value.int 181 0, Value.ref 228, Value.none, Value.ref 229, Value.ref 230, Value.ref 231, Value.int 552 0, Value.int 167 0, Value.str (Str.ofString "/claim/cut.py") 553] }
noncomputable def o233 : Params → Obj := fun P => { cls := Value.type "function", data := Data.func { name := Str.ofString "blind", qualname := Str.ofString "AbstractKey.blind", params := (fdA (nthS (fdB (nthS PP.main.body 31)) 1)), body := FuncBody.stmts (fdB (nthS (fdB (nthS PP.main.body 31)) 1)), scope := (fdS (nthS (fdB (nthS PP.main.body 31)) 1)), globals := 3, closure := [], defaults := Value.none, kwdefaults := Value.none, pyModule := Value.str (Str.ofString "rsa.key") 521, code := Value.ref 232 } }
noncomputable def o234 : Params → Obj := fun P => { cls := Value.type "tuple", data := Data.seq #[] }
noncomputable def o235 : Params → Obj := fun P => { cls := Value.none, data := Data.fields #[] }
noncomputable def o236 : Params → Obj := fun P => { cls := Value.type "tuple", data := Data.seq #[Value.str (Str.ofString "self") 558, Value.str (Str.ofString "blinded") 559, Value.str (Str.ofString "blindfac_inverse") 560] }
noncomputable def o237 : Params → Obj := fun P => { cls := Value.type "tuple", data := Data.seq #[] }
noncomputable def o238 : Params → Obj := fun P => { cls := Value.none, data := Data.func { name := Str.ofString "unblind", qualname := Str.ofString "AbstractKey.unblind", params := (fdA (nthS (fdB (nthS PP.main.body 31)) 2)), body := FuncBody.stmts (fdB (nthS (fdB (nthS PP.main.body 31)) 2)), scope := (fdS (nthS (fdB (nthS PP.main.body 31)) 2)), globals := 0, closure := [], defaults := Value.none, kwdefaults := Value.none } }
noncomputable def o239 : Params → Obj := fun P => { cls := Value.type "code", data := Data.fields #[Value.str (Str.ofString "unblind") 555, Value.str (Str.ofString "AbstractKey.unblind") 556, Value.str (Str.ofString "/claim/cut.py") 557, Value.int 172 0, Value.int 3 0, Value.int 0 0, Value.int 0 0, Value.int 3 0, Value.ref 234, Value.bool Bool.true, Value.int 181 0, Value.ref 235, Value.none, Value.ref 236, Value.ref 237, Value.ref 238, Value.int 561 0, Value.int 172 0, Value.str (Str.ofString "/claim/cut.py") 562] }
noncomputable def o240 : Params → Obj := fun P => { cls := Value.type "function", data := Data.func { name := Str.ofString "unblind", qualname := Str.ofString "AbstractKey.unblind", params := (fdA (nthS (fdB (nthS PP.main.body 31)) 2)), body := FuncBody.stmts (fdB (nthS (fdB (nthS PP.main.body 31)) 2)), scope := (fdS (nthS (fdB (nthS PP.main.body 31)) 2)), globals := 3, closure := [], defaults := Value.none, kwdefaults := Value.none, pyModule := Value.str (Str.ofString "rsa.key") 521, code := Value.ref 239 } }
noncomputable def o241 : Params → Obj := fun P => { cls := Value.type "tuple", data := Data.seq #[] }
noncomputable def o242 : Params → Obj := fun P => { cls := Value.none, data := Data.fields #[] }
noncomputable def o243 : Params → Obj := fun P => { cls := Value.type "tuple", data := Data.seq #[Value.str (Str.ofString "self") 567, Value.str (Str.ofString "blind_r") 568] }
noncomputable def o244 : Params → Obj := fun P => { cls := Value.type "tuple", data := Data.seq #[] }
noncomputable def o245 : Params → Obj := fun P => { cls := Value.none, data := Data.func { name := Str.ofString "_initial_blinding_factor", qualname := Str.ofString "AbstractKey._initial_blinding_factor", params := (fdA (nthS (fdB (nthS PP.main.body 31)) 3)), body := FuncBody.stmts (fdB (nthS (fdB (nthS PP.main.body 31)) 3)), scope := (fdS (nthS (fdB (nthS PP.main.body 31)) 3)), globals := 0, closure := [], defaults := Value.none, kwdefaults := Value.none } }
noncomputable def o246 : Params → Obj := fun P => { cls := Value.type "code", data := Data.fields #[Value.str (Str.ofString "_initial_blinding_factor") 564, Value.str (Str.ofString "AbstractKey._initial_blinding_factor") 565, Value.str (Str.ofString "/claim/cut.py") 566, Value.int 175 0, Value.int 1 0, Value.int 0 0, Value.int 0 0, Value.int 3 0, Value.ref 241, Value.bool Bool.true, Value.int 181 0, Value.ref 242, Value.none, Value.ref 243, Value.ref 244, Value.ref 245, Value.int 569 0, Value.int 175 0, Value.str (Str.ofString "/claim/cut.py") 570] }
noncomputable def o247 : Params → Obj := fun P => { cls := Value.type "function", data := Data.func { name := Str.ofString "_initial_blinding_factor", qualname := Str.ofString "AbstractKey._initial_blinding_factor", params := (fdA (nthS (fdB (nthS PP.main.body 31)) 3)), body := FuncBody.stmts (fdB (nthS (fdB (nthS PP.main.body 31)) 3)), scope := (fdS (nthS (fdB (nthS PP.main.body 31)) 3)), globals := 3, closure := [], defaults := Value.none, kwdefaults := Value.none, pyModule := Value.str (Str.ofString "rsa.key") 521, code := Value.ref 246 } }
noncomputable def o248 : Params → Obj := fun P => { cls := Value.type "tuple", data := Data.seq #[] }
noncomputable def o249 : Params → Obj := fun P => { cls := Value.none, data := Data.fields #[] }
noncomputable def o250 : Params → Obj := fun P => { cls := Value.type "tuple", data := Data.seq #[Value.str (Str.ofString "self") 575] }
noncomputable def o251 : Params → Obj := fun P => { cls := Value.type "tuple", data := Data.seq #[] }
noncomputable def o252 : Params → Obj := fun P => { cls := Value.none, data := Data.func { name := Str.ofString "_update_blinding_factor", qualname := Str.ofString "AbstractKey._update_blinding_factor", params := (fdA (nthS (fdB (nthS PP.main.body 31)) 4)), body := FuncBody.stmts (fdB (nthS (fdB (nthS PP.main.body 31)) 4)), scope := (fdS (nthS (fdB (nthS PP.main.body 31)) 4)), globals := 0, closure := [], defaults := Value.none, kwdefaults := Value.none } }
noncomputable def o253 : Params → Obj := fun P => { cls := Value.type "code", data := Data.fields #[Value.str (Str.ofString "_update_blinding_factor") 572, Value.str (Str.ofString "AbstractKey._update_blinding_factor") 573, Value.str (Str.ofString "/claim/cut.py") 574, Value.int 181 0, Value.int 1 0, Value.int 0 0, Value.int 0 0, Value.int 3 0, Value.ref 248, Value.bool Bool.true, Value.int 181 0, Value.ref 249, Value.none, Value.ref 250, Value.ref 251, Value.ref 252, Value.int 576 0, Value.int 181 0, Value.str (Str.ofString "/claim/cut.py") 577] }
noncomputable def o254 : Params → Obj := fun P => { cls := Value.type "function", data := Data.func { name := Str.ofString "_update_blinding_factor", qualname := Str.ofString "AbstractKey._update_blinding_factor", params := (fdA (nthS (fdB (nthS PP.main.body 31)) 4)), body := FuncBody.stmts (fdB (nthS (fdB (nthS PP.main.body 31)) 4)), scope := (fdS (nthS (fdB (nthS PP.main.body 31)) 4)), globals := 3, closure := [], defaults := Value.none, kwdefaults := Value.none, pyModule := Value.str (Str.ofString "rsa.key") 521, code := Value.ref 253 } }
noncomputable def o255 : Params → Obj := fun P => { cls := Value.type "tuple", data := Data.seq #[Value.str (Str.ofString "blindfac") 579, Value.str (Str.ofString "blindfac_inverse") 580, Value.str (Str.ofString "e") 581, Value.str (Str.ofString "n") 582] }
noncomputable def o256 : Params → Obj := fun P => { cls := Value.type "dict", data := Data.dict #[{ hash := PyData.keyHash P (Str.ofString "__module__"), key := Value.str (Str.ofString "__module__") 530, val := Value.str (Str.ofString "rsa.key") 521 }, { hash := PyData.keyHash P (Str.ofString "__firstlineno__"), key := Value.str (Str.ofString "__firstlineno__") 534, val := Value.int 160 533 }, { hash := PyData.keyHash P (Str.ofString "__init__"), key := Value.str (Str.ofString "__init__") 543, val := Value.ref 226 }, { hash := PyData.keyHash P (Str.ofString "blind"), key := Value.str (Str.ofString "blind") 554, val := Value.ref 233 }, { hash := PyData.keyHash P (Str.ofString "unblind"), key := Value.str (Str.ofString "unblind") 563, val := Value.ref 240 }, { hash := PyData.keyHash P (Str.ofString "_initial_blinding_factor"), key := Value.str (Str.ofString "_initial_blinding_factor") 571, val := Value.ref 247 }, { hash := PyData.keyHash P (Str.ofString "_update_blinding_factor"), key := Value.str (Str.ofString "_update_blinding_factor") 578, val := Value.ref 254 }, { hash := PyData.keyHash P (Str.ofString "__static_attributes__"), key := Value.str (Str.ofString "__static_attributes__") 583, val := Value.ref 255 }, { hash := PyData.keyHash P (Str.ofString "__dict__"), key := Value.str (Str.ofString "__dict__") 585, val := Value.ref 258 }, { hash := PyData.keyHash P (Str.ofString "__weakref__"), key := Value.str (Str.ofString "__weakref__") 587, val := Value.ref 259 }, { hash := PyData.keyHash P (Str.ofString "__doc__"), key := Value.str (Str.ofString "__doc__") 588, val := Value.none }] 4 }
noncomputable def o257 : Params → Obj := fun P => { cls := Value.type "type", data := Data.cls { name := Str.ofString "AbstractKey", bases := [Value.type "object"], mro := [Value.ref 257, Value.type "object"], ns := 256, qualname := Str.ofString "AbstractKey" }, slots := #[Option.none, Option.none, Option.some (Value.str (Str.ofString "AbstractKey") 523), Option.some (Value.str (Str.ofString "AbstractKey") 531), Option.some (Value.builtin "object.__new__"), Option.some (Value.bool Bool.true)] }
noncomputable def o258 : Params → Obj := fun P => { cls := Value.type "getset_descriptor", data := Data.fields #[Value.str (Str.ofString "__dict__") 584, Value.ref 257, Value.builtin "function.__dict__", Value.builtin "function.__dict__#set"] }
noncomputable def o259 : Params → Obj := fun P => { cls := Value.type "getset_descriptor", data := Data.fields #[Value.str (Str.ofString "__weakref__") 586, Value.ref 257, Value.builtin "ExceptionGroup.__weakref__", Value.none] }
noncomputable def o260 : Params → Obj := fun P => { cls := Value.type "super", data := Data.fields #[Value.ref 257, Value.ref 257, Value.ref 257] }
noncomputable def o261 : Params → Obj := fun P => { cls := Value.type "builtin_function_or_method", data := Data.fields #[Value.builtin "object.__init_subclass__", Value.ref 257] }
noncomputable def o3p32 : Params → Obj := fun P => { cls := Value.type "dict", data := Data.dict #[{ hash := PyData.keyHash P (Str.ofString "__name__"), key := Value.str (Str.ofString "__name__") 165, val := Value.str (Str.ofString "rsa.key") 521 }, { hash := PyData.keyHash P (Str.ofString "__doc__"), key := Value.str (Str.ofString "__doc__") 166, val := Value.none }, { hash := PyData.keyHash P (Str.ofString "__package__"), key := Value.str (Str.ofString "__package__") 167, val := Value.none }, { hash := PyData.keyHash P (Str.ofString "__loader__"), key := Value.str (Str.ofString "__loader__") 168, val := Value.builtin "__main__.__loader__#opaque" }, { hash := PyData.keyHash P (Str.ofString "__spec__"), key := Value.str (Str.ofString "__spec__") 169, val := Value.none }, { hash := PyData.keyHash P (Str.ofString "__annotations__"), key := Value.str (Str.ofString "__annotations__") 170, val := Value.ref 6 }, { hash := PyData.keyHash P (Str.ofString "__builtins__"), key := Value.str (Str.ofString "__builtins__") 171, val := Value.ref 4 }, { hash := PyData.keyHash P (Str.ofString "__file__"), key := Value.str (Str.ofString "__file__") 173, val := Value.str (Str.ofString "/claim/cut.py") 172 }, { hash := PyData.keyHash P (Str.ofString "__cached__"), key := Value.str (Str.ofString "__cached__") 174, val := Value.none }, { hash := PyData.keyHash P (Str.ofString "NotRelativePrimeError"), key := Value.str (Str.ofString "NotRelativePrimeError") 221, val := Value.ref 32 }, { hash := PyData.keyHash P (Str.ofString "bit_size"), key := Value.str (Str.ofString "bit_size") 228, val := Value.ref 42 }, { hash := PyData.keyHash P (Str.ofString "byte_size"), key := Value.str (Str.ofString "byte_size") 235, val := Value.ref 49 }, { hash := PyData.keyHash P (Str.ofString "ceil_div"), key := Value.str (Str.ofString "ceil_div") 245, val := Value.ref 56 }, { hash := PyData.keyHash P (Str.ofString "extended_gcd"), key := Value.str (Str.ofString "extended_gcd") 260, val := Value.ref 63 }, { hash := PyData.keyHash P (Str.ofString "inverse"), key := Value.str (Str.ofString "inverse") 271, val := Value.ref 70 }, { hash := PyData.keyHash P (Str.ofString "assert_int"), key := Value.str (Str.ofString "assert_int") 281, val := Value.ref 77 }, { hash := PyData.keyHash P (Str.ofString "encrypt_int"), key := Value.str (Str.ofString "encrypt_int") 290, val := Value.ref 84 }, { hash := PyData.keyHash P (Str.ofString "decrypt_int"), key := Value.str (Str.ofString "decrypt_int") 300, val := Value.ref 91 }, { hash := PyData.keyHash P (Str.ofString "bytes2int"), key := Value.str (Str.ofString "bytes2int") 309, val := Value.ref 98 }, { hash := PyData.keyHash P (Str.ofString "int2bytes"), key := Value.str (Str.ofString "int2bytes") 319, val := Value.ref 106 }, { hash := PyData.keyHash P (Str.ofString "HASH_ASN1"), key := Value.str (Str.ofString "HASH_ASN1") 349, val := Value.ref 107 }, { hash := PyData.keyHash P (Str.ofString "CryptoError"), key := Value.str (Str.ofString "CryptoError") 369, val := Value.ref 117 }, { hash := PyData.keyHash P (Str.ofString "DecryptionError"), key := Value.str (Str.ofString "DecryptionError") 385, val := Value.ref 130 }, { hash := PyData.keyHash P (Str.ofString "VerificationError"), key := Value.str (Str.ofString "VerificationError") 401, val := Value.ref 142 }, { hash := PyData.keyHash P (Str.ofString "_pad_for_encryption"), key := Value.str (Str.ofString "_pad_for_encryption") 407, val := Value.ref 149 }, { hash := PyData.keyHash P (Str.ofString "_pad_for_signing"), key := Value.str (Str.ofString "_pad_for_signing") 418, val := Value.ref 156 }, { hash := PyData.keyHash P (Str.ofString "encrypt"), key := Value.str (Str.ofString "encrypt") 432, val := Value.ref 163 }, { hash := PyData.keyHash P (Str.ofString "decrypt"), key := Value.str (Str.ofString "decrypt") 448, val := Value.ref 170 }, { hash := PyData.keyHash P (Str.ofString "sign_hash"), key := Value.str (Str.ofString "sign_hash") 464, val := Value.ref 177 }, { hash := PyData.keyHash P (Str.ofString "verify"), key := Value.str (Str.ofString "verify") 480, val := Value.ref 184 }, { hash := PyData.keyHash P (Str.ofString "find_signature_hash"), key := Value.str (Str.ofString "find_signature_hash") 492, val := Value.ref 191 }, { hash := PyData.keyHash P (Str.ofString "_find_method_hash"), key := Value.str (Str.ofString "_find_method_hash") 501, val := Value.ref 198 }, { hash := PyData.keyHash P (Str.ofString "gcd"), key := Value.str (Str.ofString "gcd") 511, val := Value.ref 205 }, { hash := PyData.keyHash P (Str.ofString "are_relatively_prime"), key := Value.str (Str.ofString "are_relatively_prime") 520, val := Value.ref 212 }, { hash := PyData.keyHash P (Str.ofString "AbstractKey"), key := Value.str (Str.ofString "AbstractKey") 590, val := Value.ref 257 }, { hash := PyData.keyHash P (Str.ofString "PublicKey"), key := Value.str (Str.ofString "PublicKey") 623, val := Value.ref 285 }] 36 }
noncomputable def o12p32 : Params → Obj := fun P => { cls := Value.none, data := Data.fields #[Value.int 2 0, Value.int 0 0, Value.ref 20, Value.int 8 0, Value.int 0 0, Value.ref 41, Value.int 10 0, Value.int 0 0, Value.ref 48, Value.int 14 0, Value.int 0 0, Value.ref 55, Value.int 19 0, Value.int 0 0, Value.ref 62, Value.int 36 0, Value.int 0 0, Value.ref 69, Value.int 42 0, Value.int 0 0, Value.ref 76, Value.int 46 0, Value.int 0 0, Value.ref 83, Value.int 55 0, Value.int 0 0, Value.ref 90, Value.int 62 0, Value.int 0 0, Value.ref 97, Value.int 64 0, Value.int 0 0, Value.ref 105, Value.int 73 0, Value.int 0 0, Value.ref 113, Value.int 75 0, Value.int 0 0, Value.ref 126, Value.int 77 0, Value.int 0 0, Value.ref 138, Value.int 79 0, Value.int 0 0, Value.ref 148, Value.int 88 0, Value.int 0 0, Value.ref 155, Value.int 95 0, Value.int 0 0, Value.ref 162, Value.int 102 0, Value.int 0 0, Value.ref 169, Value.int 116 0, Value.int 0 0, Value.ref 176, Value.int 127 0, Value.int 0 0, Value.ref 183, Value.int 140 0, Value.int 0 0, Value.ref 190, Value.int 146 0, Value.int 0 0, Value.ref 197, Value.int 152 0, Value.int 0 0, Value.ref 204, Value.int 156 0, Value.int 0 0, Value.ref 211, Value.int 160 0, Value.int 0 0, Value.ref 218, Value.int 189 0, Value.int 0 0, Value.ref 267] }
noncomputable def o257p32 : Params → Obj := fun P => { cls := Value.type "type", data := Data.cls { name := Str.ofString "AbstractKey", bases := [Value.type "object"], mro := [Value.ref 257, Value.type "object"], ns := 256, qualname := Str.ofString "AbstractKey", subclasses := [Value.ref 285] }, slots := #[Option.none, Option.none, Option.some (Value.str (Str.ofString "AbstractKey") 523), Option.some (Value.str (Str.ofString "AbstractKey") 531), Option.some (Value.builtin "object.__new__"), Option.some (Value.bool Bool.true)] }
noncomputable def o262 : Params → Obj := fun P => { cls := Value.type "tuple", data := Data.seq #[Value.ref 257] }
noncomputable def o263 : Params → Obj := fun P => { cls := Value.type "builtin_function_or_method", data := Data.fields #[Value.builtin "type.__prepare__", Value.type "type"] }
noncomputable def o264 : Params → Obj := fun P => { cls := Value.type "dict", data := Data.dict #[{ hash := PyData.keyHash P (Str.ofString "__module__"), key := Value.str (Str.ofString "__module__") 598, val := Value.str (Str.ofString "rsa.key") 521 }, { hash := PyData.keyHash P (Str.ofString "__qualname__"), key := Value.str (Str.ofString "__qualname__") 600, val := Value.str (Str.ofString "PublicKey") 599 }, { hash := PyData.keyHash P (Str.ofString "__firstlineno__"), key := Value.str (Str.ofString "__firstlineno__") 602, val := Value.int 189 601 }, { hash := PyData.keyHash P (Str.ofString "__eq__"), key := Value.str (Str.ofString "__eq__") 610, val := Value.ref 275 }, { hash := PyData.keyHash P (Str.ofString "__ne__"), key := Value.str (Str.ofString "__ne__") 618, val := Value.ref 282 }, { hash := PyData.keyHash P (Str.ofString "__static_attributes__"), key := Value.str (Str.ofString "__static_attributes__") 619, val := Value.ref 283 }] 6 }
noncomputable def o265 : Params → Obj := fun P => { cls := Value.type "tuple", data := Data.seq #[] }
noncomputable def o266 : Params → Obj := fun P => { cls := Value.none, data := Data.fields #[Value.int 191 0, Value.int 4 0, Value.ref 274, Value.int 198 0, Value.int 4 0, Value.ref 281] }
noncomputable def o267 : Params → Obj := fun P => { cls := Value.type "code", data := Data.fields #[Value.str (Str.ofString "PublicKey") 593, Value.str (Str.ofString "PublicKey") 594, Value.str (Str.ofString "/claim/cut.py") 595, Value.int 189 0, Value.int 0 0, Value.int 0 0, Value.int 0 0, Value.int 0 0, Value.ref 265, Value.bool Bool.false, Value.int 181 0, Value.ref 266, Value.none, Value.none, Value.none, Value.none, Value.int 596 0, Value.int 189 0, Value.str (Str.ofString "/claim/cut.py") 597] }
noncomputable def o268 : Params → Obj := fun P => { cls := Value.type "frame", slots := #[Option.some (Value.ref 267), Option.some (Value.ref 3), Option.some (Value.ref 264), Option.none, Option.some (Value.str (Str.ofString "rsa.key") 521), Option.none, Option.some (Value.ref 0)] }
noncomputable def o269 : Params → Obj := fun P => { cls := Value.type "tuple", data := Data.seq #[] }
noncomputable def o270 : Params → Obj := fun P => { cls := Value.none, data := Data.fields #[] }
noncomputable def o271 : Params → Obj := fun P => { cls := Value.type "tuple", data := Data.seq #[Value.str (Str.ofString "self") 606, Value.str (Str.ofString "other") 607] }
noncomputable def o272 : Params → Obj := fun P => { cls := Value.type "tuple", data := Data.seq #[] }
noncomputable def o273 : Params → Obj := fun P => { cls := Value.none, data := Data.func { name := Str.ofString "__eq__", qualname := Str.ofString "PublicKey.__eq__", params := (fdA (nthS (fdB (nthS PP.main.body 32)) 0)), body := FuncBody.stmts (fdB (nthS (fdB (nthS PP.main.body 32)) 0)), scope := (fdS (nthS (fdB (nthS PP.main.body 32)) 0)), globals := 0, closure := [], defaults := Value.none, kwdefaults := Value.none } }
noncomputable def o274 : Params → Obj := fun P => { cls := Value.type "code", data := Data.fields #[Value.str (Str.ofString "__eq__") 603, Value.str (Str.ofString "PublicKey.__eq__") 604, Value.str (Str.ofString "/claim/cut.py") 605, Value.int 191 0, Value.int 2 0, Value.int 0 0, Value.int 0 0, Value.int 3 0, Value.ref 269, Value.bool Bool.true, Value.int 181 0, Value.ref 270, Value.none, Value.ref 271, Value.ref 272, Value.ref 273, Value.int 608 0, Value.int 191 0, Value.str (Str.ofString "/claim/cut.py") 609] }
noncomputable def o275 : Params → Obj := fun P => { cls := Value.type "function", data := Data.func { name := Str.ofString "__eq__", qualname := Str.ofString "PublicKey.__eq__", params := (fdA (nthS (fdB (nthS PP.main.body 32)) 0)), body := FuncBody.stmts (fdB (nthS (fdB (nthS PP.main.body 32)) 0)), scope := (fdS (nthS (fdB (nthS PP.main.body 32)) 0)), globals := 3, closure := [], defaults := Value.none, kwdefaults := Value.none, pyModule := Value.str (Str.ofString "rsa.key") 521, code := Value.ref 274 } }
noncomputable def o276 : Params → Obj := fun P => { cls := Value.type "tuple", data := Data.seq #[] }
noncomputable def o277 : Params → Obj := fun P => { cls := Value.none, data := Data.fields #[] }
noncomputable def o278 : Params → Obj := fun P => { cls := Value.type "tuple", data := Data.seq #[Value.str (Str.ofString "self") 614, Value.str (Str.ofString "other") 615] }
noncomputable def o279 : Params → Obj := fun P => { cls := Value.type "tuple", data := Data.seq #[] }
noncomputable def o280 : Params → Obj := fun P => { cls := Value.none, data := Data.func { name := Str.ofString "__ne__", qualname := Str.ofString "PublicKey.__ne__", params := (fdA (nthS (fdB (nthS PP.main.body 32)) 1)), body := FuncBody.stmts (fdB (nthS (fdB (nthS PP.main.body 32)) 1)), scope := (fdS (nthS (fdB (nthS PP.main.body 32)) 1)), globals := 0, closure := [], defaults := Value.none, kwdefaults := Value.none } }
noncomputable def o281 : Params → Obj := fun P => { cls := Value.type "code", data := Data.fields #[Value.str (Str.ofString "__ne__") 611, Value.str (Str.ofString "PublicKey.__ne__") 612, Value.str (Str.ofString "/claim/cut.py") 613, Value.int 198 0, Value.int 2 0, Value.int 0 0, Value.int 0 0, Value.int 3 0, Value.ref 276, Value.bool Bool.true, Value.int 181 0, Value.ref 277, Value.none, Value.ref 278, Value.ref 279, Value.ref 280, Value.int 616 0, Value.int 198 0, Value.str (Str.ofString "/claim/cut.py") 617] }
noncomputable def o282 : Params → Obj := fun P => { cls := Value.type "function", data := Data.func { name := Str.ofString "__ne__", qualname := Str.ofString "PublicKey.__ne__", params := (fdA (nthS (fdB (nthS PP.main.body 32)) 1)), body := FuncBody.stmts (fdB (nthS (fdB (nthS PP.main.body 32)) 1)), scope := (fdS (nthS (fdB (nthS PP.main.body 32)) 1)), globals := 3, closure := [], defaults := Value.none, kwdefaults := Value.none, pyModule := Value.str (Str.ofString "rsa.key") 521, code := Value.ref 281 } }
noncomputable def o283 : Params → Obj := fun P => { cls := Value.type "tuple", data := Data.seq #[] }
noncomputable def o284 : Params → Obj := fun P => { cls := Value.type "dict", data := Data.dict #[{ hash := PyData.keyHash P (Str.ofString "__module__"), key := Value.str (Str.ofString "__module__") 598, val := Value.str (Str.ofString "rsa.key") 521 }, { hash := PyData.keyHash P (Str.ofString "__firstlineno__"), key := Value.str (Str.ofString "__firstlineno__") 602, val := Value.int 189 601 }, { hash := PyData.keyHash P (Str.ofString "__eq__"), key := Value.str (Str.ofString "__eq__") 610, val := Value.ref 275 }, { hash := PyData.keyHash P (Str.ofString "__ne__"), key := Value.str (Str.ofString "__ne__") 618, val := Value.ref 282 }, { hash := PyData.keyHash P (Str.ofString "__static_attributes__"), key := Value.str (Str.ofString "__static_attributes__") 619, val := Value.ref 283 }, { hash := PyData.keyHash P (Str.ofString "__doc__"), key := Value.str (Str.ofString "__doc__") 620, val := Value.none }, { hash := PyData.keyHash P (Str.ofString "__hash__"), key := Value.str (Str.ofString "__hash__") 621, val := Value.none }] 3 }
noncomputable def o285 : Params → Obj := fun P => { cls := Value.type "type", data := Data.cls { name := Str.ofString "PublicKey", bases := [Value.ref 257], mro := [Value.ref 285, Value.ref 257, Value.type "object"], ns := 284, qualname := Str.ofString "PublicKey" }, slots := #[Option.some (Value.ref 262), Option.none, Option.some (Value.str (Str.ofString "PublicKey") 591), Option.some (Value.str (Str.ofString "PublicKey") 599), Option.some (Value.builtin "object.__new__"), Option.some (Value.bool Bool.true)] }
noncomputable def o286 : Params → Obj := fun P => { cls := Value.type "super", data := Data.fields #[Value.ref 285, Value.ref 285, Value.ref 285] }
noncomputable def o287 : Params → Obj := fun P => { cls := Value.type "builtin_function_or_method", data := Data.fields #[Value.builtin "object.__init_subclass__", Value.ref 285] }
noncomputable def o257p33 : Params → Obj := fun P => { cls := Value.type "type", data := Data.cls { name := Str.ofString "AbstractKey", bases := [Value.type "object"], mro := [Value.ref 257, Value.type "object"], ns := 256, qualname := Str.ofString "AbstractKey", subclasses := [Value.ref 285, Value.ref 332] }, slots := #[Option.none, Option.none, Option.some (Value.str (Str.ofString "AbstractKey") 523), Option.some (Value.str (Str.ofString "AbstractKey") 531), Option.some (Value.builtin "object.__new__"), Option.some (Value.bool Bool.true)] }
noncomputable def o288 : Params → Obj := fun P => { cls := Value.type "tuple", data := Data.seq #[Value.ref 257] }
noncomputable def o289 : Params → Obj := fun P => { cls := Value.type "builtin_function_or_method", data := Data.fields #[Value.builtin "type.__prepare__", Value.type "type"] }
noncomputable def o290 : Params → Obj := fun P => { cls := Value.type "dict", data := Data.dict #[{ hash := PyData.keyHash P (Str.ofString "__module__"), key := Value.str (Str.ofString "__module__") 631, val := Value.str (Str.ofString "rsa.key") 521 }, { hash := PyData.keyHash P (Str.ofString "__qualname__"), key := Value.str (Str.ofString "__qualname__") 633, val := Value.str (Str.ofString "PrivateKey") 632 }, { hash := PyData.keyHash P (Str.ofString "__firstlineno__"), key := Value.str (Str.ofString "__firstlineno__") 635, val := Value.int 200 634 }, { hash := PyData.keyHash P (Str.ofString "__init__"), key := Value.str (Str.ofString "__init__") 647, val := Value.ref 301 }, { hash := PyData.keyHash P (Str.ofString "__eq__"), key := Value.str (Str.ofString "__eq__") 655, val := Value.ref 308 }, { hash := PyData.keyHash P (Str.ofString "__ne__"), key := Value.str (Str.ofString "__ne__") 663, val := Value.ref 315 }, { hash := PyData.keyHash P (Str.ofString "blinded_decrypt"), key := Value.str (Str.ofString "blinded_decrypt") 677, val := Value.ref 322 }, { hash := PyData.keyHash P (Str.ofString "blinded_encrypt"), key := Value.str (Str.ofString "blinded_encrypt") 688, val := Value.ref 329 }, { hash := PyData.keyHash P (Str.ofString "__static_attributes__"), key := Value.str (Str.ofString "__static_attributes__") 695, val := Value.ref 330 }] 9 }
noncomputable def o291 : Params → Obj := fun P => { cls := Value.type "tuple", data := Data.seq #[] }
noncomputable def o292 : Params → Obj := fun P => { cls := Value.none, data := Data.fields #[Value.int 202 0, Value.int 4 0, Value.ref 300, Value.int 211 0, Value.int 4 0, Value.ref 307, Value.int 218 0, Value.int 4 0, Value.ref 314, Value.int 221 0, Value.int 4 0, Value.ref 321, Value.int 229 0, Value.int 4 0, Value.ref 328] }
noncomputable def o293 : Params → Obj := fun P => { cls := Value.type "code", data := Data.fields #[Value.str (Str.ofString "PrivateKey") 626, Value.str (Str.ofString "PrivateKey") 627, Value.str (Str.ofString "/claim/cut.py") 628, Value.int 200 0, Value.int 0 0, Value.int 0 0, Value.int 0 0, Value.int 0 0, Value.ref 291, Value.bool Bool.false, Value.int 181 0, Value.ref 292, Value.none, Value.none, Value.none, Value.none, Value.int 629 0, Value.int 200 0, Value.str (Str.ofString "/claim/cut.py") 630] }
noncomputable def o294 : Params → Obj := fun P => { cls := Value.type "frame", slots := #[Option.some (Value.ref 293), Option.some (Value.ref 3), Option.some (Value.ref 290), Option.none, Option.some (Value.str (Str.ofString "rsa.key") 521), Option.none, Option.some (Value.ref 0)] }
noncomputable def o295 : Params → Obj := fun P => { cls := Value.type "tuple", data := Data.seq #[] }
noncomputable def o296 : Params → Obj := fun P => { cls := Value.none, data := Data.fields #[] }
noncomputable def o297 : Params → Obj := fun P => { cls := Value.type "tuple", data := Data.seq #[Value.str (Str.ofString "self") 639, Value.str (Str.ofString "n") 640, Value.str (Str.ofString "e") 641, Value.str (Str.ofString "d") 642, Value.str (Str.ofString "p") 643, Value.str (Str.ofString "q") 644] }
noncomputable def o298 : Params → Obj := fun P => { cls := Value.type "tuple", data := Data.seq #[] }
noncomputable def o299 : Params → Obj := fun P => { cls := Value.none, data := Data.func { name := Str.ofString "__init__", qualname := Str.ofString "PrivateKey.__init__", params := (fdA (nthS (fdB (nthS PP.main.body 33)) 0)), body := FuncBody.stmts (fdB (nthS (fdB (nthS PP.main.body 33)) 0)), scope := (fdS (nthS (fdB (nthS PP.main.body 33)) 0)), globals := 0, closure := [], defaults := Value.none, kwdefaults := Value.none } }
noncomputable def o300 : Params → Obj := fun P => { cls := Value.type "code", data := Data.fields #[Value.str (Str.ofString "__init__") 636, Value.str (Str.ofString "PrivateKey.__init__") 637, Value.str (Str.ofString "/claim/cut.py") 638, Value.int 202 0, Value.int 6 0, Value.int 0 0, Value.int 0 0, Value.int 3 0, Value.ref 295, Value.bool Bool.true, Value.int 181 0, Value.ref 296, Value.none, Value.ref 297, Value.ref 298, Value.ref 299, Value.int 645 0, Value.int 202 0, Value.str (Str.ofString "/claim/cut.py") 646] }
noncomputable def o301 : Params → Obj := fun P => { cls := Value.type "function", data := Data.func { name := Str.ofString "__init__", qualname := Str.ofString "PrivateKey.__init__", params := (fdA (nthS (fdB (nthS PP.main.body 33)) 0)), body := FuncBody.stmts (fdB (nthS (fdB (nthS PP.main.body 33)) 0)), scope := (fdS (nthS (fdB (nthS PP.main.body 33)) 0)), globals := 3, closure := [], defaults := Value.none, kwdefaults := Value.none, pyModule := Value.str (Str.ofString "rsa.key") 521, code := Value.ref 300 } }
noncomputable def o302 : Params → Obj := fun P => { cls := Value.type "tuple", data := Data.seq #[] }
noncomputable def o303 : Params → Obj := fun P => { cls := Value.none, data := Data.fields #[] }
noncomputable def o304 : Params → Obj := fun P => { cls := Value.type "tuple", data := Data.seq #[Value.str (Str.ofString "self") 651, Value.str (Str.ofString "other") 652] }
noncomputable def o305 : Params → Obj := fun P => { cls := Value.type "tuple", data := Data.seq #[] }
noncomputable def o306 : Params → Obj := fun P => { cls := Value.none, data := Data.func { name := Str.ofString "__eq__", qualname := Str.ofString "PrivateKey.__eq__", params := (fdA (nthS (fdB (nthS PP.main.body 33)) 1)), body := FuncBody.stmts (fdB (nthS (fdB (nthS PP.main.body 33)) 1)), scope := (fdS (nthS (fdB (nthS PP.main.body 33)) 1)), globals := 0, closure := [], defaults := Value.none, kwdefaults := Value.none } }
noncomputable def o307 : Params → Obj := fun P => { cls := Value.type "code", data := Data.fields #[Value.str (Str.ofString "__eq__") 648, Value.str (Str.ofString "PrivateKey.__eq__") 649, Value.str (Str.ofString "/claim/cut.py") 650, Value.int 211 0, Value.int 2 0, Value.int 0 0, Value.int 0 0, Value.int 3 0, Value.ref 302, Value.bool Bool.true, Value.int 181 0, Value.ref 303, Value.none, Value.ref 304, Value.ref 305, Value.ref 306, Value.int 653 0, Value.int 211 0, Value.str (Str.ofString "/claim/cut.py") 654] }
noncomputable def o308 : Params → Obj := fun P => { cls := Value.type "function", data := Data.func { name := Str.ofString "__eq__", qualname := Str.ofString "PrivateKey.__eq__", params := (fdA (nthS (fdB (nthS PP.main.body 33)) 1)), body := FuncBody.stmts (fdB (nthS (fdB (nthS PP.main.body 33)) 1)), scope := (fdS (nthS (fdB (nthS PP.main.body 33)) 1)), globals := 3, closure := [], defaults := Value.none, kwdefaults := Value.none, pyModule := Value.str (Str.ofString "rsa.key") 521, code := Value.ref 307 } }
noncomputable def o309 : Params → Obj := fun P => { cls := Value.type "tuple", data := Data.seq #[] }
noncomputable def o310 : Params → Obj := fun P => { cls := Value.none, data := Data.fields #[] }
noncomputable def o311 : Params → Obj := fun P => { cls := Value.type "tuple", data := Data.seq #[Value.str (Str.ofString "self") 659, Value.str (Str.ofString "other") 660] }
noncomputable def o312 : Params → Obj := fun P => { cls := Value.type "tuple", data := Data.seq #[] }
noncomputable def o313 : Params → Obj := fun P => { cls := Value.none, data := Data.func { name := Str.ofString "__ne__", qualname := Str.ofString "PrivateKey.__ne__", params := (fdA (nthS (fdB (nthS PP.main.body 33)) 2)), body := FuncBody.stmts (fdB (nthS (fdB (nthS PP.main.body 33)) 2)), scope := (fdS (nthS (fdB (nthS PP.main.body 33)) 2)), globals := 0, closure := [], defaults := Value.none, kwdefaults := Value.none } }
noncomputable def o314 : Params → Obj := fun P => { cls := Value.type "code", data := Data.fields #[Value.str (Str.ofString "__ne__") 656, Value.str (Str.ofString "PrivateKey.__ne__") 657, Value.str (Str.ofString "/claim/cut.py") 658, Value.int 218 0, Value.int 2 0, Value.int 0 0, Value.int 0 0, Value.int 3 0, Value.ref 309, Value.bool Bool.true, Value.int 181 0, Value.ref 310, Value.none, Value.ref 311, Value.ref 312, Value.ref 313, Value.int 661 0, Value.int 218 0, Value.str (Str.ofString "/claim/cut.py") 662] }
noncomputable def o315 : Params → Obj := fun P => { cls := Value.type "function", data := Data.func { name := Str.ofString "__ne__", qualname := Str.ofString "PrivateKey.__ne__", params := (fdA (nthS (fdB (nthS PP.main.body 33)) 2)), body := FuncBody.stmts (fdB (nthS (fdB (nthS PP.main.body 33)) 2)), scope := (fdS (nthS (fdB (nthS PP.main.body 33)) 2)), globals := 3, closure := [], defaults := Value.none, kwdefaults := Value.none, pyModule := Value.str (Str.ofString "rsa.key") 521, code := Value.ref 314 } }
noncomputable def o316 : Params → Obj := fun P => { cls := Value.type "tuple", data := Data.seq #[] }
noncomputable def o317 : Params → Obj := fun P => { cls := Value.none, data := Data.fields #[] }
noncomputable def o318 : Params → Obj := fun P => { cls := Value.type "tuple", data := Data.seq #[Value.str (Str.ofString "self") 667, Value.str (Str.ofString "encrypted") 668, Value.str (Str.ofString "blinded") 669, Value.str (Str.ofString "blindfac_inverse") 670, Value.str (Str.ofString "s1") 671, Value.str (Str.ofString "s2") 672, Value.str (Str.ofString "h") 673, Value.str (Str.ofString "decrypted") 674] }
noncomputable def o319 : Params → Obj := fun P => { cls := Value.type "tuple", data := Data.seq #[] }
noncomputable def o320 : Params → Obj := fun P => { cls := Value.none, data := Data.func { name := Str.ofString "blinded_decrypt", qualname := Str.ofString "PrivateKey.blinded_decrypt", params := (fdA (nthS (fdB (nthS PP.main.body 33)) 3)), body := FuncBody.stmts (fdB (nthS (fdB (nthS PP.main.body 33)) 3)), scope := (fdS (nthS (fdB (nthS PP.main.body 33)) 3)), globals := 0, closure := [], defaults := Value.none, kwdefaults := Value.none } }
noncomputable def o321 : Params → Obj := fun P => { cls := Value.type "code", data := Data.fields #[Value.str (Str.ofString "blinded_decrypt") 664, Value.str (Str.ofString "PrivateKey.blinded_decrypt") 665, Value.str (Str.ofString "/claim/cut.py") 666, Value.int 221 0, Value.int 2 0, Value.int 0 0, Value.int 0 0, Value.int 3 0, Value.ref 316, Value.bool Bool.true, Value.int 181 0, Value.ref 317, Value.none, Value.ref 318, Value.ref 319, Value.ref 320, Value.int 675 0, Value.int 221 0, Value.str (Str.ofString "/claim/cut.py") 676] }
noncomputable def o322 : Params → Obj := fun P => { cls := Value.type "function", data := Data.func { name := Str.ofString "blinded_decrypt", qualname := Str.ofString "PrivateKey.blinded_decrypt", params := (fdA (nthS (fdB (nthS PP.main.body 33)) 3)), body := FuncBody.stmts (fdB (nthS (fdB (nthS PP.main.body 33)) 3)), scope := (fdS (nthS (fdB (nthS PP.main.body 33)) 3)), globals := 3, closure := [], defaults := Value.none, kwdefaults := Value.none, pyModule := Value.str (Str.ofString "rsa.key") 521, code := Value.ref 321 } }
noncomputable def o323 : Params → Obj := fun P => { cls := Value.type "tuple", data := Data.seq #[] }
noncomputable def o324 : Params → Obj := fun P => { cls := Value.none, data := Data.fields #[] }
noncomputable def o325 : Params → Obj := fun P => { cls := Value.type "tuple", data := Data.seq #[Value.str (Str.ofString "self") 681, Value.str (Str.ofString "message") 682, Value.str (Str.ofString "blinded") 683, Value.str (Str.ofString "blindfac_inverse") 684, Value.str (Str.ofString "encrypted") 685] }
noncomputable def o326 : Params → Obj := fun P => { cls := Value.type "tuple", data := Data.seq #[] }
noncomputable def o327 : Params → Obj := fun P => { cls := Value.none, data := Data.func { name := Str.ofString "blinded_encrypt", qualname := Str.ofString "PrivateKey.blinded_encrypt", params := (fdA (nthS (fdB (nthS PP.main.body 33)) 4)), body := FuncBody.stmts (fdB (nthS (fdB (nthS PP.main.body 33)) 4)), scope := (fdS (nthS (fdB (nthS PP.main.body 33)) 4)), globals := 0, closure := [], defaults := Value.none, kwdefaults := Value.none } }
noncomputable def o328 : Params → Obj := fun P => { cls := Value.type "code", data := Data.fields #[Value.str (Str.ofString "blinded_encrypt") 678, Value.str (Str.ofString "PrivateKey.blinded_encrypt") 679, Value.str (Str.ofString "/claim/cut.py") 680, Value.int 229 0, Value.int 2 0, Value.int 0 0, Value.int 0 0, Value.int 3 0, Value.ref 323, Value.bool Bool.true, Value.int 181 0, Value.ref 324, Value.none, Value.ref 325, Value.ref 326, Value.ref 327, Value.int 686 0, Value.int 229 0, Value.str (Str.ofString "/claim/cut.py") 687] }
noncomputable def o329 : Params → Obj := fun P => { cls := Value.type "function", data := Data.func { name := Str.ofString "blinded_encrypt", qualname := Str.ofString "PrivateKey.blinded_encrypt", params := (fdA (nthS (fdB (nthS PP.main.body 33)) 4)), body := FuncBody.stmts (fdB (nthS (fdB (nthS PP.main.body 33)) 4)), scope := (fdS (nthS (fdB (nthS PP.main.body 33)) 4)), globals := 3, closure := [], defaults := Value.none, kwdefaults := Value.none, pyModule := Value.str (Str.ofString "rsa.key") 521, code := Value.ref 328 } }
noncomputable def o330 : Params → Obj := fun P => { cls := Value.type "tuple", data := Data.seq #[Value.str (Str.ofString "coef") 689, Value.str (Str.ofString "d") 690, Value.str (Str.ofString "exp1") 691, Value.str (Str.ofString "exp2") 692, Value.str (Str.ofString "p") 693, Value.str (Str.ofString "q") 694] }
noncomputable def o331 : Params → Obj := fun P => { cls := Value.type "dict", data := Data.dict #[{ hash := PyData.keyHash P (Str.ofString "__module__"), key := Value.str (Str.ofString "__module__") 631, val := Value.str (Str.ofString "rsa.key") 521 }, { hash := PyData.keyHash P (Str.ofString "__firstlineno__"), key := Value.str (Str.ofString "__firstlineno__") 635, val := Value.int 200 634 }, { hash := PyData.keyHash P (Str.ofString "__init__"), key := Value.str (Str.ofString "__init__") 647, val := Value.ref 301 }, { hash := PyData.keyHash P (Str.ofString "__eq__"), key := Value.str (Str.ofString "__eq__") 655, val := Value.ref 308 }, { hash := PyData.keyHash P (Str.ofString "__ne__"), key := Value.str (Str.ofString "__ne__") 663, val := Value.ref 315 }, { hash := PyData.keyHash P (Str.ofString "blinded_decrypt"), key := Value.str (Str.ofString "blinded_decrypt") 677, val := Value.ref 322 }, { hash := PyData.keyHash P (Str.ofString "blinded_encrypt"), key := Value.str (Str.ofString "blinded_encrypt") 688, val := Value.ref 329 }, { hash := PyData.keyHash P (Str.ofString "__static_attributes__"), key := Value.str (Str.ofString "__static_attributes__") 695, val := Value.ref 330 }, { hash := PyData.keyHash P (Str.ofString "__doc__"), key := Value.str (Str.ofString "__doc__") 696, val := Value.none }, { hash := PyData.keyHash P (Str.ofString "__hash__"), key := Value.str (Str.ofString "__hash__") 697, val := Value.none }] 3 }
noncomputable def o332 : Params → Obj := fun P => { cls := Value.type "type", data := Data.cls { name := Str.ofString "PrivateKey", bases := [Value.ref 257], mro := [Value.ref 332, Value.ref 257, Value.type "object"], ns := 331, qualname := Str.ofString "PrivateKey" }, slots := #[Option.some (Value.ref 288), Option.none, Option.some (Value.str (Str.ofString "PrivateKey") 624), Option.some (Value.str (Str.ofString "PrivateKey") 632), Option.some (Value.builtin "object.__new__"), Option.some (Value.bool Bool.true)] }
noncomputable def o333 : Params → Obj := fun P => { cls := Value.type "super", data := Data.fields #[Value.ref 332, Value.ref 332, Value.ref 332] }
noncomputable def o334 : Params → Obj := fun P => { cls := Value.type "builtin_function_or_method", data := Data.fields #[Value.builtin "object.__init_subclass__", Value.ref 332] }
noncomputable def o3p35 : Params → Obj := fun P => { cls := Value.type "dict", data := Data.dict #[{ hash := PyData.keyHash P (Str.ofString "__name__"), key := Value.str (Str.ofString "__name__") 165, val := Value.str (Str.ofString "law_ys0001_11") 700 }, { hash := PyData.keyHash P (Str.ofString "__doc__"), key := Value.str (Str.ofString "__doc__") 166, val := Value.none }, { hash := PyData.keyHash P (Str.ofString "__package__"), key := Value.str (Str.ofString "__package__") 167, val := Value.none }, { hash := PyData.keyHash P (Str.ofString "__loader__"), key := Value.str (Str.ofString "__loader__") 168, val := Value.builtin "__main__.__loader__#opaque" }, { hash := PyData.keyHash P (Str.ofString "__spec__"), key := Value.str (Str.ofString "__spec__") 169, val := Value.none }, { hash := PyData.keyHash P (Str.ofString "__annotations__"), key := Value.str (Str.ofString "__annotations__") 170, val := Value.ref 6 }, { hash := PyData.keyHash P (Str.ofString "__builtins__"), key := Value.str (Str.ofString "__builtins__") 171, val := Value.ref 4 }, { hash := PyData.keyHash P (Str.ofString "__file__"), key := Value.str (Str.ofString "__file__") 173, val := Value.str (Str.ofString "/claim/cut.py") 172 }, { hash := PyData.keyHash P (Str.ofString "__cached__"), key := Value.str (Str.ofString "__cached__") 174, val := Value.none }, { hash := PyData.keyHash P (Str.ofString "NotRelativePrimeError"), key := Value.str (Str.ofString "NotRelativePrimeError") 221, val := Value.ref 32 }, { hash := PyData.keyHash P (Str.ofString "bit_size"), key := Value.str (Str.ofString "bit_size") 228, val := Value.ref 42 }, { hash := PyData.keyHash P (Str.ofString "byte_size"), key := Value.str (Str.ofString "byte_size") 235, val := Value.ref 49 }, { hash := PyData.keyHash P (Str.ofString "ceil_div"), key := Value.str (Str.ofString "ceil_div") 245, val := Value.ref 56 }, { hash := PyData.keyHash P (Str.ofString "extended_gcd"), key := Value.str (Str.ofString "extended_gcd") 260, val := Value.ref 63 }, { hash := PyData.keyHash P (Str.ofString "inverse"), key := Value.str (Str.ofString "inverse") 271, val := Value.ref 70 }, { hash := PyData.keyHash P (Str.ofString "assert_int"), key := Value.str (Str.ofString "assert_int") 281, val := Value.ref 77 }, { hash := PyData.keyHash P (Str.ofString "encrypt_int"), key := Value.str (Str.ofString "encrypt_int") 290, val := Value.ref 84 }, { hash := PyData.keyHash P (Str.ofString "decrypt_int"), key := Value.str (Str.ofString "decrypt_int") 300, val := Value.ref 91 }, { hash := PyData.keyHash P (Str.ofString "bytes2int"), key := Value.str (Str.ofString "bytes2int") 309, val := Value.ref 98 }, { hash := PyData.keyHash P (Str.ofString "int2bytes"), key := Value.str (Str.ofString "int2bytes") 319, val := Value.ref 106 }, { hash := PyData.keyHash P (Str.ofString "HASH_ASN1"), key := Value.str (Str.ofString "HASH_ASN1") 349, val := Value.ref 107 }, { hash := PyData.keyHash P (Str.ofString "CryptoError"), key := Value.str (Str.ofString "CryptoError") 369, val := Value.ref 117 }, { hash := PyData.keyHash P (Str.ofString "DecryptionError"), key := Value.str (Str.ofString "DecryptionError") 385, val := Value.ref 130 }, { hash := PyData.keyHash P (Str.ofString "VerificationError"), key := Value.str (Str.ofString "VerificationError") 401, val := Value.ref 142 }, { hash := PyData.keyHash P (Str.ofString "_pad_for_encryption"), key := Value.str (Str.ofString "_pad_for_encryption") 407, val := Value.ref 149 }, { hash := PyData.keyHash P (Str.ofString "_pad_for_signing"), key := Value.str (Str.ofString "_pad_for_signing") 418, val := Value.ref 156 }, { hash := PyData.keyHash P (Str.ofString "encrypt"), key := Value.str (Str.ofString "encrypt") 432, val := Value.ref 163 }, { hash := PyData.keyHash P (Str.ofString "decrypt"), key := Value.str (Str.ofString "decrypt") 448, val := Value.ref 170 }, { hash := PyData.keyHash P (Str.ofString "sign_hash"), key := Value.str (Str.ofString "sign_hash") 464, val := Value.ref 177 }, { hash := PyData.keyHash P (Str.ofString "verify"), key := Value.str (Str.ofString "verify") 480, val := Value.ref 184 }, { hash := PyData.keyHash P (Str.ofString "find_signature_hash"), key := Value.str (Str.ofString "find_signature_hash") 492, val := Value.ref 191 }, { hash := PyData.keyHash P (Str.ofString "_find_method_hash"), key := Value.str (Str.ofString "_find_method_hash") 501, val := Value.ref 198 }, { hash := PyData.keyHash P (Str.ofString "gcd"), key := Value.str (Str.ofString "gcd") 511, val := Value.ref 205 }, { hash := PyData.keyHash P (Str.ofString "are_relatively_prime"), key := Value.str (Str.ofString "are_relatively_prime") 520, val := Value.ref 212 }, { hash := PyData.keyHash P (Str.ofString "AbstractKey"), key := Value.str (Str.ofString "AbstractKey") 590, val := Value.ref 257 }, { hash := PyData.keyHash P (Str.ofString "PublicKey"), key := Value.str (Str.ofString "PublicKey") 623, val := Value.ref 285 }, { hash := PyData.keyHash P (Str.ofString "PrivateKey"), key := Value.str (Str.ofString "PrivateKey") 699, val := Value.ref 332 }, { hash := PyData.keyHash P (Str.ofString "_law_cell"), key := Value.str (Str.ofString "_law_cell") 709, val := Value.ref 341 }] 38 }
noncomputable def o12p35 : Params → Obj := fun P => { cls := Value.none, data := Data.fields #[Value.int 2 0, Value.int 0 0, Value.ref 20, Value.int 8 0, Value.int 0 0, Value.ref 41, Value.int 10 0, Value.int 0 0, Value.ref 48, Value.int 14 0, Value.int 0 0, Value.ref 55, Value.int 19 0, Value.int 0 0, Value.ref 62, Value.int 36 0, Value.int 0 0, Value.ref 69, Value.int 42 0, Value.int 0 0, Value.ref 76, Value.int 46 0, Value.int 0 0, Value.ref 83, Value.int 55 0, Value.int 0 0, Value.ref 90, Value.int 62 0, Value.int 0 0, Value.ref 97, Value.int 64 0, Value.int 0 0, Value.ref 105, Value.int 73 0, Value.int 0 0, Value.ref 113, Value.int 75 0, Value.int 0 0, Value.ref 126, Value.int 77 0, Value.int 0 0, Value.ref 138, Value.int 79 0, Value.int 0 0, Value.ref 148, Value.int 88 0, Value.int 0 0, Value.ref 155, Value.int 95 0, Value.int 0 0, Value.ref 162, Value.int 102 0, Value.int 0 0, Value.ref 169, Value.int 116 0, Value.int 0 0, Value.ref 176, Value.int 127 0, Value.int 0 0, Value.ref 183, Value.int 140 0, Value.int 0 0, Value.ref 190, Value.int 146 0, Value.int 0 0, Value.ref 197, Value.int 152 0, Value.int 0 0, Value.ref 204, Value.int 156 0, Value.int 0 0, Value.ref 211, Value.int 160 0, Value.int 0 0, Value.ref 218, Value.int 189 0, Value.int 0 0, Value.ref 267, Value.int 200 0, Value.int 0 0, Value.ref 293, Value.int 234 0, Value.int 0 0, Value.ref 340] }
noncomputable def o335 : Params → Obj := fun P => { cls := Value.type "tuple", data := Data.seq #[] }
noncomputable def o336 : Params → Obj := fun P => { cls := Value.none, data := Data.fields #[] }
noncomputable def o337 : Params → Obj := fun P => { cls := Value.type "tuple", data := Data.seq #[Value.str (Str.ofString "script") 705, Value.str (Str.ofString "k") 706] }
noncomputable def o338 : Params → Obj := fun P => { cls := Value.type "tuple", data := Data.seq #[] }
noncomputable def o339 : Params → Obj := fun P => { cls := Value.none, data := Data.func { name := Str.ofString "_law_cell", qualname := Str.ofString "_law_cell", params := (fdA (nthS PP.main.body 35)), body := FuncBody.stmts (fdB (nthS PP.main.body 35)), scope := (fdS (nthS PP.main.body 35)), globals := 0, closure := [], defaults := Value.none, kwdefaults := Value.none } }
noncomputable def o340 : Params → Obj := fun P => { cls := Value.type "code", data := Data.fields #[Value.str (Str.ofString "_law_cell") 702, Value.str (Str.ofString "_law_cell") 703, Value.str (Str.ofString "/claim/cut.py") 704, Value.int 234 0, Value.int 2 0, Value.int 0 0, Value.int 0 0, Value.int 3 0, Value.ref 335, Value.bool Bool.true, Value.int 181 0, Value.ref 336, Value.none, Value.ref 337, Value.ref 338, Value.ref 339, Value.int 707 0, Value.int 234 0, Value.str (Str.ofString "/claim/cut.py") 708] }
noncomputable def o341 : Params → Obj := fun P => { cls := Value.type "function", data := Data.func { name := Str.ofString "_law_cell", qualname := Str.ofString "_law_cell", params := (fdA (nthS PP.main.body 35)), body := FuncBody.stmts (fdB (nthS PP.main.body 35)), scope := (fdS (nthS PP.main.body 35)), globals := 3, closure := [], defaults := Value.none, kwdefaults := Value.none, pyModule := Value.str (Str.ofString "law_ys0001_11") 700, code := Value.ref 340 } }
noncomputable def o342 : Params → Obj := fun P => { cls := Value.type "tuple", data := Data.seq #[] }
noncomputable def o343 : Params → Obj := fun P => { cls := Value.none, data := Data.fields #[] }
noncomputable def o344 : Params → Obj := fun P => { cls := Value.type "tuple", data := Data.seq #[Value.str (Str.ofString "script") 713, Value.str (Str.ofString "start") 714, Value.str (Str.ofString "size") 715, Value.str (Str.ofString "row") 716, Value.str (Str.ofString "number") 717, Value.str (Str.ofString "k") 718] }
noncomputable def o345 : Params → Obj := fun P => { cls := Value.type "tuple", data := Data.seq #[] }
noncomputable def o346 : Params → Obj := fun P => { cls := Value.none, data := Data.func { name := Str.ofString "_law_octets", qualname := Str.ofString "_law_octets", params := (fdA (nthS PP.main.body 36)), body := FuncBody.stmts (fdB (nthS PP.main.body 36)), scope := (fdS (nthS PP.main.body 36)), globals := 0, closure := [], defaults := Value.none, kwdefaults := Value.none } }
noncomputable def o347 : Params → Obj := fun P => { cls := Value.type "code", data := Data.fields #[Value.str (Str.ofString "_law_octets") 710, Value.str (Str.ofString "_law_octets") 711, Value.str (Str.ofString "/claim/cut.py") 712, Value.int 238 0, Value.int 3 0, Value.int 0 0, Value.int 0 0, Value.int 3 0, Value.ref 342, Value.bool Bool.true, Value.int 181 0, Value.ref 343, Value.none, Value.ref 344, Value.ref 345, Value.ref 346, Value.int 719 0, Value.int 238 0, Value.str (Str.ofString "/claim/cut.py") 720] }
noncomputable def o348 : Params → Obj := fun P => { cls := Value.type "function", data := Data.func { name := Str.ofString "_law_octets", qualname := Str.ofString "_law_octets", params := (fdA (nthS PP.main.body 36)), body := FuncBody.stmts (fdB (nthS PP.main.body 36)), scope := (fdS (nthS PP.main.body 36)), globals := 3, closure := [], defaults := Value.none, kwdefaults := Value.none, pyModule := Value.str (Str.ofString "law_ys0001_11") 700, code := Value.ref 347 } }
noncomputable def o349 : Params → Obj := fun P => { cls := Value.type "tuple", data := Data.seq #[] }
noncomputable def o350 : Params → Obj := fun P => { cls := Value.none, data := Data.fields #[] }
noncomputable def o351 : Params → Obj := fun P => { cls := Value.type "tuple", data := Data.seq #[Value.str (Str.ofString "one") 725, Value.str (Str.ofString "two") 726, Value.str (Str.ofString "k") 727] }
noncomputable def o352 : Params → Obj := fun P => { cls := Value.type "tuple", data := Data.seq #[] }
noncomputable def o353 : Params → Obj := fun P => { cls := Value.none, data := Data.func { name := Str.ofString "_law_common", qualname := Str.ofString "_law_common", params := (fdA (nthS PP.main.body 37)), body := FuncBody.stmts (fdB (nthS PP.main.body 37)), scope := (fdS (nthS PP.main.body 37)), globals := 0, closure := [], defaults := Value.none, kwdefaults := Value.none } }
noncomputable def o354 : Params → Obj := fun P => { cls := Value.type "code", data := Data.fields #[Value.str (Str.ofString "_law_common") 722, Value.str (Str.ofString "_law_common") 723, Value.str (Str.ofString "/claim/cut.py") 724, Value.int 247 0, Value.int 2 0, Value.int 0 0, Value.int 0 0, Value.int 3 0, Value.ref 349, Value.bool Bool.true, Value.int 181 0, Value.ref 350, Value.none, Value.ref 351, Value.ref 352, Value.ref 353, Value.int 728 0, Value.int 247 0, Value.str (Str.ofString "/claim/cut.py") 729] }
noncomputable def o355 : Params → Obj := fun P => { cls := Value.type "function", data := Data.func { name := Str.ofString "_law_common", qualname := Str.ofString "_law_common", params := (fdA (nthS PP.main.body 37)), body := FuncBody.stmts (fdB (nthS PP.main.body 37)), scope := (fdS (nthS PP.main.body 37)), globals := 3, closure := [], defaults := Value.none, kwdefaults := Value.none, pyModule := Value.str (Str.ofString "law_ys0001_11") 700, code := Value.ref 354 } }
noncomputable def o356 : Params → Obj := fun P => { cls := Value.type "tuple", data := Data.seq #[] }
noncomputable def o357 : Params → Obj := fun P => { cls := Value.none, data := Data.fields #[] }
noncomputable def o358 : Params → Obj := fun P => { cls := Value.type "tuple", data := Data.seq #[Value.str (Str.ofString "one") 734, Value.str (Str.ofString "whole") 735, Value.str (Str.ofString "old") 736, Value.str (Str.ofString "new") 737, Value.str (Str.ofString "first") 738, Value.str (Str.ofString "second") 739, Value.str (Str.ofString "k") 740, Value.str (Str.ofString "times") 741] }
noncomputable def o359 : Params → Obj := fun P => { cls := Value.type "tuple", data := Data.seq #[] }
noncomputable def o360 : Params → Obj := fun P => { cls := Value.none, data := Data.func { name := Str.ofString "_law_inverse", qualname := Str.ofString "_law_inverse", params := (fdA (nthS PP.main.body 38)), body := FuncBody.stmts (fdB (nthS PP.main.body 38)), scope := (fdS (nthS PP.main.body 38)), globals := 0, closure := [], defaults := Value.none, kwdefaults := Value.none } }
noncomputable def o361 : Params → Obj := fun P => { cls := Value.type "code", data := Data.fields #[Value.str (Str.ofString "_law_inverse") 731, Value.str (Str.ofString "_law_inverse") 732, Value.str (Str.ofString "/claim/cut.py") 733, Value.int 253 0, Value.int 2 0, Value.int 0 0, Value.int 0 0, Value.int 3 0, Value.ref 356, Value.bool Bool.true, Value.int 181 0, Value.ref 357, Value.none, Value.ref 358, Value.ref 359, Value.ref 360, Value.int 742 0, Value.int 253 0, Value.str (Str.ofString "/claim/cut.py") 743] }
noncomputable def o362 : Params → Obj := fun P => { cls := Value.type "function", data := Data.func { name := Str.ofString "_law_inverse", qualname := Str.ofString "_law_inverse", params := (fdA (nthS PP.main.body 38)), body := FuncBody.stmts (fdB (nthS PP.main.body 38)), scope := (fdS (nthS PP.main.body 38)), globals := 3, closure := [], defaults := Value.none, kwdefaults := Value.none, pyModule := Value.str (Str.ofString "law_ys0001_11") 700, code := Value.ref 361 } }
noncomputable def o363 : Params → Obj := fun P => { cls := Value.type "tuple", data := Data.seq #[] }
noncomputable def o364 : Params → Obj := fun P => { cls := Value.none, data := Data.fields #[] }
noncomputable def o365 : Params → Obj := fun P => { cls := Value.type "tuple", data := Data.seq #[Value.str (Str.ofString "n") 748] }
noncomputable def o366 : Params → Obj := fun P => { cls := Value.type "tuple", data := Data.seq #[] }
noncomputable def o367 : Params → Obj := fun P => { cls := Value.none, data := Data.func { name := Str.ofString "_law_size", qualname := Str.ofString "_law_size", params := (fdA (nthS PP.main.body 39)), body := FuncBody.stmts (fdB (nthS PP.main.body 39)), scope := (fdS (nthS PP.main.body 39)), globals := 0, closure := [], defaults := Value.none, kwdefaults := Value.none } }
noncomputable def o368 : Params → Obj := fun P => { cls := Value.type "code", data := Data.fields #[Value.str (Str.ofString "_law_size") 745, Value.str (Str.ofString "_law_size") 746, Value.str (Str.ofString "/claim/cut.py") 747, Value.int 263 0, Value.int 1 0, Value.int 0 0, Value.int 0 0, Value.int 3 0, Value.ref 363, Value.bool Bool.true, Value.int 181 0, Value.ref 364, Value.none, Value.ref 365, Value.ref 366, Value.ref 367, Value.int 749 0, Value.int 263 0, Value.str (Str.ofString "/claim/cut.py") 750] }
noncomputable def o369 : Params → Obj := fun P => { cls := Value.type "function", data := Data.func { name := Str.ofString "_law_size", qualname := Str.ofString "_law_size", params := (fdA (nthS PP.main.body 39)), body := FuncBody.stmts (fdB (nthS PP.main.body 39)), scope := (fdS (nthS PP.main.body 39)), globals := 3, closure := [], defaults := Value.none, kwdefaults := Value.none, pyModule := Value.str (Str.ofString "law_ys0001_11") 700, code := Value.ref 368 } }
noncomputable def o370 : Params → Obj := fun P => { cls := Value.type "tuple", data := Data.seq #[] }
noncomputable def o371 : Params → Obj := fun P => { cls := Value.none, data := Data.fields #[] }
noncomputable def o372 : Params → Obj := fun P => { cls := Value.none, data := Data.func { name := Str.ofString "_law_keys", qualname := Str.ofString "_law_keys", params := (fdA (nthS PP.main.body 40)), body := FuncBody.stmts (fdB (nthS PP.main.body 40)), scope := (fdS (nthS PP.main.body 40)), globals := 0, closure := [], defaults := Value.none, kwdefaults := Value.none } }
noncomputable def o373 : Params → Obj := fun P => { cls := Value.type "code", data := Data.fields #[Value.str (Str.ofString "_law_keys") 752, Value.str (Str.ofString "_law_keys") 753, Value.str (Str.ofString "/claim/cut.py") 754, Value.int 265 0, Value.int 3 0, Value.int 0 0, Value.int 0 0, Value.int 3 0, Value.ref 370, Value.bool Bool.true, Value.int 181 0, Value.ref 371, Value.none, Value.none, Value.none, Value.ref 372, Value.int 755 0, Value.int 265 0, Value.str (Str.ofString "/claim/cut.py") 756] }
noncomputable def o374 : Params → Obj := fun P => { cls := Value.type "function", data := Data.func { name := Str.ofString "_law_keys", qualname := Str.ofString "_law_keys", params := (fdA (nthS PP.main.body 40)), body := FuncBody.stmts (fdB (nthS PP.main.body 40)), scope := (fdS (nthS PP.main.body 40)), globals := 3, closure := [], defaults := Value.none, kwdefaults := Value.none, pyModule := Value.str (Str.ofString "law_ys0001_11") 700, code := Value.ref 373 } }
noncomputable def o375 : Params → Obj := fun P => { cls := Value.type "tuple", data := Data.seq #[] }
noncomputable def o376 : Params → Obj := fun P => { cls := Value.none, data := Data.fields #[] }
noncomputable def o377 : Params → Obj := fun P => { cls := Value.type "tuple", data := Data.seq #[Value.str (Str.ofString "octets") 761, Value.str (Str.ofString "number") 762, Value.str (Str.ofString "octet") 763] }
noncomputable def o378 : Params → Obj := fun P => { cls := Value.type "tuple", data := Data.seq #[] }
noncomputable def o379 : Params → Obj := fun P => { cls := Value.none, data := Data.func { name := Str.ofString "_law_number", qualname := Str.ofString "_law_number", params := (fdA (nthS PP.main.body 41)), body := FuncBody.stmts (fdB (nthS PP.main.body 41)), scope := (fdS (nthS PP.main.body 41)), globals := 0, closure := [], defaults := Value.none, kwdefaults := Value.none } }
noncomputable def o380 : Params → Obj := fun P => { cls := Value.type "code", data := Data.fields #[Value.str (Str.ofString "_law_number") 758, Value.str (Str.ofString "_law_number") 759, Value.str (Str.ofString "/claim/cut.py") 760, Value.int 277 0, Value.int 1 0, Value.int 0 0, Value.int 0 0, Value.int 3 0, Value.ref 375, Value.bool Bool.true, Value.int 181 0, Value.ref 376, Value.none, Value.ref 377, Value.ref 378, Value.ref 379, Value.int 764 0, Value.int 277 0, Value.str (Str.ofString "/claim/cut.py") 765] }
noncomputable def o381 : Params → Obj := fun P => { cls := Value.type "function", data := Data.func { name := Str.ofString "_law_number", qualname := Str.ofString "_law_number", params := (fdA (nthS PP.main.body 41)), body := FuncBody.stmts (fdB (nthS PP.main.body 41)), scope := (fdS (nthS PP.main.body 41)), globals := 3, closure := [], defaults := Value.none, kwdefaults := Value.none, pyModule := Value.str (Str.ofString "law_ys0001_11") 700, code := Value.ref 380 } }
noncomputable def o382 : Params → Obj := fun P => { cls := Value.type "tuple", data := Data.seq #[] }
noncomputable def o383 : Params → Obj := fun P => { cls := Value.none, data := Data.fields #[] }
noncomputable def o384 : Params → Obj := fun P => { cls := Value.none, data := Data.func { name := Str.ofString "_law_written", qualname := Str.ofString "_law_written", params := (fdA (nthS PP.main.body 42)), body := FuncBody.stmts (fdB (nthS PP.main.body 42)), scope := (fdS (nthS PP.main.body 42)), globals := 0, closure := [], defaults := Value.none, kwdefaults := Value.none } }
noncomputable def o385 : Params → Obj := fun P => { cls := Value.type "code", data := Data.fields #[Value.str (Str.ofString "_law_written") 767, Value.str (Str.ofString "_law_written") 768, Value.str (Str.ofString "/claim/cut.py") 769, Value.int 282 0, Value.int 2 0, Value.int 0 0, Value.int 0 0, Value.int 3 0, Value.ref 382, Value.bool Bool.true, Value.int 181 0, Value.ref 383, Value.none, Value.none, Value.none, Value.ref 384, Value.int 770 0, Value.int 282 0, Value.str (Str.ofString "/claim/cut.py") 771] }
noncomputable def o386 : Params → Obj := fun P => { cls := Value.type "function", data := Data.func { name := Str.ofString "_law_written", qualname := Str.ofString "_law_written", params := (fdA (nthS PP.main.body 42)), body := FuncBody.stmts (fdB (nthS PP.main.body 42)), scope := (fdS (nthS PP.main.body 42)), globals := 3, closure := [], defaults := Value.none, kwdefaults := Value.none, pyModule := Value.str (Str.ofString "law_ys0001_11") 700, code := Value.ref 385 } }
noncomputable def o387 : Params → Obj := fun P => { cls := Value.type "tuple", data := Data.seq #[] }
noncomputable def o388 : Params → Obj := fun P => { cls := Value.none, data := Data.fields #[] }
noncomputable def o389 : Params → Obj := fun P => { cls := Value.type "tuple", data := Data.seq #[Value.str (Str.ofString "rows") 776, Value.str (Str.ofString "name") 777, Value.str (Str.ofString "last") 778, Value.str (Str.ofString "size") 779, Value.str (Str.ofString "found") 780, Value.str (Str.ofString "kind") 781, Value.str (Str.ofString "inner") 782] }
noncomputable def o390 : Params → Obj := fun P => { cls := Value.type "tuple", data := Data.seq #[] }
noncomputable def o391 : Params → Obj := fun P => { cls := Value.none, data := Data.func { name := Str.ofString "_law_codes", qualname := Str.ofString "_law_codes", params := (fdA (nthS PP.main.body 43)), body := FuncBody.stmts (fdB (nthS PP.main.body 43)), scope := (fdS (nthS PP.main.body 43)), globals := 0, closure := [], defaults := Value.none, kwdefaults := Value.none } }
noncomputable def o392 : Params → Obj := fun P => { cls := Value.type "code", data := Data.fields #[Value.str (Str.ofString "_law_codes") 773, Value.str (Str.ofString "_law_codes") 774, Value.str (Str.ofString "/claim/cut.py") 775, Value.int 284 0, Value.int 0 0, Value.int 0 0, Value.int 0 0, Value.int 3 0, Value.ref 387, Value.bool Bool.true, Value.int 181 0, Value.ref 388, Value.none, Value.ref 389, Value.ref 390, Value.ref 391, Value.int 783 0, Value.int 284 0, Value.str (Str.ofString "/claim/cut.py") 784] }
noncomputable def o393 : Params → Obj := fun P => { cls := Value.type "function", data := Data.func { name := Str.ofString "_law_codes", qualname := Str.ofString "_law_codes", params := (fdA (nthS PP.main.body 43)), body := FuncBody.stmts (fdB (nthS PP.main.body 43)), scope := (fdS (nthS PP.main.body 43)), globals := 3, closure := [], defaults := Value.none, kwdefaults := Value.none, pyModule := Value.str (Str.ofString "law_ys0001_11") 700, code := Value.ref 392 } }
noncomputable def o394 : Params → Obj := fun P => { cls := Value.type "tuple", data := Data.seq #[] }
noncomputable def o395 : Params → Obj := fun P => { cls := Value.none, data := Data.fields #[] }
noncomputable def o396 : Params → Obj := fun P => { cls := Value.type "tuple", data := Data.seq #[Value.str (Str.ofString "clear") 789, Value.str (Str.ofString "size") 790] }
noncomputable def o397 : Params → Obj := fun P => { cls := Value.type "tuple", data := Data.seq #[] }
noncomputable def o398 : Params → Obj := fun P => { cls := Value.none, data := Data.func { name := Str.ofString "_law_block", qualname := Str.ofString "_law_block", params := (fdA (nthS PP.main.body 44)), body := FuncBody.stmts (fdB (nthS PP.main.body 44)), scope := (fdS (nthS PP.main.body 44)), globals := 0, closure := [], defaults := Value.none, kwdefaults := Value.none } }
noncomputable def o399 : Params → Obj := fun P => { cls := Value.type "code", data := Data.fields #[Value.str (Str.ofString "_law_block") 786, Value.str (Str.ofString "_law_block") 787, Value.str (Str.ofString "/claim/cut.py") 788, Value.int 295 0, Value.int 2 0, Value.int 0 0, Value.int 0 0, Value.int 3 0, Value.ref 394, Value.bool Bool.true, Value.int 181 0, Value.ref 395, Value.none, Value.ref 396, Value.ref 397, Value.ref 398, Value.int 791 0, Value.int 295 0, Value.str (Str.ofString "/claim/cut.py") 792] }
noncomputable def o400 : Params → Obj := fun P => { cls := Value.type "function", data := Data.func { name := Str.ofString "_law_block", qualname := Str.ofString "_law_block", params := (fdA (nthS PP.main.body 44)), body := FuncBody.stmts (fdB (nthS PP.main.body 44)), scope := (fdS (nthS PP.main.body 44)), globals := 3, closure := [], defaults := Value.none, kwdefaults := Value.none, pyModule := Value.str (Str.ofString "law_ys0001_11") 700, code := Value.ref 399 } }
noncomputable def o401 : Params → Obj := fun P => { cls := Value.type "tuple", data := Data.seq #[] }
noncomputable def o402 : Params → Obj := fun P => { cls := Value.none, data := Data.fields #[] }
noncomputable def o403 : Params → Obj := fun P => { cls := Value.none, data := Data.func { name := Str.ofString "_law_has", qualname := Str.ofString "_law_has", params := (fdA (nthS PP.main.body 45)), body := FuncBody.stmts (fdB (nthS PP.main.body 45)), scope := (fdS (nthS PP.main.body 45)), globals := 0, closure := [], defaults := Value.none, kwdefaults := Value.none } }
noncomputable def o404 : Params → Obj := fun P => { cls := Value.type "code", data := Data.fields #[Value.str (Str.ofString "_law_has") 794, Value.str (Str.ofString "_law_has") 795, Value.str (Str.ofString "/claim/cut.py") 796, Value.int 297 0, Value.int 2 0, Value.int 0 0, Value.int 0 0, Value.int 3 0, Value.ref 401, Value.bool Bool.true, Value.int 181 0, Value.ref 402, Value.none, Value.none, Value.none, Value.ref 403, Value.int 797 0, Value.int 297 0, Value.str (Str.ofString "/claim/cut.py") 798] }
noncomputable def o405 : Params → Obj := fun P => { cls := Value.type "function", data := Data.func { name := Str.ofString "_law_has", qualname := Str.ofString "_law_has", params := (fdA (nthS PP.main.body 45)), body := FuncBody.stmts (fdB (nthS PP.main.body 45)), scope := (fdS (nthS PP.main.body 45)), globals := 3, closure := [], defaults := Value.none, kwdefaults := Value.none, pyModule := Value.str (Str.ofString "law_ys0001_11") 700, code := Value.ref 404 } }
noncomputable def o406 : Params → Obj := fun P => { cls := Value.type "tuple", data := Data.seq #[] }
noncomputable def o407 : Params → Obj := fun P => { cls := Value.none, data := Data.fields #[] }
noncomputable def o408 : Params → Obj := fun P => { cls := Value.none, data := Data.func { name := Str.ofString "_law_name", qualname := Str.ofString "_law_name", params := (fdA (nthS PP.main.body 46)), body := FuncBody.stmts (fdB (nthS PP.main.body 46)), scope := (fdS (nthS PP.main.body 46)), globals := 0, closure := [], defaults := Value.none, kwdefaults := Value.none } }
noncomputable def o409 : Params → Obj := fun P => { cls := Value.type "code", data := Data.fields #[Value.str (Str.ofString "_law_name") 800, Value.str (Str.ofString "_law_name") 801, Value.str (Str.ofString "/claim/cut.py") 802, Value.int 299 0, Value.int 1 0, Value.int 0 0, Value.int 0 0, Value.int 3 0, Value.ref 406, Value.bool Bool.true, Value.int 181 0, Value.ref 407, Value.none, Value.none, Value.none, Value.ref 408, Value.int 803 0, Value.int 299 0, Value.str (Str.ofString "/claim/cut.py") 804] }
noncomputable def o410 : Params → Obj := fun P => { cls := Value.type "function", data := Data.func { name := Str.ofString "_law_name", qualname := Str.ofString "_law_name", params := (fdA (nthS PP.main.body 46)), body := FuncBody.stmts (fdB (nthS PP.main.body 46)), scope := (fdS (nthS PP.main.body 46)), globals := 3, closure := [], defaults := Value.none, kwdefaults := Value.none, pyModule := Value.str (Str.ofString "law_ys0001_11") 700, code := Value.ref 409 } }
noncomputable def o411 : Params → Obj := fun P => { cls := Value.type "tuple", data := Data.seq #[] }
noncomputable def o412 : Params → Obj := fun P => { cls := Value.none, data := Data.fields #[] }
noncomputable def o413 : Params → Obj := fun P => { cls := Value.none, data := Data.func { name := Str.ofString "_law_judged", qualname := Str.ofString "_law_judged", params := (fdA (nthS PP.main.body 47)), body := FuncBody.stmts (fdB (nthS PP.main.body 47)), scope := (fdS (nthS PP.main.body 47)), globals := 0, closure := [], defaults := Value.none, kwdefaults := Value.none } }
noncomputable def o414 : Params → Obj := fun P => { cls := Value.type "code", data := Data.fields #[Value.str (Str.ofString "_law_judged") 806, Value.str (Str.ofString "_law_judged") 807, Value.str (Str.ofString "/claim/cut.py") 808, Value.int 302 0, Value.int 4 0, Value.int 0 0, Value.int 0 0, Value.int 3 0, Value.ref 411, Value.bool Bool.true, Value.int 181 0, Value.ref 412, Value.none, Value.none, Value.none, Value.ref 413, Value.int 809 0, Value.int 302 0, Value.str (Str.ofString "/claim/cut.py") 810] }
noncomputable def o415 : Params → Obj := fun P => { cls := Value.type "function", data := Data.func { name := Str.ofString "_law_judged", qualname := Str.ofString "_law_judged", params := (fdA (nthS PP.main.body 47)), body := FuncBody.stmts (fdB (nthS PP.main.body 47)), scope := (fdS (nthS PP.main.body 47)), globals := 3, closure := [], defaults := Value.none, kwdefaults := Value.none, pyModule := Value.str (Str.ofString "law_ys0001_11") 700, code := Value.ref 414 } }
noncomputable def o416 : Params → Obj := fun P => { cls := Value.type "tuple", data := Data.seq #[] }
noncomputable def o417 : Params → Obj := fun P => { cls := Value.none, data := Data.fields #[] }
noncomputable def o418 : Params → Obj := fun P => { cls := Value.type "tuple", data := Data.seq #[Value.str (Str.ofString "told") 815, Value.str (Str.ofString "signature") 816, Value.str (Str.ofString "public") 817] }
noncomputable def o419 : Params → Obj := fun P => { cls := Value.type "tuple", data := Data.seq #[] }
noncomputable def o420 : Params → Obj := fun P => { cls := Value.none, data := Data.func { name := Str.ofString "_law_told", qualname := Str.ofString "_law_told", params := (fdA (nthS PP.main.body 48)), body := FuncBody.stmts (fdB (nthS PP.main.body 48)), scope := (fdS (nthS PP.main.body 48)), globals := 0, closure := [], defaults := Value.none, kwdefaults := Value.none } }
noncomputable def o421 : Params → Obj := fun P => { cls := Value.type "code", data := Data.fields #[Value.str (Str.ofString "_law_told") 812, Value.str (Str.ofString "_law_told") 813, Value.str (Str.ofString "/claim/cut.py") 814, Value.int 314 0, Value.int 3 0, Value.int 0 0, Value.int 0 0, Value.int 3 0, Value.ref 416, Value.bool Bool.true, Value.int 181 0, Value.ref 417, Value.none, Value.ref 418, Value.ref 419, Value.ref 420, Value.int 818 0, Value.int 314 0, Value.str (Str.ofString "/claim/cut.py") 819] }
noncomputable def o422 : Params → Obj := fun P => { cls := Value.type "function", data := Data.func { name := Str.ofString "_law_told", qualname := Str.ofString "_law_told", params := (fdA (nthS PP.main.body 48)), body := FuncBody.stmts (fdB (nthS PP.main.body 48)), scope := (fdS (nthS PP.main.body 48)), globals := 3, closure := [], defaults := Value.none, kwdefaults := Value.none, pyModule := Value.str (Str.ofString "law_ys0001_11") 700, code := Value.ref 421 } }
noncomputable def o423 : Params → Obj := fun P => { cls := Value.type "tuple", data := Data.seq #[] }
noncomputable def o424 : Params → Obj := fun P => { cls := Value.none, data := Data.fields #[] }
noncomputable def o425 : Params → Obj := fun P => { cls := Value.type "tuple", data := Data.seq #[Value.str (Str.ofString "octets") 824, Value.str (Str.ofString "private") 825] }
noncomputable def o426 : Params → Obj := fun P => { cls := Value.type "tuple", data := Data.seq #[] }
noncomputable def o427 : Params → Obj := fun P => { cls := Value.none, data := Data.func { name := Str.ofString "_law_read", qualname := Str.ofString "_law_read", params := (fdA (nthS PP.main.body 49)), body := FuncBody.stmts (fdB (nthS PP.main.body 49)), scope := (fdS (nthS PP.main.body 49)), globals := 0, closure := [], defaults := Value.none, kwdefaults := Value.none } }
noncomputable def o428 : Params → Obj := fun P => { cls := Value.type "code", data := Data.fields #[Value.str (Str.ofString "_law_read") 821, Value.str (Str.ofString "_law_read") 822, Value.str (Str.ofString "/claim/cut.py") 823, Value.int 321 0, Value.int 2 0, Value.int 0 0, Value.int 0 0, Value.int 3 0, Value.ref 423, Value.bool Bool.true, Value.int 181 0, Value.ref 424, Value.none, Value.ref 425, Value.ref 426, Value.ref 427, Value.int 826 0, Value.int 321 0, Value.str (Str.ofString "/claim/cut.py") 827] }
noncomputable def o429 : Params → Obj := fun P => { cls := Value.type "function", data := Data.func { name := Str.ofString "_law_read", qualname := Str.ofString "_law_read", params := (fdA (nthS PP.main.body 49)), body := FuncBody.stmts (fdB (nthS PP.main.body 49)), scope := (fdS (nthS PP.main.body 49)), globals := 3, closure := [], defaults := Value.none, kwdefaults := Value.none, pyModule := Value.str (Str.ofString "law_ys0001_11") 700, code := Value.ref 428 } }
noncomputable def o3p50 : Params → Obj := fun P => { cls := Value.type "dict", data := Data.dict #[{ hash := PyData.keyHash P (Str.ofString "__name__"), key := Value.str (Str.ofString "__name__") 165, val := Value.str (Str.ofString "law_ys0001_11") 700 }, { hash := PyData.keyHash P (Str.ofString "__doc__"), key := Value.str (Str.ofString "__doc__") 166, val := Value.none }, { hash := PyData.keyHash P (Str.ofString "__package__"), key := Value.str (Str.ofString "__package__") 167, val := Value.none }, { hash := PyData.keyHash P (Str.ofString "__loader__"), key := Value.str (Str.ofString "__loader__") 168, val := Value.builtin "__main__.__loader__#opaque" }, { hash := PyData.keyHash P (Str.ofString "__spec__"), key := Value.str (Str.ofString "__spec__") 169, val := Value.none }, { hash := PyData.keyHash P (Str.ofString "__annotations__"), key := Value.str (Str.ofString "__annotations__") 170, val := Value.ref 6 }, { hash := PyData.keyHash P (Str.ofString "__builtins__"), key := Value.str (Str.ofString "__builtins__") 171, val := Value.ref 4 }, { hash := PyData.keyHash P (Str.ofString "__file__"), key := Value.str (Str.ofString "__file__") 173, val := Value.str (Str.ofString "/claim/cut.py") 172 }, { hash := PyData.keyHash P (Str.ofString "__cached__"), key := Value.str (Str.ofString "__cached__") 174, val := Value.none }, { hash := PyData.keyHash P (Str.ofString "NotRelativePrimeError"), key := Value.str (Str.ofString "NotRelativePrimeError") 221, val := Value.ref 32 }, { hash := PyData.keyHash P (Str.ofString "bit_size"), key := Value.str (Str.ofString "bit_size") 228, val := Value.ref 42 }, { hash := PyData.keyHash P (Str.ofString "byte_size"), key := Value.str (Str.ofString "byte_size") 235, val := Value.ref 49 }, { hash := PyData.keyHash P (Str.ofString "ceil_div"), key := Value.str (Str.ofString "ceil_div") 245, val := Value.ref 56 }, { hash := PyData.keyHash P (Str.ofString "extended_gcd"), key := Value.str (Str.ofString "extended_gcd") 260, val := Value.ref 63 }, { hash := PyData.keyHash P (Str.ofString "inverse"), key := Value.str (Str.ofString "inverse") 271, val := Value.ref 70 }, { hash := PyData.keyHash P (Str.ofString "assert_int"), key := Value.str (Str.ofString "assert_int") 281, val := Value.ref 77 }, { hash := PyData.keyHash P (Str.ofString "encrypt_int"), key := Value.str (Str.ofString "encrypt_int") 290, val := Value.ref 84 }, { hash := PyData.keyHash P (Str.ofString "decrypt_int"), key := Value.str (Str.ofString "decrypt_int") 300, val := Value.ref 91 }, { hash := PyData.keyHash P (Str.ofString "bytes2int"), key := Value.str (Str.ofString "bytes2int") 309, val := Value.ref 98 }, { hash := PyData.keyHash P (Str.ofString "int2bytes"), key := Value.str (Str.ofString "int2bytes") 319, val := Value.ref 106 }, { hash := PyData.keyHash P (Str.ofString "HASH_ASN1"), key := Value.str (Str.ofString "HASH_ASN1") 349, val := Value.ref 107 }, { hash := PyData.keyHash P (Str.ofString "CryptoError"), key := Value.str (Str.ofString "CryptoError") 369, val := Value.ref 117 }, { hash := PyData.keyHash P (Str.ofString "DecryptionError"), key := Value.str (Str.ofString "DecryptionError") 385, val := Value.ref 130 }, { hash := PyData.keyHash P (Str.ofString "VerificationError"), key := Value.str (Str.ofString "VerificationError") 401, val := Value.ref 142 }, { hash := PyData.keyHash P (Str.ofString "_pad_for_encryption"), key := Value.str (Str.ofString "_pad_for_encryption") 407, val := Value.ref 149 }, { hash := PyData.keyHash P (Str.ofString "_pad_for_signing"), key := Value.str (Str.ofString "_pad_for_signing") 418, val := Value.ref 156 }, { hash := PyData.keyHash P (Str.ofString "encrypt"), key := Value.str (Str.ofString "encrypt") 432, val := Value.ref 163 }, { hash := PyData.keyHash P (Str.ofString "decrypt"), key := Value.str (Str.ofString "decrypt") 448, val := Value.ref 170 }, { hash := PyData.keyHash P (Str.ofString "sign_hash"), key := Value.str (Str.ofString "sign_hash") 464, val := Value.ref 177 }, { hash := PyData.keyHash P (Str.ofString "verify"), key := Value.str (Str.ofString "verify") 480, val := Value.ref 184 }, { hash := PyData.keyHash P (Str.ofString "find_signature_hash"), key := Value.str (Str.ofString "find_signature_hash") 492, val := Value.ref 191 }, { hash := PyData.keyHash P (Str.ofString "_find_method_hash"), key := Value.str (Str.ofString "_find_method_hash") 501, val := Value.ref 198 }, { hash := PyData.keyHash P (Str.ofString "gcd"), key := Value.str (Str.ofString "gcd") 511, val := Value.ref 205 }, { hash := PyData.keyHash P (Str.ofString "are_relatively_prime"), key := Value.str (Str.ofString "are_relatively_prime") 520, val := Value.ref 212 }, { hash := PyData.keyHash P (Str.ofString "AbstractKey"), key := Value.str (Str.ofString "AbstractKey") 590, val := Value.ref 257 }, { hash := PyData.keyHash P (Str.ofString "PublicKey"), key := Value.str (Str.ofString "PublicKey") 623, val := Value.ref 285 }, { hash := PyData.keyHash P (Str.ofString "PrivateKey"), key := Value.str (Str.ofString "PrivateKey") 699, val := Value.ref 332 }, { hash := PyData.keyHash P (Str.ofString "_law_cell"), key := Value.str (Str.ofString "_law_cell") 709, val := Value.ref 341 }, { hash := PyData.keyHash P (Str.ofString "_law_octets"), key := Value.str (Str.ofString "_law_octets") 721, val := Value.ref 348 }, { hash := PyData.keyHash P (Str.ofString "_law_common"), key := Value.str (Str.ofString "_law_common") 730, val := Value.ref 355 }, { hash := PyData.keyHash P (Str.ofString "_law_inverse"), key := Value.str (Str.ofString "_law_inverse") 744, val := Value.ref 362 }, { hash := PyData.keyHash P (Str.ofString "_law_size"), key := Value.str (Str.ofString "_law_size") 751, val := Value.ref 369 }, { hash := PyData.keyHash P (Str.ofString "_law_keys"), key := Value.str (Str.ofString "_law_keys") 757, val := Value.ref 374 }, { hash := PyData.keyHash P (Str.ofString "_law_number"), key := Value.str (Str.ofString "_law_number") 766, val := Value.ref 381 }, { hash := PyData.keyHash P (Str.ofString "_law_written"), key := Value.str (Str.ofString "_law_written") 772, val := Value.ref 386 }, { hash := PyData.keyHash P (Str.ofString "_law_codes"), key := Value.str (Str.ofString "_law_codes") 785, val := Value.ref 393 }, { hash := PyData.keyHash P (Str.ofString "_law_block"), key := Value.str (Str.ofString "_law_block") 793, val := Value.ref 400 }, { hash := PyData.keyHash P (Str.ofString "_law_has"), key := Value.str (Str.ofString "_law_has") 799, val := Value.ref 405 }, { hash := PyData.keyHash P (Str.ofString "_law_name"), key := Value.str (Str.ofString "_law_name") 805, val := Value.ref 410 }, { hash := PyData.keyHash P (Str.ofString "_law_judged"), key := Value.str (Str.ofString "_law_judged") 811, val := Value.ref 415 }, { hash := PyData.keyHash P (Str.ofString "_law_told"), key := Value.str (Str.ofString "_law_told") 820, val := Value.ref 422 }, { hash := PyData.keyHash P (Str.ofString "_law_read"), key := Value.str (Str.ofString "_law_read") 828, val := Value.ref 429 }, { hash := PyData.keyHash P (Str.ofString "_law_found"), key := Value.str (Str.ofString "_law_found") 836, val := Value.ref 436 }] 53 }
noncomputable def o12p50 : Params → Obj := fun P => { cls := Value.none, data := Data.fields #[Value.int 2 0, Value.int 0 0, Value.ref 20, Value.int 8 0, Value.int 0 0, Value.ref 41, Value.int 10 0, Value.int 0 0, Value.ref 48, Value.int 14 0, Value.int 0 0, Value.ref 55, Value.int 19 0, Value.int 0 0, Value.ref 62, Value.int 36 0, Value.int 0 0, Value.ref 69, Value.int 42 0, Value.int 0 0, Value.ref 76, Value.int 46 0, Value.int 0 0, Value.ref 83, Value.int 55 0, Value.int 0 0, Value.ref 90, Value.int 62 0, Value.int 0 0, Value.ref 97, Value.int 64 0, Value.int 0 0, Value.ref 105, Value.int 73 0, Value.int 0 0, Value.ref 113, Value.int 75 0, Value.int 0 0, Value.ref 126, Value.int 77 0, Value.int 0 0, Value.ref 138, Value.int 79 0, Value.int 0 0, Value.ref 148, Value.int 88 0, Value.int 0 0, Value.ref 155, Value.int 95 0, Value.int 0 0, Value.ref 162, Value.int 102 0, Value.int 0 0, Value.ref 169, Value.int 116 0, Value.int 0 0, Value.ref 176, Value.int 127 0, Value.int 0 0, Value.ref 183, Value.int 140 0, Value.int 0 0, Value.ref 190, Value.int 146 0, Value.int 0 0, Value.ref 197, Value.int 152 0, Value.int 0 0, Value.ref 204, Value.int 156 0, Value.int 0 0, Value.ref 211, Value.int 160 0, Value.int 0 0, Value.ref 218, Value.int 189 0, Value.int 0 0, Value.ref 267, Value.int 200 0, Value.int 0 0, Value.ref 293, Value.int 234 0, Value.int 0 0, Value.ref 340, Value.int 238 0, Value.int 0 0, Value.ref 347, Value.int 247 0, Value.int 0 0, Value.ref 354, Value.int 253 0, Value.int 0 0, Value.ref 361, Value.int 263 0, Value.int 0 0, Value.ref 368, Value.int 265 0, Value.int 0 0, Value.ref 373, Value.int 277 0, Value.int 0 0, Value.ref 380, Value.int 282 0, Value.int 0 0, Value.ref 385, Value.int 284 0, Value.int 0 0, Value.ref 392, Value.int 295 0, Value.int 0 0, Value.ref 399, Value.int 297 0, Value.int 0 0, Value.ref 404, Value.int 299 0, Value.int 0 0, Value.ref 409, Value.int 302 0, Value.int 0 0, Value.ref 414, Value.int 314 0, Value.int 0 0, Value.ref 421, Value.int 321 0, Value.int 0 0, Value.ref 428, Value.int 326 0, Value.int 0 0, Value.ref 435] }
noncomputable def o430 : Params → Obj := fun P => { cls := Value.type "tuple", data := Data.seq #[] }
noncomputable def o431 : Params → Obj := fun P => { cls := Value.none, data := Data.fields #[] }
noncomputable def o432 : Params → Obj := fun P => { cls := Value.type "tuple", data := Data.seq #[Value.str (Str.ofString "signature") 832, Value.str (Str.ofString "public") 833] }
noncomputable def o433 : Params → Obj := fun P => { cls := Value.type "tuple", data := Data.seq #[] }
noncomputable def o434 : Params → Obj := fun P => { cls := Value.none, data := Data.func { name := Str.ofString "_law_found", qualname := Str.ofString "_law_found", params := (fdA (nthS PP.main.body 50)), body := FuncBody.stmts (fdB (nthS PP.main.body 50)), scope := (fdS (nthS PP.main.body 50)), globals := 0, closure := [], defaults := Value.none, kwdefaults := Value.none } }
noncomputable def o435 : Params → Obj := fun P => { cls := Value.type "code", data := Data.fields #[Value.str (Str.ofString "_law_found") 829, Value.str (Str.ofString "_law_found") 830, Value.str (Str.ofString "/claim/cut.py") 831, Value.int 326 0, Value.int 2 0, Value.int 0 0, Value.int 0 0, Value.int 3 0, Value.ref 430, Value.bool Bool.true, Value.int 181 0, Value.ref 431, Value.none, Value.ref 432, Value.ref 433, Value.ref 434, Value.int 834 0, Value.int 326 0, Value.str (Str.ofString "/claim/cut.py") 835] }
noncomputable def o436 : Params → Obj := fun P => { cls := Value.type "function", data := Data.func { name := Str.ofString "_law_found", qualname := Str.ofString "_law_found", params := (fdA (nthS PP.main.body 50)), body := FuncBody.stmts (fdB (nthS PP.main.body 50)), scope := (fdS (nthS PP.main.body 50)), globals := 3, closure := [], defaults := Value.none, kwdefaults := Value.none, pyModule := Value.str (Str.ofString "law_ys0001_11") 700, code := Value.ref 435 } }
noncomputable def o3p51 : Params → Obj := fun P => { cls := Value.type "dict", data := Data.dict #[{ hash := PyData.keyHash P (Str.ofString "__name__"), key := Value.str (Str.ofString "__name__") 165, val := Value.str (Str.ofString "law_ys0001_11") 700 }, { hash := PyData.keyHash P (Str.ofString "__doc__"), key := Value.str (Str.ofString "__doc__") 166, val := Value.none }, { hash := PyData.keyHash P (Str.ofString "__package__"), key := Value.str (Str.ofString "__package__") 167, val := Value.none }, { hash := PyData.keyHash P (Str.ofString "__loader__"), key := Value.str (Str.ofString "__loader__") 168, val := Value.builtin "__main__.__loader__#opaque" }, { hash := PyData.keyHash P (Str.ofString "__spec__"), key := Value.str (Str.ofString "__spec__") 169, val := Value.none }, { hash := PyData.keyHash P (Str.ofString "__annotations__"), key := Value.str (Str.ofString "__annotations__") 170, val := Value.ref 6 }, { hash := PyData.keyHash P (Str.ofString "__builtins__"), key := Value.str (Str.ofString "__builtins__") 171, val := Value.ref 4 }, { hash := PyData.keyHash P (Str.ofString "__file__"), key := Value.str (Str.ofString "__file__") 173, val := Value.str (Str.ofString "/claim/cut.py") 172 }, { hash := PyData.keyHash P (Str.ofString "__cached__"), key := Value.str (Str.ofString "__cached__") 174, val := Value.none }, { hash := PyData.keyHash P (Str.ofString "NotRelativePrimeError"), key := Value.str (Str.ofString "NotRelativePrimeError") 221, val := Value.ref 32 }, { hash := PyData.keyHash P (Str.ofString "bit_size"), key := Value.str (Str.ofString "bit_size") 228, val := Value.ref 42 }, { hash := PyData.keyHash P (Str.ofString "byte_size"), key := Value.str (Str.ofString "byte_size") 235, val := Value.ref 49 }, { hash := PyData.keyHash P (Str.ofString "ceil_div"), key := Value.str (Str.ofString "ceil_div") 245, val := Value.ref 56 }, { hash := PyData.keyHash P (Str.ofString "extended_gcd"), key := Value.str (Str.ofString "extended_gcd") 260, val := Value.ref 63 }, { hash := PyData.keyHash P (Str.ofString "inverse"), key := Value.str (Str.ofString "inverse") 271, val := Value.ref 70 }, { hash := PyData.keyHash P (Str.ofString "assert_int"), key := Value.str (Str.ofString "assert_int") 281, val := Value.ref 77 }, { hash := PyData.keyHash P (Str.ofString "encrypt_int"), key := Value.str (Str.ofString "encrypt_int") 290, val := Value.ref 84 }, { hash := PyData.keyHash P (Str.ofString "decrypt_int"), key := Value.str (Str.ofString "decrypt_int") 300, val := Value.ref 91 }, { hash := PyData.keyHash P (Str.ofString "bytes2int"), key := Value.str (Str.ofString "bytes2int") 309, val := Value.ref 98 }, { hash := PyData.keyHash P (Str.ofString "int2bytes"), key := Value.str (Str.ofString "int2bytes") 319, val := Value.ref 106 }, { hash := PyData.keyHash P (Str.ofString "HASH_ASN1"), key := Value.str (Str.ofString "HASH_ASN1") 349, val := Value.ref 107 }, { hash := PyData.keyHash P (Str.ofString "CryptoError"), key := Value.str (Str.ofString "CryptoError") 369, val := Value.ref 117 }, { hash := PyData.keyHash P (Str.ofString "DecryptionError"), key := Value.str (Str.ofString "DecryptionError") 385, val := Value.ref 130 }, { hash := PyData.keyHash P (Str.ofString "VerificationError"), key := Value.str (Str.ofString "VerificationError") 401, val := Value.ref 142 }, { hash := PyData.keyHash P (Str.ofString "_pad_for_encryption"), key := Value.str (Str.ofString "_pad_for_encryption") 407, val := Value.ref 149 }, { hash := PyData.keyHash P (Str.ofString "_pad_for_signing"), key := Value.str (Str.ofString "_pad_for_signing") 418, val := Value.ref 156 }, { hash := PyData.keyHash P (Str.ofString "encrypt"), key := Value.str (Str.ofString "encrypt") 432, val := Value.ref 163 }, { hash := PyData.keyHash P (Str.ofString "decrypt"), key := Value.str (Str.ofString "decrypt") 448, val := Value.ref 170 }, { hash := PyData.keyHash P (Str.ofString "sign_hash"), key := Value.str (Str.ofString "sign_hash") 464, val := Value.ref 177 }, { hash := PyData.keyHash P (Str.ofString "verify"), key := Value.str (Str.ofString "verify") 480, val := Value.ref 184 }, { hash := PyData.keyHash P (Str.ofString "find_signature_hash"), key := Value.str (Str.ofString "find_signature_hash") 492, val := Value.ref 191 }, { hash := PyData.keyHash P (Str.ofString "_find_method_hash"), key := Value.str (Str.ofString "_find_method_hash") 501, val := Value.ref 198 }, { hash := PyData.keyHash P (Str.ofString "gcd"), key := Value.str (Str.ofString "gcd") 511, val := Value.ref 205 }, { hash := PyData.keyHash P (Str.ofString "are_relatively_prime"), key := Value.str (Str.ofString "are_relatively_prime") 520, val := Value.ref 212 }, { hash := PyData.keyHash P (Str.ofString "AbstractKey"), key := Value.str (Str.ofString "AbstractKey") 590, val := Value.ref 257 }, { hash := PyData.keyHash P (Str.ofString "PublicKey"), key := Value.str (Str.ofString "PublicKey") 623, val := Value.ref 285 }, { hash := PyData.keyHash P (Str.ofString "PrivateKey"), key := Value.str (Str.ofString "PrivateKey") 699, val := Value.ref 332 }, { hash := PyData.keyHash P (Str.ofString "_law_cell"), key := Value.str (Str.ofString "_law_cell") 709, val := Value.ref 341 }, { hash := PyData.keyHash P (Str.ofString "_law_octets"), key := Value.str (Str.ofString "_law_octets") 721, val := Value.ref 348 }, { hash := PyData.keyHash P (Str.ofString "_law_common"), key := Value.str (Str.ofString "_law_common") 730, val := Value.ref 355 }, { hash := PyData.keyHash P (Str.ofString "_law_inverse"), key := Value.str (Str.ofString "_law_inverse") 744, val := Value.ref 362 }, { hash := PyData.keyHash P (Str.ofString "_law_size"), key := Value.str (Str.ofString "_law_size") 751, val := Value.ref 369 }, { hash := PyData.keyHash P (Str.ofString "_law_keys"), key := Value.str (Str.ofString "_law_keys") 757, val := Value.ref 374 }, { hash := PyData.keyHash P (Str.ofString "_law_number"), key := Value.str (Str.ofString "_law_number") 766, val := Value.ref 381 }, { hash := PyData.keyHash P (Str.ofString "_law_written"), key := Value.str (Str.ofString "_law_written") 772, val := Value.ref 386 }, { hash := PyData.keyHash P (Str.ofString "_law_codes"), key := Value.str (Str.ofString "_law_codes") 785, val := Value.ref 393 }, { hash := PyData.keyHash P (Str.ofString "_law_block"), key := Value.str (Str.ofString "_law_block") 793, val := Value.ref 400 }, { hash := PyData.keyHash P (Str.ofString "_law_has"), key := Value.str (Str.ofString "_law_has") 799, val := Value.ref 405 }, { hash := PyData.keyHash P (Str.ofString "_law_name"), key := Value.str (Str.ofString "_law_name") 805, val := Value.ref 410 }, { hash := PyData.keyHash P (Str.ofString "_law_judged"), key := Value.str (Str.ofString "_law_judged") 811, val := Value.ref 415 }, { hash := PyData.keyHash P (Str.ofString "_law_told"), key := Value.str (Str.ofString "_law_told") 820, val := Value.ref 422 }, { hash := PyData.keyHash P (Str.ofString "_law_read"), key := Value.str (Str.ofString "_law_read") 828, val := Value.ref 429 }, { hash := PyData.keyHash P (Str.ofString "_law_found"), key := Value.str (Str.ofString "_law_found") 836, val := Value.ref 436 }, { hash := PyData.keyHash P (Str.ofString "law"), key := Value.str (Str.ofString "law") 842, val := Value.ref 441 }] 54 }
noncomputable def o12p51 : Params → Obj := fun P => { cls := Value.none, data := Data.fields #[Value.int 2 0, Value.int 0 0, Value.ref 20, Value.int 8 0, Value.int 0 0, Value.ref 41, Value.int 10 0, Value.int 0 0, Value.ref 48, Value.int 14 0, Value.int 0 0, Value.ref 55, Value.int 19 0, Value.int 0 0, Value.ref 62, Value.int 36 0, Value.int 0 0, Value.ref 69, Value.int 42 0, Value.int 0 0, Value.ref 76, Value.int 46 0, Value.int 0 0, Value.ref 83, Value.int 55 0, Value.int 0 0, Value.ref 90, Value.int 62 0, Value.int 0 0, Value.ref 97, Value.int 64 0, Value.int 0 0, Value.ref 105, Value.int 73 0, Value.int 0 0, Value.ref 113, Value.int 75 0, Value.int 0 0, Value.ref 126, Value.int 77 0, Value.int 0 0, Value.ref 138, Value.int 79 0, Value.int 0 0, Value.ref 148, Value.int 88 0, Value.int 0 0, Value.ref 155, Value.int 95 0, Value.int 0 0, Value.ref 162, Value.int 102 0, Value.int 0 0, Value.ref 169, Value.int 116 0, Value.int 0 0, Value.ref 176, Value.int 127 0, Value.int 0 0, Value.ref 183, Value.int 140 0, Value.int 0 0, Value.ref 190, Value.int 146 0, Value.int 0 0, Value.ref 197, Value.int 152 0, Value.int 0 0, Value.ref 204, Value.int 156 0, Value.int 0 0, Value.ref 211, Value.int 160 0, Value.int 0 0, Value.ref 218, Value.int 189 0, Value.int 0 0, Value.ref 267, Value.int 200 0, Value.int 0 0, Value.ref 293, Value.int 234 0, Value.int 0 0, Value.ref 340, Value.int 238 0, Value.int 0 0, Value.ref 347, Value.int 247 0, Value.int 0 0, Value.ref 354, Value.int 253 0, Value.int 0 0, Value.ref 361, Value.int 263 0, Value.int 0 0, Value.ref 368, Value.int 265 0, Value.int 0 0, Value.ref 373, Value.int 277 0, Value.int 0 0, Value.ref 380, Value.int 282 0, Value.int 0 0, Value.ref 385, Value.int 284 0, Value.int 0 0, Value.ref 392, Value.int 295 0, Value.int 0 0, Value.ref 399, Value.int 297 0, Value.int 0 0, Value.ref 404, Value.int 299 0, Value.int 0 0, Value.ref 409, Value.int 302 0, Value.int 0 0, Value.ref 414, Value.int 314 0, Value.int 0 0, Value.ref 421, Value.int 321 0, Value.int 0 0, Value.ref 428, Value.int 326 0, Value.int 0 0, Value.ref 435, Value.int 331 0, Value.int 0 0, Value.ref 440] }
noncomputable def o437 : Params → Obj := fun P => { cls := Value.type "tuple", data := Data.seq #[] }
noncomputable def o438 : Params → Obj := fun P => { cls := Value.none, data := Data.fields #[] }
noncomputable def o439 : Params → Obj := fun P => { cls := Value.none, data := Data.func { name := Str.ofString "law", qualname := Str.ofString "law", params := (fdA (nthS PP.main.body 51)), body := FuncBody.stmts (fdB (nthS PP.main.body 51)), scope := (fdS (nthS PP.main.body 51)), globals := 0, closure := [], defaults := Value.none, kwdefaults := Value.none } }
noncomputable def o440 : Params → Obj := fun P => { cls := Value.type "code", data := Data.fields #[Value.str (Str.ofString "law") 837, Value.str (Str.ofString "law") 838, Value.str (Str.ofString "/claim/cut.py") 839, Value.int 331 0, Value.int 1 0, Value.int 0 0, Value.int 0 0, Value.int 3 0, Value.ref 437, Value.bool Bool.true, Value.int 181 0, Value.ref 438, Value.none, Value.none, Value.none, Value.ref 439, Value.int 840 0, Value.int 331 0, Value.str (Str.ofString "/claim/cut.py") 841] }
noncomputable def o441 : Params → Obj := fun P => { cls := Value.type "function", data := Data.func { name := Str.ofString "law", qualname := Str.ofString "law", params := (fdA (nthS PP.main.body 51)), body := FuncBody.stmts (fdB (nthS PP.main.body 51)), scope := (fdS (nthS PP.main.body 51)), globals := 3, closure := [], defaults := Value.none, kwdefaults := Value.none, pyModule := Value.str (Str.ofString "law_ys0001_11") 700, code := Value.ref 440 } }
noncomputable def h_a : Params → Heap := fun P => ⟨⟨[boot_o_0 P, boot_o_1 P, boot_o_2 P, boot_o_3 P, boot_o_4 P, boot_o_5 P, boot_o_6 P, boot_o_7 P, boot_o_8 P, boot_o_9 P, boot_o_10 P, o11 P, o12 P, o13 P, o14 P]⟩, { }⟩
noncomputable def h_f : Params → Heap := fun P => ⟨⟨[boot_o_0 P, boot_o_1 P, o2p16 P, o3p51 P, boot_o_4 P, boot_o_5 P, boot_o_6 P, boot_o_7 P, boot_o_8 P, boot_o_9 P, boot_o_10 P, o11 P, o12p51 P, o13 P, o14 P, o15 P, o16 P, o17 P, o18 P, o19 P, o20 P, o21 P, o22 P, o23 P, o24 P, o25 P, o26 P, o27 P, o28 P, o29 P, o30 P, o31 P, o32 P, o33 P, o34 P, o35 P, o36 P, o37 P, o38 P, o39 P, o40 P, o41 P, o42 P, o43 P, o44 P, o45 P, o46 P, o47 P, o48 P, o49 P, o50 P, o51 P, o52 P, o53 P, o54 P, o55 P, o56 P, o57 P, o58 P, o59 P, o60 P, o61 P, o62 P, o63 P, o64 P, o65 P, o66 P, o67 P, o68 P, o69 P, o70 P, o71 P, o72 P, o73 P, o74 P, o75 P, o76 P, o77 P, o78 P, o79 P, o80 P, o81 P, o82 P, o83 P, o84 P, o85 P, o86 P, o87 P, o88 P, o89 P, o90 P, o91 P, o92 P, o93 P, o94 P, o95 P, o96 P, o97 P, o98 P, o99 P, o100 P, o101 P, o102 P, o103 P, o104 P, o105 P, o106 P, o107 P, o108 P, o109 P, o110 P, o111 P, o112 P, o113 P, o114 P, o115 P, o116 P, o117p18 P, o118 P, o119 P, o120 P, o121 P, o122 P, o123 P, o124 P, o125 P, o126 P, o127 P, o128 P, o129 P, o130 P, o131 P, o132 P, o133 P, o134 P, o135 P, o136 P, o137 P, o138 P, o139 P, o140 P, o141 P, o142 P, o143 P, o144 P, o145 P, o146 P, o147 P, o148 P, o149 P, o150 P, o151 P, o152 P, o153 P, o154 P, o155 P, o156 P, o157 P, o158 P, o159 P, o160 P, o161 P, o162 P, o163 P, o164 P, o165 P, o166 P, o167 P, o168 P, o169 P, o170 P, o171 P, o172 P, o173 P, o174 P, o175 P, o176 P, o177 P, o178 P, o179 P, o180 P, o181 P, o182 P, o183 P, o184 P, o185 P, o186 P, o187 P, o188 P, o189 P, o190 P, o191 P, o192 P, o193 P, o194 P, o195 P, o196 P, o197 P, o198 P, o199 P, o200 P, o201 P, o202 P, o203 P, o204 P, o205 P, o206 P, o207 P, o208 P, o209 P, o210 P, o211 P, o212 P, o213 P, o214 P, o215 P, o216 P, o217 P, o218 P, o219 P, o220 P, o221 P, o222 P, o223 P, o224 P, o225 P, o226 P, o227 P, o228 P, o229 P, o230 P, o231 P, o232 P, o233 P, o234 P, o235 P, o236 P, o237 P, o238 P, o239 P, o240 P, o241 P, o242 P, o243 P, o244 P, o245 P, o246 P, o247 P, o248 P, o249 P, o250 P, o251 P, o252 P, o253 P, o254 P, o255 P, o256 P, o257p33 P, o258 P, o259 P, o260 P, o261 P, o262 P, o263 P, o264 P, o265 P, o266 P, o267 P, o268 P, o269 P, o270 P, o271 P, o272 P, o273 P, o274 P, o275 P, o276 P, o277 P, o278 P, o279 P, o280 P, o281 P, o282 P, o283 P, o284 P, o285 P, o286 P, o287 P, o288 P, o289 P, o290 P, o291 P, o292 P, o293 P, o294 P, o295 P, o296 P, o297 P, o298 P, o299 P, o300 P, o301 P, o302 P, o303 P, o304 P, o305 P, o306 P, o307 P, o308 P, o309 P, o310 P, o311 P, o312 P, o313 P, o314 P, o315 P, o316 P, o317 P, o318 P, o319 P, o320 P, o321 P, o322 P, o323 P, o324 P, o325 P, o326 P, o327 P, o328 P, o329 P, o330 P, o331 P, o332 P, o333 P, o334 P, o335 P, o336 P, o337 P, o338 P, o339 P, o340 P, o341 P, o342 P, o343 P, o344 P, o345 P, o346 P, o347 P, o348 P, o349 P, o350 P, o351 P, o352 P, o353 P, o354 P, o355 P, o356 P, o357 P, o358 P, o359 P, o360 P, o361 P, o362 P, o363 P, o364 P, o365 P, o366 P, o367 P, o368 P, o369 P, o370 P, o371 P, o372 P, o373 P, o374 P, o375 P, o376 P, o377 P, o378 P, o379 P, o380 P, o381 P, o382 P, o383 P, o384 P, o385 P, o386 P, o387 P, o388 P, o389 P, o390 P, o391 P, o392 P, o393 P, o394 P, o395 P, o396 P, o397 P, o398 P, o399 P, o400 P, o401 P, o402 P, o403 P, o404 P, o405 P, o406 P, o407 P, o408 P, o409 P, o410 P, o411 P, o412 P, o413 P, o414 P, o415 P, o416 P, o417 P, o418 P, o419 P, o420 P, o421 P, o422 P, o423 P, o424 P, o425 P, o426 P, o427 P, o428 P, o429 P, o430 P, o431 P, o432 P, o433 P, o434 P, o435 P, o436 P, o437 P, o438 P, o439 P, o440 P, o441 P]⟩, { }⟩
noncomputable def t_b : Params → BT := fun P => (.node (boot_o_0 P) (.node (boot_o_1 P) (.node (boot_o_3 P) (.node (boot_o_7 P) .nil .nil) (.node (o11 P) .nil .nil)) (.node (boot_o_5 P) (.node (boot_o_9 P) .nil .nil) (.node (o13 P) .nil .nil))) (.node (boot_o_2 P) (.node (boot_o_4 P) (.node (boot_o_8 P) .nil .nil) (.node (o12 P) .nil .nil)) (.node (boot_o_6 P) (.node (boot_o_10 P) .nil .nil) (.node (o14 P) .nil .nil))))
noncomputable def S_b (w : World) (os : OsState) : SharedT := ⟨t_b w.params, 15, { }, ⟨[]⟩, { }, 187, os⟩
noncomputable def t_p8 : Params → BT := fun P => (.node (boot_o_0 P) (.node (boot_o_1 P) (.node (o3p8 P) (.node (boot_o_7 P) (.node (o15 P) (.node (o31 P) (.node (o63 P) .nil .nil) .nil) (.node (o47 P) .nil .nil)) (.node (o23 P) (.node (o39 P) (.node (o71 P) .nil .nil) .nil) (.node (o55 P) .nil .nil))) (.node (o11 P) (.node (o19 P) (.node (o35 P) (.node (o67 P) .nil .nil) .nil) (.node (o51 P) .nil .nil)) (.node (o27 P) (.node (o43 P) (.node (o75 P) .nil .nil) .nil) (.node (o59 P) .nil .nil)))) (.node (boot_o_5 P) (.node (boot_o_9 P) (.node (o17 P) (.node (o33 P) (.node (o65 P) .nil .nil) .nil) (.node (o49 P) .nil .nil)) (.node (o25 P) (.node (o41 P) (.node (o73 P) .nil .nil) .nil) (.node (o57 P) .nil .nil))) (.node (o13 P) (.node (o21 P) (.node (o37 P) (.node (o69 P) .nil .nil) .nil) (.node (o53 P) .nil .nil)) (.node (o29 P) (.node (o45 P) (.node (o77 P) .nil .nil) .nil) (.node (o61 P) .nil .nil))))) (.node (boot_o_2 P) (.node (boot_o_4 P) (.node (boot_o_8 P) (.node (o16 P) (.node (o32 P) (.node (o64 P) .nil .nil) .nil) (.node (o48 P) .nil .nil)) (.node (o24 P) (.node (o40 P) (.node (o72 P) .nil .nil) .nil) (.node (o56 P) .nil .nil))) (.node (o12p8 P) (.node (o20 P) (.node (o36 P) (.node (o68 P) .nil .nil) .nil) (.node (o52 P) .nil .nil)) (.node (o28 P) (.node (o44 P) (.node (o76 P) .nil .nil) .nil) (.node (o60 P) .nil .nil)))) (.node (boot_o_6 P) (.node (boot_o_10 P) (.node (o18 P) (.node (o34 P) (.node (o66 P) .nil .nil) .nil) (.node (o50 P) .nil .nil)) (.node (o26 P) (.node (o42 P) (.node (o74 P) .nil .nil) .nil) (.node (o58 P) .nil .nil))) (.node (o14 P) (.node (o22 P) (.node (o38 P) (.node (o70 P) .nil .nil) .nil) (.node (o54 P) .nil .nil)) (.node (o30 P) (.node (o46 P) .nil .nil) (.node (o62 P) .nil .nil))))))
noncomputable def S_p8 (w : World) (os : OsState) : SharedT := ⟨t_p8 w.params, 78, { }, ⟨[]⟩, { }, 282, os⟩
noncomputable def t_p15 : Params → BT := fun P => (.node (boot_o_0 P) (.node (boot_o_1 P) (.node (o3p15 P) (.node (boot_o_7 P) (.node (o15 P) (.node (o31 P) (.node (o63 P) .nil .nil) (.node (o95 P) .nil .nil)) (.node (o47 P) (.node (o79 P) .nil .nil) .nil)) (.node (o23 P) (.node (o39 P) (.node (o71 P) .nil .nil) (.node (o103 P) .nil .nil)) (.node (o55 P) (.node (o87 P) .nil .nil) .nil))) (.node (o11 P) (.node (o19 P) (.node (o35 P) (.node (o67 P) .nil .nil) (.node (o99 P) .nil .nil)) (.node (o51 P) (.node (o83 P) .nil .nil) .nil)) (.node (o27 P) (.node (o43 P) (.node (o75 P) .nil .nil) (.node (o107 P) .nil .nil)) (.node (o59 P) (.node (o91 P) .nil .nil) .nil)))) (.node (boot_o_5 P) (.node (boot_o_9 P) (.node (o17 P) (.node (o33 P) (.node (o65 P) .nil .nil) (.node (o97 P) .nil .nil)) (.node (o49 P) (.node (o81 P) .nil .nil) .nil)) (.node (o25 P) (.node (o41 P) (.node (o73 P) .nil .nil) (.node (o105 P) .nil .nil)) (.node (o57 P) (.node (o89 P) .nil .nil) .nil))) (.node (o13 P) (.node (o21 P) (.node (o37 P) (.node (o69 P) .nil .nil) (.node (o101 P) .nil .nil)) (.node (o53 P) (.node (o85 P) .nil .nil) .nil)) (.node (o29 P) (.node (o45 P) (.node (o77 P) .nil .nil) .nil) (.node (o61 P) (.node (o93 P) .nil .nil) .nil))))) (.node (boot_o_2 P) (.node (boot_o_4 P) (.node (boot_o_8 P) (.node (o16 P) (.node (o32 P) (.node (o64 P) .nil .nil) (.node (o96 P) .nil .nil)) (.node (o48 P) (.node (o80 P) .nil .nil) .nil)) (.node (o24 P) (.node (o40 P) (.node (o72 P) .nil .nil) (.node (o104 P) .nil .nil)) (.node (o56 P) (.node (o88 P) .nil .nil) .nil))) (.node (o12p13 P) (.node (o20 P) (.node (o36 P) (.node (o68 P) .nil .nil) (.node (o100 P) .nil .nil)) (.node (o52 P) (.node (o84 P) .nil .nil) .nil)) (.node (o28 P) (.node (o44 P) (.node (o76 P) .nil .nil) .nil) (.node (o60 P) (.node (o92 P) .nil .nil) .nil)))) (.node (boot_o_6 P) (.node (boot_o_10 P) (.node (o18 P) (.node (o34 P) (.node (o66 P) .nil .nil) (.node (o98 P) .nil .nil)) (.node (o50 P) (.node (o82 P) .nil .nil) .nil)) (.node (o26 P) (.node (o42 P) (.node (o74 P) .nil .nil) (.node (o106 P) .nil .nil)) (.node (o58 P) (.node (o90 P) .nil .nil) .nil))) (.node (o14 P) (.node (o22 P) (.node (o38 P) (.node (o70 P) .nil .nil) (.node (o102 P) .nil .nil)) (.node (o54 P) (.node (o86 P) .nil .nil) .nil)) (.node (o30 P) (.node (o46 P) (.node (o78 P) .nil .nil) .nil) (.node (o62 P) (.node (o94 P) .nil .nil) .nil))))))
noncomputable def S_p15 (w : World) (os : OsState) : SharedT := ⟨t_p15 w.params, 108, { }, ⟨[]⟩, { }, 350, os⟩
noncomputable def t_p17 : Params → BT := fun P => (.node (boot_o_0 P) (.node (boot_o_1 P) (.node (o3p17 P) (.node (boot_o_7 P) (.node (o15 P) (.node (o31 P) (.node (o63 P) (.node (o127 P) .nil .nil) .nil) (.node (o95 P) .nil .nil)) (.node (o47 P) (.node (o79 P) .nil .nil) (.node (o111 P) .nil .nil))) (.node (o23 P) (.node (o39 P) (.node (o71 P) .nil .nil) (.node (o103 P) .nil .nil)) (.node (o55 P) (.node (o87 P) .nil .nil) (.node (o119 P) .nil .nil)))) (.node (o11 P) (.node (o19 P) (.node (o35 P) (.node (o67 P) (.node (o131 P) .nil .nil) .nil) (.node (o99 P) .nil .nil)) (.node (o51 P) (.node (o83 P) .nil .nil) (.node (o115 P) .nil .nil))) (.node (o27 P) (.node (o43 P) (.node (o75 P) .nil .nil) (.node (o107 P) .nil .nil)) (.node (o59 P) (.node (o91 P) .nil .nil) (.node (o123 P) .nil .nil))))) (.node (boot_o_5 P) (.node (boot_o_9 P) (.node (o17 P) (.node (o33 P) (.node (o65 P) (.node (o129 P) .nil .nil) .nil) (.node (o97 P) .nil .nil)) (.node (o49 P) (.node (o81 P) .nil .nil) (.node (o113 P) .nil .nil))) (.node (o25 P) (.node (o41 P) (.node (o73 P) .nil .nil) (.node (o105 P) .nil .nil)) (.node (o57 P) (.node (o89 P) .nil .nil) (.node (o121 P) .nil .nil)))) (.node (o13 P) (.node (o21 P) (.node (o37 P) (.node (o69 P) .nil .nil) (.node (o101 P) .nil .nil)) (.node (o53 P) (.node (o85 P) .nil .nil) (.node (o117p17 P) .nil .nil))) (.node (o29 P) (.node (o45 P) (.node (o77 P) .nil .nil) (.node (o109 P) .nil .nil)) (.node (o61 P) (.node (o93 P) .nil .nil) (.node (o125 P) .nil .nil)))))) (.node (o2p16 P) (.node (boot_o_4 P) (.node (boot_o_8 P) (.node (o16 P) (.node (o32 P) (.node (o64 P) (.node (o128 P) .nil .nil) .nil) (.node (o96 P) .nil .nil)) (.node (o48 P) (.node (o80 P) .nil .nil) (.node (o112 P) .nil .nil))) (.node (o24 P) (.node (o40 P) (.node (o72 P) .nil .nil) (.node (o104 P) .nil .nil)) (.node (o56 P) (.node (o88 P) .nil .nil) (.node (o120 P) .nil .nil)))) (.node (o12p17 P) (.node (o20 P) (.node (o36 P) (.node (o68 P) (.node (o132 P) .nil .nil) .nil) (.node (o100 P) .nil .nil)) (.node (o52 P) (.node (o84 P) .nil .nil) (.node (o116 P) .nil .nil))) (.node (o28 P) (.node (o44 P) (.node (o76 P) .nil .nil) (.node (o108 P) .nil .nil)) (.node (o60 P) (.node (o92 P) .nil .nil) (.node (o124 P) .nil .nil))))) (.node (boot_o_6 P) (.node (boot_o_10 P) (.node (o18 P) (.node (o34 P) (.node (o66 P) (.node (o130 P) .nil .nil) .nil) (.node (o98 P) .nil .nil)) (.node (o50 P) (.node (o82 P) .nil .nil) (.node (o114 P) .nil .nil))) (.node (o26 P) (.node (o42 P) (.node (o74 P) .nil .nil) (.node (o106 P) .nil .nil)) (.node (o58 P) (.node (o90 P) .nil .nil) (.node (o122 P) .nil .nil)))) (.node (o14 P) (.node (o22 P) (.node (o38 P) (.node (o70 P) .nil .nil) (.node (o102 P) .nil .nil)) (.node (o54 P) (.node (o86 P) .nil .nil) (.node (o118 P) .nil .nil))) (.node (o30 P) (.node (o46 P) (.node (o78 P) .nil .nil) (.node (o110 P) .nil .nil)) (.node (o62 P) (.node (o94 P) .nil .nil) (.node (o126 P) .nil .nil)))))))
noncomputable def S_p17 (w : World) (os : OsState) : SharedT := ⟨t_p17 w.params, 133, { }, ⟨[]⟩, { }, 386, os⟩
noncomputable def t_p24 : Params → BT := fun P => (.node (boot_o_0 P) (.node (boot_o_1 P) (.node (o3p24 P) (.node (boot_o_7 P) (.node (o15 P) (.node (o31 P) (.node (o63 P) (.node (o127 P) .nil .nil) .nil) (.node (o95 P) (.node (o159 P) .nil .nil) .nil)) (.node (o47 P) (.node (o79 P) (.node (o143 P) .nil .nil) .nil) (.node (o111 P) (.node (o175 P) .nil .nil) .nil))) (.node (o23 P) (.node (o39 P) (.node (o71 P) (.node (o135 P) .nil .nil) .nil) (.node (o103 P) (.node (o167 P) .nil .nil) .nil)) (.node (o55 P) (.node (o87 P) (.node (o151 P) .nil .nil) .nil) (.node (o119 P) (.node (o183 P) .nil .nil) .nil)))) (.node (o11 P) (.node (o19 P) (.node (o35 P) (.node (o67 P) (.node (o131 P) .nil .nil) .nil) (.node (o99 P) (.node (o163 P) .nil .nil) .nil)) (.node (o51 P) (.node (o83 P) (.node (o147 P) .nil .nil) .nil) (.node (o115 P) (.node (o179 P) .nil .nil) .nil))) (.node (o27 P) (.node (o43 P) (.node (o75 P) (.node (o139 P) .nil .nil) .nil) (.node (o107 P) (.node (o171 P) .nil .nil) .nil)) (.node (o59 P) (.node (o91 P) (.node (o155 P) .nil .nil) .nil) (.node (o123 P) .nil .nil))))) (.node (boot_o_5 P) (.node (boot_o_9 P) (.node (o17 P) (.node (o33 P) (.node (o65 P) (.node (o129 P) .nil .nil) .nil) (.node (o97 P) (.node (o161 P) .nil .nil) .nil)) (.node (o49 P) (.node (o81 P) (.node (o145 P) .nil .nil) .nil) (.node (o113 P) (.node (o177 P) .nil .nil) .nil))) (.node (o25 P) (.node (o41 P) (.node (o73 P) (.node (o137 P) .nil .nil) .nil) (.node (o105 P) (.node (o169 P) .nil .nil) .nil)) (.node (o57 P) (.node (o89 P) (.node (o153 P) .nil .nil) .nil) (.node (o121 P) .nil .nil)))) (.node (o13 P) (.node (o21 P) (.node (o37 P) (.node (o69 P) (.node (o133 P) .nil .nil) .nil) (.node (o101 P) (.node (o165 P) .nil .nil) .nil)) (.node (o53 P) (.node (o85 P) (.node (o149 P) .nil .nil) .nil) (.node (o117p18 P) (.node (o181 P) .nil .nil) .nil))) (.node (o29 P) (.node (o45 P) (.node (o77 P) (.node (o141 P) .nil .nil) .nil) (.node (o109 P) (.node (o173 P) .nil .nil) .nil)) (.node (o61 P) (.node (o93 P) (.node (o157 P) .nil .nil) .nil) (.node (o125 P) .nil .nil)))))) (.node (o2p16 P) (.node (boot_o_4 P) (.node (boot_o_8 P) (.node (o16 P) (.node (o32 P) (.node (o64 P) (.node (o128 P) .nil .nil) .nil) (.node (o96 P) (.node (o160 P) .nil .nil) .nil)) (.node (o48 P) (.node (o80 P) (.node (o144 P) .nil .nil) .nil) (.node (o112 P) (.node (o176 P) .nil .nil) .nil))) (.node (o24 P) (.node (o40 P) (.node (o72 P) (.node (o136 P) .nil .nil) .nil) (.node (o104 P) (.node (o168 P) .nil .nil) .nil)) (.node (o56 P) (.node (o88 P) (.node (o152 P) .nil .nil) .nil) (.node (o120 P) (.node (o184 P) .nil .nil) .nil)))) (.node (o12p24 P) (.node (o20 P) (.node (o36 P) (.node (o68 P) (.node (o132 P) .nil .nil) .nil) (.node (o100 P) (.node (o164 P) .nil .nil) .nil)) (.node (o52 P) (.node (o84 P) (.node (o148 P) .nil .nil) .nil) (.node (o116 P) (.node (o180 P) .nil .nil) .nil))) (.node (o28 P) (.node (o44 P) (.node (o76 P) (.node (o140 P) .nil .nil) .nil) (.node (o108 P) (.node (o172 P) .nil .nil) .nil)) (.node (o60 P) (.node (o92 P) (.node (o156 P) .nil .nil) .nil) (.node (o124 P) .nil .nil))))) (.node (boot_o_6 P) (.node (boot_o_10 P) (.node (o18 P) (.node (o34 P) (.node (o66 P) (.node (o130 P) .nil .nil) .nil) (.node (o98 P) (.node (o162 P) .nil .nil) .nil)) (.node (o50 P) (.node (o82 P) (.node (o146 P) .nil .nil) .nil) (.node (o114 P) (.node (o178 P) .nil .nil) .nil))) (.node (o26 P) (.node (o42 P) (.node (o74 P) (.node (o138 P) .nil .nil) .nil) (.node (o106 P) (.node (o170 P) .nil .nil) .nil)) (.node (o58 P) (.node (o90 P) (.node (o154 P) .nil .nil) .nil) (.node (o122 P) .nil .nil)))) (.node (o14 P) (.node (o22 P) (.node (o38 P) (.node (o70 P) (.node (o134 P) .nil .nil) .nil) (.node (o102 P) (.node (o166 P) .nil .nil) .nil)) (.node (o54 P) (.node (o86 P) (.node (o150 P) .nil .nil) .nil) (.node (o118 P) (.node (o182 P) .nil .nil) .nil))) (.node (o30 P) (.node (o46 P) (.node (o78 P) (.node (o142 P) .nil .nil) .nil) (.node (o110 P) (.node (o174 P) .nil .nil) .nil)) (.node (o62 P) (.node (o94 P) (.node (o158 P) .nil .nil) .nil) (.node (o126 P) .nil .nil)))))))
noncomputable def S_p24 (w : World) (os : OsState) : SharedT := ⟨t_p24 w.params, 185, { }, ⟨[]⟩, { }, 481, os⟩
noncomputable def t_p30 : Params → BT := fun P => (.node (boot_o_0 P) (.node (boot_o_1 P) (.node (o3p30 P) (.node (boot_o_7 P) (.node (o15 P) (.node (o31 P) (.node (o63 P) (.node (o127 P) .nil .nil) (.node (o191 P) .nil .nil)) (.node (o95 P) (.node (o159 P) .nil .nil) .nil)) (.node (o47 P) (.node (o79 P) (.node (o143 P) .nil .nil) (.node (o207 P) .nil .nil)) (.node (o111 P) (.node (o175 P) .nil .nil) .nil))) (.node (o23 P) (.node (o39 P) (.node (o71 P) (.node (o135 P) .nil .nil) (.node (o199 P) .nil .nil)) (.node (o103 P) (.node (o167 P) .nil .nil) .nil)) (.node (o55 P) (.node (o87 P) (.node (o151 P) .nil .nil) .nil) (.node (o119 P) (.node (o183 P) .nil .nil) .nil)))) (.node (o11 P) (.node (o19 P) (.node (o35 P) (.node (o67 P) (.node (o131 P) .nil .nil) (.node (o195 P) .nil .nil)) (.node (o99 P) (.node (o163 P) .nil .nil) .nil)) (.node (o51 P) (.node (o83 P) (.node (o147 P) .nil .nil) (.node (o211 P) .nil .nil)) (.node (o115 P) (.node (o179 P) .nil .nil) .nil))) (.node (o27 P) (.node (o43 P) (.node (o75 P) (.node (o139 P) .nil .nil) (.node (o203 P) .nil .nil)) (.node (o107 P) (.node (o171 P) .nil .nil) .nil)) (.node (o59 P) (.node (o91 P) (.node (o155 P) .nil .nil) .nil) (.node (o123 P) (.node (o187 P) .nil .nil) .nil))))) (.node (boot_o_5 P) (.node (boot_o_9 P) (.node (o17 P) (.node (o33 P) (.node (o65 P) (.node (o129 P) .nil .nil) (.node (o193 P) .nil .nil)) (.node (o97 P) (.node (o161 P) .nil .nil) .nil)) (.node (o49 P) (.node (o81 P) (.node (o145 P) .nil .nil) (.node (o209 P) .nil .nil)) (.node (o113 P) (.node (o177 P) .nil .nil) .nil))) (.node (o25 P) (.node (o41 P) (.node (o73 P) (.node (o137 P) .nil .nil) (.node (o201 P) .nil .nil)) (.node (o105 P) (.node (o169 P) .nil .nil) .nil)) (.node (o57 P) (.node (o89 P) (.node (o153 P) .nil .nil) .nil) (.node (o121 P) (.node (o185 P) .nil .nil) .nil)))) (.node (o13 P) (.node (o21 P) (.node (o37 P) (.node (o69 P) (.node (o133 P) .nil .nil) (.node (o197 P) .nil .nil)) (.node (o101 P) (.node (o165 P) .nil .nil) .nil)) (.node (o53 P) (.node (o85 P) (.node (o149 P) .nil .nil) .nil) (.node (o117p18 P) (.node (o181 P) .nil .nil) .nil))) (.node (o29 P) (.node (o45 P) (.node (o77 P) (.node (o141 P) .nil .nil) (.node (o205 P) .nil .nil)) (.node (o109 P) (.node (o173 P) .nil .nil) .nil)) (.node (o61 P) (.node (o93 P) (.node (o157 P) .nil .nil) .nil) (.node (o125 P) (.node (o189 P) .nil .nil) .nil)))))) (.node (o2p16 P) (.node (boot_o_4 P) (.node (boot_o_8 P) (.node (o16 P) (.node (o32 P) (.node (o64 P) (.node (o128 P) .nil .nil) (.node (o192 P) .nil .nil)) (.node (o96 P) (.node (o160 P) .nil .nil) .nil)) (.node (o48 P) (.node (o80 P) (.node (o144 P) .nil .nil) (.node (o208 P) .nil .nil)) (.node (o112 P) (.node (o176 P) .nil .nil) .nil))) (.node (o24 P) (.node (o40 P) (.node (o72 P) (.node (o136 P) .nil .nil) (.node (o200 P) .nil .nil)) (.node (o104 P) (.node (o168 P) .nil .nil) .nil)) (.node (o56 P) (.node (o88 P) (.node (o152 P) .nil .nil) .nil) (.node (o120 P) (.node (o184 P) .nil .nil) .nil)))) (.node (o12p29 P) (.node (o20 P) (.node (o36 P) (.node (o68 P) (.node (o132 P) .nil .nil) (.node (o196 P) .nil .nil)) (.node (o100 P) (.node (o164 P) .nil .nil) .nil)) (.node (o52 P) (.node (o84 P) (.node (o148 P) .nil .nil) (.node (o212 P) .nil .nil)) (.node (o116 P) (.node (o180 P) .nil .nil) .nil))) (.node (o28 P) (.node (o44 P) (.node (o76 P) (.node (o140 P) .nil .nil) (.node (o204 P) .nil .nil)) (.node (o108 P) (.node (o172 P) .nil .nil) .nil)) (.node (o60 P) (.node (o92 P) (.node (o156 P) .nil .nil) .nil) (.node (o124 P) (.node (o188 P) .nil .nil) .nil))))) (.node (boot_o_6 P) (.node (boot_o_10 P) (.node (o18 P) (.node (o34 P) (.node (o66 P) (.node (o130 P) .nil .nil) (.node (o194 P) .nil .nil)) (.node (o98 P) (.node (o162 P) .nil .nil) .nil)) (.node (o50 P) (.node (o82 P) (.node (o146 P) .nil .nil) (.node (o210 P) .nil .nil)) (.node (o114 P) (.node (o178 P) .nil .nil) .nil))) (.node (o26 P) (.node (o42 P) (.node (o74 P) (.node (o138 P) .nil .nil) (.node (o202 P) .nil .nil)) (.node (o106 P) (.node (o170 P) .nil .nil) .nil)) (.node (o58 P) (.node (o90 P) (.node (o154 P) .nil .nil) .nil) (.node (o122 P) (.node (o186 P) .nil .nil) .nil)))) (.node (o14 P) (.node (o22 P) (.node (o38 P) (.node (o70 P) (.node (o134 P) .nil .nil) (.node (o198 P) .nil .nil)) (.node (o102 P) (.node (o166 P) .nil .nil) .nil)) (.node (o54 P) (.node (o86 P) (.node (o150 P) .nil .nil) .nil) (.node (o118 P) (.node (o182 P) .nil .nil) .nil))) (.node (o30 P) (.node (o46 P) (.node (o78 P) (.node (o142 P) .nil .nil) (.node (o206 P) .nil .nil)) (.node (o110 P) (.node (o174 P) .nil .nil) .nil)) (.node (o62 P) (.node (o94 P) (.node (o158 P) .nil .nil) .nil) (.node (o126 P) (.node (o190 P) .nil .nil) .nil)))))))
noncomputable def S_p30 (w : World) (os : OsState) : SharedT := ⟨t_p30 w.params, 213, { }, ⟨[]⟩, { }, 523, os⟩
noncomputable def t_p31 : Params → BT := fun P => (.node (boot_o_0 P) (.node (boot_o_1 P) (.node (o3p31 P) (.node (boot_o_7 P) (.node (o15 P) (.node (o31 P) (.node (o63 P) (.node (o127 P) (.node (o255 P) .nil .nil) .nil) (.node (o191 P) .nil .nil)) (.node (o95 P) (.node (o159 P) .nil .nil) (.node (o223 P) .nil .nil))) (.node (o47 P) (.node (o79 P) (.node (o143 P) .nil .nil) (.node (o207 P) .nil .nil)) (.node (o111 P) (.node (o175 P) .nil .nil) (.node (o239 P) .nil .nil)))) (.node (o23 P) (.node (o39 P) (.node (o71 P) (.node (o135 P) .nil .nil) (.node (o199 P) .nil .nil)) (.node (o103 P) (.node (o167 P) .nil .nil) (.node (o231 P) .nil .nil))) (.node (o55 P) (.node (o87 P) (.node (o151 P) .nil .nil) (.node (o215 P) .nil .nil)) (.node (o119 P) (.node (o183 P) .nil .nil) (.node (o247 P) .nil .nil))))) (.node (o11 P) (.node (o19 P) (.node (o35 P) (.node (o67 P) (.node (o131 P) (.node (o259 P) .nil .nil) .nil) (.node (o195 P) .nil .nil)) (.node (o99 P) (.node (o163 P) .nil .nil) (.node (o227 P) .nil .nil))) (.node (o51 P) (.node (o83 P) (.node (o147 P) .nil .nil) (.node (o211 P) .nil .nil)) (.node (o115 P) (.node (o179 P) .nil .nil) (.node (o243 P) .nil .nil)))) (.node (o27 P) (.node (o43 P) (.node (o75 P) (.node (o139 P) .nil .nil) (.node (o203 P) .nil .nil)) (.node (o107 P) (.node (o171 P) .nil .nil) (.node (o235 P) .nil .nil))) (.node (o59 P) (.node (o91 P) (.node (o155 P) .nil .nil) (.node (o219 P) .nil .nil)) (.node (o123 P) (.node (o187 P) .nil .nil) (.node (o251 P) .nil .nil)))))) (.node (boot_o_5 P) (.node (boot_o_9 P) (.node (o17 P) (.node (o33 P) (.node (o65 P) (.node (o129 P) (.node (o257 P) .nil .nil) .nil) (.node (o193 P) .nil .nil)) (.node (o97 P) (.node (o161 P) .nil .nil) (.node (o225 P) .nil .nil))) (.node (o49 P) (.node (o81 P) (.node (o145 P) .nil .nil) (.node (o209 P) .nil .nil)) (.node (o113 P) (.node (o177 P) .nil .nil) (.node (o241 P) .nil .nil)))) (.node (o25 P) (.node (o41 P) (.node (o73 P) (.node (o137 P) .nil .nil) (.node (o201 P) .nil .nil)) (.node (o105 P) (.node (o169 P) .nil .nil) (.node (o233 P) .nil .nil))) (.node (o57 P) (.node (o89 P) (.node (o153 P) .nil .nil) (.node (o217 P) .nil .nil)) (.node (o121 P) (.node (o185 P) .nil .nil) (.node (o249 P) .nil .nil))))) (.node (o13 P) (.node (o21 P) (.node (o37 P) (.node (o69 P) (.node (o133 P) (.node (o261 P) .nil .nil) .nil) (.node (o197 P) .nil .nil)) (.node (o101 P) (.node (o165 P) .nil .nil) (.node (o229 P) .nil .nil))) (.node (o53 P) (.node (o85 P) (.node (o149 P) .nil .nil) (.node (o213 P) .nil .nil)) (.node (o117p18 P) (.node (o181 P) .nil .nil) (.node (o245 P) .nil .nil)))) (.node (o29 P) (.node (o45 P) (.node (o77 P) (.node (o141 P) .nil .nil) (.node (o205 P) .nil .nil)) (.node (o109 P) (.node (o173 P) .nil .nil) (.node (o237 P) .nil .nil))) (.node (o61 P) (.node (o93 P) (.node (o157 P) .nil .nil) (.node (o221 P) .nil .nil)) (.node (o125 P) (.node (o189 P) .nil .nil) (.node (o253 P) .nil .nil))))))) (.node (o2p16 P) (.node (boot_o_4 P) (.node (boot_o_8 P) (.node (o16 P) (.node (o32 P) (.node (o64 P) (.node (o128 P) (.node (o256 P) .nil .nil) .nil) (.node (o192 P) .nil .nil)) (.node (o96 P) (.node (o160 P) .nil .nil) (.node (o224 P) .nil .nil))) (.node (o48 P) (.node (o80 P) (.node (o144 P) .nil .nil) (.node (o208 P) .nil .nil)) (.node (o112 P) (.node (o176 P) .nil .nil) (.node (o240 P) .nil .nil)))) (.node (o24 P) (.node (o40 P) (.node (o72 P) (.node (o136 P) .nil .nil) (.node (o200 P) .nil .nil)) (.node (o104 P) (.node (o168 P) .nil .nil) (.node (o232 P) .nil .nil))) (.node (o56 P) (.node (o88 P) (.node (o152 P) .nil .nil) (.node (o216 P) .nil .nil)) (.node (o120 P) (.node (o184 P) .nil .nil) (.node (o248 P) .nil .nil))))) (.node (o12p31 P) (.node (o20 P) (.node (o36 P) (.node (o68 P) (.node (o132 P) (.node (o260 P) .nil .nil) .nil) (.node (o196 P) .nil .nil)) (.node (o100 P) (.node (o164 P) .nil .nil) (.node (o228 P) .nil .nil))) (.node (o52 P) (.node (o84 P) (.node (o148 P) .nil .nil) (.node (o212 P) .nil .nil)) (.node (o116 P) (.node (o180 P) .nil .nil) (.node (o244 P) .nil .nil)))) (.node (o28 P) (.node (o44 P) (.node (o76 P) (.node (o140 P) .nil .nil) (.node (o204 P) .nil .nil)) (.node (o108 P) (.node (o172 P) .nil .nil) (.node (o236 P) .nil .nil))) (.node (o60 P) (.node (o92 P) (.node (o156 P) .nil .nil) (.node (o220 P) .nil .nil)) (.node (o124 P) (.node (o188 P) .nil .nil) (.node (o252 P) .nil .nil)))))) (.node (boot_o_6 P) (.node (boot_o_10 P) (.node (o18 P) (.node (o34 P) (.node (o66 P) (.node (o130 P) (.node (o258 P) .nil .nil) .nil) (.node (o194 P) .nil .nil)) (.node (o98 P) (.node (o162 P) .nil .nil) (.node (o226 P) .nil .nil))) (.node (o50 P) (.node (o82 P) (.node (o146 P) .nil .nil) (.node (o210 P) .nil .nil)) (.node (o114 P) (.node (o178 P) .nil .nil) (.node (o242 P) .nil .nil)))) (.node (o26 P) (.node (o42 P) (.node (o74 P) (.node (o138 P) .nil .nil) (.node (o202 P) .nil .nil)) (.node (o106 P) (.node (o170 P) .nil .nil) (.node (o234 P) .nil .nil))) (.node (o58 P) (.node (o90 P) (.node (o154 P) .nil .nil) (.node (o218 P) .nil .nil)) (.node (o122 P) (.node (o186 P) .nil .nil) (.node (o250 P) .nil .nil))))) (.node (o14 P) (.node (o22 P) (.node (o38 P) (.node (o70 P) (.node (o134 P) .nil .nil) (.node (o198 P) .nil .nil)) (.node (o102 P) (.node (o166 P) .nil .nil) (.node (o230 P) .nil .nil))) (.node (o54 P) (.node (o86 P) (.node (o150 P) .nil .nil) (.node (o214 P) .nil .nil)) (.node (o118 P) (.node (o182 P) .nil .nil) (.node (o246 P) .nil .nil)))) (.node (o30 P) (.node (o46 P) (.node (o78 P) (.node (o142 P) .nil .nil) (.node (o206 P) .nil .nil)) (.node (o110 P) (.node (o174 P) .nil .nil) (.node (o238 P) .nil .nil))) (.node (o62 P) (.node (o94 P) (.node (o158 P) .nil .nil) (.node (o222 P) .nil .nil)) (.node (o126 P) (.node (o190 P) .nil .nil) (.node (o254 P) .nil .nil))))))))
noncomputable def S_p31 (w : World) (os : OsState) : SharedT := ⟨t_p31 w.params, 262, { }, ⟨[]⟩, { }, 591, os⟩
noncomputable def t_p32 : Params → BT := fun P => (.node (boot_o_0 P) (.node (boot_o_1 P) (.node (o3p32 P) (.node (boot_o_7 P) (.node (o15 P) (.node (o31 P) (.node (o63 P) (.node (o127 P) (.node (o255 P) .nil .nil) .nil) (.node (o191 P) .nil .nil)) (.node (o95 P) (.node (o159 P) (.node (o287 P) .nil .nil) .nil) (.node (o223 P) .nil .nil))) (.node (o47 P) (.node (o79 P) (.node (o143 P) (.node (o271 P) .nil .nil) .nil) (.node (o207 P) .nil .nil)) (.node (o111 P) (.node (o175 P) .nil .nil) (.node (o239 P) .nil .nil)))) (.node (o23 P) (.node (o39 P) (.node (o71 P) (.node (o135 P) (.node (o263 P) .nil .nil) .nil) (.node (o199 P) .nil .nil)) (.node (o103 P) (.node (o167 P) .nil .nil) (.node (o231 P) .nil .nil))) (.node (o55 P) (.node (o87 P) (.node (o151 P) (.node (o279 P) .nil .nil) .nil) (.node (o215 P) .nil .nil)) (.node (o119 P) (.node (o183 P) .nil .nil) (.node (o247 P) .nil .nil))))) (.node (o11 P) (.node (o19 P) (.node (o35 P) (.node (o67 P) (.node (o131 P) (.node (o259 P) .nil .nil) .nil) (.node (o195 P) .nil .nil)) (.node (o99 P) (.node (o163 P) .nil .nil) (.node (o227 P) .nil .nil))) (.node (o51 P) (.node (o83 P) (.node (o147 P) (.node (o275 P) .nil .nil) .nil) (.node (o211 P) .nil .nil)) (.node (o115 P) (.node (o179 P) .nil .nil) (.node (o243 P) .nil .nil)))) (.node (o27 P) (.node (o43 P) (.node (o75 P) (.node (o139 P) (.node (o267 P) .nil .nil) .nil) (.node (o203 P) .nil .nil)) (.node (o107 P) (.node (o171 P) .nil .nil) (.node (o235 P) .nil .nil))) (.node (o59 P) (.node (o91 P) (.node (o155 P) (.node (o283 P) .nil .nil) .nil) (.node (o219 P) .nil .nil)) (.node (o123 P) (.node (o187 P) .nil .nil) (.node (o251 P) .nil .nil)))))) (.node (boot_o_5 P) (.node (boot_o_9 P) (.node (o17 P) (.node (o33 P) (.node (o65 P) (.node (o129 P) (.node (o257p32 P) .nil .nil) .nil) (.node (o193 P) .nil .nil)) (.node (o97 P) (.node (o161 P) .nil .nil) (.node (o225 P) .nil .nil))) (.node (o49 P) (.node (o81 P) (.node (o145 P) (.node (o273 P) .nil .nil) .nil) (.node (o209 P) .nil .nil)) (.node (o113 P) (.node (o177 P) .nil .nil) (.node (o241 P) .nil .nil)))) (.node (o25 P) (.node (o41 P) (.node (o73 P) (.node (o137 P) (.node (o265 P) .nil .nil) .nil) (.node (o201 P) .nil .nil)) (.node (o105 P) (.node (o169 P) .nil .nil) (.node (o233 P) .nil .nil))) (.node (o57 P) (.node (o89 P) (.node (o153 P) (.node (o281 P) .nil .nil) .nil) (.node (o217 P) .nil .nil)) (.node (o121 P) (.node (o185 P) .nil .nil) (.node (o249 P) .nil .nil))))) (.node (o13 P) (.node (o21 P) (.node (o37 P) (.node (o69 P) (.node (o133 P) (.node (o261 P) .nil .nil) .nil) (.node (o197 P) .nil .nil)) (.node (o101 P) (.node (o165 P) .nil .nil) (.node (o229 P) .nil .nil))) (.node (o53 P) (.node (o85 P) (.node (o149 P) (.node (o277 P) .nil .nil) .nil) (.node (o213 P) .nil .nil)) (.node (o117p18 P) (.node (o181 P) .nil .nil) (.node (o245 P) .nil .nil)))) (.node (o29 P) (.node (o45 P) (.node (o77 P) (.node (o141 P) (.node (o269 P) .nil .nil) .nil) (.node (o205 P) .nil .nil)) (.node (o109 P) (.node (o173 P) .nil .nil) (.node (o237 P) .nil .nil))) (.node (o61 P) (.node (o93 P) (.node (o157 P) (.node (o285 P) .nil .nil) .nil) (.node (o221 P) .nil .nil)) (.node (o125 P) (.node (o189 P) .nil .nil) (.node (o253 P) .nil .nil))))))) (.node (o2p16 P) (.node (boot_o_4 P) (.node (boot_o_8 P) (.node (o16 P) (.node (o32 P) (.node (o64 P) (.node (o128 P) (.node (o256 P) .nil .nil) .nil) (.node (o192 P) .nil .nil)) (.node (o96 P) (.node (o160 P) .nil .nil) (.node (o224 P) .nil .nil))) (.node (o48 P) (.node (o80 P) (.node (o144 P) (.node (o272 P) .nil .nil) .nil) (.node (o208 P) .nil .nil)) (.node (o112 P) (.node (o176 P) .nil .nil) (.node (o240 P) .nil .nil)))) (.node (o24 P) (.node (o40 P) (.node (o72 P) (.node (o136 P) (.node (o264 P) .nil .nil) .nil) (.node (o200 P) .nil .nil)) (.node (o104 P) (.node (o168 P) .nil .nil) (.node (o232 P) .nil .nil))) (.node (o56 P) (.node (o88 P) (.node (o152 P) (.node (o280 P) .nil .nil) .nil) (.node (o216 P) .nil .nil)) (.node (o120 P) (.node (o184 P) .nil .nil) (.node (o248 P) .nil .nil))))) (.node (o12p32 P) (.node (o20 P) (.node (o36 P) (.node (o68 P) (.node (o132 P) (.node (o260 P) .nil .nil) .nil) (.node (o196 P) .nil .nil)) (.node (o100 P) (.node (o164 P) .nil .nil) (.node (o228 P) .nil .nil))) (.node (o52 P) (.node (o84 P) (.node (o148 P) (.node (o276 P) .nil .nil) .nil) (.node (o212 P) .nil .nil)) (.node (o116 P) (.node (o180 P) .nil .nil) (.node (o244 P) .nil .nil)))) (.node (o28 P) (.node (o44 P) (.node (o76 P) (.node (o140 P) (.node (o268 P) .nil .nil) .nil) (.node (o204 P) .nil .nil)) (.node (o108 P) (.node (o172 P) .nil .nil) (.node (o236 P) .nil .nil))) (.node (o60 P) (.node (o92 P) (.node (o156 P) (.node (o284 P) .nil .nil) .nil) (.node (o220 P) .nil .nil)) (.node (o124 P) (.node (o188 P) .nil .nil) (.node (o252 P) .nil .nil)))))) (.node (boot_o_6 P) (.node (boot_o_10 P) (.node (o18 P) (.node (o34 P) (.node (o66 P) (.node (o130 P) (.node (o258 P) .nil .nil) .nil) (.node (o194 P) .nil .nil)) (.node (o98 P) (.node (o162 P) .nil .nil) (.node (o226 P) .nil .nil))) (.node (o50 P) (.node (o82 P) (.node (o146 P) (.node (o274 P) .nil .nil) .nil) (.node (o210 P) .nil .nil)) (.node (o114 P) (.node (o178 P) .nil .nil) (.node (o242 P) .nil .nil)))) (.node (o26 P) (.node (o42 P) (.node (o74 P) (.node (o138 P) (.node (o266 P) .nil .nil) .nil) (.node (o202 P) .nil .nil)) (.node (o106 P) (.node (o170 P) .nil .nil) (.node (o234 P) .nil .nil))) (.node (o58 P) (.node (o90 P) (.node (o154 P) (.node (o282 P) .nil .nil) .nil) (.node (o218 P) .nil .nil)) (.node (o122 P) (.node (o186 P) .nil .nil) (.node (o250 P) .nil .nil))))) (.node (o14 P) (.node (o22 P) (.node (o38 P) (.node (o70 P) (.node (o134 P) (.node (o262 P) .nil .nil) .nil) (.node (o198 P) .nil .nil)) (.node (o102 P) (.node (o166 P) .nil .nil) (.node (o230 P) .nil .nil))) (.node (o54 P) (.node (o86 P) (.node (o150 P) (.node (o278 P) .nil .nil) .nil) (.node (o214 P) .nil .nil)) (.node (o118 P) (.node (o182 P) .nil .nil) (.node (o246 P) .nil .nil)))) (.node (o30 P) (.node (o46 P) (.node (o78 P) (.node (o142 P) (.node (o270 P) .nil .nil) .nil) (.node (o206 P) .nil .nil)) (.node (o110 P) (.node (o174 P) .nil .nil) (.node (o238 P) .nil .nil))) (.node (o62 P) (.node (o94 P) (.node (o158 P) (.node (o286 P) .nil .nil) .nil) (.node (o222 P) .nil .nil)) (.node (o126 P) (.node (o190 P) .nil .nil) (.node (o254 P) .nil .nil))))))))
noncomputable def S_p32 (w : World) (os : OsState) : SharedT := ⟨t_p32 w.params, 288, { }, ⟨[]⟩, { }, 624, os⟩
noncomputable def t_p35 : Params → BT := fun P => (.node (boot_o_0 P) (.node (boot_o_1 P) (.node (o3p35 P) (.node (boot_o_7 P) (.node (o15 P) (.node (o31 P) (.node (o63 P) (.node (o127 P) (.node (o255 P) .nil .nil) .nil) (.node (o191 P) (.node (o319 P) .nil .nil) .nil)) (.node (o95 P) (.node (o159 P) (.node (o287 P) .nil .nil) .nil) (.node (o223 P) .nil .nil))) (.node (o47 P) (.node (o79 P) (.node (o143 P) (.node (o271 P) .nil .nil) .nil) (.node (o207 P) (.node (o335 P) .nil .nil) .nil)) (.node (o111 P) (.node (o175 P) (.node (o303 P) .nil .nil) .nil) (.node (o239 P) .nil .nil)))) (.node (o23 P) (.node (o39 P) (.node (o71 P) (.node (o135 P) (.node (o263 P) .nil .nil) .nil) (.node (o199 P) (.node (o327 P) .nil .nil) .nil)) (.node (o103 P) (.node (o167 P) (.node (o295 P) .nil .nil) .nil) (.node (o231 P) .nil .nil))) (.node (o55 P) (.node (o87 P) (.node (o151 P) (.node (o279 P) .nil .nil) .nil) (.node (o215 P) .nil .nil)) (.node (o119 P) (.node (o183 P) (.node (o311 P) .nil .nil) .nil) (.node (o247 P) .nil .nil))))) (.node (o11 P) (.node (o19 P) (.node (o35 P) (.node (o67 P) (.node (o131 P) (.node (o259 P) .nil .nil) .nil) (.node (o195 P) (.node (o323 P) .nil .nil) .nil)) (.node (o99 P) (.node (o163 P) (.node (o291 P) .nil .nil) .nil) (.node (o227 P) .nil .nil))) (.node (o51 P) (.node (o83 P) (.node (o147 P) (.node (o275 P) .nil .nil) .nil) (.node (o211 P) (.node (o339 P) .nil .nil) .nil)) (.node (o115 P) (.node (o179 P) (.node (o307 P) .nil .nil) .nil) (.node (o243 P) .nil .nil)))) (.node (o27 P) (.node (o43 P) (.node (o75 P) (.node (o139 P) (.node (o267 P) .nil .nil) .nil) (.node (o203 P) (.node (o331 P) .nil .nil) .nil)) (.node (o107 P) (.node (o171 P) (.node (o299 P) .nil .nil) .nil) (.node (o235 P) .nil .nil))) (.node (o59 P) (.node (o91 P) (.node (o155 P) (.node (o283 P) .nil .nil) .nil) (.node (o219 P) .nil .nil)) (.node (o123 P) (.node (o187 P) (.node (o315 P) .nil .nil) .nil) (.node (o251 P) .nil .nil)))))) (.node (boot_o_5 P) (.node (boot_o_9 P) (.node (o17 P) (.node (o33 P) (.node (o65 P) (.node (o129 P) (.node (o257p33 P) .nil .nil) .nil) (.node (o193 P) (.node (o321 P) .nil .nil) .nil)) (.node (o97 P) (.node (o161 P) (.node (o289 P) .nil .nil) .nil) (.node (o225 P) .nil .nil))) (.node (o49 P) (.node (o81 P) (.node (o145 P) (.node (o273 P) .nil .nil) .nil) (.node (o209 P) (.node (o337 P) .nil .nil) .nil)) (.node (o113 P) (.node (o177 P) (.node (o305 P) .nil .nil) .nil) (.node (o241 P) .nil .nil)))) (.node (o25 P) (.node (o41 P) (.node (o73 P) (.node (o137 P) (.node (o265 P) .nil .nil) .nil) (.node (o201 P) (.node (o329 P) .nil .nil) .nil)) (.node (o105 P) (.node (o169 P) (.node (o297 P) .nil .nil) .nil) (.node (o233 P) .nil .nil))) (.node (o57 P) (.node (o89 P) (.node (o153 P) (.node (o281 P) .nil .nil) .nil) (.node (o217 P) .nil .nil)) (.node (o121 P) (.node (o185 P) (.node (o313 P) .nil .nil) .nil) (.node (o249 P) .nil .nil))))) (.node (o13 P) (.node (o21 P) (.node (o37 P) (.node (o69 P) (.node (o133 P) (.node (o261 P) .nil .nil) .nil) (.node (o197 P) (.node (o325 P) .nil .nil) .nil)) (.node (o101 P) (.node (o165 P) (.node (o293 P) .nil .nil) .nil) (.node (o229 P) .nil .nil))) (.node (o53 P) (.node (o85 P) (.node (o149 P) (.node (o277 P) .nil .nil) .nil) (.node (o213 P) (.node (o341 P) .nil .nil) .nil)) (.node (o117p18 P) (.node (o181 P) (.node (o309 P) .nil .nil) .nil) (.node (o245 P) .nil .nil)))) (.node (o29 P) (.node (o45 P) (.node (o77 P) (.node (o141 P) (.node (o269 P) .nil .nil) .nil) (.node (o205 P) (.node (o333 P) .nil .nil) .nil)) (.node (o109 P) (.node (o173 P) (.node (o301 P) .nil .nil) .nil) (.node (o237 P) .nil .nil))) (.node (o61 P) (.node (o93 P) (.node (o157 P) (.node (o285 P) .nil .nil) .nil) (.node (o221 P) .nil .nil)) (.node (o125 P) (.node (o189 P) (.node (o317 P) .nil .nil) .nil) (.node (o253 P) .nil .nil))))))) (.node (o2p16 P) (.node (boot_o_4 P) (.node (boot_o_8 P) (.node (o16 P) (.node (o32 P) (.node (o64 P) (.node (o128 P) (.node (o256 P) .nil .nil) .nil) (.node (o192 P) (.node (o320 P) .nil .nil) .nil)) (.node (o96 P) (.node (o160 P) (.node (o288 P) .nil .nil) .nil) (.node (o224 P) .nil .nil))) (.node (o48 P) (.node (o80 P) (.node (o144 P) (.node (o272 P) .nil .nil) .nil) (.node (o208 P) (.node (o336 P) .nil .nil) .nil)) (.node (o112 P) (.node (o176 P) (.node (o304 P) .nil .nil) .nil) (.node (o240 P) .nil .nil)))) (.node (o24 P) (.node (o40 P) (.node (o72 P) (.node (o136 P) (.node (o264 P) .nil .nil) .nil) (.node (o200 P) (.node (o328 P) .nil .nil) .nil)) (.node (o104 P) (.node (o168 P) (.node (o296 P) .nil .nil) .nil) (.node (o232 P) .nil .nil))) (.node (o56 P) (.node (o88 P) (.node (o152 P) (.node (o280 P) .nil .nil) .nil) (.node (o216 P) .nil .nil)) (.node (o120 P) (.node (o184 P) (.node (o312 P) .nil .nil) .nil) (.node (o248 P) .nil .nil))))) (.node (o12p35 P) (.node (o20 P) (.node (o36 P) (.node (o68 P) (.node (o132 P) (.node (o260 P) .nil .nil) .nil) (.node (o196 P) (.node (o324 P) .nil .nil) .nil)) (.node (o100 P) (.node (o164 P) (.node (o292 P) .nil .nil) .nil) (.node (o228 P) .nil .nil))) (.node (o52 P) (.node (o84 P) (.node (o148 P) (.node (o276 P) .nil .nil) .nil) (.node (o212 P) (.node (o340 P) .nil .nil) .nil)) (.node (o116 P) (.node (o180 P) (.node (o308 P) .nil .nil) .nil) (.node (o244 P) .nil .nil)))) (.node (o28 P) (.node (o44 P) (.node (o76 P) (.node (o140 P) (.node (o268 P) .nil .nil) .nil) (.node (o204 P) (.node (o332 P) .nil .nil) .nil)) (.node (o108 P) (.node (o172 P) (.node (o300 P) .nil .nil) .nil) (.node (o236 P) .nil .nil))) (.node (o60 P) (.node (o92 P) (.node (o156 P) (.node (o284 P) .nil .nil) .nil) (.node (o220 P) .nil .nil)) (.node (o124 P) (.node (o188 P) (.node (o316 P) .nil .nil) .nil) (.node (o252 P) .nil .nil)))))) (.node (boot_o_6 P) (.node (boot_o_10 P) (.node (o18 P) (.node (o34 P) (.node (o66 P) (.node (o130 P) (.node (o258 P) .nil .nil) .nil) (.node (o194 P) (.node (o322 P) .nil .nil) .nil)) (.node (o98 P) (.node (o162 P) (.node (o290 P) .nil .nil) .nil) (.node (o226 P) .nil .nil))) (.node (o50 P) (.node (o82 P) (.node (o146 P) (.node (o274 P) .nil .nil) .nil) (.node (o210 P) (.node (o338 P) .nil .nil) .nil)) (.node (o114 P) (.node (o178 P) (.node (o306 P) .nil .nil) .nil) (.node (o242 P) .nil .nil)))) (.node (o26 P) (.node (o42 P) (.node (o74 P) (.node (o138 P) (.node (o266 P) .nil .nil) .nil) (.node (o202 P) (.node (o330 P) .nil .nil) .nil)) (.node (o106 P) (.node (o170 P) (.node (o298 P) .nil .nil) .nil) (.node (o234 P) .nil .nil))) (.node (o58 P) (.node (o90 P) (.node (o154 P) (.node (o282 P) .nil .nil) .nil) (.node (o218 P) .nil .nil)) (.node (o122 P) (.node (o186 P) (.node (o314 P) .nil .nil) .nil) (.node (o250 P) .nil .nil))))) (.node (o14 P) (.node (o22 P) (.node (o38 P) (.node (o70 P) (.node (o134 P) (.node (o262 P) .nil .nil) .nil) (.node (o198 P) (.node (o326 P) .nil .nil) .nil)) (.node (o102 P) (.node (o166 P) (.node (o294 P) .nil .nil) .nil) (.node (o230 P) .nil .nil))) (.node (o54 P) (.node (o86 P) (.node (o150 P) (.node (o278 P) .nil .nil) .nil) (.node (o214 P) .nil .nil)) (.node (o118 P) (.node (o182 P) (.node (o310 P) .nil .nil) .nil) (.node (o246 P) .nil .nil)))) (.node (o30 P) (.node (o46 P) (.node (o78 P) (.node (o142 P) (.node (o270 P) .nil .nil) .nil) (.node (o206 P) (.node (o334 P) .nil .nil) .nil)) (.node (o110 P) (.node (o174 P) (.node (o302 P) .nil .nil) .nil) (.node (o238 P) .nil .nil))) (.node (o62 P) (.node (o94 P) (.node (o158 P) (.node (o286 P) .nil .nil) .nil) (.node (o222 P) .nil .nil)) (.node (o126 P) (.node (o190 P) (.node (o318 P) .nil .nil) .nil) (.node (o254 P) .nil .nil))))))))
noncomputable def S_p35 (w : World) (os : OsState) : SharedT := ⟨t_p35 w.params, 342, { }, ⟨[]⟩, { }, 710, os⟩
noncomputable def t_p50 : Params → BT := fun P => (.node (boot_o_0 P) (.node (boot_o_1 P) (.node (o3p50 P) (.node (boot_o_7 P) (.node (o15 P) (.node (o31 P) (.node (o63 P) (.node (o127 P) (.node (o255 P) .nil .nil) (.node (o383 P) .nil .nil)) (.node (o191 P) (.node (o319 P) .nil .nil) .nil)) (.node (o95 P) (.node (o159 P) (.node (o287 P) .nil .nil) (.node (o415 P) .nil .nil)) (.node (o223 P) (.node (o351 P) .nil .nil) .nil))) (.node (o47 P) (.node (o79 P) (.node (o143 P) (.node (o271 P) .nil .nil) (.node (o399 P) .nil .nil)) (.node (o207 P) (.node (o335 P) .nil .nil) .nil)) (.node (o111 P) (.node (o175 P) (.node (o303 P) .nil .nil) (.node (o431 P) .nil .nil)) (.node (o239 P) (.node (o367 P) .nil .nil) .nil)))) (.node (o23 P) (.node (o39 P) (.node (o71 P) (.node (o135 P) (.node (o263 P) .nil .nil) (.node (o391 P) .nil .nil)) (.node (o199 P) (.node (o327 P) .nil .nil) .nil)) (.node (o103 P) (.node (o167 P) (.node (o295 P) .nil .nil) (.node (o423 P) .nil .nil)) (.node (o231 P) (.node (o359 P) .nil .nil) .nil))) (.node (o55 P) (.node (o87 P) (.node (o151 P) (.node (o279 P) .nil .nil) (.node (o407 P) .nil .nil)) (.node (o215 P) (.node (o343 P) .nil .nil) .nil)) (.node (o119 P) (.node (o183 P) (.node (o311 P) .nil .nil) .nil) (.node (o247 P) (.node (o375 P) .nil .nil) .nil))))) (.node (o11 P) (.node (o19 P) (.node (o35 P) (.node (o67 P) (.node (o131 P) (.node (o259 P) .nil .nil) (.node (o387 P) .nil .nil)) (.node (o195 P) (.node (o323 P) .nil .nil) .nil)) (.node (o99 P) (.node (o163 P) (.node (o291 P) .nil .nil) (.node (o419 P) .nil .nil)) (.node (o227 P) (.node (o355 P) .nil .nil) .nil))) (.node (o51 P) (.node (o83 P) (.node (o147 P) (.node (o275 P) .nil .nil) (.node (o403 P) .nil .nil)) (.node (o211 P) (.node (o339 P) .nil .nil) .nil)) (.node (o115 P) (.node (o179 P) (.node (o307 P) .nil .nil) (.node (o435 P) .nil .nil)) (.node (o243 P) (.node (o371 P) .nil .nil) .nil)))) (.node (o27 P) (.node (o43 P) (.node (o75 P) (.node (o139 P) (.node (o267 P) .nil .nil) (.node (o395 P) .nil .nil)) (.node (o203 P) (.node (o331 P) .nil .nil) .nil)) (.node (o107 P) (.node (o171 P) (.node (o299 P) .nil .nil) (.node (o427 P) .nil .nil)) (.node (o235 P) (.node (o363 P) .nil .nil) .nil))) (.node (o59 P) (.node (o91 P) (.node (o155 P) (.node (o283 P) .nil .nil) (.node (o411 P) .nil .nil)) (.node (o219 P) (.node (o347 P) .nil .nil) .nil)) (.node (o123 P) (.node (o187 P) (.node (o315 P) .nil .nil) .nil) (.node (o251 P) (.node (o379 P) .nil .nil) .nil)))))) (.node (boot_o_5 P) (.node (boot_o_9 P) (.node (o17 P) (.node (o33 P) (.node (o65 P) (.node (o129 P) (.node (o257p33 P) .nil .nil) (.node (o385 P) .nil .nil)) (.node (o193 P) (.node (o321 P) .nil .nil) .nil)) (.node (o97 P) (.node (o161 P) (.node (o289 P) .nil .nil) (.node (o417 P) .nil .nil)) (.node (o225 P) (.node (o353 P) .nil .nil) .nil))) (.node (o49 P) (.node (o81 P) (.node (o145 P) (.node (o273 P) .nil .nil) (.node (o401 P) .nil .nil)) (.node (o209 P) (.node (o337 P) .nil .nil) .nil)) (.node (o113 P) (.node (o177 P) (.node (o305 P) .nil .nil) (.node (o433 P) .nil .nil)) (.node (o241 P) (.node (o369 P) .nil .nil) .nil)))) (.node (o25 P) (.node (o41 P) (.node (o73 P) (.node (o137 P) (.node (o265 P) .nil .nil) (.node (o393 P) .nil .nil)) (.node (o201 P) (.node (o329 P) .nil .nil) .nil)) (.node (o105 P) (.node (o169 P) (.node (o297 P) .nil .nil) (.node (o425 P) .nil .nil)) (.node (o233 P) (.node (o361 P) .nil .nil) .nil))) (.node (o57 P) (.node (o89 P) (.node (o153 P) (.node (o281 P) .nil .nil) (.node (o409 P) .nil .nil)) (.node (o217 P) (.node (o345 P) .nil .nil) .nil)) (.node (o121 P) (.node (o185 P) (.node (o313 P) .nil .nil) .nil) (.node (o249 P) (.node (o377 P) .nil .nil) .nil))))) (.node (o13 P) (.node (o21 P) (.node (o37 P) (.node (o69 P) (.node (o133 P) (.node (o261 P) .nil .nil) (.node (o389 P) .nil .nil)) (.node (o197 P) (.node (o325 P) .nil .nil) .nil)) (.node (o101 P) (.node (o165 P) (.node (o293 P) .nil .nil) (.node (o421 P) .nil .nil)) (.node (o229 P) (.node (o357 P) .nil .nil) .nil))) (.node (o53 P) (.node (o85 P) (.node (o149 P) (.node (o277 P) .nil .nil) (.node (o405 P) .nil .nil)) (.node (o213 P) (.node (o341 P) .nil .nil) .nil)) (.node (o117p18 P) (.node (o181 P) (.node (o309 P) .nil .nil) .nil) (.node (o245 P) (.node (o373 P) .nil .nil) .nil)))) (.node (o29 P) (.node (o45 P) (.node (o77 P) (.node (o141 P) (.node (o269 P) .nil .nil) (.node (o397 P) .nil .nil)) (.node (o205 P) (.node (o333 P) .nil .nil) .nil)) (.node (o109 P) (.node (o173 P) (.node (o301 P) .nil .nil) (.node (o429 P) .nil .nil)) (.node (o237 P) (.node (o365 P) .nil .nil) .nil))) (.node (o61 P) (.node (o93 P) (.node (o157 P) (.node (o285 P) .nil .nil) (.node (o413 P) .nil .nil)) (.node (o221 P) (.node (o349 P) .nil .nil) .nil)) (.node (o125 P) (.node (o189 P) (.node (o317 P) .nil .nil) .nil) (.node (o253 P) (.node (o381 P) .nil .nil) .nil))))))) (.node (o2p16 P) (.node (boot_o_4 P) (.node (boot_o_8 P) (.node (o16 P) (.node (o32 P) (.node (o64 P) (.node (o128 P) (.node (o256 P) .nil .nil) (.node (o384 P) .nil .nil)) (.node (o192 P) (.node (o320 P) .nil .nil) .nil)) (.node (o96 P) (.node (o160 P) (.node (o288 P) .nil .nil) (.node (o416 P) .nil .nil)) (.node (o224 P) (.node (o352 P) .nil .nil) .nil))) (.node (o48 P) (.node (o80 P) (.node (o144 P) (.node (o272 P) .nil .nil) (.node (o400 P) .nil .nil)) (.node (o208 P) (.node (o336 P) .nil .nil) .nil)) (.node (o112 P) (.node (o176 P) (.node (o304 P) .nil .nil) (.node (o432 P) .nil .nil)) (.node (o240 P) (.node (o368 P) .nil .nil) .nil)))) (.node (o24 P) (.node (o40 P) (.node (o72 P) (.node (o136 P) (.node (o264 P) .nil .nil) (.node (o392 P) .nil .nil)) (.node (o200 P) (.node (o328 P) .nil .nil) .nil)) (.node (o104 P) (.node (o168 P) (.node (o296 P) .nil .nil) (.node (o424 P) .nil .nil)) (.node (o232 P) (.node (o360 P) .nil .nil) .nil))) (.node (o56 P) (.node (o88 P) (.node (o152 P) (.node (o280 P) .nil .nil) (.node (o408 P) .nil .nil)) (.node (o216 P) (.node (o344 P) .nil .nil) .nil)) (.node (o120 P) (.node (o184 P) (.node (o312 P) .nil .nil) .nil) (.node (o248 P) (.node (o376 P) .nil .nil) .nil))))) (.node (o12p50 P) (.node (o20 P) (.node (o36 P) (.node (o68 P) (.node (o132 P) (.node (o260 P) .nil .nil) (.node (o388 P) .nil .nil)) (.node (o196 P) (.node (o324 P) .nil .nil) .nil)) (.node (o100 P) (.node (o164 P) (.node (o292 P) .nil .nil) (.node (o420 P) .nil .nil)) (.node (o228 P) (.node (o356 P) .nil .nil) .nil))) (.node (o52 P) (.node (o84 P) (.node (o148 P) (.node (o276 P) .nil .nil) (.node (o404 P) .nil .nil)) (.node (o212 P) (.node (o340 P) .nil .nil) .nil)) (.node (o116 P) (.node (o180 P) (.node (o308 P) .nil .nil) (.node (o436 P) .nil .nil)) (.node (o244 P) (.node (o372 P) .nil .nil) .nil)))) (.node (o28 P) (.node (o44 P) (.node (o76 P) (.node (o140 P) (.node (o268 P) .nil .nil) (.node (o396 P) .nil .nil)) (.node (o204 P) (.node (o332 P) .nil .nil) .nil)) (.node (o108 P) (.node (o172 P) (.node (o300 P) .nil .nil) (.node (o428 P) .nil .nil)) (.node (o236 P) (.node (o364 P) .nil .nil) .nil))) (.node (o60 P) (.node (o92 P) (.node (o156 P) (.node (o284 P) .nil .nil) (.node (o412 P) .nil .nil)) (.node (o220 P) (.node (o348 P) .nil .nil) .nil)) (.node (o124 P) (.node (o188 P) (.node (o316 P) .nil .nil) .nil) (.node (o252 P) (.node (o380 P) .nil .nil) .nil)))))) (.node (boot_o_6 P) (.node (boot_o_10 P) (.node (o18 P) (.node (o34 P) (.node (o66 P) (.node (o130 P) (.node (o258 P) .nil .nil) (.node (o386 P) .nil .nil)) (.node (o194 P) (.node (o322 P) .nil .nil) .nil)) (.node (o98 P) (.node (o162 P) (.node (o290 P) .nil .nil) (.node (o418 P) .nil .nil)) (.node (o226 P) (.node (o354 P) .nil .nil) .nil))) (.node (o50 P) (.node (o82 P) (.node (o146 P) (.node (o274 P) .nil .nil) (.node (o402 P) .nil .nil)) (.node (o210 P) (.node (o338 P) .nil .nil) .nil)) (.node (o114 P) (.node (o178 P) (.node (o306 P) .nil .nil) (.node (o434 P) .nil .nil)) (.node (o242 P) (.node (o370 P) .nil .nil) .nil)))) (.node (o26 P) (.node (o42 P) (.node (o74 P) (.node (o138 P) (.node (o266 P) .nil .nil) (.node (o394 P) .nil .nil)) (.node (o202 P) (.node (o330 P) .nil .nil) .nil)) (.node (o106 P) (.node (o170 P) (.node (o298 P) .nil .nil) (.node (o426 P) .nil .nil)) (.node (o234 P) (.node (o362 P) .nil .nil) .nil))) (.node (o58 P) (.node (o90 P) (.node (o154 P) (.node (o282 P) .nil .nil) (.node (o410 P) .nil .nil)) (.node (o218 P) (.node (o346 P) .nil .nil) .nil)) (.node (o122 P) (.node (o186 P) (.node (o314 P) .nil .nil) .nil) (.node (o250 P) (.node (o378 P) .nil .nil) .nil))))) (.node (o14 P) (.node (o22 P) (.node (o38 P) (.node (o70 P) (.node (o134 P) (.node (o262 P) .nil .nil) (.node (o390 P) .nil .nil)) (.node (o198 P) (.node (o326 P) .nil .nil) .nil)) (.node (o102 P) (.node (o166 P) (.node (o294 P) .nil .nil) (.node (o422 P) .nil .nil)) (.node (o230 P) (.node (o358 P) .nil .nil) .nil))) (.node (o54 P) (.node (o86 P) (.node (o150 P) (.node (o278 P) .nil .nil) (.node (o406 P) .nil .nil)) (.node (o214 P) (.node (o342 P) .nil .nil) .nil)) (.node (o118 P) (.node (o182 P) (.node (o310 P) .nil .nil) .nil) (.node (o246 P) (.node (o374 P) .nil .nil) .nil)))) (.node (o30 P) (.node (o46 P) (.node (o78 P) (.node (o142 P) (.node (o270 P) .nil .nil) (.node (o398 P) .nil .nil)) (.node (o206 P) (.node (o334 P) .nil .nil) .nil)) (.node (o110 P) (.node (o174 P) (.node (o302 P) .nil .nil) (.node (o430 P) .nil .nil)) (.node (o238 P) (.node (o366 P) .nil .nil) .nil))) (.node (o62 P) (.node (o94 P) (.node (o158 P) (.node (o286 P) .nil .nil) (.node (o414 P) .nil .nil)) (.node (o222 P) (.node (o350 P) .nil .nil) .nil)) (.node (o126 P) (.node (o190 P) (.node (o318 P) .nil .nil) .nil) (.node (o254 P) (.node (o382 P) .nil .nil) .nil))))))))
noncomputable def S_p50 (w : World) (os : OsState) : SharedT := ⟨t_p50 w.params, 437, { }, ⟨[]⟩, { }, 837, os⟩
noncomputable def t_p51 : Params → BT := fun P => (.node (boot_o_0 P) (.node (boot_o_1 P) (.node (o3p51 P) (.node (boot_o_7 P) (.node (o15 P) (.node (o31 P) (.node (o63 P) (.node (o127 P) (.node (o255 P) .nil .nil) (.node (o383 P) .nil .nil)) (.node (o191 P) (.node (o319 P) .nil .nil) .nil)) (.node (o95 P) (.node (o159 P) (.node (o287 P) .nil .nil) (.node (o415 P) .nil .nil)) (.node (o223 P) (.node (o351 P) .nil .nil) .nil))) (.node (o47 P) (.node (o79 P) (.node (o143 P) (.node (o271 P) .nil .nil) (.node (o399 P) .nil .nil)) (.node (o207 P) (.node (o335 P) .nil .nil) .nil)) (.node (o111 P) (.node (o175 P) (.node (o303 P) .nil .nil) (.node (o431 P) .nil .nil)) (.node (o239 P) (.node (o367 P) .nil .nil) .nil)))) (.node (o23 P) (.node (o39 P) (.node (o71 P) (.node (o135 P) (.node (o263 P) .nil .nil) (.node (o391 P) .nil .nil)) (.node (o199 P) (.node (o327 P) .nil .nil) .nil)) (.node (o103 P) (.node (o167 P) (.node (o295 P) .nil .nil) (.node (o423 P) .nil .nil)) (.node (o231 P) (.node (o359 P) .nil .nil) .nil))) (.node (o55 P) (.node (o87 P) (.node (o151 P) (.node (o279 P) .nil .nil) (.node (o407 P) .nil .nil)) (.node (o215 P) (.node (o343 P) .nil .nil) .nil)) (.node (o119 P) (.node (o183 P) (.node (o311 P) .nil .nil) (.node (o439 P) .nil .nil)) (.node (o247 P) (.node (o375 P) .nil .nil) .nil))))) (.node (o11 P) (.node (o19 P) (.node (o35 P) (.node (o67 P) (.node (o131 P) (.node (o259 P) .nil .nil) (.node (o387 P) .nil .nil)) (.node (o195 P) (.node (o323 P) .nil .nil) .nil)) (.node (o99 P) (.node (o163 P) (.node (o291 P) .nil .nil) (.node (o419 P) .nil .nil)) (.node (o227 P) (.node (o355 P) .nil .nil) .nil))) (.node (o51 P) (.node (o83 P) (.node (o147 P) (.node (o275 P) .nil .nil) (.node (o403 P) .nil .nil)) (.node (o211 P) (.node (o339 P) .nil .nil) .nil)) (.node (o115 P) (.node (o179 P) (.node (o307 P) .nil .nil) (.node (o435 P) .nil .nil)) (.node (o243 P) (.node (o371 P) .nil .nil) .nil)))) (.node (o27 P) (.node (o43 P) (.node (o75 P) (.node (o139 P) (.node (o267 P) .nil .nil) (.node (o395 P) .nil .nil)) (.node (o203 P) (.node (o331 P) .nil .nil) .nil)) (.node (o107 P) (.node (o171 P) (.node (o299 P) .nil .nil) (.node (o427 P) .nil .nil)) (.node (o235 P) (.node (o363 P) .nil .nil) .nil))) (.node (o59 P) (.node (o91 P) (.node (o155 P) (.node (o283 P) .nil .nil) (.node (o411 P) .nil .nil)) (.node (o219 P) (.node (o347 P) .nil .nil) .nil)) (.node (o123 P) (.node (o187 P) (.node (o315 P) .nil .nil) .nil) (.node (o251 P) (.node (o379 P) .nil .nil) .nil)))))) (.node (boot_o_5 P) (.node (boot_o_9 P) (.node (o17 P) (.node (o33 P) (.node (o65 P) (.node (o129 P) (.node (o257p33 P) .nil .nil) (.node (o385 P) .nil .nil)) (.node (o193 P) (.node (o321 P) .nil .nil) .nil)) (.node (o97 P) (.node (o161 P) (.node (o289 P) .nil .nil) (.node (o417 P) .nil .nil)) (.node (o225 P) (.node (o353 P) .nil .nil) .nil))) (.node (o49 P) (.node (o81 P) (.node (o145 P) (.node (o273 P) .nil .nil) (.node (o401 P) .nil .nil)) (.node (o209 P) (.node (o337 P) .nil .nil) .nil)) (.node (o113 P) (.node (o177 P) (.node (o305 P) .nil .nil) (.node (o433 P) .nil .nil)) (.node (o241 P) (.node (o369 P) .nil .nil) .nil)))) (.node (o25 P) (.node (o41 P) (.node (o73 P) (.node (o137 P) (.node (o265 P) .nil .nil) (.node (o393 P) .nil .nil)) (.node (o201 P) (.node (o329 P) .nil .nil) .nil)) (.node (o105 P) (.node (o169 P) (.node (o297 P) .nil .nil) (.node (o425 P) .nil .nil)) (.node (o233 P) (.node (o361 P) .nil .nil) .nil))) (.node (o57 P) (.node (o89 P) (.node (o153 P) (.node (o281 P) .nil .nil) (.node (o409 P) .nil .nil)) (.node (o217 P) (.node (o345 P) .nil .nil) .nil)) (.node (o121 P) (.node (o185 P) (.node (o313 P) .nil .nil) (.node (o441 P) .nil .nil)) (.node (o249 P) (.node (o377 P) .nil .nil) .nil))))) (.node (o13 P) (.node (o21 P) (.node (o37 P) (.node (o69 P) (.node (o133 P) (.node (o261 P) .nil .nil) (.node (o389 P) .nil .nil)) (.node (o197 P) (.node (o325 P) .nil .nil) .nil)) (.node (o101 P) (.node (o165 P) (.node (o293 P) .nil .nil) (.node (o421 P) .nil .nil)) (.node (o229 P) (.node (o357 P) .nil .nil) .nil))) (.node (o53 P) (.node (o85 P) (.node (o149 P) (.node (o277 P) .nil .nil) (.node (o405 P) .nil .nil)) (.node (o213 P) (.node (o341 P) .nil .nil) .nil)) (.node (o117p18 P) (.node (o181 P) (.node (o309 P) .nil .nil) (.node (o437 P) .nil .nil)) (.node (o245 P) (.node (o373 P) .nil .nil) .nil)))) (.node (o29 P) (.node (o45 P) (.node (o77 P) (.node (o141 P) (.node (o269 P) .nil .nil) (.node (o397 P) .nil .nil)) (.node (o205 P) (.node (o333 P) .nil .nil) .nil)) (.node (o109 P) (.node (o173 P) (.node (o301 P) .nil .nil) (.node (o429 P) .nil .nil)) (.node (o237 P) (.node (o365 P) .nil .nil) .nil))) (.node (o61 P) (.node (o93 P) (.node (o157 P) (.node (o285 P) .nil .nil) (.node (o413 P) .nil .nil)) (.node (o221 P) (.node (o349 P) .nil .nil) .nil)) (.node (o125 P) (.node (o189 P) (.node (o317 P) .nil .nil) .nil) (.node (o253 P) (.node (o381 P) .nil .nil) .nil))))))) (.node (o2p16 P) (.node (boot_o_4 P) (.node (boot_o_8 P) (.node (o16 P) (.node (o32 P) (.node (o64 P) (.node (o128 P) (.node (o256 P) .nil .nil) (.node (o384 P) .nil .nil)) (.node (o192 P) (.node (o320 P) .nil .nil) .nil)) (.node (o96 P) (.node (o160 P) (.node (o288 P) .nil .nil) (.node (o416 P) .nil .nil)) (.node (o224 P) (.node (o352 P) .nil .nil) .nil))) (.node (o48 P) (.node (o80 P) (.node (o144 P) (.node (o272 P) .nil .nil) (.node (o400 P) .nil .nil)) (.node (o208 P) (.node (o336 P) .nil .nil) .nil)) (.node (o112 P) (.node (o176 P) (.node (o304 P) .nil .nil) (.node (o432 P) .nil .nil)) (.node (o240 P) (.node (o368 P) .nil .nil) .nil)))) (.node (o24 P) (.node (o40 P) (.node (o72 P) (.node (o136 P) (.node (o264 P) .nil .nil) (.node (o392 P) .nil .nil)) (.node (o200 P) (.node (o328 P) .nil .nil) .nil)) (.node (o104 P) (.node (o168 P) (.node (o296 P) .nil .nil) (.node (o424 P) .nil .nil)) (.node (o232 P) (.node (o360 P) .nil .nil) .nil))) (.node (o56 P) (.node (o88 P) (.node (o152 P) (.node (o280 P) .nil .nil) (.node (o408 P) .nil .nil)) (.node (o216 P) (.node (o344 P) .nil .nil) .nil)) (.node (o120 P) (.node (o184 P) (.node (o312 P) .nil .nil) (.node (o440 P) .nil .nil)) (.node (o248 P) (.node (o376 P) .nil .nil) .nil))))) (.node (o12p51 P) (.node (o20 P) (.node (o36 P) (.node (o68 P) (.node (o132 P) (.node (o260 P) .nil .nil) (.node (o388 P) .nil .nil)) (.node (o196 P) (.node (o324 P) .nil .nil) .nil)) (.node (o100 P) (.node (o164 P) (.node (o292 P) .nil .nil) (.node (o420 P) .nil .nil)) (.node (o228 P) (.node (o356 P) .nil .nil) .nil))) (.node (o52 P) (.node (o84 P) (.node (o148 P) (.node (o276 P) .nil .nil) (.node (o404 P) .nil .nil)) (.node (o212 P) (.node (o340 P) .nil .nil) .nil)) (.node (o116 P) (.node (o180 P) (.node (o308 P) .nil .nil) (.node (o436 P) .nil .nil)) (.node (o244 P) (.node (o372 P) .nil .nil) .nil)))) (.node (o28 P) (.node (o44 P) (.node (o76 P) (.node (o140 P) (.node (o268 P) .nil .nil) (.node (o396 P) .nil .nil)) (.node (o204 P) (.node (o332 P) .nil .nil) .nil)) (.node (o108 P) (.node (o172 P) (.node (o300 P) .nil .nil) (.node (o428 P) .nil .nil)) (.node (o236 P) (.node (o364 P) .nil .nil) .nil))) (.node (o60 P) (.node (o92 P) (.node (o156 P) (.node (o284 P) .nil .nil) (.node (o412 P) .nil .nil)) (.node (o220 P) (.node (o348 P) .nil .nil) .nil)) (.node (o124 P) (.node (o188 P) (.node (o316 P) .nil .nil) .nil) (.node (o252 P) (.node (o380 P) .nil .nil) .nil)))))) (.node (boot_o_6 P) (.node (boot_o_10 P) (.node (o18 P) (.node (o34 P) (.node (o66 P) (.node (o130 P) (.node (o258 P) .nil .nil) (.node (o386 P) .nil .nil)) (.node (o194 P) (.node (o322 P) .nil .nil) .nil)) (.node (o98 P) (.node (o162 P) (.node (o290 P) .nil .nil) (.node (o418 P) .nil .nil)) (.node (o226 P) (.node (o354 P) .nil .nil) .nil))) (.node (o50 P) (.node (o82 P) (.node (o146 P) (.node (o274 P) .nil .nil) (.node (o402 P) .nil .nil)) (.node (o210 P) (.node (o338 P) .nil .nil) .nil)) (.node (o114 P) (.node (o178 P) (.node (o306 P) .nil .nil) (.node (o434 P) .nil .nil)) (.node (o242 P) (.node (o370 P) .nil .nil) .nil)))) (.node (o26 P) (.node (o42 P) (.node (o74 P) (.node (o138 P) (.node (o266 P) .nil .nil) (.node (o394 P) .nil .nil)) (.node (o202 P) (.node (o330 P) .nil .nil) .nil)) (.node (o106 P) (.node (o170 P) (.node (o298 P) .nil .nil) (.node (o426 P) .nil .nil)) (.node (o234 P) (.node (o362 P) .nil .nil) .nil))) (.node (o58 P) (.node (o90 P) (.node (o154 P) (.node (o282 P) .nil .nil) (.node (o410 P) .nil .nil)) (.node (o218 P) (.node (o346 P) .nil .nil) .nil)) (.node (o122 P) (.node (o186 P) (.node (o314 P) .nil .nil) .nil) (.node (o250 P) (.node (o378 P) .nil .nil) .nil))))) (.node (o14 P) (.node (o22 P) (.node (o38 P) (.node (o70 P) (.node (o134 P) (.node (o262 P) .nil .nil) (.node (o390 P) .nil .nil)) (.node (o198 P) (.node (o326 P) .nil .nil) .nil)) (.node (o102 P) (.node (o166 P) (.node (o294 P) .nil .nil) (.node (o422 P) .nil .nil)) (.node (o230 P) (.node (o358 P) .nil .nil) .nil))) (.node (o54 P) (.node (o86 P) (.node (o150 P) (.node (o278 P) .nil .nil) (.node (o406 P) .nil .nil)) (.node (o214 P) (.node (o342 P) .nil .nil) .nil)) (.node (o118 P) (.node (o182 P) (.node (o310 P) .nil .nil) (.node (o438 P) .nil .nil)) (.node (o246 P) (.node (o374 P) .nil .nil) .nil)))) (.node (o30 P) (.node (o46 P) (.node (o78 P) (.node (o142 P) (.node (o270 P) .nil .nil) (.node (o398 P) .nil .nil)) (.node (o206 P) (.node (o334 P) .nil .nil) .nil)) (.node (o110 P) (.node (o174 P) (.node (o302 P) .nil .nil) (.node (o430 P) .nil .nil)) (.node (o238 P) (.node (o366 P) .nil .nil) .nil))) (.node (o62 P) (.node (o94 P) (.node (o158 P) (.node (o286 P) .nil .nil) (.node (o414 P) .nil .nil)) (.node (o222 P) (.node (o350 P) .nil .nil) .nil)) (.node (o126 P) (.node (o190 P) (.node (o318 P) .nil .nil) .nil) (.node (o254 P) (.node (o382 P) .nil .nil) .nil))))))))
noncomputable def S_p51 (w : World) (os : OsState) : SharedT := ⟨t_p51 w.params, 442, { }, ⟨[]⟩, { }, 843, os⟩
noncomputable def eE : Env := { scope := PP.main.scope, locals := mainNs, globals := mainNs, cells := [], code := Value.ref 13, frame := some 14 }
noncomputable def g_0 : List Stmt := [nthS PP.main.body 0, nthS PP.main.body 1, nthS PP.main.body 2, nthS PP.main.body 3, nthS PP.main.body 4, nthS PP.main.body 5, nthS PP.main.body 6, nthS PP.main.body 7, nthS PP.main.body 8]
noncomputable def g_1 : List Stmt := [nthS PP.main.body 9, nthS PP.main.body 10, nthS PP.main.body 11, nthS PP.main.body 12, nthS PP.main.body 13, nthS PP.main.body 14, nthS PP.main.body 15]
noncomputable def g_2 : List Stmt := [nthS PP.main.body 16, nthS PP.main.body 17]
noncomputable def g_3 : List Stmt := [nthS PP.main.body 18, nthS PP.main.body 19, nthS PP.main.body 20, nthS PP.main.body 21, nthS PP.main.body 22, nthS PP.main.body 23, nthS PP.main.body 24]
noncomputable def g_4 : List Stmt := [nthS PP.main.body 25, nthS PP.main.body 26, nthS PP.main.body 27, nthS PP.main.body 28, nthS PP.main.body 29, nthS PP.main.body 30]
noncomputable def g_5 : List Stmt := [nthS PP.main.body 31]
noncomputable def g_6 : List Stmt := [nthS PP.main.body 32]
noncomputable def g_7 : List Stmt := [nthS PP.main.body 33, nthS PP.main.body 34, nthS PP.main.body 35]
noncomputable def g_8 : List Stmt := [nthS PP.main.body 36, nthS PP.main.body 37, nthS PP.main.body 38, nthS PP.main.body 39, nthS PP.main.body 40, nthS PP.main.body 41, nthS PP.main.body 42, nthS PP.main.body 43, nthS PP.main.body 44, nthS PP.main.body 45, nthS PP.main.body 46, nthS PP.main.body 47, nthS PP.main.body 48, nthS PP.main.body 49, nthS PP.main.body 50]
noncomputable def g_9 : List Stmt := [nthS PP.main.body 51]
noncomputable abbrev bE : List Stmt := g_0 ++ (g_1 ++ (g_2 ++ (g_3 ++ (g_4 ++ (g_5 ++ (g_6 ++ (g_7 ++ (g_8 ++ (g_9 ++ ([]))))))))))
noncomputable abbrev cE : Code := .body bE eE
theorem hOpen : ∀ w : World, (fencedOpening treeTable PP w 6614).map (fun s => (s.heap, s.gens, s.drawn, s.toks)) = some (PySem.W.boot_heap w.params, Array.mk [], PySem.W.boot_drawn, PySem.W.boot_toks) := boot_open (by kernel_rfl) (by decide) (fun s => by kernel_rfl)
theorem hSize : ∀ w : World, ((PySem.W.boot_heap w.params).isNs mainGlobals && (Array.mk [] : Array GenState).size == 0, (PySem.W.boot_heap w.params).objs.size, (PySem.W.boot_heap w.params).nsMap mainGlobals "__annotations__") = (true, 11, (Option.some (Value.ref 6) : Option Value)) := fun w => by kernel_rfl
theorem hPre (w : World) (os : OsState) : topGo treeTable PP w 11 (Option.some (Value.ref 6) : Option Value) 12 ⟨PySem.W.boot_heap w.params, Array.mk [], PySem.W.boot_drawn, PySem.W.boot_toks, os⟩ (topStub PP) = some (⟨h_a w.params, Array.mk [], { }, 187, os⟩, ⟨denote treeTable cE, cE, { line := 0, col := 0, endLine := 0, endCol := 0 }, [topFrame { line := 0, col := 0, endLine := 0, endCol := 0 }]⟩) := by kernel_rfl
theorem hBlock (w : World) (os : OsState) : segRun treeTable PP w 11 (Option.some (Value.ref 6) : Option Value) 1 1 ⟨h_a w.params, Array.mk [], { }, 187, os⟩ (blockOf bE eE cE { line := 0, col := 0, endLine := 0, endCol := 0 } [topFrame { line := 0, col := 0, endLine := 0, endCol := 0 }]) = some (.next, (S_b w os).abs, cE, { line := 0, col := 0, endLine := 0, endCol := 0 }) := by kernel_rfl
theorem hG_0 (w : World) (os : OsState) : segRunT treeTable PP w 11 (Option.some (Value.ref 6) : Option Value) 1 434 (S_b w os) (piecesOf g_0 eE cE { line := 0, col := 0, endLine := 0, endCol := 0 } [topFrame { line := 0, col := 0, endLine := 0, endCol := 0 }]) = some (.next, S_p8 w os, cE, { line := 42, col := 0, endLine := 45, endCol := 45 }) := by kernel_rfl
theorem hG_1 : ∀ (w : World) (os : OsState), segRunT treeTable PP w 11 (Option.some (Value.ref 6) : Option Value) 1 289 (S_p8 w os) (piecesOf g_1 eE cE { line := 42, col := 0, endLine := 45, endCol := 45 } [topFrame { line := 0, col := 0, endLine := 0, endCol := 0 }]) = some (.next, S_p15 w os, cE, { line := 72, col := 0, endLine := 72, endCol := 9 }) := byRow2 "special-get-raises" (fun w os => by kernel_rfl) (fun w os => by kernel_rfl)
theorem hG_2 (w : World) (os : OsState) : segRunT treeTable PP w 11 (Option.some (Value.ref 6) : Option Value) 1 410 (S_p15 w os) (piecesOf g_2 eE cE { line := 72, col := 0, endLine := 72, endCol := 9 } [topFrame { line := 0, col := 0, endLine := 0, endCol := 0 }]) = some (.next, S_p17 w os, cE, { line := 75, col := 0, endLine := 76, endCol := 8 }) := by kernel_rfl
theorem hG_3 (w : World) (os : OsState) : segRunT treeTable PP w 11 (Option.some (Value.ref 6) : Option Value) 1 423 (S_p17 w os) (piecesOf g_3 eE cE { line := 75, col := 0, endLine := 76, endCol := 8 } [topFrame { line := 0, col := 0, endLine := 0, endCol := 0 }]) = some (.next, S_p24 w os, cE, { line := 127, col := 0, endLine := 139, endCol := 22 }) := by kernel_rfl
theorem hG_4 (w : World) (os : OsState) : segRunT treeTable PP w 11 (Option.some (Value.ref 6) : Option Value) 1 145 (S_p24 w os) (piecesOf g_4 eE cE { line := 127, col := 0, endLine := 139, endCol := 22 } [topFrame { line := 0, col := 0, endLine := 0, endCol := 0 }]) = some (.next, S_p30 w os, cE, { line := 159, col := 0, endLine := 159, endCol := 8 }) := by kernel_rfl
theorem hG_5 (w : World) (os : OsState) : segRunT treeTable PP w 11 (Option.some (Value.ref 6) : Option Value) 1 358 (S_p30 w os) (piecesOf g_5 eE cE { line := 159, col := 0, endLine := 159, endCol := 8 } [topFrame { line := 0, col := 0, endLine := 0, endCol := 0 }]) = some (.next, S_p31 w os, cE, { line := 160, col := 0, endLine := 188, endCol := 53 }) := by kernel_rfl
theorem hG_6 (w : World) (os : OsState) : segRunT treeTable PP w 11 (Option.some (Value.ref 6) : Option Value) 1 283 (S_p31 w os) (piecesOf g_6 eE cE { line := 160, col := 0, endLine := 188, endCol := 53 } [topFrame { line := 0, col := 0, endLine := 0, endCol := 0 }]) = some (.next, S_p32 w os, cE, { line := 189, col := 0, endLine := 199, endCol := 32 }) := by kernel_rfl
theorem hG_7 (w : World) (os : OsState) : segRunT treeTable PP w 11 (Option.some (Value.ref 6) : Option Value) 1 437 (S_p32 w os) (piecesOf g_7 eE cE { line := 189, col := 0, endLine := 199, endCol := 32 } [topFrame { line := 0, col := 0, endLine := 0, endCol := 0 }]) = some (.next, S_p35 w os, cE, { line := 234, col := 0, endLine := 237, endCol := 20 }) := by kernel_rfl
theorem hG_8 (w : World) (os : OsState) : segRunT treeTable PP w 11 (Option.some (Value.ref 6) : Option Value) 1 448 (S_p35 w os) (piecesOf g_8 eE cE { line := 234, col := 0, endLine := 237, endCol := 20 } [topFrame { line := 0, col := 0, endLine := 0, endCol := 0 }]) = some (.next, S_p50 w os, cE, { line := 326, col := 0, endLine := 330, endCol := 19 }) := by kernel_rfl
theorem hG_9 (w : World) (os : OsState) : segRunT treeTable PP w 11 (Option.some (Value.ref 6) : Option Value) 1 27 (S_p50 w os) (piecesOf g_9 eE cE { line := 326, col := 0, endLine := 330, endCol := 19 } [topFrame { line := 0, col := 0, endLine := 0, endCol := 0 }]) = some (.next, S_p51 w os, cE, { line := 331, col := 0, endLine := 351, endCol := 116 }) := by kernel_rfl
theorem hFin (w : World) (os : OsState) : topRun treeTable PP w 11 (Option.some (Value.ref 6) : Option Value) 2 (S_p51 w os).abs ⟨doneF .next, cE, { line := 331, col := 0, endLine := 351, endCol := 116 }, [topFrame { line := 0, col := 0, endLine := 0, endCol := 0 }]⟩ = some ⟨h_f w.params, Array.mk [], { }, 843, os⟩ := by kernel_rfl
theorem hRun : ∀ (w : World) (os : OsState), topRun treeTable PP w 11 (Option.some (Value.ref 6) : Option Value) (12 + (1 + (434 + (289 + (410 + (423 + (145 + (358 + (283 + (437 + (448 + (27 + 2)))))))))))) ⟨PySem.W.boot_heap w.params, Array.mk [], PySem.W.boot_drawn, PySem.W.boot_toks, os⟩ (topStub PP) = some ⟨h_f w.params, Array.mk [], { }, 843, os⟩ := fun w os => go_top (hPre w os) (piece_block (hBlock w os) (piece_app (segRun_of (hG_0 w os)) (piece_app (segRun_of (hG_1 w os)) (piece_app (segRun_of (hG_2 w os)) (piece_app (segRun_of (hG_3 w os)) (piece_app (segRun_of (hG_4 w os)) (piece_app (segRun_of (hG_5 w os)) (piece_app (segRun_of (hG_6 w os)) (piece_app (segRun_of (hG_7 w os)) (piece_app (segRun_of (hG_8 w os)) (piece_app (segRun_of (hG_9 w os)) (piece_nil (hFin w os)))))))))))))
noncomputable def K : Params → Frag := (fun n0 a0 b0 d0 r0 t0 s0 u0 m0 p0 (_ : (nthS (fdB (nthS PP.main.body 1)) 0) = .FunctionDef n0 a0 b0 d0 r0 t0 s0 u0 m0 p0) n1 a1 b1 d1 r1 t1 s1 u1 m1 p1 (_ : (nthS PP.main.body 2) = .FunctionDef n1 a1 b1 d1 r1 t1 s1 u1 m1 p1) n2 a2 b2 d2 r2 t2 s2 u2 m2 p2 (_ : (nthS PP.main.body 3) = .FunctionDef n2 a2 b2 d2 r2 t2 s2 u2 m2 p2) n3 a3 b3 d3 r3 t3 s3 u3 m3 p3 (_ : (nthS PP.main.body 4) = .FunctionDef n3 a3 b3 d3 r3 t3 s3 u3 m3 p3) n4 a4 b4 d4 r4 t4 s4 u4 m4 p4 (_ : (nthS PP.main.body 5) = .FunctionDef n4 a4 b4 d4 r4 t4 s4 u4 m4 p4) n5 a5 b5 d5 r5 t5 s5 u5 m5 p5 (_ : (nthS PP.main.body 6) = .FunctionDef n5 a5 b5 d5 r5 t5 s5 u5 m5 p5) n6 a6 b6 d6 r6 t6 s6 u6 m6 p6 (_ : (nthS PP.main.body 8) = .FunctionDef n6 a6 b6 d6 r6 t6 s6 u6 m6 p6) n7 a7 b7 d7 r7 t7 s7 u7 m7 p7 (_ : (nthS PP.main.body 9) = .FunctionDef n7 a7 b7 d7 r7 t7 s7 u7 m7 p7) n8 a8 b8 d8 r8 t8 s8 u8 m8 p8 (_ : (nthS PP.main.body 10) = .FunctionDef n8 a8 b8 d8 r8 t8 s8 u8 m8 p8) n9 a9 b9 d9 r9 t9 s9 u9 m9 p9 (_ : (nthS PP.main.body 12) = .FunctionDef n9 a9 b9 d9 r9 t9 s9 u9 m9 p9) n10 a10 b10 d10 r10 t10 s10 u10 m10 p10 (_ : (nthS PP.main.body 13) = .FunctionDef n10 a10 b10 d10 r10 t10 s10 u10 m10 p10) n11 a11 b11 d11 r11 t11 s11 u11 m11 p11 (_ : (nthS PP.main.body 19) = .FunctionDef n11 a11 b11 d11 r11 t11 s11 u11 m11 p11) n12 a12 b12 d12 r12 t12 s12 u12 m12 p12 (_ : (nthS PP.main.body 20) = .FunctionDef n12 a12 b12 d12 r12 t12 s12 u12 m12 p12) n13 a13 b13 d13 r13 t13 s13 u13 m13 p13 (_ : (nthS PP.main.body 21) = .FunctionDef n13 a13 b13 d13 r13 t13 s13 u13 m13 p13) n14 a14 b14 d14 r14 t14 s14 u14 m14 p14 (_ : (nthS PP.main.body 22) = .FunctionDef n14 a14 b14 d14 r14 t14 s14 u14 m14 p14) n15 a15 b15 d15 r15 t15 s15 u15 m15 p15 (_ : (nthS PP.main.body 23) = .FunctionDef n15 a15 b15 d15 r15 t15 s15 u15 m15 p15) n16 a16 b16 d16 r16 t16 s16 u16 m16 p16 (_ : (nthS PP.main.body 24) = .FunctionDef n16 a16 b16 d16 r16 t16 s16 u16 m16 p16) n17 a17 b17 d17 r17 t17 s17 u17 m17 p17 (_ : (nthS PP.main.body 25) = .FunctionDef n17 a17 b17 d17 r17 t17 s17 u17 m17 p17) n18 a18 b18 d18 r18 t18 s18 u18 m18 p18 (_ : (nthS PP.main.body 26) = .FunctionDef n18 a18 b18 d18 r18 t18 s18 u18 m18 p18) n19 a19 b19 d19 r19 t19 s19 u19 m19 p19 (_ : (nthS PP.main.body 28) = .FunctionDef n19 a19 b19 d19 r19 t19 s19 u19 m19 p19) n20 a20 b20 d20 r20 t20 s20 u20 m20 p20 (_ : (nthS PP.main.body 29) = .FunctionDef n20 a20 b20 d20 r20 t20 s20 u20 m20 p20) n21 a21 b21 d21 r21 t21 s21 u21 m21 p21 (_ : (nthS (fdB (nthS PP.main.body 31)) 0) = .FunctionDef n21 a21 b21 d21 r21 t21 s21 u21 m21 p21) n22 a22 b22 d22 r22 t22 s22 u22 m22 p22 (_ : (nthS (fdB (nthS PP.main.body 31)) 1) = .FunctionDef n22 a22 b22 d22 r22 t22 s22 u22 m22 p22) n23 a23 b23 d23 r23 t23 s23 u23 m23 p23 (_ : (nthS (fdB (nthS PP.main.body 31)) 2) = .FunctionDef n23 a23 b23 d23 r23 t23 s23 u23 m23 p23) n24 a24 b24 d24 r24 t24 s24 u24 m24 p24 (_ : (nthS (fdB (nthS PP.main.body 31)) 3) = .FunctionDef n24 a24 b24 d24 r24 t24 s24 u24 m24 p24) n25 a25 b25 d25 r25 t25 s25 u25 m25 p25 (_ : (nthS (fdB (nthS PP.main.body 31)) 4) = .FunctionDef n25 a25 b25 d25 r25 t25 s25 u25 m25 p25) n26 a26 b26 d26 r26 t26 s26 u26 m26 p26 (_ : (nthS (fdB (nthS PP.main.body 32)) 0) = .FunctionDef n26 a26 b26 d26 r26 t26 s26 u26 m26 p26) n27 a27 b27 d27 r27 t27 s27 u27 m27 p27 (_ : (nthS (fdB (nthS PP.main.body 32)) 1) = .FunctionDef n27 a27 b27 d27 r27 t27 s27 u27 m27 p27) n28 a28 b28 d28 r28 t28 s28 u28 m28 p28 (_ : (nthS (fdB (nthS PP.main.body 33)) 0) = .FunctionDef n28 a28 b28 d28 r28 t28 s28 u28 m28 p28) n29 a29 b29 d29 r29 t29 s29 u29 m29 p29 (_ : (nthS (fdB (nthS PP.main.body 33)) 1) = .FunctionDef n29 a29 b29 d29 r29 t29 s29 u29 m29 p29) n30 a30 b30 d30 r30 t30 s30 u30 m30 p30 (_ : (nthS (fdB (nthS PP.main.body 33)) 2) = .FunctionDef n30 a30 b30 d30 r30 t30 s30 u30 m30 p30) n31 a31 b31 d31 r31 t31 s31 u31 m31 p31 (_ : (nthS (fdB (nthS PP.main.body 33)) 3) = .FunctionDef n31 a31 b31 d31 r31 t31 s31 u31 m31 p31) n32 a32 b32 d32 r32 t32 s32 u32 m32 p32 (_ : (nthS (fdB (nthS PP.main.body 33)) 4) = .FunctionDef n32 a32 b32 d32 r32 t32 s32 u32 m32 p32) n33 a33 b33 d33 r33 t33 s33 u33 m33 p33 (_ : (nthS PP.main.body 35) = .FunctionDef n33 a33 b33 d33 r33 t33 s33 u33 m33 p33) n34 a34 b34 d34 r34 t34 s34 u34 m34 p34 (_ : (nthS PP.main.body 36) = .FunctionDef n34 a34 b34 d34 r34 t34 s34 u34 m34 p34) n35 a35 b35 d35 r35 t35 s35 u35 m35 p35 (_ : (nthS PP.main.body 37) = .FunctionDef n35 a35 b35 d35 r35 t35 s35 u35 m35 p35) n36 a36 b36 d36 r36 t36 s36 u36 m36 p36 (_ : (nthS PP.main.body 38) = .FunctionDef n36 a36 b36 d36 r36 t36 s36 u36 m36 p36) n37 a37 b37 d37 r37 t37 s37 u37 m37 p37 (_ : (nthS PP.main.body 39) = .FunctionDef n37 a37 b37 d37 r37 t37 s37 u37 m37 p37) n38 a38 b38 d38 r38 t38 s38 u38 m38 p38 (_ : (nthS PP.main.body 40) = .FunctionDef n38 a38 b38 d38 r38 t38 s38 u38 m38 p38) n39 a39 b39 d39 r39 t39 s39 u39 m39 p39 (_ : (nthS PP.main.body 41) = .FunctionDef n39 a39 b39 d39 r39 t39 s39 u39 m39 p39) n40 a40 b40 d40 r40 t40 s40 u40 m40 p40 (_ : (nthS PP.main.body 42) = .FunctionDef n40 a40 b40 d40 r40 t40 s40 u40 m40 p40) n41 a41 b41 d41 r41 t41 s41 u41 m41 p41 (_ : (nthS PP.main.body 43) = .FunctionDef n41 a41 b41 d41 r41 t41 s41 u41 m41 p41) n42 a42 b42 d42 r42 t42 s42 u42 m42 p42 (_ : (nthS PP.main.body 44) = .FunctionDef n42 a42 b42 d42 r42 t42 s42 u42 m42 p42) n43 a43 b43 d43 r43 t43 s43 u43 m43 p43 (_ : (nthS PP.main.body 45) = .FunctionDef n43 a43 b43 d43 r43 t43 s43 u43 m43 p43) n44 a44 b44 d44 r44 t44 s44 u44 m44 p44 (_ : (nthS PP.main.body 46) = .FunctionDef n44 a44 b44 d44 r44 t44 s44 u44 m44 p44) n45 a45 b45 d45 r45 t45 s45 u45 m45 p45 (_ : (nthS PP.main.body 47) = .FunctionDef n45 a45 b45 d45 r45 t45 s45 u45 m45 p45) n46 a46 b46 d46 r46 t46 s46 u46 m46 p46 (_ : (nthS PP.main.body 48) = .FunctionDef n46 a46 b46 d46 r46 t46 s46 u46 m46 p46) n47 a47 b47 d47 r47 t47 s47 u47 m47 p47 (_ : (nthS PP.main.body 49) = .FunctionDef n47 a47 b47 d47 r47 t47 s47 u47 m47 p47) n48 a48 b48 d48 r48 t48 s48 u48 m48 p48 (_ : (nthS PP.main.body 50) = .FunctionDef n48 a48 b48 d48 r48 t48 s48 u48 m48 p48) n49 a49 b49 d49 r49 t49 s49 u49 m49 p49 (_ : (nthS PP.main.body 51) = .FunctionDef n49 a49 b49 d49 r49 t49 s49 u49 m49 p49) => fun P => ((nat_lit 2, { cls := Value.none, data := Data.dict #[{ hash := PyData.keyHash P (Str.ofString "type.__subclasses__.Exception.0"), key := Value.str (Str.ofString "type.__subclasses__.Exception.0") 366, val := Value.int 117 0 }, { hash := PyData.keyHash P (Str.ofString "type.__subclasses__.Exception.n"), key := Value.str (Str.ofString "type.__subclasses__.Exception.n") 367, val := Value.int 1 0 }] 2 }) :: (nat_lit 3, { cls := Value.type "dict", data := Data.dict #[{ hash := PyData.keyHash P (Str.ofString "__name__"), key := Value.str (Str.ofString "__name__") 165, val := Value.str (Str.ofString "law_ys0001_11") 700 }, { hash := PyData.keyHash P (Str.ofString "__doc__"), key := Value.str (Str.ofString "__doc__") 166, val := Value.none }, { hash := PyData.keyHash P (Str.ofString "__package__"), key := Value.str (Str.ofString "__package__") 167, val := Value.none }, { hash := PyData.keyHash P (Str.ofString "__loader__"), key := Value.str (Str.ofString "__loader__") 168, val := Value.builtin "__main__.__loader__#opaque" }, { hash := PyData.keyHash P (Str.ofString "__spec__"), key := Value.str (Str.ofString "__spec__") 169, val := Value.none }, { hash := PyData.keyHash P (Str.ofString "__annotations__"), key := Value.str (Str.ofString "__annotations__") 170, val := Value.ref 6 }, { hash := PyData.keyHash P (Str.ofString "__builtins__"), key := Value.str (Str.ofString "__builtins__") 171, val := Value.ref 4 }, { hash := PyData.keyHash P (Str.ofString "__file__"), key := Value.str (Str.ofString "__file__") 173, val := Value.str (Str.ofString "/claim/cut.py") 172 }, { hash := PyData.keyHash P (Str.ofString "__cached__"), key := Value.str (Str.ofString "__cached__") 174, val := Value.none }, { hash := PyData.keyHash P (Str.ofString "NotRelativePrimeError"), key := Value.str (Str.ofString "NotRelativePrimeError") 221, val := Value.ref 32 }, { hash := PyData.keyHash P (Str.ofString "bit_size"), key := Value.str (Str.ofString "bit_size") 228, val := Value.ref 42 }, { hash := PyData.keyHash P (Str.ofString "byte_size"), key := Value.str (Str.ofString "byte_size") 235, val := Value.ref 49 }, { hash := PyData.keyHash P (Str.ofString "ceil_div"), key := Value.str (Str.ofString "ceil_div") 245, val := Value.ref 56 }, { hash := PyData.keyHash P (Str.ofString "extended_gcd"), key := Value.str (Str.ofString "extended_gcd") 260, val := Value.ref 63 }, { hash := PyData.keyHash P (Str.ofString "inverse"), key := Value.str (Str.ofString "inverse") 271, val := Value.ref 70 }, { hash := PyData.keyHash P (Str.ofString "assert_int"), key := Value.str (Str.ofString "assert_int") 281, val := Value.ref 77 }, { hash := PyData.keyHash P (Str.ofString "encrypt_int"), key := Value.str (Str.ofString "encrypt_int") 290, val := Value.ref 84 }, { hash := PyData.keyHash P (Str.ofString "decrypt_int"), key := Value.str (Str.ofString "decrypt_int") 300, val := Value.ref 91 }, { hash := PyData.keyHash P (Str.ofString "bytes2int"), key := Value.str (Str.ofString "bytes2int") 309, val := Value.ref 98 }, { hash := PyData.keyHash P (Str.ofString "int2bytes"), key := Value.str (Str.ofString "int2bytes") 319, val := Value.ref 106 }, { hash := PyData.keyHash P (Str.ofString "HASH_ASN1"), key := Value.str (Str.ofString "HASH_ASN1") 349, val := Value.ref 107 }, { hash := PyData.keyHash P (Str.ofString "CryptoError"), key := Value.str (Str.ofString "CryptoError") 369, val := Value.ref 117 }, { hash := PyData.keyHash P (Str.ofString "DecryptionError"), key := Value.str (Str.ofString "DecryptionError") 385, val := Value.ref 130 }, { hash := PyData.keyHash P (Str.ofString "VerificationError"), key := Value.str (Str.ofString "VerificationError") 401, val := Value.ref 142 }, { hash := PyData.keyHash P (Str.ofString "_pad_for_encryption"), key := Value.str (Str.ofString "_pad_for_encryption") 407, val := Value.ref 149 }, { hash := PyData.keyHash P (Str.ofString "_pad_for_signing"), key := Value.str (Str.ofString "_pad_for_signing") 418, val := Value.ref 156 }, { hash := PyData.keyHash P (Str.ofString "encrypt"), key := Value.str (Str.ofString "encrypt") 432, val := Value.ref 163 }, { hash := PyData.keyHash P (Str.ofString "decrypt"), key := Value.str (Str.ofString "decrypt") 448, val := Value.ref 170 }, { hash := PyData.keyHash P (Str.ofString "sign_hash"), key := Value.str (Str.ofString "sign_hash") 464, val := Value.ref 177 }, { hash := PyData.keyHash P (Str.ofString "verify"), key := Value.str (Str.ofString "verify") 480, val := Value.ref 184 }, { hash := PyData.keyHash P (Str.ofString "find_signature_hash"), key := Value.str (Str.ofString "find_signature_hash") 492, val := Value.ref 191 }, { hash := PyData.keyHash P (Str.ofString "_find_method_hash"), key := Value.str (Str.ofString "_find_method_hash") 501, val := Value.ref 198 }, { hash := PyData.keyHash P (Str.ofString "gcd"), key := Value.str (Str.ofString "gcd") 511, val := Value.ref 205 }, { hash := PyData.keyHash P (Str.ofString "are_relatively_prime"), key := Value.str (Str.ofString "are_relatively_prime") 520, val := Value.ref 212 }, { hash := PyData.keyHash P (Str.ofString "AbstractKey"), key := Value.str (Str.ofString "AbstractKey") 590, val := Value.ref 257 }, { hash := PyData.keyHash P (Str.ofString "PublicKey"), key := Value.str (Str.ofString "PublicKey") 623, val := Value.ref 285 }, { hash := PyData.keyHash P (Str.ofString "PrivateKey"), key := Value.str (Str.ofString "PrivateKey") 699, val := Value.ref 332 }, { hash := PyData.keyHash P (Str.ofString "_law_cell"), key := Value.str (Str.ofString "_law_cell") 709, val := Value.ref 341 }, { hash := PyData.keyHash P (Str.ofString "_law_octets"), key := Value.str (Str.ofString "_law_octets") 721, val := Value.ref 348 }, { hash := PyData.keyHash P (Str.ofString "_law_common"), key := Value.str (Str.ofString "_law_common") 730, val := Value.ref 355 }, { hash := PyData.keyHash P (Str.ofString "_law_inverse"), key := Value.str (Str.ofString "_law_inverse") 744, val := Value.ref 362 }, { hash := PyData.keyHash P (Str.ofString "_law_size"), key := Value.str (Str.ofString "_law_size") 751, val := Value.ref 369 }, { hash := PyData.keyHash P (Str.ofString "_law_keys"), key := Value.str (Str.ofString "_law_keys") 757, val := Value.ref 374 }, { hash := PyData.keyHash P (Str.ofString "_law_number"), key := Value.str (Str.ofString "_law_number") 766, val := Value.ref 381 }, { hash := PyData.keyHash P (Str.ofString "_law_written"), key := Value.str (Str.ofString "_law_written") 772, val := Value.ref 386 }, { hash := PyData.keyHash P (Str.ofString "_law_codes"), key := Value.str (Str.ofString "_law_codes") 785, val := Value.ref 393 }, { hash := PyData.keyHash P (Str.ofString "_law_block"), key := Value.str (Str.ofString "_law_block") 793, val := Value.ref 400 }, { hash := PyData.keyHash P (Str.ofString "_law_has"), key := Value.str (Str.ofString "_law_has") 799, val := Value.ref 405 }, { hash := PyData.keyHash P (Str.ofString "_law_name"), key := Value.str (Str.ofString "_law_name") 805, val := Value.ref 410 }, { hash := PyData.keyHash P (Str.ofString "_law_judged"), key := Value.str (Str.ofString "_law_judged") 811, val := Value.ref 415 }, { hash := PyData.keyHash P (Str.ofString "_law_told"), key := Value.str (Str.ofString "_law_told") 820, val := Value.ref 422 }, { hash := PyData.keyHash P (Str.ofString "_law_read"), key := Value.str (Str.ofString "_law_read") 828, val := Value.ref 429 }, { hash := PyData.keyHash P (Str.ofString "_law_found"), key := Value.str (Str.ofString "_law_found") 836, val := Value.ref 436 }, { hash := PyData.keyHash P (Str.ofString "law"), key := Value.str (Str.ofString "law") 842, val := Value.ref 441 }] 54 }) :: (nat_lit 15, { cls := Value.type "tuple", data := Data.seq #[Value.type "ValueError"] }) :: (nat_lit 22, { cls := Value.type "tuple", data := Data.seq #[Value.str (Str.ofString "") 201] }) :: (nat_lit 23, { cls := Value.type "tuple", data := Data.seq #[] }) :: (nat_lit 25, { cls := Value.type "tuple", data := Data.seq #[Value.str (Str.ofString "self") 205, Value.str (Str.ofString "a") 206, Value.str (Str.ofString "b") 207, Value.str (Str.ofString "d") 208, Value.str (Str.ofString "msg") 209] }) :: (nat_lit 26, { cls := Value.type "tuple", data := Data.seq #[] }) :: (nat_lit 28, { cls := Value.type "code", data := Data.fields #[Value.str (Str.ofString "__init__") 202, Value.str (Str.ofString "NotRelativePrimeError.__init__") 203, Value.str (Str.ofString "/claim/cut.py") 204, Value.int 4 0, Value.int 5 0, Value.int 0 0, Value.int 0 0, Value.int 3 0, Value.ref 23, Value.bool Bool.true, Value.int 181 0, Value.ref 24, Value.none, Value.ref 25, Value.ref 26, Value.ref 27, Value.int 210 0, Value.int 4 0, Value.str (Str.ofString "/claim/cut.py") 211] }) :: (nat_lit 29, { cls := Value.type "function", data := Data.func { name := Str.ofString "__init__", qualname := Str.ofString "NotRelativePrimeError.__init__", params := a0, body := FuncBody.stmts b0, scope := s0, globals := 3, closure := [], defaults := Value.ref 22, kwdefaults := Value.none, pyModule := Value.str (Str.ofString "rsa.common") 187, code := Value.ref 28 } }) :: (nat_lit 30, { cls := Value.type "tuple", data := Data.seq #[Value.str (Str.ofString "a") 213, Value.str (Str.ofString "b") 214, Value.str (Str.ofString "d") 215] }) :: (nat_lit 31, { cls := Value.type "dict", data := Data.dict #[{ hash := PyData.keyHash P (Str.ofString "__module__"), key := Value.str (Str.ofString "__module__") 196, val := Value.str (Str.ofString "rsa.common") 187 }, { hash := PyData.keyHash P (Str.ofString "__firstlineno__"), key := Value.str (Str.ofString "__firstlineno__") 200, val := Value.int 2 199 }, { hash := PyData.keyHash P (Str.ofString "__init__"), key := Value.str (Str.ofString "__init__") 212, val := Value.ref 29 }, { hash := PyData.keyHash P (Str.ofString "__static_attributes__"), key := Value.str (Str.ofString "__static_attributes__") 216, val := Value.ref 30 }, { hash := PyData.keyHash P (Str.ofString "__weakref__"), key := Value.str (Str.ofString "__weakref__") 218, val := Value.ref 33 }, { hash := PyData.keyHash P (Str.ofString "__doc__"), key := Value.str (Str.ofString "__doc__") 219, val := Value.none }] 3 }) :: (nat_lit 32, { cls := Value.type "type", data := Data.cls { name := Str.ofString "NotRelativePrimeError", bases := [Value.type "ValueError"], mro := [Value.ref 32, Value.type "ValueError", Value.type "Exception", Value.type "BaseException", Value.type "object"], ns := 31, qualname := Str.ofString "NotRelativePrimeError" }, slots := #[Option.some (Value.ref 15), Option.none, Option.some (Value.str (Str.ofString "NotRelativePrimeError") 189), Option.some (Value.str (Str.ofString "NotRelativePrimeError") 197), Option.some (Value.builtin "ValueError.__new__"), Option.some (Value.bool Bool.true)] }) :: (nat_lit 33, { cls := Value.type "getset_descriptor", data := Data.fields #[Value.str (Str.ofString "__weakref__") 217, Value.ref 32, Value.builtin "ExceptionGroup.__weakref__", Value.none] }) :: (nat_lit 36, { cls := Value.type "tuple", data := Data.seq #[] }) :: (nat_lit 38, { cls := Value.type "tuple", data := Data.seq #[Value.str (Str.ofString "num") 225] }) :: (nat_lit 39, { cls := Value.type "tuple", data := Data.seq #[] }) :: (nat_lit 41, { cls := Value.type "code", data := Data.fields #[Value.str (Str.ofString "bit_size") 222, Value.str (Str.ofString "bit_size") 223, Value.str (Str.ofString "/claim/cut.py") 224, Value.int 8 0, Value.int 1 0, Value.int 0 0, Value.int 0 0, Value.int 3 0, Value.ref 36, Value.bool Bool.true, Value.int 181 0, Value.ref 37, Value.none, Value.ref 38, Value.ref 39, Value.ref 40, Value.int 226 0, Value.int 8 0, Value.str (Str.ofString "/claim/cut.py") 227] }) :: (nat_lit 42, { cls := Value.type "function", data := Data.func { name := Str.ofString "bit_size", qualname := Str.ofString "bit_size", params := a1, body := FuncBody.stmts b1, scope := s1, globals := 3, closure := [], defaults := Value.none, kwdefaults := Value.none, pyModule := Value.str (Str.ofString "rsa.common") 187, code := Value.ref 41 } }) :: (nat_lit 43, { cls := Value.type "tuple", data := Data.seq #[] }) :: (nat_lit 45, { cls := Value.type "tuple", data := Data.seq #[Value.str (Str.ofString "number") 232] }) :: (nat_lit 46, { cls := Value.type "tuple", data := Data.seq #[] }) :: (nat_lit 48, { cls := Value.type "code", data := Data.fields #[Value.str (Str.ofString "byte_size") 229, Value.str (Str.ofString "byte_size") 230, Value.str (Str.ofString "/claim/cut.py") 231, Value.int 10 0, Value.int 1 0, Value.int 0 0, Value.int 0 0, Value.int 3 0, Value.ref 43, Value.bool Bool.true, Value.int 181 0, Value.ref 44, Value.none, Value.ref 45, Value.ref 46, Value.ref 47, Value.int 233 0, Value.int 10 0, Value.str (Str.ofString "/claim/cut.py") 234] }) :: (nat_lit 49, { cls := Value.type "function", data := Data.func { name := Str.ofString "byte_size", qualname := Str.ofString "byte_size", params := a2, body := FuncBody.stmts b2, scope := s2, globals := 3, closure := [], defaults := Value.none, kwdefaults := Value.none, pyModule := Value.str (Str.ofString "rsa.common") 187, code := Value.ref 48 } }) :: (nat_lit 50, { cls := Value.type "tuple", data := Data.seq #[] }) :: (nat_lit 52, { cls := Value.type "tuple", data := Data.seq #[Value.str (Str.ofString "num") 239, Value.str (Str.ofString "div") 240, Value.str (Str.ofString "quanta") 241, Value.str (Str.ofString "mod") 242] }) :: (nat_lit 53, { cls := Value.type "tuple", data := Data.seq #[] }) :: (nat_lit 55, { cls := Value.type "code", data := Data.fields #[Value.str (Str.ofString "ceil_div") 236, Value.str (Str.ofString "ceil_div") 237, Value.str (Str.ofString "/claim/cut.py") 238, Value.int 14 0, Value.int 2 0, Value.int 0 0, Value.int 0 0, Value.int 3 0, Value.ref 50, Value.bool Bool.true, Value.int 181 0, Value.ref 51, Value.none, Value.ref 52, Value.ref 53, Value.ref 54, Value.int 243 0, Value.int 14 0, Value.str (Str.ofString "/claim/cut.py") 244] }) :: (nat_lit 56, { cls := Value.type "function", data := Data.func { name := Str.ofString "ceil_div", qualname := Str.ofString "ceil_div", params := a3, body := FuncBody.stmts b3, scope := s3, globals := 3, closure := [], defaults := Value.none, kwdefaults := Value.none, pyModule := Value.str (Str.ofString "rsa.common") 187, code := Value.ref 55 } }) :: (nat_lit 57, { cls := Value.type "tuple", data := Data.seq #[] }) :: (nat_lit 59, { cls := Value.type "tuple", data := Data.seq #[Value.str (Str.ofString "a") 249, Value.str (Str.ofString "b") 250, Value.str (Str.ofString "x") 251, Value.str (Str.ofString "y") 252, Value.str (Str.ofString "lx") 253, Value.str (Str.ofString "ly") 254, Value.str (Str.ofString "oa") 255, Value.str (Str.ofString "ob") 256, Value.str (Str.ofString "q") 257] }) :: (nat_lit 60, { cls := Value.type "tuple", data := Data.seq #[] }) :: (nat_lit 62, { cls := Value.type "code", data := Data.fields #[Value.str (Str.ofString "extended_gcd") 246, Value.str (Str.ofString "extended_gcd") 247, Value.str (Str.ofString "/claim/cut.py") 248, Value.int 19 0, Value.int 2 0, Value.int 0 0, Value.int 0 0, Value.int 3 0, Value.ref 57, Value.bool Bool.true, Value.int 181 0, Value.ref 58, Value.none, Value.ref 59, Value.ref 60, Value.ref 61, Value.int 258 0, Value.int 19 0, Value.str (Str.ofString "/claim/cut.py") 259] }) :: (nat_lit 63, { cls := Value.type "function", data := Data.func { name := Str.ofString "extended_gcd", qualname := Str.ofString "extended_gcd", params := a4, body := FuncBody.stmts b4, scope := s4, globals := 3, closure := [], defaults := Value.none, kwdefaults := Value.none, pyModule := Value.str (Str.ofString "rsa.common") 187, code := Value.ref 62 } }) :: (nat_lit 64, { cls := Value.type "tuple", data := Data.seq #[] }) :: (nat_lit 66, { cls := Value.type "tuple", data := Data.seq #[Value.str (Str.ofString "x") 264, Value.str (Str.ofString "n") 265, Value.str (Str.ofString "divider") 266, Value.str (Str.ofString "inv") 267, Value.str (Str.ofString "_") 268] }) :: (nat_lit 67, { cls := Value.type "tuple", data := Data.seq #[] }) :: (nat_lit 69, { cls := Value.type "code", data := Data.fields #[Value.str (Str.ofString "inverse") 261, Value.str (Str.ofString "inverse") 262, Value.str (Str.ofString "/claim/cut.py") 263, Value.int 36 0, Value.int 2 0, Value.int 0 0, Value.int 0 0, Value.int 3 0, Value.ref 64, Value.bool Bool.true, Value.int 181 0, Value.ref 65, Value.none, Value.ref 66, Value.ref 67, Value.ref 68, Value.int 269 0, Value.int 36 0, Value.str (Str.ofString "/claim/cut.py") 270] }) :: (nat_lit 70, { cls := Value.type "function", data := Data.func { name := Str.ofString "inverse", qualname := Str.ofString "inverse", params := a5, body := FuncBody.stmts b5, scope := s5, globals := 3, closure := [], defaults := Value.none, kwdefaults := Value.none, pyModule := Value.str (Str.ofString "rsa.common") 187, code := Value.ref 69 } }) :: (nat_lit 71, { cls := Value.type "tuple", data := Data.seq #[] }) :: (nat_lit 73, { cls := Value.type "tuple", data := Data.seq #[Value.str (Str.ofString "var") 277, Value.str (Str.ofString "name") 278] }) :: (nat_lit 74, { cls := Value.type "tuple", data := Data.seq #[] }) :: (nat_lit 76, { cls := Value.type "code", data := Data.fields #[Value.str (Str.ofString "assert_int") 274, Value.str (Str.ofString "assert_int") 275, Value.str (Str.ofString "/claim/cut.py") 276, Value.int 42 0, Value.int 2 0, Value.int 0 0, Value.int 0 0, Value.int 3 0, Value.ref 71, Value.bool Bool.true, Value.int 181 0, Value.ref 72, Value.none, Value.ref 73, Value.ref 74, Value.ref 75, Value.int 279 0, Value.int 42 0, Value.str (Str.ofString "/claim/cut.py") 280] }) :: (nat_lit 77, { cls := Value.type "function", data := Data.func { name := Str.ofString "assert_int", qualname := Str.ofString "assert_int", params := a6, body := FuncBody.stmts b6, scope := s6, globals := 3, closure := [], defaults := Value.none, kwdefaults := Value.none, pyModule := Value.str (Str.ofString "rsa.core") 272, code := Value.ref 76 } }) :: (nat_lit 78, { cls := Value.type "tuple", data := Data.seq #[] }) :: (nat_lit 80, { cls := Value.type "tuple", data := Data.seq #[Value.str (Str.ofString "message") 285, Value.str (Str.ofString "ekey") 286, Value.str (Str.ofString "n") 287] }) :: (nat_lit 81, { cls := Value.type "tuple", data := Data.seq #[] }) :: (nat_lit 83, { cls := Value.type "code", data := Data.fields #[Value.str (Str.ofString "encrypt_int") 282, Value.str (Str.ofString "encrypt_int") 283, Value.str (Str.ofString "/claim/cut.py") 284, Value.int 46 0, Value.int 3 0, Value.int 0 0, Value.int 0 0, Value.int 3 0, Value.ref 78, Value.bool Bool.true, Value.int 181 0, Value.ref 79, Value.none, Value.ref 80, Value.ref 81, Value.ref 82, Value.int 288 0, Value.int 46 0, Value.str (Str.ofString "/claim/cut.py") 289] }) :: (nat_lit 84, { cls := Value.type "function", data := Data.func { name := Str.ofString "encrypt_int", qualname := Str.ofString "encrypt_int", params := a7, body := FuncBody.stmts b7, scope := s7, globals := 3, closure := [], defaults := Value.none, kwdefaults := Value.none, pyModule := Value.str (Str.ofString "rsa.core") 272, code := Value.ref 83 } }) :: (nat_lit 85, { cls := Value.type "tuple", data := Data.seq #[] }) :: (nat_lit 87, { cls := Value.type "tuple", data := Data.seq #[Value.str (Str.ofString "cyphertext") 294, Value.str (Str.ofString "dkey") 295, Value.str (Str.ofString "n") 296, Value.str (Str.ofString "message") 297] }) :: (nat_lit 88, { cls := Value.type "tuple", data := Data.seq #[] }) :: (nat_lit 90, { cls := Value.type "code", data := Data.fields #[Value.str (Str.ofString "decrypt_int") 291, Value.str (Str.ofString "decrypt_int") 292, Value.str (Str.ofString "/claim/cut.py") 293, Value.int 55 0, Value.int 3 0, Value.int 0 0, Value.int 0 0, Value.int 3 0, Value.ref 85, Value.bool Bool.true, Value.int 181 0, Value.ref 86, Value.none, Value.ref 87, Value.ref 88, Value.ref 89, Value.int 298 0, Value.int 55 0, Value.str (Str.ofString "/claim/cut.py") 299] }) :: (nat_lit 91, { cls := Value.type "function", data := Data.func { name := Str.ofString "decrypt_int", qualname := Str.ofString "decrypt_int", params := a8, body := FuncBody.stmts b8, scope := s8, globals := 3, closure := [], defaults := Value.none, kwdefaults := Value.none, pyModule := Value.str (Str.ofString "rsa.core") 272, code := Value.ref 90 } }) :: (nat_lit 92, { cls := Value.type "tuple", data := Data.seq #[] }) :: (nat_lit 94, { cls := Value.type "tuple", data := Data.seq #[Value.str (Str.ofString "raw_bytes") 306] }) :: (nat_lit 95, { cls := Value.type "tuple", data := Data.seq #[] }) :: (nat_lit 97, { cls := Value.type "code", data := Data.fields #[Value.str (Str.ofString "bytes2int") 303, Value.str (Str.ofString "bytes2int") 304, Value.str (Str.ofString "/claim/cut.py") 305, Value.int 62 0, Value.int 1 0, Value.int 0 0, Value.int 0 0, Value.int 3 0, Value.ref 92, Value.bool Bool.true, Value.int 181 0, Value.ref 93, Value.none, Value.ref 94, Value.ref 95, Value.ref 96, Value.int 307 0, Value.int 62 0, Value.str (Str.ofString "/claim/cut.py") 308] }) :: (nat_lit 98, { cls := Value.type "function", data := Data.func { name := Str.ofString "bytes2int", qualname := Str.ofString "bytes2int", params := a9, body := FuncBody.stmts b9, scope := s9, globals := 3, closure := [], defaults := Value.none, kwdefaults := Value.none, pyModule := Value.str (Str.ofString "rsa.transform") 301, code := Value.ref 97 } }) :: (nat_lit 99, { cls := Value.type "tuple", data := Data.seq #[Value.int 0 310] }) :: (nat_lit 100, { cls := Value.type "tuple", data := Data.seq #[] }) :: (nat_lit 102, { cls := Value.type "tuple", data := Data.seq #[Value.str (Str.ofString "number") 314, Value.str (Str.ofString "fill_size") 315, Value.str (Str.ofString "bytes_required") 316] }) :: (nat_lit 103, { cls := Value.type "tuple", data := Data.seq #[] }) :: (nat_lit 105, { cls := Value.type "code", data := Data.fields #[Value.str (Str.ofString "int2bytes") 311, Value.str (Str.ofString "int2bytes") 312, Value.str (Str.ofString "/claim/cut.py") 313, Value.int 64 0, Value.int 2 0, Value.int 0 0, Value.int 0 0, Value.int 3 0, Value.ref 100, Value.bool Bool.true, Value.int 181 0, Value.ref 101, Value.none, Value.ref 102, Value.ref 103, Value.ref 104, Value.int 317 0, Value.int 64 0, Value.str (Str.ofString "/claim/cut.py") 318] }) :: (nat_lit 106, { cls := Value.type "function", data := Data.func { name := Str.ofString "int2bytes", qualname := Str.ofString "int2bytes", params := a10, body := FuncBody.stmts b10, scope := s10, globals := 3, closure := [], defaults := Value.ref 99, kwdefaults := Value.none, pyModule := Value.str (Str.ofString "rsa.transform") 301, code := Value.ref 105 } }) :: (nat_lit 107, { cls := Value.type "dict", data := Data.dict #[{ hash := PyData.keyHash P (Str.ofString "MD5"), key := Value.str (Str.ofString "MD5") 322, val := Value.bytes #[48, 32, 48, 12, 6, 8, 42, 134, 72, 134, 247, 13, 2, 5, 5, 0, 4, 16] 323 }, { hash := PyData.keyHash P (Str.ofString "SHA-1"), key := Value.str (Str.ofString "SHA-1") 324, val := Value.bytes #[48, 33, 48, 9, 6, 5, 43, 14, 3, 2, 26, 5, 0, 4, 20] 325 }, { hash := PyData.keyHash P (Str.ofString "SHA-224"), key := Value.str (Str.ofString "SHA-224") 326, val := Value.bytes #[48, 45, 48, 13, 6, 9, 96, 134, 72, 1, 101, 3, 4, 2, 4, 5, 0, 4, 28] 327 }, { hash := PyData.keyHash P (Str.ofString "SHA-256"), key := Value.str (Str.ofString "SHA-256") 328, val := Value.bytes #[48, 49, 48, 13, 6, 9, 96, 134, 72, 1, 101, 3, 4, 2, 1, 5, 0, 4, 32] 329 }, { hash := PyData.keyHash P (Str.ofString "SHA-384"), key := Value.str (Str.ofString "SHA-384") 330, val := Value.bytes #[48, 65, 48, 13, 6, 9, 96, 134, 72, 1, 101, 3, 4, 2, 2, 5, 0, 4, 48] 331 }, { hash := PyData.keyHash P (Str.ofString "SHA-512"), key := Value.str (Str.ofString "SHA-512") 332, val := Value.bytes #[48, 81, 48, 13, 6, 9, 96, 134, 72, 1, 101, 3, 4, 2, 3, 5, 0, 4, 64] 333 }, { hash := PyData.keyHash P (Str.ofString "SHA3-256"), key := Value.str (Str.ofString "SHA3-256") 334, val := Value.bytes #[48, 49, 48, 13, 6, 9, 96, 134, 72, 1, 101, 3, 4, 2, 8, 5, 0, 4, 32] 335 }, { hash := PyData.keyHash P (Str.ofString "SHA3-384"), key := Value.str (Str.ofString "SHA3-384") 336, val := Value.bytes #[48, 65, 48, 13, 6, 9, 96, 134, 72, 1, 101, 3, 4, 2, 9, 5, 0, 4, 48] 337 }, { hash := PyData.keyHash P (Str.ofString "SHA3-512"), key := Value.str (Str.ofString "SHA3-512") 338, val := Value.bytes #[48, 81, 48, 13, 6, 9, 96, 134, 72, 1, 101, 3, 4, 2, 10, 5, 0, 4, 64] 339 }] 9 }) :: (nat_lit 108, { cls := Value.type "tuple", data := Data.seq #[Value.type "Exception"] }) :: (nat_lit 115, { cls := Value.type "tuple", data := Data.seq #[] }) :: (nat_lit 116, { cls := Value.type "dict", data := Data.dict #[{ hash := PyData.keyHash P (Str.ofString "__module__"), key := Value.str (Str.ofString "__module__") 357, val := Value.str (Str.ofString "rsa.pkcs1") 320 }, { hash := PyData.keyHash P (Str.ofString "__firstlineno__"), key := Value.str (Str.ofString "__firstlineno__") 361, val := Value.int 73 360 }, { hash := PyData.keyHash P (Str.ofString "__static_attributes__"), key := Value.str (Str.ofString "__static_attributes__") 362, val := Value.ref 115 }, { hash := PyData.keyHash P (Str.ofString "__weakref__"), key := Value.str (Str.ofString "__weakref__") 364, val := Value.ref 118 }, { hash := PyData.keyHash P (Str.ofString "__doc__"), key := Value.str (Str.ofString "__doc__") 365, val := Value.none }] 3 }) :: (nat_lit 117, { cls := Value.type "type", data := Data.cls { name := Str.ofString "CryptoError", bases := [Value.type "Exception"], mro := [Value.ref 117, Value.type "Exception", Value.type "BaseException", Value.type "object"], ns := 116, qualname := Str.ofString "CryptoError", subclasses := [Value.ref 130, Value.ref 142] }, slots := #[Option.some (Value.ref 108), Option.none, Option.some (Value.str (Str.ofString "CryptoError") 350), Option.some (Value.str (Str.ofString "CryptoError") 358), Option.some (Value.builtin "Exception.__new__"), Option.some (Value.bool Bool.true)] }) :: (nat_lit 118, { cls := Value.type "getset_descriptor", data := Data.fields #[Value.str (Str.ofString "__weakref__") 363, Value.ref 117, Value.builtin "ExceptionGroup.__weakref__", Value.none] }) :: (nat_lit 121, { cls := Value.type "tuple", data := Data.seq #[Value.ref 117] }) :: (nat_lit 128, { cls := Value.type "tuple", data := Data.seq #[] }) :: (nat_lit 129, { cls := Value.type "dict", data := Data.dict #[{ hash := PyData.keyHash P (Str.ofString "__module__"), key := Value.str (Str.ofString "__module__") 377, val := Value.str (Str.ofString "rsa.pkcs1") 320 }, { hash := PyData.keyHash P (Str.ofString "__firstlineno__"), key := Value.str (Str.ofString "__firstlineno__") 381, val := Value.int 75 380 }, { hash := PyData.keyHash P (Str.ofString "__static_attributes__"), key := Value.str (Str.ofString "__static_attributes__") 382, val := Value.ref 128 }, { hash := PyData.keyHash P (Str.ofString "__doc__"), key := Value.str (Str.ofString "__doc__") 383, val := Value.none }] 2 }) :: (nat_lit 130, { cls := Value.type "type", data := Data.cls { name := Str.ofString "DecryptionError", bases := [Value.ref 117], mro := [Value.ref 130, Value.ref 117, Value.type "Exception", Value.type "BaseException", Value.type "object"], ns := 129, qualname := Str.ofString "DecryptionError" }, slots := #[Option.some (Value.ref 121), Option.none, Option.some (Value.str (Str.ofString "DecryptionError") 370), Option.some (Value.str (Str.ofString "DecryptionError") 378), Option.some (Value.builtin "Exception.__new__"), Option.some (Value.bool Bool.true)] }) :: (nat_lit 133, { cls := Value.type "tuple", data := Data.seq #[Value.ref 117] }) :: (nat_lit 140, { cls := Value.type "tuple", data := Data.seq #[] }) :: (nat_lit 141, { cls := Value.type "dict", data := Data.dict #[{ hash := PyData.keyHash P (Str.ofString "__module__"), key := Value.str (Str.ofString "__module__") 393, val := Value.str (Str.ofString "rsa.pkcs1") 320 }, { hash := PyData.keyHash P (Str.ofString "__firstlineno__"), key := Value.str (Str.ofString "__firstlineno__") 397, val := Value.int 77 396 }, { hash := PyData.keyHash P (Str.ofString "__static_attributes__"), key := Value.str (Str.ofString "__static_attributes__") 398, val := Value.ref 140 }, { hash := PyData.keyHash P (Str.ofString "__doc__"), key := Value.str (Str.ofString "__doc__") 399, val := Value.none }] 2 }) :: (nat_lit 142, { cls := Value.type "type", data := Data.cls { name := Str.ofString "VerificationError", bases := [Value.ref 117], mro := [Value.ref 142, Value.ref 117, Value.type "Exception", Value.type "BaseException", Value.type "object"], ns := 141, qualname := Str.ofString "VerificationError" }, slots := #[Option.some (Value.ref 133), Option.none, Option.some (Value.str (Str.ofString "VerificationError") 386), Option.some (Value.str (Str.ofString "VerificationError") 394), Option.some (Value.builtin "Exception.__new__"), Option.some (Value.bool Bool.true)] }) :: (nat_lit 145, { cls := Value.type "tuple", data := Data.seq #[] }) :: (nat_lit 148, { cls := Value.type "code", data := Data.fields #[Value.str (Str.ofString "_pad_for_encryption") 402, Value.str (Str.ofString "_pad_for_encryption") 403, Value.str (Str.ofString "/claim/cut.py") 404, Value.int 79 0, Value.int 3 0, Value.int 0 0, Value.int 0 0, Value.int 3 0, Value.ref 145, Value.bool Bool.true, Value.int 181 0, Value.ref 146, Value.none, Value.none, Value.none, Value.ref 147, Value.int 405 0, Value.int 79 0, Value.str (Str.ofString "/claim/cut.py") 406] }) :: (nat_lit 149, { cls := Value.type "function", data := Data.func { name := Str.ofString "_pad_for_encryption", qualname := Str.ofString "_pad_for_encryption", params := a11, body := FuncBody.stmts b11, scope := s11, globals := 3, closure := [], defaults := Value.none, kwdefaults := Value.none, pyModule := Value.str (Str.ofString "rsa.pkcs1") 320, code := Value.ref 148 } }) :: (nat_lit 150, { cls := Value.type "tuple", data := Data.seq #[] }) :: (nat_lit 152, { cls := Value.type "tuple", data := Data.seq #[Value.str (Str.ofString "message") 411, Value.str (Str.ofString "target_length") 412, Value.str (Str.ofString "max_msglength") 413, Value.str (Str.ofString "msglength") 414, Value.str (Str.ofString "padding_length") 415] }) :: (nat_lit 153, { cls := Value.type "tuple", data := Data.seq #[] }) :: (nat_lit 155, { cls := Value.type "code", data := Data.fields #[Value.str (Str.ofString "_pad_for_signing") 408, Value.str (Str.ofString "_pad_for_signing") 409, Value.str (Str.ofString "/claim/cut.py") 410, Value.int 88 0, Value.int 2 0, Value.int 0 0, Value.int 0 0, Value.int 3 0, Value.ref 150, Value.bool Bool.true, Value.int 181 0, Value.ref 151, Value.none, Value.ref 152, Value.ref 153, Value.ref 154, Value.int 416 0, Value.int 88 0, Value.str (Str.ofString "/claim/cut.py") 417] }) :: (nat_lit 156, { cls := Value.type "function", data := Data.func { name := Str.ofString "_pad_for_signing", qualname := Str.ofString "_pad_for_signing", params := a12, body := FuncBody.stmts b12, scope := s12, globals := 3, closure := [], defaults := Value.none, kwdefaults := Value.none, pyModule := Value.str (Str.ofString "rsa.pkcs1") 320, code := Value.ref 155 } }) :: (nat_lit 157, { cls := Value.type "tuple", data := Data.seq #[] }) :: (nat_lit 159, { cls := Value.type "tuple", data := Data.seq #[Value.str (Str.ofString "message") 422, Value.str (Str.ofString "pub_key") 423, Value.str (Str.ofString "drawn") 424, Value.str (Str.ofString "keylength") 425, Value.str (Str.ofString "padded") 426, Value.str (Str.ofString "payload") 427, Value.str (Str.ofString "encrypted") 428, Value.str (Str.ofString "block") 429] }) :: (nat_lit 160, { cls := Value.type "tuple", data := Data.seq #[] }) :: (nat_lit 162, { cls := Value.type "code", data := Data.fields #[Value.str (Str.ofString "encrypt") 419, Value.str (Str.ofString "encrypt") 420, Value.str (Str.ofString "/claim/cut.py") 421, Value.int 95 0, Value.int 3 0, Value.int 0 0, Value.int 0 0, Value.int 3 0, Value.ref 157, Value.bool Bool.true, Value.int 181 0, Value.ref 158, Value.none, Value.ref 159, Value.ref 160, Value.ref 161, Value.int 430 0, Value.int 95 0, Value.str (Str.ofString "/claim/cut.py") 431] }) :: (nat_lit 163, { cls := Value.type "function", data := Data.func { name := Str.ofString "encrypt", qualname := Str.ofString "encrypt", params := a13, body := FuncBody.stmts b13, scope := s13, globals := 3, closure := [], defaults := Value.none, kwdefaults := Value.none, pyModule := Value.str (Str.ofString "rsa.pkcs1") 320, code := Value.ref 162 } }) :: (nat_lit 164, { cls := Value.type "tuple", data := Data.seq #[] }) :: (nat_lit 166, { cls := Value.type "tuple", data := Data.seq #[Value.str (Str.ofString "crypto") 436, Value.str (Str.ofString "priv_key") 437, Value.str (Str.ofString "blocksize") 438, Value.str (Str.ofString "encrypted") 439, Value.str (Str.ofString "decrypted") 440, Value.str (Str.ofString "cleartext") 441, Value.str (Str.ofString "cleartext_marker_bad") 442, Value.str (Str.ofString "sep_idx") 443, Value.str (Str.ofString "sep_idx_bad") 444, Value.str (Str.ofString "anything_bad") 445] }) :: (nat_lit 167, { cls := Value.type "tuple", data := Data.seq #[] }) :: (nat_lit 169, { cls := Value.type "code", data := Data.fields #[Value.str (Str.ofString "decrypt") 433, Value.str (Str.ofString "decrypt") 434, Value.str (Str.ofString "/claim/cut.py") 435, Value.int 102 0, Value.int 2 0, Value.int 0 0, Value.int 0 0, Value.int 3 0, Value.ref 164, Value.bool Bool.true, Value.int 181 0, Value.ref 165, Value.none, Value.ref 166, Value.ref 167, Value.ref 168, Value.int 446 0, Value.int 102 0, Value.str (Str.ofString "/claim/cut.py") 447] }) :: (nat_lit 170, { cls := Value.type "function", data := Data.func { name := Str.ofString "decrypt", qualname := Str.ofString "decrypt", params := a14, body := FuncBody.stmts b14, scope := s14, globals := 3, closure := [], defaults := Value.none, kwdefaults := Value.none, pyModule := Value.str (Str.ofString "rsa.pkcs1") 320, code := Value.ref 169 } }) :: (nat_lit 171, { cls := Value.type "tuple", data := Data.seq #[] }) :: (nat_lit 173, { cls := Value.type "tuple", data := Data.seq #[Value.str (Str.ofString "hash_value") 452, Value.str (Str.ofString "priv_key") 453, Value.str (Str.ofString "hash_method") 454, Value.str (Str.ofString "asn1code") 455, Value.str (Str.ofString "cleartext") 456, Value.str (Str.ofString "keylength") 457, Value.str (Str.ofString "padded") 458, Value.str (Str.ofString "payload") 459, Value.str (Str.ofString "encrypted") 460, Value.str (Str.ofString "block") 461] }) :: (nat_lit 174, { cls := Value.type "tuple", data := Data.seq #[] }) :: (nat_lit 176, { cls := Value.type "code", data := Data.fields #[Value.str (Str.ofString "sign_hash") 449, Value.str (Str.ofString "sign_hash") 450, Value.str (Str.ofString "/claim/cut.py") 451, Value.int 116 0, Value.int 3 0, Value.int 0 0, Value.int 0 0, Value.int 3 0, Value.ref 171, Value.bool Bool.true, Value.int 181 0, Value.ref 172, Value.none, Value.ref 173, Value.ref 174, Value.ref 175, Value.int 462 0, Value.int 116 0, Value.str (Str.ofString "/claim/cut.py") 463] }) :: (nat_lit 177, { cls := Value.type "function", data := Data.func { name := Str.ofString "sign_hash", qualname := Str.ofString "sign_hash", params := a15, body := FuncBody.stmts b15, scope := s15, globals := 3, closure := [], defaults := Value.none, kwdefaults := Value.none, pyModule := Value.str (Str.ofString "rsa.pkcs1") 320, code := Value.ref 176 } }) :: (nat_lit 178, { cls := Value.type "tuple", data := Data.seq #[] }) :: (nat_lit 180, { cls := Value.type "tuple", data := Data.seq #[Value.str (Str.ofString "message_hash") 468, Value.str (Str.ofString "signature") 469, Value.str (Str.ofString "pub_key") 470, Value.str (Str.ofString "keylength") 471, Value.str (Str.ofString "encrypted") 472, Value.str (Str.ofString "decrypted") 473, Value.str (Str.ofString "clearsig") 474, Value.str (Str.ofString "method_name") 475, Value.str (Str.ofString "cleartext") 476, Value.str (Str.ofString "expected") 477] }) :: (nat_lit 181, { cls := Value.type "tuple", data := Data.seq #[] }) :: (nat_lit 183, { cls := Value.type "code", data := Data.fields #[Value.str (Str.ofString "verify") 465, Value.str (Str.ofString "verify") 466, Value.str (Str.ofString "/claim/cut.py") 467, Value.int 127 0, Value.int 3 0, Value.int 0 0, Value.int 0 0, Value.int 3 0, Value.ref 178, Value.bool Bool.true, Value.int 181 0, Value.ref 179, Value.none, Value.ref 180, Value.ref 181, Value.ref 182, Value.int 478 0, Value.int 127 0, Value.str (Str.ofString "/claim/cut.py") 479] }) :: (nat_lit 184, { cls := Value.type "function", data := Data.func { name := Str.ofString "verify", qualname := Str.ofString "verify", params := a16, body := FuncBody.stmts b16, scope := s16, globals := 3, closure := [], defaults := Value.none, kwdefaults := Value.none, pyModule := Value.str (Str.ofString "rsa.pkcs1") 320, code := Value.ref 183 } }) :: (nat_lit 185, { cls := Value.type "tuple", data := Data.seq #[] }) :: (nat_lit 187, { cls := Value.type "tuple", data := Data.seq #[Value.str (Str.ofString "signature") 484, Value.str (Str.ofString "pub_key") 485, Value.str (Str.ofString "keylength") 486, Value.str (Str.ofString "encrypted") 487, Value.str (Str.ofString "decrypted") 488, Value.str (Str.ofString "clearsig") 489] }) :: (nat_lit 188, { cls := Value.type "tuple", data := Data.seq #[] }) :: (nat_lit 190, { cls := Value.type "code", data := Data.fields #[Value.str (Str.ofString "find_signature_hash") 481, Value.str (Str.ofString "find_signature_hash") 482, Value.str (Str.ofString "/claim/cut.py") 483, Value.int 140 0, Value.int 2 0, Value.int 0 0, Value.int 0 0, Value.int 3 0, Value.ref 185, Value.bool Bool.true, Value.int 181 0, Value.ref 186, Value.none, Value.ref 187, Value.ref 188, Value.ref 189, Value.int 490 0, Value.int 140 0, Value.str (Str.ofString "/claim/cut.py") 491] }) :: (nat_lit 191, { cls := Value.type "function", data := Data.func { name := Str.ofString "find_signature_hash", qualname := Str.ofString "find_signature_hash", params := a17, body := FuncBody.stmts b17, scope := s17, globals := 3, closure := [], defaults := Value.none, kwdefaults := Value.none, pyModule := Value.str (Str.ofString "rsa.pkcs1") 320, code := Value.ref 190 } }) :: (nat_lit 192, { cls := Value.type "tuple", data := Data.seq #[] }) :: (nat_lit 194, { cls := Value.type "tuple", data := Data.seq #[Value.str (Str.ofString "clearsig") 496, Value.str (Str.ofString "hashname") 497, Value.str (Str.ofString "asn1code") 498] }) :: (nat_lit 195, { cls := Value.type "tuple", data := Data.seq #[] }) :: (nat_lit 197, { cls := Value.type "code", data := Data.fields #[Value.str (Str.ofString "_find_method_hash") 493, Value.str (Str.ofString "_find_method_hash") 494, Value.str (Str.ofString "/claim/cut.py") 495, Value.int 146 0, Value.int 1 0, Value.int 0 0, Value.int 0 0, Value.int 3 0, Value.ref 192, Value.bool Bool.true, Value.int 181 0, Value.ref 193, Value.none, Value.ref 194, Value.ref 195, Value.ref 196, Value.int 499 0, Value.int 146 0, Value.str (Str.ofString "/claim/cut.py") 500] }) :: (nat_lit 198, { cls := Value.type "function", data := Data.func { name := Str.ofString "_find_method_hash", qualname := Str.ofString "_find_method_hash", params := a18, body := FuncBody.stmts b18, scope := s18, globals := 3, closure := [], defaults := Value.none, kwdefaults := Value.none, pyModule := Value.str (Str.ofString "rsa.pkcs1") 320, code := Value.ref 197 } }) :: (nat_lit 199, { cls := Value.type "tuple", data := Data.seq #[] }) :: (nat_lit 201, { cls := Value.type "tuple", data := Data.seq #[Value.str (Str.ofString "p") 507, Value.str (Str.ofString "q") 508] }) :: (nat_lit 202, { cls := Value.type "tuple", data := Data.seq #[] }) :: (nat_lit 204, { cls := Value.type "code", data := Data.fields #[Value.str (Str.ofString "gcd") 504, Value.str (Str.ofString "gcd") 505, Value.str (Str.ofString "/claim/cut.py") 506, Value.int 152 0, Value.int 2 0, Value.int 0 0, Value.int 0 0, Value.int 3 0, Value.ref 199, Value.bool Bool.true, Value.int 181 0, Value.ref 200, Value.none, Value.ref 201, Value.ref 202, Value.ref 203, Value.int 509 0, Value.int 152 0, Value.str (Str.ofString "/claim/cut.py") 510] }) :: (nat_lit 205, { cls := Value.type "function", data := Data.func { name := Str.ofString "gcd", qualname := Str.ofString "gcd", params := a19, body := FuncBody.stmts b19, scope := s19, globals := 3, closure := [], defaults := Value.none, kwdefaults := Value.none, pyModule := Value.str (Str.ofString "rsa.prime") 502, code := Value.ref 204 } }) :: (nat_lit 206, { cls := Value.type "tuple", data := Data.seq #[] }) :: (nat_lit 208, { cls := Value.type "tuple", data := Data.seq #[Value.str (Str.ofString "a") 515, Value.str (Str.ofString "b") 516, Value.str (Str.ofString "d") 517] }) :: (nat_lit 209, { cls := Value.type "tuple", data := Data.seq #[] }) :: (nat_lit 211, { cls := Value.type "code", data := Data.fields #[Value.str (Str.ofString "are_relatively_prime") 512, Value.str (Str.ofString "are_relatively_prime") 513, Value.str (Str.ofString "/claim/cut.py") 514, Value.int 156 0, Value.int 2 0, Value.int 0 0, Value.int 0 0, Value.int 3 0, Value.ref 206, Value.bool Bool.true, Value.int 181 0, Value.ref 207, Value.none, Value.ref 208, Value.ref 209, Value.ref 210, Value.int 518 0, Value.int 156 0, Value.str (Str.ofString "/claim/cut.py") 519] }) :: (nat_lit 212, { cls := Value.type "function", data := Data.func { name := Str.ofString "are_relatively_prime", qualname := Str.ofString "are_relatively_prime", params := a20, body := FuncBody.stmts b20, scope := s20, globals := 3, closure := [], defaults := Value.none, kwdefaults := Value.none, pyModule := Value.str (Str.ofString "rsa.prime") 502, code := Value.ref 211 } }) :: (nat_lit 220, { cls := Value.type "tuple", data := Data.seq #[] }) :: (nat_lit 222, { cls := Value.type "tuple", data := Data.seq #[Value.str (Str.ofString "self") 538, Value.str (Str.ofString "n") 539, Value.str (Str.ofString "e") 540] }) :: (nat_lit 223, { cls := Value.type "tuple", data := Data.seq #[] }) :: (nat_lit 225, { cls := Value.type "code", data := Data.fields #[Value.str (Str.ofString "__init__") 535, Value.str (Str.ofString "AbstractKey.__init__") 536, Value.str (Str.ofString "/claim/cut.py") 537, Value.int 162 0, Value.int 3 0, Value.int 0 0, Value.int 0 0, Value.int 3 0, Value.ref 220, Value.bool Bool.true, Value.int 181 0, Value.ref 221, Value.none, Value.ref 222, Value.ref 223, Value.ref 224, Value.int 541 0, Value.int 162 0, Value.str (Str.ofString "/claim/cut.py") 542] }) :: (nat_lit 226, { cls := Value.type "function", data := Data.func { name := Str.ofString "__init__", qualname := Str.ofString "AbstractKey.__init__", params := a21, body := FuncBody.stmts b21, scope := s21, globals := 3, closure := [], defaults := Value.none, kwdefaults := Value.none, pyModule := Value.str (Str.ofString "rsa.key") 521, code := Value.ref 225 } }) :: (nat_lit 227, { cls := Value.type "tuple", data := Data.seq #[] }) :: (nat_lit 229, { cls := Value.type "tuple", data := Data.seq #[Value.str (Str.ofString "self") 547, Value.str (Str.ofString "message") 548, Value.str (Str.ofString "blindfac") 549, Value.str (Str.ofString "blindfac_inverse") 550, Value.str (Str.ofString "blinded") 551] }) :: (nat_lit 230, { cls := Value.type "tuple", data := Data.seq #[] }) :: (nat_lit 232, { cls := Value.type "code", data := Data.fields #[Value.str (Str.ofString "blind") 544, Value.str (Str.ofString "AbstractKey.blind") 545, Value.str (Str.ofString "/claim/cut.py") 546, Value.int 167 0, Value.int 2 0, Value.int 0 0, Value.int 0 0, Value.int 3 0, Value.ref 227, Value.bool Bool.true, Value.int 181 0, Value.ref 228, Value.none, Value.ref 229, Value.ref 230, Value.ref 231, Value.int 552 0, Value.int 167 0, Value.str (Str.ofString "/claim/cut.py") 553] }) :: (nat_lit 233, { cls := Value.type "function", data := Data.func { name := Str.ofString "blind", qualname := Str.ofString "AbstractKey.blind", params := a22, body := FuncBody.stmts b22, scope := s22, globals := 3, closure := [], defaults := Value.none, kwdefaults := Value.none, pyModule := Value.str (Str.ofString "rsa.key") 521, code := Value.ref 232 } }) :: (nat_lit 234, { cls := Value.type "tuple", data := Data.seq #[] }) :: (nat_lit 236, { cls := Value.type "tuple", data := Data.seq #[Value.str (Str.ofString "self") 558, Value.str (Str.ofString "blinded") 559, Value.str (Str.ofString "blindfac_inverse") 560] }) :: (nat_lit 237, { cls := Value.type "tuple", data := Data.seq #[] }) :: (nat_lit 239, { cls := Value.type "code", data := Data.fields #[Value.str (Str.ofString "unblind") 555, Value.str (Str.ofString "AbstractKey.unblind") 556, Value.str (Str.ofString "/claim/cut.py") 557, Value.int 172 0, Value.int 3 0, Value.int 0 0, Value.int 0 0, Value.int 3 0, Value.ref 234, Value.bool Bool.true, Value.int 181 0, Value.ref 235, Value.none, Value.ref 236, Value.ref 237, Value.ref 238, Value.int 561 0, Value.int 172 0, Value.str (Str.ofString "/claim/cut.py") 562] }) :: (nat_lit 240, { cls := Value.type "function", data := Data.func { name := Str.ofString "unblind", qualname := Str.ofString "AbstractKey.unblind", params := a23, body := FuncBody.stmts b23, scope := s23, globals := 3, closure := [], defaults := Value.none, kwdefaults := Value.none, pyModule := Value.str (Str.ofString "rsa.key") 521, code := Value.ref 239 } }) :: (nat_lit 241, { cls := Value.type "tuple", data := Data.seq #[] }) :: (nat_lit 243, { cls := Value.type "tuple", data := Data.seq #[Value.str (Str.ofString "self") 567, Value.str (Str.ofString "blind_r") 568] }) :: (nat_lit 244, { cls := Value.type "tuple", data := Data.seq #[] }) :: (nat_lit 246, { cls := Value.type "code", data := Data.fields #[Value.str (Str.ofString "_initial_blinding_factor") 564, Value.str (Str.ofString "AbstractKey._initial_blinding_factor") 565, Value.str (Str.ofString "/claim/cut.py") 566, Value.int 175 0, Value.int 1 0, Value.int 0 0, Value.int 0 0, Value.int 3 0, Value.ref 241, Value.bool Bool.true, Value.int 181 0, Value.ref 242, Value.none, Value.ref 243, Value.ref 244, Value.ref 245, Value.int 569 0, Value.int 175 0, Value.str (Str.ofString "/claim/cut.py") 570] }) :: (nat_lit 247, { cls := Value.type "function", data := Data.func { name := Str.ofString "_initial_blinding_factor", qualname := Str.ofString "AbstractKey._initial_blinding_factor", params := a24, body := FuncBody.stmts b24, scope := s24, globals := 3, closure := [], defaults := Value.none, kwdefaults := Value.none, pyModule := Value.str (Str.ofString "rsa.key") 521, code := Value.ref 246 } }) :: (nat_lit 248, { cls := Value.type "tuple", data := Data.seq #[] }) :: (nat_lit 250, { cls := Value.type "tuple", data := Data.seq #[Value.str (Str.ofString "self") 575] }) :: (nat_lit 251, { cls := Value.type "tuple", data := Data.seq #[] }) :: (nat_lit 253, { cls := Value.type "code", data := Data.fields #[Value.str (Str.ofString "_update_blinding_factor") 572, Value.str (Str.ofString "AbstractKey._update_blinding_factor") 573, Value.str (Str.ofString "/claim/cut.py") 574, Value.int 181 0, Value.int 1 0, Value.int 0 0, Value.int 0 0, Value.int 3 0, Value.ref 248, Value.bool Bool.true, Value.int 181 0, Value.ref 249, Value.none, Value.ref 250, Value.ref 251, Value.ref 252, Value.int 576 0, Value.int 181 0, Value.str (Str.ofString "/claim/cut.py") 577] }) :: (nat_lit 254, { cls := Value.type "function", data := Data.func { name := Str.ofString "_update_blinding_factor", qualname := Str.ofString "AbstractKey._update_blinding_factor", params := a25, body := FuncBody.stmts b25, scope := s25, globals := 3, closure := [], defaults := Value.none, kwdefaults := Value.none, pyModule := Value.str (Str.ofString "rsa.key") 521, code := Value.ref 253 } }) :: (nat_lit 255, { cls := Value.type "tuple", data := Data.seq #[Value.str (Str.ofString "blindfac") 579, Value.str (Str.ofString "blindfac_inverse") 580, Value.str (Str.ofString "e") 581, Value.str (Str.ofString "n") 582] }) :: (nat_lit 256, { cls := Value.type "dict", data := Data.dict #[{ hash := PyData.keyHash P (Str.ofString "__module__"), key := Value.str (Str.ofString "__module__") 530, val := Value.str (Str.ofString "rsa.key") 521 }, { hash := PyData.keyHash P (Str.ofString "__firstlineno__"), key := Value.str (Str.ofString "__firstlineno__") 534, val := Value.int 160 533 }, { hash := PyData.keyHash P (Str.ofString "__init__"), key := Value.str (Str.ofString "__init__") 543, val := Value.ref 226 }, { hash := PyData.keyHash P (Str.ofString "blind"), key := Value.str (Str.ofString "blind") 554, val := Value.ref 233 }, { hash := PyData.keyHash P (Str.ofString "unblind"), key := Value.str (Str.ofString "unblind") 563, val := Value.ref 240 }, { hash := PyData.keyHash P (Str.ofString "_initial_blinding_factor"), key := Value.str (Str.ofString "_initial_blinding_factor") 571, val := Value.ref 247 }, { hash := PyData.keyHash P (Str.ofString "_update_blinding_factor"), key := Value.str (Str.ofString "_update_blinding_factor") 578, val := Value.ref 254 }, { hash := PyData.keyHash P (Str.ofString "__static_attributes__"), key := Value.str (Str.ofString "__static_attributes__") 583, val := Value.ref 255 }, { hash := PyData.keyHash P (Str.ofString "__dict__"), key := Value.str (Str.ofString "__dict__") 585, val := Value.ref 258 }, { hash := PyData.keyHash P (Str.ofString "__weakref__"), key := Value.str (Str.ofString "__weakref__") 587, val := Value.ref 259 }, { hash := PyData.keyHash P (Str.ofString "__doc__"), key := Value.str (Str.ofString "__doc__") 588, val := Value.none }] 4 }) :: (nat_lit 257, { cls := Value.type "type", data := Data.cls { name := Str.ofString "AbstractKey", bases := [Value.type "object"], mro := [Value.ref 257, Value.type "object"], ns := 256, qualname := Str.ofString "AbstractKey", subclasses := [Value.ref 285, Value.ref 332] }, slots := #[Option.none, Option.none, Option.some (Value.str (Str.ofString "AbstractKey") 523), Option.some (Value.str (Str.ofString "AbstractKey") 531), Option.some (Value.builtin "object.__new__"), Option.some (Value.bool Bool.true)] }) :: (nat_lit 258, { cls := Value.type "getset_descriptor", data := Data.fields #[Value.str (Str.ofString "__dict__") 584, Value.ref 257, Value.builtin "function.__dict__", Value.builtin "function.__dict__#set"] }) :: (nat_lit 259, { cls := Value.type "getset_descriptor", data := Data.fields #[Value.str (Str.ofString "__weakref__") 586, Value.ref 257, Value.builtin "ExceptionGroup.__weakref__", Value.none] }) :: (nat_lit 262, { cls := Value.type "tuple", data := Data.seq #[Value.ref 257] }) :: (nat_lit 269, { cls := Value.type "tuple", data := Data.seq #[] }) :: (nat_lit 271, { cls := Value.type "tuple", data := Data.seq #[Value.str (Str.ofString "self") 606, Value.str (Str.ofString "other") 607] }) :: (nat_lit 272, { cls := Value.type "tuple", data := Data.seq #[] }) :: (nat_lit 274, { cls := Value.type "code", data := Data.fields #[Value.str (Str.ofString "__eq__") 603, Value.str (Str.ofString "PublicKey.__eq__") 604, Value.str (Str.ofString "/claim/cut.py") 605, Value.int 191 0, Value.int 2 0, Value.int 0 0, Value.int 0 0, Value.int 3 0, Value.ref 269, Value.bool Bool.true, Value.int 181 0, Value.ref 270, Value.none, Value.ref 271, Value.ref 272, Value.ref 273, Value.int 608 0, Value.int 191 0, Value.str (Str.ofString "/claim/cut.py") 609] }) :: (nat_lit 275, { cls := Value.type "function", data := Data.func { name := Str.ofString "__eq__", qualname := Str.ofString "PublicKey.__eq__", params := a26, body := FuncBody.stmts b26, scope := s26, globals := 3, closure := [], defaults := Value.none, kwdefaults := Value.none, pyModule := Value.str (Str.ofString "rsa.key") 521, code := Value.ref 274 } }) :: (nat_lit 276, { cls := Value.type "tuple", data := Data.seq #[] }) :: (nat_lit 278, { cls := Value.type "tuple", data := Data.seq #[Value.str (Str.ofString "self") 614, Value.str (Str.ofString "other") 615] }) :: (nat_lit 279, { cls := Value.type "tuple", data := Data.seq #[] }) :: (nat_lit 281, { cls := Value.type "code", data := Data.fields #[Value.str (Str.ofString "__ne__") 611, Value.str (Str.ofString "PublicKey.__ne__") 612, Value.str (Str.ofString "/claim/cut.py") 613, Value.int 198 0, Value.int 2 0, Value.int 0 0, Value.int 0 0, Value.int 3 0, Value.ref 276, Value.bool Bool.true, Value.int 181 0, Value.ref 277, Value.none, Value.ref 278, Value.ref 279, Value.ref 280, Value.int 616 0, Value.int 198 0, Value.str (Str.ofString "/claim/cut.py") 617] }) :: (nat_lit 282, { cls := Value.type "function", data := Data.func { name := Str.ofString "__ne__", qualname := Str.ofString "PublicKey.__ne__", params := a27, body := FuncBody.stmts b27, scope := s27, globals := 3, closure := [], defaults := Value.none, kwdefaults := Value.none, pyModule := Value.str (Str.ofString "rsa.key") 521, code := Value.ref 281 } }) :: (nat_lit 283, { cls := Value.type "tuple", data := Data.seq #[] }) :: (nat_lit 284, { cls := Value.type "dict", data := Data.dict #[{ hash := PyData.keyHash P (Str.ofString "__module__"), key := Value.str (Str.ofString "__module__") 598, val := Value.str (Str.ofString "rsa.key") 521 }, { hash := PyData.keyHash P (Str.ofString "__firstlineno__"), key := Value.str (Str.ofString "__firstlineno__") 602, val := Value.int 189 601 }, { hash := PyData.keyHash P (Str.ofString "__eq__"), key := Value.str (Str.ofString "__eq__") 610, val := Value.ref 275 }, { hash := PyData.keyHash P (Str.ofString "__ne__"), key := Value.str (Str.ofString "__ne__") 618, val := Value.ref 282 }, { hash := PyData.keyHash P (Str.ofString "__static_attributes__"), key := Value.str (Str.ofString "__static_attributes__") 619, val := Value.ref 283 }, { hash := PyData.keyHash P (Str.ofString "__doc__"), key := Value.str (Str.ofString "__doc__") 620, val := Value.none }, { hash := PyData.keyHash P (Str.ofString "__hash__"), key := Value.str (Str.ofString "__hash__") 621, val := Value.none }] 3 }) :: (nat_lit 285, { cls := Value.type "type", data := Data.cls { name := Str.ofString "PublicKey", bases := [Value.ref 257], mro := [Value.ref 285, Value.ref 257, Value.type "object"], ns := 284, qualname := Str.ofString "PublicKey" }, slots := #[Option.some (Value.ref 262), Option.none, Option.some (Value.str (Str.ofString "PublicKey") 591), Option.some (Value.str (Str.ofString "PublicKey") 599), Option.some (Value.builtin "object.__new__"), Option.some (Value.bool Bool.true)] }) :: (nat_lit 288, { cls := Value.type "tuple", data := Data.seq #[Value.ref 257] }) :: (nat_lit 295, { cls := Value.type "tuple", data := Data.seq #[] }) :: (nat_lit 297, { cls := Value.type "tuple", data := Data.seq #[Value.str (Str.ofString "self") 639, Value.str (Str.ofString "n") 640, Value.str (Str.ofString "e") 641, Value.str (Str.ofString "d") 642, Value.str (Str.ofString "p") 643, Value.str (Str.ofString "q") 644] }) :: (nat_lit 298, { cls := Value.type "tuple", data := Data.seq #[] }) :: (nat_lit 300, { cls := Value.type "code", data := Data.fields #[Value.str (Str.ofString "__init__") 636, Value.str (Str.ofString "PrivateKey.__init__") 637, Value.str (Str.ofString "/claim/cut.py") 638, Value.int 202 0, Value.int 6 0, Value.int 0 0, Value.int 0 0, Value.int 3 0, Value.ref 295, Value.bool Bool.true, Value.int 181 0, Value.ref 296, Value.none, Value.ref 297, Value.ref 298, Value.ref 299, Value.int 645 0, Value.int 202 0, Value.str (Str.ofString "/claim/cut.py") 646] }) :: (nat_lit 301, { cls := Value.type "function", data := Data.func { name := Str.ofString "__init__", qualname := Str.ofString "PrivateKey.__init__", params := a28, body := FuncBody.stmts b28, scope := s28, globals := 3, closure := [], defaults := Value.none, kwdefaults := Value.none, pyModule := Value.str (Str.ofString "rsa.key") 521, code := Value.ref 300 } }) :: (nat_lit 302, { cls := Value.type "tuple", data := Data.seq #[] }) :: (nat_lit 304, { cls := Value.type "tuple", data := Data.seq #[Value.str (Str.ofString "self") 651, Value.str (Str.ofString "other") 652] }) :: (nat_lit 305, { cls := Value.type "tuple", data := Data.seq #[] }) :: (nat_lit 307, { cls := Value.type "code", data := Data.fields #[Value.str (Str.ofString "__eq__") 648, Value.str (Str.ofString "PrivateKey.__eq__") 649, Value.str (Str.ofString "/claim/cut.py") 650, Value.int 211 0, Value.int 2 0, Value.int 0 0, Value.int 0 0, Value.int 3 0, Value.ref 302, Value.bool Bool.true, Value.int 181 0, Value.ref 303, Value.none, Value.ref 304, Value.ref 305, Value.ref 306, Value.int 653 0, Value.int 211 0, Value.str (Str.ofString "/claim/cut.py") 654] }) :: (nat_lit 308, { cls := Value.type "function", data := Data.func { name := Str.ofString "__eq__", qualname := Str.ofString "PrivateKey.__eq__", params := a29, body := FuncBody.stmts b29, scope := s29, globals := 3, closure := [], defaults := Value.none, kwdefaults := Value.none, pyModule := Value.str (Str.ofString "rsa.key") 521, code := Value.ref 307 } }) :: (nat_lit 309, { cls := Value.type "tuple", data := Data.seq #[] }) :: (nat_lit 311, { cls := Value.type "tuple", data := Data.seq #[Value.str (Str.ofString "self") 659, Value.str (Str.ofString "other") 660] }) :: (nat_lit 312, { cls := Value.type "tuple", data := Data.seq #[] }) :: (nat_lit 314, { cls := Value.type "code", data := Data.fields #[Value.str (Str.ofString "__ne__") 656, Value.str (Str.ofString "PrivateKey.__ne__") 657, Value.str (Str.ofString "/claim/cut.py") 658, Value.int 218 0, Value.int 2 0, Value.int 0 0, Value.int 0 0, Value.int 3 0, Value.ref 309, Value.bool Bool.true, Value.int 181 0, Value.ref 310, Value.none, Value.ref 311, Value.ref 312, Value.ref 313, Value.int 661 0, Value.int 218 0, Value.str (Str.ofString "/claim/cut.py") 662] }) :: (nat_lit 315, { cls := Value.type "function", data := Data.func { name := Str.ofString "__ne__", qualname := Str.ofString "PrivateKey.__ne__", params := a30, body := FuncBody.stmts b30, scope := s30, globals := 3, closure := [], defaults := Value.none, kwdefaults := Value.none, pyModule := Value.str (Str.ofString "rsa.key") 521, code := Value.ref 314 } }) :: (nat_lit 316, { cls := Value.type "tuple", data := Data.seq #[] }) :: (nat_lit 318, { cls := Value.type "tuple", data := Data.seq #[Value.str (Str.ofString "self") 667, Value.str (Str.ofString "encrypted") 668, Value.str (Str.ofString "blinded") 669, Value.str (Str.ofString "blindfac_inverse") 670, Value.str (Str.ofString "s1") 671, Value.str (Str.ofString "s2") 672, Value.str (Str.ofString "h") 673, Value.str (Str.ofString "decrypted") 674] }) :: (nat_lit 319, { cls := Value.type "tuple", data := Data.seq #[] }) :: (nat_lit 321, { cls := Value.type "code", data := Data.fields #[Value.str (Str.ofString "blinded_decrypt") 664, Value.str (Str.ofString "PrivateKey.blinded_decrypt") 665, Value.str (Str.ofString "/claim/cut.py") 666, Value.int 221 0, Value.int 2 0, Value.int 0 0, Value.int 0 0, Value.int 3 0, Value.ref 316, Value.bool Bool.true, Value.int 181 0, Value.ref 317, Value.none, Value.ref 318, Value.ref 319, Value.ref 320, Value.int 675 0, Value.int 221 0, Value.str (Str.ofString "/claim/cut.py") 676] }) :: (nat_lit 322, { cls := Value.type "function", data := Data.func { name := Str.ofString "blinded_decrypt", qualname := Str.ofString "PrivateKey.blinded_decrypt", params := a31, body := FuncBody.stmts b31, scope := s31, globals := 3, closure := [], defaults := Value.none, kwdefaults := Value.none, pyModule := Value.str (Str.ofString "rsa.key") 521, code := Value.ref 321 } }) :: (nat_lit 323, { cls := Value.type "tuple", data := Data.seq #[] }) :: (nat_lit 325, { cls := Value.type "tuple", data := Data.seq #[Value.str (Str.ofString "self") 681, Value.str (Str.ofString "message") 682, Value.str (Str.ofString "blinded") 683, Value.str (Str.ofString "blindfac_inverse") 684, Value.str (Str.ofString "encrypted") 685] }) :: (nat_lit 326, { cls := Value.type "tuple", data := Data.seq #[] }) :: (nat_lit 328, { cls := Value.type "code", data := Data.fields #[Value.str (Str.ofString "blinded_encrypt") 678, Value.str (Str.ofString "PrivateKey.blinded_encrypt") 679, Value.str (Str.ofString "/claim/cut.py") 680, Value.int 229 0, Value.int 2 0, Value.int 0 0, Value.int 0 0, Value.int 3 0, Value.ref 323, Value.bool Bool.true, Value.int 181 0, Value.ref 324, Value.none, Value.ref 325, Value.ref 326, Value.ref 327, Value.int 686 0, Value.int 229 0, Value.str (Str.ofString "/claim/cut.py") 687] }) :: (nat_lit 329, { cls := Value.type "function", data := Data.func { name := Str.ofString "blinded_encrypt", qualname := Str.ofString "PrivateKey.blinded_encrypt", params := a32, body := FuncBody.stmts b32, scope := s32, globals := 3, closure := [], defaults := Value.none, kwdefaults := Value.none, pyModule := Value.str (Str.ofString "rsa.key") 521, code := Value.ref 328 } }) :: (nat_lit 330, { cls := Value.type "tuple", data := Data.seq #[Value.str (Str.ofString "coef") 689, Value.str (Str.ofString "d") 690, Value.str (Str.ofString "exp1") 691, Value.str (Str.ofString "exp2") 692, Value.str (Str.ofString "p") 693, Value.str (Str.ofString "q") 694] }) :: (nat_lit 331, { cls := Value.type "dict", data := Data.dict #[{ hash := PyData.keyHash P (Str.ofString "__module__"), key := Value.str (Str.ofString "__module__") 631, val := Value.str (Str.ofString "rsa.key") 521 }, { hash := PyData.keyHash P (Str.ofString "__firstlineno__"), key := Value.str (Str.ofString "__firstlineno__") 635, val := Value.int 200 634 }, { hash := PyData.keyHash P (Str.ofString "__init__"), key := Value.str (Str.ofString "__init__") 647, val := Value.ref 301 }, { hash := PyData.keyHash P (Str.ofString "__eq__"), key := Value.str (Str.ofString "__eq__") 655, val := Value.ref 308 }, { hash := PyData.keyHash P (Str.ofString "__ne__"), key := Value.str (Str.ofString "__ne__") 663, val := Value.ref 315 }, { hash := PyData.keyHash P (Str.ofString "blinded_decrypt"), key := Value.str (Str.ofString "blinded_decrypt") 677, val := Value.ref 322 }, { hash := PyData.keyHash P (Str.ofString "blinded_encrypt"), key := Value.str (Str.ofString "blinded_encrypt") 688, val := Value.ref 329 }, { hash := PyData.keyHash P (Str.ofString "__static_attributes__"), key := Value.str (Str.ofString "__static_attributes__") 695, val := Value.ref 330 }, { hash := PyData.keyHash P (Str.ofString "__doc__"), key := Value.str (Str.ofString "__doc__") 696, val := Value.none }, { hash := PyData.keyHash P (Str.ofString "__hash__"), key := Value.str (Str.ofString "__hash__") 697, val := Value.none }] 3 }) :: (nat_lit 332, { cls := Value.type "type", data := Data.cls { name := Str.ofString "PrivateKey", bases := [Value.ref 257], mro := [Value.ref 332, Value.ref 257, Value.type "object"], ns := 331, qualname := Str.ofString "PrivateKey" }, slots := #[Option.some (Value.ref 288), Option.none, Option.some (Value.str (Str.ofString "PrivateKey") 624), Option.some (Value.str (Str.ofString "PrivateKey") 632), Option.some (Value.builtin "object.__new__"), Option.some (Value.bool Bool.true)] }) :: (nat_lit 335, { cls := Value.type "tuple", data := Data.seq #[] }) :: (nat_lit 337, { cls := Value.type "tuple", data := Data.seq #[Value.str (Str.ofString "script") 705, Value.str (Str.ofString "k") 706] }) :: (nat_lit 338, { cls := Value.type "tuple", data := Data.seq #[] }) :: (nat_lit 340, { cls := Value.type "code", data := Data.fields #[Value.str (Str.ofString "_law_cell") 702, Value.str (Str.ofString "_law_cell") 703, Value.str (Str.ofString "/claim/cut.py") 704, Value.int 234 0, Value.int 2 0, Value.int 0 0, Value.int 0 0, Value.int 3 0, Value.ref 335, Value.bool Bool.true, Value.int 181 0, Value.ref 336, Value.none, Value.ref 337, Value.ref 338, Value.ref 339, Value.int 707 0, Value.int 234 0, Value.str (Str.ofString "/claim/cut.py") 708] }) :: (nat_lit 341, { cls := Value.type "function", data := Data.func { name := Str.ofString "_law_cell", qualname := Str.ofString "_law_cell", params := a33, body := FuncBody.stmts b33, scope := s33, globals := 3, closure := [], defaults := Value.none, kwdefaults := Value.none, pyModule := Value.str (Str.ofString "law_ys0001_11") 700, code := Value.ref 340 } }) :: (nat_lit 342, { cls := Value.type "tuple", data := Data.seq #[] }) :: (nat_lit 344, { cls := Value.type "tuple", data := Data.seq #[Value.str (Str.ofString "script") 713, Value.str (Str.ofString "start") 714, Value.str (Str.ofString "size") 715, Value.str (Str.ofString "row") 716, Value.str (Str.ofString "number") 717, Value.str (Str.ofString "k") 718] }) :: (nat_lit 345, { cls := Value.type "tuple", data := Data.seq #[] }) :: (nat_lit 347, { cls := Value.type "code", data := Data.fields #[Value.str (Str.ofString "_law_octets") 710, Value.str (Str.ofString "_law_octets") 711, Value.str (Str.ofString "/claim/cut.py") 712, Value.int 238 0, Value.int 3 0, Value.int 0 0, Value.int 0 0, Value.int 3 0, Value.ref 342, Value.bool Bool.true, Value.int 181 0, Value.ref 343, Value.none, Value.ref 344, Value.ref 345, Value.ref 346, Value.int 719 0, Value.int 238 0, Value.str (Str.ofString "/claim/cut.py") 720] }) :: (nat_lit 348, { cls := Value.type "function", data := Data.func { name := Str.ofString "_law_octets", qualname := Str.ofString "_law_octets", params := a34, body := FuncBody.stmts b34, scope := s34, globals := 3, closure := [], defaults := Value.none, kwdefaults := Value.none, pyModule := Value.str (Str.ofString "law_ys0001_11") 700, code := Value.ref 347 } }) :: (nat_lit 349, { cls := Value.type "tuple", data := Data.seq #[] }) :: (nat_lit 351, { cls := Value.type "tuple", data := Data.seq #[Value.str (Str.ofString "one") 725, Value.str (Str.ofString "two") 726, Value.str (Str.ofString "k") 727] }) :: (nat_lit 352, { cls := Value.type "tuple", data := Data.seq #[] }) :: (nat_lit 354, { cls := Value.type "code", data := Data.fields #[Value.str (Str.ofString "_law_common") 722, Value.str (Str.ofString "_law_common") 723, Value.str (Str.ofString "/claim/cut.py") 724, Value.int 247 0, Value.int 2 0, Value.int 0 0, Value.int 0 0, Value.int 3 0, Value.ref 349, Value.bool Bool.true, Value.int 181 0, Value.ref 350, Value.none, Value.ref 351, Value.ref 352, Value.ref 353, Value.int 728 0, Value.int 247 0, Value.str (Str.ofString "/claim/cut.py") 729] }) :: (nat_lit 355, { cls := Value.type "function", data := Data.func { name := Str.ofString "_law_common", qualname := Str.ofString "_law_common", params := a35, body := FuncBody.stmts b35, scope := s35, globals := 3, closure := [], defaults := Value.none, kwdefaults := Value.none, pyModule := Value.str (Str.ofString "law_ys0001_11") 700, code := Value.ref 354 } }) :: (nat_lit 356, { cls := Value.type "tuple", data := Data.seq #[] }) :: (nat_lit 358, { cls := Value.type "tuple", data := Data.seq #[Value.str (Str.ofString "one") 734, Value.str (Str.ofString "whole") 735, Value.str (Str.ofString "old") 736, Value.str (Str.ofString "new") 737, Value.str (Str.ofString "first") 738, Value.str (Str.ofString "second") 739, Value.str (Str.ofString "k") 740, Value.str (Str.ofString "times") 741] }) :: (nat_lit 359, { cls := Value.type "tuple", data := Data.seq #[] }) :: (nat_lit 361, { cls := Value.type "code", data := Data.fields #[Value.str (Str.ofString "_law_inverse") 731, Value.str (Str.ofString "_law_inverse") 732, Value.str (Str.ofString "/claim/cut.py") 733, Value.int 253 0, Value.int 2 0, Value.int 0 0, Value.int 0 0, Value.int 3 0, Value.ref 356, Value.bool Bool.true, Value.int 181 0, Value.ref 357, Value.none, Value.ref 358, Value.ref 359, Value.ref 360, Value.int 742 0, Value.int 253 0, Value.str (Str.ofString "/claim/cut.py") 743] }) :: (nat_lit 362, { cls := Value.type "function", data := Data.func { name := Str.ofString "_law_inverse", qualname := Str.ofString "_law_inverse", params := a36, body := FuncBody.stmts b36, scope := s36, globals := 3, closure := [], defaults := Value.none, kwdefaults := Value.none, pyModule := Value.str (Str.ofString "law_ys0001_11") 700, code := Value.ref 361 } }) :: (nat_lit 363, { cls := Value.type "tuple", data := Data.seq #[] }) :: (nat_lit 365, { cls := Value.type "tuple", data := Data.seq #[Value.str (Str.ofString "n") 748] }) :: (nat_lit 366, { cls := Value.type "tuple", data := Data.seq #[] }) :: (nat_lit 368, { cls := Value.type "code", data := Data.fields #[Value.str (Str.ofString "_law_size") 745, Value.str (Str.ofString "_law_size") 746, Value.str (Str.ofString "/claim/cut.py") 747, Value.int 263 0, Value.int 1 0, Value.int 0 0, Value.int 0 0, Value.int 3 0, Value.ref 363, Value.bool Bool.true, Value.int 181 0, Value.ref 364, Value.none, Value.ref 365, Value.ref 366, Value.ref 367, Value.int 749 0, Value.int 263 0, Value.str (Str.ofString "/claim/cut.py") 750] }) :: (nat_lit 369, { cls := Value.type "function", data := Data.func { name := Str.ofString "_law_size", qualname := Str.ofString "_law_size", params := a37, body := FuncBody.stmts b37, scope := s37, globals := 3, closure := [], defaults := Value.none, kwdefaults := Value.none, pyModule := Value.str (Str.ofString "law_ys0001_11") 700, code := Value.ref 368 } }) :: (nat_lit 370, { cls := Value.type "tuple", data := Data.seq #[] }) :: (nat_lit 373, { cls := Value.type "code", data := Data.fields #[Value.str (Str.ofString "_law_keys") 752, Value.str (Str.ofString "_law_keys") 753, Value.str (Str.ofString "/claim/cut.py") 754, Value.int 265 0, Value.int 3 0, Value.int 0 0, Value.int 0 0, Value.int 3 0, Value.ref 370, Value.bool Bool.true, Value.int 181 0, Value.ref 371, Value.none, Value.none, Value.none, Value.ref 372, Value.int 755 0, Value.int 265 0, Value.str (Str.ofString "/claim/cut.py") 756] }) :: (nat_lit 374, { cls := Value.type "function", data := Data.func { name := Str.ofString "_law_keys", qualname := Str.ofString "_law_keys", params := a38, body := FuncBody.stmts b38, scope := s38, globals := 3, closure := [], defaults := Value.none, kwdefaults := Value.none, pyModule := Value.str (Str.ofString "law_ys0001_11") 700, code := Value.ref 373 } }) :: (nat_lit 375, { cls := Value.type "tuple", data := Data.seq #[] }) :: (nat_lit 377, { cls := Value.type "tuple", data := Data.seq #[Value.str (Str.ofString "octets") 761, Value.str (Str.ofString "number") 762, Value.str (Str.ofString "octet") 763] }) :: (nat_lit 378, { cls := Value.type "tuple", data := Data.seq #[] }) :: (nat_lit 380, { cls := Value.type "code", data := Data.fields #[Value.str (Str.ofString "_law_number") 758, Value.str (Str.ofString "_law_number") 759, Value.str (Str.ofString "/claim/cut.py") 760, Value.int 277 0, Value.int 1 0, Value.int 0 0, Value.int 0 0, Value.int 3 0, Value.ref 375, Value.bool Bool.true, Value.int 181 0, Value.ref 376, Value.none, Value.ref 377, Value.ref 378, Value.ref 379, Value.int 764 0, Value.int 277 0, Value.str (Str.ofString "/claim/cut.py") 765] }) :: (nat_lit 381, { cls := Value.type "function", data := Data.func { name := Str.ofString "_law_number", qualname := Str.ofString "_law_number", params := a39, body := FuncBody.stmts b39, scope := s39, globals := 3, closure := [], defaults := Value.none, kwdefaults := Value.none, pyModule := Value.str (Str.ofString "law_ys0001_11") 700, code := Value.ref 380 } }) :: (nat_lit 382, { cls := Value.type "tuple", data := Data.seq #[] }) :: (nat_lit 385, { cls := Value.type "code", data := Data.fields #[Value.str (Str.ofString "_law_written") 767, Value.str (Str.ofString "_law_written") 768, Value.str (Str.ofString "/claim/cut.py") 769, Value.int 282 0, Value.int 2 0, Value.int 0 0, Value.int 0 0, Value.int 3 0, Value.ref 382, Value.bool Bool.true, Value.int 181 0, Value.ref 383, Value.none, Value.none, Value.none, Value.ref 384, Value.int 770 0, Value.int 282 0, Value.str (Str.ofString "/claim/cut.py") 771] }) :: (nat_lit 386, { cls := Value.type "function", data := Data.func { name := Str.ofString "_law_written", qualname := Str.ofString "_law_written", params := a40, body := FuncBody.stmts b40, scope := s40, globals := 3, closure := [], defaults := Value.none, kwdefaults := Value.none, pyModule := Value.str (Str.ofString "law_ys0001_11") 700, code := Value.ref 385 } }) :: (nat_lit 387, { cls := Value.type "tuple", data := Data.seq #[] }) :: (nat_lit 389, { cls := Value.type "tuple", data := Data.seq #[Value.str (Str.ofString "rows") 776, Value.str (Str.ofString "name") 777, Value.str (Str.ofString "last") 778, Value.str (Str.ofString "size") 779, Value.str (Str.ofString "found") 780, Value.str (Str.ofString "kind") 781, Value.str (Str.ofString "inner") 782] }) :: (nat_lit 390, { cls := Value.type "tuple", data := Data.seq #[] }) :: (nat_lit 392, { cls := Value.type "code", data := Data.fields #[Value.str (Str.ofString "_law_codes") 773, Value.str (Str.ofString "_law_codes") 774, Value.str (Str.ofString "/claim/cut.py") 775, Value.int 284 0, Value.int 0 0, Value.int 0 0, Value.int 0 0, Value.int 3 0, Value.ref 387, Value.bool Bool.true, Value.int 181 0, Value.ref 388, Value.none, Value.ref 389, Value.ref 390, Value.ref 391, Value.int 783 0, Value.int 284 0, Value.str (Str.ofString "/claim/cut.py") 784] }) :: (nat_lit 393, { cls := Value.type "function", data := Data.func { name := Str.ofString "_law_codes", qualname := Str.ofString "_law_codes", params := a41, body := FuncBody.stmts b41, scope := s41, globals := 3, closure := [], defaults := Value.none, kwdefaults := Value.none, pyModule := Value.str (Str.ofString "law_ys0001_11") 700, code := Value.ref 392 } }) :: (nat_lit 394, { cls := Value.type "tuple", data := Data.seq #[] }) :: (nat_lit 396, { cls := Value.type "tuple", data := Data.seq #[Value.str (Str.ofString "clear") 789, Value.str (Str.ofString "size") 790] }) :: (nat_lit 397, { cls := Value.type "tuple", data := Data.seq #[] }) :: (nat_lit 399, { cls := Value.type "code", data := Data.fields #[Value.str (Str.ofString "_law_block") 786, Value.str (Str.ofString "_law_block") 787, Value.str (Str.ofString "/claim/cut.py") 788, Value.int 295 0, Value.int 2 0, Value.int 0 0, Value.int 0 0, Value.int 3 0, Value.ref 394, Value.bool Bool.true, Value.int 181 0, Value.ref 395, Value.none, Value.ref 396, Value.ref 397, Value.ref 398, Value.int 791 0, Value.int 295 0, Value.str (Str.ofString "/claim/cut.py") 792] }) :: (nat_lit 400, { cls := Value.type "function", data := Data.func { name := Str.ofString "_law_block", qualname := Str.ofString "_law_block", params := a42, body := FuncBody.stmts b42, scope := s42, globals := 3, closure := [], defaults := Value.none, kwdefaults := Value.none, pyModule := Value.str (Str.ofString "law_ys0001_11") 700, code := Value.ref 399 } }) :: (nat_lit 401, { cls := Value.type "tuple", data := Data.seq #[] }) :: (nat_lit 404, { cls := Value.type "code", data := Data.fields #[Value.str (Str.ofString "_law_has") 794, Value.str (Str.ofString "_law_has") 795, Value.str (Str.ofString "/claim/cut.py") 796, Value.int 297 0, Value.int 2 0, Value.int 0 0, Value.int 0 0, Value.int 3 0, Value.ref 401, Value.bool Bool.true, Value.int 181 0, Value.ref 402, Value.none, Value.none, Value.none, Value.ref 403, Value.int 797 0, Value.int 297 0, Value.str (Str.ofString "/claim/cut.py") 798] }) :: (nat_lit 405, { cls := Value.type "function", data := Data.func { name := Str.ofString "_law_has", qualname := Str.ofString "_law_has", params := a43, body := FuncBody.stmts b43, scope := s43, globals := 3, closure := [], defaults := Value.none, kwdefaults := Value.none, pyModule := Value.str (Str.ofString "law_ys0001_11") 700, code := Value.ref 404 } }) :: (nat_lit 406, { cls := Value.type "tuple", data := Data.seq #[] }) :: (nat_lit 409, { cls := Value.type "code", data := Data.fields #[Value.str (Str.ofString "_law_name") 800, Value.str (Str.ofString "_law_name") 801, Value.str (Str.ofString "/claim/cut.py") 802, Value.int 299 0, Value.int 1 0, Value.int 0 0, Value.int 0 0, Value.int 3 0, Value.ref 406, Value.bool Bool.true, Value.int 181 0, Value.ref 407, Value.none, Value.none, Value.none, Value.ref 408, Value.int 803 0, Value.int 299 0, Value.str (Str.ofString "/claim/cut.py") 804] }) :: (nat_lit 410, { cls := Value.type "function", data := Data.func { name := Str.ofString "_law_name", qualname := Str.ofString "_law_name", params := a44, body := FuncBody.stmts b44, scope := s44, globals := 3, closure := [], defaults := Value.none, kwdefaults := Value.none, pyModule := Value.str (Str.ofString "law_ys0001_11") 700, code := Value.ref 409 } }) :: (nat_lit 411, { cls := Value.type "tuple", data := Data.seq #[] }) :: (nat_lit 414, { cls := Value.type "code", data := Data.fields #[Value.str (Str.ofString "_law_judged") 806, Value.str (Str.ofString "_law_judged") 807, Value.str (Str.ofString "/claim/cut.py") 808, Value.int 302 0, Value.int 4 0, Value.int 0 0, Value.int 0 0, Value.int 3 0, Value.ref 411, Value.bool Bool.true, Value.int 181 0, Value.ref 412, Value.none, Value.none, Value.none, Value.ref 413, Value.int 809 0, Value.int 302 0, Value.str (Str.ofString "/claim/cut.py") 810] }) :: (nat_lit 415, { cls := Value.type "function", data := Data.func { name := Str.ofString "_law_judged", qualname := Str.ofString "_law_judged", params := a45, body := FuncBody.stmts b45, scope := s45, globals := 3, closure := [], defaults := Value.none, kwdefaults := Value.none, pyModule := Value.str (Str.ofString "law_ys0001_11") 700, code := Value.ref 414 } }) :: (nat_lit 416, { cls := Value.type "tuple", data := Data.seq #[] }) :: (nat_lit 418, { cls := Value.type "tuple", data := Data.seq #[Value.str (Str.ofString "told") 815, Value.str (Str.ofString "signature") 816, Value.str (Str.ofString "public") 817] }) :: (nat_lit 419, { cls := Value.type "tuple", data := Data.seq #[] }) :: (nat_lit 421, { cls := Value.type "code", data := Data.fields #[Value.str (Str.ofString "_law_told") 812, Value.str (Str.ofString "_law_told") 813, Value.str (Str.ofString "/claim/cut.py") 814, Value.int 314 0, Value.int 3 0, Value.int 0 0, Value.int 0 0, Value.int 3 0, Value.ref 416, Value.bool Bool.true, Value.int 181 0, Value.ref 417, Value.none, Value.ref 418, Value.ref 419, Value.ref 420, Value.int 818 0, Value.int 314 0, Value.str (Str.ofString "/claim/cut.py") 819] }) :: (nat_lit 422, { cls := Value.type "function", data := Data.func { name := Str.ofString "_law_told", qualname := Str.ofString "_law_told", params := a46, body := FuncBody.stmts b46, scope := s46, globals := 3, closure := [], defaults := Value.none, kwdefaults := Value.none, pyModule := Value.str (Str.ofString "law_ys0001_11") 700, code := Value.ref 421 } }) :: (nat_lit 423, { cls := Value.type "tuple", data := Data.seq #[] }) :: (nat_lit 425, { cls := Value.type "tuple", data := Data.seq #[Value.str (Str.ofString "octets") 824, Value.str (Str.ofString "private") 825] }) :: (nat_lit 426, { cls := Value.type "tuple", data := Data.seq #[] }) :: (nat_lit 428, { cls := Value.type "code", data := Data.fields #[Value.str (Str.ofString "_law_read") 821, Value.str (Str.ofString "_law_read") 822, Value.str (Str.ofString "/claim/cut.py") 823, Value.int 321 0, Value.int 2 0, Value.int 0 0, Value.int 0 0, Value.int 3 0, Value.ref 423, Value.bool Bool.true, Value.int 181 0, Value.ref 424, Value.none, Value.ref 425, Value.ref 426, Value.ref 427, Value.int 826 0, Value.int 321 0, Value.str (Str.ofString "/claim/cut.py") 827] }) :: (nat_lit 429, { cls := Value.type "function", data := Data.func { name := Str.ofString "_law_read", qualname := Str.ofString "_law_read", params := a47, body := FuncBody.stmts b47, scope := s47, globals := 3, closure := [], defaults := Value.none, kwdefaults := Value.none, pyModule := Value.str (Str.ofString "law_ys0001_11") 700, code := Value.ref 428 } }) :: (nat_lit 430, { cls := Value.type "tuple", data := Data.seq #[] }) :: (nat_lit 432, { cls := Value.type "tuple", data := Data.seq #[Value.str (Str.ofString "signature") 832, Value.str (Str.ofString "public") 833] }) :: (nat_lit 433, { cls := Value.type "tuple", data := Data.seq #[] }) :: (nat_lit 435, { cls := Value.type "code", data := Data.fields #[Value.str (Str.ofString "_law_found") 829, Value.str (Str.ofString "_law_found") 830, Value.str (Str.ofString "/claim/cut.py") 831, Value.int 326 0, Value.int 2 0, Value.int 0 0, Value.int 0 0, Value.int 3 0, Value.ref 430, Value.bool Bool.true, Value.int 181 0, Value.ref 431, Value.none, Value.ref 432, Value.ref 433, Value.ref 434, Value.int 834 0, Value.int 326 0, Value.str (Str.ofString "/claim/cut.py") 835] }) :: (nat_lit 436, { cls := Value.type "function", data := Data.func { name := Str.ofString "_law_found", qualname := Str.ofString "_law_found", params := a48, body := FuncBody.stmts b48, scope := s48, globals := 3, closure := [], defaults := Value.none, kwdefaults := Value.none, pyModule := Value.str (Str.ofString "law_ys0001_11") 700, code := Value.ref 435 } }) :: (nat_lit 437, { cls := Value.type "tuple", data := Data.seq #[] }) :: (nat_lit 440, { cls := Value.type "code", data := Data.fields #[Value.str (Str.ofString "law") 837, Value.str (Str.ofString "law") 838, Value.str (Str.ofString "/claim/cut.py") 839, Value.int 331 0, Value.int 1 0, Value.int 0 0, Value.int 0 0, Value.int 3 0, Value.ref 437, Value.bool Bool.true, Value.int 181 0, Value.ref 438, Value.none, Value.none, Value.none, Value.ref 439, Value.int 840 0, Value.int 331 0, Value.str (Str.ofString "/claim/cut.py") 841] }) :: (nat_lit 441, { cls := Value.type "function", data := Data.func { name := Str.ofString "law", qualname := Str.ofString "law", params := a49, body := FuncBody.stmts b49, scope := s49, globals := 3, closure := [], defaults := Value.none, kwdefaults := Value.none, pyModule := Value.str (Str.ofString "law_ys0001_11") 700, code := Value.ref 440 } }) :: [])) _ _ _ _ _ _ _ _ _ _ rfl _ _ _ _ _ _ _ _ _ _ rfl _ _ _ _ _ _ _ _ _ _ rfl _ _ _ _ _ _ _ _ _ _ rfl _ _ _ _ _ _ _ _ _ _ rfl _ _ _ _ _ _ _ _ _ _ rfl _ _ _ _ _ _ _ _ _ _ rfl _ _ _ _ _ _ _ _ _ _ rfl _ _ _ _ _ _ _ _ _ _ rfl _ _ _ _ _ _ _ _ _ _ rfl _ _ _ _ _ _ _ _ _ _ rfl _ _ _ _ _ _ _ _ _ _ rfl _ _ _ _ _ _ _ _ _ _ rfl _ _ _ _ _ _ _ _ _ _ rfl _ _ _ _ _ _ _ _ _ _ rfl _ _ _ _ _ _ _ _ _ _ rfl _ _ _ _ _ _ _ _ _ _ rfl _ _ _ _ _ _ _ _ _ _ rfl _ _ _ _ _ _ _ _ _ _ rfl _ _ _ _ _ _ _ _ _ _ rfl _ _ _ _ _ _ _ _ _ _ rfl _ _ _ _ _ _ _ _ _ _ rfl _ _ _ _ _ _ _ _ _ _ rfl _ _ _ _ _ _ _ _ _ _ rfl _ _ _ _ _ _ _ _ _ _ rfl _ _ _ _ _ _ _ _ _ _ rfl _ _ _ _ _ _ _ _ _ _ rfl _ _ _ _ _ _ _ _ _ _ rfl _ _ _ _ _ _ _ _ _ _ rfl _ _ _ _ _ _ _ _ _ _ rfl _ _ _ _ _ _ _ _ _ _ rfl _ _ _ _ _ _ _ _ _ _ rfl _ _ _ _ _ _ _ _ _ _ rfl _ _ _ _ _ _ _ _ _ _ rfl _ _ _ _ _ _ _ _ _ _ rfl _ _ _ _ _ _ _ _ _ _ rfl _ _ _ _ _ _ _ _ _ _ rfl _ _ _ _ _ _ _ _ _ _ rfl _ _ _ _ _ _ _ _ _ _ rfl _ _ _ _ _ _ _ _ _ _ rfl _ _ _ _ _ _ _ _ _ _ rfl _ _ _ _ _ _ _ _ _ _ rfl _ _ _ _ _ _ _ _ _ _ rfl _ _ _ _ _ _ _ _ _ _ rfl _ _ _ _ _ _ _ _ _ _ rfl _ _ _ _ _ _ _ _ _ _ rfl _ _ _ _ _ _ _ _ _ _ rfl _ _ _ _ _ _ _ _ _ _ rfl _ _ _ _ _ _ _ _ _ _ rfl _ _ _ _ _ _ _ _ _ _ rfl
theorem hKas : ∀ P, ((2 :: 3 :: 15 :: 22 :: 23 :: 25 :: 26 :: 28 :: 29 :: 30 :: 31 :: 32 :: 33 :: 36 :: 38 :: 39 :: 41 :: 42 :: 43 :: 45 :: 46 :: 48 :: 49 :: 50 :: 52 :: 53 :: 55 :: 56 :: 57 :: 59 :: 60 :: 62 :: 63 :: 64 :: 66 :: 67 :: 69 :: 70 :: 71 :: 73 :: 74 :: 76 :: 77 :: 78 :: 80 :: 81 :: 83 :: 84 :: 85 :: 87 :: 88 :: 90 :: 91 :: 92 :: 94 :: 95 :: 97 :: 98 :: 99 :: 100 :: 102 :: 103 :: 105 :: 106 :: 107 :: 108 :: 115 :: 116 :: 117 :: 118 :: 121 :: 128 :: 129 :: 130 :: 133 :: 140 :: 141 :: 142 :: 145 :: 148 :: 149 :: 150 :: 152 :: 153 :: 155 :: 156 :: 157 :: 159 :: 160 :: 162 :: 163 :: 164 :: 166 :: 167 :: 169 :: 170 :: 171 :: 173 :: 174 :: 176 :: 177 :: 178 :: 180 :: 181 :: 183 :: 184 :: 185 :: 187 :: 188 :: 190 :: 191 :: 192 :: 194 :: 195 :: 197 :: 198 :: 199 :: 201 :: 202 :: 204 :: 205 :: 206 :: 208 :: 209 :: 211 :: 212 :: 220 :: 222 :: 223 :: 225 :: 226 :: 227 :: 229 :: 230 :: 232 :: 233 :: 234 :: 236 :: 237 :: 239 :: 240 :: 241 :: 243 :: 244 :: 246 :: 247 :: 248 :: 250 :: 251 :: 253 :: 254 :: 255 :: 256 :: 257 :: 258 :: 259 :: 262 :: 269 :: 271 :: 272 :: 274 :: 275 :: 276 :: 278 :: 279 :: 281 :: 282 :: 283 :: 284 :: 285 :: 288 :: 295 :: 297 :: 298 :: 300 :: 301 :: 302 :: 304 :: 305 :: 307 :: 308 :: 309 :: 311 :: 312 :: 314 :: 315 :: 316 :: 318 :: 319 :: 321 :: 322 :: 323 :: 325 :: 326 :: 328 :: 329 :: 330 :: 331 :: 332 :: 335 :: 337 :: 338 :: 340 :: 341 :: 342 :: 344 :: 345 :: 347 :: 348 :: 349 :: 351 :: 352 :: 354 :: 355 :: 356 :: 358 :: 359 :: 361 :: 362 :: 363 :: 365 :: 366 :: 368 :: 369 :: 370 :: 373 :: 374 :: 375 :: 377 :: 378 :: 380 :: 381 :: 382 :: 385 :: 386 :: 387 :: 389 :: 390 :: 392 :: 393 :: 394 :: 396 :: 397 :: 399 :: 400 :: 401 :: 404 :: 405 :: 406 :: 409 :: 410 :: 411 :: 414 :: 415 :: 416 :: 418 :: 419 :: 421 :: 422 :: 423 :: 425 :: 426 :: 428 :: 429 :: 430 :: 432 :: 433 :: 435 :: 436 :: 437 :: 440 :: 441 :: []) : List Addr) = (K P).map (·.1) := fun P => by kernel_rfl
theorem hLooks : ∀ w : World, (fun os => ((staticsOk (importedModules PP.main.body) (PySem.W.boot_heap w.params) (h_f w.params) && namesBound PP (h_f w.params) && gensDone ⟨h_f w.params, Array.mk [], { }, 843, os⟩ && laidKept (PySem.W.boot_heap w.params) (h_f w.params)), openSeen V [Str.ofString "NotRelativePrimeError", Str.ofString "int2bytes", Str.ofString "HASH_ASN1"] (importedModules PP.main.body) (fun s => xlAt V [] s && recOk (RowW.records PySem.Challenge.rw_ys0001_11.row.toRowW) s) true ⟨h_f w.params, Array.mk [], { }, 843, os⟩, (Hook.obs (kHook K (2 :: 3 :: 15 :: 22 :: 23 :: 25 :: 26 :: 28 :: 29 :: 30 :: 31 :: 32 :: 33 :: 36 :: 38 :: 39 :: 41 :: 42 :: 43 :: 45 :: 46 :: 48 :: 49 :: 50 :: 52 :: 53 :: 55 :: 56 :: 57 :: 59 :: 60 :: 62 :: 63 :: 64 :: 66 :: 67 :: 69 :: 70 :: 71 :: 73 :: 74 :: 76 :: 77 :: 78 :: 80 :: 81 :: 83 :: 84 :: 85 :: 87 :: 88 :: 90 :: 91 :: 92 :: 94 :: 95 :: 97 :: 98 :: 99 :: 100 :: 102 :: 103 :: 105 :: 106 :: 107 :: 108 :: 115 :: 116 :: 117 :: 118 :: 121 :: 128 :: 129 :: 130 :: 133 :: 140 :: 141 :: 142 :: 145 :: 148 :: 149 :: 150 :: 152 :: 153 :: 155 :: 156 :: 157 :: 159 :: 160 :: 162 :: 163 :: 164 :: 166 :: 167 :: 169 :: 170 :: 171 :: 173 :: 174 :: 176 :: 177 :: 178 :: 180 :: 181 :: 183 :: 184 :: 185 :: 187 :: 188 :: 190 :: 191 :: 192 :: 194 :: 195 :: 197 :: 198 :: 199 :: 201 :: 202 :: 204 :: 205 :: 206 :: 208 :: 209 :: 211 :: 212 :: 220 :: 222 :: 223 :: 225 :: 226 :: 227 :: 229 :: 230 :: 232 :: 233 :: 234 :: 236 :: 237 :: 239 :: 240 :: 241 :: 243 :: 244 :: 246 :: 247 :: 248 :: 250 :: 251 :: 253 :: 254 :: 255 :: 256 :: 257 :: 258 :: 259 :: 262 :: 269 :: 271 :: 272 :: 274 :: 275 :: 276 :: 278 :: 279 :: 281 :: 282 :: 283 :: 284 :: 285 :: 288 :: 295 :: 297 :: 298 :: 300 :: 301 :: 302 :: 304 :: 305 :: 307 :: 308 :: 309 :: 311 :: 312 :: 314 :: 315 :: 316 :: 318 :: 319 :: 321 :: 322 :: 323 :: 325 :: 326 :: 328 :: 329 :: 330 :: 331 :: 332 :: 335 :: 337 :: 338 :: 340 :: 341 :: 342 :: 344 :: 345 :: 347 :: 348 :: 349 :: 351 :: 352 :: 354 :: 355 :: 356 :: 358 :: 359 :: 361 :: 362 :: 363 :: 365 :: 366 :: 368 :: 369 :: 370 :: 373 :: 374 :: 375 :: 377 :: 378 :: 380 :: 381 :: 382 :: 385 :: 386 :: 387 :: 389 :: 390 :: 392 :: 393 :: 394 :: 396 :: 397 :: 399 :: 400 :: 401 :: 404 :: 405 :: 406 :: 409 :: 410 :: 411 :: 414 :: 415 :: 416 :: 418 :: 419 :: 421 :: 422 :: 423 :: 425 :: 426 :: 428 :: 429 :: 430 :: 432 :: 433 :: 435 :: 436 :: 437 :: 440 :: 441 :: []) hKas)) ⟨h_f w.params, Array.mk [], { }, 843, os⟩)) = fun _ => (true, openGood V [Str.ofString "NotRelativePrimeError", Str.ofString "int2bytes", Str.ofString "HASH_ASN1"], (Hook.val (kHook K (2 :: 3 :: 15 :: 22 :: 23 :: 25 :: 26 :: 28 :: 29 :: 30 :: 31 :: 32 :: 33 :: 36 :: 38 :: 39 :: 41 :: 42 :: 43 :: 45 :: 46 :: 48 :: 49 :: 50 :: 52 :: 53 :: 55 :: 56 :: 57 :: 59 :: 60 :: 62 :: 63 :: 64 :: 66 :: 67 :: 69 :: 70 :: 71 :: 73 :: 74 :: 76 :: 77 :: 78 :: 80 :: 81 :: 83 :: 84 :: 85 :: 87 :: 88 :: 90 :: 91 :: 92 :: 94 :: 95 :: 97 :: 98 :: 99 :: 100 :: 102 :: 103 :: 105 :: 106 :: 107 :: 108 :: 115 :: 116 :: 117 :: 118 :: 121 :: 128 :: 129 :: 130 :: 133 :: 140 :: 141 :: 142 :: 145 :: 148 :: 149 :: 150 :: 152 :: 153 :: 155 :: 156 :: 157 :: 159 :: 160 :: 162 :: 163 :: 164 :: 166 :: 167 :: 169 :: 170 :: 171 :: 173 :: 174 :: 176 :: 177 :: 178 :: 180 :: 181 :: 183 :: 184 :: 185 :: 187 :: 188 :: 190 :: 191 :: 192 :: 194 :: 195 :: 197 :: 198 :: 199 :: 201 :: 202 :: 204 :: 205 :: 206 :: 208 :: 209 :: 211 :: 212 :: 220 :: 222 :: 223 :: 225 :: 226 :: 227 :: 229 :: 230 :: 232 :: 233 :: 234 :: 236 :: 237 :: 239 :: 240 :: 241 :: 243 :: 244 :: 246 :: 247 :: 248 :: 250 :: 251 :: 253 :: 254 :: 255 :: 256 :: 257 :: 258 :: 259 :: 262 :: 269 :: 271 :: 272 :: 274 :: 275 :: 276 :: 278 :: 279 :: 281 :: 282 :: 283 :: 284 :: 285 :: 288 :: 295 :: 297 :: 298 :: 300 :: 301 :: 302 :: 304 :: 305 :: 307 :: 308 :: 309 :: 311 :: 312 :: 314 :: 315 :: 316 :: 318 :: 319 :: 321 :: 322 :: 323 :: 325 :: 326 :: 328 :: 329 :: 330 :: 331 :: 332 :: 335 :: 337 :: 338 :: 340 :: 341 :: 342 :: 344 :: 345 :: 347 :: 348 :: 349 :: 351 :: 352 :: 354 :: 355 :: 356 :: 358 :: 359 :: 361 :: 362 :: 363 :: 365 :: 366 :: 368 :: 369 :: 370 :: 373 :: 374 :: 375 :: 377 :: 378 :: 380 :: 381 :: 382 :: 385 :: 386 :: 387 :: 389 :: 390 :: 392 :: 393 :: 394 :: 396 :: 397 :: 399 :: 400 :: 401 :: 404 :: 405 :: 406 :: 409 :: 410 :: 411 :: 414 :: 415 :: 416 :: 418 :: 419 :: 421 :: 422 :: 423 :: 425 :: 426 :: 428 :: 429 :: 430 :: 432 :: 433 :: 435 :: 436 :: 437 :: 440 :: 441 :: []) hKas)) w) := fun w => by kernel_rfl
theorem hLeft : LeftO PP V [Str.ofString "NotRelativePrimeError", Str.ofString "int2bytes", Str.ofString "HASH_ASN1"] (fun s => xlAt V [] s && recOk (RowW.records PySem.Challenge.rw_ys0001_11.row.toRowW) s) (Hook.obs (kHook K (2 :: 3 :: 15 :: 22 :: 23 :: 25 :: 26 :: 28 :: 29 :: 30 :: 31 :: 32 :: 33 :: 36 :: 38 :: 39 :: 41 :: 42 :: 43 :: 45 :: 46 :: 48 :: 49 :: 50 :: 52 :: 53 :: 55 :: 56 :: 57 :: 59 :: 60 :: 62 :: 63 :: 64 :: 66 :: 67 :: 69 :: 70 :: 71 :: 73 :: 74 :: 76 :: 77 :: 78 :: 80 :: 81 :: 83 :: 84 :: 85 :: 87 :: 88 :: 90 :: 91 :: 92 :: 94 :: 95 :: 97 :: 98 :: 99 :: 100 :: 102 :: 103 :: 105 :: 106 :: 107 :: 108 :: 115 :: 116 :: 117 :: 118 :: 121 :: 128 :: 129 :: 130 :: 133 :: 140 :: 141 :: 142 :: 145 :: 148 :: 149 :: 150 :: 152 :: 153 :: 155 :: 156 :: 157 :: 159 :: 160 :: 162 :: 163 :: 164 :: 166 :: 167 :: 169 :: 170 :: 171 :: 173 :: 174 :: 176 :: 177 :: 178 :: 180 :: 181 :: 183 :: 184 :: 185 :: 187 :: 188 :: 190 :: 191 :: 192 :: 194 :: 195 :: 197 :: 198 :: 199 :: 201 :: 202 :: 204 :: 205 :: 206 :: 208 :: 209 :: 211 :: 212 :: 220 :: 222 :: 223 :: 225 :: 226 :: 227 :: 229 :: 230 :: 232 :: 233 :: 234 :: 236 :: 237 :: 239 :: 240 :: 241 :: 243 :: 244 :: 246 :: 247 :: 248 :: 250 :: 251 :: 253 :: 254 :: 255 :: 256 :: 257 :: 258 :: 259 :: 262 :: 269 :: 271 :: 272 :: 274 :: 275 :: 276 :: 278 :: 279 :: 281 :: 282 :: 283 :: 284 :: 285 :: 288 :: 295 :: 297 :: 298 :: 300 :: 301 :: 302 :: 304 :: 305 :: 307 :: 308 :: 309 :: 311 :: 312 :: 314 :: 315 :: 316 :: 318 :: 319 :: 321 :: 322 :: 323 :: 325 :: 326 :: 328 :: 329 :: 330 :: 331 :: 332 :: 335 :: 337 :: 338 :: 340 :: 341 :: 342 :: 344 :: 345 :: 347 :: 348 :: 349 :: 351 :: 352 :: 354 :: 355 :: 356 :: 358 :: 359 :: 361 :: 362 :: 363 :: 365 :: 366 :: 368 :: 369 :: 370 :: 373 :: 374 :: 375 :: 377 :: 378 :: 380 :: 381 :: 382 :: 385 :: 386 :: 387 :: 389 :: 390 :: 392 :: 393 :: 394 :: 396 :: 397 :: 399 :: 400 :: 401 :: 404 :: 405 :: 406 :: 409 :: 410 :: 411 :: 414 :: 415 :: 416 :: 418 :: 419 :: 421 :: 422 :: 423 :: 425 :: 426 :: 428 :: 429 :: 430 :: 432 :: 433 :: 435 :: 436 :: 437 :: 440 :: 441 :: []) hKas)) (Hook.val (kHook K (2 :: 3 :: 15 :: 22 :: 23 :: 25 :: 26 :: 28 :: 29 :: 30 :: 31 :: 32 :: 33 :: 36 :: 38 :: 39 :: 41 :: 42 :: 43 :: 45 :: 46 :: 48 :: 49 :: 50 :: 52 :: 53 :: 55 :: 56 :: 57 :: 59 :: 60 :: 62 :: 63 :: 64 :: 66 :: 67 :: 69 :: 70 :: 71 :: 73 :: 74 :: 76 :: 77 :: 78 :: 80 :: 81 :: 83 :: 84 :: 85 :: 87 :: 88 :: 90 :: 91 :: 92 :: 94 :: 95 :: 97 :: 98 :: 99 :: 100 :: 102 :: 103 :: 105 :: 106 :: 107 :: 108 :: 115 :: 116 :: 117 :: 118 :: 121 :: 128 :: 129 :: 130 :: 133 :: 140 :: 141 :: 142 :: 145 :: 148 :: 149 :: 150 :: 152 :: 153 :: 155 :: 156 :: 157 :: 159 :: 160 :: 162 :: 163 :: 164 :: 166 :: 167 :: 169 :: 170 :: 171 :: 173 :: 174 :: 176 :: 177 :: 178 :: 180 :: 181 :: 183 :: 184 :: 185 :: 187 :: 188 :: 190 :: 191 :: 192 :: 194 :: 195 :: 197 :: 198 :: 199 :: 201 :: 202 :: 204 :: 205 :: 206 :: 208 :: 209 :: 211 :: 212 :: 220 :: 222 :: 223 :: 225 :: 226 :: 227 :: 229 :: 230 :: 232 :: 233 :: 234 :: 236 :: 237 :: 239 :: 240 :: 241 :: 243 :: 244 :: 246 :: 247 :: 248 :: 250 :: 251 :: 253 :: 254 :: 255 :: 256 :: 257 :: 258 :: 259 :: 262 :: 269 :: 271 :: 272 :: 274 :: 275 :: 276 :: 278 :: 279 :: 281 :: 282 :: 283 :: 284 :: 285 :: 288 :: 295 :: 297 :: 298 :: 300 :: 301 :: 302 :: 304 :: 305 :: 307 :: 308 :: 309 :: 311 :: 312 :: 314 :: 315 :: 316 :: 318 :: 319 :: 321 :: 322 :: 323 :: 325 :: 326 :: 328 :: 329 :: 330 :: 331 :: 332 :: 335 :: 337 :: 338 :: 340 :: 341 :: 342 :: 344 :: 345 :: 347 :: 348 :: 349 :: 351 :: 352 :: 354 :: 355 :: 356 :: 358 :: 359 :: 361 :: 362 :: 363 :: 365 :: 366 :: 368 :: 369 :: 370 :: 373 :: 374 :: 375 :: 377 :: 378 :: 380 :: 381 :: 382 :: 385 :: 386 :: 387 :: 389 :: 390 :: 392 :: 393 :: 394 :: 396 :: 397 :: 399 :: 400 :: 401 :: 404 :: 405 :: 406 :: 409 :: 410 :: 411 :: 414 :: 415 :: 416 :: 418 :: 419 :: 421 :: 422 :: 423 :: 425 :: 426 :: 428 :: 429 :: 430 :: 432 :: 433 :: 435 :: 436 :: 437 :: 440 :: 441 :: []) hKas)) 6614 := LeftO.of_pieces hOpen hSize hRun (by decide) hLooks
theorem hSaid : OpenLaw.wellSaid PySem.Challenge.rw_ys0001_11 = true := by kernel_rfl
local macro_rules | `(tactic| walk_at $s:str) => `(tactic| k_extra $s)
local macro_rules | `(tactic| k_ne) => `(tactic| k_extra "k_ne")
local macro_rules | `(tactic| walk_at "m_inline") => `(tactic| (refine wpAny_call ?_; (refine' code_def ?k1 ?k2 ?k3 ?k4 ?k5 ?kA ?kF ?kK ?k6 ?k7 ?k8 ?k9 ?kB ?_ ?c2 ?c3 ?c4 ?c5; (case kA => exact rfl); (case kF => exact rfl); (case kK => first | exact rfl | assumption); (case k1 => k_asm); (case k2 => k_asm); (case k3 => k_asm); (case k4 => k_asm); (case k5 => k_asm); (case k6 => k_is); (case k7 => k_is); (case k8 => first | exact room0 (by assumption) | exact roomj (by assumption) (by decide) | (simp (zetaDelta := true) only [depth_deeper]; ktr_room) | ktr_room); (case k9 => first | exact BindsTo.of_eq rfl | exact binds_K (by k_in) rfl (by k_is) rfl rfl rfl); (case c5 => decide); (case kB => exact locs rfl); (case c2 => exact rfl); (case c3 => exact rfl); (case c4 => exact rfl); k_whole; intro g' L' h' FG' F' N' B' X' T'; (try dsimp only); (try k_lift B'); (try k_fold))))

inductive PEg (oa ob : Int) : Value → List (Addr × Obj) → Prop
  | mk (q : Nat) (a fx fy lx ly x y : Int) (u1 u2 u3 : Tok) (h : EInv oa ob a 0 x lx y ly) (hx : fx = (if lx < 0 then lx + ob else lx)) (hy : fy = (if ly < 0 then ly + oa else ly)) : PEg oa ob (.ref q) [(q, ({ cls := .type "tuple", data := .seq #[.int a u1, .int fx u2, .int fy u3] } : Obj))]
theorem c_egcd (w : World) (mean : ExcName → Option Value) (mg mb : Str → Option Value) {oa ob : Int} {t1 t2 : Tok} {B1 : Nat} (h1 : Bd B1 oa) (h2 : Bd B1 ob) (hB1 : B1 ≤ 8000) (hob : 0 ≤ ob) :
    Ctr PySem.Challenge.rw_ys0001_11.row.prog w (Mine.K w.params) Mine.V (looseW Mine.V [Str.ofString "NotRelativePrimeError", Str.ofString "int2bytes", Str.ofString "HASH_ASN1"]) mean mg mb 63 5 20 [.int oa t1, .int ob t2] []
      (PEg oa ob) := by
  k_with "m_conj" => ((with_reducible (first | exact (And.left ‹((_ ≠ _) ∧ _)›) | exact (And.right ‹(_ ∧ (_ ≠ _))›) | exact (And.left (And.left ‹(((_ ≠ _) ∧ _) ∧ _)›)) | exact (And.left (And.right ‹(_ ∧ ((_ ≠ _) ∧ _))›)) | exact (And.right (And.right ‹(_ ∧ (_ ∧ (_ ≠ _)))›)) | exact (And.left (And.right (And.left ‹((_ ∧ ((_ ≠ _) ∧ _)) ∧ _)›))) | exact (And.right (And.right (And.left ‹((_ ∧ (_ ∧ (_ ≠ _))) ∧ _)›))) | exact (And.left (And.left (And.right ‹(_ ∧ (((_ ≠ _) ∧ _) ∧ _))›))) | exact (And.left (And.right (And.right ‹(_ ∧ (_ ∧ ((_ ≠ _) ∧ _)))›))) | exact (And.right (And.right (And.right ‹(_ ∧ (_ ∧ (_ ∧ (_ ≠ _))))›))) | exact (And.left (And.right (And.left (And.right ‹(_ ∧ ((_ ∧ ((_ ≠ _) ∧ _)) ∧ _))›)))) | exact (And.right (And.right (And.left (And.right ‹(_ ∧ ((_ ∧ (_ ∧ (_ ≠ _))) ∧ _))›)))) | exact (And.left (And.left (And.right (And.right ‹(_ ∧ (_ ∧ (((_ ≠ _) ∧ _) ∧ _)))›)))) | exact (And.left (And.right (And.right (And.right ‹(_ ∧ (_ ∧ (_ ∧ ((_ ≠ _) ∧ _))))›)))) | exact (And.right (And.right (And.right (And.right ‹(_ ∧ (_ ∧ (_ ∧ (_ ∧ (_ ≠ _)))))›)))) | exact (And.left (And.right (And.left (And.right (And.right ‹(_ ∧ (_ ∧ ((_ ∧ ((_ ≠ _) ∧ _)) ∧ _)))›))))) | exact (And.right (And.right (And.left (And.right (And.right ‹(_ ∧ (_ ∧ ((_ ∧ (_ ∧ (_ ≠ _))) ∧ _)))›))))) | exact (And.left (And.left (And.right (And.right (And.right ‹(_ ∧ (_ ∧ (_ ∧ (((_ ≠ _) ∧ _) ∧ _))))›))))) | exact (And.left (And.right (And.right (And.right (And.right ‹(_ ∧ (_ ∧ (_ ∧ (_ ∧ ((_ ≠ _) ∧ _)))))›))))) | exact (And.right (And.right (And.right (And.right (And.right ‹(_ ∧ (_ ∧ (_ ∧ (_ ∧ (_ ∧ (_ ≠ _))))))›))))) | exact (And.left (And.right (And.left (And.right (And.right (And.right ‹(_ ∧ (_ ∧ (_ ∧ ((_ ∧ ((_ ≠ _) ∧ _)) ∧ _))))›)))))) | exact (And.right (And.right (And.left (And.right (And.right (And.right ‹(_ ∧ (_ ∧ (_ ∧ ((_ ∧ (_ ∧ (_ ≠ _))) ∧ _))))›)))))) | exact (And.left (And.left (And.right (And.right (And.right (And.right ‹(_ ∧ (_ ∧ (_ ∧ (_ ∧ (((_ ≠ _) ∧ _) ∧ _)))))›)))))) | exact (And.left (And.right (And.right (And.right (And.right (And.right ‹(_ ∧ (_ ∧ (_ ∧ (_ ∧ (_ ∧ ((_ ≠ _) ∧ _))))))›)))))) | exact (And.right (And.right (And.right (And.right (And.right (And.right ‹(_ ∧ (_ ∧ (_ ∧ (_ ∧ (_ ∧ (_ ∧ (_ ≠ _)))))))›)))))) | exact (And.left (And.right (And.left (And.right (And.right (And.right (And.right ‹(_ ∧ (_ ∧ (_ ∧ (_ ∧ ((_ ∧ ((_ ≠ _) ∧ _)) ∧ _)))))›))))))) | exact (And.right (And.right (And.left (And.right (And.right (And.right (And.right ‹(_ ∧ (_ ∧ (_ ∧ (_ ∧ ((_ ∧ (_ ∧ (_ ≠ _))) ∧ _)))))›))))))) | exact (And.left (And.left (And.right (And.right (And.right (And.right (And.right ‹(_ ∧ (_ ∧ (_ ∧ (_ ∧ (_ ∧ (((_ ≠ _) ∧ _) ∧ _))))))›))))))) | exact (And.left (And.right (And.right (And.right (And.right (And.right (And.right ‹(_ ∧ (_ ∧ (_ ∧ (_ ∧ (_ ∧ (_ ∧ ((_ ≠ _) ∧ _)))))))›))))))) | exact (And.right (And.right (And.right (And.right (And.right (And.right (And.right ‹(_ ∧ (_ ∧ (_ ∧ (_ ∧ (_ ∧ (_ ∧ (_ ∧ (_ ≠ _))))))))›))))))) | exact (And.left (And.right (And.left (And.right (And.right (And.right (And.right (And.right ‹(_ ∧ (_ ∧ (_ ∧ (_ ∧ (_ ∧ ((_ ∧ ((_ ≠ _) ∧ _)) ∧ _))))))›)))))))) | exact (And.right (And.right (And.left (And.right (And.right (And.right (And.right (And.right ‹(_ ∧ (_ ∧ (_ ∧ (_ ∧ (_ ∧ ((_ ∧ (_ ∧ (_ ≠ _))) ∧ _))))))›)))))))) | exact (And.left (And.left (And.right (And.right (And.right (And.right (And.right (And.right ‹(_ ∧ (_ ∧ (_ ∧ (_ ∧ (_ ∧ (_ ∧ (((_ ≠ _) ∧ _) ∧ _)))))))›)))))))) | exact (And.left (And.right (And.left (And.right (And.right (And.right (And.right (And.right (And.right ‹(_ ∧ (_ ∧ (_ ∧ (_ ∧ (_ ∧ (_ ∧ ((_ ∧ ((_ ≠ _) ∧ _)) ∧ _)))))))›))))))))) | exact (And.right (And.right (And.left (And.right (And.right (And.right (And.right (And.right (And.right ‹(_ ∧ (_ ∧ (_ ∧ (_ ∧ (_ ∧ (_ ∧ ((_ ∧ (_ ∧ (_ ≠ _))) ∧ _)))))))›))))))))))))
  k_with "m_enter2" => (((case kA => exact rfl); (case kF => exact rfl); (case kK => assumption); (case k6 => k_is); (case k7 => k_is); (case k8 => first | exact room0 (by assumption) | exact roomj (by assumption) (by decide) | (simp (zetaDelta := true) only [depth_deeper]; ktr_room) | ktr_room); (case k9 => exact BindsTo.of_eq rfl); (case c5 => decide); (case kB => exact locs rfl); (case c2 => exact rfl); (case c3 => exact rfl); (case c4 => exact rfl); k_whole))
  k_with "m_enterC" => (((case kA => exact rfl); (case kF => exact rfl); (case kK => assumption); (case k1 => k_asm); (case k2 => k_asm); (case k3 => k_asm); (case k4 => k_asm); (case k5 => k_asm); (case k6 => k_is); (case k7 => k_is); (case k8 => first | exact room0 (by assumption) | exact roomj (by assumption) (by decide) | (simp (zetaDelta := true) only [depth_deeper]; ktr_room) | ktr_room); (case k9 => exact BindsTo.of_eq rfl); (case kN => decide); (case kB => exact rfl); (case c2 => exact rfl); (case c3 => exact rfl); (case c4 => exact rfl); k_whole))
  k_with "m_enter" => (((case kA => exact rfl); (case kF => exact rfl); (case kK => assumption); (case k1 => k_asm); (case k2 => k_asm); (case k3 => k_asm); (case k4 => k_asm); (case k5 => k_asm); (case k6 => k_is); (case k7 => k_is); (case k8 => first | exact room0 (by assumption) | exact roomj (by assumption) (by decide) | (simp (zetaDelta := true) only [depth_deeper]; ktr_room) | ktr_room); (case k9 => exact BindsTo.of_eq rfl); (case c5 => decide); (case kB => exact locs rfl); (case c2 => exact rfl); (case c3 => exact rfl); (case c4 => exact rfl); k_whole))
  k_with "m_same" => ((intro z h2 h3; (try simp only [List.forall_mem_cons, List.not_mem_nil, false_implies, implies_true, and_true, ne_eq] at h2); (try simp only [List.contains_cons, List.contains_nil, Bool.or_false, Bool.or_eq_false_iff, beq_eq_false_iff_ne, ne_eq] at h3); simp [kstB, h2, h3]))
  k_with "m_same3" => ((intro z h1 h2 h3; (try simp only [List.forall_mem_cons, List.not_mem_nil, false_implies, implies_true, and_true, ne_eq] at h2); (try simp only [List.contains_cons, List.contains_nil, Bool.or_false, Bool.or_eq_false_iff, beq_eq_false_iff_ne, ne_eq] at h3); simp [kstB, h1, h2, h3]))
  k_with "m_pre" => (first | exact List.forall_mem_nil _ | (refine List.forall_mem_cons.mpr ⟨by k_mem, ?_⟩; k_extra "m_pre") | (intro p hp; kst_mem))
  k_with "m_off" => (first | exact off0 | (refine off1 (by (try dsimp only); first | assumption | (apply Ne.symm; assumption) | k_ne) ?_; k_extra "m_off"))
  k_with "m_rest" => (first | exact Rest.nil | exact Rest.tail (fun _ _ => List.not_mem_nil) | exact Rest.drop (by k_mem) (by walk_at "m_rest") | exact Rest.keep (by k_extra "m_off") (by walk_at "m_rest") | exact Rest.tail (fun _ _ => List.not_mem_nil) | exact Rest.tail (own_off (by assumption) (by k_extra "m_subA")) | exact Rest.tail (own_off (by assumption) (by intro b hb; simp only [StL, List.map_cons, List.map_nil, List.mem_cons, List.not_mem_nil, or_false] at hb ⊢; lia)))
  k_with "m_subA" => (first | exact List.forall_mem_nil _ | (refine List.forall_mem_cons.mpr ⟨by k_mem, ?_⟩; k_extra "m_subA"))
  k_with "m_use" => (((case k1 => k_asm); (case k2 => k_asm); (case k3 => k_asm); (case k4 => k_asm); (case k5 => k_asm); (case kk => first | exact rfl | assumption); (case hp => k_extra "m_pre"); (case hR => walk_at "m_rest"); (case kd => first | exact roomk (by assumption) (by decide) | exact roomk2 (by assumption) (by decide) | ktr_room); (case ku => first | exact roomk (by assumption) (by decide) | exact roomk2 (by assumption) (by decide) | ktr_units)))
  k_with "pyIter ref" => (((first | (with_reducible show wpAny _ _ (pyIter (Value.ref _)) (fun it s₂ => LoopAtV _ _ _ _ _ _ _ _ _ it s₂) _ _) | (with_reducible show wpAny _ _ (pyIter (Value.ref _)) (fun it s₂ => TurnsAt _ _ _ _ _ _ _ _ _ it s₂) _ _)); refine hold ?_))
  k_with "m_bd" => (first | assumption | exact Bd.mono (by assumption) (by decide) | (refine Bd.small' ?_ ?_; decide; lia) | (refine Bd.mulS' ?_ ?_ ?_; decide; (first | assumption | (refine Bd.small' ?_ ?_; decide; lia)); walk_at "m_bd") | (refine Bd.mul2 ?_ ?_; (walk_at "m_bd"); (walk_at "m_bd")) | (refine Bd.add' ?_ ?_ ?_; decide; (walk_at "m_bd"); (walk_at "m_bd")) | (refine Bd.sub' ?_ ?_ ?_; decide; (walk_at "m_bd"); (walk_at "m_bd")) | (refine Bd.neg ?_; walk_at "m_bd"))
  k_with "m_fact" => (first | assumption | lia | (refine mul_nn0 ?_ ?_; (walk_at "m_fact"); (walk_at "m_fact")))
  k_with "binaryOp Mult int int" => ((refine mul_int ?_ ?_; rotate_left; (first | assumption | exact mulOkB 2490 2490 (by walk_at "m_bd") (by walk_at "m_bd") (by decide) | mul_fits)))
  k_with "exec While" => ((refine hold ?_))
  k_with "exec While Compare" => ((refine hold ?_))
  k_with "binaryOp FloorDiv int int" => ((refine floordiv_int ?_ ?_ (Or.inl (PyProof.noPylong_of_log2 ?_)); (first | assumption | lia); rotate_left; (first | assumption | decide +kernel)))
  k_with "m_conj2" => ((with_reducible (first | exact And.left (‹((_ ≠ _) ∧ _)›) | exact And.left (And.right ‹(_ ∧ ((_ ≠ _) ∧ _))›) | exact And.left (And.right (And.right ‹(_ ∧ (_ ∧ ((_ ≠ _) ∧ _)))›)) | exact And.left (And.right (And.right (And.right ‹(_ ∧ (_ ∧ (_ ∧ ((_ ≠ _) ∧ _))))›))) | exact And.left (And.right (And.right (And.right (And.right ‹(_ ∧ (_ ∧ (_ ∧ (_ ∧ ((_ ≠ _) ∧ _)))))›)))) | exact And.left (And.right (And.right (And.right (And.right (And.right ‹(_ ∧ (_ ∧ (_ ∧ (_ ∧ (_ ∧ ((_ ≠ _) ∧ _))))))›))))) | exact And.left (And.right (And.right (And.right (And.right (And.right (And.right ‹(_ ∧ (_ ∧ (_ ∧ (_ ∧ (_ ∧ (_ ∧ ((_ ≠ _) ∧ _)))))))›)))))) | exact And.left (And.right (And.right (And.right (And.right (And.right (And.right (And.right ‹(_ ∧ (_ ∧ (_ ∧ (_ ∧ (_ ∧ (_ ∧ (_ ∧ ((_ ≠ _) ∧ _))))))))›))))))) | exact And.left (And.right (And.right (And.right (And.right (And.right (And.right (And.right (And.right ‹(_ ∧ (_ ∧ (_ ∧ (_ ∧ (_ ∧ (_ ∧ (_ ∧ (_ ∧ ((_ ≠ _) ∧ _)))))))))›)))))))) | exact And.left (And.right (And.right (And.right (And.right (And.right (And.right (And.right (And.right (And.right ‹(_ ∧ (_ ∧ (_ ∧ (_ ∧ (_ ∧ (_ ∧ (_ ∧ (_ ∧ (_ ∧ ((_ ≠ _) ∧ _))))))))))›))))))))) | exact And.left (And.right (And.right (And.right (And.right (And.right (And.right (And.right (And.right (And.right (And.right ‹(_ ∧ (_ ∧ (_ ∧ (_ ∧ (_ ∧ (_ ∧ (_ ∧ (_ ∧ (_ ∧ (_ ∧ ((_ ≠ _) ∧ _)))))))))))›)))))))))) | exact And.left (And.right (And.right (And.right (And.right (And.right (And.right (And.right (And.right (And.right (And.right (And.right ‹(_ ∧ (_ ∧ (_ ∧ (_ ∧ (_ ∧ (_ ∧ (_ ∧ (_ ∧ (_ ∧ (_ ∧ (_ ∧ ((_ ≠ _) ∧ _))))))))))))›))))))))))) | exact And.left (And.right (And.right (And.right (And.right (And.right (And.right (And.right (And.right (And.right (And.right (And.right (And.right ‹(_ ∧ (_ ∧ (_ ∧ (_ ∧ (_ ∧ (_ ∧ (_ ∧ (_ ∧ (_ ∧ (_ ∧ (_ ∧ (_ ∧ ((_ ≠ _) ∧ _)))))))))))))›)))))))))))) | exact And.left (And.right (And.right (And.right (And.right (And.right (And.right (And.right (And.right (And.right (And.right (And.right (And.right (And.right ‹(_ ∧ (_ ∧ (_ ∧ (_ ∧ (_ ∧ (_ ∧ (_ ∧ (_ ∧ (_ ∧ (_ ∧ (_ ∧ (_ ∧ (_ ∧ ((_ ≠ _) ∧ _))))))))))))))›))))))))))))) | exact And.left (And.right (And.right (And.right (And.right (And.right (And.right (And.right (And.right (And.right (And.right (And.right (And.right (And.right (And.right ‹(_ ∧ (_ ∧ (_ ∧ (_ ∧ (_ ∧ (_ ∧ (_ ∧ (_ ∧ (_ ∧ (_ ∧ (_ ∧ (_ ∧ (_ ∧ (_ ∧ ((_ ≠ _) ∧ _)))))))))))))))›)))))))))))))) | exact And.left (And.right (And.right (And.right (And.right (And.right (And.right (And.right (And.right (And.right (And.right (And.right (And.right (And.right (And.right (And.right ‹(_ ∧ (_ ∧ (_ ∧ (_ ∧ (_ ∧ (_ ∧ (_ ∧ (_ ∧ (_ ∧ (_ ∧ (_ ∧ (_ ∧ (_ ∧ (_ ∧ (_ ∧ ((_ ≠ _) ∧ _))))))))))))))))›))))))))))))))) | exact And.left (And.right (And.right (And.right (And.right (And.right (And.right (And.right (And.right (And.right (And.right (And.right (And.right (And.right (And.right (And.right (And.right ‹(_ ∧ (_ ∧ (_ ∧ (_ ∧ (_ ∧ (_ ∧ (_ ∧ (_ ∧ (_ ∧ (_ ∧ (_ ∧ (_ ∧ (_ ∧ (_ ∧ (_ ∧ (_ ∧ ((_ ≠ _) ∧ _)))))))))))))))))›)))))))))))))))) | exact And.left (And.right (And.right (And.right (And.right (And.right (And.right (And.right (And.right (And.right (And.right (And.right (And.right (And.right (And.right (And.right (And.right (And.right ‹(_ ∧ (_ ∧ (_ ∧ (_ ∧ (_ ∧ (_ ∧ (_ ∧ (_ ∧ (_ ∧ (_ ∧ (_ ∧ (_ ∧ (_ ∧ (_ ∧ (_ ∧ (_ ∧ (_ ∧ ((_ ≠ _) ∧ _))))))))))))))))))›))))))))))))))))) | exact And.left (And.right (And.right (And.right (And.right (And.right (And.right (And.right (And.right (And.right (And.right (And.right (And.right (And.right (And.right (And.right (And.right (And.right (And.right ‹(_ ∧ (_ ∧ (_ ∧ (_ ∧ (_ ∧ (_ ∧ (_ ∧ (_ ∧ (_ ∧ (_ ∧ (_ ∧ (_ ∧ (_ ∧ (_ ∧ (_ ∧ (_ ∧ (_ ∧ (_ ∧ ((_ ≠ _) ∧ _)))))))))))))))))))›)))))))))))))))))) | exact And.left (And.right (And.right (And.right (And.right (And.right (And.right (And.right (And.right (And.right (And.right (And.right (And.right (And.right (And.right (And.right (And.right (And.right (And.right (And.right ‹(_ ∧ (_ ∧ (_ ∧ (_ ∧ (_ ∧ (_ ∧ (_ ∧ (_ ∧ (_ ∧ (_ ∧ (_ ∧ (_ ∧ (_ ∧ (_ ∧ (_ ∧ (_ ∧ (_ ∧ (_ ∧ (_ ∧ ((_ ≠ _) ∧ _))))))))))))))))))))›))))))))))))))))))) | exact And.left (And.right (And.right (And.right (And.right (And.right (And.right (And.right (And.right (And.right (And.right (And.right (And.right (And.right (And.right (And.right (And.right (And.right (And.right (And.right (And.right ‹(_ ∧ (_ ∧ (_ ∧ (_ ∧ (_ ∧ (_ ∧ (_ ∧ (_ ∧ (_ ∧ (_ ∧ (_ ∧ (_ ∧ (_ ∧ (_ ∧ (_ ∧ (_ ∧ (_ ∧ (_ ∧ (_ ∧ (_ ∧ ((_ ≠ _) ∧ _)))))))))))))))))))))›)))))))))))))))))))) | exact And.left (And.right (And.right (And.right (And.right (And.right (And.right (And.right (And.right (And.right (And.right (And.right (And.right (And.right (And.right (And.right (And.right (And.right (And.right (And.right (And.right (And.right ‹(_ ∧ (_ ∧ (_ ∧ (_ ∧ (_ ∧ (_ ∧ (_ ∧ (_ ∧ (_ ∧ (_ ∧ (_ ∧ (_ ∧ (_ ∧ (_ ∧ (_ ∧ (_ ∧ (_ ∧ (_ ∧ (_ ∧ (_ ∧ (_ ∧ ((_ ≠ _) ∧ _))))))))))))))))))))))›))))))))))))))))))))) | exact And.left (And.right (And.right (And.right (And.right (And.right (And.right (And.right (And.right (And.right (And.right (And.right (And.right (And.right (And.right (And.right (And.right (And.right (And.right (And.right (And.right (And.right (And.right ‹(_ ∧ (_ ∧ (_ ∧ (_ ∧ (_ ∧ (_ ∧ (_ ∧ (_ ∧ (_ ∧ (_ ∧ (_ ∧ (_ ∧ (_ ∧ (_ ∧ (_ ∧ (_ ∧ (_ ∧ (_ ∧ (_ ∧ (_ ∧ (_ ∧ (_ ∧ ((_ ≠ _) ∧ _)))))))))))))))))))))))›)))))))))))))))))))))) | exact And.left (And.right (And.right (And.right (And.right (And.right (And.right (And.right (And.right (And.right (And.right (And.right (And.right (And.right (And.right (And.right (And.right (And.right (And.right (And.right (And.right (And.right (And.right (And.right ‹(_ ∧ (_ ∧ (_ ∧ (_ ∧ (_ ∧ (_ ∧ (_ ∧ (_ ∧ (_ ∧ (_ ∧ (_ ∧ (_ ∧ (_ ∧ (_ ∧ (_ ∧ (_ ∧ (_ ∧ (_ ∧ (_ ∧ (_ ∧ (_ ∧ (_ ∧ (_ ∧ ((_ ≠ _) ∧ _))))))))))))))))))))))))›))))))))))))))))))))))) | exact And.left (And.right (And.right (And.right (And.right (And.right (And.right (And.right (And.right (And.right (And.right (And.right (And.right (And.right (And.right (And.right (And.right (And.right (And.right (And.right (And.right (And.right (And.right (And.right (And.right ‹(_ ∧ (_ ∧ (_ ∧ (_ ∧ (_ ∧ (_ ∧ (_ ∧ (_ ∧ (_ ∧ (_ ∧ (_ ∧ (_ ∧ (_ ∧ (_ ∧ (_ ∧ (_ ∧ (_ ∧ (_ ∧ (_ ∧ (_ ∧ (_ ∧ (_ ∧ (_ ∧ (_ ∧ ((_ ≠ _) ∧ _)))))))))))))))))))))))))›)))))))))))))))))))))))) | exact And.left (And.right (And.right (And.right (And.right (And.right (And.right (And.right (And.right (And.right (And.right (And.right (And.right (And.right (And.right (And.right (And.right (And.right (And.right (And.right (And.right (And.right (And.right (And.right (And.right (And.right ‹(_ ∧ (_ ∧ (_ ∧ (_ ∧ (_ ∧ (_ ∧ (_ ∧ (_ ∧ (_ ∧ (_ ∧ (_ ∧ (_ ∧ (_ ∧ (_ ∧ (_ ∧ (_ ∧ (_ ∧ (_ ∧ (_ ∧ (_ ∧ (_ ∧ (_ ∧ (_ ∧ (_ ∧ (_ ∧ ((_ ≠ _) ∧ _))))))))))))))))))))))))))›))))))))))))))))))))))))) | exact And.left (And.right (And.right (And.right (And.right (And.right (And.right (And.right (And.right (And.right (And.right (And.right (And.right (And.right (And.right (And.right (And.right (And.right (And.right (And.right (And.right (And.right (And.right (And.right (And.right (And.right (And.right ‹(_ ∧ (_ ∧ (_ ∧ (_ ∧ (_ ∧ (_ ∧ (_ ∧ (_ ∧ (_ ∧ (_ ∧ (_ ∧ (_ ∧ (_ ∧ (_ ∧ (_ ∧ (_ ∧ (_ ∧ (_ ∧ (_ ∧ (_ ∧ (_ ∧ (_ ∧ (_ ∧ (_ ∧ (_ ∧ (_ ∧ ((_ ≠ _) ∧ _)))))))))))))))))))))))))))›)))))))))))))))))))))))))) | exact And.left (And.right (And.right (And.right (And.right (And.right (And.right (And.right (And.right (And.right (And.right (And.right (And.right (And.right (And.right (And.right (And.right (And.right (And.right (And.right (And.right (And.right (And.right (And.right (And.right (And.right (And.right (And.right ‹(_ ∧ (_ ∧ (_ ∧ (_ ∧ (_ ∧ (_ ∧ (_ ∧ (_ ∧ (_ ∧ (_ ∧ (_ ∧ (_ ∧ (_ ∧ (_ ∧ (_ ∧ (_ ∧ (_ ∧ (_ ∧ (_ ∧ (_ ∧ (_ ∧ (_ ∧ (_ ∧ (_ ∧ (_ ∧ (_ ∧ (_ ∧ ((_ ≠ _) ∧ _))))))))))))))))))))))))))))›))))))))))))))))))))))))))) | exact And.left (And.right (And.right (And.right (And.right (And.right (And.right (And.right (And.right (And.right (And.right (And.right (And.right (And.right (And.right (And.right (And.right (And.right (And.right (And.right (And.right (And.right (And.right (And.right (And.right (And.right (And.right (And.right (And.right ‹(_ ∧ (_ ∧ (_ ∧ (_ ∧ (_ ∧ (_ ∧ (_ ∧ (_ ∧ (_ ∧ (_ ∧ (_ ∧ (_ ∧ (_ ∧ (_ ∧ (_ ∧ (_ ∧ (_ ∧ (_ ∧ (_ ∧ (_ ∧ (_ ∧ (_ ∧ (_ ∧ (_ ∧ (_ ∧ (_ ∧ (_ ∧ (_ ∧ ((_ ≠ _) ∧ _)))))))))))))))))))))))))))))›)))))))))))))))))))))))))))) | exact And.left (And.right (And.right (And.right (And.right (And.right (And.right (And.right (And.right (And.right (And.right (And.right (And.right (And.right (And.right (And.right (And.right (And.right (And.right (And.right (And.right (And.right (And.right (And.right (And.right (And.right (And.right (And.right (And.right (And.right ‹(_ ∧ (_ ∧ (_ ∧ (_ ∧ (_ ∧ (_ ∧ (_ ∧ (_ ∧ (_ ∧ (_ ∧ (_ ∧ (_ ∧ (_ ∧ (_ ∧ (_ ∧ (_ ∧ (_ ∧ (_ ∧ (_ ∧ (_ ∧ (_ ∧ (_ ∧ (_ ∧ (_ ∧ (_ ∧ (_ ∧ (_ ∧ (_ ∧ (_ ∧ ((_ ≠ _) ∧ _))))))))))))))))))))))))))))))›))))))))))))))))))))))))))))) | exact And.left (And.right (And.right (And.right (And.right (And.right (And.right (And.right (And.right (And.right (And.right (And.right (And.right (And.right (And.right (And.right (And.right (And.right (And.right (And.right (And.right (And.right (And.right (And.right (And.right (And.right (And.right (And.right (And.right (And.right (And.right ‹(_ ∧ (_ ∧ (_ ∧ (_ ∧ (_ ∧ (_ ∧ (_ ∧ (_ ∧ (_ ∧ (_ ∧ (_ ∧ (_ ∧ (_ ∧ (_ ∧ (_ ∧ (_ ∧ (_ ∧ (_ ∧ (_ ∧ (_ ∧ (_ ∧ (_ ∧ (_ ∧ (_ ∧ (_ ∧ (_ ∧ (_ ∧ (_ ∧ (_ ∧ (_ ∧ ((_ ≠ _) ∧ _)))))))))))))))))))))))))))))))›)))))))))))))))))))))))))))))) | exact And.left (And.right (And.right (And.right (And.right (And.right (And.right (And.right (And.right (And.right (And.right (And.right (And.right (And.right (And.right (And.right (And.right (And.right (And.right (And.right (And.right (And.right (And.right (And.right (And.right (And.right (And.right (And.right (And.right (And.right (And.right (And.right ‹(_ ∧ (_ ∧ (_ ∧ (_ ∧ (_ ∧ (_ ∧ (_ ∧ (_ ∧ (_ ∧ (_ ∧ (_ ∧ (_ ∧ (_ ∧ (_ ∧ (_ ∧ (_ ∧ (_ ∧ (_ ∧ (_ ∧ (_ ∧ (_ ∧ (_ ∧ (_ ∧ (_ ∧ (_ ∧ (_ ∧ (_ ∧ (_ ∧ (_ ∧ (_ ∧ (_ ∧ ((_ ≠ _) ∧ _))))))))))))))))))))))))))))))))›))))))))))))))))))))))))))))))) | exact And.left (And.right (And.right (And.right (And.right (And.right (And.right (And.right (And.right (And.right (And.right (And.right (And.right (And.right (And.right (And.right (And.right (And.right (And.right (And.right (And.right (And.right (And.right (And.right (And.right (And.right (And.right (And.right (And.right (And.right (And.right (And.right (And.right ‹(_ ∧ (_ ∧ (_ ∧ (_ ∧ (_ ∧ (_ ∧ (_ ∧ (_ ∧ (_ ∧ (_ ∧ (_ ∧ (_ ∧ (_ ∧ (_ ∧ (_ ∧ (_ ∧ (_ ∧ (_ ∧ (_ ∧ (_ ∧ (_ ∧ (_ ∧ (_ ∧ (_ ∧ (_ ∧ (_ ∧ (_ ∧ (_ ∧ (_ ∧ (_ ∧ (_ ∧ (_ ∧ ((_ ≠ _) ∧ _)))))))))))))))))))))))))))))))))›)))))))))))))))))))))))))))))))) | exact And.left (And.right (And.right (And.right (And.right (And.right (And.right (And.right (And.right (And.right (And.right (And.right (And.right (And.right (And.right (And.right (And.right (And.right (And.right (And.right (And.right (And.right (And.right (And.right (And.right (And.right (And.right (And.right (And.right (And.right (And.right (And.right (And.right (And.right ‹(_ ∧ (_ ∧ (_ ∧ (_ ∧ (_ ∧ (_ ∧ (_ ∧ (_ ∧ (_ ∧ (_ ∧ (_ ∧ (_ ∧ (_ ∧ (_ ∧ (_ ∧ (_ ∧ (_ ∧ (_ ∧ (_ ∧ (_ ∧ (_ ∧ (_ ∧ (_ ∧ (_ ∧ (_ ∧ (_ ∧ (_ ∧ (_ ∧ (_ ∧ (_ ∧ (_ ∧ (_ ∧ (_ ∧ ((_ ≠ _) ∧ _))))))))))))))))))))))))))))))))))›))))))))))))))))))))))))))))))))) | exact And.left (And.right (And.right (And.right (And.right (And.right (And.right (And.right (And.right (And.right (And.right (And.right (And.right (And.right (And.right (And.right (And.right (And.right (And.right (And.right (And.right (And.right (And.right (And.right (And.right (And.right (And.right (And.right (And.right (And.right (And.right (And.right (And.right (And.right (And.right ‹(_ ∧ (_ ∧ (_ ∧ (_ ∧ (_ ∧ (_ ∧ (_ ∧ (_ ∧ (_ ∧ (_ ∧ (_ ∧ (_ ∧ (_ ∧ (_ ∧ (_ ∧ (_ ∧ (_ ∧ (_ ∧ (_ ∧ (_ ∧ (_ ∧ (_ ∧ (_ ∧ (_ ∧ (_ ∧ (_ ∧ (_ ∧ (_ ∧ (_ ∧ (_ ∧ (_ ∧ (_ ∧ (_ ∧ (_ ∧ ((_ ≠ _) ∧ _)))))))))))))))))))))))))))))))))))›)))))))))))))))))))))))))))))))))) | exact And.left (And.right (And.right (And.right (And.right (And.right (And.right (And.right (And.right (And.right (And.right (And.right (And.right (And.right (And.right (And.right (And.right (And.right (And.right (And.right (And.right (And.right (And.right (And.right (And.right (And.right (And.right (And.right (And.right (And.right (And.right (And.right (And.right (And.right (And.right (And.right ‹(_ ∧ (_ ∧ (_ ∧ (_ ∧ (_ ∧ (_ ∧ (_ ∧ (_ ∧ (_ ∧ (_ ∧ (_ ∧ (_ ∧ (_ ∧ (_ ∧ (_ ∧ (_ ∧ (_ ∧ (_ ∧ (_ ∧ (_ ∧ (_ ∧ (_ ∧ (_ ∧ (_ ∧ (_ ∧ (_ ∧ (_ ∧ (_ ∧ (_ ∧ (_ ∧ (_ ∧ (_ ∧ (_ ∧ (_ ∧ (_ ∧ ((_ ≠ _) ∧ _))))))))))))))))))))))))))))))))))))›))))))))))))))))))))))))))))))))))) | exact And.left (And.right (And.right (And.right (And.right (And.right (And.right (And.right (And.right (And.right (And.right (And.right (And.right (And.right (And.right (And.right (And.right (And.right (And.right (And.right (And.right (And.right (And.right (And.right (And.right (And.right (And.right (And.right (And.right (And.right (And.right (And.right (And.right (And.right (And.right (And.right (And.right ‹(_ ∧ (_ ∧ (_ ∧ (_ ∧ (_ ∧ (_ ∧ (_ ∧ (_ ∧ (_ ∧ (_ ∧ (_ ∧ (_ ∧ (_ ∧ (_ ∧ (_ ∧ (_ ∧ (_ ∧ (_ ∧ (_ ∧ (_ ∧ (_ ∧ (_ ∧ (_ ∧ (_ ∧ (_ ∧ (_ ∧ (_ ∧ (_ ∧ (_ ∧ (_ ∧ (_ ∧ (_ ∧ (_ ∧ (_ ∧ (_ ∧ (_ ∧ ((_ ≠ _) ∧ _)))))))))))))))))))))))))))))))))))))›)))))))))))))))))))))))))))))))))))) | exact And.left (And.right (And.right (And.right (And.right (And.right (And.right (And.right (And.right (And.right (And.right (And.right (And.right (And.right (And.right (And.right (And.right (And.right (And.right (And.right (And.right (And.right (And.right (And.right (And.right (And.right (And.right (And.right (And.right (And.right (And.right (And.right (And.right (And.right (And.right (And.right (And.right (And.right ‹(_ ∧ (_ ∧ (_ ∧ (_ ∧ (_ ∧ (_ ∧ (_ ∧ (_ ∧ (_ ∧ (_ ∧ (_ ∧ (_ ∧ (_ ∧ (_ ∧ (_ ∧ (_ ∧ (_ ∧ (_ ∧ (_ ∧ (_ ∧ (_ ∧ (_ ∧ (_ ∧ (_ ∧ (_ ∧ (_ ∧ (_ ∧ (_ ∧ (_ ∧ (_ ∧ (_ ∧ (_ ∧ (_ ∧ (_ ∧ (_ ∧ (_ ∧ (_ ∧ ((_ ≠ _) ∧ _))))))))))))))))))))))))))))))))))))))›))))))))))))))))))))))))))))))))))))) | exact And.left (And.right (And.right (And.right (And.right (And.right (And.right (And.right (And.right (And.right (And.right (And.right (And.right (And.right (And.right (And.right (And.right (And.right (And.right (And.right (And.right (And.right (And.right (And.right (And.right (And.right (And.right (And.right (And.right (And.right (And.right (And.right (And.right (And.right (And.right (And.right (And.right (And.right (And.right ‹(_ ∧ (_ ∧ (_ ∧ (_ ∧ (_ ∧ (_ ∧ (_ ∧ (_ ∧ (_ ∧ (_ ∧ (_ ∧ (_ ∧ (_ ∧ (_ ∧ (_ ∧ (_ ∧ (_ ∧ (_ ∧ (_ ∧ (_ ∧ (_ ∧ (_ ∧ (_ ∧ (_ ∧ (_ ∧ (_ ∧ (_ ∧ (_ ∧ (_ ∧ (_ ∧ (_ ∧ (_ ∧ (_ ∧ (_ ∧ (_ ∧ (_ ∧ (_ ∧ (_ ∧ ((_ ≠ _) ∧ _)))))))))))))))))))))))))))))))))))))))›)))))))))))))))))))))))))))))))))))))) | exact And.left (And.right (And.right (And.right (And.right (And.right (And.right (And.right (And.right (And.right (And.right (And.right (And.right (And.right (And.right (And.right (And.right (And.right (And.right (And.right (And.right (And.right (And.right (And.right (And.right (And.right (And.right (And.right (And.right (And.right (And.right (And.right (And.right (And.right (And.right (And.right (And.right (And.right (And.right (And.right ‹(_ ∧ (_ ∧ (_ ∧ (_ ∧ (_ ∧ (_ ∧ (_ ∧ (_ ∧ (_ ∧ (_ ∧ (_ ∧ (_ ∧ (_ ∧ (_ ∧ (_ ∧ (_ ∧ (_ ∧ (_ ∧ (_ ∧ (_ ∧ (_ ∧ (_ ∧ (_ ∧ (_ ∧ (_ ∧ (_ ∧ (_ ∧ (_ ∧ (_ ∧ (_ ∧ (_ ∧ (_ ∧ (_ ∧ (_ ∧ (_ ∧ (_ ∧ (_ ∧ (_ ∧ (_ ∧ ((_ ≠ _) ∧ _))))))))))))))))))))))))))))))))))))))))›))))))))))))))))))))))))))))))))))))))) | exact And.left (And.right (And.right (And.right (And.right (And.right (And.right (And.right (And.right (And.right (And.right (And.right (And.right (And.right (And.right (And.right (And.right (And.right (And.right (And.right (And.right (And.right (And.right (And.right (And.right (And.right (And.right (And.right (And.right (And.right (And.right (And.right (And.right (And.right (And.right (And.right (And.right (And.right (And.right (And.right (And.right ‹(_ ∧ (_ ∧ (_ ∧ (_ ∧ (_ ∧ (_ ∧ (_ ∧ (_ ∧ (_ ∧ (_ ∧ (_ ∧ (_ ∧ (_ ∧ (_ ∧ (_ ∧ (_ ∧ (_ ∧ (_ ∧ (_ ∧ (_ ∧ (_ ∧ (_ ∧ (_ ∧ (_ ∧ (_ ∧ (_ ∧ (_ ∧ (_ ∧ (_ ∧ (_ ∧ (_ ∧ (_ ∧ (_ ∧ (_ ∧ (_ ∧ (_ ∧ (_ ∧ (_ ∧ (_ ∧ (_ ∧ ((_ ≠ _) ∧ _)))))))))))))))))))))))))))))))))))))))))›)))))))))))))))))))))))))))))))))))))))) | exact And.left (And.right (And.right (And.right (And.right (And.right (And.right (And.right (And.right (And.right (And.right (And.right (And.right (And.right (And.right (And.right (And.right (And.right (And.right (And.right (And.right (And.right (And.right (And.right (And.right (And.right (And.right (And.right (And.right (And.right (And.right (And.right (And.right (And.right (And.right (And.right (And.right (And.right (And.right (And.right (And.right (And.right ‹(_ ∧ (_ ∧ (_ ∧ (_ ∧ (_ ∧ (_ ∧ (_ ∧ (_ ∧ (_ ∧ (_ ∧ (_ ∧ (_ ∧ (_ ∧ (_ ∧ (_ ∧ (_ ∧ (_ ∧ (_ ∧ (_ ∧ (_ ∧ (_ ∧ (_ ∧ (_ ∧ (_ ∧ (_ ∧ (_ ∧ (_ ∧ (_ ∧ (_ ∧ (_ ∧ (_ ∧ (_ ∧ (_ ∧ (_ ∧ (_ ∧ (_ ∧ (_ ∧ (_ ∧ (_ ∧ (_ ∧ (_ ∧ ((_ ≠ _) ∧ _))))))))))))))))))))))))))))))))))))))))))›))))))))))))))))))))))))))))))))))))))))) | exact And.left (And.right (And.right (And.right (And.right (And.right (And.right (And.right (And.right (And.right (And.right (And.right (And.right (And.right (And.right (And.right (And.right (And.right (And.right (And.right (And.right (And.right (And.right (And.right (And.right (And.right (And.right (And.right (And.right (And.right (And.right (And.right (And.right (And.right (And.right (And.right (And.right (And.right (And.right (And.right (And.right (And.right (And.right ‹(_ ∧ (_ ∧ (_ ∧ (_ ∧ (_ ∧ (_ ∧ (_ ∧ (_ ∧ (_ ∧ (_ ∧ (_ ∧ (_ ∧ (_ ∧ (_ ∧ (_ ∧ (_ ∧ (_ ∧ (_ ∧ (_ ∧ (_ ∧ (_ ∧ (_ ∧ (_ ∧ (_ ∧ (_ ∧ (_ ∧ (_ ∧ (_ ∧ (_ ∧ (_ ∧ (_ ∧ (_ ∧ (_ ∧ (_ ∧ (_ ∧ (_ ∧ (_ ∧ (_ ∧ (_ ∧ (_ ∧ (_ ∧ (_ ∧ ((_ ≠ _) ∧ _)))))))))))))))))))))))))))))))))))))))))))›)))))))))))))))))))))))))))))))))))))))))) | exact And.left (And.right (And.right (And.right (And.right (And.right (And.right (And.right (And.right (And.right (And.right (And.right (And.right (And.right (And.right (And.right (And.right (And.right (And.right (And.right (And.right (And.right (And.right (And.right (And.right (And.right (And.right (And.right (And.right (And.right (And.right (And.right (And.right (And.right (And.right (And.right (And.right (And.right (And.right (And.right (And.right (And.right (And.right (And.right ‹(_ ∧ (_ ∧ (_ ∧ (_ ∧ (_ ∧ (_ ∧ (_ ∧ (_ ∧ (_ ∧ (_ ∧ (_ ∧ (_ ∧ (_ ∧ (_ ∧ (_ ∧ (_ ∧ (_ ∧ (_ ∧ (_ ∧ (_ ∧ (_ ∧ (_ ∧ (_ ∧ (_ ∧ (_ ∧ (_ ∧ (_ ∧ (_ ∧ (_ ∧ (_ ∧ (_ ∧ (_ ∧ (_ ∧ (_ ∧ (_ ∧ (_ ∧ (_ ∧ (_ ∧ (_ ∧ (_ ∧ (_ ∧ (_ ∧ (_ ∧ ((_ ≠ _) ∧ _))))))))))))))))))))))))))))))))))))))))))))›))))))))))))))))))))))))))))))))))))))))))))))
  k_with "execs cons" => ((k_here; (try k_gentoks); (try k_made); (with_reducible refine wpAny_execs_cons ?_); (try dsimp only); first | (with_reducible show wpAny _ _ (exec (Stmt.Assign _ (Expr.BinOp (Expr.ListComp _ _ _ _) _ _ _) _) _) _ _ _) | (with_reducible show wpAny _ _ (exec (Stmt.Assign _ (Expr.ListComp _ _ _ _) _) _) _ _ _) | k_fold))
  k_with "m_letA" => ((show (let v9 : Env := _; let A9 : Around := Around.deeper _ v9; wpAny _ A9 (execs _ v9) _ _ _); intro v9 A9))
  k_with "k_ne" => (first | (with_reducible assumption) | (with_reducible exact Ne.symm (by assumption)) | (refine neN ?_; (try dsimp only); first | (k_extra "m_conj2") | (refine Ne.symm ?_; (k_extra "m_conj2")) | (k_extra "m_conj") | (refine Ne.symm ?_; (k_extra "m_conj")) | ((repeat (rename (_ ≠ _) ∧ _ => q9; clear q9)); (repeat (rename ((_ ≠ _) ∧ _) ∧ _ => q9; clear q9)); (repeat (rename @Ne Nat _ _ => q9; clear q9)); lia) | lia))
  k_with "storeName" => ((k_here; k_dflt (first | (refine store_i (S := _) (by k_asm) (by k_asm) (fun _ _ => by first | (dsimp only; done) | (dsimp only; rfl) | rfl) ?_ (by rfl) (by rfl); k_whole; intro hS9 uS9 kS9 FS9 NS9; (try k_sweep)) | (refine store_v (S := _) (by k_asm) (by k_asm) (fun _ _ => by first | (dsimp only; done) | (dsimp only; rfl) | rfl) ?_ (by rfl) (by rfl); k_whole; intro hS9 kS9 FS9 NS9; (try k_sweep)))))
  w_top off
  k_fill
  intro dp un gd cn cs' a ccd cl outer A₀ base h₀ L m rest s Q E B F X N hdis T hk hd hu hret
  refine wpAny_call ?_
  have N0 := news_left N
  k_dflt refine' code_defR (binds := [(Str.ofString "a", .int oa t1), (Str.ofString "b", .int ob t2)]) ?k1 ?k2 ?k3 ?k4 ?k5 ?kA ?kF ?kK ?k6 ?k7 ?k8 ?k9 ?kB ?_ ?c2 ?c3 ?c4 ?c5
  k_dflt k_extra "m_enter"
  intro g' L' h' FG F' N' B' X' T' kept small
  (try dsimp only)
  (try k_extra "m_letA")
  (try k_fold)
  have hr := rest_kept N hdis kept
  k_steps
  unfold Hold
  (try k_gentoks)
  rename Fr _ _ _ _ => fr1
  rename News _ _ _ _ => ne1
  with_unfolding_all refine ksw_while (σ := (Int × Tok) × (Int × Tok) × (Int × Tok) × (Int × Tok) × (Int × Tok) × (Int × Tok)) (fun _ => []) (fun c => [(Str.ofString "a", .int c.1.1 c.1.2), (Str.ofString "b", .int c.2.1.1 c.2.1.2), (Str.ofString "x", .int c.2.2.1.1 c.2.2.1.2), (Str.ofString "lx", .int c.2.2.2.1.1 c.2.2.2.1.2), (Str.ofString "y", .int c.2.2.2.2.1.1 c.2.2.2.2.1.2), (Str.ofString "ly", .int c.2.2.2.2.2.1 c.2.2.2.2.2.2)]) (fun _ => True) [Str.ofString "q", Str.ofString "a", Str.ofString "b", Str.ofString "x", Str.ofString "lx", Str.ofString "y", Str.ofString "ly"] (fun c => EInv oa ob c.1.1 c.2.1.1 c.2.2.1.1 c.2.2.2.1.1 c.2.2.2.2.1.1 c.2.2.2.2.2.1) (fun c => c.2.1.1.toNat) ((oa, t1), (ob, t2), (0, _), (1, _), (1, _), (0, _)) fr1 ne1 trivial (List.forall_mem_cons.mpr ⟨rfl, List.forall_mem_cons.mpr ⟨rfl, List.forall_mem_cons.mpr ⟨rfl, List.forall_mem_cons.mpr ⟨rfl, List.forall_mem_cons.mpr ⟨rfl, List.forall_mem_cons.mpr ⟨rfl, List.forall_mem_nil _⟩⟩⟩⟩⟩⟩) (EInv.start hob) ?_ ?_
  · clear fr1 ne1
    rintro ⟨⟨a, ta⟩, ⟨b, tb⟩, ⟨x, tx⟩, ⟨lx, tlx⟩, ⟨y, ty⟩, ⟨ly, tly⟩⟩ u h tk - hp fr1 ne1
    dsimp only at hp fr1 ne1 ⊢
    replace fr1 : Fr g' L' h _ := fr1
    replace ne1 : News g' L' h _ := ne1
    k_sweep
    let m1 := frOf fr1
    replace fr1 : Fr g' L' h m1 := fr1
    (try k_fold)
    have hlg := hp.lg h2 hB1
    k_steps
    · rename b ≠ 0 => hb0
      have hm1 := hp.mul1 h1 h2 (by lia) hb0
      have hm2 := hp.mul2 h1 h2 (by lia) hb0
      dsimp only
      k_steps
      rename Fr g' _ _ _ => fr2
      rename News g' _ _ _ => ne2
      with_unfolding_all refine' ksw_end ((_, _), (_, _), (_, _), (_, _), (_, _), (_, _)) fr2 ne2 (List.forall_mem_nil _) trivial (List.forall_mem_cons.mpr ⟨rfl, List.forall_mem_cons.mpr ⟨rfl, List.forall_mem_cons.mpr ⟨rfl, List.forall_mem_cons.mpr ⟨rfl, List.forall_mem_cons.mpr ⟨rfl, List.forall_mem_cons.mpr ⟨rfl, List.forall_mem_nil _⟩⟩⟩⟩⟩⟩) ?_ ?_ ?_
      · intro z h2 h3
        simp only [List.forall_mem_cons, List.not_mem_nil, false_implies, implies_true, and_true, ne_eq] at h2
        simp only [List.contains_cons, List.contains_nil, Bool.or_false, Bool.or_eq_false_iff, beq_eq_false_iff_ne, ne_eq] at h3
        simp +zetaDelta [kstB, frOf, h2, h3]
      · exact hp.step hb0
      · have := hp.hb
        have := fmod_nn (a := a) (b := b) (by lia)
        show (a.fmod b).toNat < b.toNat
        lia
    all_goals (rename b = 0 => hb0; subst hb0; (rename Fr g' _ _ _ => fr8); (rename News g' _ _ _ => ne8); refine m_ret hret fr8 ne8 (by assumption) (by assumption) hr N (fun p hp => hp) ⟨_, _, _, _, lx, ly, x, y, _, _, _, hp, ?_, ?_⟩)
    · exact (if_pos (by assumption)).symm
    · exact (if_pos (by assumption)).symm
    · exact (if_pos (by assumption)).symm
    · exact (if_neg (by assumption)).symm
    · exact (if_neg (by assumption)).symm
    · exact (if_pos (by assumption)).symm
    · exact (if_neg (by assumption)).symm
    · exact (if_neg (by assumption)).symm
  · with_unfolding_all passes_own
theorem EInv.inv {oa ob a x lx y ly fx : Int} (h : EInv oa ob a 0 x lx y ly) (hb : 0 < ob) (h1 : a = 1) (hx : fx = if lx < 0 then lx + ob else lx) : 0 ≤ fx ∧ fx ≤ ob ∧ (fx < ob ∨ ob = 1) ∧ ob ∣ fx * oa - 1 := by
  k_with "call ref" => ((k_here; (with_reducible show wpAny _ _ (call (Value.ref 63) _) _ _ _); refine hold ?_))
  k_with "call ref" => ((k_here; (with_reducible show wpAny _ _ (call (Value.ref 63) _) _ _ _); k_dflt ((refine Ctr.use (c_egcd (B1 := 2490) _ _ _ _ ?_ ?_ ?_ ?_) (by k_asm) (by k_asm) (by k_asm) (by k_asm) (by k_asm) (by first | exact rfl | assumption) (by k_extra "m_pre") (by walk_at "m_rest") (by first | exact roomk (by assumption) (by decide) | exact roomk2 (by assumption) (by decide) | ktr_room) (by first | exact roomk (by assumption) (by decide) | exact roomk2 (by assumption) (by decide) | ktr_units) ?_); (walk_at "m_bd"); (walk_at "m_bd"); (decide); (walk_at "m_fact")); rintro v9 l9 h9 tk9 ⟨q9, a9, fx9, fy9, lx9, ly9, x9, y9, u91, u92, u93, he9, hx9, hy9⟩ hlo9 F9 N9; (try (refine EInv.facts_k he9 ?fa ?fb ?fc ?fd hx9 hy9 ?_; (case fa => walk_at "m_fact"); (case fb => walk_at "m_fact"); (case fc => walk_at "m_bd"); (case fd => walk_at "m_bd"); intro hg9 hf1 hf2 hf3 hf4 hf5 hf6 hf7 hf8)); replace hlo9 := sepL_of hlo9; (try dsimp only [sepL, sepR, StL, KeyL, PubL] at hlo9); (try dsimp only [List.cons_append, List.nil_append] at N9); k_sweep; (try k_fold)))
  obtain ⟨hb0, bz1, bz2, hg, st⟩ := h
  have hd : ob ∣ fx * oa - 1 := by
    subst hx
    split
    · exact ⟨oa - ly, by grind⟩
    · exact ⟨-ly, by grind⟩
  rcases st with ⟨k1, k2, _⟩ | R
  · lia
  · have l1 := R.lx1
    have l2 := R.lx2
    have hne : ob = 1 ∨ (lx ≠ ob ∧ lx ≠ -ob) := by
      by_cases q : ob = 1
      · exact .inl q
      · right
        constructor <;> intro e
        · rw [e] at bz1
          have : ob ∣ 1 := ⟨oa + ly, by grind⟩
          have := Int.le_of_dvd (by decide) this
          lia
        · rw [e] at bz1
          have : ob ∣ 1 := ⟨ly - oa, by grind⟩
          have := Int.le_of_dvd (by decide) this
          lia
    subst hx
    refine ⟨?_, ?_, ?_, hd⟩
    · split <;> lia
    · split <;> lia
    · split <;> lia
inductive PInv (x n : Int) : Value → List (Addr × Obj) → Prop
  | mk (r : Int) (tr : Tok) (h0 : 0 ≤ r) (h1 : r ≤ n) (h2 : r < n ∨ n = 1) (h3 : n ∣ r * x - 1) (h4 : Bd 1240 r) : PInv x n (.int r tr) []
theorem c_inverse (w : World) (mean : ExcName → Option Value) (mg mb : Str → Option Value) {x n : Int} {t1 t2 : Tok} (h1 : Bd 1240 x) (h2 : Bd 1240 n) (hx : 0 ≤ x) (hn : 0 < n) (hg : Int.gcd x n = 1) :
    Ctr PySem.Challenge.rw_ys0001_11.row.prog w (Mine.K w.params) Mine.V (looseW Mine.V [Str.ofString "NotRelativePrimeError", Str.ofString "int2bytes", Str.ofString "HASH_ASN1"]) mean mg mb 70 8 60 [.int x t1, .int n t2] []
      (PInv x n) := by
  w_top off
  k_fill
  intro dp un gd cn cs' a ccd cl outer A₀ base h₀ L m rest s Q E B F X N hdis T hk hd hu hret
  refine wpAny_call ?_
  have N0 := news_left N
  k_dflt refine' code_defR (binds := [(Str.ofString "x", .int x t1), (Str.ofString "n", .int n t2)]) ?k1 ?k2 ?k3 ?k4 ?k5 ?kA ?kF ?kK ?k6 ?k7 ?k8 ?k9 ?kB ?_ ?c2 ?c3 ?c4 ?c5
  k_dflt k_extra "m_enter"
  intro g' L' h' FG F' N' B' X' T' kept small
  (try dsimp only)
  (try k_extra "m_letA")
  (try k_fold)
  have hr := rest_kept N hdis kept
  k_steps
  · exfalso
    rename EInv _ _ _ _ _ _ _ _ => he
    have := he.gcdIs (.inl hx)
    rw [hg] at this
    lia
  · rename EInv _ _ _ _ _ _ _ _ => he
    have hi := he.inv hn (by have := he.gcdIs (.inl hx); rw [hg] at this; exact this) (by assumption)
    (rename Fr g' _ _ _ => fr8); (rename News g' _ _ _ => ne8)
    exact m_ret hret fr8 ne8 (by assumption) (by assumption) hr N (List.forall_mem_nil _) ⟨_, _, hi.1, hi.2.1, hi.2.2.1, hi.2.2.2, Bd.of_lt hi.1 hi.2.1 h2⟩
theorem c_encrypt (w : World) (mean : ExcName → Option Value) (mg mb : Str → Option Value) {x e n : Int} {t1 t2 t3 : Tok} (hx : 0 ≤ x) (hxn : x ≤ n) (he : 0 ≤ e) (hn : 0 < n) :
    Ctr PySem.Challenge.rw_ys0001_11.row.prog w (Mine.K w.params) Mine.V (looseW Mine.V [Str.ofString "NotRelativePrimeError", Str.ofString "int2bytes", Str.ofString "HASH_ASN1"]) mean mg mb 84 8 60 [.int x t1, .int e t2, .int n t3] []
      (PInt (PM x e n) []) := by
  k_with "call ref" => ((k_here; (with_reducible show wpAny _ _ (call (Value.ref 70) _) _ _ _); refine hold ?_))
  k_with "call ref" => ((k_here; (with_reducible show wpAny _ _ (call (Value.ref 70) _) _ _ _); k_dflt ((refine Ctr.use (c_inverse _ _ _ _ ?_ ?_ ?_ ?_ ?_) (by k_asm) (by k_asm) (by k_asm) (by k_asm) (by k_asm) (by first | exact rfl | assumption) (by k_extra "m_pre") (by walk_at "m_rest") (by first | exact roomk (by assumption) (by decide) | exact roomk2 (by assumption) (by decide) | ktr_room) (by first | exact roomk (by assumption) (by decide) | exact roomk2 (by assumption) (by decide) | ktr_units) ?_); (walk_at "m_bd"); (walk_at "m_bd"); (walk_at "m_fact"); (walk_at "m_fact"); (first | assumption | rfl)); rintro v9 l9 h9 tk9 ⟨r9, tr9, hi1, hi0, hi2, hi3, hi4⟩ hlo9 F9 N9; clear hlo9; (try dsimp only [List.nil_append] at N9); k_sweep; (try k_fold)))
  k_with "call ref" => ((k_here; (with_reducible show wpAny _ _ (call (Value.ref 77) _) _ _ _); refine hold ?_))
  k_with "call builtin:pow" => ((refine pow3 ?_ ?_ ?_; (walk_at "m_fact"); (walk_at "m_fact")))
  k_with "call ref" => ((k_here; (with_reducible show wpAny _ _ (call (Value.ref 77) _) _ _ _); k_dflt (walk_at "m_inline")))
  k_with "m_bd" => (first | (refine PM_bd ?_ ?_; (first | assumption | lia); (walk_at "m_bd")) | (refine fmod_bd ?_ ?_; (first | assumption | lia); (walk_at "m_bd")))
  w_top off
  k_fill
  intro dp un gd cn cs' a ccd cl outer A₀ base h₀ L m rest s Q E B F X N hdis T hk hd hu hret
  refine wpAny_call ?_
  have N0 := news_left N
  k_dflt refine' code_defR (binds := [(Str.ofString "message", .int x t1), (Str.ofString "ekey", .int e t2), (Str.ofString "n", .int n t3)]) ?k1 ?k2 ?k3 ?k4 ?k5 ?kA ?kF ?kK ?k6 ?k7 ?k8 ?k9 ?kB ?_ ?c2 ?c3 ?c4 ?c5
  k_dflt k_extra "m_enter"
  intro g' L' h' FG F' N' B' X' T' kept small
  (try dsimp only)
  (try k_extra "m_letA")
  (try k_fold)
  have hr := rest_kept N hdis kept
  k_steps
  (rename Fr g' _ _ _ => fr8); (rename News g' _ _ _ => ne8); exact m_ret hret fr8 ne8 (by assumption) (by assumption) hr N (by k_extra "m_pre") ⟨_⟩
theorem c_decrypt (w : World) (mean : ExcName → Option Value) (mg mb : Str → Option Value) {x e n : Int} {t1 t2 t3 : Tok} (he : 0 ≤ e) (hn : 0 < n) :
    Ctr PySem.Challenge.rw_ys0001_11.row.prog w (Mine.K w.params) Mine.V (looseW Mine.V [Str.ofString "NotRelativePrimeError", Str.ofString "int2bytes", Str.ofString "HASH_ASN1"]) mean mg mb 91 8 60 [.int x t1, .int e t2, .int n t3] []
      (PInt (PM x e n) []) := by
  k_with "call ref" => ((k_here; (with_reducible show wpAny _ _ (call (Value.ref 84) _) _ _ _); refine hold ?_))
  k_with "call ref" => ((k_here; (with_reducible show wpAny _ _ (call (Value.ref 84) _) _ _ _); k_dflt ((refine Ctr.use (c_encrypt _ _ _ _ ?_ ?_ ?_ ?_) (by k_asm) (by k_asm) (by k_asm) (by k_asm) (by k_asm) (by first | exact rfl | assumption) (by k_extra "m_pre") (by walk_at "m_rest") (by first | exact roomk (by assumption) (by decide) | exact roomk2 (by assumption) (by decide) | ktr_room) (by first | exact roomk (by assumption) (by decide) | exact roomk2 (by assumption) (by decide) | ktr_units) ?_); (walk_at "m_fact"); (walk_at "m_fact"); (walk_at "m_fact"); (walk_at "m_fact")); rintro v9 l9 h9 tk9 ⟨tr9⟩ hlo9 F9 N9; clear hlo9; (try dsimp only [List.nil_append] at N9); k_sweep; (try k_fold)))
  w_top off
  k_fill
  intro dp un gd cn cs' a ccd cl outer A₀ base h₀ L m rest s Q E B F X N hdis T hk hd hu hret
  refine wpAny_call ?_
  have N0 := news_left N
  k_dflt refine' code_defR (binds := [(Str.ofString "cyphertext", .int x t1), (Str.ofString "dkey", .int e t2), (Str.ofString "n", .int n t3)]) ?k1 ?k2 ?k3 ?k4 ?k5 ?kA ?kF ?kK ?k6 ?k7 ?k8 ?k9 ?kB ?_ ?c2 ?c3 ?c4 ?c5
  k_dflt k_extra "m_enter"
  intro g' L' h' FG F' N' B' X' T' kept small
  (try dsimp only)
  (try k_extra "m_letA")
  (try k_fold)
  have hr := rest_kept N hdis kept
  k_steps
  (rename Fr g' _ _ _ => fr8); (rename News g' _ _ _ => ne8); exact m_ret hret fr8 ne8 (by assumption) (by assumption) hr N (by k_extra "m_pre") ⟨_⟩
theorem c_pgcd (w : World) (mean : ExcName → Option Value) (mg mb : Str → Option Value) {p q : Int} {t1 t2 : Tok} (hp0 : 0 ≤ p) (hq0 : 0 ≤ q) :
    Ctr PySem.Challenge.rw_ys0001_11.row.prog w (Mine.K w.params) Mine.V (looseW Mine.V [Str.ofString "NotRelativePrimeError", Str.ofString "int2bytes", Str.ofString "HASH_ASN1"]) mean mg mb 205 5 20 [.int p t1, .int q t2] []
      (PInt (Int.gcd p q) []) := by
  k_with "call ref" => ((k_here; (with_reducible show wpAny _ _ (call (Value.ref 91) _) _ _ _); refine hold ?_))
  k_with "call ref" => ((k_here; (with_reducible show wpAny _ _ (call (Value.ref 91) _) _ _ _); k_dflt ((refine Ctr.use (c_decrypt _ _ _ _ ?_ ?_) (by k_asm) (by k_asm) (by k_asm) (by k_asm) (by k_asm) (by first | exact rfl | assumption) (by k_extra "m_pre") (by walk_at "m_rest") (by first | exact roomk (by assumption) (by decide) | exact roomk2 (by assumption) (by decide) | ktr_room) (by first | exact roomk (by assumption) (by decide) | exact roomk2 (by assumption) (by decide) | ktr_units) ?_); (walk_at "m_fact"); (walk_at "m_fact")); rintro v9 l9 h9 tk9 ⟨tr9⟩ hlo9 F9 N9; clear hlo9; (try dsimp only [List.nil_append] at N9); k_sweep; (try k_fold)))
  w_top off
  k_fill
  intro dp un gd cn cs' a ccd cl outer A₀ base h₀ L m rest s Q E B F X N hdis T hk hd hu hret
  refine wpAny_call ?_
  have N0 := news_left N
  k_dflt refine' code_defR (binds := [(Str.ofString "p", .int p t1), (Str.ofString "q", .int q t2)]) ?k1 ?k2 ?k3 ?k4 ?k5 ?kA ?kF ?kK ?k6 ?k7 ?k8 ?k9 ?kB ?_ ?c2 ?c3 ?c4 ?c5
  k_dflt k_extra "m_enter"
  intro g' L' h' FG F' N' B' X' T' kept small
  (try dsimp only)
  (try k_extra "m_letA")
  (try k_fold)
  have hr := rest_kept N hdis kept
  k_steps
  unfold Hold
  (try k_gentoks)
  rename Fr _ _ _ _ => fr1
  rename News _ _ _ _ => ne1
  with_unfolding_all refine ksw_while (σ := (Int × Tok) × (Int × Tok)) (fun _ => []) (fun c => [(Str.ofString "p", .int c.1.1 c.1.2), (Str.ofString "q", .int c.2.1 c.2.2)]) (fun _ => True) [Str.ofString "p", Str.ofString "q"] (fun c => 0 ≤ c.1.1 ∧ 0 ≤ c.2.1 ∧ Int.gcd c.1.1 c.2.1 = Int.gcd p q) (fun c => c.2.1.toNat) ((p, t1), (q, t2)) fr1 ne1 trivial (List.forall_mem_cons.mpr ⟨rfl, List.forall_mem_cons.mpr ⟨rfl, List.forall_mem_nil _⟩⟩) ⟨hp0, hq0, rfl⟩ ?_ ?_
  · clear fr1 ne1
    rintro ⟨⟨a, ta⟩, ⟨b, tb⟩⟩ u h tk - ⟨ha, hb, hg⟩ fr1 ne1
    dsimp only at ha hb hg fr1 ne1 ⊢
    replace fr1 : Fr g' L' h _ := fr1
    replace ne1 : News g' L' h _ := ne1
    k_sweep
    (try k_fold)
    k_steps
    · rename b ≠ 0 => hb0
      rename Fr g' _ _ _ => fr2
      rename News g' _ _ _ => ne2
      have h5 := fmod_nn (a := a) (b := b) (by lia)
      with_unfolding_all refine' ksw_end ((_, _), (_, _)) fr2 ne2 (List.forall_mem_nil _) trivial (List.forall_mem_cons.mpr ⟨rfl, List.forall_mem_cons.mpr ⟨rfl, List.forall_mem_nil _⟩⟩) ?_ ?_ ?_
      · k_extra "m_same"
      · exact ⟨hb, h5.1, (gcd_fmod (a := a) (b := b) (by lia)).trans hg⟩
      · show (a.fmod b).toNat < b.toNat
        lia
    · rename b = 0 => hb0
      subst hb0
      have e : a = (Int.gcd p q : Int) := by rw [← hg, Int.gcd_zero_right]; lia
      subst e
      (rename Fr g' _ _ _ => fr8); (rename News g' _ _ _ => ne8); exact m_ret hret fr8 ne8 (by assumption) (by assumption) hr N (by k_extra "m_pre") ⟨_⟩
  · with_unfolding_all passes_own
inductive PArp (p q : Int) : Value → List (Addr × Obj) → Prop
  | mk (b : Bool) (h : b = true ↔ Int.gcd p q = 1) : PArp p q (.bool b) []
theorem c_arp (w : World) (mean : ExcName → Option Value) (mg mb : Str → Option Value) {p q : Int} {t1 t2 : Tok} (hp0 : 0 ≤ p) (hq0 : 0 ≤ q) :
    Ctr PySem.Challenge.rw_ys0001_11.row.prog w (Mine.K w.params) Mine.V (looseW Mine.V [Str.ofString "NotRelativePrimeError", Str.ofString "int2bytes", Str.ofString "HASH_ASN1"]) mean mg mb 212 8 40 [.int p t1, .int q t2] []
      (PArp p q) := by
  k_with "call ref" => ((k_here; (with_reducible show wpAny _ _ (call (Value.ref 205) _) _ _ _); refine hold ?_))
  k_with "call ref" => ((k_here; (with_reducible show wpAny _ _ (call (Value.ref 205) _) _ _ _); k_dflt ((refine Ctr.use (c_pgcd _ _ _ _ ?_ ?_) (by k_asm) (by k_asm) (by k_asm) (by k_asm) (by k_asm) (by first | exact rfl | assumption) (by k_extra "m_pre") (by walk_at "m_rest") (by first | exact roomk (by assumption) (by decide) | exact roomk2 (by assumption) (by decide) | ktr_room) (by first | exact roomk (by assumption) (by decide) | exact roomk2 (by assumption) (by decide) | ktr_units) ?_); (walk_at "m_fact"); (walk_at "m_fact")); rintro v9 l9 h9 tk9 ⟨tr9⟩ hlo9 F9 N9; clear hlo9; (try dsimp only [List.nil_append] at N9); k_sweep; (try k_fold)))
  w_top off
  k_fill
  intro dp un gd cn cs' a ccd cl outer A₀ base h₀ L m rest s Q E B F X N hdis T hk hd hu hret
  refine wpAny_call ?_
  have N0 := news_left N
  k_dflt refine' code_defR (binds := [(Str.ofString "a", .int p t1), (Str.ofString "b", .int q t2)]) ?k1 ?k2 ?k3 ?k4 ?k5 ?kA ?kF ?kK ?k6 ?k7 ?k8 ?k9 ?kB ?_ ?c2 ?c3 ?c4 ?c5
  k_dflt k_extra "m_enter"
  intro g' L' h' FG F' N' B' X' T' kept small
  (try dsimp only)
  (try k_extra "m_letA")
  (try k_fold)
  have hr := rest_kept N hdis kept
  k_steps
  (rename Fr g' _ _ _ => fr8); (rename News g' _ _ _ => ne8); exact m_ret hret fr8 ne8 (by assumption) (by assumption) hr N (by k_extra "m_pre") ⟨_, by simp; lia⟩
inductive PIbf_pv (w : World) (x dx : Nat) (S : KeyS) (bf : Int) (t1 : Tok) (bi : Int) (t2 : Tok) : Value → List (Addr × Obj) → Prop
  | mk (r : Int) (tr : Tok) (h0 : 2 ≤ r) (h1 : ∀ R, 2 ≤ R → Int.gcd S.n R = 1 → r ≤ R) (h2 : Int.gcd r S.n = 1) (h3 : Bd 1231 r) : PIbf_pv w x dx S bf t1 bi t2 (.int r tr) (KeyL w 332 x dx S bf t1 bi t2)
theorem c_ibf_pv (w : World) (mean : ExcName → Option Value) (mg mb : Str → Option Value) {x dx : Nat} {S : KeyS} {bf bi : Int} {t1 t2 : Tok} (hne : @Ne Nat x dx) (hk0 : KOk S) :
    Ctr PySem.Challenge.rw_ys0001_11.row.prog w (Mine.K w.params) Mine.V (looseW Mine.V [Str.ofString "NotRelativePrimeError", Str.ofString "int2bytes", Str.ofString "HASH_ASN1"]) mean mg mb 247 12 80 [.ref x] (KeyL w 332 x dx S bf t1 bi t2)
      (PIbf_pv w x dx S bf t1 bi t2) := by
  k_with "call ref" => ((k_here; (with_reducible show wpAny _ _ (call (Value.ref 212) _) _ _ _); refine hold ?_))
  k_with "call ref" => ((k_here; (with_reducible show wpAny _ _ (call (Value.ref 212) _) _ _ _); k_dflt ((refine Ctr.use (c_arp _ _ _ _ ?_ ?_) (by k_asm) (by k_asm) (by k_asm) (by k_asm) (by k_asm) (by first | exact rfl | assumption) (by k_extra "m_pre") (by walk_at "m_rest") (by first | exact roomk (by assumption) (by decide) | exact roomk2 (by assumption) (by decide) | ktr_room) (by first | exact roomk (by assumption) (by decide) | exact roomk2 (by assumption) (by decide) | ktr_units) ?_); (walk_at "m_fact"); (walk_at "m_fact")); rintro v9 l9 h9 tk9 ⟨tr9, h9b⟩ hlo9 F9 N9; clear hlo9; (try dsimp only [List.nil_append] at N9); k_sweep; (try k_fold)))
  have hn : 0 < S.n := hk0.1
  w_top off
  k_fill
  intro dp un gd cn cs' a ccd cl outer A₀ base h₀ L m rest s Q E B F X N hdis T hk hd hu hret
  refine wpAny_call ?_
  have N0 := news_left N
  k_dflt refine' code_defR (binds := [(Str.ofString "self", .ref x)]) ?k1 ?k2 ?k3 ?k4 ?k5 ?kA ?kF ?kK ?k6 ?k7 ?k8 ?k9 ?kB ?_ ?c2 ?c3 ?c4 ?c5
  k_dflt k_extra "m_enter"
  intro g' L' h' FG F' N' B' X' T' kept small
  (try dsimp only)
  (try k_extra "m_letA")
  (try k_fold)
  have hr := rest_kept N hdis kept
  k_steps
  unfold Hold
  (try k_gentoks)
  rename Fr _ _ _ _ => fr1
  rename News _ _ _ _ => ne1
  with_unfolding_all refine ksw_while (σ := Int × Tok) (fun _ => KeyL w 332 x dx S bf t1 bi t2) (fun c => [(Str.ofString "blind_r", .int c.1 c.2)]) (fun _ => True) [Str.ofString "blind_r"] (fun c => 2 ≤ c.1 ∧ ∀ k, 2 ≤ k → k < c.1 → Int.gcd S.n k ≠ 1) (fun c => (S.n + 2 - c.1).toNat) (2, _) fr1 ne1 trivial (List.forall_mem_cons.mpr ⟨rfl, List.forall_mem_nil _⟩) ⟨Int.le_refl 2, by intro k h1 h2; dsimp only at h2; lia⟩ ?_ ?_
  · clear fr1 ne1
    rintro ⟨r, tr⟩ u h tk - ⟨ha, hb⟩ fr1 ne1
    dsimp only at ha hb fr1 ne1 ⊢
    replace fr1 : Fr g' L' h _ := fr1
    replace ne1 : News g' L' h _ := ne1
    k_sweep
    (try k_fold)
    k_steps
    · rename _ ↔ _ => hiff
      have hmin : ∀ R, 2 ≤ R → Int.gcd S.n R = 1 → r ≤ R := fun R h1 h2 => Int.not_lt.mp fun hc => hb R h1 hc h2
      (rename Fr g' _ _ _ => fr8); (rename News g' _ _ _ => ne8); exact m_ret hret fr8 ne8 (by assumption) (by assumption) hr N (by k_extra "m_pre") ⟨_, _, ha, hmin, (Int.gcd_comm _ _).trans (hiff.mp (by assumption)), Bd.lt_succ hk0.2.1 (by lia) (hmin (S.n + 1) (by lia) (gcd_succ S.n))⟩
    · rename _ ↔ _ => hiff
      rename Fr g' _ _ _ => fr2
      rename News g' _ _ _ => ne2
      with_unfolding_all refine' ksw_end (_, _) fr2 ne2 ?_ trivial (List.forall_mem_cons.mpr ⟨rfl, List.forall_mem_nil _⟩) ?_ ?_ ?_
      · k_extra "m_pre"
      · k_extra "m_same"
      · refine ⟨by dsimp only; lia, fun k h1 h2 => ?_⟩
        dsimp only at h2
        by_cases hk2 : k = r
        · subst hk2
          intro e
          have := hiff.mpr e
          simp_all
        · exact hb k h1 (by lia)
      · have hle : r ≤ S.n + 1 := by
          refine Int.not_lt.mp fun hc => hb (S.n + 1) (by lia) hc ?_
          exact gcd_succ S.n
        dsimp only
        lia
  · with_unfolding_all passes_own
inductive PUpd_pv (w : World) (x dx : Nat) (S : KeyS) : Value → List (Addr × Obj) → Prop
  | mk (tp : Nat) (b' : Int) (s1 : Tok) (i' : Int) (s2 : Tok) (h0 : BfOk S b' i') (h1 : 0 ≤ b') : PUpd_pv w x dx S (.ref tp) ((tp, ({ cls := .type "tuple", data := .seq #[.int b' s1, .int i' s2] } : Obj)) :: KeyL w 332 x dx S b' s1 i' s2)
theorem c_upd_pv (w : World) (mean : ExcName → Option Value) (mg mb : Str → Option Value) {x dx : Nat} {S : KeyS} {bf bi : Int} {t1 t2 : Tok} (hne : @Ne Nat x dx) (hk : KOk S) (hb : BfOk S bf bi) :
    Ctr PySem.Challenge.rw_ys0001_11.row.prog w (Mine.K w.params) Mine.V (looseW Mine.V [Str.ofString "NotRelativePrimeError", Str.ofString "int2bytes", Str.ofString "HASH_ASN1"]) mean mg mb 254 20 120 [.ref x] (KeyL w 332 x dx S bf t1 bi t2)
      (PUpd_pv w x dx S) := by
  k_with "call ref" => ((k_here; (with_reducible show wpAny _ _ (call (Value.ref 247) _) _ _ _); refine hold ?_))
  k_with "call ref" => ((k_here; (with_reducible show wpAny _ _ (call (Value.ref 247) _) _ _ _); k_dflt ((refine Ctr.use (c_ibf_pv _ _ _ _ (by assumption) (by assumption)) (by k_asm) (by k_asm) (by k_asm) (by k_asm) (by k_asm) (by first | exact rfl | assumption) (by k_extra "m_pre") (by walk_at "m_rest") (by first | exact roomk (by assumption) (by decide) | exact roomk2 (by assumption) (by decide) | ktr_room) (by first | exact roomk (by assumption) (by decide) | exact roomk2 (by assumption) (by decide) | ktr_units) ?_)); rintro v9 l9 h9 tk9 ⟨r9, tr9, h9a, h9b, h9c, h9d⟩ hlo9 F9 N9; clear hlo9; (try dsimp only [List.cons_append, List.nil_append] at N9); k_sweep; (try k_fold)))
  have hkk := hk
  obtain ⟨hk0, hk1, hk2, hk3⟩ := hk
  w_top off
  k_fill
  intro dp un gd cn cs' a ccd cl outer A₀ base h₀ L m rest s Q E B F X N hdis T hk hd hu hret
  refine wpAny_call ?_
  have N0 := news_left N
  k_dflt refine' code_defR (binds := [(Str.ofString "self", .ref x)]) ?k1 ?k2 ?k3 ?k4 ?k5 ?kA ?kF ?kK ?k6 ?k7 ?k8 ?k9 ?kB ?_ ?c2 ?c3 ?c4 ?c5
  k_dflt k_extra "m_enter"
  intro g' L' h' FG F' N' B' X' T' kept small
  (try dsimp only)
  (try k_extra "m_letA")
  (try k_fold)
  have hr := rest_kept N hdis kept
  k_steps
  · (rename Fr g' _ _ _ => fr8); (rename News g' _ _ _ => ne8); exact m_ret hret fr8 ne8 (by assumption) (by assumption) hr N (by k_extra "m_pre") ⟨_, _, _, _, _, BfOk.first hkk (by assumption) (by assumption) (by assumption) (by assumption) (by assumption), by lia⟩
  · (rename Fr g' _ _ _ => fr8); (rename News g' _ _ _ => ne8); exact m_ret hret fr8 ne8 (by assumption) (by assumption) hr N (by k_extra "m_pre") ⟨_, _, _, _, _, BfOk.next hkk hb (by assumption), PM_nn _ _ _⟩
theorem c_unblind_pv (w : World) (mean : ExcName → Option Value) (mg mb : Str → Option Value) {x dx : Nat} {S : KeyS} {bf bi y i : Int} {t1 t2 ty ti : Tok} (hne : @Ne Nat x dx) (hk : KOk S) (hy : Bd 1240 y) (hi : Bd 1240 i) :
    Ctr PySem.Challenge.rw_ys0001_11.row.prog w (Mine.K w.params) Mine.V (looseW Mine.V [Str.ofString "NotRelativePrimeError", Str.ofString "int2bytes", Str.ofString "HASH_ASN1"]) mean mg mb 240 5 30 [.ref x, .int y ty, .int i ti] (KeyL w 332 x dx S bf t1 bi t2)
      (PUnb (S.n) (i * y) (KeyL w 332 x dx S bf t1 bi t2)) := by
  k_with "call ref" => ((k_here; (with_reducible show wpAny _ _ (call (Value.ref 254) _) _ _ _); refine hold ?_))
  k_with "call ref" => ((k_here; (with_reducible show wpAny _ _ (call (Value.ref 254) _) _ _ _); k_dflt ((refine Ctr.use (c_upd_pv _ _ _ _ (by assumption) (by assumption) (by assumption)) (by k_asm) (by k_asm) (by k_asm) (by k_asm) (by k_asm) (by first | exact rfl | assumption) (by k_extra "m_pre") (by walk_at "m_rest") (by first | exact roomk (by assumption) (by decide) | exact roomk2 (by assumption) (by decide) | ktr_room) (by first | exact roomk (by assumption) (by decide) | exact roomk2 (by assumption) (by decide) | ktr_units) ?_)); rintro v9 l9 h9 tk9 ⟨tp9, b9, s9, i9, t9, h9a, h9b⟩ hlo9 F9 N9; clear hlo9; (try dsimp only [List.cons_append, List.nil_append] at N9); k_sweep; (try k_fold)))
  have hkk := hk
  obtain ⟨hk0, hk1, hk2, hk3⟩ := hk
  w_top off
  k_fill
  intro dp un gd cn cs' a ccd cl outer A₀ base h₀ L m rest s Q E B F X N hdis T hk hd hu hret
  refine wpAny_call ?_
  have N0 := news_left N
  k_dflt refine' code_defR (binds := [(Str.ofString "self", .ref x), (Str.ofString "blinded", .int y ty), (Str.ofString "blindfac_inverse", .int i ti)]) ?k1 ?k2 ?k3 ?k4 ?k5 ?kA ?kF ?kK ?k6 ?k7 ?k8 ?k9 ?kB ?_ ?c2 ?c3 ?c4 ?c5
  k_dflt k_extra "m_enter"
  intro g' L' h' FG F' N' B' X' T' kept small
  (try dsimp only)
  (try k_extra "m_letA")
  (try k_fold)
  have hr := rest_kept N hdis kept
  k_steps
  (rename Fr g' _ _ _ => fr8); (rename News g' _ _ _ => ne8); exact m_ret hret fr8 ne8 (by assumption) (by assumption) hr N (by k_extra "m_pre") ⟨_, _, (fmod_nn hk0).1, (fmod_nn hk0).2, fmod_dvd hk0⟩
inductive PBli_pv (w : World) (x dx : Nat) (S : KeyS) (y : Int) : Value → List (Addr × Obj) → Prop
  | mk (tp : Nat) (b' : Int) (s1 : Tok) (i' : Int) (s2 : Tok) (r : Int) (s3 : Tok) (n1 : @Ne Nat tp x) (n2 : @Ne Nat tp dx) (h0 : BfOk S b' i') (h1 : 0 ≤ b') (h2 : Bd 1231 i') (h3 : 0 ≤ r) (h4 : r < S.n) (h5 : S.n ∣ r - y * b' ^ S.e.toNat) : PBli_pv w x dx S y (.ref tp) ((tp, ({ cls := .type "tuple", data := .seq #[.int r s3, .int i' s2] } : Obj)) :: KeyL w 332 x dx S b' s1 i' s2)
theorem c_blind_pv (w : World) (mean : ExcName → Option Value) (mg mb : Str → Option Value) {x dx : Nat} {S : KeyS} {bf bi y : Int} {t1 t2 ty : Tok} (hne : @Ne Nat x dx) (hk : KOk S) (hb : BfOk S bf bi) (hy : Bd 1240 y) :
    Ctr PySem.Challenge.rw_ys0001_11.row.prog w (Mine.K w.params) Mine.V (looseW Mine.V [Str.ofString "NotRelativePrimeError", Str.ofString "int2bytes", Str.ofString "HASH_ASN1"]) mean mg mb 233 26 160 [.ref x, .int y ty] (KeyL w 332 x dx S bf t1 bi t2)
      (PBli_pv w x dx S y) := by
  k_with "call ref" => ((k_here; (with_reducible show wpAny _ _ (call (Value.ref 240) _) _ _ _); refine hold ?_))
  k_with "call ref" => ((k_here; (with_reducible show wpAny _ _ (call (Value.ref 240) _) _ _ _); k_dflt ((refine Ctr.use (c_unblind_pv _ _ _ _ (by assumption) (by assumption) (by walk_at "m_bd") (by walk_at "m_bd")) (by k_asm) (by k_asm) (by k_asm) (by k_asm) (by k_asm) (by first | exact rfl | assumption) (by k_extra "m_pre") (by walk_at "m_rest") (by first | exact roomk (by assumption) (by decide) | exact roomk2 (by assumption) (by decide) | ktr_room) (by first | exact roomk (by assumption) (by decide) | exact roomk2 (by assumption) (by decide) | ktr_units) ?_)); rintro v9 l9 h9 tk9 ⟨r9, tr9, h9a, h9b, h9c⟩ hlo9 F9 N9; clear hlo9; (try dsimp only [List.cons_append, List.nil_append] at N9); k_sweep; (try k_fold)))
  k_with "storeName" => (guard_hyp in_blind_pv : True; (k_here; k_dflt (refine store_v (S := _) (by k_asm) (by k_asm) (fun _ _ => by first | (dsimp only; done) | (dsimp only; rfl) | rfl) ?_ (by rfl) (by rfl); k_whole; intro hS9 kS9 FS9 NS9; (try k_sweep))))
  have in_blind_pv : True := True.intro
  have hkk := hk
  obtain ⟨hk0, hk1, hk2, hk3⟩ := hk
  w_top off
  k_fill
  intro dp un gd cn cs' a ccd cl outer A₀ base h₀ L m rest s Q E B F X N hdis T hk hd hu hret
  refine wpAny_call ?_
  have N0 := news_left N
  k_dflt refine' code_defR (binds := [(Str.ofString "self", .ref x), (Str.ofString "message", .int y ty)]) ?k1 ?k2 ?k3 ?k4 ?k5 ?kA ?kF ?kK ?k6 ?k7 ?k8 ?k9 ?kB ?_ ?c2 ?c3 ?c4 ?c5
  k_dflt k_extra "m_enter"
  intro g' L' h' FG F' N' B' X' T' kept small
  (try dsimp only)
  (try k_extra "m_letA")
  (try k_fold)
  have hr := rest_kept N hdis kept
  k_steps
  (rename Fr g' _ _ _ => fr8); (rename News g' _ _ _ => ne8); exact m_ret hret fr8 ne8 (by assumption) (by assumption) hr N (by k_extra "m_pre") ⟨_, _, _, _, _, _, _, neN (by lia), neN (by lia), by assumption, by assumption, BfOk.bd hkk (by assumption) (by assumption), (fmod_nn hk0).1, (fmod_nn hk0).2, blinded_dvd hk0⟩
inductive PBen (w : World) (x dx : Nat) (S : KeyS) (y : Int) : Value → List (Addr × Obj) → Prop
  | mk (b' : Int) (s1 : Tok) (i' : Int) (s2 tr : Tok) (h0 : BfOk S b' i') : PBen w x dx S y (.int (PM y S.d S.n) tr) (KeyL w 332 x dx S b' s1 i' s2)
theorem PBen.of {w : World} {x dx : Nat} {S : KeyS} {y z b' i' : Int} {s1 s2 tr : Tok} (h : z = PM y S.d S.n) (h0 : BfOk S b' i') : PBen w x dx S y (.int z tr) (KeyL w 332 x dx S b' s1 i' s2) := h ▸ .mk _ _ _ _ _ h0
theorem c_benc (w : World) (mean : ExcName → Option Value) (mg mb : Str → Option Value) {x dx : Nat} {S : KeyS} {bf bi y : Int} {t1 t2 ty : Tok} (hne : @Ne Nat x dx) (hk : KRsa S) (hb : BfOk S bf bi) (hy : Bd 1240 y) :
    Ctr PySem.Challenge.rw_ys0001_11.row.prog w (Mine.K w.params) Mine.V (looseW Mine.V [Str.ofString "NotRelativePrimeError", Str.ofString "int2bytes", Str.ofString "HASH_ASN1"]) mean mg mb 329 32 200 [.ref x, .int y ty] (KeyL w 332 x dx S bf t1 bi t2)
      (PBen w x dx S y) := by
  k_with "call ref" => ((k_here; (with_reducible show wpAny _ _ (call (Value.ref 233) _) _ _ _); refine hold ?_))
  k_with "call ref" => ((k_here; (with_reducible show wpAny _ _ (call (Value.ref 233) _) _ _ _); k_dflt ((refine Ctr.use (c_blind_pv _ _ _ _ (by assumption) (by assumption) (by assumption) (by walk_at "m_bd")) (by k_asm) (by k_asm) (by k_asm) (by k_asm) (by k_asm) (by first | exact rfl | assumption) (by k_extra "m_pre") (by walk_at "m_rest") (by first | exact roomk (by assumption) (by decide) | exact roomk2 (by assumption) (by decide) | ktr_room) (by first | exact roomk (by assumption) (by decide) | exact roomk2 (by assumption) (by decide) | ktr_units) ?_)); rintro v9 l9 h9 tk9 ⟨tp9, b9, s9, i9, t9, r9, u9, h9n, h9m, h9a, h9b, h9f, h9c, h9d, h9e⟩ hlo9 F9 N9; clear hlo9; (try dsimp only [List.cons_append, List.nil_append] at N9); k_sweep; (try k_fold)))
  have hkk := hk.ok
  obtain ⟨hk0, hk1, hk2, hk3⟩ := hk.ok
  have d0 := hk.d0
  w_top off
  k_fill
  intro dp un gd cn cs' a ccd cl outer A₀ base h₀ L m rest s Q E B F X N hdis T hkf hd hu hret
  refine wpAny_call ?_
  have N0 := news_left N
  k_dflt refine' code_defR (binds := [(Str.ofString "self", .ref x), (Str.ofString "message", .int y ty)]) ?k1 ?k2 ?k3 ?k4 ?k5 ?kA ?kF ?kK ?k6 ?k7 ?k8 ?k9 ?kB ?_ ?c2 ?c3 ?c4 ?c5
  k_dflt k_extra "m_enter"
  intro g' L' h' FG F' N' B' X' T' kept small
  (try dsimp only)
  (try k_extra "m_letA")
  (try k_fold)
  have hr := rest_kept N hdis kept
  k_steps
  · rename S.n ∣ _ - _ * PM _ _ _ => hu9
    (rename Fr g' _ _ _ => fr8); (rename News g' _ _ _ => ne8); exact m_ret hret fr8 ne8 (by assumption) (by assumption) hr N (by k_extra "m_pre") (PBen.of (hk.benc (by assumption) (by assumption) (by assumption) (by assumption) (by assumption) hu9) (by assumption))
inductive PBde (w : World) (x dx : Nat) (S : KeyS) (y : Int) : Value → List (Addr × Obj) → Prop
  | mk (b' : Int) (s1 : Tok) (i' : Int) (s2 tr : Tok) (h0 : BfOk S b' i') : PBde w x dx S y (.int (PM y S.d S.n) tr) (KeyL w 332 x dx S b' s1 i' s2)
theorem PBde.of {w : World} {x dx : Nat} {S : KeyS} {y z b' i' : Int} {s1 s2 tr : Tok} (h : z = PM y S.d S.n) (h0 : BfOk S b' i') : PBde w x dx S y (.int z tr) (KeyL w 332 x dx S b' s1 i' s2) := h ▸ .mk _ _ _ _ _ h0
theorem c_bdec (w : World) (mean : ExcName → Option Value) (mg mb : Str → Option Value) {x dx : Nat} {S : KeyS} {bf bi y : Int} {t1 t2 ty : Tok} (hne : @Ne Nat x dx) (hk : KRsa S) (hb : BfOk S bf bi) (hy : Bd 1240 y) :
    Ctr PySem.Challenge.rw_ys0001_11.row.prog w (Mine.K w.params) Mine.V (looseW Mine.V [Str.ofString "NotRelativePrimeError", Str.ofString "int2bytes", Str.ofString "HASH_ASN1"]) mean mg mb 322 32 200 [.ref x, .int y ty] (KeyL w 332 x dx S bf t1 bi t2)
      (PBde w x dx S y) := by
  k_with "call ref" => ((k_here; (with_reducible show wpAny _ _ (call (Value.ref 329) _) _ _ _); refine hold ?_))
  k_with "call ref" => ((k_here; (with_reducible show wpAny _ _ (call (Value.ref 329) _) _ _ _); k_dflt ((refine Ctr.use (c_benc _ _ _ _ (by assumption) (by assumption) (by assumption) (by walk_at "m_bd")) (by k_asm) (by k_asm) (by k_asm) (by k_asm) (by k_asm) (by first | exact rfl | assumption) (by k_extra "m_pre") (by walk_at "m_rest") (by first | exact roomk (by assumption) (by decide) | exact roomk2 (by assumption) (by decide) | ktr_room) (by first | exact roomk (by assumption) (by decide) | exact roomk2 (by assumption) (by decide) | ktr_units) ?_)); rintro v9 l9 h9 tk9 ⟨b9, s9, i9, t9, u9, h9a⟩ hlo9 F9 N9; clear hlo9; (try dsimp only [List.cons_append, List.nil_append] at N9); k_sweep; (try k_fold)))
  have hkk := hk.ok
  obtain ⟨hk0, hk1, hk2, hk3⟩ := hk.ok
  have p0 := hk.p0
  have q0 := hk.q0
  have pB := hk.pB
  have qB := hk.qB
  have x10 := hk.x10
  have x20 := hk.x20
  have cB : Bd 610 S.cf := Bd.of_lt hk.c0 hk.c1 pB
  w_top off
  k_fill
  intro dp un gd cn cs' a ccd cl outer A₀ base h₀ L m rest s Q E B F X N hdis T hkf hd hu hret
  refine wpAny_call ?_
  have N0 := news_left N
  k_dflt refine' code_defR (binds := [(Str.ofString "self", .ref x), (Str.ofString "encrypted", .int y ty)]) ?k1 ?k2 ?k3 ?k4 ?k5 ?kA ?kF ?kK ?k6 ?k7 ?k8 ?k9 ?kB ?_ ?c2 ?c3 ?c4 ?c5
  k_dflt k_extra "m_enter"
  intro g' L' h' FG F' N' B' X' T' kept small
  (try dsimp only)
  (try k_extra "m_letA")
  (try k_fold)
  have hr := rest_kept N hdis kept
  k_steps
  · rename S.n ∣ _ - _ * (_ + _) => hu9
    (rename Fr g' _ _ _ => fr8); (rename News g' _ _ _ => ne8); exact m_ret hret fr8 ne8 (by assumption) (by assumption) hr N (by k_extra "m_pre") (PBde.of (hk.bdec (by assumption) (by assumption) (by assumption) (by assumption) (by assumption) hu9) (by assumption))
section
local macro_rules | `(tactic| ktr_units) => `(tactic| (have hcL9 := cLine_is; (simp only [units_under_make, units_in1, units_deeper, Around.mark_units, units_caller]); (try dsimp only [ktrTop]); lia))
inductive PMkv (w : World) (n e d p q : Int) : Value → List (Addr × Obj) → Prop
  | mk (x dx : Nat) (S : KeyS) (bf : Int) (tb : Tok) (bi : Int) (ti : Tok) (hne : @Ne Nat x dx) (hb : bf < 0) (hn : S.n = n) (he : S.e = e) (hd : S.d = d) (hp : S.p = p) (hq : S.q = q) (h1 : S.x1 = d.fmod (p - 1)) (h2 : S.x2 = d.fmod (q - 1)) (h3 : 0 ≤ S.cf) (h4 : S.cf ≤ p) (h5 : p ∣ S.cf * q - 1) : PMkv w n e d p q (.ref x) (KeyL w 332 x dx S bf tb bi ti)
theorem c_mkpv (w : World) (mean : ExcName → Option Value) (mg mb : Str → Option Value) {n e d p q : Int} {t1 t2 t3 t4 t5 : Tok} (hp : PrOk p) (hq : PrOk q) (hd : 0 ≤ d) (hdB : Bd 1230 d) (hg : Int.gcd q p = 1) :
    Ctr PySem.Challenge.rw_ys0001_11.row.prog w (Mine.K w.params) Mine.V (looseW Mine.V [Str.ofString "NotRelativePrimeError", Str.ofString "int2bytes", Str.ofString "HASH_ASN1"]) mean mg mb 332 20 160 [.int n t1, .int e t2, .int d t3, .int p t4, .int q t5] []
      (PMkv w n e d p q) := by
  k_with "call ref" => ((k_here; (with_reducible show wpAny _ _ (call (Value.ref 322) _) _ _ _); refine hold ?_))
  k_with "call ref" => ((k_here; (with_reducible show wpAny _ _ (call (Value.ref 322) _) _ _ _); k_dflt ((refine Ctr.use (c_bdec _ _ _ _ (by assumption) (by assumption) (by assumption) (by walk_at "m_bd")) (by k_asm) (by k_asm) (by k_asm) (by k_asm) (by k_asm) (by first | exact rfl | assumption) (by k_extra "m_pre") (by walk_at "m_rest") (by first | exact roomk (by assumption) (by decide) | exact roomk2 (by assumption) (by decide) | ktr_room) (by first | exact roomk (by assumption) (by decide) | exact roomk2 (by assumption) (by decide) | ktr_units) ?_)); rintro v9 l9 h9 tk9 ⟨b9, s9, i9, t9, u9, h9a⟩ hlo9 F9 N9; clear hlo9; (try dsimp only [List.cons_append, List.nil_append] at N9); k_sweep; (try k_fold)))
  k_with "call ref" => (guard_hyp in_mkpv : True; (k_here; (with_reducible show wpAny _ _ (call (Value.ref 226) _) _ _ _); k_dflt (walk_at "m_inline")))
  have in_mkpv : True := True.intro
  obtain ⟨hp3, hpB, -⟩ := hp
  obtain ⟨hq3, hqB, -⟩ := hq
  w_top off
  k_fill
  intro dp un gd cn cs' a ccd cl outer A₀ base h₀ L m rest s Q E B F X N hdis T hk hdd hu hret
  k_dflt refine' call_cls F X N ?h1 ?h2 ?h3 ?_
  case h1 => k_dflt k_is
  case h2 => k_dflt k_is
  case h3 => k_dflt k_is
  intro x dx h1 F1 N1 l1 l2
  have l2' := ltN l2
  have N2 : News h₀ L h1 ([(x, instObj 332 dx), (dx, dictOf [] 0)] ++ rest) := N1
  have hdis2 : ∀ q ∈ rest, ∀ r ∈ [(x, instObj 332 dx), (dx, dictOf [] 0)], q.1 ≠ r.1 := by
    intro q9 hq9 r9 hr9
    have h3 := ltN (l1 q9 hq9)
    simp only [List.mem_cons, List.not_mem_nil, or_false] at hr9
    rcases hr9 with rfl | rfl <;> (refine neN ?_; dsimp only; lia)
  have hne : @Ne Nat x dx := neN (by lia)
  have N0 := news_left N2
  k_dflt refine' code_defR (binds := [(Str.ofString "self", .ref x), (Str.ofString "n", .int n t1), (Str.ofString "e", .int e t2), (Str.ofString "d", .int d t3), (Str.ofString "p", .int p t4), (Str.ofString "q", .int q t5)]) B F1 X N0 T ?kA ?kF ?kK ?k6 ?k7 ?k8 ?k9 ?kB ?_ ?c2 ?c3 ?c4 ?c5
  k_dflt k_extra "m_enter2"
  intro g' L' h' FG F' N' B' X' T' kept small
  (try dsimp only)
  (try k_extra "m_letA")
  (try k_fold)
  have hr := rest_kept N2 hdis2 kept
  k_steps
  (rename Fr g' _ _ _ => fr8); (rename News g' _ _ _ => ne8); exact m_ret hret fr8 ne8 (by assumption) (by assumption) hr N (by k_extra "m_pre") ⟨x, dx, ⟨n, e, d, p, q, _, _, _, _, _, _, _, _, _, _, _, _, _, _, _, _, _, _, _, _, _⟩, _, _, _, _, hne, by decide, rfl, rfl, rfl, rfl, rfl, rfl, rfl, by assumption, by assumption, by assumption⟩
end
section
local macro_rules | `(tactic| walk_at "m_pad") => `(tactic| fail)
local macro_rules | `(tactic| ktr_units) => `(tactic| (have hcL9 := cLine_is; (simp only [units_under_make, units_in1, units_deeper, Around.mark_units, units_caller]); (try dsimp only [ktrTop]); lia))
inductive PMkb (w : World) (n e : Int) : Value → List (Addr × Obj) → Prop
  | mk (x dx : Nat) (S : KeyS) (bf : Int) (tb : Tok) (bi : Int) (ti : Tok) (hne : @Ne Nat x dx) (hb : bf < 0) (hn : S.n = n) (he : S.e = e) : PMkb w n e (.ref x) (PubL w 285 x dx S bf tb bi ti)
theorem c_mkpb (w : World) (mean : ExcName → Option Value) (mg mb : Str → Option Value) {n e : Int} {t1 t2 : Tok} :
    Ctr PySem.Challenge.rw_ys0001_11.row.prog w (Mine.K w.params) Mine.V (looseW Mine.V [Str.ofString "NotRelativePrimeError", Str.ofString "int2bytes", Str.ofString "HASH_ASN1"]) mean mg mb 285 20 160 [.int n t1, .int e t2] []
      (PMkb w n e) := by
  k_with "call ref" => ((k_here; (with_reducible show wpAny _ _ (call (Value.ref 332) _) _ _ _); refine hold ?_))
  k_with "call ref" => ((k_here; (with_reducible show wpAny _ _ (call (Value.ref 332) _) _ _ _); k_dflt ((refine Ctr.use (c_mkpv _ _ _ _ ?_ ?_ ?_ ?_ ?_) (by k_asm) (by k_asm) (by k_asm) (by k_asm) (by k_asm) (by first | exact rfl | assumption) (by k_extra "m_pre") (by walk_at "m_rest") (by first | exact roomk (by assumption) (by decide) | exact roomk2 (by assumption) (by decide) | ktr_room) (by first | exact roomk (by assumption) (by decide) | exact roomk2 (by assumption) (by decide) | ktr_units) ?_); (assumption); (assumption); (walk_at "m_fact"); (walk_at "m_bd"); (assumption)); rintro v9 l9 h9 tk9 ⟨x9, dx9, S9, bf9, tb9, bi9, ti9, hne9, hbf9, hSn, hSe, hSd, hSp, hSq, hS1, hS2, hSc0, hSc1, hSc2⟩ hlo9 F9 N9; replace hlo9 := sepL_of hlo9; (try dsimp only [sepL, sepR, StL, KeyL, PubL] at hlo9); k_dflt (have hK9 : KRsa S9 := KRsa.made (by assumption) (by assumption) (by assumption) (by lia) (by walk_at "m_bd") (by assumption) (by assumption) (by assumption) hSn hSe hSd hSp hSq hS1 hS2 hSc0 hSc1 hSc2); k_dflt (have hB9 : BfOk S9 bf9 bi9 := Or.inl hbf9); clear hSe hSp hSq hS1 hS2 hSc0 hSc1 hSc2; (try dsimp only [List.cons_append, List.nil_append] at N9); k_sweep; (try k_fold)))
  w_top off
  k_fill
  intro dp un gd cn cs' a ccd cl outer A₀ base h₀ L m rest s Q E B F X N hdis T hk hdd hu hret
  k_dflt refine' call_cls F X N ?h1 ?h2 ?h3 ?_
  case h1 => k_dflt k_is
  case h2 => k_dflt k_is
  case h3 => k_dflt k_is
  intro x dx h1 F1 N1 l1 l2
  have l2' := ltN l2
  have N2 : News h₀ L h1 ([(x, instObj 285 dx), (dx, dictOf [] 0)] ++ rest) := N1
  have hdis2 : ∀ q ∈ rest, ∀ r ∈ [(x, instObj 285 dx), (dx, dictOf [] 0)], q.1 ≠ r.1 := by
    intro q9 hq9 r9 hr9
    have h3 := ltN (l1 q9 hq9)
    simp only [List.mem_cons, List.not_mem_nil, or_false] at hr9
    rcases hr9 with rfl | rfl <;> (refine neN ?_; dsimp only; lia)
  have hne : @Ne Nat x dx := neN (by lia)
  have N0 := news_left N2
  k_dflt refine' code_defR (binds := [(Str.ofString "self", .ref x), (Str.ofString "n", .int n t1), (Str.ofString "e", .int e t2)]) B F1 X N0 T ?kA ?kF ?kK ?k6 ?k7 ?k8 ?k9 ?kB ?_ ?c2 ?c3 ?c4 ?c5
  k_dflt k_extra "m_enter2"
  intro g' L' h' FG F' N' B' X' T' kept small
  (try dsimp only)
  (try k_extra "m_letA")
  (try k_fold)
  have hr := rest_kept N2 hdis2 kept
  k_steps
  (rename Fr g' _ _ _ => fr8); (rename News g' _ _ _ => ne8); exact m_ret hret fr8 ne8 (by assumption) (by assumption) hr N (by k_extra "m_pre") ⟨x, dx, ⟨n, e, 0, 0, 0, 0, 0, 0, _, _, 0, 0, 0, 0, 0, 0, _, _, _, _, 0, 0, 0, 0, 0, 0⟩, _, _, _, _, hne, by decide, rfl, rfl⟩
end
inductive PCell : Value → List (Addr × Obj) → Prop
  | mk (r : Int) (tr : Tok) (h0 : 0 ≤ r) (hB : Bd 1048577 r) : PCell (.int r tr) []
theorem c_lcell (w : World) (mean : ExcName → Option Value) (mg mb : Str → Option Value) {sc : Nat} {vs : List Value} {ns : List Int} {k : Int} {tk0 : Tok} (hS : Scr vs ns) (hk0 : 0 ≤ k) (hk1 : k < 1000) :
    CtrB PySem.Challenge.rw_ys0001_11.row.prog w (Mine.K w.params) Mine.V (looseW Mine.V [Str.ofString "NotRelativePrimeError", Str.ofString "int2bytes", Str.ofString "HASH_ASN1"]) mean mg mb 341 5 20 [.ref sc, .int k tk0] [] (fun base => base.IsList sc vs.toArray)
      PCell := by
  k_with "call ref" => ((k_here; (with_reducible show wpAny _ _ (call (Value.ref 285) _) _ _ _); refine hold ?_))
  k_with "call ref" => ((k_here; (with_reducible show wpAny _ _ (call (Value.ref 285) _) _ _ _); k_dflt ((refine Ctr.use (c_mkpb _ _ _ _) (by k_asm) (by k_asm) (by k_asm) (by k_asm) (by k_asm) (by first | exact rfl | assumption) (by k_extra "m_pre") (by walk_at "m_rest") (by first | exact roomk (by assumption) (by decide) | exact roomk2 (by assumption) (by decide) | ktr_room) (by first | exact roomk (by assumption) (by decide) | exact roomk2 (by assumption) (by decide) | ktr_units) ?_)); rintro v9 l9 h9 tk9 ⟨x9, dx9, S9, bf9, tb9, bi9, ti9, hne9, hbf9, hSn, hSe⟩ hlo9 F9 N9; replace hlo9 := sepL_of hlo9; (try dsimp only [sepL, sepR, StL, KeyL, PubL] at hlo9); (try dsimp only [List.cons_append, List.nil_append] at N9); k_sweep; (try k_fold)))
  have hI := hS.i
  have hn := hS.n
  have hcb := hS.cell k.toNat
  w_top off
  k_fill
  intro dp un gd cn cs' a ccd cl outer A₀ base h₀ L m rest s Q E B hL0 F X N hdis T hk hd hu hret
  refine wpAny_call ?_
  have N0 := news_left N
  k_dflt refine' code_defR (binds := [(Str.ofString "script", .ref sc), (Str.ofString "k", .int k tk0)]) ?k1 ?k2 ?k3 ?k4 ?k5 ?kA ?kF ?kK ?k6 ?k7 ?k8 ?k9 ?kB ?_ ?c2 ?c3 ?c4 ?c5
  k_dflt k_extra "m_enter"
  intro g' L' h' FG F' N' B' X' T' kept small
  have hL1 := stays_list B'.stays hL0
  (try dsimp only)
  (try k_extra "m_letA")
  (try k_fold)
  have hr := rest_kept N hdis kept
  k_steps
  · (rename Fr g' _ _ _ => fr8); (rename News g' _ _ _ => ne8); exact m_ret hret fr8 ne8 (by assumption) (by assumption) hr N (by k_extra "m_pre") ⟨_, _, by split <;> lia, bd_abs hcb⟩
  · (rename Fr g' _ _ _ => fr8); (rename News g' _ _ _ => ne8); exact m_ret hret fr8 ne8 (by assumption) (by assumption) hr N (by k_extra "m_pre") ⟨_, _, by lia, Bd.small (by lia) (by decide)⟩
theorem c_lcom (w : World) (mean : ExcName → Option Value) (mg mb : Str → Option Value) {one two : Int} {t1 t2 : Tok} (h1 : 0 ≤ one) (h2 : 0 ≤ two) (h3 : Bd 2490 one) (h4 : Bd 2490 two) :
    Ctr PySem.Challenge.rw_ys0001_11.row.prog w (Mine.K w.params) Mine.V (looseW Mine.V [Str.ofString "NotRelativePrimeError", Str.ofString "int2bytes", Str.ofString "HASH_ASN1"]) mean mg mb 355 5 20 [.int one t1, .int two t2] []
      (PInt (Int.gcd one two) []) := by
  k_with "call ref" => ((k_here; (with_reducible show wpAny _ _ (call (Value.ref 341) _) _ _ _); refine hold ?_))
  k_with "call ref" => ((k_here; (with_reducible show wpAny _ _ (call (Value.ref 341) _) _ _ _); k_dflt ((refine CtrB.use (c_lcell _ _ _ _ (by assumption) ?_ ?_) (by k_asm) (by assumption) (by k_asm) (by k_asm) (by k_asm) (by k_asm) (by first | exact rfl | assumption) (by k_extra "m_pre") (by walk_at "m_rest") (by first | exact roomk (by assumption) (by decide) | exact roomk2 (by assumption) (by decide) | ktr_room) (by first | exact roomk (by assumption) (by decide) | exact roomk2 (by assumption) (by decide) | ktr_units) ?_); (first | decide | lia); (first | decide | lia)); rintro v9 l9 h9 tk9 ⟨r9, tr9, hr0, hrB⟩ hlo9 F9 N9; clear hlo9; (try dsimp only [List.nil_append] at N9); k_sweep; (try k_fold)))
  w_top off
  k_fill
  intro dp un gd cn cs' a ccd cl outer A₀ base h₀ L m rest s Q E B F X N hdis T hk hd hu hret
  refine wpAny_call ?_
  have N0 := news_left N
  k_dflt refine' code_defR (binds := [(Str.ofString "one", .int one t1), (Str.ofString "two", .int two t2)]) ?k1 ?k2 ?k3 ?k4 ?k5 ?kA ?kF ?kK ?k6 ?k7 ?k8 ?k9 ?kB ?_ ?c2 ?c3 ?c4 ?c5
  k_dflt k_extra "m_enter"
  intro g' L' h' FG F' N' B' X' T' kept small
  (try dsimp only)
  (try k_extra "m_letA")
  (try k_fold)
  have hr := rest_kept N hdis kept
  k_steps
  unfold Hold
  (try k_gentoks)
  rename IsRange _ _ _ _ _ _ _ _ => hrng
  rename Fr _ _ _ _ => fr1
  rename News _ _ _ _ => ne1
  k_dflt refine m_range (σ := Int × Tok × Int × Tok) (n := 5000) (fun _ => []) (fun c => [(Str.ofString "one", .int c.1 c.2.1), (Str.ofString "two", .int c.2.2.1 c.2.2.2)]) (fun _ => True) [Str.ofString "one", Str.ofString "two"]
    (fun i c => GInv 5000 (Int.gcd one two) i c.1 c.2.2.1) (fun c => c.1 = (Int.gcd one two : Int)) (one, t1, two, t2) rfl hrng (by decide) (by rfl) fr1 ne1 ?_ trivial ?_ ?_ ?_ ?_ ?_
  · exact List.forall_mem_nil _
  · kst_all
  · exact GInv.startB h1 h2 h3 h4
  · rintro ⟨a, ta, b, tb⟩ hp
    have := hp.last (by decide)
    dsimp only at this hp ⊢
    subst this
    exact hp.out
  · clear fr1 ne1
    rintro ⟨a, ta, b, tb⟩ i k t u h tk own hk' hi hoff - hp fr1 ne1
    dsimp only at hp fr1 ne1 ⊢
    (try k_fold)
    k_steps
    · rename _ = _ => hb0
      (try dsimp only at hb0)
      subst hb0
      dsimp only [MPost]
      rename Fr _ _ _ _ => fr2
      rename News _ _ _ _ => ne2
      with_unfolding_all exact m_end (_, _, _, _) fr2 ne2 (List.forall_mem_nil _) (by intro p hp; kst_mem) rfl trivial (List.forall_mem_cons.mpr ⟨rfl, List.forall_mem_cons.mpr ⟨rfl, List.forall_mem_nil _⟩⟩) (by intro z h1 h2 h3; simp only [List.forall_mem_cons, List.not_mem_nil, false_implies, implies_true, and_true, ne_eq] at h2; simp [kstB, h1, h2]) (hp.out)
    · rename _ ≠ _ => hb0
      dsimp only [MPost]
      rename Fr _ _ _ _ => fr2
      rename News _ _ _ _ => ne2
      with_unfolding_all exact m_end (_, _, _, _) fr2 ne2 (List.forall_mem_nil _) (by intro p hp; kst_mem) rfl trivial (List.forall_mem_cons.mpr ⟨rfl, List.forall_mem_cons.mpr ⟨rfl, List.forall_mem_nil _⟩⟩) (by intro z h1 h2 h3; simp only [List.forall_mem_cons, List.not_mem_nil, false_implies, implies_true, and_true, ne_eq] at h2; simp [kstB, h1, h2]) (hp.step hb0)
  · clear fr1 ne1
    rintro ⟨a, ta, b, tb⟩ u h tk - hp fr1 ne1
    dsimp only at hp fr1 ne1 ⊢
    replace fr1 : Fr g' L' h _ := fr1
    replace ne1 : News g' L' h _ := ne1
    k_sweep
    k_steps
    subst hp
    (rename Fr g' _ _ _ => fr8); (rename News g' _ _ _ => ne8); exact m_ret hret fr8 ne8 (by assumption) (by assumption) hr N (by k_extra "m_pre") ⟨_⟩
inductive PLin (num n : Int) : Value → List (Addr × Obj) → Prop
  | mk (r : Int) (tr : Tok) (h0 : 0 ≤ r) (h1 : r < n) (h2 : n ∣ r * num - 1) : PLin num n (.int r tr) []
theorem c_lin (w : World) (mean : ExcName → Option Value) (mg mb : Str → Option Value) {num n : Int} {t1 t2 : Tok} (hn : 0 < n) (hB : Bd 2480 n) (hg : Int.gcd num n = 1) :
    Ctr PySem.Challenge.rw_ys0001_11.row.prog w (Mine.K w.params) Mine.V (looseW Mine.V [Str.ofString "NotRelativePrimeError", Str.ofString "int2bytes", Str.ofString "HASH_ASN1"]) mean mg mb 362 9 80 [.int num t1, .int n t2] []
      (PLin num n) := by
  k_with "call ref" => ((k_here; (with_reducible show wpAny _ _ (call (Value.ref 355) _) _ _ _); refine hold ?_))
  k_with "call ref" => ((k_here; (with_reducible show wpAny _ _ (call (Value.ref 355) _) _ _ _); k_dflt ((refine Ctr.use (c_lcom _ _ _ _ ?_ ?_ ?_ ?_) (by k_asm) (by k_asm) (by k_asm) (by k_asm) (by k_asm) (by first | exact rfl | assumption) (by k_extra "m_pre") (by walk_at "m_rest") (by first | exact roomk (by assumption) (by decide) | exact roomk2 (by assumption) (by decide) | ktr_room) (by first | exact roomk (by assumption) (by decide) | exact roomk2 (by assumption) (by decide) | ktr_units) ?_); (walk_at "m_fact"); (walk_at "m_fact"); (walk_at "m_bd"); (walk_at "m_bd")); rintro v9 l9 h9 tk9 ⟨tr9⟩ hlo9 F9 N9; clear hlo9; (try dsimp only [List.nil_append] at N9); k_sweep; (try k_fold)))
  k_with "binaryOp Mult int int" => (guard_hyp in_lin : True; first | (refine mul_int ?_ (LI.ok (by assumption) (by assumption) (by assumption)).1) | (refine mul_int ?_ (LI.ok (by assumption) (by assumption) (by assumption)).2))
  have in_lin : True := True.intro
  w_top off
  k_fill
  intro dp un gd cn cs' a ccd cl outer A₀ base h₀ L m rest s Q E B F X N hdis T hk hd hu hret
  refine wpAny_call ?_
  have N0 := news_left N
  k_dflt refine' code_defR (binds := [(Str.ofString "one", .int num t1), (Str.ofString "whole", .int n t2)]) ?k1 ?k2 ?k3 ?k4 ?k5 ?kA ?kF ?kK ?k6 ?k7 ?k8 ?k9 ?kB ?_ ?c2 ?c3 ?c4 ?c5
  k_dflt k_extra "m_enter"
  intro g' L' h' FG F' N' B' X' T' kept small
  (try dsimp only)
  (try k_extra "m_letA")
  (try k_fold)
  have hr := rest_kept N hdis kept
  k_steps
  unfold Hold
  (try k_gentoks)
  rename IsRange _ _ _ _ _ _ _ _ => hrng
  rename Fr _ _ _ _ => fr1
  rename News _ _ _ _ => ne1
  with_unfolding_all refine m_range (σ := Int × Tok × Int × Tok × Int × Tok × Int × Tok) (n := 5000) (fun _ => []) (fun c => [(Str.ofString "old", .int c.1 c.2.1), (Str.ofString "new", .int c.2.2.1 c.2.2.2.1), (Str.ofString "first", .int c.2.2.2.2.1 c.2.2.2.2.2.1), (Str.ofString "second", .int c.2.2.2.2.2.2.1 c.2.2.2.2.2.2.2)]) (fun _ => True) [Str.ofString "old", Str.ofString "new", Str.ofString "first", Str.ofString "second", Str.ofString "times"] (fun i c => LI num n i c.1 c.2.2.2.2.1 c.2.2.1 c.2.2.2.2.2.2.1) (fun c => ∃ i, LI num n i c.1 c.2.2.2.2.1 0 c.2.2.2.2.2.2.1) (n, _, num.fmod n, _, 0, _, 1, _) rfl hrng (by decide) (by rfl) fr1 ne1 (List.forall_mem_nil _) trivial (List.forall_mem_cons.mpr ⟨rfl, List.forall_mem_cons.mpr ⟨rfl, List.forall_mem_cons.mpr ⟨rfl, List.forall_mem_cons.mpr ⟨rfl, List.forall_mem_nil _⟩⟩⟩⟩) (LI.start hn hB hg) ?_ ?_ ?_
  · rintro ⟨a, ta, b, tb, x, tx, y, ty⟩ hp
    dsimp only at hp ⊢
    have e := hp.g.last (by decide)
    subst e
    exact ⟨_, hp⟩
  · clear fr1 ne1
    rintro ⟨a, ta, b, tb, x, tx, y, ty⟩ i k t u h tk own hk' hi hoff - hp fr1 ne1
    dsimp only at hp fr1 ne1 ⊢
    have hlg := hp.lg
    (try k_fold)
    k_steps
    · rename b = 0 => hb0
      subst hb0
      dsimp only [MPost]
      rename Fr _ _ _ _ => fr2
      rename News _ _ _ _ => ne2
      with_unfolding_all exact m_end (_, _, _, _, _, _, _, _) fr2 ne2 (List.forall_mem_nil _) (by intro p hp; kst_mem) rfl trivial (List.forall_mem_cons.mpr ⟨rfl, List.forall_mem_cons.mpr ⟨rfl, List.forall_mem_cons.mpr ⟨rfl, List.forall_mem_cons.mpr ⟨rfl, List.forall_mem_nil _⟩⟩⟩⟩) (by k_extra "m_same3") ⟨i, hp⟩
    · rename b ≠ 0 => hb0
      dsimp only [MPost]
      rename Fr _ _ _ _ => fr2
      rename News _ _ _ _ => ne2
      with_unfolding_all exact m_end (_, _, _, _, _, _, _, _) fr2 ne2 (List.forall_mem_nil _) (by intro p hp; kst_mem) rfl trivial (List.forall_mem_cons.mpr ⟨rfl, List.forall_mem_cons.mpr ⟨rfl, List.forall_mem_cons.mpr ⟨rfl, List.forall_mem_cons.mpr ⟨rfl, List.forall_mem_nil _⟩⟩⟩⟩) (by k_extra "m_same3") (hp.step hb0)
  · clear fr1 ne1
    rintro ⟨a, ta, b, tb, x, tx, y, ty⟩ u h tk - ⟨i, hp⟩ fr1 ne1
    dsimp only at hp fr1 ne1 ⊢
    replace fr1 : Fr g' L' h _ := fr1
    replace ne1 : News g' L' h _ := ne1
    k_sweep
    k_steps
    (rename Fr g' _ _ _ => fr8); (rename News g' _ _ _ => ne8); exact m_ret hret fr8 ne8 (by assumption) (by assumption) hr N (by k_extra "m_pre") ⟨_, _, (hp.done hn).1, (hp.done hn).2.1, (hp.done hn).2.2⟩
theorem c_lsize (w : World) (mean : ExcName → Option Value) (mg mb : Str → Option Value) {n : Int} {t1 : Tok} (hn : Bd 1240 n) :
    Ctr PySem.Challenge.rw_ys0001_11.row.prog w (Mine.K w.params) Mine.V (looseW Mine.V [Str.ofString "NotRelativePrimeError", Str.ofString "int2bytes", Str.ofString "HASH_ASN1"]) mean mg mb 369 5 20 [.int n t1] []
      (PInt (szI n) []) := by
  k_with "call ref" => ((k_here; (with_reducible show wpAny _ _ (call (Value.ref 362) _) _ _ _); refine hold ?_))
  k_with "call ref" => ((k_here; (with_reducible show wpAny _ _ (call (Value.ref 362) _) _ _ _); k_dflt ((refine Ctr.use (c_lin _ _ _ _ ?_ ?_ ?_) (by k_asm) (by k_asm) (by k_asm) (by k_asm) (by k_asm) (by first | exact rfl | assumption) (by k_extra "m_pre") (by walk_at "m_rest") (by first | exact roomk (by assumption) (by decide) | exact roomk2 (by assumption) (by decide) | ktr_room) (by first | exact roomk (by assumption) (by decide) | exact roomk2 (by assumption) (by decide) | ktr_units) ?_); (walk_at "m_fact"); (walk_at "m_bd"); (assumption)); rintro v9 l9 h9 tk9 ⟨r9, tr9, hd0, hd1, hd2⟩ hlo9 F9 N9; clear hlo9; (try dsimp only [List.nil_append] at N9); k_sweep; (try k_fold)))
  w_top off
  k_fill
  intro dp un gd cn cs' a ccd cl outer A₀ base h₀ L m rest s Q E B F X N hdis T hk hd hu hret
  refine wpAny_call ?_
  have N0 := news_left N
  k_dflt refine' code_defR (binds := [(Str.ofString "n", .int n t1)]) ?k1 ?k2 ?k3 ?k4 ?k5 ?kA ?kF ?kK ?k6 ?k7 ?k8 ?k9 ?kB ?_ ?c2 ?c3 ?c4 ?c5
  k_dflt k_extra "m_enter"
  intro g' L' h' FG F' N' B' X' T' kept small
  (try dsimp only)
  (try k_extra "m_letA")
  (try k_fold)
  have hr := rest_kept N hdis kept
  k_steps
  (rename Fr g' _ _ _ => fr8); (rename News g' _ _ _ => ne8); exact m_ret hret fr8 ne8 (by assumption) (by assumption) hr N (by k_extra "m_pre") ⟨_⟩
theorem c_bsize (w : World) (mean : ExcName → Option Value) (mg mb : Str → Option Value) {n : Int} {t1 : Tok} (hn : Bd 1240 n) (h0 : 0 < n) :
    Ctr PySem.Challenge.rw_ys0001_11.row.prog w (Mine.K w.params) Mine.V (looseW Mine.V [Str.ofString "NotRelativePrimeError", Str.ofString "int2bytes", Str.ofString "HASH_ASN1"]) mean mg mb 49 9 40 [.int n t1] []
      (PInt (szI n) []) := by
  k_with "call ref" => ((k_here; (with_reducible show wpAny _ _ (call (Value.ref 369) _) _ _ _); refine hold ?_))
  k_with "call ref" => ((k_here; (with_reducible show wpAny _ _ (call (Value.ref 369) _) _ _ _); k_dflt ((refine Ctr.use (c_lsize _ _ _ _ ?_) (by k_asm) (by k_asm) (by k_asm) (by k_asm) (by k_asm) (by first | exact rfl | assumption) (by k_extra "m_pre") (by walk_at "m_rest") (by first | exact roomk (by assumption) (by decide) | exact roomk2 (by assumption) (by decide) | ktr_room) (by first | exact roomk (by assumption) (by decide) | exact roomk2 (by assumption) (by decide) | ktr_units) ?_); (walk_at "m_bd")); rintro v9 l9 h9 tk9 ⟨tr9⟩ hlo9 F9 N9; clear hlo9; (try dsimp only [List.nil_append] at N9); k_sweep; (try k_fold)))
  k_with "call ref" => (guard_hyp in_bsize : True; (k_here; (with_reducible show wpAny _ _ (call (Value.ref 42) _) _ _ _); k_dflt (walk_at "m_inline")))
  k_with "call ref" => (guard_hyp in_bsize : True; (k_here; (with_reducible show wpAny _ _ (call (Value.ref 56) _) _ _ _); k_dflt (walk_at "m_inline")))
  have in_bsize : True := True.intro
  w_top off
  k_fill
  intro dp un gd cn cs' a ccd cl outer A₀ base h₀ L m rest s Q E B F X N hdis T hk hd hu hret
  refine wpAny_call ?_
  have N0 := news_left N
  k_dflt refine' code_defR (binds := [(Str.ofString "number", .int n t1)]) ?k1 ?k2 ?k3 ?k4 ?k5 ?kA ?kF ?kK ?k6 ?k7 ?k8 ?k9 ?kB ?_ ?c2 ?c3 ?c4 ?c5
  k_dflt k_extra "m_enter"
  intro g' L' h' FG F' N' B' X' T' kept small
  (try dsimp only)
  (try k_extra "m_letA")
  (try k_fold)
  have hr := rest_kept N hdis kept
  k_steps
  · lia
  · (rename Fr g' _ _ _ => fr8); (rename News g' _ _ _ => ne8); exact m_ret hret fr8 ne8 (by assumption) (by assumption) hr N (by k_extra "m_pre") (PInt.of (szI_up (by assumption)))
  · (rename Fr g' _ _ _ => fr8); (rename News g' _ _ _ => ne8); exact m_ret hret fr8 ne8 (by assumption) (by assumption) hr N (by k_extra "m_pre") (PInt.of (szI_even (by assumption)))
theorem c_i2b (w : World) (mean : ExcName → Option Value) (mg mb : Str → Option Value) {x k : Int} {t1 t2 : Tok} (h0 : 0 ≤ x) (hk0 : 0 < k) (hk1 : k ≤ 10000) (hx : x < 256 ^ k.toNat) :
    Ctr PySem.Challenge.rw_ys0001_11.row.prog w (Mine.K w.params) Mine.V (looseW Mine.V [Str.ofString "NotRelativePrimeError", Str.ofString "int2bytes", Str.ofString "HASH_ASN1"]) mean mg mb 106 5 40 [.int x t1, .int k t2] []
      (PByt (KTBy.little k.toNat x).reverse []) := by
  k_with "call ref" => ((k_here; (with_reducible show wpAny _ _ (call (Value.ref 49) _) _ _ _); refine hold ?_))
  k_with "call ref" => ((k_here; (with_reducible show wpAny _ _ (call (Value.ref 49) _) _ _ _); k_dflt ((refine Ctr.use (c_bsize _ _ _ _ ?_ ?_) (by k_asm) (by k_asm) (by k_asm) (by k_asm) (by k_asm) (by first | exact rfl | assumption) (by k_extra "m_pre") (by walk_at "m_rest") (by first | exact roomk (by assumption) (by decide) | exact roomk2 (by assumption) (by decide) | ktr_room) (by first | exact roomk (by assumption) (by decide) | exact roomk2 (by assumption) (by decide) | ktr_units) ?_); (walk_at "m_bd"); (walk_at "m_fact")); rintro v9 l9 h9 tk9 ⟨tr9⟩ hlo9 F9 N9; clear hlo9; (try dsimp only [List.nil_append] at N9); k_sweep; (try k_fold)))
  k_with "call builtin:int.to_bytes" => (guard_hyp in_i2b : True; (refine hold ?_))
  have in_i2b : True := True.intro
  w_top off
  k_fill
  intro dp un gd cn cs' a ccd cl outer A₀ base h₀ L m rest s Q E B F X N hdis T hk hd hu hret
  refine wpAny_call ?_
  have N0 := news_left N
  k_dflt refine' code_defR (binds := [(Str.ofString "number", .int x t1), (Str.ofString "fill_size", .int k t2)]) ?k1 ?k2 ?k3 ?k4 ?k5 ?kA ?kF ?kK ?k6 ?k7 ?k8 ?k9 ?kB ?_ ?c2 ?c3 ?c4 ?c5
  k_dflt ((case kA => exact rfl); (case kF => exact rfl); (case kK => assumption); (case k1 => k_asm); (case k2 => k_asm); (case k3 => k_asm); (case k4 => k_asm); (case k5 => k_asm); (case k6 => k_is); (case k7 => k_is); (case k8 => ktr_room); (case k9 => exact binds_K (by k_in) rfl (by k_is) rfl rfl rfl); (case c5 => decide); (case kB => exact locs rfl); (case c2 => exact rfl); (case c3 => exact rfl); (case c4 => exact rfl); k_whole)
  intro g' L' h' FG F' N' B' X' T' kept small
  (try dsimp only)
  (try k_extra "m_letA")
  (try k_fold)
  have hr := rest_kept N hdis kept
  k_steps
  unfold Hold
  refine to_octets (k := k.toNat) (by lia) (by lia) h0 hx ?_
  intro b9 t9 n9 hb9
  k_steps
  (rename Fr g' _ _ _ => fr8); (rename News g' _ _ _ => ne8); exact m_ret hret fr8 ne8 (by assumption) (by assumption) hr N (by k_extra "m_pre") ⟨_, _, hb9⟩
theorem c_b2i (w : World) (mean : ExcName → Option Value) (mg mb : Str → Option Value) {b : Array UInt8} {t1 : Tok} (hb : b.size ≤ 100000) :
    Ctr PySem.Challenge.rw_ys0001_11.row.prog w (Mine.K w.params) Mine.V (looseW Mine.V [Str.ofString "NotRelativePrimeError", Str.ofString "int2bytes", Str.ofString "HASH_ASN1"]) mean mg mb 98 5 40 [.bytes b t1] []
      (PInt (KFB.value (KBw.bInts b)) []) := by
  k_with "call ref" => ((k_here; (with_reducible show wpAny _ _ (call (Value.ref 106) _) _ _ _); refine hold ?_))
  k_with "call ref" => ((k_here; (with_reducible show wpAny _ _ (call (Value.ref 106) _) _ _ _); k_dflt ((refine Ctr.use (c_i2b _ _ _ _ ?_ ?_ ?_ ?_) (by k_asm) (by k_asm) (by k_asm) (by k_asm) (by k_asm) (by first | exact rfl | assumption) (by k_extra "m_pre") (by walk_at "m_rest") (by first | exact roomk (by assumption) (by decide) | exact roomk2 (by assumption) (by decide) | ktr_room) (by first | exact roomk (by assumption) (by decide) | exact roomk2 (by assumption) (by decide) | ktr_units) ?_); (walk_at "m_fact"); (walk_at "m_fact"); (walk_at "m_fact"); (walk_at "m_fact")); rintro v9 l9 h9 tk9 ⟨b9, tb9, hb9⟩ hlo9 F9 N9; clear hlo9; (try dsimp only [List.nil_append] at N9); k_sweep; (try k_fold)))
  k_with "callWith ref" => (guard_hyp in_b2i : True; (k_here; (with_reducible show wpAny _ _ (callWith _ (Value.ref _) _ (backTo _ (starEach (_ :: _) _)) (backToKw _ _)) _ _ _); k_dflt (refine callWith_boundKw rfl ?_)))
  k_with "call ref" => (guard_hyp in_b2i : True; (refine hold ?_))
  have in_b2i : True := True.intro
  w_top off
  k_fill
  intro dp un gd cn cs' a ccd cl outer A₀ base h₀ L m rest s Q E B F X N hdis T hk hd hu hret
  refine wpAny_call ?_
  have N0 := news_left N
  k_dflt refine' code_defR (binds := [(Str.ofString "raw_bytes", .bytes b t1)]) ?k1 ?k2 ?k3 ?k4 ?k5 ?kA ?kF ?kK ?k6 ?k7 ?k8 ?k9 ?kB ?_ ?c2 ?c3 ?c4 ?c5
  k_dflt k_extra "m_enter"
  intro g' L' h' FG F' N' B' X' T' kept small
  (try dsimp only)
  (try k_extra "m_letA")
  (try k_fold)
  have hr := rest_kept N hdis kept
  k_steps
  unfold Hold
  rename News _ _ _ _ => ne1
  show wpAny _ _ (call (Value.ref _) [.bytes b t1, .str (Str.ofString "big") _] [(Str.ofString "signed", .bool false)]) _ _ _
  refine from_octets ne1 (by k_mem) (Nat.le_trans hb (by decide)) ?_
  intro t9 n9
  k_steps
  (rename Fr g' _ _ _ => fr8); (rename News g' _ _ _ => ne8); exact m_ret hret fr8 ne8 (by assumption) (by assumption) hr N (by k_extra "m_pre") ⟨_⟩
inductive PPad (ms : List Int) (k : Int) : Value → List (Addr × Obj) → Prop
  | mk (c : Array UInt8) (tb : Tok) (h : KBw.bInts c = [0, 1] ++ List.replicate (k - (ms.length : Int) - 3).toNat 255 ++ [0] ++ ms) (hz : (c.size : Int) = k) : PPad ms k (.bytes c tb) []
theorem c_pad (w : World) (mean : ExcName → Option Value) (mg mb : Str → Option Value) {b : Array UInt8} {ms : List Int} {k : Int} {t1 t2 : Tok} (hb : KBw.bInts b = ms) (hk0 : (ms.length : Int) ≤ k - 11) (hk1 : k ≤ 10000) :
    Ctr PySem.Challenge.rw_ys0001_11.row.prog w (Mine.K w.params) Mine.V (looseW Mine.V [Str.ofString "NotRelativePrimeError", Str.ofString "int2bytes", Str.ofString "HASH_ASN1"]) mean mg mb 156 5 40 [.bytes b t1, .int k t2] []
      (PPad ms k) := by
  k_with "call ref" => ((k_here; (with_reducible show wpAny _ _ (call (Value.ref 98) _) _ _ _); refine hold ?_))
  k_with "call ref" => ((k_here; (with_reducible show wpAny _ _ (call (Value.ref 98) _) _ _ _); k_dflt ((refine Ctr.use (c_b2i _ _ _ _ ?_) (by k_asm) (by k_asm) (by k_asm) (by k_asm) (by k_asm) (by first | exact rfl | assumption) (by k_extra "m_pre") (by walk_at "m_rest") (by first | exact roomk (by assumption) (by decide) | exact roomk2 (by assumption) (by decide) | ktr_room) (by first | exact roomk (by assumption) (by decide) | exact roomk2 (by assumption) (by decide) | ktr_units) ?_); (lia)); rintro v9 l9 h9 tk9 ⟨tr9⟩ hlo9 F9 N9; clear hlo9; (try dsimp only [List.nil_append] at N9); k_sweep; (try k_fold)))
  k_with "binaryOp Mult int bytes" => (guard_hyp in_pad : True; (k_here; (refine ff_times ?_ ?_ ?_); (lia); (lia); intro _ _))
  k_with "getMethod bytes" => (guard_hyp in_pad : True; (k_here; (refine join_method ?_)))
  k_with "call builtin:bytes.join" => (guard_hyp in_pad : True; (refine hold ?_))
  have in_pad : True := True.intro
  w_top off
  k_fill
  intro dp un gd cn cs' a ccd cl outer A₀ base h₀ L m rest s Q E B F X N hdis T hk hd hu hret
  refine wpAny_call ?_
  have N0 := news_left N
  k_dflt refine' code_defR (binds := [(Str.ofString "message", .bytes b t1), (Str.ofString "target_length", .int k t2)]) ?k1 ?k2 ?k3 ?k4 ?k5 ?kA ?kF ?kK ?k6 ?k7 ?k8 ?k9 ?kB ?_ ?c2 ?c3 ?c4 ?c5
  k_dflt k_extra "m_enter"
  intro g' L' h' FG F' N' B' X' T' kept small
  (try dsimp only)
  (try k_extra "m_letA")
  (try k_fold)
  have hr := rest_kept N hdis kept
  k_steps
  unfold Hold
  rename News _ _ _ _ => ne1
  have hls := News.isList ne1 (List.Mem.head _)
  refine join4 hls (pad_size hb (by lia)) ?_
  intro t9 n9
  k_steps
  (rename Fr g' _ _ _ => fr8); (rename News g' _ _ _ => ne8); exact m_ret hret fr8 ne8 (by assumption) (by assumption) hr N (by k_extra "m_pre") ⟨_, _, pad_ints hb, pad_total hb (by lia)⟩
inductive PEnc (k : Int) : Value → List (Addr × Obj) → Prop
  | mk (c : Array UInt8) (tb : Tok) (cs : List Int) (h : KBw.bInts c = 0 :: cs) (hz : (c.size : Int) = k) : PEnc k (.bytes c tb) []
theorem c_penc (w : World) (mean : ExcName → Option Value) (mg mb : Str → Option Value) {b d : Array UInt8} {ms ds : List Int} {k : Int} {t1 t2 t3 : Tok} (hb : KBw.bInts b = ms) (hd9 : KBw.bInts d = ds) (hnz : ∀ n ∈ ds, n ≠ 0) (hdl : (ds.length : Int) = k) (hk0 : (ms.length : Int) ≤ k - 11) (hk1 : k ≤ 10000) :
    Ctr PySem.Challenge.rw_ys0001_11.row.prog w (Mine.K w.params) Mine.V (looseW Mine.V [Str.ofString "NotRelativePrimeError", Str.ofString "int2bytes", Str.ofString "HASH_ASN1"]) mean mg mb 149 8 60 [.bytes b t1, .int k t2, .bytes d t3] []
      (PEnc k) := by
  k_with "call ref" => ((k_here; (with_reducible show wpAny _ _ (call (Value.ref 156) _) _ _ _); refine hold ?_))
  k_with "call ref" => ((k_here; (with_reducible show wpAny _ _ (call (Value.ref 156) _) _ _ _); k_dflt ((refine Ctr.use (c_pad _ _ _ _ (by assumption) ?_ ?_) (by k_asm) (by k_asm) (by k_asm) (by k_asm) (by k_asm) (by first | exact rfl | assumption) (by k_extra "m_pre") (by walk_at "m_rest") (by first | exact roomk (by assumption) (by decide) | exact roomk2 (by assumption) (by decide) | ktr_room) (by first | exact roomk (by assumption) (by decide) | exact roomk2 (by assumption) (by decide) | ktr_units) ?_); (lia); (lia)); rintro v9 l9 h9 tk9 ⟨b9, tb9, hb9, hbz9⟩ hlo9 F9 N9; clear hlo9; (try dsimp only [List.nil_append] at N9); k_sweep; (try k_fold)))
  k_with "eval ListComp" => (guard_hyp in_penc : True; (k_here; k_dflt (refine ListComp_TB (by k_asm) (by with_unfolding_all rfl) (by decide) (by rfl) (by decide) (by rfl) ?_ (by intro _; with_unfolding_all rfl))))
  k_with "SrcBT" => (guard_hyp in_penc : True; (refine hold ?_))
  k_with "call type:bytes" => (guard_hyp in_penc : True; (refine hold ?_))
  k_with "getMethod bytes" => (guard_hyp in_penc : True; (k_here; (refine join_method ?_)))
  k_with "call builtin:bytes.join" => (guard_hyp in_penc : True; (refine hold ?_))
  have in_penc : True := True.intro
  w_top off
  k_fill
  intro dp un gd cn cs' a ccd cl outer A₀ base h₀ L m rest s Q E B F X N hdis T hk hd hu hret
  refine wpAny_call ?_
  have N0 := news_left N
  k_dflt refine' code_defR (binds := [(Str.ofString "message", .bytes b t1), (Str.ofString "target_length", .int k t2), (Str.ofString "drawn", .bytes d t3)]) ?k1 ?k2 ?k3 ?k4 ?k5 ?kA ?kF ?kK ?k6 ?k7 ?k8 ?k9 ?kB ?_ ?c2 ?c3 ?c4 ?c5
  k_dflt k_extra "m_enter"
  intro g' L' h' FG F' N' B' X' T' kept small
  (try dsimp only)
  (try k_extra "m_letA")
  (try k_fold)
  have hr := rest_kept N hdis kept
  k_steps
  unfold Hold
  rename Fr g' _ _ _ => fr2
  rename News g' _ _ _ => ne2
  have hdz : d.size = ds.length := by rw [← hd9, KBw.ints_length]
  have hbz : b.size = ms.length := by rw [← hb, KBw.ints_length]
  have hdin : ∀ n ∈ ds, 0 ≤ n ∧ n < 256 := hd9 ▸ bInts_in d
  refine SrcBT.mk rfl fr2 ne2 (by rw [sizeLine_eq]; lia) (fun g9 => ?_)
  with_unfolding_all refine compT_ind (fun i ys => IntsAre ys (ds.take i)) .nil ?_ ?_
  · intro i ys R' hi9 hb8 hR v I oI C oC D m₂ h9 tk9 E' hP hC hx fr3 ne3 off ne9
    obtain ⟨c9, u9, hc9, rfl⟩ := hP
    have hds := KBw.ints_get hc9
    rw [hd9] at hds
    have hnz9 := hnz _ (List.mem_of_getElem? hds)
    have htk : List.take (i + 1) ds = List.take i ds ++ [((c9.toNat : Nat) : Int)] := by rw [List.take_add_one, hds]; rfl
    clear fr2 ne2
    k_sweep
    (try k_fold)
    k_steps
    · exact hR _ (htk ▸ intsAre_append hb8 (.cons _ _ .nil))
    · exact absurd (by assumption) hnz9
  · intro ys hI9
    rw [hdz, List.take_length] at hI9
    unfold LCg.FinE
    intro D h9 tk9 fr3 ne3 off
    clear fr2 ne2
    k_sweep
    (try k_fold)
    k_steps
    unfold Hold
    rename Fr g' _ _ _ => fr3
    rename News g' _ _ _ => ne3
    refine KBa.make_K fr3 ne3 rfl (News.isList ne3 (List.Mem.head _)) hI9 hdin (by lia) ?_
    intro h8 t8 k8 fr4 ne4 hin8
    clear fr3 ne3
    have hbb := KBa.ints_make hin8
    have hcl : clipAt ds.length (k - ms.length - 3) = (k - ms.length - 3).toNat := clip_le (by lia) (by lia)
    k_steps
    · unfold Hold
      rename News g' _ _ _ => ne5
      rename KBw.bInts (KBy.picked _ _ _) = _ => hcut
      rw [hcl] at hcut
      have htl : (List.take (k - ms.length - 3).toNat ds).length = (k - ms.length - 3).toNat := by rw [List.length_take]; lia
      have htot := enc_total hcut hb
      rw [htl] at htot
      refine join4 (News.isList ne5 (List.Mem.head _)) (by lia) ?_
      intro t9 n9
      k_steps
      (rename Fr g' _ _ _ => fr8); (rename News g' _ _ _ => ne8); exact m_ret hret fr8 ne8 (by assumption) (by assumption) hr N (by k_extra "m_pre") ⟨_, _, _, enc_ints hcut hb, by lia⟩
    · exfalso
      rename ((min _ _ : Nat) : Int) ≠ _ => hbad
      rw [hcl] at hbad
      lia
inductive PEnb (w : World) (x dx : Nat) (S : KeyS) (bf : Int) (t1 : Tok) (bi : Int) (t2 : Tok) : Value → List (Addr × Obj) → Prop
  | mk (c : Array UInt8) (tc : Tok) (hz : (c.size : Int) = szI S.n) : PEnb w x dx S bf t1 bi t2 (.bytes c tc) (PubL w 285 x dx S bf t1 bi t2)
theorem c_enc (w : World) (mean : ExcName → Option Value) (mg mb : Str → Option Value) {x dx : Nat} {S : KeyS} {bf bi : Int} {t1 t2 tm td : Tok} {b d : Array UInt8} {ms ds : List Int} (hk : KOk S) (hb : KBw.bInts b = ms) (hd9 : KBw.bInts d = ds) (hnz : ∀ n ∈ ds, n ≠ 0) (hdl : (ds.length : Int) = szI S.n) (hl : (ms.length : Int) ≤ szI S.n - 11) :
    Ctr PySem.Challenge.rw_ys0001_11.row.prog w (Mine.K w.params) Mine.V (looseW Mine.V [Str.ofString "NotRelativePrimeError", Str.ofString "int2bytes", Str.ofString "HASH_ASN1"]) mean mg mb 163 45 400 [.bytes b tm, .ref x, .bytes d td] (PubL w 285 x dx S bf t1 bi t2)
      (PEnb w x dx S bf t1 bi t2) := by
  k_with "call ref" => ((k_here; (with_reducible show wpAny _ _ (call (Value.ref 149) _) _ _ _); refine hold ?_))
  k_with "call ref" => ((k_here; (with_reducible show wpAny _ _ (call (Value.ref 149) _) _ _ _); k_dflt ((refine Ctr.use (c_penc _ _ _ _ (by assumption) (by assumption) (by assumption) ?_ ?_ ?_) (by k_asm) (by k_asm) (by k_asm) (by k_asm) (by k_asm) (by first | exact rfl | assumption) (by k_extra "m_pre") (by walk_at "m_rest") (by first | exact roomk (by assumption) (by decide) | exact roomk2 (by assumption) (by decide) | ktr_room) (by first | exact roomk (by assumption) (by decide) | exact roomk2 (by assumption) (by decide) | ktr_units) ?_); (first | assumption | lia); (first | assumption | lia); (lia)); rintro v9 l9 h9 tk9 ⟨b9, tb9, cs9, hb9, hbz9⟩ hlo9 F9 N9; clear hlo9; (try dsimp only [List.nil_append] at N9); k_sweep; (try k_fold)))
  obtain ⟨hk0, hk1, hk2, hk3⟩ := hk
  have hsz : szI S.n ≤ 155 := by have := szI_le hk1; lia
  have hn0 : 0 < szI S.n := by lia
  have hlt := lt_octets hk0
  w_top off
  k_fill
  intro dp un gd cn cs' a ccd cl outer A₀ base h₀ L m rest s Q E B F X N hdis T hkf hd hu hret
  refine wpAny_call ?_
  have N0 := news_left N
  k_dflt refine' code_defR (binds := [(Str.ofString "message", .bytes b tm), (Str.ofString "pub_key", .ref x), (Str.ofString "drawn", .bytes d td)]) ?k1 ?k2 ?k3 ?k4 ?k5 ?kA ?kF ?kK ?k6 ?k7 ?k8 ?k9 ?kB ?_ ?c2 ?c3 ?c4 ?c5
  k_dflt k_extra "m_enter"
  intro g' L' h' FG F' N' B' X' T' kept small
  (try dsimp only)
  (try k_extra "m_letA")
  (try k_fold)
  have hr := rest_kept N hdis kept
  k_steps
  unfold Hold
  have hin9 := bInts_in b9
  rw [hb9] at hin9
  have hpay := pay_le hk0 hin9 (by rw [← hb9, KBw.ints_length]; exact hbz9)
  rw [← hb9] at hpay
  have hp0 := hpay.1
  have hp1 := hpay.2
  have hres0 := PM_nn (KFB.value (KBw.bInts b9)) S.e S.n
  have hres := Int.lt_trans (PM_lt (x := KFB.value (KBw.bInts b9)) (y := S.e) hk0) hlt
  k_steps
  rename KBw.bInts _ = List.reverse _ => hout
  (rename Fr g' _ _ _ => fr8); (rename News g' _ _ _ => ne8); exact m_ret hret fr8 ne8 (by assumption) (by assumption) hr N (by k_extra "m_pre") ⟨_, _, by have e := congrArg List.length hout; rw [KBw.ints_length, List.length_reverse, KTBy.little_length] at e; lia⟩
noncomputable def tabRows (P : Params) : List (Str × Tok × Value) := strRows ((K P).lookup 107)
theorem tab_names : ∀ P : Params, (tabRows P).map (·.1) = hN := fun P => by kernel_rfl
theorem tab_codes : ∀ P : Params, (tabRows P).map (fun x => octs x.2.2) = hC := fun P => by kernel_rfl
theorem tab_bytes : ∀ P : Params, (tabRows P).all (fun x => isBy x.2.2) = true := fun P => by kernel_rfl
theorem tab_at : ∀ P : Params, (K P).lookup 107 = some { cls := .type "dict", data := .dict (strEs P (tabRows P)).toArray 9 } := fun P => by kernel_rfl
theorem c_tab {w : World} {h : Heap} (X : (K w.params).In h) : ∃ kvs, h.DictOf (PySem.strKind PySem.Challenge.rw_ys0001_11.prog w) 107 kvs ∧ TabOk kvs := by
  k_with "call ref" => ((k_here; (with_reducible show wpAny _ _ (call (Value.ref 163) _) _ _ _); refine hold ?_))
  k_with "call ref" => ((k_here; (with_reducible show wpAny _ _ (call (Value.ref 163) _) _ _ _); k_dflt ((refine Ctr.use (c_enc _ _ _ _ (by assumption) (by assumption) (by assumption) (by assumption) ?_ ?_) (by k_asm) (by k_asm) (by k_asm) (by k_asm) (by k_asm) (by first | exact rfl | assumption) (by k_extra "m_pre") (by walk_at "m_rest") (by first | exact roomk (by assumption) (by decide) | exact roomk2 (by assumption) (by decide) | ktr_room) (by first | exact roomk (by assumption) (by decide) | exact roomk2 (by assumption) (by decide) | ktr_units) ?_); (first | assumption | lia); (first | assumption | lia)); rintro v9 l9 h9 tk9 ⟨c9, tc9, hcz9⟩ hlo9 F9 N9; clear hlo9; (try dsimp only [List.cons_append, List.nil_append] at N9); k_sweep; (try k_fold)))
  exact ⟨_, dictOf_rows (X _ _ (tab_at w.params)) (tab_names w.params ▸ hN_nodup), by rw [List.map_map]; exact tab_names w.params, by rw [List.map_map]; exact tab_codes w.params, by rw [List.all_map]; exact tab_bytes w.params⟩
inductive PSig (w : World) (x dx : Nat) (S : KeyS) (ms : List Int) (i : Nat) : Value → List (Addr × Obj) → Prop
  | mk (b' : Int) (s1 : Tok) (i' : Int) (s2 : Tok) (c : Array UInt8) (tc : Tok) (h : KBw.bInts c = (KTBy.little (szI S.n).toNat (PM (KFB.value ([0, 1] ++ List.replicate (szI S.n - ((hC.getD i [] ++ ms).length : Int) - 3).toNat 255 ++ [0] ++ (hC.getD i [] ++ ms))) S.d S.n)).reverse) (hb : BfOk S b' i') : PSig w x dx S ms i (.bytes c tc) (KeyL w 332 x dx S b' s1 i' s2)
theorem c_sign (w : World) (mean : ExcName → Option Value) (mg mb : Str → Option Value) {x dx : Nat} {S : KeyS} {bf bi : Int} {t1 t2 tm th : Tok} {b : Array UInt8} {ms : List Int} {i : Nat} (hne : @Ne Nat x dx) (hk : KRsa S) (hb : BfOk S bf bi) (hm : KBw.bInts b = ms) (hi : i < 9) (hl : ((hC.getD i []).length : Int) + ms.length ≤ szI S.n - 11) :
    Ctr PySem.Challenge.rw_ys0001_11.row.prog w (Mine.K w.params) Mine.V (looseW Mine.V [Str.ofString "NotRelativePrimeError", Str.ofString "int2bytes", Str.ofString "HASH_ASN1"]) mean mg mb 177 45 400 [.bytes b tm, .ref x, .str (hN.getD i (Str.ofString "")) th] (KeyL w 332 x dx S bf t1 bi t2)
      (PSig w x dx S ms i) := by
  k_with "compareOp NotIn str ref" => (guard_hyp in_sign : True; (refine hold ?_))
  k_with "subscriptTail Name Name ref str" => (guard_hyp in_sign : True; (refine hold ?_))
  have in_sign : True := True.intro
  have hkk := hk.ok
  obtain ⟨hk0, hk1, hk2, hk3⟩ := hk.ok
  have d0 := hk.d0
  have hcl := hC_len hi
  have hsz : szI S.n ≤ 155 := by have := szI_le hk1; lia
  have hl' : ((hC.getD i [] ++ ms).length : Int) ≤ szI S.n - 11 := by rw [List.length_append]; lia
  have hn0 : 0 < szI S.n := by lia
  have hlt := lt_octets hk0
  w_top off
  k_fill
  intro dp un gd cn cs' a ccd cl outer A₀ base h₀ L m rest s Q E B F X N hdis T hkf hd hu hret
  refine wpAny_call ?_
  have N0 := news_left N
  k_dflt refine' code_defR (binds := [(Str.ofString "hash_value", .bytes b tm), (Str.ofString "priv_key", .ref x), (Str.ofString "hash_method", .str (hN.getD i (Str.ofString "")) th)]) ?k1 ?k2 ?k3 ?k4 ?k5 ?kA ?kF ?kK ?k6 ?k7 ?k8 ?k9 ?kB ?_ ?c2 ?c3 ?c4 ?c5
  k_dflt k_extra "m_enter"
  intro g' L' h' FG F' N' B' X' T' kept small
  (try dsimp only)
  (try k_extra "m_letA")
  (try k_fold)
  have hr := rest_kept N hdis kept
  obtain ⟨kvs, hT, hTab⟩ := c_tab X'
  obtain ⟨cb, ct, hcv, hcb⟩ := hTab.at hi
  k_steps
  unfold Hold
  rename Fr g' _ _ _ => fr1
  refine tab_notin (hT.keep fr1.keep) (by decide) hcv ?_
  k_steps
  unfold Hold
  rename Fr g' _ _ _ => fr2
  refine tab_item (hT.keep fr2.keep) hcv ?_
  k_steps
  unfold Hold
  have hbp := hb9
  have hvb := value_bd (bInts_in b9) (by rw [KBw.ints_length]; lia)
  obtain ⟨hv0, hvB⟩ := hvb
  have hres0 := PM_nn (KFB.value (KBw.bInts b9)) S.d S.n
  have hres := Int.lt_trans (PM_lt (x := KFB.value (KBw.bInts b9)) (y := S.d) hk0) hlt
  k_steps
  rename KBw.bInts _ = List.reverse _ => hout
  rw [hbp] at hout
  (rename Fr g' _ _ _ => fr8); (rename News g' _ _ _ => ne8); exact m_ret hret fr8 ne8 (by assumption) (by assumption) hr N (by k_extra "m_pre") ⟨_, _, _, _, _, _, hout, by assumption⟩
inductive PKey9 (least : Int) : Value → List (Addr × Obj) → Prop
  | mk (tp : Nat) (p q e d : Int) (u1 u2 u3 u4 : Tok) (hp : PrOk p) (hq : PrOk q) (hpq : p ≠ q) (hl : least ≤ szI (p * q)) (he : 3 ≤ e) (he' : e < 100000) (hd : 0 ≤ d) (hd' : d < (p - 1) * (q - 1)) (hi : (p - 1) * (q - 1) ∣ d * e - 1) : PKey9 least (.ref tp) [(tp, ({ cls := .type "tuple", data := .seq #[.int p u1, .int q u2, .int e u3, .int d u4] } : Obj))]
theorem c_keys (w : World) (mean : ExcName → Option Value) (mg mb : Str → Option Value) {sc : Nat} {vs : List Value} {ns : List Int} {start least : Int} {t1 t2 : Tok} (hS : Scr vs ns) (hs0 : 0 ≤ start) (hs1 : start < 900) (hl0 : 0 ≤ least) (hl1 : least ≤ 69) :
    CtrB PySem.Challenge.rw_ys0001_11.row.prog w (Mine.K w.params) Mine.V (looseW Mine.V [Str.ofString "NotRelativePrimeError", Str.ofString "int2bytes", Str.ofString "HASH_ASN1"]) mean mg mb 374 30 300 [.ref sc, .int start t1, .int least t2] [] (fun base => base.IsList sc vs.toArray)
      (PKey9 least) := by
  k_with "call ref" => ((k_here; (with_reducible show wpAny _ _ (call (Value.ref 177) _) _ _ _); refine hold ?_))
  k_with "call ref" => ((k_here; (with_reducible show wpAny _ _ (call (Value.ref 177) _) _ _ _); k_dflt ((refine Ctr.use (c_sign _ _ _ _ (by assumption) (by assumption) (by assumption) (by assumption) (by assumption) (by assumption)) (by k_asm) (by k_asm) (by k_asm) (by k_asm) (by k_asm) (by first | exact rfl | assumption) (by k_extra "m_pre") (by walk_at "m_rest") (by first | exact roomk (by assumption) (by decide) | exact roomk2 (by assumption) (by decide) | ktr_room) (by first | exact roomk (by assumption) (by decide) | exact roomk2 (by assumption) (by decide) | ktr_units) ?_)); rintro v9 l9 h9 tk9 ⟨b9, s9, i9, t9, c9, tc9, hc9, h9a⟩ hlo9 F9 N9; clear hlo9; (try dsimp only [List.cons_append, List.nil_append] at N9); k_sweep; (try k_fold)))
  k_with "binaryOp LShift int int" => (guard_hyp in_keys : True; ((rename @Membership.mem Int (List Int) _ _ _ => hk9); (have hk8 := mem_bd hk9); obtain ⟨hk81, hk82⟩ := hk8; refine lshift_int_small hk81 hk82 (by decide) ?_))
  k_with "exec Assign cons ListComp" => (guard_hyp in_keys : True; ((with_reducible show wpAny _ _ (exec (Stmt.Assign [Expr.Name (Str.ofString "pairs") _] _ _) _) _ _ _); refine hold ?_))
  k_with "subscriptTail Name BinOp ref int" => (guard_hyp in_keys : True; ((with_reducible show wpAny _ _ (subscriptTail (Expr.Name (Str.ofString "pairs") _) _ (Value.ref _) (Value.int _ _)) _ _ _); refine hold ?_))
  have in_keys : True := True.intro
  w_top off
  k_fill
  intro dp un gd cn cs' a ccd cl outer A₀ base h₀ L m rest s Q E B hL0 F X N hdis T hk hd hu hret
  refine wpAny_call ?_
  have N0 := news_left N
  k_dflt refine' code_defCR (binds := [(Str.ofString "script", .ref sc), (Str.ofString "start", .int start t1), (Str.ofString "least", .int least t2)]) ?k1 ?k2 ?k3 ?k4 ?k5 ?kA ?kF ?kK ?k6 ?k7 ?k8 ?k9 ?kB ?kN ?_ ?c2 ?c3 ?c4
  k_dflt k_extra "m_enterC"
  intro g' L' h' tkc cells FG F' N' Y B' X' T' kept small
  k_cells Y
  (try simp only [List.cons_append, List.nil_append] at N')
  have hL1 := stays_list B'.stays hL0
  (try dsimp only)
  (try k_extra "m_letA")
  (try k_fold)
  have hr := rest_kept N hdis kept
  k_steps
  unfold Hold
  rename IntsAre _ _ => hp1
  rename Fr g' _ _ _ => fr1
  rename News g' _ _ _ => ne1
  replace hp1 := intsAre_cast (b := pL) hp1 (by decide +kernel)
  k_dflt (with_unfolding_all refine comp2A (σ := List (Addr × Obj)) (k := 0) (fun own => hdN ne1 1 ++ (tlN ne1 4 ++ own)) (KeysJ least) [] fr1 rfl (by decide) rfl (by rfl) (by rfl) (by decide) (fun _ _ => rfl) (fun _ => List.Mem.head _) ?hsz KeysJ.start rfl (by decide) (fun _ => rfl) rfl rfl rfl rfl ?first ?second ?turn ?next ?fin)
  case hsz =>
    have e9 : ∀ ws : List Value, IntsAre ws pL → ws.toArray.size = 9 := fun ws h => by rw [List.size_toArray, h.length]; rfl
    rw [e9 _ hp1, sizeLine_eq]
    decide
  case first =>
    k_steps
    · exact fr1
    · exact news_of ne1 (by dsimp only [hdN, tlN, List.take, List.drop, List.cons_append, List.nil_append]; k_extra "m_pre")
  case second =>
    intro i c ys v I oI C oC D m₂ h9 tk9 E' hi hj hv hC hx fr2 ne2
    dsimp only [hdN, tlN, List.take, List.drop, List.cons_append, List.nil_append] at fr2 ne2 ⊢
    clear fr1 ne1
    k_sweep
    (try k_fold)
    k_steps
  case turn =>
    intro i j c ys v u I oI I2 o2 C oC D m₂ h9 tk9 E' hi hj9 hJ hv hu hC hx hy fr2 ne2 off neI
    dsimp only [hdN, tlN, List.take, List.drop, List.cons_append, List.nil_append] at fr2 ne2 off ⊢
    obtain ⟨p, tp, rfl, hp⟩ := intsAre_at hp1 (i := i) (v := v) (by simpa using hv)
    obtain ⟨q, tq, rfl, hq⟩ := intsAre_at hp1 (i := j) (v := u) (by simpa using hu)
    have hpm := List.mem_of_getElem? hp
    have hqm := List.mem_of_getElem? hq
    have hpB := (pL_ok p hpm).2.1
    have hqB := (pL_ok q hqm).2.1
    have hpqB : Bd 1240 (p * q) := (hpB.mul hqB).mono (by decide)
    clear fr1 ne1
    k_sweep
    (try k_fold)
    k_steps
    · rename _ ∧ _ ∧ _ ∧ _ ∧ _ ∧ _ ∧ _ ∧ _ => l8
      rename Fr g' _ _ _ => fr8
      rename News g' _ _ _ => ne8
      with_unfolding_all refine ⟨_, _, (_, pairObj p q tp tq) :: c, rfl, fr8, news_of ne8 ?_, ?_, hJ.yes hpm hqm (by assumption) (by assumption)⟩
      · dsimp only [hdN, tlN, List.take, List.drop, List.cons_append, List.nil_append]
        k_extra "m_pre"
      · intro z hz
        simp only [hdN, tlN, List.take, List.drop, List.cons_append, List.nil_append, List.mem_cons] at hz
        rcases hz with rfl | rfl | rfl | rfl | hz
        · exact off _ (.head _)
        · exact off _ (.tail _ (.head _))
        · exact off _ (.tail _ (.tail _ (.head _)))
        · exact ⟨Nat.ne_of_gt l8.1, Nat.ne_of_gt l8.2.1, Nat.ne_of_gt l8.2.2.1, Nat.ne_of_gt l8.2.2.2.1⟩
        · exact off _ (.tail _ (.tail _ (.tail _ hz)))
    · rename Fr g' _ _ _ => fr8
      rename News g' _ _ _ => ne8
      with_unfolding_all exact ⟨_, _, c, rfl, fr8, ne8, off, hJ.no hl1 hp hq (fun hc => absurd hc.2 (by assumption))⟩
    · rename Fr g' _ _ _ => fr8
      rename News g' _ _ _ => ne8
      with_unfolding_all exact ⟨_, _, c, rfl, fr8, ne8, off, hJ.no hl1 hp hq (fun hc => hc.1 (by assumption))⟩
  case next =>
    intro i ys c hi hJ
    rw [List.size_toArray, hp1.length] at hJ
    exact hJ.next
  case fin =>
    intro ys c D h9 tk9 hJ fr2 ne2 off
    dsimp only [hdN, tlN, List.take, List.drop, List.cons_append, List.nil_append] at fr2 ne2 off ⊢
    rw [List.size_toArray, hp1.length] at hJ
    obtain ⟨hy0, hy1, hpick⟩ := KeysJ.pick hJ
    clear fr1 ne1
    simp only [show ∀ zs : List Value, LCg.lst zs = listOf (List.toArray zs) zs.length from fun _ => rfl] at ne2
    k_sweep
    (try k_fold)
    k_steps
    have hlen0 : (ys.length : Int) ≠ 0 := by lia
    have hlg9 : (ys.length : Int).natAbs.log2 < 9000 := log2_small (by lia)
    refine len_at ys.length ne2 (List.Mem.head _) rfl (by lia) ?_
    k_steps
    unfold Hold
    rename Fr g' _ _ _ => fr3
    rename News g' _ _ _ => ne3
    have hfm := fmod_nn (a := r9) (b := (ys.length : Int)) (by lia)
    obtain ⟨T9, p, q, tp, tq, hyT, hTm, hpm, hqm, hpq, hle⟩ := hpick (r9.fmod (ys.length : Int)).toNat (by lia)
    refine item_any (r9.fmod (ys.length : Int)).toNat ne3 (List.Mem.head _) (by lia) hyT (by lia) rfl ?_
    have ne4 := news_of (l' := (T9, pairObj p q tp tq) :: [((L' + 1 + 1 : Nat), _), ((L' + 1 : Nat), _)]) ne3 (List.forall_mem_cons.mpr ⟨.tail _ (.tail _ (.tail _ (.tail _ hTm))), List.forall_mem_cons.mpr ⟨.tail _ (.tail _ (.head _)), List.forall_mem_cons.mpr ⟨.tail _ (.tail _ (.tail _ (.head _))), List.forall_mem_nil _⟩⟩⟩)
    clear ne3 hpick hJ; (try clear ne2); (try clear off); (try clear fr2)
    obtain ⟨hp3, hpB, hpP⟩ := pL_ok p hpm
    obtain ⟨hq3, hqB, hqP⟩ := pL_ok q hqm
    have hs : ∀ a : Int, 0 ≤ a.fmod 40000 ∧ a.fmod 40000 < 40000 := fun a => fmod_nn (by decide)
    have h4 := four_le hp3 hq3
    have hw0 : 0 < (p - 1) * (q - 1) := by lia
    have hwB : Bd 1240 ((p - 1) * (q - 1)) := (dB_pq ⟨hp3, hpB, hpP⟩ ⟨hq3, hqB, hqP⟩).mono (by decide)
    k_steps
    unfold Hold
    (try k_gentoks)
    rename IsRange _ _ _ _ _ _ _ _ => hrng
    rename Fr g' _ _ _ => fr1
    rename News g' _ _ _ => ne1
    rename 0 ≤ r9 => hr9
    obtain ⟨j0, hj0, hgj⟩ := exp_ex hpm hqm (hs r9).1 (hs r9).2
    with_unfolding_all refine m_range (σ := Int × Tok) (n := 2 * 1000) (fun _ => []) (fun c => [(Str.ofString "e", .int c.1 c.2)]) (fun _ => True) [Str.ofString "e"] (fun i c => c.1 = 3 + 2 * r9.fmod 40000 + 2 * (i : Int) ∧ ∀ j : Nat, j < i → Int.gcd (3 + 2 * r9.fmod 40000 + 2 * (j : Int)) ((p - 1) * (q - 1)) ≠ 1) (fun c => 3 ≤ c.1 ∧ c.1 < 100000 ∧ Int.gcd c.1 ((p - 1) * (q - 1)) = 1) (_, _) rfl hrng (by decide) (by rfl) fr1 ne1 (List.forall_mem_nil _) trivial (List.forall_mem_cons.mpr ⟨rfl, List.forall_mem_nil _⟩) ⟨by dsimp only; lia, fun j h => absurd h (Nat.not_lt_zero _)⟩ ?_ ?_ ?_
    · rintro ⟨e, te⟩ ⟨he, hno⟩
      exact absurd hgj (hno j0 hj0)
    · clear fr1 ne1
      rintro ⟨e, te⟩ i k t u h tk own hk' hi hoff - ⟨he, hno⟩ fr1 ne1
      dsimp only [List.cons_append, List.nil_append] at he hno fr1 ne1 ⊢
      replace fr1 : Fr g' L' h _ := fr1
      replace ne1 : News g' L' h _ := ne1
      have hs9 := hs r9
      have he0 : 3 ≤ e := by lia
      have he1 : e < 100000 := by lia
      k_sweep
      (try k_fold)
      k_steps
      · rename ((Int.gcd _ _ : Nat) : Int) = 1 => hg1
        have hg2 : Int.gcd e ((p - 1) * (q - 1)) = 1 := by lia
        dsimp only [MPost]
        rename Fr g' _ _ _ => fr2
        rename News g' _ _ _ => ne2
        with_unfolding_all exact m_end (e, te) fr2 ne2 (List.forall_mem_nil _) (by intro p hp; kst_mem) rfl trivial (List.forall_mem_cons.mpr ⟨rfl, List.forall_mem_nil _⟩) (by k_extra "m_same3") ⟨he0, he1, hg2⟩
      · rename ((Int.gcd _ _ : Nat) : Int) ≠ 1 => hg1
        dsimp only [MPost]
        rename Fr g' _ _ _ => fr2
        rename News g' _ _ _ => ne2
        with_unfolding_all refine' m_end (e + 2, _) fr2 ne2 (List.forall_mem_nil _) (by intro p hp; kst_mem) rfl trivial (List.forall_mem_cons.mpr ⟨rfl, List.forall_mem_nil _⟩) (by k_extra "m_same3") ⟨by dsimp only; lia, fun j hj hg => ?_⟩
        by_cases hji : j = i
        · subst hji
          rw [← he] at hg
          lia
        · exact hno j (by lia) hg
    · clear fr1 ne1
      rintro ⟨e, te⟩ u h tk - ⟨he0, he1, heg⟩ fr1 ne1
      dsimp only [List.cons_append, List.nil_append] at he0 he1 heg fr1 ne1 ⊢
      replace fr1 : Fr g' L' h _ := fr1
      replace ne1 : News g' L' h _ := ne1
      k_sweep
      (try k_fold)
      k_steps
      (rename Fr g' _ _ _ => fr8); (rename News g' _ _ _ => ne8); exact m_ret hret fr8 ne8 (by assumption) (by assumption) hr N (by k_extra "m_pre") ⟨_, p, q, e, _, _, _, _, _, ⟨hp3, hpB, hpP⟩, ⟨hq3, hqB, hqP⟩, hpq, hle, he0, he1, by assumption, by assumption, by assumption⟩
section
local macro_rules | `(tactic| walk_at "exec For Tuple Name cons nil") => `(tactic| (k_here; (rename Fr _ _ _ _ => lF'); k_dflt (refine' For_turns ?F ?_; (case F => exact lF'); k_whole)))
local macro_rules | `(tactic| walk_at "exec For Tuple List cons nil") => `(tactic| (k_here; (rename Fr _ _ _ _ => lF'); k_dflt (refine' For_turns ?F ?_; (case F => exact lF'); k_whole)))
theorem code_eq (ks : List Int) (sz : Int) : [48, ((1 + 1 + 1 + 1 + ks.length + (1 + 1) : Nat) : Int) + 2 + sz] ++ ([48, (ks.length : Int) + 4, 6, (ks.length : Int)] ++ ks ++ [5, 0]) ++ [4, sz] = codeOf ks sz := by
  k_with "call ref" => ((k_here; (with_reducible show wpAny _ _ (call (Value.ref 374) _) _ _ _); refine hold ?_))
  k_with "call ref" => ((k_here; (with_reducible show wpAny _ _ (call (Value.ref 374) _) _ _ _); k_dflt ((refine CtrB.use (c_keys _ _ _ _ (by assumption) ?_ ?_ ?_ ?_) (by k_asm) (by assumption) (by k_asm) (by k_asm) (by k_asm) (by k_asm) (by first | exact rfl | assumption) (by k_extra "m_pre") (by walk_at "m_rest") (by first | exact roomk (by assumption) (by decide) | exact roomk2 (by assumption) (by decide) | ktr_room) (by first | exact roomk (by assumption) (by decide) | exact roomk2 (by assumption) (by decide) | ktr_units) ?_); (first | decide | lia); (first | decide | lia); (first | decide | lia); (first | decide | lia)); rintro v9 l9 h9 tk9 ⟨tp9, p9, q9, e9, d9, u91, u92, u93, u94, hp9, hq9, hpq9, hle9, he90, he91, hd90, hd91, hd92⟩ hlo9 F9 N9; replace hlo9 := sepL_of hlo9; (try dsimp only [sepL, sepR, StL, KeyL, PubL] at hlo9); (try dsimp only [List.cons_append, List.nil_append] at N9); k_sweep; (try k_fold)))
  have e : ((1 + 1 + 1 + 1 + ks.length + (1 + 1) : Nat) : Int) + 2 + sz = (ks.length : Int) + 6 + 2 + sz := by lia
  rw [e]
  rfl
theorem made_step {i : Nat} {r : Str × List Int × Int} (h : rows2[i]? = some r) : (rows2.take (i + 1)).map madeD = (rows2.take i).map madeD ++ [madeD r] := by
  rw [List.take_succ, h, List.map_append]
  rfl
inductive PCod : Value → List (Addr × Obj) → Prop
  | mk (cd : Nat) (vs : List Value) (nn : Nat) (own : List (Addr × Obj)) (h : DatAll own vs hD) : PCod (.ref cd) ((cd, listOf vs.toArray nn) :: own)
theorem c_codes (w : World) (mean : ExcName → Option Value) (mg mb : Str → Option Value) :
    Ctr PySem.Challenge.rw_ys0001_11.row.prog w (Mine.K w.params) Mine.V (looseW Mine.V [Str.ofString "NotRelativePrimeError", Str.ofString "int2bytes", Str.ofString "HASH_ASN1"]) mean mg mb 393 10 100 [] []
      PCod := by
  k_with "spliced" => (guard_hyp in_codes : True; (k_here; k_dflt (first | (with_reducible refine spliced8n ?_) | (with_reducible refine spliced8 ?_) | (with_reducible refine spliced5n ?_)); intro vs9 k9 hI9))
  k_with "newList" => (guard_hyp in_codes : True; ((with_reducible show wpAny _ _ (newList (_ ++ _)) _ _ _); k_here; k_dflt (refine newList_K (by k_asm) (by k_asm) ?_ (by rw [List.length_append, hI9.length]; show 9 ≤ sizeLine; decide)); intro lS9 hS9 FS9 NS9 l1; (try k_lt l1); (try k_sweep)))
  have in_codes : True := True.intro
  w_top off
  k_fill
  intro dp un gd cn cs' a ccd cl outer A₀ base h₀ L m rest s Q E B F X N hdis T hk hd hu hret
  refine wpAny_call ?_
  have N0 := news_left N
  k_dflt refine' code_defR (binds := []) ?k1 ?k2 ?k3 ?k4 ?k5 ?kA ?kF ?kK ?k6 ?k7 ?k8 ?k9 ?kB ?_ ?c2 ?c3 ?c4 ?c5
  k_dflt k_extra "m_enter"
  intro g' L' h' FG F' N' B' X' T' kept small
  (try dsimp only)
  (try k_extra "m_letA")
  (try k_fold)
  have hr := rest_kept N hdis kept
  refine abs_Q ?_
  intro Q9 hq9
  k_steps
  unfold Hold
  rename Fr g' _ _ _ => fr1
  rename News g' _ _ _ => ne1
  rename IntsAre _ [42, 134, 72, 134, 247, 13, 2, 5] => hI8
  rename IntsAre _ [43, 14, 3, 2, 26] => hI5
  obtain ⟨l4, e9⟩ : ∃ a, a = adN ne1 0 := ⟨_, rfl⟩
  dsimp only [adN, adL] at e9
  subst e9
  obtain ⟨d1, e9⟩ : ∃ a, a = adN ne1 1 := ⟨_, rfl⟩
  dsimp only [adN, adL] at e9
  subst e9
  obtain ⟨d2, e9⟩ : ∃ a, a = adN ne1 2 := ⟨_, rfl⟩
  dsimp only [adN, adL] at e9
  subst e9
  obtain ⟨d3, e9⟩ : ∃ a, a = adN ne1 3 := ⟨_, rfl⟩
  dsimp only [adN, adL] at e9
  subst e9
  obtain ⟨d4, e9⟩ : ∃ a, a = adN ne1 4 := ⟨_, rfl⟩
  dsimp only [adN, adL] at e9
  subst e9
  obtain ⟨r5, e9⟩ : ∃ a, a = adN ne1 5 := ⟨_, rfl⟩
  dsimp only [adN, adL] at e9
  subst e9
  have hsrc : DatAll (List.take 4 (tlN ne1 1)) [.ref d4, .ref d3, .ref d2, .ref d1] (srcA.map srcD) := by
    with_unfolding_all exact (.cons (.tuple (.tail _ (.tail _ (.tail _ (.head _)))) (.cons (.str _ _) (.cons (.int _ _) (.cons (.int _ _) .nil)))) (.cons (.tuple (.tail _ (.tail _ (.head _))) (.cons (.str _ _) (.cons (.int _ _) (.cons (.int _ _) .nil)))) (.cons (.tuple (.tail _ (.head _)) (.cons (.str _ _) (.cons (.int _ _) (.cons (.int _ _) .nil)))) (.cons (.tuple (.head _) (.cons (.str _ _) (.cons (.int _ _) (.cons (.int _ _) .nil)))) .nil))))
  have hs4 : ∀ p ∈ List.take 4 (tlN ne1 1), @Ne Nat p.1 r5 ∧ @Ne Nat p.1 l4 := by
    intro p hp
    simp only [tlN, List.take, List.drop, List.mem_cons, List.not_mem_nil, or_false] at hp
    rcases hp with rfl | rfl | rfl | rfl <;> exact ⟨by dsimp only; lia, by dsimp only; lia⟩
  obtain ⟨S4, hS4⟩ : ∃ S4, S4 = List.take 4 (tlN ne1 1) := ⟨_, rfl⟩
  rw [← hS4] at hsrc hs4
  with_unfolding_all refine m_listV (σ := List Value × Nat × List (Addr × Obj)) (fun c => (l4, listOf (List.toArray [.ref d4, .ref d3, .ref d2, .ref d1]) 0) :: (r5, listOf c.1.toArray c.2.1) :: (List.take 4 (tlN ne1 1) ++ c.2.2)) (fun _ => []) [Str.ofString "name", Str.ofString "last", Str.ofString "size"] (fun i c => DatAll c.2.2 c.1 ((rows0 ++ (srcA.take i).map shaRow).map rowD) ∧ ∀ p ∈ c.2.2, @Ne Nat p.1 r5 ∧ @Ne Nat p.1 l4) (fun c => DatAll c.2.2 c.1 ((rows0 ++ srcA.map shaRow).map rowD) ∧ ∀ p ∈ c.2.2, @Ne Nat p.1 r5 ∧ @Ne Nat p.1 l4) (_, 0, tlN ne1 6) rfl (fun _ => List.Mem.head _) fr1 ne1 (by k_extra "m_pre") (List.forall_mem_nil _) ⟨(show DatAll (tlN ne1 6) _ (rows0.map rowD) from by with_unfolding_all exact (.cons (.tuple (.tail _ (.tail _ (.head _))) (.cons (.str _ _) (.cons (.list (.tail _ (.tail _ (.tail _ (.head _)))) (datAll_of_ints hI8)) (.cons (.int _ _) .nil)))) (.cons (.tuple (.head _) (.cons (.str _ _) (.cons (.list (.tail _ (.head _)) (datAll_of_ints hI5)) (.cons (.int _ _) .nil)))) .nil))), by intro p hp; simp only [tlN, List.drop, List.mem_cons, List.not_mem_nil, or_false] at hp; rcases hp with rfl | rfl | rfl | rfl <;> exact ⟨by dsimp only; lia, by dsimp only; lia⟩⟩ ?_ go_tuple ?_ ?_
  · exact fun c h => h
  · clear fr1
    rintro ⟨rvs, rn, rown⟩ i v u h tk own hv hsep hlt ⟨hd, hro⟩ fr2 ne2
    dsimp only at hd hro fr2 ne2 hsep ⊢
    rw [← hS4] at ne2 hsep ⊢
    clear hS4 ne1
    obtain ⟨dd, hd1, hdin⟩ := datAll_at hsrc hv
    obtain ⟨⟨nm, la, sz⟩, hr1, rfl⟩ : ∃ r, srcA[i]? = some r ∧ srcD r = dd := by rw [List.getElem?_map] at hd1; exact Option.map_eq_some_iff.mp hd1
    obtain ⟨a, n0, t1, t2, t3, rfl, ham⟩ := srcD_in hdin
    dsimp only at ham ⊢
    obtain ⟨tl, htl⟩ : ∃ tl, tl = S4 ++ (rown ++ own) := ⟨_, rfl⟩
    have sub : ∀ p ∈ tl, p ∈ (l4, listOf (List.toArray [.ref d4, .ref d3, .ref d2, .ref d1]) 0) :: (r5, listOf rvs.toArray rn) :: (S4 ++ rown) ++ own := by
      intro p hp
      rw [htl] at hp
      rcases List.mem_append.mp hp with hp | hp
      · exact List.mem_append_left _ (.tail _ (.tail _ (List.mem_append_left _ hp)))
      · rcases List.mem_append.mp hp with hp | hp
        · exact List.mem_append_left _ (.tail _ (.tail _ (List.mem_append_right _ hp)))
        · exact List.mem_append_right _ hp
    have htr : OwnOff tl [r5] := by
      intro p hp b hb
      rw [List.mem_singleton.mp hb]
      rw [htl] at hp
      rcases List.mem_append.mp hp with hp | hp
      · exact (hs4 p hp).1
      · rcases List.mem_append.mp hp with hp | hp
        · exact (hro p hp).1
        · exact hsep p hp _ (.tail _ (.head _))
    have har : @Ne Nat a r5 := (hs4 _ ham).1
    have ne3 := news_of (l' := (a, ({ cls := .type "tuple", data := .seq #[.str nm t1, .int la t2, .int sz t3] n0 } : Obj)) :: (l4, listOf (List.toArray [.ref d4, .ref d3, .ref d2, .ref d1]) 0) :: (r5, listOf rvs.toArray rn) :: tl) ne2 (List.forall_mem_cons.mpr ⟨List.mem_append_left _ (.tail _ (.tail _ (List.mem_append_left _ ham))), List.forall_mem_cons.mpr ⟨.head _, List.forall_mem_cons.mpr ⟨.tail _ (.head _), sub⟩⟩⟩)
    clear ne2 sub
    replace fr2 : Fr g' L' h _ := fr2
    replace ne3 : News g' L' h _ := ne3
    k_sweep
    (try k_fold)
    refine abs_turn ?_
    intro P9 hp9
    k_steps
    rename Fr g' _ _ _ => fr7
    rename News g' _ _ _ => ne7
    rename _ ∧ _ ∧ _ ∧ _ ∧ AllLt _ tl => l8
    rename _ ∧ _ ∧ _ ∧ AllLt _ tl => l7
    obtain ⟨T7, e7⟩ : ∃ a, a = adN ne7 0 := ⟨_, rfl⟩
    dsimp only [adN, adL] at e7
    subst e7
    obtain ⟨L7, e7⟩ : ∃ a, a = adN ne7 1 := ⟨_, rfl⟩
    dsimp only [adN, adL] at e7
    subst e7
    have hz : rvs.length ≤ sizeLine := by
      have e := datAll_length hd
      have hi : i < 4 := by
        have := (List.getElem?_eq_some_iff.mp hr1).1
        exact this
      simp only [List.length_map, List.length_append, List.length_take] at e
      have : rvs.length ≤ 9 + 4 := by
        rw [e]; have : (rows0).length ≤ 9 := by decide
        lia
      exact Nat.le_trans this (by decide)
    have hoff : ∀ p ∈ hdN ne7 4 ++ tl, @Ne Nat p.1 r5 := by
      intro p hp
      dsimp only [hdN, List.take, List.cons_append, List.nil_append] at hp
      rcases List.mem_cons.mp hp with rfl | hp
      · exact Nat.ne_of_gt l8.2.2.2.1
      · rcases List.mem_cons.mp hp with rfl | hp
        · exact Nat.ne_of_gt l7.2.2.1
        · rcases List.mem_cons.mp hp with rfl | hp
          · exact har
          · rcases List.mem_cons.mp hp with rfl | hp
            · dsimp only; lia
            · exact htr p hp _ (List.mem_singleton.mpr rfl)
    have ne6 := news_of (l' := (r5, listOf rvs.toArray rn) :: (hdN ne7 4 ++ tl)) ne7 (List.forall_mem_cons.mpr ⟨by k_mem, fun p hp => by
      dsimp only [hdN, List.take, List.cons_append, List.nil_append] at hp
      rcases List.mem_cons.mp hp with rfl | hp
      · k_mem
      · rcases List.mem_cons.mp hp with rfl | hp
        · k_mem
        · rcases List.mem_cons.mp hp with rfl | hp
          · k_mem
          · rcases List.mem_cons.mp hp with rfl | hp
            · k_mem
            · repeat (first | exact hp | refine List.Mem.tail _ ?_)⟩)
    refine append_led fr7 ne6 hoff hz ?_
    dsimp only [hdN, List.take, List.cons_append, List.nil_append]
    clear hoff ne6 ne7 fr7
    intro h8 fr8 ne8
    (try k_fold)
    k_steps
    (try show EndV _ _ _ _ _ _ _ _ _ _)
    obtain ⟨T9, e9⟩ : ∃ a, a = adN ne8 1 := ⟨_, rfl⟩
    dsimp only [adN, adL] at e9
    subst e9
    obtain ⟨L9, e9⟩ : ∃ a, a = adN ne8 2 := ⟨_, rfl⟩
    dsimp only [adN, adL] at e9
    subst e9
    have intl : ∀ p ∈ tl, p ∈ tlN ne8 0 := by
      intro p st
      dsimp only [tlN, List.drop]
      repeat (first | exact st | refine List.Mem.tail _ ?_)
    refine hp9 _ _ ?_
    with_unfolding_all refine' m_endV (rvs ++ [.ref T9], rn + 1, List.drop 1 (hdN ne8 3) ++ rown) fr8 ne8 ?hn ?ho ?hs (List.forall_mem_nil _) ?hr ⟨?hP, ?hQ⟩
    case hn =>
      dsimp only [hdN, List.take, List.drop, List.cons_append, List.nil_append]
      refine List.forall_mem_cons.mpr ⟨by k_mem, List.forall_mem_cons.mpr ⟨by k_mem, fun p hp => ?_⟩⟩
      rcases List.mem_append.mp hp with hp | hp
      · exact intl p (htl ▸ mem_tl1 hp)
      · rcases List.mem_cons.mp hp with rfl | hp
        · k_mem
        · rcases List.mem_cons.mp hp with rfl | hp
          · k_mem
          · exact intl p (htl ▸ mem_tl2 hp)
    case ho => exact fun p hp => intl p (htl ▸ mem_tl3 hp)
    case hs =>
      intro q hq p hp
      dsimp only [hdN, List.take, List.drop, List.cons_append, List.nil_append] at hp
      have hqt : q ∈ tl := htl ▸ mem_tl3 hq
      rcases List.mem_cons.mp hp with rfl | hp
      · exact hsep q hq _ (.head _)
      · rcases List.mem_cons.mp hp with rfl | hp
        · exact hsep q hq (_, listOf rvs.toArray rn) (.tail _ (.head _))
        · rcases List.mem_append.mp hp with hp | hp
          · exact hsep q hq _ (.tail _ (.tail _ (List.mem_append_left _ hp)))
          · rcases List.mem_cons.mp hp with rfl | hp
            · exact Nat.ne_of_lt (kst_ltOf l8.2.2.2.2 q hqt)
            · rcases List.mem_cons.mp hp with rfl | hp
              · exact Nat.ne_of_lt (kst_ltOf l7.2.2.2 q hqt)
              · exact hsep q hq _ (.tail _ (.tail _ (List.mem_append_right _ hp)))
    case hr => k_extra "m_same"
    case hP =>
      rw [rows_step hr1]
      refine datAll_app (DatAll.mono (fun p hp => List.mem_append_right _ hp) hd) (.cons ?_ .nil)
      dsimp only [hdN, List.take, List.drop, List.cons_append, List.nil_append]
      with_unfolding_all exact (.tuple (.head _) (.cons (.str _ _) (.cons (.list (.tail _ (.head _)) (datAll_of_ints (show IntsAre _ ([96, 134, 72, 1, 101, 3, 4, 2] ++ [_]) from intsAre_append hI9 (.cons _ _ .nil)))) (.cons (.int _ _) .nil))))
    case hQ =>
      intro p hp
      dsimp only [hdN, List.take, List.drop, List.cons_append, List.nil_append] at hp
      rcases List.mem_cons.mp hp with rfl | hp
      · exact ⟨Nat.ne_of_gt l8.2.2.2.1, Nat.ne_of_gt l8.2.2.1⟩
      · rcases List.mem_cons.mp hp with rfl | hp
        · exact ⟨Nat.ne_of_gt l7.2.2.1, Nat.ne_of_gt l7.2.1⟩
        · exact hro p hp
  · clear fr1
    rintro ⟨rv1, rn1, ro1⟩ u h tk ⟨hd, hro⟩ fr2 ne2
    dsimp only at hd hro fr2 ne2 ⊢
    have ne3 := news_of (l' := (r5, listOf rv1.toArray rn1) :: ro1) ne2 (fun p hp => .tail _ ((List.mem_cons.mp hp).elim (fun e => e ▸ .head _) fun hp => .tail _ (List.mem_append_right _ hp)))
    have hro5 : OwnOff ro1 [r5] := fun p hp b hb => (List.mem_singleton.mp hb) ▸ (hro p hp).1
    clear hs4 hsrc hS4 ne1 ne2 S4 hro
    replace fr2 : Fr g' L' h _ := fr2
    replace ne3 : News g' L' h _ := ne3
    k_sweep
    (try k_fold)
    k_steps
    (try unfold Hold)
    rename Fr g' _ _ _ => fr1
    rename News g' _ _ _ => ne1
    obtain ⟨l4, e9⟩ : ∃ a, a = adN ne1 0 := ⟨_, rfl⟩
    dsimp only [adN, adL] at e9
    subst e9
    obtain ⟨d1, e9⟩ : ∃ a, a = adN ne1 1 := ⟨_, rfl⟩
    dsimp only [adN, adL] at e9
    subst e9
    obtain ⟨d2, e9⟩ : ∃ a, a = adN ne1 2 := ⟨_, rfl⟩
    dsimp only [adN, adL] at e9
    subst e9
    obtain ⟨d3, e9⟩ : ∃ a, a = adN ne1 3 := ⟨_, rfl⟩
    dsimp only [adN, adL] at e9
    subst e9
    rename _ ∧ _ ∧ _ ∧ _ ∧ AllLt _ ro1 => lz
    have hsrc : DatAll (List.take 3 (tlN ne1 1)) [.ref d3, .ref d2, .ref d1] (srcB.map srcD) := by
      with_unfolding_all exact (.cons (.tuple (.tail _ (.tail _ (.head _))) (.cons (.str _ _) (.cons (.int _ _) (.cons (.int _ _) .nil)))) (.cons (.tuple (.tail _ (.head _)) (.cons (.str _ _) (.cons (.int _ _) (.cons (.int _ _) .nil)))) (.cons (.tuple (.head _) (.cons (.str _ _) (.cons (.int _ _) (.cons (.int _ _) .nil)))) .nil)))
    have hs4 : ∀ p ∈ List.take 3 (tlN ne1 1), @Ne Nat p.1 r5 ∧ @Ne Nat p.1 l4 := by
      intro p hp
      simp only [tlN, List.take, List.drop, List.mem_cons, List.not_mem_nil, or_false] at hp
      rcases hp with rfl | rfl | rfl <;> exact ⟨by dsimp only; lia, by dsimp only; lia⟩
    obtain ⟨S4, hS4⟩ : ∃ S4, S4 = List.take 3 (tlN ne1 1) := ⟨_, rfl⟩
    rw [← hS4] at hsrc hs4
    with_unfolding_all refine m_listV (σ := List Value × Nat × List (Addr × Obj)) (fun c => (l4, listOf (List.toArray [.ref d3, .ref d2, .ref d1]) 0) :: (r5, listOf c.1.toArray c.2.1) :: (List.take 3 (tlN ne1 1) ++ c.2.2)) (fun _ => []) [Str.ofString "name", Str.ofString "last", Str.ofString "size"] (fun i c => DatAll c.2.2 c.1 ((rows1 ++ (srcB.take i).map shaRow).map rowD) ∧ ∀ p ∈ c.2.2, @Ne Nat p.1 r5 ∧ @Ne Nat p.1 l4) (fun c => DatAll c.2.2 c.1 ((rows1 ++ srcB.map shaRow).map rowD) ∧ ∀ p ∈ c.2.2, @Ne Nat p.1 r5 ∧ @Ne Nat p.1 l4) (rv1, rn1, ro1) rfl (fun _ => List.Mem.head _) fr1 ne1 (by
        intro p hp
        rcases List.mem_cons.mp hp with rfl | hp
        · k_mem
        · rcases List.mem_cons.mp hp with rfl | hp
          · k_mem
          · rcases List.mem_append.mp hp with hp | hp
            · exact .tail _ (List.mem_of_mem_take hp)
            · repeat (first | exact hp | refine List.Mem.tail _ ?_)) (List.forall_mem_nil _) ⟨(by show DatAll _ _ ((rows1 ++ []).map rowD); rw [List.append_nil]; exact hd), fun p hp => ⟨hro5 p hp _ (List.mem_singleton.mpr rfl), Nat.ne_of_lt (kst_ltOf lz.2.2.2.2 p hp)⟩⟩ ?_ go_tuple ?_ ?_
    · exact fun c h => h
    · clear fr1
      rintro ⟨rvs, rn, rown⟩ i v u h tk own hv hsep hlt ⟨hd, hro⟩ fr2 ne2
      dsimp only at hd hro fr2 ne2 hsep ⊢
      rw [← hS4] at ne2 hsep ⊢
      clear hS4 ne1
      obtain ⟨dd, hd1, hdin⟩ := datAll_at hsrc hv
      obtain ⟨⟨nm, la, sz⟩, hr1, rfl⟩ : ∃ r, srcB[i]? = some r ∧ srcD r = dd := by rw [List.getElem?_map] at hd1; exact Option.map_eq_some_iff.mp hd1
      obtain ⟨a, n0, t1, t2, t3, rfl, ham⟩ := srcD_in hdin
      dsimp only at ham ⊢
      obtain ⟨tl, htl⟩ : ∃ tl, tl = S4 ++ (rown ++ own) := ⟨_, rfl⟩
      have sub : ∀ p ∈ tl, p ∈ (l4, listOf (List.toArray [.ref d3, .ref d2, .ref d1]) 0) :: (r5, listOf rvs.toArray rn) :: (S4 ++ rown) ++ own := by
        intro p hp
        rw [htl] at hp
        rcases List.mem_append.mp hp with hp | hp
        · exact List.mem_append_left _ (.tail _ (.tail _ (List.mem_append_left _ hp)))
        · rcases List.mem_append.mp hp with hp | hp
          · exact List.mem_append_left _ (.tail _ (.tail _ (List.mem_append_right _ hp)))
          · exact List.mem_append_right _ hp
      have htr : OwnOff tl [r5] := by
        intro p hp b hb
        rw [List.mem_singleton.mp hb]
        rw [htl] at hp
        rcases List.mem_append.mp hp with hp | hp
        · exact (hs4 p hp).1
        · rcases List.mem_append.mp hp with hp | hp
          · exact (hro p hp).1
          · exact hsep p hp _ (.tail _ (.head _))
      have har : @Ne Nat a r5 := (hs4 _ ham).1
      have ne3 := news_of (l' := (a, ({ cls := .type "tuple", data := .seq #[.str nm t1, .int la t2, .int sz t3] n0 } : Obj)) :: (l4, listOf (List.toArray [.ref d3, .ref d2, .ref d1]) 0) :: (r5, listOf rvs.toArray rn) :: tl) ne2 (List.forall_mem_cons.mpr ⟨List.mem_append_left _ (.tail _ (.tail _ (List.mem_append_left _ ham))), List.forall_mem_cons.mpr ⟨.head _, List.forall_mem_cons.mpr ⟨.tail _ (.head _), sub⟩⟩⟩)
      clear ne2 sub
      replace fr2 : Fr g' L' h _ := fr2
      replace ne3 : News g' L' h _ := ne3
      k_sweep
      (try k_fold)
      refine abs_turn ?_
      intro P9 hp9
      k_steps
      rename Fr g' _ _ _ => fr7
      rename News g' _ _ _ => ne7
      rename _ ∧ _ ∧ _ ∧ _ ∧ AllLt _ tl => l8
      rename _ ∧ _ ∧ _ ∧ AllLt _ tl => l7
      obtain ⟨T7, e7⟩ : ∃ a, a = adN ne7 0 := ⟨_, rfl⟩
      dsimp only [adN, adL] at e7
      subst e7
      obtain ⟨L7, e7⟩ : ∃ a, a = adN ne7 1 := ⟨_, rfl⟩
      dsimp only [adN, adL] at e7
      subst e7
      have hz : rvs.length ≤ sizeLine := by
        have e := datAll_length hd
        have hi : i < 3 := by
          have := (List.getElem?_eq_some_iff.mp hr1).1
          exact this
        simp only [List.length_map, List.length_append, List.length_take] at e
        have : rvs.length ≤ 9 + 3 := by
          rw [e]; have : (rows1).length ≤ 9 := by decide
          lia
        exact Nat.le_trans this (by decide)
      have hoff : ∀ p ∈ hdN ne7 4 ++ tl, @Ne Nat p.1 r5 := by
        intro p hp
        dsimp only [hdN, List.take, List.cons_append, List.nil_append] at hp
        rcases List.mem_cons.mp hp with rfl | hp
        · exact Nat.ne_of_gt l8.2.2.2.1
        · rcases List.mem_cons.mp hp with rfl | hp
          · exact Nat.ne_of_gt l7.2.2.1
          · rcases List.mem_cons.mp hp with rfl | hp
            · exact har
            · rcases List.mem_cons.mp hp with rfl | hp
              · dsimp only; lia
              · exact htr p hp _ (List.mem_singleton.mpr rfl)
      have ne6 := news_of (l' := (r5, listOf rvs.toArray rn) :: (hdN ne7 4 ++ tl)) ne7 (List.forall_mem_cons.mpr ⟨by k_mem, fun p hp => by
        dsimp only [hdN, List.take, List.cons_append, List.nil_append] at hp
        rcases List.mem_cons.mp hp with rfl | hp
        · k_mem
        · rcases List.mem_cons.mp hp with rfl | hp
          · k_mem
          · rcases List.mem_cons.mp hp with rfl | hp
            · k_mem
            · rcases List.mem_cons.mp hp with rfl | hp
              · k_mem
              · repeat (first | exact hp | refine List.Mem.tail _ ?_)⟩)
      refine append_led fr7 ne6 hoff hz ?_
      dsimp only [hdN, List.take, List.cons_append, List.nil_append]
      clear hoff ne6 ne7 fr7
      intro h8 fr8 ne8
      (try k_fold)
      k_steps
      (try show EndV _ _ _ _ _ _ _ _ _ _)
      obtain ⟨T9, e9⟩ : ∃ a, a = adN ne8 1 := ⟨_, rfl⟩
      dsimp only [adN, adL] at e9
      subst e9
      obtain ⟨L9, e9⟩ : ∃ a, a = adN ne8 2 := ⟨_, rfl⟩
      dsimp only [adN, adL] at e9
      subst e9
      have intl : ∀ p ∈ tl, p ∈ tlN ne8 0 := by
        intro p st
        dsimp only [tlN, List.drop]
        repeat (first | exact st | refine List.Mem.tail _ ?_)
      refine hp9 _ _ ?_
      with_unfolding_all refine' m_endV (rvs ++ [.ref T9], rn + 1, List.drop 1 (hdN ne8 3) ++ rown) fr8 ne8 ?hn ?ho ?hs (List.forall_mem_nil _) ?hr ⟨?hP, ?hQ⟩
      case hn =>
        dsimp only [hdN, List.take, List.drop, List.cons_append, List.nil_append]
        refine List.forall_mem_cons.mpr ⟨by k_mem, List.forall_mem_cons.mpr ⟨by k_mem, fun p hp => ?_⟩⟩
        rcases List.mem_append.mp hp with hp | hp
        · exact intl p (htl ▸ mem_tl1 hp)
        · rcases List.mem_cons.mp hp with rfl | hp
          · k_mem
          · rcases List.mem_cons.mp hp with rfl | hp
            · k_mem
            · exact intl p (htl ▸ mem_tl2 hp)
      case ho => exact fun p hp => intl p (htl ▸ mem_tl3 hp)
      case hs =>
        intro q hq p hp
        dsimp only [hdN, List.take, List.drop, List.cons_append, List.nil_append] at hp
        have hqt : q ∈ tl := htl ▸ mem_tl3 hq
        rcases List.mem_cons.mp hp with rfl | hp
        · exact hsep q hq _ (.head _)
        · rcases List.mem_cons.mp hp with rfl | hp
          · exact hsep q hq (_, listOf rvs.toArray rn) (.tail _ (.head _))
          · rcases List.mem_append.mp hp with hp | hp
            · exact hsep q hq _ (.tail _ (.tail _ (List.mem_append_left _ hp)))
            · rcases List.mem_cons.mp hp with rfl | hp
              · exact Nat.ne_of_lt (kst_ltOf l8.2.2.2.2 q hqt)
              · rcases List.mem_cons.mp hp with rfl | hp
                · exact Nat.ne_of_lt (kst_ltOf l7.2.2.2 q hqt)
                · exact hsep q hq _ (.tail _ (.tail _ (List.mem_append_right _ hp)))
      case hr => k_extra "m_same"
      case hP =>
        rw [rows_step hr1]
        refine datAll_app (DatAll.mono (fun p hp => List.mem_append_right _ hp) hd) (.cons ?_ .nil)
        dsimp only [hdN, List.take, List.drop, List.cons_append, List.nil_append]
        with_unfolding_all exact (.tuple (.head _) (.cons (.str _ _) (.cons (.list (.tail _ (.head _)) (datAll_of_ints (show IntsAre _ ([96, 134, 72, 1, 101, 3, 4, 2] ++ [_]) from intsAre_append hI9 (.cons _ _ .nil)))) (.cons (.int _ _) .nil))))
      case hQ =>
        intro p hp
        dsimp only [hdN, List.take, List.drop, List.cons_append, List.nil_append] at hp
        rcases List.mem_cons.mp hp with rfl | hp
        · exact ⟨Nat.ne_of_gt l8.2.2.2.1, Nat.ne_of_gt l8.2.2.1⟩
        · rcases List.mem_cons.mp hp with rfl | hp
          · exact ⟨Nat.ne_of_gt l7.2.2.1, Nat.ne_of_gt l7.2.1⟩
          · exact hro p hp
    · clear fr1
      rintro ⟨rv1, rn1, ro1⟩ u h tk ⟨hd, hro⟩ fr2 ne2
      dsimp only at hd hro fr2 ne2 ⊢
      have ne3 := news_of (l' := (r5, listOf rv1.toArray rn1) :: ro1) ne2 (fun p hp => .tail _ ((List.mem_cons.mp hp).elim (fun e => e ▸ .head _) fun hp => .tail _ (List.mem_append_right _ hp)))
      have hro5 : OwnOff ro1 [r5] := fun p hp b hb => (List.mem_singleton.mp hb) ▸ (hro p hp).1
      clear hs4 hsrc hS4 ne1 ne2 S4 hro
      replace fr2 : Fr g' L' h _ := fr2
      replace ne3 : News g' L' h _ := ne3
      k_sweep
      (try k_fold)
      k_steps
      (try unfold Hold)
      rename Fr g' _ _ _ => fr1
      rename News g' _ _ _ => ne1
      obtain ⟨f4, e9⟩ : ∃ a, a = adN ne1 0 := ⟨_, rfl⟩
      dsimp only [adN, adL] at e9
      subst e9
      rename _ ∧ AllLt _ ro1 => lf
      with_unfolding_all refine m_listV (vs := rv1) (nn := rn1) (σ := List Value × Nat × List (Addr × Obj)) (fun c => (r5, listOf rv1.toArray rn1) :: (f4, listOf c.1.toArray c.2.1) :: (ro1 ++ c.2.2)) (fun _ => []) [Str.ofString "name", Str.ofString "kind", Str.ofString "size", Str.ofString "inner"] (fun i c => DatAll c.2.2 c.1 ((rows2.take i).map madeD) ∧ ∀ p ∈ c.2.2, @Ne Nat p.1 f4) (fun c => DatAll c.2.2 c.1 hD) ([], 0, []) rfl (fun _ => List.Mem.head _) fr1 ne1 (by
        intro p hp
        rcases List.mem_cons.mp hp with rfl | hp
        · k_mem
        · rcases List.mem_cons.mp hp with rfl | hp
          · k_mem
          · rw [List.append_nil] at hp
            exact .tail _ (.tail _ hp)) (List.forall_mem_nil _) ⟨.nil, List.forall_mem_nil _⟩ ?_ go_tuple ?_ ?_
      · rintro c ⟨hdf, -⟩
        have e := datAll_length hd
        have e2 : rv1.length = rows2.length := e.trans (List.length_map _)
        rw [List.take_of_length_le (Nat.le_of_eq e2.symm)] at hdf
        exact hdf
      · clear fr1 ne1
        rintro ⟨fvs, fn, fown⟩ i v u h tk own hv hsep hlt ⟨hdf, hfo⟩ fr2 ne2
        dsimp only at hdf hfo fr2 ne2 hsep ⊢
        obtain ⟨dd, hd1, hdin⟩ := datAll_at hd hv
        obtain ⟨⟨nm, ks, sz⟩, hr1, rfl⟩ : ∃ r, rows2[i]? = some r ∧ rowD r = dd := by rw [List.getElem?_map] at hd1; exact Option.map_eq_some_iff.mp hd1
        obtain ⟨a, n0, b, ws, k0, t1, t3, rfl, ham, hbm, hws⟩ := rowD_in hdin
        dsimp only at ham hbm hws ⊢
        obtain ⟨tl, htl⟩ : ∃ tl, tl = ro1 ++ (fown ++ own) := ⟨_, rfl⟩
        have sub : ∀ p ∈ tl, p ∈ (r5, listOf rv1.toArray rn1) :: (f4, listOf fvs.toArray fn) :: (ro1 ++ fown) ++ own := by
          intro p hp
          rw [htl] at hp
          rcases List.mem_append.mp hp with hp | hp
          · exact List.mem_append_left _ (.tail _ (.tail _ (List.mem_append_left _ hp)))
          · rcases List.mem_append.mp hp with hp | hp
            · exact List.mem_append_left _ (.tail _ (.tail _ (List.mem_append_right _ hp)))
            · exact List.mem_append_right _ hp
        have hrf : ∀ p ∈ ro1, @Ne Nat p.1 f4 := fun p hp => Nat.ne_of_lt (kst_ltOf lf.2 p hp)
        have htr : OwnOff tl [f4] := by
          intro p hp b hb
          rw [List.mem_singleton.mp hb]
          rw [htl] at hp
          rcases List.mem_append.mp hp with hp | hp
          · exact hrf p hp
          · rcases List.mem_append.mp hp with hp | hp
            · exact hfo p hp
            · exact hsep p hp _ (.tail _ (.head _))
        have haf : @Ne Nat a f4 := hrf _ ham
        have hbf : @Ne Nat b f4 := hrf _ hbm
        have hks : ks.length ≤ 9 := by
          have : ∀ r ∈ rows2, r.2.1.length ≤ 9 := by decide
          exact this _ (List.mem_of_getElem? hr1)
        have hwl : ws.length = ks.length := hws.length
        have hw9 : ws.length ≤ 9 := hwl ▸ hks
        have ne3 := news_of (l' := (a, ({ cls := .type "tuple", data := .seq #[.str nm t1, .ref b, .int sz t3] n0 } : Obj)) :: (b, listOf ws.toArray k0) :: (r5, listOf rv1.toArray rn1) :: (f4, listOf fvs.toArray fn) :: tl) ne2 (List.forall_mem_cons.mpr ⟨List.mem_append_left _ (.tail _ (.tail _ (List.mem_append_left _ ham))), List.forall_mem_cons.mpr ⟨List.mem_append_left _ (.tail _ (.tail _ (List.mem_append_left _ hbm))), List.forall_mem_cons.mpr ⟨.head _, List.forall_mem_cons.mpr ⟨.tail _ (.head _), sub⟩⟩⟩⟩)
        clear ne2 sub
        replace fr2 : Fr g' L' h _ := fr2
        replace ne3 : News g' L' h _ := ne3
        k_sweep
        (try k_fold)
        refine abs_turn ?_
        intro P9 hp9
        k_steps
        rename Fr g' _ _ _ => fr7
        rename News g' _ _ _ => ne7
        rename _ ∧ _ ∧ _ ∧ _ ∧ _ ∧ _ ∧ _ ∧ _ ∧ _ ∧ _ ∧ _ ∧ _ ∧ AllLt _ tl => l8
        rename _ ∧ _ ∧ _ ∧ _ ∧ _ ∧ _ ∧ _ ∧ _ ∧ _ ∧ _ ∧ _ ∧ AllLt _ tl => l7
        rename IntsAre _ _ => hI9
        rw [code_eq ks sz] at hI9
        obtain ⟨T7, e7⟩ : ∃ a, a = adN ne7 0 := ⟨_, rfl⟩
        dsimp only [adN, adL] at e7
        subst e7
        obtain ⟨L7, e7⟩ : ∃ a, a = adN ne7 1 := ⟨_, rfl⟩
        dsimp only [adN, adL] at e7
        subst e7
        have nT : @Ne Nat T7 f4 := by have h1 := l8.2.2.2.2.2.2.2.2.2.2.2.1; exact Nat.ne_of_gt h1
        have nL : @Ne Nat L7 f4 := by have h1 := l7.2.2.2.2.2.2.2.2.2.2.1; exact Nat.ne_of_gt h1
        have tT := l8.2.2.2.2.2.2.2.2.2.2.2.2
        have tL := l7.2.2.2.2.2.2.2.2.2.2.2
        have hz : fvs.length ≤ sizeLine := by
          have e := datAll_length hdf
          have h9 : rows2.length = 9 := by rfl
          simp only [List.length_map, List.length_take] at e
          have : fvs.length ≤ 9 := by
            rw [e]; lia
          exact Nat.le_trans this (by decide)
        have hoff : ∀ p ∈ hdN ne7 2 ++ (r5, listOf rv1.toArray rn1) :: tl, @Ne Nat p.1 f4 := by
          intro p hp
          dsimp only [hdN, List.take, List.cons_append, List.nil_append] at hp
          rcases List.mem_cons.mp hp with rfl | hp
          · exact nT
          · rcases List.mem_cons.mp hp with rfl | hp
            · exact nL
            · rcases List.mem_cons.mp hp with rfl | hp
              · exact Nat.ne_of_lt lf.1
              · exact htr p hp _ (List.mem_singleton.mpr rfl)
        have ne6 := news_of (l' := (f4, listOf fvs.toArray fn) :: (hdN ne7 2 ++ (r5, listOf rv1.toArray rn1) :: tl)) ne7 (List.forall_mem_cons.mpr ⟨by k_mem, fun p hp => by
          dsimp only [hdN, List.take, List.cons_append, List.nil_append] at hp
          rcases List.mem_cons.mp hp with rfl | hp
          · k_mem
          · rcases List.mem_cons.mp hp with rfl | hp
            · k_mem
            · rcases List.mem_cons.mp hp with rfl | hp
              · k_mem
              · repeat (first | exact hp | refine List.Mem.tail _ ?_)⟩)
        refine append_led fr7 ne6 hoff hz ?_
        dsimp only [hdN, List.take, List.cons_append, List.nil_append]
        clear hoff ne6 ne7 fr7
        intro h8 fr8 ne8
        (try k_fold)
        k_steps
        (try show EndV _ _ _ _ _ _ _ _ _ _)
        refine hp9 _ _ ?_
        with_unfolding_all refine' m_endV (fvs ++ [.ref T7], fn + 1, List.drop 1 (hdN ne8 3) ++ fown) fr8 ne8 ?hn ?ho ?hs (List.forall_mem_nil _) ?hr ⟨?hP, ?hQ⟩
        case hn =>
          dsimp only [hdN, List.take, List.drop, List.cons_append, List.nil_append]
          refine List.forall_mem_cons.mpr ⟨by k_mem, List.forall_mem_cons.mpr ⟨by k_mem, fun p hp => ?_⟩⟩
          rcases List.mem_append.mp hp with hp | hp
          · exact .tail _ (.tail _ (.tail _ (.tail _ (htl ▸ mem_tl1 hp))))
          · rcases List.mem_cons.mp hp with rfl | hp
            · k_mem
            · rcases List.mem_cons.mp hp with rfl | hp
              · k_mem
              · exact .tail _ (.tail _ (.tail _ (.tail _ (htl ▸ mem_tl2 hp))))
        case ho => exact fun p hp => .tail _ (.tail _ (.tail _ (.tail _ (htl ▸ mem_tl3 hp))))
        case hs =>
          intro q hq p hp
          dsimp only [hdN, List.take, List.drop, List.cons_append, List.nil_append] at hp
          have hqt : q ∈ tl := htl ▸ mem_tl3 hq
          rcases List.mem_cons.mp hp with rfl | hp
          · exact hsep q hq _ (.head _)
          · rcases List.mem_cons.mp hp with rfl | hp
            · exact hsep q hq (_, listOf fvs.toArray fn) (.tail _ (.head _))
            · rcases List.mem_append.mp hp with hp | hp
              · exact hsep q hq _ (.tail _ (.tail _ (List.mem_append_left _ hp)))
              · rcases List.mem_cons.mp hp with rfl | hp
                · exact Nat.ne_of_lt (kst_ltOf tT q hqt)
                · rcases List.mem_cons.mp hp with rfl | hp
                  · exact Nat.ne_of_lt (kst_ltOf tL q hqt)
                  · exact hsep q hq _ (.tail _ (.tail _ (List.mem_append_right _ hp)))
        case hr => k_extra "m_same"
        case hP =>
          rw [made_step hr1]
          refine datAll_app (DatAll.mono (fun p hp => List.mem_append_right _ hp) hdf) (.cons ?_ .nil)
          dsimp only [hdN, List.take, List.drop, List.cons_append, List.nil_append]
          with_unfolding_all exact (.tuple (.head _) (.cons (.str _ _) (.cons (.list (.tail _ (.head _)) (datAll_of_ints hI9)) .nil)))
        case hQ =>
          intro p hp
          dsimp only [hdN, List.take, List.drop, List.cons_append, List.nil_append] at hp
          rcases List.mem_cons.mp hp with rfl | hp
          · exact nT
          · rcases List.mem_cons.mp hp with rfl | hp
            · exact nL
            · exact hfo p hp
      · clear fr1 ne1
        rintro ⟨fvs, fn, fown⟩ u h tk hdf fr2 ne2
        dsimp only at hdf fr2 ne2 ⊢
        have ne3 := news_of (l' := (f4, listOf fvs.toArray fn) :: fown) ne2 (fun p hp => .tail _ ((List.mem_cons.mp hp).elim (fun e => e ▸ .head _) fun hp => .tail _ (List.mem_append_right _ hp)))
        clear ne2
        replace fr2 : Fr g' L' h _ := fr2
        replace ne3 : News g' L' h _ := ne3
        k_sweep
        (try k_fold)
        k_steps
        refine hq9 _ _ ?_
        k_steps
        (rename Fr g' _ _ _ => fr8); (rename News g' _ _ _ => ne8); exact m_ret hret fr8 ne8 (by assumption) (by assumption) hr N (by k_extra "m_pre") ⟨_, fvs, fn, fown, hdf⟩
end
inductive POct (size : Int) : Value → List (Addr × Obj) → Prop
  | mk (a : Nat) (os : List Value) (ks : List Int) (nn : Nat) (hI : IntsAre os ks) (hl : (ks.length : Int) = size) (hb : ∀ k ∈ ks, 0 ≤ k ∧ k < 256) : POct size (.ref a) [(a, listOf os.toArray nn)]
theorem c_octets (w : World) (mean : ExcName → Option Value) (mg mb : Str → Option Value) {sc : Nat} {vs : List Value} {ns : List Int} {start size : Int} {t1 t2 : Tok} (hS : Scr vs ns) (hs0 : 0 ≤ start) (hs1 : start < 900) (hz0 : 0 ≤ size) (hz1 : size ≤ 400) :
    CtrB PySem.Challenge.rw_ys0001_11.row.prog w (Mine.K w.params) Mine.V (looseW Mine.V [Str.ofString "NotRelativePrimeError", Str.ofString "int2bytes", Str.ofString "HASH_ASN1"]) mean mg mb 348 20 200 [.ref sc, .int start t1, .int size t2] [] (fun base => base.IsList sc vs.toArray)
      (POct size) := by
  k_with "call ref" => ((k_here; (with_reducible show wpAny _ _ (call (Value.ref 393) _) _ _ _); refine hold ?_))
  k_with "call ref" => ((k_here; (with_reducible show wpAny _ _ (call (Value.ref 393) _) _ _ _); k_dflt ((refine Ctr.use (c_codes _ _ _ _) (by k_asm) (by k_asm) (by k_asm) (by k_asm) (by k_asm) (by first | exact rfl | assumption) (by k_extra "m_pre") (by walk_at "m_rest") (by first | exact roomk (by assumption) (by decide) | exact roomk2 (by assumption) (by decide) | ktr_room) (by first | exact roomk (by assumption) (by decide) | exact roomk2 (by assumption) (by decide) | ktr_units) ?_)); rintro v9 l9 h9 tk9 ⟨cd9, vs9, nn9, own9, hD9⟩ hlo9 F9 N9; (have hcs9 := hlo9); clear hlo9; (try simp only [List.cons_append, List.append_nil] at N9); k_sweep; (try k_fold)))
  w_top off
  k_fill
  intro dp un gd cn cs' a ccd cl outer A₀ base h₀ L m rest s Q E B hL0 F X N hdis T hk hd hu hret
  refine wpAny_call ?_
  have N0 := news_left N
  k_dflt refine' code_defR (binds := [(Str.ofString "script", .ref sc), (Str.ofString "start", .int start t1), (Str.ofString "size", .int size t2)]) ?k1 ?k2 ?k3 ?k4 ?k5 ?kA ?kF ?kK ?k6 ?k7 ?k8 ?k9 ?kB ?_ ?c2 ?c3 ?c4 ?c5
  k_dflt k_extra "m_enter"
  intro g' L' h' FG F' N' B' X' T' kept small
  have hL1 := stays_list B'.stays hL0
  (try dsimp only)
  (try k_extra "m_letA")
  (try k_fold)
  have hr := rest_kept N hdis kept
  k_steps
  unfold Hold
  (try k_gentoks)
  rename IsRange _ _ _ _ _ _ _ _ => hrng
  rename Fr g' _ _ _ => fr1
  rename News g' _ _ _ => ne1
  obtain ⟨r9a, e9⟩ : ∃ a, a = adN ne1 0 := ⟨_, rfl⟩
  dsimp only [adN, adL] at e9
  subst e9
  have hz : ((size.toNat : Nat) : Int) = size := Int.toNat_of_nonneg hz0
  with_unfolding_all refine m_range (σ := List Value × List Int × Nat × Int × Tok) (n := size.toNat) (fun c => [(r9a, listOf c.1.toArray c.2.2.1)]) (fun c => [(Str.ofString "number", .int c.2.2.2.1 c.2.2.2.2)]) (fun _ => True) [Str.ofString "number"] (fun i c => IntsAre c.1 c.2.1 ∧ c.2.1.length = i ∧ (∀ k ∈ c.2.1, 0 ≤ k ∧ k < 256) ∧ 0 ≤ c.2.2.2.1 ∧ Bd 1048578 c.2.2.2.1) (fun c => IntsAre c.1 c.2.1 ∧ (c.2.1.length : Int) = size ∧ (∀ k ∈ c.2.1, 0 ≤ k ∧ k < 256)) ([], [], 0, _, _) rfl hrng (small_one (by lia) (by lia) (by lia) (by lia)) (by rw [rangeSize_nat]; lia) fr1 ne1 (by k_extra "m_pre") trivial (List.forall_mem_cons.mpr ⟨rfl, List.forall_mem_nil _⟩) ⟨.nil, rfl, List.forall_mem_nil _, by dsimp only; lia, ?hb0⟩ ?_ ?_ ?_
  case hb0 => walk_at "m_bd"
  · rintro c ⟨h1, h2, h3, -⟩
    exact ⟨h1, by rw [h2, hz], h3⟩
  · clear fr1 ne1
    rintro ⟨os, ks, nn, num, tn⟩ i k t u h tk own hk' hi hoff - ⟨hI, hlen, hall, hn0, hnB⟩ fr1 ne1
    dsimp only [List.cons_append, List.nil_append] at hI hlen hall hn0 hnB fr1 ne1 ⊢
    replace fr1 : Fr g' L' h _ := fr1
    replace ne1 : News g' L' h _ := ne1
    k_sweep
    (try k_fold)
    k_steps
    all_goals (dsimp only [MPost]; (rename Fr g' _ _ _ => fr8); (rename News g' _ _ _ => ne8); (simp only [List.push_toArray] at ne8); with_unfolding_all refine' m_end (_, ks ++ [_], _, _, _) fr8 ne8 ?hn ?ho ?ha trivial (List.forall_mem_cons.mpr ⟨rfl, List.forall_mem_nil _⟩) (by k_extra "m_same3") ⟨intsAre_append hI (.cons _ _ .nil), by simp [hlen], all_app hall (fmod_nn (by decide)), (fmod_nn (by decide)).1, ?hw⟩; (case hn => k_extra "m_pre"); (case ho => intro p hp; kst_mem); (case ha => rfl); (case hw => exact fmod_bd (by decide) (.small (by decide) (by decide))))
  · clear fr1 ne1
    rintro ⟨os, ks, nn, num, tn⟩ u h tk - ⟨hI, hlen, hall⟩ fr1 ne1
    dsimp only at hI hlen hall fr1 ne1 ⊢
    replace fr1 : Fr g' L' h _ := fr1
    replace ne1 : News g' L' h _ := ne1
    k_sweep
    (try k_fold)
    k_steps
    (rename Fr g' _ _ _ => fr8); (rename News g' _ _ _ => ne8); exact m_ret hret fr8 ne8 (by assumption) (by assumption) hr N (by k_extra "m_pre") ⟨_, _, _, _, hI, hlen, hall⟩
theorem value_take {ks : List Int} {i : Nat} {n : Int} (h : ks[i]? = some n) : KFB.value (ks.take (i + 1)) = 256 * KFB.value (ks.take i) + n := by
  k_with "call ref" => ((k_here; (with_reducible show wpAny _ _ (call (Value.ref 348) _) _ _ _); refine hold ?_))
  k_with "call ref" => ((k_here; (with_reducible show wpAny _ _ (call (Value.ref 348) _) _ _ _); k_dflt ((refine CtrB.use (c_octets _ _ _ _ (by assumption) ?_ ?_ ?_ ?_) (by k_asm) (by assumption) (by k_asm) (by k_asm) (by k_asm) (by k_asm) (by first | exact rfl | assumption) (by k_extra "m_pre") (by walk_at "m_rest") (by first | exact roomk (by assumption) (by decide) | exact roomk2 (by assumption) (by decide) | ktr_room) (by first | exact roomk (by assumption) (by decide) | exact roomk2 (by assumption) (by decide) | ktr_units) ?_); (first | decide | lia); (first | decide | lia); (first | decide | lia); (first | decide | lia)); rintro v9 l9 h9 tk9 ⟨oa9, os9, ko9, no9, hoI9, hoL9, hoB9⟩ hlo9 F9 N9; replace hlo9 := sepL_of hlo9; (try dsimp only [sepL, sepR, StL, KeyL, PubL] at hlo9); (try dsimp only [List.cons_append, List.nil_append] at N9); k_sweep; (try k_fold)))
  rw [List.take_add_one, h, Option.toList_some]
  unfold KFB.value
  rw [List.foldl_append]
  simp only [List.foldl_cons, List.foldl_nil]
  lia
theorem value_takeB {ks : List Int} (h : ∀ n ∈ ks, 0 ≤ n ∧ n < 256) (hl : ks.length ≤ 155) (i : Nat) : Bd 1240 (KFB.value (ks.take i)) :=
  (value_bd (fun n hn => h n (List.mem_of_mem_take hn)) (by rw [List.length_take]; lia)).2
theorem c_number (w : World) (mean : ExcName → Option Value) (mg mb : Str → Option Value) {oa : Nat} {os : List Value} {ks : List Int} {nn : Nat} (hI : IntsAre os ks) (hb : ∀ k ∈ ks, 0 ≤ k ∧ k < 256) (hl : ks.length ≤ 155) :
    Ctr PySem.Challenge.rw_ys0001_11.row.prog w (Mine.K w.params) Mine.V (looseW Mine.V [Str.ofString "NotRelativePrimeError", Str.ofString "int2bytes", Str.ofString "HASH_ASN1"]) mean mg mb 381 8 80 [.ref oa] [(oa, listOf os.toArray nn)]
      (PInt (KFB.value ks) [(oa, listOf os.toArray nn)]) := by
  w_top off
  k_fill
  intro dp un gd cn cs' a ccd cl outer A₀ base h₀ L m rest s Q E B F X N hdis T hk hd hu hret
  refine wpAny_call ?_
  have N0 := news_left N
  k_dflt refine' code_defR (binds := [(Str.ofString "octets", .ref oa)]) ?k1 ?k2 ?k3 ?k4 ?k5 ?kA ?kF ?kK ?k6 ?k7 ?k8 ?k9 ?kB ?_ ?c2 ?c3 ?c4 ?c5
  k_dflt k_extra "m_enter"
  intro g' L' h' FG F' N' B' X' T' kept small
  (try dsimp only)
  (try k_extra "m_letA")
  (try k_fold)
  have hr := rest_kept N hdis kept
  k_steps
  unfold Hold
  rename Fr g' _ _ _ => fr1
  rename News g' _ _ _ => ne1
  with_unfolding_all refine m_listK (σ := Int × Tok) (fun _ => [(oa, listOf os.toArray nn)]) (fun c => [(Str.ofString "number", .int c.1 c.2)]) [Str.ofString "octet"] (fun i c => c.1 = KFB.value (ks.take i)) (0, _) rfl (fun _ => by k_mem) hI fr1 ne1 (by k_extra "m_pre") (List.forall_mem_cons.mpr ⟨rfl, List.forall_mem_nil _⟩) rfl ?_ ?_
  · clear fr1 ne1
    rintro ⟨p, tp⟩ i n t u h tk own hn hoff hp fr1 ne1
    dsimp only [List.cons_append, List.nil_append] at hp fr1 ne1 ⊢
    replace fr1 : Fr g' L' h _ := fr1
    replace ne1 : News g' L' h _ := ne1
    have hpB : Bd 1240 p := hp ▸ value_takeB hb hl i
    k_sweep
    (try k_fold)
    k_steps
    (try dsimp only [InvPostN])
    rename Fr g' _ _ _ => fr2
    rename News g' _ _ _ => ne2
    with_unfolding_all refine' m_endT (_, _) fr2 ne2 ?hn ?ho ?ha (List.forall_mem_cons.mpr ⟨rfl, List.forall_mem_nil _⟩) ?hr ?hq
    case hn => k_extra "m_pre"
    case ho => intro p hp; kst_mem
    case ha => rfl
    case hr => k_extra "m_same"
    case hq => exact (value_take hn).symm ▸ hp ▸ rfl
  · clear fr1 ne1
    rintro ⟨p, tp⟩ u h tk hp fr1 ne1
    dsimp only at hp fr1 ne1 ⊢
    replace fr1 : Fr g' L' h _ := fr1
    replace ne1 : News g' L' h _ := ne1
    rw [List.take_length] at hp
    subst hp
    k_sweep
    (try k_fold)
    k_steps
    (rename Fr g' _ _ _ => fr8); (rename News g' _ _ _ => ne8); exact m_ret hret fr8 ne8 (by assumption) (by assumption) hr N (by k_extra "m_pre") ⟨_⟩
theorem wr_eq {x : Int} {K : Nat} : ((List.range K).map fun j : Nat => (x.fdiv (2 ^ (8 * ((K : Int) - 1 - (j : Int))).toNat)).fmod 256) = (KTBy.little K x).reverse := by
  k_with "call ref" => ((k_here; (with_reducible show wpAny _ _ (call (Value.ref 381) _) _ _ _); refine hold ?_))
  k_with "call ref" => ((k_here; (with_reducible show wpAny _ _ (call (Value.ref 381) _) _ _ _); k_dflt ((refine Ctr.use (c_number _ _ _ _ (by assumption) (by assumption) ?_) (by k_asm) (by k_asm) (by k_asm) (by k_asm) (by k_asm) (by first | exact rfl | assumption) (by k_extra "m_pre") (by walk_at "m_rest") (by first | exact roomk (by assumption) (by decide) | exact roomk2 (by assumption) (by decide) | ktr_room) (by first | exact roomk (by assumption) (by decide) | exact roomk2 (by assumption) (by decide) | ktr_units) ?_); (first | assumption | lia)); rintro v9 l9 h9 tk9 ⟨tr9⟩ hlo9 F9 N9; clear hlo9; (try dsimp only [List.cons_append, List.nil_append] at N9); k_sweep; (try k_fold)))
  rw [KTBy.little_eq]
  apply List.ext_getElem
  · simp
  intro j h1 h2
  have hj : j < K := by simpa using h1
  simp only [List.getElem_map, List.getElem_range, List.getElem_reverse, List.length_map, List.length_range]
  rw [Int.fdiv_eq_ediv_of_nonneg _ (Int.le_of_lt (Int.pow_pos (by decide))), Int.fmod_eq_emod_of_nonneg _ (by decide), p256]
  have e : (8 * ((K : Int) - 1 - (j : Int))).toNat = 8 * (K - 1 - j) := by lia
  rw [e]
inductive PWri (x size : Int) : Value → List (Addr × Obj) → Prop
  | mk (a : Nat) (os : List Value) (nn : Nat) (hI : IntsAre os (KTBy.little size.toNat x).reverse) : PWri x size (.ref a) [(a, listOf os.toArray nn)]
theorem c_written (w : World) (mean : ExcName → Option Value) (mg mb : Str → Option Value) {x size : Int} {t1 t2 : Tok} (hx : 0 ≤ x) (hxB : Bd 1240 x) (hz0 : 0 ≤ size) (hz1 : size ≤ 400) :
    Ctr PySem.Challenge.rw_ys0001_11.row.prog w (Mine.K w.params) Mine.V (looseW Mine.V [Str.ofString "NotRelativePrimeError", Str.ofString "int2bytes", Str.ofString "HASH_ASN1"]) mean mg mb 386 8 80 [.int x t1, .int size t2] []
      (PWri x size) := by
  k_with "eval ListComp" => (guard_hyp in_written : True; (k_here; k_dflt (refine LCg.ListComp_U (F₀ := by k_asm) (by with_unfolding_all rfl) (by decide) (by rfl) (by decide) (by rfl) ?_)))
  k_with "CompSrc" => (guard_hyp in_written : True; (refine hold ?_))
  k_with "binaryOp RShift int int" => (guard_hyp in_written : True; (k_here; (refine rshift_int ?_ ?_); (lia)))
  have in_written : True := True.intro
  w_top off
  k_fill
  intro dp un gd cn cs' a ccd cl outer A₀ base h₀ L m rest s Q E B F X N hdis T hk hd hu hret
  refine wpAny_call ?_
  have N0 := news_left N
  k_dflt refine' code_defCR (binds := [(Str.ofString "number", .int x t1), (Str.ofString "size", .int size t2)]) ?k1 ?k2 ?k3 ?k4 ?k5 ?kA ?kF ?kK ?k6 ?k7 ?k8 ?k9 ?kB ?kN ?_ ?c2 ?c3 ?c4
  k_dflt k_extra "m_enterC"
  intro g' L' h' tkc cells FG F' N' Y B' X' T' kept small
  k_cells Y
  (try simp only [List.cons_append, List.nil_append] at N')
  (try dsimp only)
  (try k_extra "m_letA")
  (try k_fold)
  have hr := rest_kept N hdis kept
  k_steps
  unfold Hold
  (try k_gentoks)
  rename IsRange _ _ _ _ _ _ _ _ => hr2
  rename Fr g' _ _ _ => fr2
  rename News g' _ _ _ => ne2
  have hz : ((size.toNat : Nat) : Int) = size := Int.toNat_of_nonneg hz0
  with_unfolding_all refine LCg.CompSrc.range (n := size.toNat) rfl fr2 ne2 hr2 (small_one (by lia) (by lia) (by lia) (by lia)) (by rw [rangeSize_nat]; lia) (by rw [sizeLine_eq]; lia) (fun g9 => comp_ind (σ := Unit) (fun _ => _) (fun i ys _ => IntsAre ys ((List.range i).map fun j : Nat => (x.fdiv (2 ^ (8 * (size - 1 - (j : Int))).toNat)).fmod 256)) () rfl .nil ?_ ?_)
  · intro i ys u9 R' hi9 hj hR v I oI C oC D m₂ h9 tk9 E' hP hC hx9 fr3 ne3 off ne9
    obtain ⟨t9, rfl⟩ := hP
    have hi8 : (i : Int) < size := by lia
    k_sweep
    (try k_fold)
    k_steps
    with_unfolding_all refine LCg.CompEnd.intro fr3 ne3 _ (fun p hp => hp) off trivial ⟨(), rfl, hR _ _ ?_⟩
    rw [List.range_succ, List.map_append, Int.zero_add]
    exact intsAre_append hj (.cons _ _ .nil)
  · intro ys u9 hb
    have hw := wr_eq (x := x) (K := size.toNat)
    rw [hz] at hw
    rw [hw] at hb
    unfold LCg.FinE
    intro D h9 tk9 fr3 ne3 off
    k_sweep
    (try k_fold)
    k_steps
    (rename Fr g' _ _ _ => fr8); (rename News g' _ _ _ => ne8); exact m_ret hret fr8 ne8 (by assumption) (by assumption) hr N (by k_extra "m_pre") ⟨_, ys, ys.length, hb⟩
noncomputable def Rd (ms clear : List Int) : Option (List Int) := if ms.length ≤ clear.length ∧ clear.take 2 = [0, 2] ∧ 10 ≤ fz clear then some (clear.drop (fz clear + 1).toNat) else none
inductive PRd (w : World) (oa x dx : Nat) (S : KeyS) (os : List Value) (no : Nat) (r : Option (List Int)) : Value → List (Addr × Obj) → Prop
  | no (b' : Int) (s1 : Tok) (i' : Int) (s2 : Tok) (h : r = none) : PRd w oa x dx S os no r .none ((oa, listOf os.toArray no) :: KeyL w 332 x dx S b' s1 i' s2)
  | yes (ra : Nat) (rs : List Value) (rn : Nat) (ks : List Int) (b' : Int) (s1 : Tok) (i' : Int) (s2 : Tok) (h : r = some ks) (hI : IntsAre rs ks) : PRd w oa x dx S os no r (.ref ra) ((ra, listOf rs.toArray rn) :: (oa, listOf os.toArray no) :: KeyL w 332 x dx S b' s1 i' s2)
theorem c_read (w : World) (mean : ExcName → Option Value) (mg mb : Str → Option Value) {oa x dx : Nat} {S : KeyS} {bf bi : Int} {t1 t2 : Tok} {os : List Value} {ms : List Int} {no : Nat} (hne : @Ne Nat x dx) (hox : @Ne Nat oa x) (hod : @Ne Nat oa dx) (hk9 : KRsa S) (hB : BfOk S bf bi) (hI : IntsAre os ms) (hb : ∀ k ∈ ms, 0 ≤ k ∧ k < 256) (hl : ms.length ≤ 155) (h12 : 12 ≤ szI S.n) :
    CtrO PySem.Challenge.rw_ys0001_11.row.prog w (Mine.K w.params) Mine.V (looseW Mine.V [Str.ofString "NotRelativePrimeError", Str.ofString "int2bytes", Str.ofString "HASH_ASN1"]) mean mg mb 429 60 450 [.ref oa, .ref x] ((oa, listOf os.toArray no) :: KeyL w 332 x dx S bf t1 bi t2)
      (PRd w oa x dx S os no (Rd ms (KTBy.little (szI S.n).toNat (PM (KFB.value ms) S.d S.n)).reverse)) := by
  k_with "call ref" => ((k_here; (with_reducible show wpAny _ _ (call (Value.ref 386) _) _ _ _); refine hold ?_))
  k_with "call ref" => ((k_here; (with_reducible show wpAny _ _ (call (Value.ref 386) _) _ _ _); k_dflt ((refine Ctr.use (c_written _ _ _ _ ?_ ?_ ?_ ?_) (by k_asm) (by k_asm) (by k_asm) (by k_asm) (by k_asm) (by first | exact rfl | assumption) (by k_extra "m_pre") (by walk_at "m_rest") (by first | exact roomk (by assumption) (by decide) | exact roomk2 (by assumption) (by decide) | ktr_room) (by first | exact roomk (by assumption) (by decide) | exact roomk2 (by assumption) (by decide) | ktr_units) ?_); (first | assumption | lia); (first | assumption | (walk_at "m_bd")); (first | assumption | lia); (first | assumption | lia)); rintro v9 l9 h9 tk9 ⟨wa9, ws9, wn9, hwI9⟩ hlo9 F9 N9; replace hlo9 := sepL_of hlo9; (try dsimp only [sepL, sepR, StL, KeyL, PubL] at hlo9); (try dsimp only [List.cons_append, List.nil_append] at N9); k_sweep; (try k_fold)))
  k_with "call ref" => (guard_hyp in_read : True; (k_here; (with_reducible show wpAny _ _ (call (Value.ref 170) _) _ _ _); k_dflt (walk_at "m_inline")))
  k_with "call type:bytes" => (guard_hyp in_read : True; (refine hold ?_))
  k_with "call type:list" => (guard_hyp in_read : True; ((with_reducible show wpAny _ _ (call (Value.type "list") [Value.bytes _ _]) _ _ _); refine hold ?_))
  k_with "getMethod bytes" => (guard_hyp in_read : True; (k_here; (refine find_method ?_)))
  k_with "exec If" => (guard_hyp in_read : True; (refine hold ?_))
  k_with "call builtin:bytes.find" => (guard_hyp in_read : True; (refine hold ?_))
  have in_read : True := True.intro
  obtain ⟨hk0, hk1, hk2, hk3⟩ := hk9.ok
  have hsz : szI S.n ≤ 155 := by have := szI_le hk1; lia
  have hlt := lt_octets hk0
  have hcll : (KTBy.little (szI S.n).toNat (PM (KFB.value ms) S.d S.n)).reverse.length = (szI S.n).toNat := by rw [List.length_reverse, KTBy.little_length]
  generalize hcl : (KTBy.little (szI S.n).toNat (PM (KFB.value ms) S.d S.n)).reverse = clear at hcll ⊢
  w_top off
  k_fill
  intro dp un gd cn cs' a ccd A₀ h₀ L m rest s Q E B F X N hdis T hk hd hu hret
  refine wpAny_call ?_
  have N0 := news_left N
  k_dflt refine' code_defSR (binds := [(Str.ofString "octets", .ref oa), (Str.ofString "private", .ref x)]) B F X N0 T ?kA ?k6 ?k7 ?k8 ?k9 ?kB ?_ ?kK ?c2 ?c3 ?c4 ?c5
  k_dflt ((case kA => exact rfl); (case kK => assumption); (case k6 => k_is); (case k7 => k_is); (case k8 => ktr_room); (case k9 => exact BindsTo.of_eq rfl); (case c5 => decide); (case kB => exact locs rfl); (case c2 => exact rfl); (case c3 => exact rfl); (case c4 => exact rfl); k_whole)
  intro g' L' h' FG F' N' B' X' T' D' kept small
  (try dsimp only)
  (try k_extra "m_letA")
  (try k_fold)
  have hr := rest_kept N hdis kept
  k_steps
  unfold Hold
  rename Fr _ _ _ _ => fr1
  rename News _ _ _ _ => ne1
  refine KBa.make_K fr1 ne1 rfl (News.isList ne1 (List.Mem.head _)) hI ?hin (by lia) ?_
  case hin => exact hb
  intro h8 t8 k8 fr2 ne2 hin8
  clear fr1 ne1
  have hbb := KBa.ints_make hin8
  generalize byteArr ms = b0 at hbb ⊢
  have hbs : b0.size = ms.length := by rw [← hbb, KBw.ints_length]
  have hvb := value_bd (l := KBw.bInts b0) (hbb ▸ hb) (by rw [KBw.ints_length]; lia)
  have hv0 := hvb.1
  have hvB := hvb.2
  have hres0 := PM_nn (KFB.value (KBw.bInts b0)) S.d S.n
  have hres := Int.lt_trans (PM_lt (x := KFB.value (KBw.bInts b0)) (y := S.d) hk0) hlt
  k_steps
  unfold Hold
  rw [hbb, hcl] at hb9
  have hbz9 : b9.size = (szI S.n).toNat := by rw [← KBw.ints_length, hb9]; exact hcll
  refine wpAny_If ?_
  k_steps
  · (rename KtsTurn _ _ _ => tn8; exact m_retO hret (by intro b hb; exact List.mem_singleton.mp hb) tn8 (by assumption) (by assumption) (by assumption) (by assumption) hr N (by k_extra "m_pre") (.no _ _ _ _ (if_neg (fun hc => by rw [hcll] at hc; lia))))
  · unfold Hold
    refine find_call (by rw [hbz9]; show 2 + 1 ≤ _; lia) ?_
    intro k9 t8'
    rw [find_zero hb9]
    k_steps
    unfold Hold
    rename Fr _ _ _ _ => fr5
    by_cases hgood : clear.take 2 = [0, 2] ∧ 10 ≤ fz clear
    · have hv : ((KBy.picked b9 none (some 2)).toList != (#[0, 2] : Array UInt8).toList || decide (fz clear < 10)) = false := by
        rw [mark_eq hb9]; simp only [Bool.or_eq_false_iff, decide_eq_false_iff_not]; exact ⟨fun hc => hc hgood.1, by lia⟩
      rw [hv] at fr5
      have hfl := fz_lt (ks := clear) (by lia)
      have hcc : clipAt clear.length (fz clear + 1) = (fz clear + 1).toNat := clip_le (by lia) hfl
      refine wpAny_If ?_
      k_steps
      unfold Hold
      rename Fr _ _ _ _ => fr6
      rename News _ _ _ _ => ne6
      have hc7 := cut_from hb9 (i := fz clear + 1) (by lia) hfl
      refine list_bytesL rfl fr6 ne6 ?_ ?hz
      case hz => rw [sizeLine_eq]; exact Nat.le_trans (KBc.size_picked_le _ _ _) (by lia)
      intro D8 h8 tk8 ys8 c8 hD8 hlt8 hI8 fr8 ne8
      rw [hc7] at hI8
      clear hlt8 hD8 fr6 ne6
      k_steps
      (rename Fr g' _ _ _ => fr8); (rename News g' _ _ _ => ne8); exact m_ret hret fr8 ne8 (by assumption) (by assumption) hr N (by k_extra "m_pre") (.yes _ _ _ _ _ _ _ _ (if_pos ⟨by rw [hcll]; lia, hgood⟩) hI8)
    · have hv : ((KBy.picked b9 none (some 2)).toList != (#[0, 2] : Array UInt8).toList || decide (fz clear < 10)) = true := by
        rw [mark_eq hb9]; simp only [Bool.or_eq_true, decide_eq_true_eq]; exact Classical.byContradiction fun hc => hgood ⟨Classical.byContradiction fun h => hc (.inl h), by lia⟩
      rw [hv] at fr5
      refine wpAny_If ?_
      k_steps
      (rename KtsTurn _ _ _ => tn8; exact m_retO hret (by intro b hb; exact List.mem_singleton.mp hb) tn8 (by assumption) (by assumption) (by assumption) (by assumption) hr N (by k_extra "m_pre") (.no _ _ _ _ (if_neg (fun hc => hgood hc.2))))
theorem c_tld (w : World) (mean : ExcName → Option Value) (mg mb : Str → Option Value) {ta sa x dx : Nat} {S : KeyS} {bf bi : Int} {t1 t2 : Tok} {ts ss : List Value} {ms ks : List Int} {tn sn : Nat} (hne : @Ne Nat x dx) (hk9 : KOk S) (hI : IntsAre ts ms) (hI2 : IntsAre ss ks) (hb : ∀ k ∈ ms, 0 ≤ k ∧ k < 256) (hb2 : ∀ k ∈ ks, 0 ≤ k ∧ k < 256) (hl : ms.length ≤ 155) (hl2 : ks.length ≤ 155) (h12 : 12 ≤ szI S.n) :
    CtrO PySem.Challenge.rw_ys0001_11.row.prog w (Mine.K w.params) Mine.V (looseW Mine.V [Str.ofString "NotRelativePrimeError", Str.ofString "int2bytes", Str.ofString "HASH_ASN1"]) mean mg mb 422 60 450 [.ref ta, .ref sa, .ref x] ((ta, listOf ts.toArray tn) :: (sa, listOf ss.toArray sn) :: PubL w 285 x dx S bf t1 bi t2)
      (PStr (Jd ms ks (KTBy.little (szI S.n).toNat (PM (KFB.value ks) S.e S.n)).reverse) ((ta, listOf ts.toArray tn) :: (sa, listOf ss.toArray sn) :: PubL w 285 x dx S bf t1 bi t2)) := by
  k_with "call ref" => ((k_here; (with_reducible show wpAny _ _ (call (Value.ref 429) _) _ _ _); refine hold ?_))
  k_with "call ref" => ((k_here; (with_reducible show wpAny _ _ (call (Value.ref 429) _) _ _ _); k_dflt (refine' CtrO.use (c_read _ _ _ _ ?h1 ?h2 ?h3 ?h4 ?h5 ?h6 ?h7 ?h8 ?h9) ?k1 ?k2 ?k3 ?k4 ?k5 ?kk ?hp ?hR ?kd ?ku ?_; (case h4 => assumption); (case h5 => assumption); (case h6 => assumption); (case h7 => assumption); (k_extra "m_use"); (case h1 => assumption); (case h2 => k_ne); (case h3 => k_ne); (case h8 => lia); (case h9 => lia); k_whole); intro v9 l9 h9 tk9 hP9 hlo9 F9 N9; refine hold ?_))
  k_with "call ref" => (guard_hyp in_tld : True; (k_here; (with_reducible show wpAny _ _ (call (Value.ref 184) _) _ _ _); k_dflt (walk_at "m_inline")))
  k_with "call ref" => (guard_hyp in_tld : True; (k_here; (with_reducible show wpAny _ _ (call (Value.ref 198) _) _ _ _); k_dflt (walk_at "m_inline")))
  k_with "compareOp In bytes bytes" => (guard_hyp in_tld : True; (refine hold ?_))
  k_with "exec For Tuple Call" => (guard_hyp in_tld : True; (k_here; (rename Fr _ _ _ _ => lF'); (with_unfolding_all refine' For_turns lF' ?_; k_whole)))
  k_with "getMethod ref" => (guard_hyp in_tld : True; (refine hold ?_))
  k_with "call builtin:dict.items" => (guard_hyp in_tld : True; (refine hold ?_))
  k_with "call type:bytes" => (guard_hyp in_tld : True; (refine hold ?_))
  k_with "subscriptTail Name Name ref str" => (guard_hyp in_tld : True; (refine hold ?_))
  k_with "binaryOp Mod str ref" => (guard_hyp in_tld : True; (refine hold ?_))
  have in_tld : True := True.intro
  obtain ⟨hk0, hk1, hk2, hk3⟩ := hk9
  have hsz : szI S.n ≤ 155 := by have := szI_le hk1; lia
  have hlt := lt_octets hk0
  have hcll : (KTBy.little (szI S.n).toNat (PM (KFB.value ks) S.e S.n)).reverse.length = (szI S.n).toNat := by rw [List.length_reverse, KTBy.little_length]
  generalize hcl : (KTBy.little (szI S.n).toNat (PM (KFB.value ks) S.e S.n)).reverse = clear at hcll ⊢
  w_top off
  k_fill
  intro dp un gd cn cs' a ccd A₀ h₀ L m rest s Q E B F X N hdis T hk hd hu hret
  refine wpAny_call ?_
  have N0 := news_left N
  k_dflt refine' code_defSR (binds := [(Str.ofString "told", .ref ta), (Str.ofString "signature", .ref sa), (Str.ofString "public", .ref x)]) B F X N0 T ?kA ?k6 ?k7 ?k8 ?k9 ?kB ?_ ?kK ?c2 ?c3 ?c4 ?c5
  k_dflt ((case kA => exact rfl); (case kK => assumption); (case k6 => k_is); (case k7 => k_is); (case k8 => ktr_room); (case k9 => exact BindsTo.of_eq rfl); (case c5 => decide); (case kB => exact locs rfl); (case c2 => exact rfl); (case c3 => exact rfl); (case c4 => exact rfl); k_whole)
  intro g' L' h' FG F' N' B' X' T' D' kept small
  (try dsimp only)
  (try k_extra "m_letA")
  (try k_fold)
  have hr := rest_kept N hdis kept
  k_steps
  unfold Hold
  rename Fr _ _ _ _ => fr1
  rename News _ _ _ _ => ne1
  refine KBa.make_K fr1 ne1 rfl (News.isList ne1 (List.Mem.head _)) hI ?hin (by lia) ?_
  case hin => exact hb
  intro h8 t8 k8 fr2 ne2 hin8
  clear fr1 ne1
  have hbb := KBa.ints_make hin8
  generalize byteArr ms = b0 at hbb ⊢
  k_steps
  unfold Hold
  rename Fr _ _ _ _ => fr1
  rename News _ _ _ _ => ne1
  refine KBa.make_K fr1 ne1 rfl (News.isList ne1 (List.Mem.tail _ (List.Mem.head _))) hI2 ?hin (by lia) ?_
  case hin => exact hb2
  intro h7 t7 k7 fr3 ne3 hin7
  clear fr1 ne1
  have hbb2 := KBa.ints_make hin7
  generalize byteArr ks = b2 at hbb2 ⊢
  have hbs : b2.size = ks.length := by rw [← hbb2, KBw.ints_length]
  have hvb := value_bd (l := KBw.bInts b2) (hbb2 ▸ hb2) (by rw [KBw.ints_length]; lia)
  have hv0 := hvb.1
  have hres0 := PM_nn (KFB.value (KBw.bInts b2)) S.e S.n
  have hres := Int.lt_trans (PM_lt (x := KFB.value (KBw.bInts b2)) (y := S.e) hk0) hlt
  k_steps
  unfold Hold
  rw [hbb2, hcl] at hb9
  have hbc := hb9
  have hbz9 : b9.size = (szI S.n).toNat := by rw [← KBw.ints_length, hb9]; exact hcll
  rename Frag.In _ _ => X9
  obtain ⟨kvs, hT, hTab⟩ := c_tab X9
  rename Fr _ _ _ _ => fr1
  refine tab_method (hT.keep fr1.keep) ?_
  k_steps
  unfold Hold
  rename Fr _ _ _ _ => fr2
  rename News _ _ _ _ => ne2
  refine tab_items (by decide) (hT.keep fr2.keep) fr2 ne2 ?_
  intro V9 h9 hV9 fr3 ne3
  (try clear fr1)
  clear fr2 ne2
  k_steps
  unfold Hold
  with_unfolding_all refine m_items [Str.ofString "hashname", Str.ofString "asn1code"] (fun i => ∀ j, j < i → hasB clear (hC.getD j []) = false) rfl hV9 hT fr3 ne3 (fun j h => absurd h (Nat.not_lt_zero _)) ?_ ?_
  · intro i k x t T9 u h tk own hkx hsep hP hT9 fr4 ne4
    clear fr3 ne3
    have hrow := hTab.row hkx
    obtain ⟨c5, t5, rfl, hc5⟩ := hrow.2.2
    obtain rfl := hrow.2.1
    dsimp only [List.cons_append, List.nil_append] at fr4 ne4
    k_sweep
    (try k_fold)
    k_steps
    unfold Hold
    rename Fr _ _ _ _ => fr5
    rename News _ _ _ _ => ne5
    refine in_bytes rfl fr5 ne5 ?_
    intro h6 tk6 fr6 ne6
    rw [has_find hb9 hc5]
    clear fr5 ne5
    cases hh : hasB clear (hC.getD i []) with
    | true =>
      have hhit := hit_some hrow.1 hh hP
      replace ne6 := news_of (l' := (ta, listOf ts.toArray tn) :: (sa, listOf ss.toArray sn) :: PubL w 285 x dx S bf t1 bi t2) ne6 (by k_extra "m_pre")
      k_steps
      dsimp only [PostV]
      k_steps
      unfold Hold
      rename Frag.In _ _ => X5
      obtain ⟨kv5, hT5, hTab5⟩ := c_tab X5
      obtain ⟨cb, ct, hcv, hcb⟩ := hTab5.at hrow.1
      rename Fr _ _ _ _ => fr7
      have hclen := hC_len hrow.1
      refine tab_item (hT5.keep fr7.keep) hcv ?_
      k_steps
      unfold Hold
      have hzz : (clear.length : Int) = szI S.n := by rw [hcll]; lia
      by_cases hlong : (clear.length : Int) - 11 < ((hC.getD i []).length : Int) + ms.length
      · have hJ : Jd ms ks clear = Str.ofString "long" := by unfold Jd; rw [hhit]; exact if_pos hlong
        rw [hJ] at hret
        k_dflt (walk_at "m_inline")
        k_steps
        unfold Hold
        rename News _ _ _ _ => ne8
        refine over_msg ne8 (List.Mem.head _) (by lia) (by lia) (by lia) (by lia) ?_
        intro T8 t8' k8'
        k_steps
        (rename KtsTurn _ _ _ => tn8; exact m_retO hret (by intro b hb; exact List.mem_singleton.mp hb) tn8 (by assumption) (by assumption) (by assumption) (by assumption) hr N (by k_extra "m_pre") ⟨_⟩)
      · have hl' : ((hC.getD i [] ++ ms).length : Int) ≤ szI S.n - 11 := by rw [List.length_append]; lia
        k_steps
        · rename ((ks.length : Nat) : Int) ≠ szI S.n => hq
          have hJ : Jd ms ks clear = Str.ofString "refused" := by unfold Jd; rw [hhit]; dsimp only; rw [if_neg hlong, if_pos (.inl (fun e => hq (by lia)))]
          rw [hJ] at hret
          (rename KtsTurn _ _ _ => tn8; exact m_retO hret (by intro b hb; exact List.mem_singleton.mp hb) tn8 (by assumption) (by assumption) (by assumption) (by assumption) hr N (by k_extra "m_pre") ⟨_⟩)
        · rename (_ != _) = true => hq
          rw [bne_ints hb9 hbc] at hq
          have hJ : Jd ms ks clear = Str.ofString "refused" := by unfold Jd; rw [hhit]; dsimp only; rw [if_neg hlong, if_pos (.inr (fun e => of_decide_eq_true hq (by rw [hzz] at e; exact e.symm)))]
          rw [hJ] at hret
          (rename KtsTurn _ _ _ => tn8; exact m_retO hret (by intro b hb; exact List.mem_singleton.mp hb) tn8 (by assumption) (by assumption) (by assumption) (by assumption) hr N (by k_extra "m_pre") ⟨_⟩)
        · rename (_ != _) = false => hq
          rename ((ks.length : Nat) : Int) = szI S.n => hq2
          rw [bne_ints hb9 hbc] at hq
          have hJ : Jd ms ks clear = hN.getD i (Str.ofString "") := by unfold Jd; rw [hhit]; dsimp only; rw [if_neg hlong, if_neg (fun h => h.elim (fun h => h (by lia)) (fun h => h (by rw [hzz]; exact (Classical.not_not.mp (of_decide_eq_false hq)).symm)))]
          rw [hJ] at hret
          (rename Fr g' _ _ _ => fr8); (rename News g' _ _ _ => ne8); exact m_ret hret fr8 ne8 (by assumption) (by assumption) hr N (by k_extra "m_pre") ⟨_⟩
    | false =>
      k_steps
      (try dsimp only [PostV])
      rename Fr _ _ _ _ => fr7
      rename News _ _ _ _ => ne7
      with_unfolding_all refine' m_endV () fr7 ne7 ?hn ?ho ?hs (List.forall_mem_nil _) ?hr ?hP
      case hn => k_extra "m_pre"
      case ho => intro p hp; kst_mem
      case hs => exact hsep
      case hr => k_extra "m_same"
      case hP =>
        intro j hj
        by_cases e : j = i
        · rw [e]; exact hh
        · exact hP j (by lia)
  · intro u h tk hP fr4 ne4
    clear fr3 ne3
    dsimp only [List.cons_append, List.nil_append] at fr4 ne4
    k_sweep
    (try k_fold)
    k_steps
    have hnone : hit clear = none := hit_none (fun j hj => hP j (hTab.len.symm ▸ hj))
    have hJ : Jd ms ks clear = Str.ofString "refused" := by unfold Jd; rw [hnone]
    rw [hJ] at hret
    (rename KtsTurn _ _ _ => tn8; exact m_retO hret (by intro b hb; exact List.mem_singleton.mp hb) tn8 (by assumption) (by assumption) (by assumption) (by assumption) hr N (by k_extra "m_pre") ⟨_⟩)
theorem c_fnd (w : World) (mean : ExcName → Option Value) (mg mb : Str → Option Value) {sa x dx : Nat} {S : KeyS} {bf bi : Int} {t1 t2 : Tok} {ss : List Value} {ks : List Int} {sn : Nat} (hne : @Ne Nat x dx) (hk9 : KOk S) (hI2 : IntsAre ss ks) (hb2 : ∀ k ∈ ks, 0 ≤ k ∧ k < 256) (hl2 : ks.length ≤ 155) (h12 : 12 ≤ szI S.n) :
    CtrO PySem.Challenge.rw_ys0001_11.row.prog w (Mine.K w.params) Mine.V (looseW Mine.V [Str.ofString "NotRelativePrimeError", Str.ofString "int2bytes", Str.ofString "HASH_ASN1"]) mean mg mb 436 60 450 [.ref sa, .ref x] ((sa, listOf ss.toArray sn) :: PubL w 285 x dx S bf t1 bi t2)
      (PFd (hit (KTBy.little (szI S.n).toNat (PM (KFB.value ks) S.e S.n)).reverse) ((sa, listOf ss.toArray sn) :: PubL w 285 x dx S bf t1 bi t2)) := by
  k_with "call ref" => ((k_here; (with_reducible show wpAny _ _ (call (Value.ref 422) _) _ _ _); refine hold ?_))
  k_with "call ref" => ((k_here; (with_reducible show wpAny _ _ (call (Value.ref 422) _) _ _ _); k_dflt ((refine CtrO.use (c_tld _ _ _ _ ?_ (by assumption) ?_ ?_ ?_ ?_ ?_ ?_ ?_) (by k_asm) (by k_asm) (by k_asm) (by k_asm) (by k_asm) (by first | exact rfl | assumption) (by k_extra "m_pre") (by walk_at "m_rest") (by first | exact roomk (by assumption) (by decide) | exact roomk2 (by assumption) (by decide) | ktr_room) (by first | exact roomk (by assumption) (by decide) | exact roomk2 (by assumption) (by decide) | ktr_units) ?_); (assumption); (assumption); (assumption); (assumption); (assumption); (lia); (lia); (lia)); rintro v9 l9 h9 tk9 ⟨tr9⟩ hlo9 F9 N9; clear hlo9; (try dsimp only [List.cons_append, List.nil_append] at N9); k_sweep; (try k_fold)))
  k_with "call ref" => (guard_hyp in_fnd : True; (k_here; (with_reducible show wpAny _ _ (call (Value.ref 191) _) _ _ _); k_dflt (walk_at "m_inline")))
  k_with "call ref" => (guard_hyp in_fnd : True; (k_here; (with_reducible show wpAny _ _ (call (Value.ref 198) _) _ _ _); k_dflt (walk_at "m_inline")))
  k_with "compareOp In bytes bytes" => (guard_hyp in_fnd : True; (refine hold ?_))
  k_with "exec For Tuple Call" => (guard_hyp in_fnd : True; (k_here; (rename Fr _ _ _ _ => lF'); (with_unfolding_all refine' For_turns lF' ?_; k_whole)))
  k_with "getMethod ref" => (guard_hyp in_fnd : True; (refine hold ?_))
  k_with "call builtin:dict.items" => (guard_hyp in_fnd : True; (refine hold ?_))
  k_with "call type:bytes" => (guard_hyp in_fnd : True; (refine hold ?_))
  have in_fnd : True := True.intro
  obtain ⟨hk0, hk1, hk2, hk3⟩ := hk9
  have hsz : szI S.n ≤ 155 := by have := szI_le hk1; lia
  have hlt := lt_octets hk0
  have hcll : (KTBy.little (szI S.n).toNat (PM (KFB.value ks) S.e S.n)).reverse.length = (szI S.n).toNat := by rw [List.length_reverse, KTBy.little_length]
  generalize hcl : (KTBy.little (szI S.n).toNat (PM (KFB.value ks) S.e S.n)).reverse = clear at hcll ⊢
  w_top off
  k_fill
  intro dp un gd cn cs' a ccd A₀ h₀ L m rest s Q E B F X N hdis T hk hd hu hret
  refine wpAny_call ?_
  have N0 := news_left N
  k_dflt refine' code_defSR (binds := [(Str.ofString "signature", .ref sa), (Str.ofString "public", .ref x)]) B F X N0 T ?kA ?k6 ?k7 ?k8 ?k9 ?kB ?_ ?kK ?c2 ?c3 ?c4 ?c5
  k_dflt ((case kA => exact rfl); (case kK => assumption); (case k6 => k_is); (case k7 => k_is); (case k8 => ktr_room); (case k9 => exact BindsTo.of_eq rfl); (case c5 => decide); (case kB => exact locs rfl); (case c2 => exact rfl); (case c3 => exact rfl); (case c4 => exact rfl); k_whole)
  intro g' L' h' FG F' N' B' X' T' D' kept small
  (try dsimp only)
  (try k_extra "m_letA")
  (try k_fold)
  have hr := rest_kept N hdis kept
  k_steps
  unfold Hold
  rename Fr _ _ _ _ => fr1
  rename News _ _ _ _ => ne1
  refine KBa.make_K fr1 ne1 rfl (News.isList ne1 (List.Mem.head _)) hI2 ?hin (by lia) ?_
  case hin => exact hb2
  intro h7 t7 k7 fr3 ne3 hin7
  clear fr1 ne1
  have hbb2 := KBa.ints_make hin7
  generalize byteArr ks = b2 at hbb2 ⊢
  have hbs : b2.size = ks.length := by rw [← hbb2, KBw.ints_length]
  have hvb := value_bd (l := KBw.bInts b2) (hbb2 ▸ hb2) (by rw [KBw.ints_length]; lia)
  have hv0 := hvb.1
  have hres0 := PM_nn (KFB.value (KBw.bInts b2)) S.e S.n
  have hres := Int.lt_trans (PM_lt (x := KFB.value (KBw.bInts b2)) (y := S.e) hk0) hlt
  k_steps
  unfold Hold
  rw [hbb2, hcl] at hb9
  rename Frag.In _ _ => X9
  obtain ⟨kvs, hT, hTab⟩ := c_tab X9
  rename Fr _ _ _ _ => fr1
  refine tab_method (hT.keep fr1.keep) ?_
  k_steps
  unfold Hold
  rename Fr _ _ _ _ => fr2
  rename News _ _ _ _ => ne2
  refine tab_items (by decide) (hT.keep fr2.keep) fr2 ne2 ?_
  intro V9 h9 hV9 fr3 ne3
  (try clear fr1)
  clear fr2 ne2
  k_steps
  unfold Hold
  with_unfolding_all refine m_items [Str.ofString "hashname", Str.ofString "asn1code"] (fun i => ∀ j, j < i → hasB clear (hC.getD j []) = false) rfl hV9 hT fr3 ne3 (fun j h => absurd h (Nat.not_lt_zero _)) ?_ ?_
  · intro i k x t T9 u h tk own hkx hsep hP hT9 fr4 ne4
    clear fr3 ne3
    have hrow := hTab.row hkx
    obtain ⟨c5, t5, rfl, hc5⟩ := hrow.2.2
    obtain rfl := hrow.2.1
    dsimp only [List.cons_append, List.nil_append] at fr4 ne4
    k_sweep
    (try k_fold)
    k_steps
    unfold Hold
    rename Fr _ _ _ _ => fr5
    rename News _ _ _ _ => ne5
    refine in_bytes rfl fr5 ne5 ?_
    intro h6 tk6 fr6 ne6
    rw [has_find hb9 hc5]
    clear fr5 ne5
    cases hh : hasB clear (hC.getD i []) with
    | true =>
      have hhit := hit_some hrow.1 hh hP
      replace ne6 := news_of (l' := (sa, listOf ss.toArray sn) :: PubL w 285 x dx S bf t1 bi t2) ne6 (by k_extra "m_pre")
      k_steps
      dsimp only [PostV]
      k_steps
      (rename Fr g' _ _ _ => fr8); (rename News g' _ _ _ => ne8); exact m_ret hret fr8 ne8 (by assumption) (by assumption) hr N (by k_extra "m_pre") (.yes _ _ hhit)
    | false =>
      k_steps
      (try dsimp only [PostV])
      rename Fr _ _ _ _ => fr7
      rename News _ _ _ _ => ne7
      with_unfolding_all refine' m_endV () fr7 ne7 ?hn ?ho ?hs (List.forall_mem_nil _) ?hr ?hP
      case hn => k_extra "m_pre"
      case ho => intro p hp; kst_mem
      case hs => exact hsep
      case hr => k_extra "m_same"
      case hP =>
        intro j hj
        by_cases e : j = i
        · rw [e]; exact hh
        · exact hP j (by lia)
  · intro u h tk hP fr4 ne4
    clear fr3 ne3
    dsimp only [List.cons_append, List.nil_append] at fr4 ne4
    k_sweep
    (try k_fold)
    k_steps
    have hnone : hit clear = none := hit_none (fun j hj => hP j (hTab.len.symm ▸ hj))
    (rename KtsTurn _ _ _ => tn8; exact m_retO hret (by intro b hb; exact List.mem_singleton.mp hb) tn8 (by assumption) (by assumption) (by assumption) (by assumption) hr N (by k_extra "m_pre") (.no hnone))
theorem c_has (w : World) (mean : ExcName → Option Value) (mg mb : Str → Option Value) {ca da : Nat} {xs ys : List Value} {ks cs : List Int} {cn dn : Nat} (hI : IntsAre xs ks) (hI2 : IntsAre ys cs) (hl : ks.length ≤ 155) (hl2 : cs.length ≤ 155) :
    Ctr PySem.Challenge.rw_ys0001_11.row.prog w (Mine.K w.params) Mine.V (looseW Mine.V [Str.ofString "NotRelativePrimeError", Str.ofString "int2bytes", Str.ofString "HASH_ASN1"]) mean mg mb 405 8 300 [.ref ca, .ref da] [(ca, listOf xs.toArray cn), (da, listOf ys.toArray dn)]
      (PBo (hasL ks cs) [(ca, listOf xs.toArray cn), (da, listOf ys.toArray dn)]) := by
  k_with "call ref" => ((k_here; (with_reducible show wpAny _ _ (call (Value.ref 436) _) _ _ _); refine hold ?_))
  k_with "call ref" => ((k_here; (with_reducible show wpAny _ _ (call (Value.ref 436) _) _ _ _); k_dflt (refine' CtrO.use (c_fnd _ _ _ _ ?h1 ?h2 ?h4 ?h6 ?h8 ?h9) ?k1 ?k2 ?k3 ?k4 ?k5 ?kk ?hp ?hR ?kd ?ku ?_; (case h2 => assumption); (k_extra "m_use"); (case h1 => assumption); (case h4 => assumption); (case h6 => assumption); (case h8 => lia); (case h9 => lia); k_whole); intro v9 l9 h9 tk9 hP9 hlo9 F9 N9; refine hold ?_))
  k_with "eval ListComp" => (guard_hyp in_has : True; (k_here; k_dflt (refine LCt.ListComp_T (F₀ := by k_asm) (by with_unfolding_all rfl) (by decide) (by rfl) (by decide) (by rfl) ?_)))
  k_with "CompSrcT" => (guard_hyp in_has : True; (refine hold ?_))
  k_with "subscriptTail Name Slice ref ref" => (guard_hyp in_has : True; (refine hold ?_))
  k_with "compareOp Eq ref ref" => (guard_hyp in_has : True; (refine hold ?_))
  have in_has : True := True.intro
  w_top off
  k_fill
  intro dp un gd cn' cs' a ccd cl outer A₀ base h₀ L m rest s Q E B F X N hdis T hk hd hu hret
  refine wpAny_call ?_
  have N0 := news_left N
  k_dflt refine' code_defCR (binds := [(Str.ofString "clear", .ref ca), (Str.ofString "code", .ref da)]) ?k1 ?k2 ?k3 ?k4 ?k5 ?kA ?kF ?kK ?k6 ?k7 ?k8 ?k9 ?kB ?kN ?_ ?c2 ?c3 ?c4
  k_dflt k_extra "m_enterC"
  intro g' L' h' tkc cells FG F' N' Y B' X' T' kept small
  k_cells Y
  (try simp only [List.cons_append, List.nil_append] at N')
  (try dsimp only)
  (try k_extra "m_letA")
  (try k_fold)
  have hr := rest_kept N hdis kept
  k_steps
  unfold Hold
  (try k_gentoks)
  rename IsRange _ _ _ _ _ _ _ _ => hr2
  rename Fr g' _ _ _ => fr2
  rename News g' _ _ _ => ne2
  with_unfolding_all refine LCt.CompSrcT.range (n := ks.length) rfl fr2 ne2 hr2 (small_one (by lia) (by lia) (by lia) (by lia)) (by rw [rangeSize_nat]; lia) (by rw [sizeLine_eq]; lia) (fun g9 => compT_ind (fun i zs => zs.length ≤ i ∧ decide (0 < zs.length) = (List.range i).any (hasP ks cs)) ⟨Nat.le_refl _, rfl⟩ ?_ ?_)
  · intro i zs R' hi9 hb8 hR v I oI C oC D m₂ h9 tk9 E' hP hC hx fr3 ne3 off ne9
    obtain ⟨t9, rfl⟩ := hP
    clear fr2 ne2
    k_sweep
    (try k_fold)
    k_steps
    unfold Hold
    rename Fr g' _ _ _ => fr5
    rename News g' _ _ _ => ne5
    with_unfolding_all refine kmk_slice_ints (s := ⟨_, _, _, _, _⟩) fr5 ne5 (News.isList ne5 (by k_mem)) (by constructor) (by constructor) hI (kmk_run hI (by lia) (by lia)) rfl ?_ (by with_unfolding_all rfl) (by intro _; with_unfolding_all rfl) (by rw [List.size_toArray, hI.length, sizeLine_eq]; lia)
    intro D9 w9 h8 fr6 ne6 l9 hI9 hC9 hL9
    rw [run_eq] at hI9
    clear fr5 ne5 hC9 hL9
    k_lt l9
    k_sweep
    k_steps
    unfold Hold
    rename Fr g' _ _ _ => fr7
    rename News g' _ _ _ => ne7
    refine eq_intsK (News.isList ne7 (List.Mem.head _)) hI9 (News.isList ne7 (by k_mem)) hI2 (by have hcL9 := cLine_is; (simp (zetaDelta := true) only [units_in1, units_deeper, Around.mark_units, units_caller]); (try dsimp only [ktrTop]); lia) ?_
    k_steps
    · rename List.take cs.length (List.drop i ks) = cs => hq
      with_unfolding_all exact LCg.CompEnd.intro fr7 ne7 _ (fun p hp => .tail _ hp) off trivial ⟨rfl, hR _ ⟨by rw [List.length_append, List.length_singleton]; lia, by rw [any_succ, show hasP ks cs i = true from by simpa [hasP] using hq]; simp⟩⟩
    · rename ¬ List.take cs.length (List.drop i ks) = cs => hq
      with_unfolding_all exact LCg.CompEnd.intro fr7 ne7 _ (fun p hp => .tail _ hp) off trivial ⟨rfl, hR _ ⟨by lia, by rw [any_succ, show hasP ks cs i = false from by simpa [hasP] using hq, Bool.or_false]; exact hb8.2⟩⟩
  · intro zs hb8
    unfold LCg.FinE
    intro D h9 tk9 fr3 ne3 off
    clear fr2 ne2
    k_sweep
    (try k_fold)
    k_steps
    have hzl := hb8.1
    refine len_at zs.length ne3 (List.Mem.head _) rfl (by lia) ?_
    k_steps
    (rename Fr g' _ _ _ => fr8); (rename News g' _ _ _ => ne8); exact m_ret hret fr8 ne8 (by assumption) (by assumption) hr N (by k_extra "m_pre") (PBo.of ((decide_eq_decide.mpr (by lia)).trans hb8.2))
theorem c_lname (w : World) (mean : ExcName → Option Value) (mg mb : Str → Option Value) {ca : Nat} {xs : List Value} {ks : List Int} {cn : Nat} (hI : IntsAre xs ks) (hl : ks.length ≤ 155) :
    Ctr PySem.Challenge.rw_ys0001_11.row.prog w (Mine.K w.params) Mine.V (looseW Mine.V [Str.ofString "NotRelativePrimeError", Str.ofString "int2bytes", Str.ofString "HASH_ASN1"]) mean mg mb 410 30 500 [.ref ca] [(ca, listOf xs.toArray cn)]
      (PFd (hit ks) [(ca, listOf xs.toArray cn)]) := by
  k_with "exec Assign cons ListComp" => (guard_hyp in_lname : True; (k_here; k_dflt (refine Assign_ListComp_PT (by k_asm) (by rfl) (by with_unfolding_all rfl) (by with_unfolding_all rfl) (by decide) (by rfl) (by decide) (by rfl) (by rfl) (by decide) (by rfl) (by rfl) ?_ (by intro _; with_unfolding_all rfl))))
  k_with "call ref" => (guard_hyp in_lname : True; (k_here; (with_reducible show wpAny _ _ (call (Value.ref 405) _) _ _ _); refine hold ?_))
  k_with "SrcPT" => (guard_hyp in_lname : True; (refine hold ?_))
  k_with "binaryOp Add ref ref" => (guard_hyp in_lname : True; (refine hold ?_))
  have in_lname : True := True.intro
  w_top off
  k_fill
  intro dp un gd cn' cs' a ccd cl outer A₀ base h₀ L m rest s Q E B F X N hdis T hk hd hu hret
  refine wpAny_call ?_
  have N0 := news_left N
  k_dflt refine' code_defCR (binds := [(Str.ofString "clear", .ref ca)]) ?k1 ?k2 ?k3 ?k4 ?k5 ?kA ?kF ?kK ?k6 ?k7 ?k8 ?k9 ?kB ?kN ?_ ?c2 ?c3 ?c4
  k_dflt k_extra "m_enterC"
  intro g' L' h' tkc cells FG F' N' Y B' X' T' kept small
  k_cells Y
  (try simp only [List.cons_append, List.nil_append] at N')
  (try dsimp only)
  (try k_extra "m_letA")
  (try k_fold)
  have hr := rest_kept N hdis kept
  k_steps
  unfold Hold
  rename Fr g' _ _ _ => fr2
  rename News g' _ _ _ => ne1
  have ne2 := news_of (l' := (cd9, listOf vs9.toArray nn9) :: ((L' + 1 : Nat), _) :: (ca, listOf xs.toArray cn) :: own9) ne1 (List.forall_mem_cons.mpr ⟨.head _, List.forall_mem_cons.mpr ⟨.tail _ (List.mem_append_right _ (.head _)), List.forall_mem_cons.mpr ⟨.tail _ (List.mem_append_right _ (.tail _ (.head _))), fun p hp => .tail _ (List.mem_append_left _ hp)⟩⟩⟩)
  clear ne1
  have hvl := datAll_length hD9
  have h99 : vs9.length = 9 := hvl
  refine ⟨cd9, vs9, nn9, _, NamesJ ks, rfl, rfl, fr2, ne2, .head _, by rw [sizeLine_eq]; lia, NamesJ.start ks, fun g9 => ⟨?_, ?_⟩⟩
  · intro i v ys hv hJ
    have hi : i < 9 := by have := (List.getElem?_eq_some_iff.mp hv).1; lia
    obtain ⟨v', hv', hd⟩ := datAll_get hD9 (hD_at hi)
    obtain rfl : v = v' := Option.some.inj (hv.symm.trans hv')
    obtain ⟨a7, n7, b7, ws7, k7, t7, rfl, hm7, hm8, hI7⟩ := hRow_in hd
    have hcl := hC_len hi
    refine ⟨a7, _, _, n7, rfl, .tail _ (.tail _ (.tail _ hm7)), fun R' hR I oI C oC D m₂ h tk E' hCo hx hx2 fr3 ne3 off nei => ?_⟩
    clear hd fr2 ne2
    dsimp only at hx hx2 hI7
    k_sweep
    (try k_fold)
    k_steps
    unfold Hold
    rename Fr g' _ _ _ => fr5
    rename News g' _ _ _ => ne5
    k_dflt (refine' Ctr.useS (c_has _ _ _ _ hI hI7 (by lia) (by lia)) (by intro v l h; cases h; rfl) ?k1 fr5 ?k3 ne5 ?k5 ?kk (List.forall_mem_cons.mpr ⟨by k_mem, List.forall_mem_cons.mpr ⟨.tail _ (.tail _ (.tail _ (.tail _ (.tail _ (.tail _ hm8))))), List.forall_mem_nil _⟩⟩) ?kd ?ku ?_; (case k1 => k_asm); (case k3 => k_asm); (case k5 => k_asm); (case kk => first | exact rfl | assumption); (case kd => first | exact roomk (by assumption) (by decide) | ktr_room); (case ku => first | exact roomk (by assumption) (by decide) | ktr_units); k_whole)
    rintro v9 h9 tk9 ⟨⟩ F9 N9
    clear fr5 ne5
    k_sweep
    rw [has_eq (by lia)]
    k_steps
    · with_unfolding_all exact LCg.CompEnd.intro F9 N9 _ (fun p hp => hp) off trivial ⟨rfl, hR _ (hJ.take (by assumption))⟩
    · with_unfolding_all exact LCg.CompEnd.intro F9 N9 _ (fun p hp => hp) off trivial ⟨rfl, hR _ (hJ.skip (by assumption))⟩
  · intro ys hJ
    rw [h99] at hJ
    unfold LCg.FinA
    intro D h9 tk9 fr3 ne3 off
    clear fr2 ne2
    k_sweep
    (try k_fold)
    k_steps
    unfold Hold
    rename Fr g' _ _ _ => fr5
    rename News g' _ _ _ => ne5
    have hyl := hJ.len
    refine kmk_add_lit (zs := ys ++ [.none]) fr5 ne5 (News.isList ne5 (.tail _ (.head _))) (News.isList ne5 (.head _)) (by simp) ?_ (by rw [sizeLine_eq]; simp; lia)
    intro D9 h8 fr6 ne6 l9
    clear l9 fr5 ne5
    replace ne6 := news_of (l' := [(D9, listOf (List.toArray (ys ++ [.none])) 0), ((L' + 1 : Nat), _), (ca, listOf xs.toArray cn)]) ne6 (List.forall_mem_cons.mpr ⟨.head _, List.forall_mem_cons.mpr ⟨.tail _ (.tail _ (.tail _ (.tail _ (.head _)))), List.forall_mem_cons.mpr ⟨.tail _ (.tail _ (.tail _ (.tail _ (.tail _ (.head _))))), List.forall_mem_nil _⟩⟩⟩)
    k_sweep
    k_steps
    cases hf : hit ks with
    | none =>
      refine item_any 0 ne6 (List.Mem.head _) rfl (v := .none) (by rw [hJ.no hf]; rfl) (by decide) (by with_unfolding_all rfl) ?_
      k_steps
      (rename Fr g' _ _ _ => fr8); (rename News g' _ _ _ => ne8); exact m_ret hret fr8 ne8 (by assumption) (by assumption) hr N (by k_extra "m_pre") (.no hf)
    | some j =>
      obtain ⟨t9, r9, e9⟩ := hJ.yes j hf
      refine item_any 0 ne6 (List.Mem.head _) rfl (v := .str (hN.getD j (Str.ofString "")) t9) (by rw [e9]; rfl) (by decide) (by with_unfolding_all rfl) ?_
      k_steps
      (rename Fr g' _ _ _ => fr8); (rename News g' _ _ _ => ne8); exact m_ret hret fr8 ne8 (by assumption) (by assumption) hr N (by k_extra "m_pre") (.yes j t9 hf)
inductive PBlk (ca : Nat) (xs : List Value) (cn : Nat) (ks : List Int) : Value → List (Addr × Obj) → Prop
  | mk (r : Nat) (ws : List Value) (n : Nat) (h : IntsAre ws ks) : PBlk ca xs cn ks (.ref r) [(r, listOf ws.toArray n), (ca, listOf xs.toArray cn)]
theorem c_blk (w : World) (mean : ExcName → Option Value) (mg mb : Str → Option Value) {ca : Nat} {xs : List Value} {ks : List Int} {cn : Nat} {z : Int} {t1 : Tok} (hI : IntsAre xs ks) (hl : (ks.length : Int) ≤ z - 11) (hz : z ≤ 400) :
    Ctr PySem.Challenge.rw_ys0001_11.row.prog w (Mine.K w.params) Mine.V (looseW Mine.V [Str.ofString "NotRelativePrimeError", Str.ofString "int2bytes", Str.ofString "HASH_ASN1"]) mean mg mb 400 8 300 [.ref ca, .int z t1] [(ca, listOf xs.toArray cn)]
      (PBlk ca xs cn ([0, 1] ++ List.replicate (z - (ks.length : Int) - 3).toNat 255 ++ [0] ++ ks)) := by
  k_with "call ref" => ((k_here; (with_reducible show wpAny _ _ (call (Value.ref 410) _) _ _ _); refine hold ?_))
  k_with "call ref" => ((k_here; (with_reducible show wpAny _ _ (call (Value.ref 410) _) _ _ _); k_dflt (refine' Ctr.use (c_lname _ _ _ _ ?h1 ?h2) ?k1 ?k2 ?k3 ?k4 ?k5 ?kk ?hp ?hR ?kd ?ku ?_; (case h1 => assumption); (k_extra "m_use"); (case h2 => lia); k_whole); intro v9 l9 h9 tk9 hP9 hlo9 F9 N9; refine hold ?_))
  w_top off
  k_fill
  intro dp un gd cn' cs' a ccd cl outer A₀ base h₀ L m rest s Q E B F X N hdis T hk hd hu hret
  refine wpAny_call ?_
  have N0 := news_left N
  k_dflt refine' code_defR (binds := [(Str.ofString "clear", .ref ca), (Str.ofString "size", .int z t1)]) ?k1 ?k2 ?k3 ?k4 ?k5 ?kA ?kF ?kK ?k6 ?k7 ?k8 ?k9 ?kB ?_ ?c2 ?c3 ?c4 ?c5
  k_dflt k_extra "m_enter"
  intro g' L' h' FG F' N' B' X' T' kept small
  have l1 : ∀ p ∈ [(ca, listOf xs.toArray cn)], p.1 < L' := fun p hp => small _ _ (N0 p hp).1
  k_lt l1
  (try dsimp only)
  (try k_extra "m_letA")
  (try k_fold)
  have hr := rest_kept N hdis kept
  k_steps
  rename IntsAre _ (_ ++ ks) => hI9
  rw [flat_one] at hI9
  (rename Fr g' _ _ _ => fr8); (rename News g' _ _ _ => ne8); exact m_ret hret fr8 ne8 (by assumption) (by assumption) hr N (by k_extra "m_pre") ⟨_, _, _, hI9⟩
theorem c_judged (w : World) (mean : ExcName → Option Value) (mg mb : Str → Option Value) {ta sa : Nat} {ts ss : List Value} {ms ks : List Int} {tn sn : Nat} {n e : Int} {t1 t2 : Tok} (hts : @Ne Nat ta sa) (hI : IntsAre ts ms) (hI2 : IntsAre ss ks) (hb2 : ∀ k ∈ ks, 0 ≤ k ∧ k < 256) (hl : ms.length ≤ 155) (hl2 : ks.length ≤ 155) (h12 : 12 ≤ szI n) (hn0 : 0 < n) (hnB : Bd 1230 n) (he : 0 ≤ e) :
    Ctr PySem.Challenge.rw_ys0001_11.row.prog w (Mine.K w.params) Mine.V (looseW Mine.V [Str.ofString "NotRelativePrimeError", Str.ofString "int2bytes", Str.ofString "HASH_ASN1"]) mean mg mb 415 45 700 [.ref ta, .ref sa, .int n t1, .int e t2] [(ta, listOf ts.toArray tn), (sa, listOf ss.toArray sn)]
      (PStr (Jd ms ks (KTBy.little (szI n).toNat (PM (KFB.value ks) e n)).reverse) [(ta, listOf ts.toArray tn), (sa, listOf ss.toArray sn)]) := by
  k_with "call ref" => ((k_here; (with_reducible show wpAny _ _ (call (Value.ref 400) _) _ _ _); refine hold ?_))
  k_with "call ref" => ((k_here; (with_reducible show wpAny _ _ (call (Value.ref 400) _) _ _ _); k_dflt ((refine Ctr.use (c_blk _ _ _ _ (by assumption) ?_ ?_) (by k_asm) (by k_asm) (by k_asm) (by k_asm) (by k_asm) (by first | exact rfl | assumption) (by k_extra "m_pre") (by walk_at "m_rest") (by first | exact roomk (by assumption) (by decide) | exact roomk2 (by assumption) (by decide) | ktr_room) (by first | exact roomk (by assumption) (by decide) | exact roomk2 (by assumption) (by decide) | ktr_units) ?_); (lia); (lia)); rintro v9 l9 h9 tk9 ⟨kb9, ws9, wn9, hkI9⟩ hlo9 F9 N9; replace hlo9 := sepL_of hlo9; (try dsimp only [sepL, sepR, StL, KeyL, PubL] at hlo9); (try dsimp only [List.cons_append, List.nil_append] at N9); k_sweep; (try k_fold)))
  k_with "eval ListComp" => (guard_hyp in_judged : True; (k_here; k_dflt (refine ListComp_PT (by k_asm) (by with_unfolding_all rfl) (by decide) (by rfl) (by decide) (by rfl) (by rfl) (by decide) ?_ (by intro _; with_unfolding_all rfl))))
  k_with "SrcPT" => (guard_hyp in_judged : True; (refine hold ?_))
  k_with "binaryOp Add ref ref" => (guard_hyp in_judged : True; (refine hold ?_))
  k_with "compareOp NotEq ref ref" => (guard_hyp in_judged : True; (refine hold ?_))
  have in_judged : True := True.intro
  have hsz : szI n ≤ 155 := by have := szI_le hnB; lia
  have hlt := lt_octets hn0
  have hres0 := PM_nn (KFB.value ks) e n
  have hresB := PM_bd (x := KFB.value ks) (y := e) hn0 hnB
  have hcll : (KTBy.little (szI n).toNat (PM (KFB.value ks) e n)).reverse.length = (szI n).toNat := by rw [List.length_reverse, KTBy.little_length]
  generalize hcl : (KTBy.little (szI n).toNat (PM (KFB.value ks) e n)).reverse = clear at hcll ⊢
  w_top off
  k_fill
  intro dp un gd cn' cs' a ccd cl outer A₀ base h₀ L m rest s Q E B F X N hdis T hk hd hu hret
  refine wpAny_call ?_
  have N0 := news_left N
  k_dflt refine' code_defCR (binds := [(Str.ofString "told", .ref ta), (Str.ofString "signature", .ref sa), (Str.ofString "n", .int n t1), (Str.ofString "e", .int e t2)]) ?k1 ?k2 ?k3 ?k4 ?k5 ?kA ?kF ?kK ?k6 ?k7 ?k8 ?k9 ?kB ?kN ?_ ?c2 ?c3 ?c4
  k_dflt k_extra "m_enterC"
  intro g' L' h' tkc cells FG F' N' Y B' X' T' kept small
  have l1 : ∀ p ∈ [(ta, listOf ts.toArray tn), (sa, listOf ss.toArray sn)], p.1 < L' := fun p hp => small _ _ (N0 p hp).1
  k_lt l1
  k_cells Y
  (try simp only [List.cons_append, List.nil_append] at N')
  (try dsimp only)
  (try k_extra "m_letA")
  (try k_fold)
  have hr := rest_kept N hdis kept
  k_steps
  unfold Hold
  rw [hcl] at hwI9 hP9
  cases hP9 with
  | no hno =>
    have hJ : Jd ms ks clear = Str.ofString "refused" := by unfold Jd; rw [hno]
    rw [hJ] at hret
    dsimp only [List.cons_append, List.nil_append] at N9
    k_steps
    (rename Fr g' _ _ _ => fr8); (rename News g' _ _ _ => ne8); exact m_ret hret fr8 ne8 (by assumption) (by assumption) hr N (by k_extra "m_pre") ⟨_⟩
  | yes i ti hyes =>
    dsimp only [List.cons_append, List.nil_append] at N9
    have hi9 : i < 9 := List.mem_range.mp (List.mem_of_find?_eq_some hyes)
    k_steps
    unfold Hold
    rename Fr g' _ _ _ => fr2
    rename News g' _ _ _ => ne1
    have ne2 := news_of (l' := (cd9, listOf vs9.toArray nn9) :: (wa9, listOf ws9.toArray wn9) :: (sa, listOf ss.toArray sn) :: ((L' + 1 : Nat), _) :: (ta, listOf ts.toArray tn) :: own9) ne1 (List.forall_mem_cons.mpr ⟨.head _, List.forall_mem_cons.mpr ⟨.tail _ (List.mem_append_right _ (.head _)), List.forall_mem_cons.mpr ⟨.tail _ (List.mem_append_right _ (.tail _ (.head _))), List.forall_mem_cons.mpr ⟨.tail _ (List.mem_append_right _ (.tail _ (.tail _ (.head _)))), List.forall_mem_cons.mpr ⟨.tail _ (List.mem_append_right _ (.tail _ (.tail _ (.tail _ (.head _))))), fun p hp => .tail _ (List.mem_append_left _ hp)⟩⟩⟩⟩⟩)
    clear ne1
    have h99 : vs9.length = 9 := datAll_length hD9
    refine ⟨cd9, vs9, nn9, _, CodeJ own9 i, rfl, rfl, fr2, ne2, .head _, by rw [sizeLine_eq]; lia, CodeJ.start _ _, fun g9 => ⟨?_, ?_⟩⟩
    · intro k v ys hv hJ
      have hk9 : k < 9 := by have := (List.getElem?_eq_some_iff.mp hv).1; lia
      obtain ⟨v', hv', hd⟩ := datAll_get hD9 (hD_at hk9)
      obtain rfl : v = v' := Option.some.inj (hv.symm.trans hv')
      obtain ⟨a7, n7, b7, ws7, k7, t7, rfl, hm7, hm8, hI7⟩ := hRow_in hd
      refine ⟨a7, _, _, n7, rfl, .tail _ (.tail _ (.tail _ (.tail _ (.tail _ hm7)))), fun R' hR I oI C oC D m₂ h tk E' hCo hx hx2 fr3 ne3 off nei => ?_⟩
      clear hd fr2 ne2
      dsimp only at hx hx2 hI7
      k_sweep
      (try k_fold)
      k_steps
      · rename (_ == _) = true => hq
        with_unfolding_all exact LCg.CompEnd.intro fr3 ne3 _ (fun p hp => hp) off trivial ⟨rfl, hR _ (hJ.take (hN_inj hk9 hi9 (beq_iff_eq.mp hq)) hm8 hI7)⟩
      · rename (_ == _) = false => hq
        with_unfolding_all exact LCg.CompEnd.intro fr3 ne3 _ (fun p hp => hp) off trivial ⟨rfl, hR _ (hJ.skip (fun e => by rw [e] at hq; simp at hq))⟩
    · intro ys hJ
      rw [h99] at hJ
      obtain ⟨b, wsb, kb, rfl, hmb, hIb⟩ := hJ.hi hi9
      unfold LCg.FinE
      intro D h9 tk9 fr3 ne3 off
      have ne4 := news_of (l' := [(D, listOf #[.ref b] 1), (b, listOf wsb.toArray kb), (wa9, listOf ws9.toArray wn9), (sa, listOf ss.toArray sn), ((L' + 1 : Nat), _), (ta, listOf ts.toArray tn)]) ne3 (List.forall_mem_cons.mpr ⟨.head _, List.forall_mem_cons.mpr ⟨.tail _ (.tail _ (.tail _ (.tail _ (.tail _ (.tail _ hmb))))), List.forall_mem_cons.mpr ⟨.tail _ (.tail _ (.head _)), List.forall_mem_cons.mpr ⟨.tail _ (.tail _ (.tail _ (.head _))), List.forall_mem_cons.mpr ⟨.tail _ (.tail _ (.tail _ (.tail _ (.head _)))), List.forall_mem_cons.mpr ⟨.tail _ (.tail _ (.tail _ (.tail _ (.tail _ (.head _))))), List.forall_mem_nil _⟩⟩⟩⟩⟩⟩)
      clear fr2 ne2 ne3
      k_sweep
      (try k_fold)
      k_steps
      unfold Hold
      rename Fr g' _ _ _ => fr5
      rename News g' _ _ _ => ne5
      have hclen := hC_len hi9
      refine kmk_add_ints fr5 ne5 (News.isList ne5 (.tail _ (.head _))) (News.isList ne5 (by k_mem)) hIb hI ?_ (by rw [sizeLine_eq]; lia)
      intro D9 us9 h8 fr6 ne6 l9 hI9
      replace ne6 := news_of (l' := [(D9, listOf (List.toArray us9) 0), (wa9, listOf ws9.toArray wn9), (sa, listOf ss.toArray sn), ((L' + 1 : Nat), _), (ta, listOf ts.toArray tn)]) ne6 (by k_extra "m_pre")
      clear fr5 ne5 off
      k_lt l9
      k_sweep
      have hzz : (clear.length : Int) = szI n := by rw [hcll]; lia
      have hul := hI9.length
      rw [List.length_append] at hul
      by_cases hlong : (clear.length : Int) - 11 < ((hC.getD i []).length : Int) + ms.length
      · have hJ9 : Jd ms ks clear = Str.ofString "long" := by unfold Jd; rw [hyes]; exact if_pos hlong
        rw [hJ9] at hret
        k_steps
        (rename Fr g' _ _ _ => fr8); (rename News g' _ _ _ => ne8); exact m_ret hret fr8 ne8 (by assumption) (by assumption) hr N (by k_extra "m_pre") ⟨_⟩
      · have hl' : ((hC.getD i [] ++ ms).length : Int) ≤ szI n - 11 := by rw [List.length_append]; lia
        k_steps
        · rename ((ks.length : Nat) : Int) ≠ szI n => hq
          have hJ9 : Jd ms ks clear = Str.ofString "refused" := by unfold Jd; rw [hyes]; dsimp only; rw [if_neg hlong, if_pos (.inl (fun e => hq (by lia)))]
          rw [hJ9] at hret
          (rename Fr g' _ _ _ => fr8); (rename News g' _ _ _ => ne8); exact m_ret hret fr8 ne8 (by assumption) (by assumption) hr N (by k_extra "m_pre") ⟨_⟩
        · rename ((ks.length : Nat) : Int) = szI n => hq
          unfold Hold
          rename News g' _ _ _ => ne7
          refine ne_intsK (News.isList ne7 (.tail _ (.tail _ (.head _)))) hwI9 (News.isList ne7 (.head _)) hkI9 (by have hcL9 := cLine_is; (simp (zetaDelta := true) only [units_in1, units_deeper, Around.mark_units, units_caller]); (try dsimp only [ktrTop]); lia) ?_
          by_cases hbl : clear = [0, 1] ++ List.replicate (szI n - ((hC.getD i [] ++ ms).length : Int) - 3).toNat 255 ++ [0] ++ (hC.getD i [] ++ ms)
          · have hJ9 : Jd ms ks clear = hN.getD i (Str.ofString "") := by unfold Jd; rw [hyes]; dsimp only; rw [if_neg hlong, if_neg (fun h => h.elim (fun h => h (by lia)) (fun h => h (by rw [hzz]; exact hbl)))]
            rw [hJ9] at hret
            rw [decide_eq_true hbl]
            k_steps
            (rename Fr g' _ _ _ => fr8); (rename News g' _ _ _ => ne8); exact m_ret hret fr8 ne8 (by assumption) (by assumption) hr N (by k_extra "m_pre") ⟨_⟩
          · have hJ9 : Jd ms ks clear = Str.ofString "refused" := by unfold Jd; rw [hyes]; dsimp only; rw [if_neg hlong, if_pos (.inr (fun e => hbl (by rw [hzz] at e; exact e)))]
            rw [hJ9] at hret
            rw [decide_eq_false hbl]
            k_steps
            (rename Fr g' _ _ _ => fr8); (rename News g' _ _ _ => ne8); exact m_ret hret fr8 ne8 (by assumption) (by assumption) hr N (by k_extra "m_pre") ⟨_⟩
theorem scr_of {vs : List Value} {ns : List Int} (hI : IntsAre vs ns) (hl : ns.length ≤ 63) (h : PyData.layable0 (.list (ns.map .int)) = true) : Scr vs ns where
  i := hI
  n := by lia
  b := fun x hx => show x.natAbs < 2 ^ 1048577 from Nat.lt_of_lt_of_le (natAbs_lt_pow_bits x) (Nat.pow_le_pow_right (by decide) (Nat.le_trans (intBits_le_of_item hx h) (by decide)))
inductive Due (a : Addr) (o : Option (List Int)) : Value × List (Addr × Obj) → Prop
  | no (h : o = none) : Due a o (.none, [])
  | yes (b : Addr) (vs : List Value) (n : Nat) (ks : List Int) (hne : @Ne Nat b a) (h : o = some ks) (hI : IntsAre vs ks) : Due a o (.ref b, [(b, listOf (List.toArray vs) n)])
theorem PFd.led {r : Option Nat} {l0 l : List (Addr × Obj)} {v : Value} (h : PFd r l0 v l) : l = l0 := by cases h <;> rfl
theorem news_cut1 {h₀ h : Heap} {L : Addr} {p a : Addr × Obj} {own r : List (Addr × Obj)} (N : News h₀ L h (p :: (own ++ r))) (ha : a ∈ own) : News h₀ L h (a :: r) :=
  news_of N (List.forall_mem_cons.mpr ⟨.tail _ (List.mem_append_left _ ha), fun _ hx => .tail _ (List.mem_append_right _ hx)⟩)
theorem holds : PySem.Challenge.rw_ys0001_11.Holds := by
  k_with "call ref" => ((k_here; (with_reducible show wpAny _ _ (call (Value.ref 415) _) _ _ _); refine hold ?_))
  k_with "call ref" => ((k_here; (with_reducible show wpAny _ _ (call (Value.ref 415) _) _ _ _); k_dflt ((refine Ctr.use (c_judged _ _ _ _ ?_ ?_ ?_ ?_ ?_ ?_ ?_ ?_ ?_ ?_) (by k_asm) (by k_asm) (by k_asm) (by k_asm) (by k_asm) (by first | exact rfl | assumption) (by k_extra "m_pre") (by walk_at "m_rest") (by first | exact roomk (by assumption) (by decide) | exact roomk2 (by assumption) (by decide) | ktr_room) (by first | exact roomk (by assumption) (by decide) | exact roomk2 (by assumption) (by decide) | ktr_units) ?_); (assumption); (assumption); (assumption); (assumption); (lia); (lia); (lia); (walk_at "m_fact"); (walk_at "m_bd"); (walk_at "m_fact")); rintro v9 l9 h9 tk9 ⟨tj9⟩ hlo9 F9 N9; clear hlo9; (try dsimp only [List.cons_append, List.nil_append] at N9); k_sweep; (try k_fold)))
  k_with "eval Call" => (guard_hyp in_law : True; (k_dflt (refine PyProof.Rows.Call_ ?_)))
  k_with "call ref" => (guard_hyp in_law : True; (k_here; (with_reducible show wpAny _ _ (call (Value.ref 374) _) _ _ _); refine hold ?_))
  k_with "call ref" => (guard_hyp in_law : True; (k_here; (with_reducible show wpAny _ _ (call (Value.ref 348) _) _ _ _); refine hold ?_))
  k_with "binaryOp Mult int int" => (guard_hyp in_law : True; first | (refine mul_int ?_ (by assumption)) | (refine hold ?_))
  k_with "exec Assign cons ListComp" => (guard_hyp in_law : True; (k_here; k_dflt (refine LCg.Assign_ListComp_U (F₀ := by k_asm) (by rfl) (by with_unfolding_all rfl) (by rfl) (by decide) (by rfl) (by decide) (by rfl) (by rfl) (by rfl) ?_)))
  k_with "CompSrc" => (guard_hyp in_law : True; (refine hold ?_))
  k_with "call type:bytes" => (guard_hyp in_law : True; (refine hold ?_))
  k_with "call type:list" => (guard_hyp in_law : True; ((with_reducible show wpAny _ _ (call (Value.type "list") [Value.bytes _ _]) _ _ _); refine hold ?_))
  k_with "subscriptTail Call BinOp ref int" => (guard_hyp in_law : True; (refine hold ?_))
  k_with "subscriptTail Call Name nil nil BinOp ref int" => (guard_hyp in_law : True; (refine hold ?_))
  k_with "exec If" => (guard_hyp in_law : True; (refine hold ?_))
  k_with "subscriptTail Name Slice ref ref" => (guard_hyp in_law : True; (refine hold ?_))
  k_with "compareOp Eq ref ref" => (guard_hyp in_law : True; (refine hold ?_))
  k_with "compareOp NotEq ref ref" => (guard_hyp in_law : True; (refine hold ?_))
  k_with "compareOp In int ref" => (guard_hyp in_law : True; (refine hold ?_))
  k_with "call builtin:list.index" => (guard_hyp in_law : True; (refine hold ?_))
  k_with "call ref" => (guard_hyp in_law : True; (k_here; (with_reducible show wpAny _ _ (call (Value.ref 177) _) _ _ _); refine hold ?_))
  k_with "call ref" => (guard_hyp in_law : True; (k_here; (with_reducible show wpAny _ _ (call (Value.ref 415) _) _ _ _); refine hold ?_))
  k_with "call ref" => (guard_hyp in_law : True; (k_here; (with_reducible show wpAny _ _ (call (Value.ref 422) _) _ _ _); refine hold ?_))
  have in_law : True := True.intro
  w_on
  refine holds_law hSaid fun said => ?_
  refine holds_open (q := V) (loose := [Str.ofString "NotRelativePrimeError", Str.ofString "int2bytes", Str.ofString "HASH_ASN1"]) (Xt := (fun s => xlAt V [] s && recOk (RowW.records PySem.Challenge.rw_ys0001_11.row.toRowW) s)) (XP := XL V []) (Yf := Hook.obs (kHook K (2 :: 3 :: 15 :: 22 :: 23 :: 25 :: 26 :: 28 :: 29 :: 30 :: 31 :: 32 :: 33 :: 36 :: 38 :: 39 :: 41 :: 42 :: 43 :: 45 :: 46 :: 48 :: 49 :: 50 :: 52 :: 53 :: 55 :: 56 :: 57 :: 59 :: 60 :: 62 :: 63 :: 64 :: 66 :: 67 :: 69 :: 70 :: 71 :: 73 :: 74 :: 76 :: 77 :: 78 :: 80 :: 81 :: 83 :: 84 :: 85 :: 87 :: 88 :: 90 :: 91 :: 92 :: 94 :: 95 :: 97 :: 98 :: 99 :: 100 :: 102 :: 103 :: 105 :: 106 :: 107 :: 108 :: 115 :: 116 :: 117 :: 118 :: 121 :: 128 :: 129 :: 130 :: 133 :: 140 :: 141 :: 142 :: 145 :: 148 :: 149 :: 150 :: 152 :: 153 :: 155 :: 156 :: 157 :: 159 :: 160 :: 162 :: 163 :: 164 :: 166 :: 167 :: 169 :: 170 :: 171 :: 173 :: 174 :: 176 :: 177 :: 178 :: 180 :: 181 :: 183 :: 184 :: 185 :: 187 :: 188 :: 190 :: 191 :: 192 :: 194 :: 195 :: 197 :: 198 :: 199 :: 201 :: 202 :: 204 :: 205 :: 206 :: 208 :: 209 :: 211 :: 212 :: 220 :: 222 :: 223 :: 225 :: 226 :: 227 :: 229 :: 230 :: 232 :: 233 :: 234 :: 236 :: 237 :: 239 :: 240 :: 241 :: 243 :: 244 :: 246 :: 247 :: 248 :: 250 :: 251 :: 253 :: 254 :: 255 :: 256 :: 257 :: 258 :: 259 :: 262 :: 269 :: 271 :: 272 :: 274 :: 275 :: 276 :: 278 :: 279 :: 281 :: 282 :: 283 :: 284 :: 285 :: 288 :: 295 :: 297 :: 298 :: 300 :: 301 :: 302 :: 304 :: 305 :: 307 :: 308 :: 309 :: 311 :: 312 :: 314 :: 315 :: 316 :: 318 :: 319 :: 321 :: 322 :: 323 :: 325 :: 326 :: 328 :: 329 :: 330 :: 331 :: 332 :: 335 :: 337 :: 338 :: 340 :: 341 :: 342 :: 344 :: 345 :: 347 :: 348 :: 349 :: 351 :: 352 :: 354 :: 355 :: 356 :: 358 :: 359 :: 361 :: 362 :: 363 :: 365 :: 366 :: 368 :: 369 :: 370 :: 373 :: 374 :: 375 :: 377 :: 378 :: 380 :: 381 :: 382 :: 385 :: 386 :: 387 :: 389 :: 390 :: 392 :: 393 :: 394 :: 396 :: 397 :: 399 :: 400 :: 401 :: 404 :: 405 :: 406 :: 409 :: 410 :: 411 :: 414 :: 415 :: 416 :: 418 :: 419 :: 421 :: 422 :: 423 :: 425 :: 426 :: 428 :: 429 :: 430 :: 432 :: 433 :: 435 :: 436 :: 437 :: 440 :: 441 :: []) hKas)) (Ya := Hook.val (kHook K (2 :: 3 :: 15 :: 22 :: 23 :: 25 :: 26 :: 28 :: 29 :: 30 :: 31 :: 32 :: 33 :: 36 :: 38 :: 39 :: 41 :: 42 :: 43 :: 45 :: 46 :: 48 :: 49 :: 50 :: 52 :: 53 :: 55 :: 56 :: 57 :: 59 :: 60 :: 62 :: 63 :: 64 :: 66 :: 67 :: 69 :: 70 :: 71 :: 73 :: 74 :: 76 :: 77 :: 78 :: 80 :: 81 :: 83 :: 84 :: 85 :: 87 :: 88 :: 90 :: 91 :: 92 :: 94 :: 95 :: 97 :: 98 :: 99 :: 100 :: 102 :: 103 :: 105 :: 106 :: 107 :: 108 :: 115 :: 116 :: 117 :: 118 :: 121 :: 128 :: 129 :: 130 :: 133 :: 140 :: 141 :: 142 :: 145 :: 148 :: 149 :: 150 :: 152 :: 153 :: 155 :: 156 :: 157 :: 159 :: 160 :: 162 :: 163 :: 164 :: 166 :: 167 :: 169 :: 170 :: 171 :: 173 :: 174 :: 176 :: 177 :: 178 :: 180 :: 181 :: 183 :: 184 :: 185 :: 187 :: 188 :: 190 :: 191 :: 192 :: 194 :: 195 :: 197 :: 198 :: 199 :: 201 :: 202 :: 204 :: 205 :: 206 :: 208 :: 209 :: 211 :: 212 :: 220 :: 222 :: 223 :: 225 :: 226 :: 227 :: 229 :: 230 :: 232 :: 233 :: 234 :: 236 :: 237 :: 239 :: 240 :: 241 :: 243 :: 244 :: 246 :: 247 :: 248 :: 250 :: 251 :: 253 :: 254 :: 255 :: 256 :: 257 :: 258 :: 259 :: 262 :: 269 :: 271 :: 272 :: 274 :: 275 :: 276 :: 278 :: 279 :: 281 :: 282 :: 283 :: 284 :: 285 :: 288 :: 295 :: 297 :: 298 :: 300 :: 301 :: 302 :: 304 :: 305 :: 307 :: 308 :: 309 :: 311 :: 312 :: 314 :: 315 :: 316 :: 318 :: 319 :: 321 :: 322 :: 323 :: 325 :: 326 :: 328 :: 329 :: 330 :: 331 :: 332 :: 335 :: 337 :: 338 :: 340 :: 341 :: 342 :: 344 :: 345 :: 347 :: 348 :: 349 :: 351 :: 352 :: 354 :: 355 :: 356 :: 358 :: 359 :: 361 :: 362 :: 363 :: 365 :: 366 :: 368 :: 369 :: 370 :: 373 :: 374 :: 375 :: 377 :: 378 :: 380 :: 381 :: 382 :: 385 :: 386 :: 387 :: 389 :: 390 :: 392 :: 393 :: 394 :: 396 :: 397 :: 399 :: 400 :: 401 :: 404 :: 405 :: 406 :: 409 :: 410 :: 411 :: 414 :: 415 :: 416 :: 418 :: 419 :: 421 :: 422 :: 423 :: 425 :: 426 :: 428 :: 429 :: 430 :: 432 :: 433 :: 435 :: 436 :: 437 :: 440 :: 441 :: []) hKas)) (YP := Hook.says (kHook K (2 :: 3 :: 15 :: 22 :: 23 :: 25 :: 26 :: 28 :: 29 :: 30 :: 31 :: 32 :: 33 :: 36 :: 38 :: 39 :: 41 :: 42 :: 43 :: 45 :: 46 :: 48 :: 49 :: 50 :: 52 :: 53 :: 55 :: 56 :: 57 :: 59 :: 60 :: 62 :: 63 :: 64 :: 66 :: 67 :: 69 :: 70 :: 71 :: 73 :: 74 :: 76 :: 77 :: 78 :: 80 :: 81 :: 83 :: 84 :: 85 :: 87 :: 88 :: 90 :: 91 :: 92 :: 94 :: 95 :: 97 :: 98 :: 99 :: 100 :: 102 :: 103 :: 105 :: 106 :: 107 :: 108 :: 115 :: 116 :: 117 :: 118 :: 121 :: 128 :: 129 :: 130 :: 133 :: 140 :: 141 :: 142 :: 145 :: 148 :: 149 :: 150 :: 152 :: 153 :: 155 :: 156 :: 157 :: 159 :: 160 :: 162 :: 163 :: 164 :: 166 :: 167 :: 169 :: 170 :: 171 :: 173 :: 174 :: 176 :: 177 :: 178 :: 180 :: 181 :: 183 :: 184 :: 185 :: 187 :: 188 :: 190 :: 191 :: 192 :: 194 :: 195 :: 197 :: 198 :: 199 :: 201 :: 202 :: 204 :: 205 :: 206 :: 208 :: 209 :: 211 :: 212 :: 220 :: 222 :: 223 :: 225 :: 226 :: 227 :: 229 :: 230 :: 232 :: 233 :: 234 :: 236 :: 237 :: 239 :: 240 :: 241 :: 243 :: 244 :: 246 :: 247 :: 248 :: 250 :: 251 :: 253 :: 254 :: 255 :: 256 :: 257 :: 258 :: 259 :: 262 :: 269 :: 271 :: 272 :: 274 :: 275 :: 276 :: 278 :: 279 :: 281 :: 282 :: 283 :: 284 :: 285 :: 288 :: 295 :: 297 :: 298 :: 300 :: 301 :: 302 :: 304 :: 305 :: 307 :: 308 :: 309 :: 311 :: 312 :: 314 :: 315 :: 316 :: 318 :: 319 :: 321 :: 322 :: 323 :: 325 :: 326 :: 328 :: 329 :: 330 :: 331 :: 332 :: 335 :: 337 :: 338 :: 340 :: 341 :: 342 :: 344 :: 345 :: 347 :: 348 :: 349 :: 351 :: 352 :: 354 :: 355 :: 356 :: 358 :: 359 :: 361 :: 362 :: 363 :: 365 :: 366 :: 368 :: 369 :: 370 :: 373 :: 374 :: 375 :: 377 :: 378 :: 380 :: 381 :: 382 :: 385 :: 386 :: 387 :: 389 :: 390 :: 392 :: 393 :: 394 :: 396 :: 397 :: 399 :: 400 :: 401 :: 404 :: 405 :: 406 :: 409 :: 410 :: 411 :: 414 :: 415 :: 416 :: 418 :: 419 :: 421 :: 422 :: 423 :: 425 :: 426 :: 428 :: 429 :: 430 :: 432 :: 433 :: 435 :: 436 :: 437 :: 440 :: 441 :: []) hKas)) (N := 6614) ?hl (Hook.of (kHook K (2 :: 3 :: 15 :: 22 :: 23 :: 25 :: 26 :: 28 :: 29 :: 30 :: 31 :: 32 :: 33 :: 36 :: 38 :: 39 :: 41 :: 42 :: 43 :: 45 :: 46 :: 48 :: 49 :: 50 :: 52 :: 53 :: 55 :: 56 :: 57 :: 59 :: 60 :: 62 :: 63 :: 64 :: 66 :: 67 :: 69 :: 70 :: 71 :: 73 :: 74 :: 76 :: 77 :: 78 :: 80 :: 81 :: 83 :: 84 :: 85 :: 87 :: 88 :: 90 :: 91 :: 92 :: 94 :: 95 :: 97 :: 98 :: 99 :: 100 :: 102 :: 103 :: 105 :: 106 :: 107 :: 108 :: 115 :: 116 :: 117 :: 118 :: 121 :: 128 :: 129 :: 130 :: 133 :: 140 :: 141 :: 142 :: 145 :: 148 :: 149 :: 150 :: 152 :: 153 :: 155 :: 156 :: 157 :: 159 :: 160 :: 162 :: 163 :: 164 :: 166 :: 167 :: 169 :: 170 :: 171 :: 173 :: 174 :: 176 :: 177 :: 178 :: 180 :: 181 :: 183 :: 184 :: 185 :: 187 :: 188 :: 190 :: 191 :: 192 :: 194 :: 195 :: 197 :: 198 :: 199 :: 201 :: 202 :: 204 :: 205 :: 206 :: 208 :: 209 :: 211 :: 212 :: 220 :: 222 :: 223 :: 225 :: 226 :: 227 :: 229 :: 230 :: 232 :: 233 :: 234 :: 236 :: 237 :: 239 :: 240 :: 241 :: 243 :: 244 :: 246 :: 247 :: 248 :: 250 :: 251 :: 253 :: 254 :: 255 :: 256 :: 257 :: 258 :: 259 :: 262 :: 269 :: 271 :: 272 :: 274 :: 275 :: 276 :: 278 :: 279 :: 281 :: 282 :: 283 :: 284 :: 285 :: 288 :: 295 :: 297 :: 298 :: 300 :: 301 :: 302 :: 304 :: 305 :: 307 :: 308 :: 309 :: 311 :: 312 :: 314 :: 315 :: 316 :: 318 :: 319 :: 321 :: 322 :: 323 :: 325 :: 326 :: 328 :: 329 :: 330 :: 331 :: 332 :: 335 :: 337 :: 338 :: 340 :: 341 :: 342 :: 344 :: 345 :: 347 :: 348 :: 349 :: 351 :: 352 :: 354 :: 355 :: 356 :: 358 :: 359 :: 361 :: 362 :: 363 :: 365 :: 366 :: 368 :: 369 :: 370 :: 373 :: 374 :: 375 :: 377 :: 378 :: 380 :: 381 :: 382 :: 385 :: 386 :: 387 :: 389 :: 390 :: 392 :: 393 :: 394 :: 396 :: 397 :: 399 :: 400 :: 401 :: 404 :: 405 :: 406 :: 409 :: 410 :: 411 :: 414 :: 415 :: 416 :: 418 :: 419 :: 421 :: 422 :: 423 :: 425 :: 426 :: 428 :: 429 :: 430 :: 432 :: 433 :: 435 :: 436 :: 437 :: 440 :: 441 :: []) hKas)) (Hook.keeps (kHook K (2 :: 3 :: 15 :: 22 :: 23 :: 25 :: 26 :: 28 :: 29 :: 30 :: 31 :: 32 :: 33 :: 36 :: 38 :: 39 :: 41 :: 42 :: 43 :: 45 :: 46 :: 48 :: 49 :: 50 :: 52 :: 53 :: 55 :: 56 :: 57 :: 59 :: 60 :: 62 :: 63 :: 64 :: 66 :: 67 :: 69 :: 70 :: 71 :: 73 :: 74 :: 76 :: 77 :: 78 :: 80 :: 81 :: 83 :: 84 :: 85 :: 87 :: 88 :: 90 :: 91 :: 92 :: 94 :: 95 :: 97 :: 98 :: 99 :: 100 :: 102 :: 103 :: 105 :: 106 :: 107 :: 108 :: 115 :: 116 :: 117 :: 118 :: 121 :: 128 :: 129 :: 130 :: 133 :: 140 :: 141 :: 142 :: 145 :: 148 :: 149 :: 150 :: 152 :: 153 :: 155 :: 156 :: 157 :: 159 :: 160 :: 162 :: 163 :: 164 :: 166 :: 167 :: 169 :: 170 :: 171 :: 173 :: 174 :: 176 :: 177 :: 178 :: 180 :: 181 :: 183 :: 184 :: 185 :: 187 :: 188 :: 190 :: 191 :: 192 :: 194 :: 195 :: 197 :: 198 :: 199 :: 201 :: 202 :: 204 :: 205 :: 206 :: 208 :: 209 :: 211 :: 212 :: 220 :: 222 :: 223 :: 225 :: 226 :: 227 :: 229 :: 230 :: 232 :: 233 :: 234 :: 236 :: 237 :: 239 :: 240 :: 241 :: 243 :: 244 :: 246 :: 247 :: 248 :: 250 :: 251 :: 253 :: 254 :: 255 :: 256 :: 257 :: 258 :: 259 :: 262 :: 269 :: 271 :: 272 :: 274 :: 275 :: 276 :: 278 :: 279 :: 281 :: 282 :: 283 :: 284 :: 285 :: 288 :: 295 :: 297 :: 298 :: 300 :: 301 :: 302 :: 304 :: 305 :: 307 :: 308 :: 309 :: 311 :: 312 :: 314 :: 315 :: 316 :: 318 :: 319 :: 321 :: 322 :: 323 :: 325 :: 326 :: 328 :: 329 :: 330 :: 331 :: 332 :: 335 :: 337 :: 338 :: 340 :: 341 :: 342 :: 344 :: 345 :: 347 :: 348 :: 349 :: 351 :: 352 :: 354 :: 355 :: 356 :: 358 :: 359 :: 361 :: 362 :: 363 :: 365 :: 366 :: 368 :: 369 :: 370 :: 373 :: 374 :: 375 :: 377 :: 378 :: 380 :: 381 :: 382 :: 385 :: 386 :: 387 :: 389 :: 390 :: 392 :: 393 :: 394 :: 396 :: 397 :: 399 :: 400 :: 401 :: 404 :: 405 :: 406 :: 409 :: 410 :: 411 :: 414 :: 415 :: 416 :: 418 :: 419 :: 421 :: 422 :: 423 :: 425 :: 426 :: 428 :: 429 :: 430 :: 432 :: 433 :: 435 :: 436 :: 437 :: 440 :: 441 :: []) hKas)) (fun s e => xl_of s (Bool.and_eq_true_iff.mp e).1) XL.keeps (by rfl) (by rfl) (by rfl) (fun s e => recFacts_of (Bool.and_eq_true_iff.mp e).2) (by rfl) (by first | assumption | decide +kernel) (by decide +kernel) ⟨rfl, rfl, rfl, rfl, rfl, by decide +kernel⟩ ?hw ?hc
  case hl => exact hLeft
  case hw => w_witness2
  w_top off
  k_fill
  intro w s₀ s₁ mg mb G Y fa o pm cd doc dV kV ho hd hcd hdf9 hmg hg args vals as hpre hlay hrd hwl hlo
  have KX := kIn_of Y
  have X := (Ground.X G).1
  have V9 := (Ground.X G).2
  refine Ground.open G ?_
  intro T B D TE TW
  (try (refine guard_noD D (by decide +kernel) ?_; clear D))
  obtain ⟨_, _, M⟩ := bmod_of_top T
  have TA := at_of_top T
  (try (obtain ⟨_, _, he, B0⟩ := based_of_top T rfl hmg ho hd; have he' : cd = _ := he; subst he'; clear he))
  clear hmg
  wrow_args hpre hlay hrd hwl hlo
  (first | refine callC_kw (enter_call ?_) | refine enter_call ?_ | refine callC_kw (enter_callW ?_) | refine enter_callW ?_)
  w_top on
  (try refine codeAny_mono ?_ (fun _ _ g => GoodW.toG g))
  have K0 := below_caller (Top.heap T)
  w_call any ho hd hcd hdf9 T F
  clear hd TA
  k_drop
  clear said
  (all_goals try k_fold)
  rename IntsAre _ _ => hIS
  rename PyData.layable0 (PyData.list _) = true => hLay
  have hScr := scr_of hIS (by lia) hLay
  refine abs_QE ?_
  intro Q9 E9 hqq
  (try k_extra "m_letA")
  k_steps
  unfold Hold
  k_dflt (refine' CtrB.use (c_keys _ _ _ _ ?h1 ?h2 ?h3 ?h4 ?h5) ?k1 ?hB ?k2 ?k3 ?k4 ?k5 ?kk ?hp ?hR ?kd ?ku ?_; (case h1 => assumption); (k_extra "m_use"); (case hB => assumption); (case h2 => first | decide | lia); (case h3 => first | decide | lia); (case h4 => first | decide | lia); (case h5 => first | decide | lia); k_whole)
  rintro v9 l9 h9 tk9 ⟨tp1, p1, q1, e1, d1, u11, u12, u13, u14, hp1, hq1, hpq1, hle1, he10, he11, hd10, hd11, hd12⟩ hlo9 F9 N9
  replace hlo9 := sepL_of hlo9
  (try dsimp only [sepL, sepR] at hlo9)
  (try dsimp only [List.cons_append, List.nil_append] at N9)
  k_sweep
  (try k_fold)
  k_steps
  unfold Hold
  k_dflt (refine' CtrB.use (c_keys _ _ _ _ ?h1 ?h2 ?h3 ?h4 ?h5) ?k1 ?hB ?k2 ?k3 ?k4 ?k5 ?kk ?hp ?hR ?kd ?ku ?_; (case h1 => assumption); (k_extra "m_use"); (case hB => assumption); (case h2 => first | decide | lia); (case h3 => first | decide | lia); (case h4 => first | decide | lia); (case h5 => first | decide | lia); k_whole)
  rintro v9 l9 h9 tk9 ⟨tp2, p2, q2, e2, d2, u21, u22, u23, u24, hp2, hq2, hpq2, hle2, he20, he21, hd20, hd21, hd22⟩ hlo9 F9 N9
  replace hlo9 := sepL_of hlo9
  (try dsimp only [sepL, sepR] at hlo9)
  (try dsimp only [List.cons_append, List.nil_append] at N9)
  k_sweep
  (try k_fold)
  k_steps
  unfold Hold
  rename Fr _ _ _ _ => fr0
  let m1 := frOf fr0
  have fr0' : Fr _ _ _ m1 := fr0
  have hpB1 := hp1.2.1
  have hqB1 := hq1.2.1
  have hp31 := hp1.1
  have hq31 := hq1.1
  have hpB2 := hp2.2.1
  have hqB2 := hq2.2.1
  have hp32 := hp2.1
  have hq32 := hq2.1
  have hnB1 : Bd 1240 (p1 * q1) := (hpB1.mul hqB1).mono (by decide)
  have hnB2 : Bd 1240 (p2 * q2) := (hpB2.mul hqB2).mono (by decide)
  have hn01 : 0 < p1 * q1 := Int.mul_pos (by lia) (by lia)
  have hn02 : 0 < p2 * q2 := Int.mul_pos (by lia) (by lia)
  have hg1 : Int.gcd q1 p1 = 1 := by first | exact primes_gcd hp1 hq1 hpq1 | exact primes_gcd hq1 hp1 hpq1.symm
  have hg2 : Int.gcd q2 p2 = 1 := by first | exact primes_gcd hp2 hq2 hpq2 | exact primes_gcd hq2 hp2 hpq2.symm
  have hdB1 : Bd 1230 d1 := Bd.of_lt hd10 (Int.le_of_lt hd11) (dB_pq hp1 hq1)
  have hdB2 : Bd 1230 d2 := Bd.of_lt hd20 (Int.le_of_lt hd21) (dB_pq hp2 hq2)
  have hs1 := szI_le hnB1
  have hs2 := szI_le hnB2
  refine mul_int ?_ (mulOkB 610 610 (hpB1.mono (by decide)) (hqB1.mono (by decide)) (by decide))
  have hmI1 : IntMulOk p1 q1 := mulOkB 610 610 (hpB1.mono (by decide)) (hqB1.mono (by decide)) (by decide)
  have hmI2 : IntMulOk p2 q2 := mulOkB 610 610 (hpB2.mono (by decide)) (hqB2.mono (by decide)) (by decide)
  k_steps
  obtain ⟨hfm0, hfm1⟩ := fmod_nn (a := r9) (b := szI (p1 * q1) - 10) (by lia)
  generalize r9.fmod (szI (p1 * q1) - 10) = rr at hfm0 hfm1 ⊢
  unfold Hold
  k_dflt (refine' CtrB.use (c_octets _ _ _ _ ?h1 ?h2 ?h3 ?h4 ?h5) ?k1 ?hB ?k2 ?k3 ?k4 ?k5 ?kk ?hp ?hR ?kd ?ku ?_; (case h1 => assumption); (k_extra "m_use"); (case hB => assumption); (case h2 => first | decide | lia); (case h3 => first | decide | lia); (case h4 => first | decide | lia); (case h5 => first | decide | lia); k_whole)
  rintro v9 l9 h9 tk9 ⟨oa1, os1, ko1, no1, hoI1, hoL1, hoB1⟩ hlo9 F9 N9
  replace hlo9 := sepL_of hlo9
  (try dsimp only [sepL, sepR] at hlo9)
  (try dsimp only [List.cons_append, List.nil_append] at N9)
  k_sweep
  (try k_fold)
  have hko1 : (ko1.length : Int) ≤ szI (p1 * q1) - 11 := by rw [hoL1]; lia
  clear hfm0 hfm1 hoL1
  k_steps
  unfold Hold
  k_dflt (refine' CtrB.use (c_octets _ _ _ _ ?h1 ?h2 ?h3 ?h4 ?h5) ?k1 ?hB ?k2 ?k3 ?k4 ?k5 ?kk ?hp ?hR ?kd ?ku ?_; (case h1 => assumption); (k_extra "m_use"); (case hB => assumption); (case h2 => first | decide | lia); (case h3 => first | decide | lia); (case h4 => first | decide | lia); (case h5 => first | decide | lia); k_whole)
  rintro v9 l9 h9 tk9 ⟨oa2, os2, ko2, no2, hoI2, hoL2, hoB2⟩ hlo9 F9 N9
  replace hlo9 := sepL_of hlo9
  (try dsimp only [sepL, sepR] at hlo9)
  (try dsimp only [List.cons_append, List.nil_append] at N9)
  k_sweep
  (try k_fold)
  k_steps
  unfold Hold
  rename Fr _ _ _ _ => fr2
  rename News _ _ _ _ => ne2
  have hsz2 : os2.toArray.size = ko2.length := by rw [List.size_toArray, hoI2.length]
  with_unfolding_all refine LCg.CompSrc.ledger (its := os2.toArray) rfl fr2 ne2 (List.Mem.head _) (by rw [hsz2, sizeLine_eq]; lia) (fun g9 => comp_ind (σ := Unit) (fun _ => _) (fun i ys _ => IntsAre ys ((ko2.take i).map fun k => 1 + k.fmod 255)) () rfl .nil ?_ ?_)
  · intro i ys u9 R' hi9 hj hR v I oI C oC D m₂ h9 tk9 E' hP hC hx9 fr3 ne3 off nei
    obtain ⟨k9, t9, rfl, hk9⟩ := intsAre_at hoI2 (i := i) (v := v) (by simpa using hP)
    have hkb := hoB2 _ (List.mem_of_getElem? hk9)
    clear fr2 ne2
    k_sweep
    (try k_fold)
    k_steps
    have htk : List.take (i + 1) ko2 = List.take i ko2 ++ [k9] := by rw [List.take_add_one, hk9]; rfl
    with_unfolding_all exact LCg.CompEnd.intro fr3 ne3 _ (fun p hp => hp) off (.inr ⟨_, .head _, rfl, _, rfl⟩) ⟨(), rfl, hR _ _ (by rw [htk, List.map_append]; exact intsAre_append hj (.cons _ _ .nil))⟩
  · intro ys u9 hb
    rw [hsz2, List.take_length] at hb
    unfold LCg.FinA
    intro D h9 tk9 fr3 ne3 off
    have ne4 := news_of (l' := [(D, listOf ys.toArray ys.length), (oa1, listOf os1.toArray no1)]) ne3 (List.forall_mem_cons.mpr ⟨.head _, List.forall_mem_cons.mpr ⟨.tail _ (.tail _ (.head _)), List.forall_mem_nil _⟩⟩)
    simp only [LCg.Off1, and_true] at off
    have hneD : @Ne Nat oa1 D := off.2.1
    clear fr2 ne2 ne3 off hlo9
    generalize hdr : List.map (fun k => 1 + k.fmod 255) ko2 = dr at hb
    have hdl : (dr.length : Int) = szI (p1 * q1) := by rw [← hdr, List.length_map]; exact hoL2
    have hdp : ∀ n ∈ dr, 0 < n ∧ n < 256 := by
      intro n hn
      rw [← hdr] at hn
      obtain ⟨k, -, rfl⟩ := List.mem_map.mp hn
      have := fmod_nn (a := k) (b := 255) (by decide)
      lia
    clear hdr hoI2 hoB2 hoL2 hsz2
    k_sweep
    (try k_fold)
    k_steps
    unfold Hold
    rename Fr _ _ _ _ => fr5
    rename News _ _ _ _ => ne5
    refine KBa.make_K fr5 ne5 rfl (News.isList ne5 (.tail _ (.head _))) hoI1 hoB1 (by lia) ?_
    intro h8 t8 k8 fr6 ne6 hin8
    clear fr5 ne5
    have hbb1 := KBa.ints_make hin8
    generalize byteArr ko1 = b1 at hbb1 ⊢
    k_steps
    unfold Hold
    rename Fr _ _ _ _ => fr5
    rename News _ _ _ _ => ne5
    refine KBa.make_K fr5 ne5 rfl (News.isList ne5 (.tail _ (.tail _ (.head _)))) hb (fun n hn => ⟨by have := hdp n hn; lia, (hdp n hn).2⟩) (by lia) ?_
    intro h8 t8 k8 fr6 ne6 hin9
    clear fr5 ne5
    have hbb2 := KBa.ints_make hin9
    generalize byteArr dr = b2 at hbb2 ⊢
    have hKo : KOk S9 := ⟨by rw [hSn]; exact hn01, by rw [hSn]; exact (hpB1.mul hqB1).mono (by decide), by rw [hSe]; lia, by rw [hSe]; exact Bd.small (by lia) (by decide)⟩
    have hnz9 : ∀ n ∈ dr, n ≠ 0 := fun n hn e => by have := hdp n hn; lia
    have hdl9 : (dr.length : Int) = szI S9.n := by rw [hSn]; exact hdl
    have hml9 : (ko1.length : Int) ≤ szI S9.n - 11 := by rw [hSn]; lia
    k_steps
    unfold Hold
    rename Fr _ _ _ _ => fr5
    rename News _ _ _ _ => ne5
    have hcz : (c9.size : Int) = szI (p1 * q1) := by rw [← hSn]; exact hcz9
    refine list_bytesL rfl fr5 ne5 ?_ (by rw [sizeLine_eq]; lia)
    intro D8 h8 tk8 ys8 c8 hD8 hlt8 hI8 fr8 ne8
    have hoM := bInts_in c9
    have hlM : (KBw.bInts c9).length = c9.size := KBw.ints_length c9
    replace ne8 := news_of (l' := [(D8, listOf ys8.toArray c8)]) ne8 (by k_extra "m_pre")
    clear fr5 ne5 hlt8 hD8 hKo hnz9 hdl9 hml9 hbb1 hbb2 hin8 hin9 hb hdp hdl hoI1 hoB1 hneD hSn hSe hne9 hbf9
    generalize hgm : KBw.bInts c9 = mks at hI8 hoM hlM
    have hlk : (mks.length : Int) = szI (p1 * q1) := by rw [hlM]; exact hcz
    clear hgm hlM hcz hcz9
    k_sweep
    have hP0 := PM_nn (KFB.value mks) d2 (p2 * q2)
    have hPB := PM_bd (x := KFB.value mks) (y := d2) hn02 hnB2
    k_steps
    unfold Hold
    have hcll : (KTBy.little (szI (p2 * q2)).toNat (PM (KFB.value mks) d2 (p2 * q2))).reverse.length = (szI (p2 * q2)).toNat := by rw [List.length_reverse, KTBy.little_length]
    generalize hcl : (KTBy.little (szI (p2 * q2)).toNat (PM (KFB.value mks) d2 (p2 * q2))).reverse = clear at hcll hwI9
    rename Fr _ _ _ _ => fr0
    let m2 := frOf fr0
    have fr0' : Fr _ _ _ m2 := fr0
    rename Fr _ _ _ _ => fr1
    rename News _ _ _ _ => ne1
    with_unfolding_all refine m_join (σ := Value × List (Addr × Obj)) (fun c => c.2 ++ tlN ne1 1) (fun c => [(Str.ofString "due", c.1)]) [Str.ofString "due"] (Due D8 (Rd mks clear)) fr1 ?_ ?_
    · clear hP0 hPB

      refine wpAny_If ?_
      (try k_fold)
      k_steps
      · unfold Hold
        rename Fr _ _ _ _ => fr5
        rename News _ _ _ _ => ne5
        with_unfolding_all refine kmk_slice_ints (s := ⟨_, _, _, _, _⟩) fr5 ne5 (News.isList ne5 (by k_mem)) (by constructor) (by constructor) hwI9 (kmk_upto hwI9 (by decide)) rfl ?_ (by with_unfolding_all rfl) (by intro _; with_unfolding_all rfl) (by rw [List.size_toArray, hwI9.length, sizeLine_eq]; lia)
        intro D9 w9 h8 fr6 ne6 l9 hI9 hC9 hL9
        replace hI9 : IntsAre _ (clear.take 2) := hI9
        clear fr5 ne5 hC9 hL9
        k_lt l9
        k_sweep
        k_steps
        unfold Hold
        rename News _ _ _ _ => ne7
        refine eq_intsK (News.isList ne7 (by k_mem)) hI9 (News.isList ne7 (List.Mem.head _)) (.cons _ _ (.cons _ _ .nil)) (by have hcL9 := cLine_is; (simp (zetaDelta := true) only [units_in1, units_deeper, Around.mark_units, units_caller]); (try dsimp only [ktrTop]); lia) ?_
        by_cases hc1 : clear.take 2 = [0, 2]
        · rw [decide_eq_true hc1]
          k_steps
          unfold Hold
          rename Fr _ _ _ _ => fr5
          rename News _ _ _ _ => ne5
          with_unfolding_all refine kmk_slice_ints (s := ⟨_, _, _, _, _⟩) fr5 ne5 (News.isList ne5 (by k_mem)) (by constructor) (by constructor) hwI9 (kmk_from hwI9 (by decide)) rfl ?_ (by with_unfolding_all rfl) (by intro _; with_unfolding_all rfl) (by rw [List.size_toArray, hwI9.length, sizeLine_eq]; lia)
          intro D7 w7 h8 fr6 ne6 l7 hI7 hC7 hL7
          replace hI7 : IntsAre _ (clear.drop 2) := hI7
          clear fr5 ne5 hC7 hL7
          k_lt l7
          k_sweep
          k_steps
          unfold Hold
          rename News _ _ _ _ => ne7
          refine kf_in ne7 (List.Mem.head _) (ints_kf hI7) (ints_any hI7) ?_
          by_cases hc2 : 0 ∈ clear.drop 2
          · rw [decide_eq_true hc2]

            k_steps
            unfold Hold
            rename Fr _ _ _ _ => fr5
            rename News _ _ _ _ => ne5
            with_unfolding_all refine kmk_slice_ints (s := ⟨_, _, _, _, _⟩) fr5 ne5 (News.isList ne5 (by k_mem)) (by constructor) (by constructor) hwI9 (kmk_from hwI9 (by decide)) rfl ?_ (by with_unfolding_all rfl) (by intro _; with_unfolding_all rfl) (by rw [List.size_toArray, hwI9.length, sizeLine_eq]; lia)
            intro D6 w6 h8 fr6 ne6 l6 hI6 hC6 hL6
            replace hI6 : IntsAre _ (clear.drop 2) := hI6
            clear fr5 ne5 hC6
            k_lt l6
            k_sweep
            k_steps
            unfold Hold
            rename News _ _ _ _ => ne7
            refine kf_index ne7 (List.Mem.head _) (ints_kf hI6) (ints_at hI6 hc2) rfl (by show w6.length ≤ _; rw [hI6.length, sizeLine_eq]; lia) ?_
            (iterate 3 (first | (k_unfold; (try dsimp only)) | walk1 | (dsimp only; walk1)))
            have hfz : fz clear = 2 + ((clear.drop 2).idxOf 0 : Nat) := by unfold fz; rw [if_pos hc2]
            by_cases hc3 : (7 : Int) < ((clear.drop 2).idxOf 0 : Nat)
            · refine (if_pos (decide_eq_true hc3)).mpr ?_
              k_steps
              unfold Hold
              rename Fr _ _ _ _ => fr5
              rename News _ _ _ _ => ne5
              replace ne5 := news_of (l' := [(wa9, listOf ws9.toArray wn9), (D8, listOf ys8.toArray c8)]) ne5 (by k_extra "m_pre")
              with_unfolding_all refine kmk_slice_ints (s := ⟨_, _, _, _, _⟩) fr5 ne5 (News.isList ne5 (List.Mem.head _)) (by constructor) (by constructor) hwI9 (kmk_from hwI9 (by decide)) rfl ?_ (by with_unfolding_all rfl) (by intro _; with_unfolding_all rfl) (by rw [List.size_toArray, hwI9.length, sizeLine_eq]; lia)
              intro D5 w5 h8 fr6 ne6 l5 hI5 hC5 hL5
              replace hI5 : IntsAre _ (clear.drop 2) := hI5
              clear fr5 ne5 hC5 hL5
              k_lt l5
              k_sweep
              k_steps
              unfold Hold
              rename News _ _ _ _ => ne7
              refine kf_index ne7 (List.Mem.head _) (ints_kf hI5) (ints_at hI5 hc2) rfl (by show w5.length ≤ _; rw [hI5.length, sizeLine_eq]; lia) ?_
              k_steps
              unfold Hold
              rename Fr _ _ _ _ => fr5
              rename News _ _ _ _ => ne5
              replace ne5 := news_of (l' := [(wa9, listOf ws9.toArray wn9), (D8, listOf ys8.toArray c8)]) ne5 (by k_extra "m_pre")
              with_unfolding_all refine kmk_slice_ints (s := ⟨_, _, _, _, _⟩) fr5 ne5 (News.isList ne5 (List.Mem.head _)) (by constructor) (by constructor) hwI9 (kmk_from hwI9 (by lia)) rfl ?_ (by with_unfolding_all rfl) (by intro _; with_unfolding_all rfl) (by rw [List.size_toArray, hwI9.length, sizeLine_eq]; lia)
              intro D4 w4 h8 fr6 ne6 l4 hI4 hC4 hL4
              replace hI4 : IntsAre _ (clear.drop (3 + ((clear.drop 2).idxOf 0 : Nat) : Int).toNat) := hI4
              clear fr5 ne5 hC4 hL4
              k_lt l4
              k_sweep
              k_steps
              have hRd : Rd mks clear = some (clear.drop (3 + ((clear.drop 2).idxOf 0 : Nat) : Int).toNat) := by
                unfold Rd
                rw [if_pos ⟨by rw [hcll]; lia, hc1, by rw [hfz]; lia⟩, hfz]
                congr 2
                lia
              (dsimp only [JPost]; (rename Fr _ _ _ _ => fr8); (rename News _ _ _ _ => ne8); (with_unfolding_all refine' m_jend (Value.ref D4, [(D4, listOf w4.toArray 0)]) fr8 ne8 ?hn (List.forall_mem_cons.mpr ⟨rfl, List.forall_mem_nil _⟩) ?hr ?hP); (case hn => dsimp only [tlN, List.drop, List.nil_append, List.cons_append]; k_extra "m_pre"); (case hr => k_extra "m_same"); (case hP => exact .yes _ _ _ _ (by k_ne) hRd hI4))
            · refine (if_neg (fun hc => hc3 (of_decide_eq_true hc))).mpr ?_
              k_steps
              (dsimp only [JPost]; (rename Fr _ _ _ _ => fr8); (rename News _ _ _ _ => ne8); (with_unfolding_all refine' m_jend (Value.none, []) fr8 ne8 ?hn (List.forall_mem_cons.mpr ⟨rfl, List.forall_mem_nil _⟩) ?hr ?hP); (case hn => dsimp only [tlN, List.drop, List.nil_append]; k_extra "m_pre"); (case hr => k_extra "m_same"); (case hP => exact .no (if_neg (fun hc => by have h0 := hc.2.2; rw [hfz] at h0; lia))))

          · rw [decide_eq_false hc2]
            k_steps
            (dsimp only [JPost]; (rename Fr _ _ _ _ => fr8); (rename News _ _ _ _ => ne8); (with_unfolding_all refine' m_jend (Value.none, []) fr8 ne8 ?hn (List.forall_mem_cons.mpr ⟨rfl, List.forall_mem_nil _⟩) ?hr ?hP); (case hn => dsimp only [tlN, List.drop, List.nil_append]; k_extra "m_pre"); (case hr => k_extra "m_same"); (case hP => exact .no (if_neg (fun hc => by have h0 := hc.2.2; unfold fz at h0; rw [if_neg hc2] at h0; lia))))
        · rw [decide_eq_false hc1]
          k_steps
          (dsimp only [JPost]; (rename Fr _ _ _ _ => fr8); (rename News _ _ _ _ => ne8); (with_unfolding_all refine' m_jend (Value.none, []) fr8 ne8 ?hn (List.forall_mem_cons.mpr ⟨rfl, List.forall_mem_nil _⟩) ?hr ?hP); (case hn => dsimp only [tlN, List.drop, List.nil_append]; k_extra "m_pre"); (case hr => k_extra "m_same"); (case hP => exact .no (if_neg (fun hc => hc1 hc.2.1))))
      · (dsimp only [JPost]; (rename Fr _ _ _ _ => fr8); (rename News _ _ _ _ => ne8); (with_unfolding_all refine' m_jend (Value.none, []) fr8 ne8 ?hn (List.forall_mem_cons.mpr ⟨rfl, List.forall_mem_nil _⟩) ?hr ?hP); (case hn => dsimp only [tlN, List.drop, List.nil_append]; k_extra "m_pre"); (case hr => k_extra "m_same"); (case hP => exact .no (if_neg (fun hc => by have h0 := hc.1; rw [hcll] at h0; lia))))

    ·
      rintro ⟨v5, l5⟩ u h tk hP5 fr6 ne6
      dsimp only [tlN, List.drop] at hP5 fr6 ne6 ⊢
      clear fr1 ne1
      (try k_fold)
      k_steps
      unfold Hold
      rename Fr _ _ _ _ => fr1
      with_unfolding_all refine m_join (σ := Unit) (fun _ => [(D8, listOf ys8.toArray c8)]) (fun _ => []) [] (fun _ => True) fr1 ?_ ?_
      ·
        cases hP5 with
        | no h =>
          refine wpAny_If ?_
          (try k_fold)
          k_steps
          unfold Hold
          (try dsimp only [List.cons_append, List.nil_append, sepL, sepR] at hlo9)
          k_dflt (refine' CtrO.use (c_read _ _ _ _ ?h1 ?h2 ?h3 ?h4 ?h5 ?h6 ?h7 ?h8 ?h9) ?k1 ?k2 ?k3 ?k4 ?k5 ?kk ?hp ?hR ?kd ?ku ?_; (case h4 => assumption); (case h5 => assumption); (case h6 => exact hI8); (case h7 => exact hoM); (k_extra "m_use"); (case h1 => assumption); (case h2 => k_ne); (case h3 => k_ne); (case h8 => lia); (case h9 => rw [hSn]; lia); k_whole)
          intro v9 l9 h9 tk9 hP9 hlo9 F9 N9
          (try dsimp only [List.cons_append, List.nil_append] at N9)
          rw [hSn, hSd, hcl, h] at hP9
          cases hP9 with
          | no b' s1 i' s2 h' =>
            (try dsimp only [List.cons_append, List.nil_append, KeyL] at N9)
            k_steps
            (dsimp only [JPost]; (rename Fr _ _ _ _ => fr8); (rename News _ _ _ _ => ne8); (with_unfolding_all refine' m_jend () fr8 ne8 ?hn (List.forall_mem_nil _) ?hr trivial); (case hn => k_extra "m_pre"); (case hr => k_extra "m_same"))
          | yes ra rs rn ks b' s1 i' s2 h' hI' => cases h'
        | yes b5 vs5 n5 ks5 hne5 h hI5 =>
          refine wpAny_If ?_
          (try k_fold)
          k_steps
          unfold Hold
          (try dsimp only [List.cons_append, List.nil_append, sepL, sepR] at hlo9)
          k_dflt (refine' CtrO.use (c_read _ _ _ _ ?h1 ?h2 ?h3 ?h4 ?h5 ?h6 ?h7 ?h8 ?h9) ?k1 ?k2 ?k3 ?k4 ?k5 ?kk ?hp ?hR ?kd ?ku ?_; (case h4 => assumption); (case h5 => assumption); (case h6 => exact hI8); (case h7 => exact hoM); (k_extra "m_use"); (case h1 => assumption); (case h2 => k_ne); (case h3 => k_ne); (case h8 => lia); (case h9 => rw [hSn]; lia); k_whole)
          intro v9 l9 h9 tk9 hP9 hlo9 F9 N9
          (try dsimp only [List.cons_append, List.nil_append] at N9)
          rw [hSn, hSd, hcl, h] at hP9
          cases hP9 with
          | no b' s1 i' s2 h' => cases h'
          | yes ra rs rn ks b' s1 i' s2 h' hI' =>
            obtain rfl := Option.some.inj h'
            (try dsimp only [List.cons_append, List.nil_append, KeyL] at N9)
            k_steps
            unfold Hold
            rename News _ _ _ _ => ne7
            refine ne_intsK (News.isList ne7 (by k_mem)) hI' (News.isList ne7 (by k_mem)) hI5 (by have hcL9 := cLine_is; (simp (zetaDelta := true) only [units_in1, units_deeper, Around.mark_units, units_caller]); (try dsimp only [ktrTop]); lia) ?_
            rw [decide_eq_true rfl]
            k_steps
            (dsimp only [JPost]; (rename Fr _ _ _ _ => fr8); (rename News _ _ _ _ => ne8); (with_unfolding_all refine' m_jend () fr8 ne8 ?hn (List.forall_mem_nil _) ?hr trivial); (case hn => k_extra "m_pre"); (case hr => k_extra "m_same"))

      ·
        rintro - u2 h2 tk2 - fr6 ne6
        dsimp only at fr6 ne6 ⊢
        clear fr1
        (try k_fold)
        k_steps
        unfold Hold
        obtain ⟨hfm0, hfm1⟩ := fmod_nn (a := r9) (b := szI (p1 * q1) - 30) (by lia)
        generalize r9.fmod (szI (p1 * q1) - 30) = rr at hfm0 hfm1 ⊢
        k_dflt (refine' CtrB.use (c_octets _ _ _ _ ?h1 ?h2 ?h3 ?h4 ?h5) ?k1 ?hB ?k2 ?k3 ?k4 ?k5 ?kk ?hp ?hR ?kd ?ku ?_; (case h1 => assumption); (k_extra "m_use"); (case hB => assumption); (case h2 => first | decide | lia); (case h3 => first | decide | lia); (case h4 => first | decide | lia); (case h5 => first | decide | lia); k_whole)
        rintro v9 l9 h9 tk9 ⟨oa4, os4, ko4, no4, hoI4, hoL4, hoB4⟩ hlo9 F9 N9
        replace hlo9 := sepL_of hlo9
        (try dsimp only [sepL, sepR] at hlo9)
        (try dsimp only [List.cons_append, List.nil_append] at N9)
        k_sweep
        (try k_fold)
        have hko4 : (ko4.length : Int) ≤ szI (p1 * q1) - 31 := by rw [hoL4]; lia
        clear hfm0 hfm1 hoL4
        k_steps
        unfold Hold
        rename News _ _ _ _ => ne8
        obtain ⟨hf9, hf8⟩ := fmod_nn (a := r9) (b := 9) (by decide)
        generalize r9.fmod 9 = rr at hf9 hf8 ⊢
        obtain ⟨i7, hi7⟩ := Int.eq_ofNat_of_zero_le hf9
        have hi8 : i7 < 9 := Int.ofNat_lt.mp (hi7 ▸ hf8)
        obtain ⟨v7, hv7, hd7⟩ := datAll_get hD9 (hD_at hi8)
        obtain ⟨a7, n7, b7, ws7, k7, tt7, rfl, hm7, hm8, hI7⟩ := hRow_in hd7
        dsimp only at hm7
        have hcl7 := hC_len hi8
        refine item_any i7 ne8 (List.Mem.head _) hi7 hv7 (Nat.lt_trans hi8 (by decide)) (by with_unfolding_all rfl) ?_
        have ne9 := news_cut1 ne8 hm7
        clear ne8 hcs9 hm7 hm8 hd7 hI7 hv7 hD9 hf9 hf8 hi7
        k_steps
        unfold Hold
        rename Fr _ _ _ _ => fr5
        rename News _ _ _ _ => ne5
        refine KBa.make_K fr5 ne5 rfl (News.isList ne5 (.tail _ (.head _))) hoI4 hoB4 (by lia) ?_
        intro h8 t8 k8 fr6 ne6 hin8
        clear fr5 ne5
        have hbb1 := KBa.ints_make hin8
        generalize byteArr ko4 = b1 at hbb1 ⊢
        clear hin8
        replace ne6 := news_of (l' := [(oa4, listOf os4.toArray no4)]) ne6 (by k_extra "m_pre")
        k_steps
        unfold Hold
        (try dsimp only [List.cons_append, List.nil_append, sepL, sepR] at hlo9)
        k_dflt (refine' Ctr.use (c_sign _ _ _ _ (i := i7) ?h1 ?h2 ?h3 ?h4 ?h5 ?h6) ?k1 ?k2 ?k3 ?k4 ?k5 ?kk ?hp ?hR ?kd ?ku ?_; (case h1 => assumption); (case h2 => assumption); (case h3 => assumption); (case h4 => exact hbb1); (case h5 => exact hi8); (case h6 => rw [hSn]; lia); (k_extra "m_use"); k_whole)
        rintro v9 l9 h9 tk9 ⟨b9, s9, i9, t9, c9, tc9, hc9, h9a⟩ hlo9 F9 N9
        (try dsimp only [List.cons_append, List.nil_append, KeyL] at N9)
        have hcl9 : c9.size = (szI (p1 * q1)).toNat := by rw [← KBw.ints_length, hc9, List.length_reverse, KTBy.little_length, hSn]
        clear hlo9 hc9 h9a hbb1 hK9 hB9 hSn hSd hne9 hbf9
        k_sweep
        (try k_fold)
        k_steps
        unfold Hold
        rename Fr _ _ _ _ => fr5
        rename News _ _ _ _ => ne5
        refine list_bytesL rfl fr5 ne5 ?_ (by rw [sizeLine_eq]; lia)
        intro D6 h8 tk8 ys6 c6 hD6 hlt6 hI6 fr8 ne8
        have hoM6 := bInts_in c9
        have hlM6 : (KBw.bInts c9).length = c9.size := KBw.ints_length c9
        replace ne8 := news_of (l' := [(D6, listOf ys6.toArray c6), (oa4, listOf os4.toArray no4)]) ne8 (by k_extra "m_pre")
        clear fr5 ne5 hD6
        generalize KBw.bInts c9 = sg at hI6 hoM6 hlM6
        have hsg : (sg.length : Int) = szI (p1 * q1) := by rw [hlM6, hcl9]; lia
        clear hlM6 hcl9
        k_lt hlt6
        k_sweep
        k_steps
        unfold Hold
        have hKo : KOk S9 := ⟨by rw [hSn]; exact hn02, by rw [hSn]; exact (hpB2.mul hqB2).mono (by decide), by rw [hSe]; lia, by rw [hSe]; exact Bd.small (by lia) (by decide)⟩
        have h129 : 12 ≤ szI S9.n := by rw [hSn]; lia
        have hts : @Ne Nat oa4 D6 := (by k_ne)
        refine wpAny_If ?_
        (try k_fold)
        k_steps
        unfold Hold
        k_dflt (refine' CtrO.use (c_tld _ _ _ _ ?h1 ?h2 ?h3 ?h4 ?h5 ?h6 ?h7 ?h8 ?h9) ?k1 ?k2 ?k3 ?k4 ?k5 ?kk ?hp ?hR ?kd ?ku ?_; (case h2 => exact hKo); (k_extra "m_use"); (case h1 => assumption); (case h3 => exact hoI4); (case h4 => exact hI6); (case h5 => exact hoB4); (case h6 => exact hoM6); (case h7 => lia); (case h8 => lia); (case h9 => exact h129); k_whole)
        rintro v9 l9 h9 tk9 ⟨tr9⟩ hlo9 F9 N9
        rw [hSn, hSe]
        clear hlo9
        (try dsimp only [List.cons_append, List.nil_append, PubL] at N9)
        k_sweep
        (try k_fold)
        k_steps
        unfold Hold
        k_dflt (refine' Ctr.use (c_judged _ _ _ _ ?h0 ?h1 ?h2 ?h3 ?h4 ?h5 ?h6 ?h7 ?h8 ?h9) ?k1 ?k2 ?k3 ?k4 ?k5 ?kk ?hp ?hR ?kd ?ku ?_; (k_extra "m_use"); (case h0 => exact hts); (case h1 => exact hoI4); (case h2 => exact hI6); (case h3 => exact hoM6); (case h4 => lia); (case h5 => lia); (case h6 => lia); (case h7 => exact hn02); (case h8 => exact (hpB2.mul hqB2).mono (by decide)); (case h9 => lia); k_whole)
        rintro v9 l9 h9 tk9 ⟨tj9⟩ hlo9 F9 N9
        clear hlo9
        (try dsimp only [List.cons_append, List.nil_append] at N9)
        k_sweep
        (try k_fold)
        k_steps
        · rename (_ != _) = true => hq
          exact absurd hq (by simp)
        · unfold Hold
          rw [hSn, hSe] at hP9
          have hl9 := PFd.led hP9
          subst hl9
          clear hlo9 hSn hSe hKo h129 hne9 hbf9 hts
          (try dsimp only [List.cons_append, List.nil_append, PubL] at N9)
          replace N9 := news_of (l' := [(D6, listOf ys6.toArray c6)]) N9 (by k_extra "m_pre")
          rename PFd _ _ _ _ => hF9
          have hP0 := PM_nn (KFB.value sg) e2 (p2 * q2)
          have hPB := PM_bd (x := KFB.value sg) (y := e2) hn02 hnB2
          k_sweep
          (try k_fold)
          k_steps
          unfold Hold
          have hcll : (KTBy.little (szI (p2 * q2)).toNat (PM (KFB.value sg) e2 (p2 * q2))).reverse.length = (szI (p2 * q2)).toNat := by rw [List.length_reverse, KTBy.little_length]
          k_dflt (refine' Ctr.use (c_lname _ _ _ _ ?h1 ?h2) ?k1 ?k2 ?k3 ?k4 ?k5 ?kk ?hp ?hR ?kd ?ku ?_; (case h1 => exact hwI9); (k_extra "m_use"); (case h2 => rw [hcll]; lia); k_whole)
          intro v9 l9 h9 tk9 hP9 hlo9 F9 N9
          cases hF9 with
          | no h1 =>
            cases hP9 with
            | no h2 =>
              k_steps
              all_goals (refine hqq _ _ ?_; k_steps)
            | yes i2 t2 h2 => cases h1.symm.trans h2
          | yes i1 t1 h1 =>
            cases hP9 with
            | no h2 => cases h1.symm.trans h2
            | yes i2 t2 h2 =>
              obtain rfl := Option.some.inj (h1.symm.trans h2)
              k_steps
              all_goals (refine hqq _ _ ?_; k_steps)


end Mine
theorem PySem.Challenge.cw_ys0001_11_holds : PySem.Challenge.rw_ys0001_11.Holds :=
  Mine.holds
