import PyProof.Rows.All
import Wide.All
import OpenK.AllK
import Wide.FinOn
import Lean
import PySem.Challenge.RW_ys0001_09
set_option compiler.extract_closed false
open PySem PySem.W PySem.Spec PySem.Calls PyProof.Rows
set_option Elab.async false
set_option maxRecDepth 100000
set_option maxHeartbeats 8000000
set_option linter.unusedVariables false
set_option linter.unusedSimpArgs false
set_option linter.all false
namespace Mine
noncomputable section
noncomputable def nthS : List Stmt → Nat → Stmt
  | [], _ => default
  | s :: _, 0 => s
  | _ :: r, n + 1 => nthS r n
noncomputable def fdA : Stmt → Arguments
  | .FunctionDef _ a _ _ _ _ _ _ _ _ => a
  | _ => default
noncomputable def fdB : Stmt → List Stmt
  | .FunctionDef _ _ b _ _ _ _ _ _ _ => b
  | .ClassDef _ _ _ b _ _ _ _ _ _ _ => b
  | _ => []
noncomputable def fdS : Stmt → Scope
  | .FunctionDef _ _ _ _ _ _ s _ _ _ => s
  | _ => default
end
end Mine

namespace Mine

theorem code_defR {prog : Program} {w : World} {A₀ A : Around} {s : Shared} {K : Frag} {L : Addr} {h₀ base : Heap} {m mg mb : Str → Option Value} {news : List (Addr × Obj)} {p : Program} {loose : List Str} {mean : ExcName → Option Value}
    {env : Env} {outer : List Env} {R : Result → Shared → Prop} {name qual : Str} {params : Arguments} {body : List Stmt} {scope : Scope} {dV kV doc pm cdv ct oc : Value} {an od : Option Addr} {osl : Array (Option Value)} {f : Addr} {args : Args} {binds : List (Str × Value)}
    (B : Below A₀ base outer h₀) (F : Fr h₀ L s.heap m) (X₀ : K.In h₀) (N : News h₀ L s.heap news) (T : Top p loose mean mg mb h₀) (hA : A.frames = some (env :: outer)) (hf : env.frame = some L) (hke : env.scope.kind = .function)
    (ho : K.lookup f = some ⟨oc, od, .func (fnOf name qual params body scope dV kV doc pm an cdv ct), osl⟩) (hcd : codeIn K cdv qual = true) (hroom : A.depth < recursionLimit)
    (hbind : BindsTo s (fnOf name qual params body scope dV kV doc pm an cdv ct) args binds) (hloc : ∀ y ∈ binds, scope.names.lookup y.1 = some .local)
    (h : ∀ g L' h₁, Fr h₀ L g m → Fr g L' h₁ (fun y => binds.reverse.lookup y) → News g L' h₁ news → Below A base (env :: outer) g → K.In g → Top p loose mean mg mb g →
      (∀ b o, s.heap.get? b = some o → b ∉ news.map (·.1) → g.get? b = some o) → (∀ b o, s.heap.get? b = some o → b < L') →
      wpAny (model prog w) (A.deeper (envOf qual scope L' f cdv)) (execs body (envOf qual scope L' f cdv))
        (fun fl s' => LeaveK h₀ L m g R (match fl with | .ret v => v | _ => .none) s')
        (fun e s' => wpAny (model prog w) (A.deeper (envOf qual scope L' f cdv)) (leaving (envOf qual scope L' f cdv) e) (fun _ s'' => R (.error e) s'') (fun e' s'' => R (.error e') s'') s')
        { s with heap := h₁, toks := s.toks + binds.length })
    (hco : scope.isCoroutine = false) (hgen : scope.isGenerator = false) (hk : scope.kind = .function)
    (hcell : ∀ x ∈ scope.names, x.2 ≠ .cell) : codeAny (model prog w) A (.call (.ref f) args) R s := by
  obtain ⟨FG, BG, st, lv⟩ := groundX (R := R) B F N hA hf hke
  refine codeAny_call_def (fd := fnOf name qual params body scope dV kV doc pm an cdv ct) (body := body) (binds := binds) hroom ((X₀.keeps F.keep) _ _ ho) rfl (T.nolimit.keeps F.keep) (codeRec_of (X₀.keeps F.keep) hcd) rfl hbind hcell hloc (fun h₁ hns hk₁ => ?_) hco hgen hk
  exact wpAny_mono (h _ s.heap.objs.size h₁ FG ⟨hns, fun b o e => hk₁ b o (of_hideAll _ e), Nat.le_of_eq (hideAll_size _ _)⟩
    (fun p hp => ⟨hk₁ _ _ (N p hp).1, Nat.ne_of_lt (Heap.lt_size (N p hp).1), hideAll_none _ (List.mem_map_of_mem hp)⟩) BG (X₀.keeps st) (T.keeps st)
    (fun b o e hb => hideAll_get _ e hb) (fun b o e => Heap.lt_size e)) (fun fl s' hl => lv _ _ hl) fun _ _ y => y


noncomputable def Ctr (prog : Program) (w : World) (K : Frag) (p : Program) (loose : List Str) (mean : ExcName → Option Value) (mg mb : Str → Option Value) (f : Addr) (D U : Nat) (vs : List Value) (pre : List (Addr × Obj)) (Post : Value → List (Addr × Obj) → Prop) : Prop :=
  ∀ (dp un : Nat) (gd : Option (List Code)) (cn : Str) (cs : Scope) (a : Addr) (ccd : Value) (cl : List (Str × Addr)) (outer : List Env) (A₀ : Around) (base h₀ : Heap) (L : Addr) (m : Str → Option Value) (rest : List (Addr × Obj)) (s : Shared)
    (Q E : Value → Shared → Prop),
    Below A₀ base outer h₀ → Fr h₀ L s.heap m → K.In h₀ → News h₀ L s.heap (pre ++ rest) → (∀ q ∈ rest, ∀ r ∈ pre, q.1 ≠ r.1) → Top p loose mean mg mb h₀ → cs.kind = .function → dp + D < recursionLimit → un + U < cLine →
    (∀ v pst h' tk', Post v pst → (∀ q ∈ rest, ∀ r ∈ pst, q.1 ≠ r.1) → Fr h₀ L h' m → News h₀ L h' (pst ++ rest) → Q v { s with heap := h', toks := tk' }) →
    wpAny (model prog w) (ktrTop dp un gd cn cs L a ccd cl outer) (call (.ref f) vs) Q E s

noncomputable def CtrB (prog : Program) (w : World) (K : Frag) (p : Program) (loose : List Str) (mean : ExcName → Option Value) (mg mb : Str → Option Value) (f : Addr) (D U : Nat) (vs : List Value) (pre : List (Addr × Obj)) (Pb : Heap → Prop) (Post : Value → List (Addr × Obj) → Prop) : Prop :=
  ∀ (dp un : Nat) (gd : Option (List Code)) (cn : Str) (cs : Scope) (a : Addr) (ccd : Value) (cl : List (Str × Addr)) (outer : List Env) (A₀ : Around) (base h₀ : Heap) (L : Addr) (m : Str → Option Value) (rest : List (Addr × Obj)) (s : Shared)
    (Q E : Value → Shared → Prop),
    Below A₀ base outer h₀ → Pb base → Fr h₀ L s.heap m → K.In h₀ → News h₀ L s.heap (pre ++ rest) → (∀ q ∈ rest, ∀ r ∈ pre, q.1 ≠ r.1) → Top p loose mean mg mb h₀ → cs.kind = .function → dp + D < recursionLimit → un + U < cLine →
    (∀ v pst h' tk', Post v pst → (∀ q ∈ rest, ∀ r ∈ pst, q.1 ≠ r.1) → Fr h₀ L h' m → News h₀ L h' (pst ++ rest) → Q v { s with heap := h', toks := tk' }) →
    wpAny (model prog w) (ktrTop dp un gd cn cs L a ccd cl outer) (call (.ref f) vs) Q E s

theorem ret_news {h₀ g h h' : Heap} {L L' : Addr} {m' : Str → Option Value} {pre pst rest : List (Addr × Obj)} (kN : News h₀ L h' pst) (Fg : Fr g L' h' m') (hr : ∀ p ∈ rest, g.get? p.1 = some p.2) (N : News h₀ L h (pre ++ rest)) : News h₀ L h' (pst ++ rest) := by
  intro p hp
  rcases List.mem_append.mp hp with hp | hp
  · exact kN p hp
  · exact ⟨Fg.keep _ _ (hr p hp), (N p (List.mem_append_right _ hp)).2⟩
theorem news_left {h₀ h : Heap} {L : Addr} {pre rest : List (Addr × Obj)} (N : News h₀ L h (pre ++ rest)) : News h₀ L h pre := fun p hp => N p (List.mem_append_left _ hp)
theorem rest_kept {h₀ h g : Heap} {L : Addr} {pre rest : List (Addr × Obj)} (N : News h₀ L h (pre ++ rest)) (hd : ∀ q ∈ rest, ∀ r ∈ pre, q.1 ≠ r.1) (k : ∀ b o, h.get? b = some o → b ∉ pre.map (·.1) → g.get? b = some o) : ∀ p ∈ rest, g.get? p.1 = some p.2 := by
  intro p hp
  refine k _ _ (N p (List.mem_append_right _ hp)).1 fun hm => ?_
  obtain ⟨r, hr, e⟩ := List.mem_map.mp hm
  exact hd p hp r hr e.symm


inductive Rest (ads : List Addr) : List (Addr × Obj) → List (Addr × Obj) → Prop
  | nil : Rest ads [] []
  | tail {own : List (Addr × Obj)} : (∀ p ∈ own, p.1 ∉ ads) → Rest ads own own
  | drop {p : Addr × Obj} {l r : List (Addr × Obj)} : p.1 ∈ ads → Rest ads l r → Rest ads (p :: l) r
  | keep {p : Addr × Obj} {l r : List (Addr × Obj)} : p.1 ∉ ads → Rest ads l r → Rest ads (p :: l) (p :: r)
theorem Rest.sub {ads : List Addr} {l r : List (Addr × Obj)} (h : Rest ads l r) : ∀ p ∈ r, p ∈ l := by
  induction h with
  | nil => exact fun _ h => h
  | tail _ => exact fun _ h => h
  | drop _ _ ih => exact fun p hp => .tail _ (ih p hp)
  | keep _ _ ih =>
    intro p hp
    rcases List.mem_cons.mp hp with rfl | hp
    · exact .head _
    · exact .tail _ (ih p hp)
theorem Rest.off {ads : List Addr} {l r : List (Addr × Obj)} (h : Rest ads l r) : ∀ p ∈ r, p.1 ∉ ads := by
  induction h with
  | nil => exact fun _ h => nomatch h
  | tail h => exact h
  | drop _ _ ih => exact ih
  | keep hn _ ih =>
    intro p hp
    rcases List.mem_cons.mp hp with rfl | hp
    · exact hn
    · exact ih p hp
theorem off0 {a : Nat} : a ∉ ([] : List Addr) := List.not_mem_nil
theorem off1 {a b : Nat} {l : List Addr} (h : @Ne Nat a b) (t : a ∉ l) : a ∉ b :: l := by
  intro hm
  rcases List.mem_cons.mp hm with e | hm
  · exact h e
  · exact t hm
theorem own_off {own : List (Addr × Obj)} {adr ads : List Addr} (h : OwnOff own adr) (hs : ∀ b ∈ ads, b ∈ adr) : ∀ p ∈ own, p.1 ∉ ads := fun p hp hm => h p hp _ (hs _ hm) rfl

theorem Ctr.use {prog : Program} {w : World} {K : Frag} {p : Program} {loose : List Str} {mean : ExcName → Option Value} {mg mb : Str → Option Value} {f : Addr} {D U : Nat} {vs : List Value} {pre : List (Addr × Obj)} {Post : Value → List (Addr × Obj) → Prop}
    {dp un : Nat} {gd : Option (List Code)} {cn : Str} {cs : Scope} {a : Addr} {ccd : Value} {cl : List (Str × Addr)} {outer : List Env} {A₀ : Around} {base h₀ : Heap} {L : Addr} {m : Str → Option Value} {news rest : List (Addr × Obj)} {s : Shared} {Q E : Value → Shared → Prop}
    (C : Ctr prog w K p loose mean mg mb f D U vs pre Post) (B : Below A₀ base outer h₀) (F : Fr h₀ L s.heap m) (X : K.In h₀) (N : News h₀ L s.heap news) (T : Top p loose mean mg mb h₀) (hk : cs.kind = .function)
    (hp : ∀ q ∈ pre, q ∈ news) (hR : Rest (pre.map (·.1)) news rest) (hd : dp + D < recursionLimit) (hu : un + U < cLine)
    (ret : ∀ v pst h' tk', Post v pst → (∀ q ∈ rest, ∀ r ∈ pst, q.1 ≠ r.1) → Fr h₀ L h' m → News h₀ L h' (pst ++ rest) → Q v { s with heap := h', toks := tk' }) :
    wpAny (model prog w) (ktrTop dp un gd cn cs L a ccd cl outer) (call (.ref f) vs) Q E s :=
  C _ _ _ _ _ _ _ _ _ _ _ _ _ _ rest _ _ _ B F X (fun q hq => (List.mem_append.mp hq).elim (fun h => N q (hp q h)) fun h => N q (hR.sub q h))
    (fun q hq r hr e => hR.off q hq (List.mem_map.mpr ⟨r, hr, e.symm⟩)) T hk hd hu ret
theorem CtrB.use {prog : Program} {w : World} {K : Frag} {p : Program} {loose : List Str} {mean : ExcName → Option Value} {mg mb : Str → Option Value} {f : Addr} {D U : Nat} {vs : List Value} {pre : List (Addr × Obj)} {Pb : Heap → Prop} {Post : Value → List (Addr × Obj) → Prop}
    {dp un : Nat} {gd : Option (List Code)} {cn : Str} {cs : Scope} {a : Addr} {ccd : Value} {cl : List (Str × Addr)} {outer : List Env} {A₀ : Around} {base h₀ : Heap} {L : Addr} {m : Str → Option Value} {news rest : List (Addr × Obj)} {s : Shared} {Q E : Value → Shared → Prop}
    (C : CtrB prog w K p loose mean mg mb f D U vs pre Pb Post) (B : Below A₀ base outer h₀) (hB : Pb base) (F : Fr h₀ L s.heap m) (X : K.In h₀) (N : News h₀ L s.heap news) (T : Top p loose mean mg mb h₀) (hk : cs.kind = .function)
    (hp : ∀ q ∈ pre, q ∈ news) (hR : Rest (pre.map (·.1)) news rest) (hd : dp + D < recursionLimit) (hu : un + U < cLine)
    (ret : ∀ v pst h' tk', Post v pst → (∀ q ∈ rest, ∀ r ∈ pst, q.1 ≠ r.1) → Fr h₀ L h' m → News h₀ L h' (pst ++ rest) → Q v { s with heap := h', toks := tk' }) :
    wpAny (model prog w) (ktrTop dp un gd cn cs L a ccd cl outer) (call (.ref f) vs) Q E s :=
  C _ _ _ _ _ _ _ _ _ _ _ _ _ _ rest _ _ _ B hB F X (fun q hq => (List.mem_append.mp hq).elim (fun h => N q (hp q h)) fun h => N q (hR.sub q h))
    (fun q hq r hr e => hR.off q hq (List.mem_map.mpr ⟨r, hr, e.symm⟩)) T hk hd hu ret
theorem m_ret {h₀ g h h' : Heap} {L L' : Addr} {m m' : Str → Option Value} {pre pst rest ng : List (Addr × Obj)} {s : Shared} {Q : Value → Shared → Prop} {Post : Value → List (Addr × Obj) → Prop} {v : Value} {tk' : Nat}
    (hret : ∀ v pst h' tk', Post v pst → (∀ q ∈ rest, ∀ r ∈ pst, q.1 ≠ r.1) → Fr h₀ L h' m → News h₀ L h' (pst ++ rest) → Q v { s with heap := h', toks := tk' })
    (Fg : Fr g L' h' m') (Ng : News g L' h' ng) (kF : Fr h₀ L h' m) (kN : News h₀ L h' ng) (hr : ∀ p ∈ rest, g.get? p.1 = some p.2) (N : News h₀ L h (pre ++ rest)) (hs : ∀ p ∈ pst, p ∈ ng) (hP : Post v pst) :
    Q v { s with heap := h', toks := tk' } := by
  refine hret v pst h' tk' hP (fun q hq r hr' e => ?_) kF (ret_news (fun p hp => kN p (hs p hp)) Fg hr N)
  have h1 := hr q hq
  have h2 := (Ng r (hs r hr')).2.2
  rw [e, h2] at h1
  cases h1
theorem news_of {h₀ h : Heap} {L : Addr} {l l' : List (Addr × Obj)} (N : News h₀ L h l) (hs : ∀ p ∈ l', p ∈ l) : News h₀ L h l' := fun p hp => N p (hs p hp)

noncomputable def Hold (P : Prop) : Prop := P
theorem hold {P : Prop} (h : Hold P) : P := h

theorem bits_le {x : Int} {M : Nat} (h : x.natAbs < 2 ^ M) : Builtin.Int.intBits x ≤ M := by
  unfold Builtin.Int.intBits
  by_cases h0 : x = 0
  · simp [h0]
  · have hb : (x == 0) = false := by simpa using h0
    rw [hb]
    have hp : x.natAbs ≠ 0 := by lia
    have := (Nat.log2_lt hp).mpr h
    simp only [Bool.false_eq_true, if_false]
    lia
theorem mulOk {a b : Int} (M N : Nat) (ha : a.natAbs < 2 ^ M) (hb : b.natAbs < 2 ^ N) (h : M + N ≤ 134217728) : IntMulOk a b := by
  have h1 := bits_le ha
  have h2 := bits_le hb
  unfold IntMulOk
  intro hc
  simp only [Bool.and_eq_true] at hc
  have h3 := hc.2
  unfold Builtin.Int.intTooBig at h3
  rw [decide_eq_true_eq, bitsLine_eq] at h3
  lia
theorem log2_small {x : Int} (h : x.natAbs < 18446744073709551616) : x.natAbs.log2 < 9000 := by
  by_cases hz : x.natAbs = 0
  · rw [hz]; decide
  · have := (Nat.log2_lt (k := 64) hz).mpr h
    lia
theorem log2_of {x : Int} {M : Nat} (h : x.natAbs < 2 ^ M) (hM : M ≤ 9000) (h0 : 0 < M) : x.natAbs.log2 < 9000 := by
  by_cases hz : x.natAbs = 0
  · rw [hz]; decide
  · exact Nat.lt_of_lt_of_le ((Nat.log2_lt hz).mpr h) hM

section
variable {prog : Program} {w : World} {A : Around} {E : Value → Shared → Prop} {s : Shared} {env : Env} {h₀ : Heap} {x : Str} {body : List Stmt} {Q : Flow → Shared → Prop}
noncomputable def MPost {σ : Type} (h₀ : Heap) (L : Addr) (Led : σ → List (Addr × Obj)) (ps : σ → List (Str × Value)) (Facts : σ → Prop) (x : Str) (stored : List Str) (m₀ : Str → Option Value) (P Pe : σ → Prop) (own : List (Addr × Obj)) (adr : List Addr) (s₁ : Shared) (Q : Flow → Shared → Prop) (f : Flow) (s₂ : Shared) : Prop :=
  match f with
  | .ret v => Q (.ret v) s₂
  | .brk => InvEndN h₀ L (KstS Led ps Facts x stored m₀ (fun _ => Pe) []) own adr s₁ s₂
  | _ => InvEndN h₀ L (KstS Led ps Facts x stored m₀ (fun _ => P) []) own adr s₁ s₂
theorem m_range {σ : Type} {r : Addr} {a₀ b₀ : Int} {t₀ u₀ v₀ : Tok} {n : Nat} {m₀ : Str → Option Value} {news : List (Addr × Obj)} (Led : σ → List (Addr × Obj)) (ps : σ → List (Str × Value)) (Facts : σ → Prop) (stored : List Str) (P : Nat → σ → Prop) (Pe : σ → Prop) (c₀ : σ)
    (hh : A.handled = none) (hr : IsRange s.heap r a₀ b₀ 1 t₀ u₀ v₀) (hsmall : Builtin.Range.small a₀ b₀ 1 = true) (hn : Builtin.Range.rangeSize a₀ b₀ 1 = (n : Int)) (F : Fr h₀ env.locals s.heap m₀) (N : News h₀ env.locals s.heap news) (hL : ∀ p ∈ Led c₀, p ∈ news)
    (hf : Facts c₀) (hk : ∀ p ∈ ps c₀, m₀ p.1 = some p.2) (hp : P 0 c₀) (hend : ∀ c, P n c → Pe c)
    (turn : ∀ (c : σ) (i : Nat) (k : Int) t (u : Str → Option Value) h tk own, k = a₀ + (i : Int) → i < n → OwnOff own ((Led c₀).map (·.1)) → Facts c → P i c →
      Fr h₀ env.locals h (fun y => if y = x then some (.int k t) else kstB (fun z => if stored.contains z then u z else m₀ z) (ps c) y) → News h₀ env.locals h (Led c ++ own) →
      wpAny (model prog w) A (execs body env) (MPost h₀ env.locals Led ps Facts x stored m₀ (P (i + 1)) Pe own ((Led c₀).map (·.1)) { s with heap := h, toks := tk } Q) E { s with heap := h, toks := tk })
    (done : ∀ (c : σ) (u : Str → Option Value) h tk, Facts c → Pe c → Fr h₀ env.locals h (fun y => if y = x then u y else kstB (fun z => if stored.contains z then u z else m₀ z) (ps c) y) → News h₀ env.locals h (Led c) → Q .next { s with heap := h, toks := tk }) :
    wpAny (model prog w) A (pyIter (.ref r)) (fun it s₂ => LoopAtV prog w A h₀ env x body Q E it s₂) E s := by
  refine kst_range (n := n) Led ps Facts stored (fun pre c => P pre.length c) c₀ hh hr hsmall hn F (fun p hp => N p (hL p hp)) hf hk hp ?_ fun c u h tk hf' hp' F' N' => done c u h tk hf' (hend c (by simpa [rangeKs_length] using hp')) F' N'
  intro c pre k t u h tk own hk' hlt hoff hf' hp' F' N'
  refine wpAny_mono (turn c pre.length k t u h tk own hk' hlt hoff hf' hp' F' N') (fun f s₂ q => ?_) fun _ _ x => x
  have up : ∀ {P' : σ → Prop}, InvEndN h₀ env.locals (KstS Led ps Facts x stored m₀ (fun _ => P') []) own ((Led c₀).map (·.1)) { s with heap := h, toks := tk } s₂ →
      ∃ c h' tk' m' news', s₂ = { s with heap := h', toks := tk' } ∧ Fr h₀ env.locals h' m' ∧ News h₀ env.locals h' news' ∧ (∀ p ∈ Led c, p ∈ news') ∧ (∀ p ∈ own, p ∈ news') ∧ (Led c).map (·.1) = (Led c₀).map (·.1) ∧ Facts c ∧ (∀ p ∈ ps c, m' p.1 = some p.2) ∧ (∀ z, z ≠ x → (∀ p ∈ ps c, z ≠ p.1) → stored.contains z = false → m' z = m₀ z) ∧ P' c := by
    rintro P' ⟨h', tk', m', news', nx, e, F'', N'', hn', ho, ha, c', rfl, hfc, h1, h2, hpc⟩
    exact ⟨c', h', tk', m', news', e, F'', N'', hn', ho, ha, hfc, h1, h2, hpc⟩
  have nxt : InvEndN h₀ env.locals (KstS Led ps Facts x stored m₀ (fun _ => P (pre.length + 1)) []) own ((Led c₀).map (·.1)) { s with heap := h, toks := tk } s₂ → InvEndN h₀ env.locals (KstS Led ps Facts x stored m₀ (fun pre c => P pre.length c) (pre ++ [k])) own ((Led c₀).map (·.1)) { s with heap := h, toks := tk } s₂ := by
    intro q
    obtain ⟨c', h', tk', m', news', e, F'', N'', hn', ho, ha, hfc, h1, h2, hpc⟩ := up q
    exact ⟨h', tk', m', news', Led c', e, F'', N'', hn', ho, ha, c', rfl, hfc, h1, h2, by simpa using hpc⟩
  cases f with
  | ret v => exact q
  | brk =>
    obtain ⟨c', h', tk', m', news', rfl, F'', N'', hn', ho, ha, hfc, h1, h2, hpc⟩ := up q
    exact done c' m' h' tk' hfc hpc (kst_frOut h1 h2 F'') (fun p hp => N'' p (hn' p hp))
  | next => exact nxt q
  | cont => exact nxt q
theorem m_end {σ : Type} {Led : σ → List (Addr × Obj)} {ps : σ → List (Str × Value)} {Facts : σ → Prop} {stored : List Str} {m₀ : Str → Option Value} {P : σ → Prop} (c : σ) {L : Addr} {m' : Str → Option Value} {own news' : List (Addr × Obj)} {adr : List Addr} {s₁ : Shared} {h' : Heap} {tk : Nat}
    (F : Fr h₀ L h' m') (N : News h₀ L h' news') (hn : ∀ p ∈ Led c, p ∈ news') (ho : ∀ p ∈ own, p ∈ news') (ha : (Led c).map (·.1) = adr) (hf : Facts c) (hk : ∀ p ∈ ps c, m' p.1 = some p.2) (hr : ∀ z, z ≠ x → (∀ p ∈ ps c, z ≠ p.1) → stored.contains z = false → m' z = m₀ z) (hp : P c) :
    InvEndN h₀ L (KstS Led ps Facts x stored m₀ (fun _ => P) []) own adr s₁ { s₁ with heap := h', toks := tk } :=
  kst_end c F N hn ho ha hf hk hr hp
end

noncomputable def JEnd {σ : Type} (h₀ : Heap) (L : Addr) (Led : σ → List (Addr × Obj)) (ps : σ → List (Str × Value)) (stored : List Str) (m₀ : Str → Option Value) (P : σ → Prop) (s₁ s₂ : Shared) : Prop :=
  ∃ (c : σ) (h' : Heap) (tk : Nat) (m' : Str → Option Value) (news' : List (Addr × Obj)), s₂ = { s₁ with heap := h', toks := tk } ∧ Fr h₀ L h' m' ∧ News h₀ L h' news' ∧ (∀ p ∈ Led c, p ∈ news') ∧ (∀ p ∈ ps c, m' p.1 = some p.2) ∧ (∀ z, (∀ p ∈ ps c, z ≠ p.1) → stored.contains z = false → m' z = m₀ z) ∧ P c
noncomputable def JPost {σ : Type} (h₀ : Heap) (L : Addr) (Led : σ → List (Addr × Obj)) (ps : σ → List (Str × Value)) (stored : List Str) (m₀ : Str → Option Value) (P : σ → Prop) (s₁ : Shared) (Q : Flow → Shared → Prop) (f : Flow) (s₂ : Shared) : Prop :=
  match f with
  | .next => JEnd h₀ L Led ps stored m₀ P s₁ s₂
  | f => Q f s₂
theorem m_join {M : Model} {A : Around} {E : Value → Shared → Prop} {s : Shared} {h₀ : Heap} {L : Addr} {Q : Flow → Shared → Prop} {t : Sem Flow} {σ : Type} {m₀ : Str → Option Value} (Led : σ → List (Addr × Obj)) (ps : σ → List (Str × Value)) (stored : List Str) (P : σ → Prop)
    (F : Fr h₀ L s.heap m₀)
    (h1 : wpAny M A t (JPost h₀ L Led ps stored m₀ P s Q) E s)
    (h2 : ∀ c (u : Str → Option Value) h tk, P c → Fr h₀ L h (kstB (fun z => if stored.contains z then u z else m₀ z) (ps c)) → News h₀ L h (Led c) → Q .next { s with heap := h, toks := tk }) :
    wpAny M A t Q E s := by
  refine wpAny_mono h1 (fun f s' hj => ?_) fun _ _ x => x
  cases f with
  | next =>
    obtain ⟨c, h', tk, m', news', rfl, F', N', hn, hk, hr, hP⟩ := hj
    exact h2 c m' h' tk hP (ksw_fr hk hr F') (fun p hp => N' p (hn p hp))
  | brk => exact hj
  | cont => exact hj
  | ret v => exact hj
theorem m_jend {σ : Type} {h₀ : Heap} {L : Addr} {Led : σ → List (Addr × Obj)} {ps : σ → List (Str × Value)} {stored : List Str} {m₀ : Str → Option Value} {P : σ → Prop} {s₁ : Shared} (c : σ) {h' : Heap} {tk : Nat} {m' : Str → Option Value} {news' : List (Addr × Obj)}
    (F : Fr h₀ L h' m') (N : News h₀ L h' news') (hn : ∀ p ∈ Led c, p ∈ news') (hk : ∀ p ∈ ps c, m' p.1 = some p.2) (hr : ∀ z, (∀ p ∈ ps c, z ≠ p.1) → stored.contains z = false → m' z = m₀ z) (hP : P c) :
    JEnd h₀ L Led ps stored m₀ P s₁ { s₁ with heap := h', toks := tk } := ⟨c, h', tk, m', news', rfl, F, N, hn, hk, hr, hP⟩

structure StT where
  i : Int
  t : Tok
  n : Nat
  vs : List Value
  ns : List Int
  n2 : Nat
noncomputable abbrev StL (st c : Nat) (S : StT) : List (Addr × Obj) := [(st, listOf #[.int S.i S.t, .ref c] S.n), (c, listOf S.vs.toArray S.n2)]

inductive PInt (z : Int) (l0 : List (Addr × Obj)) : Value → List (Addr × Obj) → Prop
  | mk (tr : Tok) : PInt z l0 (.int z tr) l0
theorem PInt.of {z z' : Int} {l0 : List (Addr × Obj)} {tr : Tok} (h : z' = z) : PInt z l0 (.int z' tr) l0 := h ▸ .mk tr
inductive PUnb (n z : Int) (l0 : List (Addr × Obj)) : Value → List (Addr × Obj) → Prop
  | mk (r : Int) (tr : Tok) (h0 : 0 ≤ r) (h1 : r < n) (h2 : n ∣ r - z) : PUnb n z l0 (.int r tr) l0
inductive PByt (ks : List Int) (l0 : List (Addr × Obj)) : Value → List (Addr × Obj) → Prop
  | mk (b : Array UInt8) (tb : Tok) (h : KBw.bInts b = ks) : PByt ks l0 (.bytes b tb) l0
inductive PStr (x : Str) (l0 : List (Addr × Obj)) : Value → List (Addr × Obj) → Prop
  | mk (tk : Tok) : PStr x l0 (.str x tk) l0
noncomputable def sepR (a : Nat) : List (Addr × Obj) → Prop → Prop
  | [], P => P
  | r :: rs, P => @Ne Nat a r.1 ∧ sepR a rs P
noncomputable def sepL (rs : List (Addr × Obj)) : List (Addr × Obj) → Prop
  | [] => True
  | p :: l => sepR p.1 rs (sepL rs l)
theorem sepR_of {a : Nat} {P : Prop} (h : P) : ∀ {rs : List (Addr × Obj)}, (∀ r ∈ rs, a ≠ r.1) → sepR a rs P
  | [], _ => h
  | r :: _, k => ⟨k r (.head _), sepR_of h fun q hq => k q (.tail _ hq)⟩
theorem sepL_of {rs : List (Addr × Obj)} : ∀ {l : List (Addr × Obj)}, (∀ q ∈ l, ∀ r ∈ rs, q.1 ≠ r.1) → sepL rs l
  | [], _ => trivial
  | p :: _, h => sepR_of (sepL_of fun q hq => h q (.tail _ hq)) (h p (.head _))
theorem room0 {dp D R : Nat} (hd : dp + D < R) : dp < R := Nat.lt_of_le_of_lt (Nat.le_add_right _ _) hd
theorem roomj {dp D k R : Nat} (hd : dp + D < R) (h : k ≤ D) : dp + k < R := by lia
theorem roomk2 {dp D d k j R : Nat} (hd : dp + D < R) (h : j + k + d ≤ D) : dp + j + k + d < R := by lia
theorem roomk {dp D d k R : Nat} (hd : dp + D < R) (h : k + d ≤ D) : dp + k + d < R := by lia

end Mine

namespace Mine
noncomputable def Bd (k : Nat) (x : Int) : Prop := x.natAbs < 2 ^ k
theorem Bd.mono {j k : Nat} {x : Int} (h : Bd j x) (hk : j ≤ k) : Bd k x := Nat.lt_of_lt_of_le h (Nat.pow_le_pow_right (by decide) hk)
theorem Bd.small {k : Nat} {x : Int} (h : x.natAbs < 4294967296) (hk : 32 ≤ k) : Bd k x := Nat.lt_of_lt_of_le h (Nat.pow_le_pow_right (by decide) hk : 2 ^ 32 ≤ 2 ^ k)
theorem Bd.of_lt {k : Nat} {x y : Int} (h0 : 0 ≤ x) (h1 : x ≤ y) (h : Bd k y) : Bd k x := by
  unfold Bd at *; lia
theorem Bd.mul {j k : Nat} {a b : Int} (h1 : Bd j a) (h2 : Bd k b) : Bd (j + k) (a * b) := by
  unfold Bd at *
  rw [Int.natAbs_mul, Nat.pow_add]
  exact Nat.mul_lt_mul'' h1 h2
theorem Bd.mul2 {k : Nat} {a b : Int} (h1 : Bd (k / 2) a) (h2 : Bd (k / 2) b) : Bd k (a * b) := (h1.mul h2).mono (by lia)
theorem Bd.mulS {k : Nat} {a b : Int} (h1 : Bd (k - 32) a) (h2 : Bd 32 b) (hk : 32 ≤ k) : Bd k (a * b) := (h1.mul h2).mono (by lia)
theorem Bd.add {k : Nat} {a b : Int} (h1 : Bd (k - 1) a) (h2 : Bd (k - 1) b) (hk : 0 < k) : Bd k (a + b) := by
  unfold Bd at *
  have e : k = (k - 1) + 1 := by lia
  rw [e, Nat.pow_succ]
  lia
theorem Bd.sub {k : Nat} {a b : Int} (h1 : Bd (k - 1) a) (h2 : Bd (k - 1) b) (hk : 0 < k) : Bd k (a - b) := by
  unfold Bd at *
  have e : k = (k - 1) + 1 := by lia
  rw [e, Nat.pow_succ]
  lia
theorem Bd.neg {k : Nat} {a : Int} (h1 : Bd k a) : Bd k (-a) := by
  unfold Bd at *; lia
theorem Bd.lt {k : Nat} {x : Int} (h : Bd k x) : x < 2 ^ k := by
  unfold Bd at h
  have h5 : ((2 : Nat) ^ k : Nat) = (2 : Int) ^ k := by simp
  lia
theorem Bd.of_nn {k : Nat} {x : Int} (h0 : 0 ≤ x) (h : x < 2 ^ k) : Bd k x := by
  unfold Bd
  have h5 : ((2 : Nat) ^ k : Nat) = (2 : Int) ^ k := by simp
  lia
noncomputable def GInv (T : Nat) (g : Nat) (i : Nat) (a b : Int) : Prop :=
  0 ≤ a ∧ 0 ≤ b ∧ Int.gcd a b = g ∧ (0 < i → b ≤ a) ∧ (a * b) * 2 ^ (i - 1) < 2 ^ (T - 1)
theorem fmod_nn {a b : Int} (hb : 0 < b) : 0 ≤ a.fmod b ∧ a.fmod b < b := by
  rw [Int.fmod_eq_emod_of_nonneg _ (Int.le_of_lt hb)]
  exact ⟨Int.emod_nonneg _ (by lia), Int.emod_lt_of_pos _ hb⟩
theorem gcd_fmod {a b : Int} (hb : 0 < b) : Int.gcd b (a.fmod b) = Int.gcd a b := by
  rw [Int.fmod_eq_emod_of_nonneg _ (Int.le_of_lt hb), Int.gcd_comm, Int.emod_def, Int.gcd_sub_mul_left_left]
theorem GInv.start {T : Nat} {a b : Int} (ha : 0 ≤ a) (hb : 0 ≤ b) (h : a * b < 2 ^ (T - 1)) : GInv T (Int.gcd a b) 0 a b :=
  ⟨ha, hb, rfl, fun h => absurd h (Nat.lt_irrefl _), by simpa using h⟩
theorem GInv.step {T g i : Nat} {a b : Int} (h : GInv T g i a b) (hb0 : b ≠ 0) : GInv T g (i + 1) b (a.fmod b) := by
  obtain ⟨ha, hb, hg, hle, hp⟩ := h
  have hb' : 0 < b := by lia
  obtain ⟨h1, h2⟩ := fmod_nn (a := a) hb'
  refine ⟨hb, h1, (gcd_fmod hb').trans hg, fun _ => Int.le_of_lt h2, ?_⟩
  rw [Nat.add_sub_cancel]
  by_cases hi : i = 0
  · subst hi
    simp only [Nat.zero_sub, Int.pow_zero, Int.mul_one] at hp ⊢
    refine Int.lt_of_le_of_lt ?_ hp
    rw [Int.mul_comm a b]
    refine Int.mul_le_mul_of_nonneg_left ?_ hb
    rw [Int.fmod_eq_emod_of_nonneg _ hb]
    have hq := Int.emod_add_mul_ediv a b
    have : 0 ≤ b * (a / b) := Int.mul_nonneg hb (Int.ediv_nonneg ha hb)
    lia
  · have hle' := hle (by lia)
    have e : i = (i - 1) + 1 := by lia
    have h3 : 2 * a.fmod b ≤ a := by
      rw [Int.fmod_eq_emod_of_nonneg _ hb]
      rw [Int.fmod_eq_emod_of_nonneg _ hb] at h2
      have hq := Int.emod_add_mul_ediv a b
      have hq1 : 1 ≤ a / b := by
        rw [Int.le_ediv_iff_mul_le hb']; lia
      have : b * 1 ≤ b * (a / b) := Int.mul_le_mul_of_nonneg_left hq1 hb
      lia
    have h4 : (b * a.fmod b) * 2 ≤ a * b := by
      have := Int.mul_le_mul_of_nonneg_left h3 hb
      rw [Int.mul_comm a b]
      calc (b * a.fmod b) * 2 = b * (2 * a.fmod b) := by rw [Int.mul_assoc, Int.mul_comm (a.fmod b)]
        _ ≤ b * a := this
    have h5 : (b * a.fmod b) * 2 ^ i = ((b * a.fmod b) * 2) * 2 ^ (i - 1) := by
      conv => lhs; rw [e]
      rw [Int.pow_succ]; simp only [Int.mul_assoc, Int.mul_comm]
    rw [h5]
    refine Int.lt_of_le_of_lt (Int.mul_le_mul_of_nonneg_right h4 ?_) hp
    exact Int.le_of_lt (Int.pow_pos (by decide))
theorem GInv.last {T g : Nat} {a b : Int} (hT : 0 < T) (h : GInv T g T a b) : b = 0 := by
  obtain ⟨ha, hb, hg, hle, hp⟩ := h
  have hle' := hle hT
  false_or_by_contra
  have h1 : 1 ≤ b := by lia
  have h2 : 1 ≤ a := by lia
  have h3 : 1 ≤ a * b := by
    have := Int.mul_le_mul h2 h1 (by decide) ha
    simpa using this
  have h4 : (2 : Int) ^ (T - 1) ≤ a * b * 2 ^ (T - 1) := by
    have := Int.mul_le_mul_of_nonneg_right (c := (2 : Int) ^ (T - 1)) h3 (Int.le_of_lt (Int.pow_pos (by decide)))
    simpa using this
  lia
theorem GInv.out {T g i : Nat} {a : Int} (h : GInv T g i a 0) : a = (g : Int) := by
  obtain ⟨ha, _, hg, _, _⟩ := h
  rw [Int.gcd_zero_right] at hg
  lia
theorem getD_all {l : List Int} {P : Int → Prop} (h : ∀ x ∈ l, P x) (h0 : P 0) (k : Nat) : P (l.getD k 0) := by
  rw [List.getD_eq_getElem?_getD]
  cases e : l[k]? with
  | none => exact h0
  | some x => exact h x (List.mem_of_getElem? e)
theorem pow_lt_pow {a : Int} {m n : Nat} (h1 : 1 ≤ a) (h : m ≤ n) : a ^ m ≤ a ^ n := by
  obtain ⟨k, rfl⟩ := Nat.exists_eq_add_of_le h
  rw [Int.pow_add]
  have h2 : 1 ≤ a ^ k := by
    have : 0 < a ^ k := Int.pow_pos (show 0 < a by lia)
    lia
  have h3 : 0 ≤ a ^ m := Int.le_of_lt (Int.pow_pos (show 0 < a by lia))
  have := Int.mul_le_mul_of_nonneg_left h2 h3
  lia
theorem GInv.startB {a b : Int} (ha : 0 ≤ a) (hb : 0 ≤ b) (h1 : Bd 2490 a) (h2 : Bd 2490 b) : GInv 5000 (Int.gcd a b) 0 a b :=
  GInv.start ha hb (((h1.mul h2).mono (by decide) : Bd 4999 (a * b)).lt)
theorem Bd.small' {k : Nat} {x : Int} (hk : 32 ≤ k) (h : x.natAbs < 4294967296) : Bd k x := Bd.small h hk
theorem Bd.mulS' {k : Nat} {a b : Int} (hk : 32 ≤ k) (h2 : Bd 32 b) (h1 : Bd (k - 32) a) : Bd k (a * b) := Bd.mulS h1 h2 hk
theorem Bd.add' {k : Nat} {a b : Int} (hk : 0 < k) (h1 : Bd (k - 1) a) (h2 : Bd (k - 1) b) : Bd k (a + b) := Bd.add h1 h2 hk
theorem Bd.sub' {k : Nat} {a b : Int} (hk : 0 < k) (h1 : Bd (k - 1) a) (h2 : Bd (k - 1) b) : Bd k (a - b) := Bd.sub h1 h2 hk
end Mine

namespace Mine
structure ERun (oa ob a b x lx y ly : Int) : Prop where
  a0 : 0 < a
  ba : b < a
  aob : a ≤ ob
  altx : (0 ≤ x ∧ lx ≤ 0 ∧ a * x - b * lx = ob) ∨ (x ≤ 0 ∧ 0 ≤ lx ∧ b * lx - a * x = ob)
  alty : 0 ≤ oa → (0 ≤ y ∧ ly ≤ 0 ∧ a * y - b * ly = oa) ∨ (y ≤ 0 ∧ 0 ≤ ly ∧ b * ly - a * y = oa)
  lx1 : -ob ≤ lx
  lx2 : lx ≤ ob
  ly1 : 0 ≤ oa → -oa ≤ ly
  ly2 : 0 ≤ oa → ly ≤ oa ∨ ly ≤ 1
  lx3 : 2 * lx ≤ ob
  lx4 : -ob ≤ 2 * lx
structure EInv (oa ob a b x lx y ly : Int) : Prop where
  hb : 0 ≤ b
  bz1 : lx * oa + ly * ob = a
  bz2 : x * oa + y * ob = b
  g : Int.gcd a b = Int.gcd oa ob
  st : (a = oa ∧ b = ob ∧ x = 0 ∧ lx = 1 ∧ y = 1 ∧ ly = 0) ∨ ERun oa ob a b x lx y ly
theorem EInv.start {oa ob : Int} (hb : 0 ≤ ob) : EInv oa ob oa ob 0 1 1 0 :=
  ⟨hb, by lia, by lia, rfl, .inl ⟨rfl, rfl, rfl, rfl, rfl, rfl⟩⟩
theorem fdiv_fmod (a b : Int) : b * a.fdiv b + a.fmod b = a := by
  have := Int.mul_fdiv_add_fmod a b
  lia
theorem mul_nn_le {a x o : Int} (ha : 0 < a) (hx : 0 ≤ x) (h : a * x ≤ o) : x ≤ o := by
  have : 1 * x ≤ a * x := Int.mul_le_mul_of_nonneg_right (by lia) hx
  lia
theorem EInv.step {oa ob a b x lx y ly : Int} (h : EInv oa ob a b x lx y ly) (h0 : b ≠ 0) :
    EInv oa ob b (a.fmod b) (lx - a.fdiv b * x) x (ly - a.fdiv b * y) y := by
  obtain ⟨hb, bz1, bz2, hg, st⟩ := h
  have hb0 : 0 < b := by lia
  have hm : 0 ≤ a.fmod b ∧ a.fmod b < b := by
    rw [Int.fmod_eq_emod_of_nonneg _ hb]
    exact ⟨Int.emod_nonneg _ h0, Int.emod_lt_of_pos _ hb0⟩
  have hq := fdiv_fmod a b
  generalize hQ : a.fdiv b = q at hq ⊢
  generalize hR : a.fmod b = r at hq hm ⊢
  have hgr : Int.gcd b r = Int.gcd oa ob := by
    rw [← hg, ← hq, Int.add_comm (b * q) r]
    rw [Int.gcd_comm b r, Int.gcd_add_mul_left_left]
  refine ⟨hm.1, bz2, ?_, hgr, .inr ?_⟩
  · have e1 : (lx - q * x) * oa + (ly - q * y) * ob = (lx * oa + ly * ob) - q * (x * oa + y * ob) := by
      simp only [Int.sub_mul, Int.mul_add, Int.mul_assoc]; lia
    rw [e1, bz1, bz2, Int.mul_comm q b]; lia
  · clear bz1 bz2 hg hgr
    have expand : ∀ u v : Int, b * (u - q * v) - r * v = b * u - (b * q + r) * v := by
      intro u v
      simp only [Int.mul_sub, Int.add_mul, Int.mul_assoc]; lia
    rcases st with ⟨rfl, rfl, rfl, rfl, rfl, rfl⟩ | R
    · refine ⟨hb0, hm.2, Int.le_refl _, .inl ⟨by lia, by lia, by lia⟩, fun ho => .inr ?_, by lia, by lia, fun ho => by lia, fun _ => .inr (Int.le_refl _), by lia, by lia⟩
      have hq0 : 0 ≤ q := by
        rw [← hQ, Int.fdiv_eq_ediv_of_nonneg _ hb]
        exact Int.ediv_nonneg ho hb
      refine ⟨by lia, by lia, ?_⟩
      simp only [Int.mul_one, Int.zero_sub, Int.mul_neg]; lia
    · have hq1 : 1 ≤ q := by
        rw [← hQ, Int.fdiv_eq_ediv_of_nonneg _ hb, Int.le_ediv_iff_mul_le hb0]
        have := R.ba; lia
      have sgn : ∀ {u v : Int}, (0 ≤ u ∧ v ≤ 0) → v - q * u ≤ 0 := by
        rintro u v ⟨h1, h2⟩
        have : 0 ≤ q * u := Int.mul_nonneg (by lia) h1
        lia
      have sgn' : ∀ {u v : Int}, (u ≤ 0 ∧ 0 ≤ v) → 0 ≤ v - q * u := by
        rintro u v ⟨h1, h2⟩
        have : 0 ≤ q * (-u) := Int.mul_nonneg (by lia) (by lia)
        rw [Int.mul_neg] at this
        lia
      have bdx : -ob ≤ x ∧ x ≤ ob := by
        clear hq hm sgn sgn' expand hq1
        rcases R.altx with ⟨h1, h2, h3⟩ | ⟨h1, h2, h3⟩
        · have h4 : 0 ≤ b * (-lx) := Int.mul_nonneg hb (by lia)
          rw [Int.mul_neg] at h4
          have := mul_nn_le R.a0 h1 (o := ob) (by lia)
          lia
        · have h4 : 0 ≤ b * lx := Int.mul_nonneg hb h2
          have := mul_nn_le R.a0 (x := -x) (o := ob) (by lia) (by rw [Int.mul_neg]; lia)
          lia
      have bdy : 0 ≤ oa → -oa ≤ y ∧ y ≤ oa := by
        clear hq hm sgn sgn' expand hq1 bdx
        intro ho
        rcases R.alty ho with ⟨h1, h2, h3⟩ | ⟨h1, h2, h3⟩
        · have h4 : 0 ≤ b * (-ly) := Int.mul_nonneg hb (by lia)
          rw [Int.mul_neg] at h4
          have := mul_nn_le R.a0 h1 (o := oa) (by lia)
          lia
        · have h4 : 0 ≤ b * ly := Int.mul_nonneg hb h2
          have := mul_nn_le R.a0 (x := -y) (o := oa) (by lia) (by rw [Int.mul_neg]; lia)
          lia
      have := R.ba
      have := R.aob
      have two : ∀ z : Int, 0 ≤ z → a * z ≤ ob → 2 * z ≤ ob := fun z hz h => by
        have : 2 * z ≤ a * z := Int.mul_le_mul_of_nonneg_right (by lia) hz
        lia
      have b2x : 2 * x ≤ ob ∧ -ob ≤ 2 * x := by
        clear hq hm sgn sgn' expand hq1 bdx bdy
        rcases R.altx with ⟨h1, h2, h3⟩ | ⟨h1, h2, h3⟩
        · have h4 : 0 ≤ b * (-lx) := Int.mul_nonneg hb (by lia)
          rw [Int.mul_neg] at h4
          have := two x h1 (by lia)
          lia
        · have h4 : 0 ≤ b * lx := Int.mul_nonneg hb h2
          have := two (-x) (by lia) (by rw [Int.mul_neg]; lia)
          lia
      refine ⟨hb0, hm.2, by lia, ?_, ?_, bdx.1, bdx.2, fun ho => (bdy ho).1, fun ho => .inl (bdy ho).2, b2x.1, b2x.2⟩
      · rcases R.altx with ⟨h1, h2, h3⟩ | ⟨h1, h2, h3⟩
        · refine .inr ⟨sgn ⟨h1, h2⟩, h1, ?_⟩
          have := expand lx x
          rw [hq] at this
          lia
        · refine .inl ⟨sgn' ⟨h1, h2⟩, h1, ?_⟩
          have := expand lx x
          rw [hq] at this
          lia
      · intro ho
        rcases R.alty ho with ⟨h1, h2, h3⟩ | ⟨h1, h2, h3⟩
        · refine .inr ⟨sgn ⟨h1, h2⟩, h1, ?_⟩
          have := expand ly y
          rw [hq] at this
          lia
        · refine .inl ⟨sgn' ⟨h1, h2⟩, h1, ?_⟩
          have := expand ly y
          rw [hq] at this
          lia
theorem natAbs_mul_lt {a b : Int} {M N : Nat} (h1 : a.natAbs < 2 ^ M) (h2 : b.natAbs < 2 ^ N) : (a * b).natAbs < 2 ^ (M + N) := by
  rw [Int.natAbs_mul, Nat.pow_add]
  exact Nat.mul_lt_mul'' h1 h2
theorem EInv.bd {oa ob a b x lx y ly : Int} {N : Nat} (h : EInv oa ob a b x lx y ly) (h1 : Bd N oa) (h2 : Bd N ob) (h0 : b ≠ 0) :
    (a.fdiv b).natAbs < 2 ^ (N + 1) ∧ x.natAbs < 2 ^ N ∧ y.natAbs < 2 ^ (N + N + 1) := by
  unfold Bd at h1 h2
  obtain ⟨hb, bz1, bz2, hg, st⟩ := h
  clear bz1 hg
  have hp : 0 < 2 ^ N := Nat.pow_pos (by decide)
  have ha : a.natAbs < 2 ^ N := by
    clear bz2
    rcases st with ⟨rfl, _⟩ | R
    · exact h1
    · have := R.a0; have := R.aob; lia
  have hx : x.natAbs < 2 ^ N := by
    clear bz2 h1 ha
    rcases st with ⟨_, _, rfl, _⟩ | R
    · simpa using hp
    · have ho : 0 < ob := by have := R.a0; have := R.aob; lia
      rcases R.altx with ⟨k1, k2, k3⟩ | ⟨k1, k2, k3⟩
      · have h4 : 0 ≤ b * (-lx) := Int.mul_nonneg hb (by lia)
        rw [Int.mul_neg] at h4
        have := mul_nn_le R.a0 k1 (o := ob) (by lia)
        lia
      · have h4 : 0 ≤ b * lx := Int.mul_nonneg hb k2
        have := mul_nn_le R.a0 (x := -x) (o := ob) (by lia) (by rw [Int.mul_neg]; lia)
        lia
  refine ⟨?_, hx, ?_⟩
  · clear bz2 h1 hx
    have hq := fdiv_fmod a b
    have hm : 0 ≤ a.fmod b ∧ a.fmod b < b := by
      rw [Int.fmod_eq_emod_of_nonneg _ hb]
      exact ⟨Int.emod_nonneg _ h0, Int.emod_lt_of_pos _ (by lia)⟩
    generalize a.fdiv b = q at hq ⊢
    generalize a.fmod b = r at hq hm
    have hbl : b ≤ ob ∧ 0 < b := by
      rcases st with ⟨_, rfl, _⟩ | R
      · exact ⟨Int.le_refl _, by lia⟩
      · have := R.ba; have := R.aob; lia
    have e : (b * q).natAbs = b.natAbs * q.natAbs := Int.natAbs_mul ..
    have h5 : 1 * q.natAbs ≤ b.natAbs * q.natAbs := Nat.mul_le_mul_right _ (by lia)
    have h6 : (b * q).natAbs < 2 ^ N + 2 ^ N := by lia
    rw [Nat.pow_succ]; lia
  · have ho : 0 < ob ∨ ob = 0 := by
      clear bz2 h1 h2 hx ha
      rcases st with ⟨_, rfl, _⟩ | R
      · lia
      · have := R.a0; have := R.aob; lia
    rcases ho with ho | ho
    · have hbl : b ≤ ob := by
        clear bz2 h1 h2 hx ha
        rcases st with ⟨_, rfl, _⟩ | R
        · exact Int.le_refl _
        · have := R.ba; have := R.aob; lia
      have e : (y * ob).natAbs = y.natAbs * ob.natAbs := Int.natAbs_mul ..
      have h5 : y.natAbs * 1 ≤ y.natAbs * ob.natAbs := Nat.mul_le_mul_left _ (by lia)
      have h6 := natAbs_mul_lt hx h1
      have h7 : 2 ^ N ≤ 2 ^ (N + N) := Nat.pow_le_pow_right (by decide) (by lia)
      rw [Nat.pow_succ]
      lia
    · rcases st with ⟨_, rfl, _⟩ | R
      · exact absurd ho h0
      · have := R.a0; have := R.aob; lia
theorem EInv.bdb {oa ob a b x lx y ly : Int} {N : Nat} (h : EInv oa ob a b x lx y ly) (h2 : Bd N ob) : Bd N b := by
  unfold Bd at h2 ⊢
  obtain ⟨hb, bz1, bz2, hg, st⟩ := h
  rcases st with ⟨_, rfl, _⟩ | R
  · exact h2
  · have := R.ba; have := R.aob; lia
theorem EInv.lg {oa ob a b x lx y ly : Int} {N : Nat} (h : EInv oa ob a b x lx y ly) (h2 : Bd N ob) (hN : N ≤ 8000) : b.natAbs.log2 < 9000 :=
  log2_of (M := N + 1) (Nat.lt_trans (h.bdb h2) (by rw [Nat.pow_succ]; have : 0 < 2 ^ N := Nat.pow_pos (by decide); lia)) (by lia) (by lia)
theorem EInv.mul1 {oa ob a b x lx y ly : Int} {N : Nat} (h : EInv oa ob a b x lx y ly) (h1 : Bd N oa) (h2 : Bd N ob) (hN : N ≤ 1000000) (h0 : b ≠ 0) : IntMulOk (a.fdiv b) x :=
  mulOk _ _ (h.bd h1 h2 h0).1 (h.bd h1 h2 h0).2.1 (by lia)
theorem EInv.mul2 {oa ob a b x lx y ly : Int} {N : Nat} (h : EInv oa ob a b x lx y ly) (h1 : Bd N oa) (h2 : Bd N ob) (hN : N ≤ 1000000) (h0 : b ≠ 0) : IntMulOk (a.fdiv b) y :=
  mulOk _ _ (h.bd h1 h2 h0).1 (h.bd h1 h2 h0).2.2 (by lia)
theorem EInv.gcdIs {oa ob a x lx y ly : Int} (h : EInv oa ob a 0 x lx y ly) (h1 : 0 ≤ oa ∨ 0 < ob) : a = (Int.gcd oa ob : Int) := by
  obtain ⟨hb, bz1, bz2, hg, st⟩ := h
  rw [Int.gcd_zero_right] at hg
  rcases st with ⟨k1, k2, _⟩ | R
  · lia
  · have := R.a0; lia
theorem EInv.fst {oa ob a x lx y ly fx : Int} (h : EInv oa ob a 0 x lx y ly) (hx : fx = if lx < 0 then lx + ob else lx) : 0 ≤ fx ∧ (fx ≤ ob ∨ fx ≤ 1) := by
  obtain ⟨hb, bz1, bz2, hg, st⟩ := h
  subst hx
  rcases st with ⟨k1, k2, k3, k4, k5, k6⟩ | R
  · split <;> lia
  · have h1 := R.lx1
    have h2 := R.lx2
    split <;> lia
theorem EInv.snd {oa ob a x lx y ly fy : Int} (h : EInv oa ob a 0 x lx y ly) (h0 : 0 ≤ oa) (hy : fy = if ly < 0 then ly + oa else ly) : 0 ≤ fy ∧ (fy ≤ oa ∨ fy ≤ 1) := by
  obtain ⟨hb, bz1, bz2, hg, st⟩ := h
  subst hy
  rcases st with ⟨k1, k2, k3, k4, k5, k6⟩ | R
  · split <;> lia
  · have h1 := R.ly1 h0
    have h2 := R.ly2 h0
    split <;> lia
theorem EInv.sum {oa ob a x lx y ly fx fy : Int} (h : EInv oa ob a 0 x lx y ly) (h0 : 0 ≤ oa) (h1 : 0 ≤ ob) (hx : fx = if lx < 0 then lx + ob else lx) (hy : fy = if ly < 0 then ly + oa else ly) :
    fx * oa + fy * ob = a ∨ fx * oa + fy * ob = a + oa * ob := by
  have ha := h.gcdIs (.inl h0)
  obtain ⟨hb, bz1, bz2, hg, st⟩ := h
  subst hx; subst hy
  have e := Int.mul_comm oa ob
  split
  · split
    · rename_i k1 k2
      have : lx * oa ≤ 0 := Int.mul_nonpos_of_nonpos_of_nonneg (by lia) h0
      have h5 : ly * ob ≤ 0 := Int.mul_nonpos_of_nonpos_of_nonneg (by lia) h1
      have : 0 ≤ a := by lia
      have e1 : (lx + ob) * oa = lx * oa + ob * oa := Int.add_mul ..
      have e2 : (ly + oa) * ob = ly * ob + oa * ob := Int.add_mul ..
      have e3 : oa * ob = 0 ∨ 0 < oa * ob := by
        have := Int.mul_nonneg h0 h1; omega
      rcases e3 with e3 | e3
      · lia
      · have o1 : 0 < oa := by
          rcases Int.lt_or_eq_of_le h0 with q | q
          · exact q
          · rw [← q] at e3; simp at e3
        have : lx * oa < 0 := Int.mul_neg_of_neg_of_pos (by lia) o1
        lia
    · have e1 : (lx + ob) * oa = lx * oa + ob * oa := Int.add_mul ..
      right; lia
  · split
    · have e2 : (ly + oa) * ob = ly * ob + oa * ob := Int.add_mul ..
      right; lia
    · left; lia
theorem mul_nn0 {a b : Int} (h1 : 0 ≤ a) (h2 : 0 ≤ b) : 0 ≤ a * b := Int.mul_nonneg h1 h2
theorem mulOkB {a b : Int} (M N : Nat) (ha : Bd M a) (hb : Bd N b) (h : M + N ≤ 134217728) : IntMulOk a b := mulOk M N ha hb h
theorem EInv.facts {oa ob a x lx y ly fx fy : Int} (h : EInv oa ob a 0 x lx y ly) (h0 : 0 ≤ oa) (h1 : 0 ≤ ob) (b1 : Bd 490 oa) (b2 : Bd 490 ob) (hx : fx = if lx < 0 then lx + ob else lx) (hy : fy = if ly < 0 then ly + oa else ly) :
    a = (Int.gcd oa ob : Int) ∧ 0 ≤ fx ∧ (fx ≤ ob ∨ fx ≤ 1) ∧ 0 ≤ fy ∧ (fy ≤ oa ∨ fy ≤ 1) ∧ IntMulOk fx oa ∧ IntMulOk fy ob ∧ IntMulOk oa ob ∧ (fx * oa + fy * ob = a ∨ fx * oa + fy * ob = a + oa * ob) := by
  have p1 := h.fst hx
  have p2 := h.snd h0 hy
  have q1 : Bd 490 fx := by
    rcases p1.2 with q | q
    · exact .of_lt p1.1 q b2
    · exact .small (by lia) (by decide)
  have q2 : Bd 490 fy := by
    rcases p2.2 with q | q
    · exact .of_lt p2.1 q b1
    · exact .small (by lia) (by decide)
  exact ⟨h.gcdIs (.inl h0), p1.1, p1.2, p2.1, p2.2, mulOkB _ _ q1 b1 (by decide), mulOkB _ _ q2 b2 (by decide), mulOkB _ _ b1 b2 (by decide), h.sum h0 h1 hx hy⟩
theorem EInv.facts_k {P : Prop} {oa ob a x lx y ly fx fy : Int} (h : EInv oa ob a 0 x lx y ly) (h0 : 0 ≤ oa) (h1 : 0 ≤ ob) (b1 : Bd 490 oa) (b2 : Bd 490 ob) (hx : fx = if lx < 0 then lx + ob else lx) (hy : fy = if ly < 0 then ly + oa else ly)
    (k : a = (Int.gcd oa ob : Int) → 0 ≤ fx → (fx ≤ ob ∨ fx ≤ 1) → 0 ≤ fy → (fy ≤ oa ∨ fy ≤ 1) → IntMulOk fx oa → IntMulOk fy ob → IntMulOk oa ob → (fx * oa + fy * ob = a ∨ fx * oa + fy * ob = a + oa * ob) → P) : P :=
  have f := h.facts h0 h1 b1 b2 hx hy
  k f.1 f.2.1 f.2.2.1 f.2.2.2.1 f.2.2.2.2.1 f.2.2.2.2.2.1 f.2.2.2.2.2.2.1 f.2.2.2.2.2.2.2.1 f.2.2.2.2.2.2.2.2
theorem Bd.lg {k : Nat} {x : Int} (h : Bd k x) (hk : k < 9000) : x.natAbs.log2 < 9000 :=
  log2_of (M := k + 1) (h.mono (Nat.le_succ k)) (by lia) (by lia)
end Mine

namespace Mine
theorem abs_Q {α : Type} {M : Model} {A : Around} {t : Sem α} {Q : α → Shared → Prop} {E : Value → Shared → Prop} {s : Shared}
    (h : ∀ Q9 : α → Shared → Prop, (∀ a s', Q a s' → Q9 a s') → wpAny M A t Q9 E s) : wpAny M A t Q E s :=
  h Q fun _ _ q => q
theorem abs_QE {α : Type} {M : Model} {A : Around} {t : Sem α} {Q : α → Shared → Prop} {E : Value → Shared → Prop} {s : Shared}
    (h : ∀ (Q9 : α → Shared → Prop) (E9 : Value → Shared → Prop), (∀ a s', Q a s' → Q9 a s') → wpAny M A t Q9 E9 s) : wpAny M A t Q E s :=
  h Q E fun _ _ q => q
theorem abs_turn {α : Type} {M : Model} {A : Around} {t : Sem α} {b : Sem Flow} {P : Flow → Shared → Prop} {E : Value → Shared → Prop} {s : Shared}
    (h : ∀ P9 : Flow → Shared → Prop, (∀ f s', P f s' → P9 f s') → wpAny M A t (fun _ s₃ => wpAny M A b P9 E s₃) E s) : wpAny M A t (fun _ s₃ => wpAny M A b P E s₃) E s :=
  h P fun _ _ q => q
end Mine

namespace Mine
noncomputable def Pr (p : Nat) : Prop := 2 ≤ p ∧ ∀ d, d ∣ p → d = 1 ∨ d = p
theorem Pr.coprime {p a : Nat} (h : Pr p) (ha : ¬ p ∣ a) : Nat.gcd p a = 1 := by
  rcases h.2 _ (Nat.gcd_dvd_left p a) with e | e
  · exact e
  · exact absurd (e ▸ Nat.gcd_dvd_right p a) ha
theorem Pr.dvd_mul {p a b : Nat} (h : Pr p) (hd : p ∣ a * b) : p ∣ a ∨ p ∣ b := by
  by_cases ha : p ∣ a
  · exact .inl ha
  · exact .inr (Nat.Coprime.dvd_of_dvd_mul_left (h.coprime ha) hd)

noncomputable def chs : Nat → Nat → Nat
  | _, 0 => 1
  | 0, _ + 1 => 0
  | n + 1, k + 1 => chs n k + chs n (k + 1)
theorem chs_zero (n : Nat) : chs n 0 = 1 := by cases n <;> rfl
theorem chs_gt : ∀ {n k : Nat}, n < k → chs n k = 0
  | 0, _ + 1, _ => rfl
  | n + 1, k + 1, h => by
    rw [chs, chs_gt (by lia), chs_gt (by lia)]
theorem chs_self : ∀ n : Nat, chs n n = 1
  | 0 => rfl
  | n + 1 => by rw [chs, chs_self n, chs_gt (by lia)]
theorem chs_mul : ∀ n k : Nat, (k + 1) * chs (n + 1) (k + 1) = (n + 1) * chs n k
  | 0, 0 => rfl
  | 0, k + 1 => by
    have h1 : chs 1 (k + 1 + 1) = 0 := chs_gt (by lia)
    have h2 : chs 0 (k + 1) = 0 := rfl
    rw [h1, h2]
    lia
  | n + 1, 0 => by
    have h := chs_mul n 0
    rw [chs_zero] at h ⊢
    rw [chs, chs_zero]
    lia
  | n + 1, k + 1 => by
    have h1 := chs_mul n k
    have h2 := chs_mul n (k + 1)
    have e1 : chs (n + 1 + 1) (k + 1 + 1) = chs (n + 1) (k + 1) + chs (n + 1) (k + 1 + 1) := rfl
    have e2 : chs (n + 1) (k + 1) = chs n k + chs n (k + 1) := rfl
    rw [e1]
    have e3 : (k + 1 + 1) * (chs (n + 1) (k + 1) + chs (n + 1) (k + 1 + 1)) = (k + 1) * chs (n + 1) (k + 1) + chs (n + 1) (k + 1) + (k + 1 + 1) * chs (n + 1) (k + 1 + 1) := by
      rw [Nat.mul_add, Nat.add_mul (k + 1) 1, Nat.one_mul]
    rw [e3, h1, h2, Nat.add_mul (n + 1) 1 (chs (n + 1) (k + 1)), Nat.one_mul]
    have e4 : (n + 1) * chs (n + 1) (k + 1) = (n + 1) * chs n k + (n + 1) * chs n (k + 1) := by rw [e2, Nat.mul_add]
    lia
theorem Pr.dvd_chs {p k : Nat} (h : Pr p) (h0 : 0 < k) (h1 : k < p) : p ∣ chs p k := by
  obtain ⟨n, rfl⟩ : ∃ n, p = n + 1 := ⟨p - 1, by have := h.1; lia⟩
  obtain ⟨j, rfl⟩ : ∃ j, k = j + 1 := ⟨k - 1, by lia⟩
  have e := chs_mul n j
  have hd : (n + 1) ∣ (j + 1) * chs (n + 1) (j + 1) := ⟨_, e⟩
  rcases h.dvd_mul hd with q | q
  · exact absurd (Nat.le_of_dvd (by lia) q) (by lia)
  · exact q
noncomputable def bsum (a n : Nat) : Nat → Nat
  | 0 => 0
  | m + 1 => bsum a n m + chs n m * a ^ m
theorem bsum_step (a n : Nat) : ∀ m, bsum a (n + 1) (m + 1) = (a + 1) * bsum a n m + chs n m * a ^ m
  | 0 => by
    show 0 + chs (n + 1) 0 * a ^ 0 = (a + 1) * 0 + chs n 0 * a ^ 0
    rw [chs_zero, chs_zero]
    lia
  | m + 1 => by
    have ih := bsum_step a n m
    show bsum a (n + 1) (m + 1) + chs (n + 1) (m + 1) * a ^ (m + 1) = (a + 1) * (bsum a n m + chs n m * a ^ m) + chs n (m + 1) * a ^ (m + 1)
    rw [ih]
    show _ + (chs n m + chs n (m + 1)) * a ^ (m + 1) = _
    have e1 : (chs n m + chs n (m + 1)) * a ^ (m + 1) = chs n m * a ^ (m + 1) + chs n (m + 1) * a ^ (m + 1) := Nat.add_mul ..
    have e2 : (a + 1) * (bsum a n m + chs n m * a ^ m) = (a + 1) * bsum a n m + (a * (chs n m * a ^ m) + chs n m * a ^ m) := by
      rw [Nat.mul_add, Nat.add_mul a 1 (chs n m * a ^ m), Nat.one_mul]
    have e3 : chs n m * a ^ (m + 1) = a * (chs n m * a ^ m) := by
      rw [Nat.pow_succ, ← Nat.mul_assoc, Nat.mul_comm]
    lia
theorem bsum_pow (a : Nat) : ∀ n, bsum a n (n + 1) = (a + 1) ^ n
  | 0 => by
    show 0 + chs 0 0 * a ^ 0 = (a + 1) ^ 0
    simp [chs]
  | n + 1 => by
    have e : (a + 1) ^ (n + 1) = (a + 1) * (a + 1) ^ n := by rw [Nat.pow_succ, Nat.mul_comm]
    rw [bsum_step, e, ← bsum_pow a n, chs_gt (n := n) (k := n + 1) (by lia), Nat.zero_mul, Nat.add_zero]
theorem Pr.bsum_mod {p a : Nat} (h : Pr p) : ∀ m, 0 < m → m ≤ p → bsum a p m % p = 1 % p
  | 0, h0, _ => absurd h0 (Nat.lt_irrefl _)
  | 1, _, _ => by
    show (0 + chs p 0 * a ^ 0) % p = 1 % p
    rw [chs_zero]; simp
  | m + 2, _, hm => by
    have ih := Pr.bsum_mod (a := a) h (m + 1) (by lia) (by lia)
    show (bsum a p (m + 1) + chs p (m + 1) * a ^ (m + 1)) % p = 1 % p
    obtain ⟨c, hc⟩ := h.dvd_chs (k := m + 1) (by lia) (by lia)
    rw [hc, Nat.mul_assoc, Nat.add_mul_mod_self_left]
    exact ih
theorem Pr.fermat {p : Nat} (h : Pr p) : ∀ a : Nat, a ^ p % p = a % p
  | 0 => by
    have := h.1
    rw [Nat.zero_pow (by lia)]
  | a + 1 => by
    have ih := Pr.fermat h a
    have e := bsum_pow a p
    have hb : bsum a p (p + 1) = bsum a p p + chs p p * a ^ p := rfl
    rw [chs_self, Nat.one_mul] at hb
    rw [← e, hb, Nat.add_mod, h.bsum_mod p (by have := h.1; lia) (Nat.le_refl _), ih, ← Nat.add_mod, Nat.add_comm]
theorem Pr.fermat1 {p a : Nat} (h : Pr p) (ha : ¬ p ∣ a) : a ^ (p - 1) % p = 1 % p := by
  have hp := h.1
  have e := h.fermat a
  obtain ⟨n, rfl⟩ : ∃ n, p = n + 1 := ⟨p - 1, by lia⟩
  rw [Nat.add_sub_cancel]
  -- a * (a^n - 1) = 0 mod p
  have hpos : 0 < a := Nat.pos_of_ne_zero fun q => ha (q ▸ Nat.dvd_zero _)
  have h1 : 1 ≤ a ^ n := Nat.pow_pos hpos
  have hd : (n + 1) ∣ a * (a ^ n - 1) := by
    rw [Nat.mul_sub, Nat.mul_one, Nat.mul_comm, ← Nat.pow_succ]
    exact Nat.dvd_of_mod_eq_zero (Nat.sub_mod_eq_zero_of_mod_eq e)
  rcases h.dvd_mul hd with q | q
  · exact absurd q ha
  · obtain ⟨c, hc⟩ := q
    have e2 : a ^ n = 1 + (n + 1) * c := by lia
    rw [e2, Nat.add_mul_mod_self_left]
theorem pow_mod_of {m a e k j : Nat} (h : a ^ e % m = 1 % m) (hk : k = 1 + j * e) : a ^ k % m = a % m := by
  subst hk
  rw [Nat.pow_add, Nat.pow_one, Nat.mul_comm j e, Nat.pow_mul, Nat.mul_mod, Nat.pow_mod, h, ← Nat.pow_mod, Nat.one_pow, ← Nat.mul_mod, Nat.mul_one]
theorem Pr.pow1 {p a k j : Nat} (h : Pr p) (hk : k = 1 + j * (p - 1)) : a ^ k % p = a % p := by
  by_cases ha : p ∣ a
  · have h2 : p ∣ a ^ k := Nat.dvd_trans ha (by subst hk; rw [Nat.pow_add, Nat.pow_one]; exact Nat.dvd_mul_right _ _)
    rw [Nat.mod_eq_zero_of_dvd ha, Nat.mod_eq_zero_of_dvd h2]
  · exact pow_mod_of (h.fermat1 ha) hk
noncomputable def noDiv (n : Nat) : Nat → Nat → Bool
  | 0, _ => true
  | f + 1, d => if n % d == 0 then false else noDiv n f (d + 1)
theorem noDiv_spec {n : Nat} : ∀ {f d : Nat}, noDiv n f d = true → ∀ e, d ≤ e → e < d + f → n % e ≠ 0
  | 0, d, _, e, h1, h2 => absurd h2 (by lia)
  | f + 1, d, h, e, h1, h2 => by
    unfold noDiv at h
    split at h
    · cases h
    · rename_i hd
      by_cases he : e = d
      · subst he; simpa using hd
      · exact noDiv_spec h e (by lia) (by lia)
theorem Pr.of_noDiv {n : Nat} (h2 : 2 ≤ n) (h : ∀ e, 2 ≤ e → e * e ≤ n → n % e ≠ 0) : Pr n := by
  have small : ∀ d, d ∣ n → d * d ≤ n → d = 1 := fun d hd hle => by
    by_cases h0 : d = 0
    · subst h0
      have := Nat.eq_zero_of_zero_dvd hd; lia
    by_cases h1 : d = 1
    · exact h1
    · exact absurd (Nat.mod_eq_zero_of_dvd hd) (h d (by lia) hle)
  refine ⟨h2, fun d hd => ?_⟩
  obtain ⟨e, he⟩ := hd
  by_cases hle : d * d ≤ n
  · exact .inl (small d ⟨e, he⟩ hle)
  · have hlt : e ≤ d := by
      false_or_by_contra
      have := Nat.mul_le_mul_left d (show d ≤ e by lia)
      lia
    have h1 : e = 1 := small e ⟨d, by rw [he, Nat.mul_comm]⟩ (by have := Nat.mul_le_mul_right e hlt; lia)
    subst h1
    right; lia
theorem Pr.of_test {n f : Nat} (h2 : 2 ≤ n) (hf : n < (f + 2) * (f + 2)) (h : noDiv n f 2 = true) : Pr n := by
  refine .of_noDiv h2 fun e h1 h3 => noDiv_spec h e h1 ?_
  false_or_by_contra
  have : f + 2 ≤ e := by lia
  have := Nat.mul_le_mul this this
  lia
theorem pigeon : ∀ (m n : Nat) (f : Nat → Nat), (∀ i, i < n → f i < m) → m < n → ∃ i j, i < j ∧ j < n ∧ f i = f j
  | 0, n, f, h, hn => absurd (h 0 hn) (Nat.not_lt_zero _)
  | m + 1, n, f, h, hn => by
    obtain ⟨k, rfl⟩ : ∃ k, n = k + 1 := ⟨n - 1, by lia⟩
    by_cases hc : ∃ i, i < k ∧ f i = f k
    · obtain ⟨i, hi, e⟩ := hc
      exact ⟨i, k, hi, Nat.lt_succ_self _, e⟩
    · have hno : ∀ i, i < k → f i ≠ f k := fun i hi e => hc ⟨i, hi, e⟩
      have hk := h k (Nat.lt_succ_self _)
      obtain ⟨i, j, hij, hj, e⟩ := pigeon m k (fun i => if f i = m then f k else f i) (fun i hi => by
        have h1 := h i (by lia)
        have h2 := hno i hi
        show (if f i = m then f k else f i) < m
        split <;> lia) (by lia)
      refine ⟨i, j, hij, by lia, ?_⟩
      have hi' := hno i (by lia)
      have hj' := hno j hj
      (try dsimp only at e)
      split at e <;> split at e <;> lia

noncomputable def lx : Nat → Int × Int
  | 0 => (1, 0)
  | n + 1 => (2 * (lx n).1 + 3 * (lx n).2, (lx n).1 + 2 * (lx n).2)
theorem lx_add (m : Nat) : ∀ n, lx (m + n) = ((lx m).1 * (lx n).1 + 3 * ((lx m).2 * (lx n).2), (lx m).1 * (lx n).2 + (lx m).2 * (lx n).1)
  | 0 => by simp [lx]
  | n + 1 => by
    show (2 * (lx (m + n)).1 + 3 * (lx (m + n)).2, (lx (m + n)).1 + 2 * (lx (m + n)).2) = _
    rw [lx_add m n]
    show _ = ((lx m).1 * (2 * (lx n).1 + 3 * (lx n).2) + 3 * ((lx m).2 * ((lx n).1 + 2 * (lx n).2)), (lx m).1 * ((lx n).1 + 2 * (lx n).2) + (lx m).2 * (2 * (lx n).1 + 3 * (lx n).2))
    refine Prod.ext ?_ ?_ <;> dsimp only <;> grind
theorem lx_norm : ∀ n, (lx n).1 * (lx n).1 - 3 * ((lx n).2 * (lx n).2) = 1
  | 0 => by simp [lx]
  | n + 1 => by
    have ih := lx_norm n
    show (2 * (lx n).1 + 3 * (lx n).2) * (2 * (lx n).1 + 3 * (lx n).2) - 3 * (((lx n).1 + 2 * (lx n).2) * ((lx n).1 + 2 * (lx n).2)) = 1
    generalize (lx n).1 = x at *
    generalize (lx n).2 = y at *
    grind
theorem lx_dbl (n : Nat) : (lx (n + n)).1 = 2 * ((lx n).1 * (lx n).1) - 1 ∧ (lx (n + n)).2 = 2 * ((lx n).1 * (lx n).2) := by
  have h := lx_norm n
  rw [lx_add]
  have e : (lx n).2 * (lx n).1 = (lx n).1 * (lx n).2 := Int.mul_comm ..
  dsimp only
  lia
noncomputable def LId (d : Int) (n : Nat) : Prop := d ∣ (lx n).1 - 1 ∧ d ∣ (lx n).2
noncomputable def LNg (d : Int) (n : Nat) : Prop := d ∣ (lx n).1 + 1 ∧ d ∣ (lx n).2
theorem dvd_of_eq {d a b : Int} (h : d ∣ a) (e : a = b) : d ∣ b := e ▸ h
theorem LId.add {d : Int} {m n : Nat} (h : LId d m) (k : LId d n) : LId d (m + n) := by
  obtain ⟨⟨a, ha⟩, b, hb⟩ := h
  obtain ⟨⟨a', ha'⟩, b', hb'⟩ := k
  unfold LId
  rw [lx_add]
  have e1 : (lx m).1 = d * a + 1 := by lia
  have e2 : (lx n).1 = d * a' + 1 := by lia
  rw [e1, e2, hb, hb']
  constructor
  · exact ⟨a * (d * a') + a + a' + 3 * (b * (d * b')), by grind⟩
  · exact ⟨a * (d * b') + b' + (b * (d * a') + b), by grind⟩
theorem LId.mul {d : Int} {n : Nat} (h : LId d n) : ∀ c, LId d (n * c)
  | 0 => ⟨⟨0, by simp [lx]⟩, ⟨0, by simp [lx]⟩⟩
  | c + 1 => by rw [Nat.mul_succ]; exact (h.mul c).add h
theorem LNg.addI {d : Int} {m n : Nat} (h : LId d m) (k : LNg d n) : LNg d (m + n) := by
  obtain ⟨⟨a, ha⟩, b, hb⟩ := h
  obtain ⟨⟨a', ha'⟩, b', hb'⟩ := k
  unfold LNg
  rw [lx_add]
  have e1 : (lx m).1 = d * a + 1 := by lia
  have e2 : (lx n).1 = d * a' - 1 := by lia
  rw [e1, e2, hb, hb']
  constructor
  · exact ⟨a * (d * a') - a + a' + 3 * (b * (d * b')), by grind⟩
  · exact ⟨a * (d * b') + b' + (b * (d * a') - b), by grind⟩
theorem LNg.dbl {d : Int} {n : Nat} (k : LNg d n) : LId d (n + n) := by
  obtain ⟨⟨a', ha'⟩, b', hb'⟩ := k
  unfold LId
  obtain ⟨q1, q2⟩ := lx_dbl n
  rw [q1, q2]
  have e2 : (lx n).1 = d * a' - 1 := by lia
  rw [e2, hb']
  constructor
  · exact ⟨2 * (a' * (d * a')) - 4 * a', by grind⟩
  · exact ⟨2 * (a' * (d * b')) - 2 * b', by grind⟩
theorem LNg.odd {d : Int} {n : Nat} (k : LNg d n) (c : Nat) : LNg d (n * (2 * c + 1)) := by
  have h := LNg.addI (k.dbl.mul c) k
  have e : (n + n) * c + n = n * (2 * c + 1) := by
    rw [Nat.mul_add, Nat.mul_one, Nat.add_mul, ← Nat.mul_assoc, Nat.mul_comm n 2, Nat.two_mul, Nat.add_mul]
  rw [← e]; exact h
theorem two_part : ∀ n : Nat, 0 < n → ∃ t c, n = 2 ^ t * (2 * c + 1) := by
  intro n
  induction n using Nat.strongRecOn with
  | ind n ih =>
    intro hn
    by_cases h : n % 2 = 1
    · exact ⟨0, n / 2, by lia⟩
    · obtain ⟨t, c, e⟩ := ih (n / 2) (by lia) (by lia)
      refine ⟨t + 1, c, ?_⟩
      have e2 : n = 2 * (n / 2) := by lia
      rw [e2, Nat.pow_succ, Nat.mul_comm (2 ^ t) 2, Nat.mul_assoc, ← e]

noncomputable def llR (M : Nat) : Nat → Nat → Nat
  | 0, s => s
  | k + 1, s => llR M k ((s * s + (M - 2)) % M)
theorem llR_spec {M : Nat} (hM : 2 ≤ M) : ∀ (k i : Nat) (s : Nat), (M : Int) ∣ (s : Int) - 2 * (lx (2 ^ i)).1 → (M : Int) ∣ (llR M k s : Int) - 2 * (lx (2 ^ (i + k))).1
  | 0, i, s, h => h
  | k + 1, i, s, h => by
    have key : (M : Int) ∣ (((s * s + (M - 2)) % M : Nat) : Int) - 2 * (lx (2 ^ (i + 1))).1 := by
      have e : 2 ^ (i + 1) = 2 ^ i + 2 ^ i := by rw [Nat.pow_succ]; lia
      rw [e, (lx_dbl (2 ^ i)).1]
      obtain ⟨c, hc⟩ := h
      have hs : (s : Int) = M * c + 2 * (lx (2 ^ i)).1 := by lia
      have e1 : (((s * s + (M - 2)) % M : Nat) : Int) = ((s : Int) * s + (M - 2)) - M * (((s * s + (M - 2)) / M : Nat) : Int) := by
        have := Nat.div_add_mod (s * s + (M - 2)) M
        have h3 : ((M * ((s * s + (M - 2)) / M) + (s * s + (M - 2)) % M : Nat) : Int) = ((s * s + (M - 2) : Nat) : Int) := by rw [this]
        rw [Int.natCast_add, Int.natCast_mul, Int.natCast_add, Int.natCast_mul, Int.natCast_sub hM] at h3
        lia
      rw [e1, hs]
      generalize (((s * s + (M - 2)) / M : Nat) : Int) = q
      generalize (lx (2 ^ i)).1 = x
      exact ⟨c * (M * c) + 4 * (c * x) + 1 - q, by grind⟩
    have := llR_spec hM k (i + 1) _ key
    have e : i + 1 + k = i + (k + 1) := by lia
    rw [e] at this
    exact this
theorem dvd_odd {d x : Int} (hd : ∃ c, d = 2 * c + 1) (h : d ∣ 2 * x) : d ∣ x := by
  obtain ⟨c, rfl⟩ := hd
  obtain ⟨k, hk⟩ := h
  refine ⟨x - c * k, ?_⟩
  have e : (2 * c + 1) * k = 2 * (c * k) + k := by rw [Int.add_mul, Int.mul_assoc, Int.one_mul]
  rw [e] at hk
  have e2 : (2 * c + 1) * (x - c * k) = 2 * (c * (x - c * k)) + (x - c * k) := by rw [Int.add_mul, Int.mul_assoc, Int.one_mul]
  rw [e2, Int.mul_sub]
  have hk' : k = 2 * (x - c * k) := by lia
  have : c * k = c * (2 * (x - c * k)) := by rw [← hk']
  rw [Int.mul_left_comm, Int.mul_sub] at this
  lia
theorem Pr.ll {p : Nat} (hp : 3 ≤ p) (h : llR (2 ^ p - 1) (p - 2) 4 = 0) : Pr (2 ^ p - 1) := by
  have hpow : 8 ≤ 2 ^ p := Nat.pow_le_pow_right (n := 2) (by decide) hp
  have hodd : 2 ^ p = 2 * 2 ^ (p - 1) := by
    have e : p = (p - 1) + 1 := by lia
    conv => lhs; rw [e]
    rw [Nat.pow_succ, Nat.mul_comm]
  have hs := llR_spec (M := 2 ^ p - 1) (by lia) (p - 2) 0 4 ⟨0, by rw [Int.mul_zero]; rfl⟩
  rw [h, Nat.zero_add] at hs
  have small : ∀ d, d ∣ 2 ^ p - 1 → d * d ≤ 2 ^ p - 1 → d = 1 := by
    intro d hd hle
    false_or_by_contra
    rename_i hne
    obtain ⟨m, hm⟩ := hd
    have hd0 : 0 < d := Nat.pos_of_ne_zero fun q => by subst q; lia
    have hdp : 0 < (d : Int) := Int.natCast_pos.mpr hd0
    have hdz : (d : Int) ≠ 0 := Int.ne_of_gt hdp
    have hdodd : ∃ c : Int, (d : Int) = 2 * c + 1 := by
      by_cases q : d % 2 = 1
      · exact ⟨(d / 2 : Nat), by lia⟩
      · exfalso
        have e : d * m = 2 * (d / 2 * m) := by
          have : d = 2 * (d / 2) := by lia
          conv => lhs; rw [this]
          rw [Nat.mul_assoc]
        lia
    have hX : (d : Int) ∣ (lx (2 ^ (p - 2))).1 := by
      refine dvd_odd hdodd ?_
      have h1 : (d : Int) ∣ ((2 ^ p - 1 : Nat) : Int) := Int.natCast_dvd_natCast.mpr ⟨m, hm⟩
      have h2 := Int.dvd_trans h1 hs
      have h3 : (d : Int) ∣ -(((0 : Nat) : Int) - 2 * (lx (2 ^ (p - 2))).1) := Int.dvd_neg.mpr h2
      exact dvd_of_eq h3 (by lia)
    have e1 : 2 ^ (p - 1) = 2 ^ (p - 2) + 2 ^ (p - 2) := by
      have e : p - 1 = (p - 2) + 1 := by lia
      rw [e, Nat.pow_succ]; lia
    have hng : LNg d (2 ^ (p - 1)) := by
      obtain ⟨a, ha⟩ := hX
      unfold LNg
      rw [e1, (lx_dbl _).1, (lx_dbl _).2, ha]
      refine ⟨⟨2 * (a * (d * a)), ?_⟩, ⟨2 * (a * (lx (2 ^ (p - 2))).2), ?_⟩⟩
      · grind
      · grind
    obtain ⟨i, j, hij, hj, e⟩ := pigeon (d * d) (2 ^ p) (fun n => ((lx n).1 % d).toNat * d + ((lx n).2 % d).toNat) (fun n _ => by
      clear hX hdodd e1 hng hs hodd h hm hne hpow hle
      have a1 := Int.emod_nonneg (lx n).1 (b := (d : Int)) hdz
      have a2 := Int.emod_lt_of_pos (lx n).1 (b := (d : Int)) hdp
      have b1 := Int.emod_nonneg (lx n).2 (b := (d : Int)) hdz
      have b2 := Int.emod_lt_of_pos (lx n).2 (b := (d : Int)) hdp
      have h3 : ((lx n).1 % d).toNat + 1 ≤ d := by lia
      have h4 := Nat.mul_le_mul_right d h3
      rw [Nat.add_mul] at h4
      lia) (by clear hX hdodd e1 hng hs hodd h hm hne; lia)
    (try dsimp only at e)
    have ai := Int.emod_nonneg (lx i).2 (b := (d : Int)) hdz
    have ai2 := Int.emod_lt_of_pos (lx i).2 (b := (d : Int)) hdp
    have aj := Int.emod_nonneg (lx j).2 (b := (d : Int)) hdz
    have aj2 := Int.emod_lt_of_pos (lx j).2 (b := (d : Int)) hdp
    have bi := Int.emod_nonneg (lx i).1 (b := (d : Int)) hdz
    have bj := Int.emod_nonneg (lx j).1 (b := (d : Int)) hdz
    have hy : ((lx i).2 % d).toNat = ((lx j).2 % d).toNat := by
      have := congrArg (· % d) e
      simpa [Nat.add_mod, Nat.mod_eq_of_lt (show ((lx i).2 % d).toNat < d by lia), Nat.mod_eq_of_lt (show ((lx j).2 % d).toNat < d by lia)] using this
    have hx : ((lx i).1 % d).toNat = ((lx j).1 % d).toNat := Nat.eq_of_mul_eq_mul_right hd0 (by rw [hy] at e; exact Nat.add_right_cancel e)
    have hx' : (lx i).1 % d = (lx j).1 % d := by rw [← Int.toNat_of_nonneg bi, ← Int.toNat_of_nonneg bj, hx]
    have hy' : (lx i).2 % d = (lx j).2 % d := by rw [← Int.toNat_of_nonneg ai, ← Int.toNat_of_nonneg aj, hy]
    obtain ⟨u, hu⟩ : (d : Int) ∣ (lx j).1 - (lx i).1 := Int.dvd_of_emod_eq_zero (Int.emod_eq_emod_iff_emod_sub_eq_zero.mp hx'.symm)
    obtain ⟨v, hv⟩ : (d : Int) ∣ (lx j).2 - (lx i).2 := Int.dvd_of_emod_eq_zero (Int.emod_eq_emod_iff_emod_sub_eq_zero.mp hy'.symm)
    -- the difference's power is one
    have hji : j - i + i = j := by lia
    have hid : LId d (j - i) := by
      clear ai ai2 aj aj2 bi bj hy hx hx' hy' e hng e1 hX hdodd hle hne hd0 hm hs hodd hpow h hij hj hdp hdz
      have ha := lx_add (j - i) i
      have hn := lx_norm i
      rw [hji] at ha
      have h1 := congrArg Prod.fst ha
      have h2 := congrArg Prod.snd ha
      dsimp only at h1 h2
      unfold LId
      generalize (lx (j - i)).1 = a at *
      generalize (lx (j - i)).2 = b at *
      generalize (lx i).1 = x at *
      generalize (lx i).2 = y at *
      generalize (lx j).1 = x' at *
      generalize (lx j).2 = y' at *
      refine ⟨⟨u * x - 3 * (v * y), ?_⟩, ⟨v * x - u * y, ?_⟩⟩
      · have : a = x' * x - 3 * (y' * y) := by grind
        grind
      · have : b = y' * x - x' * y := by grind
        grind
    obtain ⟨t, c, ht⟩ := two_part (j - i) (by lia)
    have htp : t < p := by
      false_or_by_contra
      have h5 : 2 ^ p ≤ 2 ^ t := Nat.pow_le_pow_right (by decide) (by lia)
      have h6 : 2 ^ t * 1 ≤ 2 ^ t * (2 * c + 1) := Nat.mul_le_mul_left _ (by lia)
      lia
    have h7 := hid.mul (2 ^ (p - 1 - t))
    have h8 := hng.odd c
    have e9 : (j - i) * 2 ^ (p - 1 - t) = 2 ^ (p - 1) * (2 * c + 1) := by
      rw [ht, Nat.mul_right_comm, ← Nat.pow_add]
      congr 2
      lia
    rw [e9] at h7
    obtain ⟨⟨a, ha⟩, -⟩ := h7
    obtain ⟨⟨b, hb⟩, -⟩ := h8
    have h2d : (d : Int) ∣ 2 := ⟨b - a, by rw [Int.mul_sub]; lia⟩
    have h3 : d ∣ 2 := Int.natCast_dvd_natCast.mp h2d
    have h4 := Nat.le_of_dvd (by decide) h3
    obtain ⟨k, hk⟩ := hdodd
    lia
  refine ⟨by lia, fun d hd => ?_⟩
  obtain ⟨e, he⟩ := hd
  by_cases hle : d * d ≤ 2 ^ p - 1
  · exact .inl (small d ⟨e, he⟩ hle)
  · have hlt : e ≤ d := by
      false_or_by_contra
      have := Nat.mul_le_mul_left d (show d ≤ e by lia)
      lia
    have h1 : e = 1 := small e ⟨d, by rw [he, Nat.mul_comm]⟩ (by have := Nat.mul_le_mul_right e hlt; lia)
    subst h1
    right; lia
end Mine

namespace Mine
theorem powMod_go (b m e : Nat) : ∀ (k p : Nat), p % m = b ^ (e >>> k) % m → ((List.range k).reverse.foldl (fun p i => if e.testBit i then p * p % m * b % m else p * p % m) p) % m = b ^ e % m
  | 0, p, h => by simpa using h
  | k + 1, p, h => by
    rw [List.range_succ, List.reverse_append]
    show ((List.range k).reverse.foldl _ (if e.testBit k then p * p % m * b % m else p * p % m)) % m = _
    refine powMod_go b m e k _ ?_
    have hs : e >>> k = 2 * (e >>> (k + 1)) + (if e.testBit k then 1 else 0) := by
      have h1 : e >>> (k + 1) = (e >>> k) / 2 := by rw [Nat.shiftRight_succ]
      have h2 : e.testBit k = decide ((e >>> k) % 2 = 1) := by
        rw [Nat.testBit_eq_decide_div_mod_eq, Nat.shiftRight_eq_div_pow]
      rw [h1, h2]
      by_cases q : (e >>> k) % 2 = 1
      · simp [q]; lia
      · simp [q]; lia
    have hq : p * p % m = b ^ (2 * (e >>> (k + 1))) % m := by
      rw [Nat.mul_mod, h, ← Nat.mul_mod, ← Nat.pow_add, Nat.two_mul]
    rw [hs]
    by_cases hb : e.testBit k
    · simp only [hb, if_true]
      rw [Nat.mod_mod, Nat.mul_mod, Nat.mod_mod, hq, ← Nat.mul_mod, Nat.pow_add, Nat.pow_one]
    · simp only [hb, if_false, Nat.add_zero, Bool.false_eq_true]
      rw [Nat.mod_mod, hq]
noncomputable def PM (x y m : Int) : Int := (((x % m).toNat ^ y.toNat % m.toNat : Nat) : Int)
theorem PM_nn (x y m : Int) : 0 ≤ PM x y m := Int.natCast_nonneg _
theorem PM_lt {x y m : Int} (hm : 0 < m) : PM x y m < m := by
  unfold PM
  have := Nat.mod_lt ((x % m).toNat ^ y.toNat) (show 0 < m.toNat by lia)
  lia
theorem powMod_lt (b m e : Nat) (hm : 0 < m) : Builtin.powMod b e m < m := by
  unfold Builtin.powMod
  have : ∀ (l : List Nat) (p : Nat), p < m → l.foldl (fun p i => if e.testBit i then p * p % m * b % m else p * p % m) p < m := by
    intro l
    induction l with
    | nil => intro p h; exact h
    | cons x r ih =>
      intro p h
      refine ih _ ?_
      show (if e.testBit x = true then p * p % m * b % m else p * p % m) < m
      split <;> exact Nat.mod_lt _ hm
  exact this _ _ (Nat.mod_lt _ hm)
theorem powMod_is (b e m : Nat) (hm : 0 < m) : Builtin.powMod b e m = b ^ e % m := by
  have h1 := powMod_lt b m e hm
  rw [← Nat.mod_eq_of_lt h1]
  unfold Builtin.powMod
  refine powMod_go b m e _ _ ?_
  have hb : e >>> Builtin.Int.intBits (e : Int) = 0 := by
    unfold Builtin.Int.intBits
    by_cases h0 : e = 0
    · subst h0; rfl
    · have hb : ((e : Int) == 0) = false := by simpa using h0
      rw [hb]
      simp only [Bool.false_eq_true, if_false, Int.natAbs_natCast]
      rw [Nat.shiftRight_eq_div_pow]
      exact Nat.div_eq_of_lt Nat.lt_log2_self
  rw [hb]; simp

theorem entry_powT : entryFor table "pow" = some Builtin.«pow» := entryFor_of_fast (by kernel_rfl)
theorem kind_powT : builtinKind "pow" = none := by decide +kernel
theorem plain_powT : plainId "pow" = true := by decide +kernel
theorem args_pow3 (a b c : Value) : argsOk "pow" ⟨[a, b, c], []⟩ := by unfold argsOk; kernel_rfl
section
variable {prog : Program} {w : World} {A : Around} {E : Value → Shared → Prop} {s : Shared} {x y m : Int} {t u v : Tok} {Q : Value → Shared → Prop}
theorem call_int_pow3 (hm : 0 < m) (hy : 0 ≤ y) (h : Q (.int ((((x % m).toNat ^ y.toNat % m.toNat : Nat) : Int)) s.toks) { s with toks := s.toks + 1 }) :
    wpAny (model prog w) A (call (.builtin "int.__pow__") [.int x t, .int y u, .int m v]) (fun r s' => r ≠ .notImplemented ∧ Q r s') E s := by
  refine wpAny_call_entry slot_int_pow (typeIs_int s x t) entry_int_pow ?_ (F.args_int_pow_3 _ _ _)
  have hm0 : (m == 0) = false := by simpa using (show m ≠ 0 by lia)
  have hy0 : ¬ y < 0 := by lia
  show wpAny _ _ (if (m == 0) = true then _ else _) _ _ s
  rw [if_neg (by rw [hm0]; exact Bool.false_ne_true)]
  show wpAny _ _ (if (m.natAbs == 1) = true then _ else _) _ _ s
  by_cases h1 : m.natAbs = 1
  · have e1 : m = 1 := by lia
    subst e1
    rw [if_pos (by decide : (Int.natAbs 1 == 1) = true)]
    have e2 : (((x % 1).toNat ^ y.toNat % (1 : Int).toNat : Nat) : Int) = 0 := by
      have : (1 : Int).toNat = 1 := rfl
      rw [this, Nat.mod_one]; rfl
    rw [e2] at h
    exact wpAny_bind (wpAny_rule (wpAny_ret_mkInt ⟨by simp, h⟩))
  · rw [if_neg (by simpa using h1)]
    show wpAny _ _ (if y < 0 then _ else _) _ _ s
    rw [if_neg hy0]
    show wpAny _ _ (do ret (← mkInt (if (decide (m < 0) && ((Builtin.powMod (x % (m.natAbs : Int)).toNat y.natAbs m.natAbs : Nat) : Int) != 0) = true then ((Builtin.powMod (x % (m.natAbs : Int)).toNat y.natAbs m.natAbs : Nat) : Int) - m.natAbs else ((Builtin.powMod (x % (m.natAbs : Int)).toNat y.natAbs m.natAbs : Nat) : Int)))) _ _ s
    have hlt : decide (m < 0) = false := by simpa using (show 0 ≤ m by lia)
    rw [hlt, Bool.false_and, if_neg Bool.false_ne_true]
    have e1 : m.natAbs = m.toNat := by lia
    have e2 : y.natAbs = y.toNat := by lia
    have e3 : ((m.toNat : Nat) : Int) = m := by lia
    rw [e1, e2, e3, powMod_is _ _ _ (by lia)]
    exact wpAny_ret_mkInt ⟨by simp, h⟩
theorem pow3 (hm : 0 < m) (hy : 0 ≤ y) (h : Q (.int (PM x y m) s.toks) { s with toks := s.toks + 1 }) :
    wpAny (model prog w) A (call (.builtin "pow") [.int x t, .int y u, .int m v]) Q E s := by
  refine Calls.call_function_entry kind_powT plain_powT entry_powT (args_pow3 _ _ _) ?_
  unfold Builtin.«pow»
  refine wpAny_bind (m := Builtin.Builtins.bindParams "pow" ["base", "exp", "mod"] 2 _) (wpAny_pure ?_)
  refine wpAny_bind (wpAny_rule ?_)
  refine wpAny_bind (m := typeOf (.int x t)) (wpAny_pure ?_)
  have hT : s.TypeIs (.int x t) "int" := rfl
  have f3 : typeLookup (.type "int") (Str.ofString "__pow__") = pure (some (.builtin "int.__pow__")) := slot_int_pow.lookup
  refine wpAny_bind (m := typeLookup (.type "int") (Str.ofString "__pow__")) ?_
  rw [f3]
  refine wpAny_pure ?_
  refine wpAny_bind (m := callSpecial? (.int x t) (Str.ofString "__pow__") [.int y u, .int m v]) ?_
  refine wpAny_callSpecial?_slot (name := Str.ofString "__pow__") hT slot_int_pow (wpAny_mono (call_int_pow3 hm hy (Q := Q) h) (fun r s' hr => ?_) fun _ _ z => z)
  show wpAny _ _ (if (r != .notImplemented) = true then ret r else _) _ _ s'
  rw [if_pos (by simpa using hr.1)]
  exact wpAny_pure ⟨_, rfl, hr.2⟩
end
theorem pow_dvd_sub {m a b : Int} (h : m ∣ a - b) : ∀ k : Nat, m ∣ a ^ k - b ^ k
  | 0 => ⟨0, by simp⟩
  | k + 1 => by
    obtain ⟨c, hc⟩ := h
    obtain ⟨d, hd⟩ := pow_dvd_sub ⟨c, hc⟩ k
    exact ⟨d * a + b ^ k * c, by rw [Int.pow_succ, Int.pow_succ]; grind⟩
theorem emod_dvd (m a : Int) : m ∣ a % m - a := ⟨-(a / m), by have := Int.emod_add_mul_ediv a m; grind⟩
theorem fmod_dvd {m a : Int} (hm : 0 < m) : m ∣ a.fmod m - a := by rw [Int.fmod_eq_emod_of_nonneg _ (Int.le_of_lt hm)]; exact emod_dvd m a
theorem PM_eq {x y m : Int} (hm : 0 < m) : PM x y m = (x % m) ^ y.toNat % m := by
  unfold PM
  have h1 : ((x % m).toNat : Int) = x % m := Int.toNat_of_nonneg (Int.emod_nonneg _ (by lia))
  have h2 : (m.toNat : Int) = m := Int.toNat_of_nonneg (by lia)
  rw [Int.natCast_emod, Int.natCast_pow, h1, h2]
theorem PM_dvd {x y m : Int} (hm : 0 < m) : m ∣ PM x y m - x ^ y.toNat := by
  rw [PM_eq hm]
  obtain ⟨c, hc⟩ := emod_dvd m ((x % m) ^ y.toNat)
  obtain ⟨d, hd⟩ := pow_dvd_sub (emod_dvd m x) y.toNat
  exact ⟨c + d, by grind⟩
theorem res_unique {m a b : Int} (h : m ∣ a - b) (ha : 0 ≤ a) (ha1 : a < m) (hb : 0 ≤ b) (hb1 : b < m) : a = b := by
  have := Int.emod_emod_of_dvd
  have h1 := Int.emod_eq_emod_iff_emod_sub_eq_zero.mpr (Int.emod_eq_zero_of_dvd h)
  rwa [Int.emod_eq_of_lt ha ha1, Int.emod_eq_of_lt hb hb1] at h1
theorem dvd_trans_sub {m a b c : Int} (h : m ∣ a - b) (k : m ∣ b - c) : m ∣ a - c := by
  obtain ⟨x, hx⟩ := h
  obtain ⟨y, hy⟩ := k
  exact ⟨x + y, by grind⟩
theorem dvd_sub_symm {m a b : Int} (h : m ∣ a - b) : m ∣ b - a := by
  obtain ⟨x, hx⟩ := h
  exact ⟨-x, by grind⟩
theorem dvd_mul_sub {m a b c d : Int} (h : m ∣ a - b) (k : m ∣ c - d) : m ∣ a * c - b * d := by
  obtain ⟨x, hx⟩ := h
  obtain ⟨y, hy⟩ := k
  exact ⟨x * c + b * y, by grind⟩
theorem PM_of_dvd {x y m r : Int} (hm : 0 < m) (h : m ∣ r - x ^ y.toNat) (h0 : 0 ≤ r) (h1 : r < m) : r = PM x y m :=
  res_unique (dvd_trans_sub h (dvd_sub_symm (PM_dvd hm))) h0 h1 (PM_nn _ _ _) (PM_lt hm)
theorem PM_bd {x y m : Int} {k : Nat} (hm : 0 < m) (h : Bd k m) : Bd k (PM x y m) := Bd.of_lt (PM_nn _ _ _) (Int.le_of_lt (PM_lt hm)) h
theorem fmod_bd {x m : Int} {k : Nat} (hm : 0 < m) (h : Bd k m) : Bd k (x.fmod m) := Bd.of_lt (fmod_nn hm).1 (Int.le_of_lt (fmod_nn hm).2) h
theorem blinded_dvd {x b e n : Int} (hn : 0 < n) : n ∣ (x * PM b e n).fmod n - x * b ^ e.toNat := by
  obtain ⟨c, hc⟩ := fmod_dvd (a := x * PM b e n) hn
  obtain ⟨d, hd⟩ := PM_dvd (x := b) (y := e) hn
  exact ⟨c + x * d, by grind⟩
end Mine

namespace Mine
structure KeyS where
  n : Int
  e : Int
  d : Int
  p : Int
  q : Int
  x1 : Int
  x2 : Int
  cf : Int
  tn : Tok
  te : Tok
  td : Tok
  tp : Tok
  tq : Tok
  tx1 : Tok
  tx2 : Tok
  tcf : Tok
  k1 : Tok
  k2 : Tok
  k3 : Tok
  k4 : Tok
  k5 : Tok
  k6 : Tok
  k7 : Tok
  k8 : Tok
  k9 : Tok
  k10 : Tok
noncomputable abbrev keyE (w : World) (nm : Str) (k : Tok) (v : Value) : DictEntry := ⟨PyData.keyHash w.params nm, .str nm k, v⟩
noncomputable abbrev KeyL (w : World) (C x dx : Nat) (S : KeyS) (bf : Int) (tbf : Tok) (bi : Int) (tbi : Tok) : List (Addr × Obj) :=
  [(x, instObj C dx), (dx, dictOf [keyE w (Str.ofString "n") S.k1 (.int S.n S.tn), keyE w (Str.ofString "e") S.k2 (.int S.e S.te), keyE w (Str.ofString "blindfac") S.k3 (.int bf tbf), keyE w (Str.ofString "blindfac_inverse") S.k4 (.int bi tbi),
    keyE w (Str.ofString "d") S.k5 (.int S.d S.td), keyE w (Str.ofString "p") S.k6 (.int S.p S.tp), keyE w (Str.ofString "q") S.k7 (.int S.q S.tq), keyE w (Str.ofString "exp1") S.k8 (.int S.x1 S.tx1), keyE w (Str.ofString "exp2") S.k9 (.int S.x2 S.tx2), keyE w (Str.ofString "coef") S.k10 (.int S.cf S.tcf)] 10)]
noncomputable abbrev PubL (w : World) (C x dx : Nat) (S : KeyS) (bf : Int) (tbf : Tok) (bi : Int) (tbi : Tok) : List (Addr × Obj) :=
  [(x, instObj C dx), (dx, dictOf [keyE w (Str.ofString "n") S.k1 (.int S.n S.tn), keyE w (Str.ofString "e") S.k2 (.int S.e S.te), keyE w (Str.ofString "blindfac") S.k3 (.int bf tbf), keyE w (Str.ofString "blindfac_inverse") S.k4 (.int bi tbi)] 4)]
noncomputable def KOk (S : KeyS) : Prop := 0 < S.n ∧ Bd 1230 S.n ∧ (0 ≤ S.e ∧ Bd 1230 S.e)
noncomputable def BfOk (S : KeyS) (bf bi : Int) : Prop := (bf < 0 ∨ (0 ≤ bf ∧ Bd 1231 bf ∧ 0 ≤ bi ∧ bi ≤ S.n ∧ S.n ∣ bi * bf - 1))
theorem Bd.lt_succ {M : Nat} {a b : Int} (h : Bd M a) (h0 : 0 ≤ b) (h1 : b ≤ a + 1) : Bd (M + 1) b := by
  unfold Bd at *
  have : 2 ^ (M + 1) = 2 * 2 ^ M := by rw [Nat.pow_succ]; lia
  have : 0 < 2 ^ M := Nat.two_pow_pos M
  lia
theorem gcd_succ (n : Int) : Int.gcd n (n + 1) = 1 := by
  rw [Int.add_comm, Int.gcd_add_self_right]
  exact Int.gcd_one_right n
theorem BfOk.first {S : KeyS} {r i : Int} (hk : KOk S) (h2 : 2 ≤ r) (hb : Bd 1231 r) (h0 : 0 ≤ i) (h1 : i ≤ S.n) (hd : S.n ∣ i * r - 1) : BfOk S r i := .inr ⟨by lia, hb, h0, h1, hd⟩
theorem BfOk.next {S : KeyS} {bf bi : Int} (hk : KOk S) (h : BfOk S bf bi) (hn : ¬ bf < 0) : BfOk S (PM bf 2 S.n) (PM bi 2 S.n) := by
  rcases h with h | ⟨h1, h2, h3, h4, h5⟩
  · exact absurd h hn
  · refine .inr ⟨PM_nn _ _ _, Bd.of_lt (PM_nn _ _ _) (Int.le_of_lt (PM_lt hk.1)) (hk.2.1.mono (by decide)), PM_nn _ _ _, Int.le_of_lt (PM_lt hk.1), ?_⟩
    have a1 := PM_dvd (x := bf) (y := 2) hk.1
    have a2 := PM_dvd (x := bi) (y := 2) hk.1
    have a3 := dvd_mul_sub a2 a1
    refine dvd_trans_sub a3 ?_
    have a4 := dvd_mul_sub h5 h5
    obtain ⟨c, hc⟩ := a4
    refine ⟨c, ?_⟩
    show bi ^ 2 * bf ^ 2 - 1 = _
    grind
structure KRsa (S : KeyS) : Prop where
  ok : KOk S
  npq : S.n = S.p * S.q
  p0 : 0 < S.p
  q0 : 0 < S.q
  pB : Bd 610 S.p
  qB : Bd 610 S.q
  dB : Bd 1230 S.d
  c0 : 0 ≤ S.cf
  c1 : S.cf ≤ S.p
  cd : S.p ∣ S.cf * S.q - 1
  x10 : 0 ≤ S.x1
  x20 : 0 ≤ S.x2
  d0 : 0 ≤ S.d
  xp : ∀ z : Int, S.p ∣ z ^ S.x1.toNat - z ^ S.d.toNat
  xq : ∀ z : Int, S.q ∣ z ^ S.x2.toNat - z ^ S.d.toNat
  both : ∀ a : Int, S.p ∣ a → S.q ∣ a → S.n ∣ a
  ed : ∀ z : Int, S.n ∣ z ^ (S.e.toNat * S.d.toNat) - z
theorem KRsa.benc {S : KeyS} {r y b i u : Int} (K : KRsa S) (h1 : S.n ∣ r - y * b ^ S.e.toNat) (hb : BfOk S b i) (hb0 : 0 ≤ b) (u0 : 0 ≤ u) (u1 : u < S.n)
    (hu : S.n ∣ u - i * PM r S.d S.n) : u = PM y S.d S.n := by
  have hbi : S.n ∣ i * b - 1 := by
    rcases hb with h | ⟨_, _, _, _, h⟩
    · lia
    · exact h
  refine PM_of_dvd K.ok.1 ?_ u0 u1
  have e4 := PM_dvd (x := r) (y := S.d) K.ok.1
  have e5 := pow_dvd_sub h1 S.d.toNat
  have e6 : S.n ∣ (y * b ^ S.e.toNat) ^ S.d.toNat - y ^ S.d.toNat * b := by
    have := K.ed b
    rw [Int.mul_pow, ← Int.pow_mul]
    obtain ⟨c, hc⟩ := this
    exact ⟨y ^ S.d.toNat * c, by grind⟩
  have e7 := dvd_trans_sub e4 (dvd_trans_sub e5 e6)
  obtain ⟨a1, q1⟩ := e7
  obtain ⟨a2, q2⟩ := hu
  obtain ⟨a3, q3⟩ := hbi
  exact ⟨a2 + i * a1 + y ^ S.d.toNat * a3, by grind⟩
theorem BfOk.bd {S : KeyS} {b i : Int} (hk : KOk S) (h : BfOk S b i) (h0 : 0 ≤ b) : Bd 1231 i := by
  rcases h with h | ⟨_, _, h3, h4, _⟩
  · lia
  · exact Bd.of_lt h3 h4 (hk.2.1.mono (by decide))
noncomputable def PrOk (r : Int) : Prop := 3 ≤ r ∧ Bd 607 r ∧ Pr r.toNat
theorem prOk_of {n : Nat} (h3 : 3 ≤ n) (hb : n < 2 ^ 607) (hp : Pr n) : PrOk (n : Int) := ⟨by lia, hb, hp⟩
theorem four_le {p q : Int} (hp : 3 ≤ p) (hq : 3 ≤ q) : 4 ≤ (p - 1) * (q - 1) := by
  obtain ⟨a, rfl⟩ : ∃ a, p = a + 3 := ⟨p - 3, by lia⟩
  obtain ⟨b, rfl⟩ : ∃ b, q = b + 3 := ⟨q - 3, by lia⟩
  have h : 0 ≤ a * b := Int.mul_nonneg (by lia) (by lia)
  have e : (a + 3 - 1) * (b + 3 - 1) = a * b + 2 * a + 2 * b + 4 := by grind
  lia
theorem pq_lt {p q : Int} (hp : 3 ≤ p) (hq : 3 ≤ q) : (p - 1) * (q - 1) + 5 ≤ p * q ∧ 9 ≤ p * q := by
  have e : p * q = (p - 1) * (q - 1) + (p - 1) + (q - 1) + 1 := by grind
  have := four_le hp hq
  lia
end Mine

namespace Mine
theorem Pr.powI {p : Nat} (h : Pr p) (z : Int) (j : Nat) : (p : Int) ∣ z ^ (1 + j * (p - 1)) - z := by
  have hp : (0 : Int) < (p : Int) := by have := h.1; lia
  obtain ⟨r, hr⟩ : ∃ r : Nat, (r : Int) = z % (p : Int) := ⟨(z % (p : Int)).toNat, Int.toNat_of_nonneg (Int.emod_nonneg _ (by lia))⟩
  have h1 : (p : Int) ∣ (r : Int) - z := hr ▸ emod_dvd (p : Int) z
  have h2 : (p : Int) ∣ (r : Int) ^ (1 + j * (p - 1)) - (r : Int) := by
    have h3 := h.pow1 (a := r) (k := 1 + j * (p - 1)) (j := j) rfl
    have h4 : (((r ^ (1 + j * (p - 1)) : Nat) : Int)) % (p : Int) = ((r : Nat) : Int) % (p : Int) := by
      rw [← Int.natCast_emod, ← Int.natCast_emod, h3]
    have h5 := Int.dvd_of_emod_eq_zero (Int.emod_eq_emod_iff_emod_sub_eq_zero.mp h4)
    rwa [Int.natCast_pow] at h5
  exact dvd_trans_sub (dvd_sub_symm (pow_dvd_sub h1 _)) (dvd_trans_sub h2 h1)
theorem Pr.powC {p : Nat} (h : Pr p) (z : Int) {a b j : Nat} (ha : 1 ≤ a) (hb : b = a + j * (p - 1)) : (p : Int) ∣ z ^ a - z ^ b := by
  obtain ⟨c, rfl⟩ : ∃ c, a = c + 1 := ⟨a - 1, by lia⟩
  have e1 : b = c + (1 + j * (p - 1)) := by lia
  rw [e1, Int.pow_add, Int.pow_add, Int.pow_one]
  obtain ⟨k, hk⟩ := h.powI z j
  refine ⟨z ^ c * -k, ?_⟩
  generalize z ^ (1 + j * (p - 1)) = y at *
  generalize z ^ c = x at *
  have : y = z + (p : Int) * k := by lia
  subst this
  grind
theorem fmod_div_eq {d m : Int} (hm : 0 < m) (hd : 0 ≤ d) : ∃ j : Nat, d.toNat = (d.fmod m).toNat + j * m.toNat := by
  refine ⟨(d / m).toNat, ?_⟩
  have h0 := Int.emod_nonneg d (show m ≠ 0 by lia)
  have h1 := Int.emod_add_mul_ediv d m
  have h2 : 0 ≤ d / m := Int.ediv_nonneg hd (by lia)
  rw [Int.fmod_eq_emod_of_nonneg _ (by lia)]
  have h3 : ((d.toNat : Nat) : Int) = (((d % m).toNat + (d / m).toNat * m.toNat : Nat) : Int) := by
    rw [Int.natCast_add, Int.natCast_mul, Int.toNat_of_nonneg hd, Int.toNat_of_nonneg h0, Int.toNat_of_nonneg h2, Int.toNat_of_nonneg (by lia)]
    rw [Int.mul_comm]; lia
  exact_mod_cast h3
theorem PrOk.f1 {p : Int} (h : PrOk p) : 3 ≤ p := h.1
theorem PrOk.f2 {p : Int} (h : PrOk p) : Bd 607 p := h.2.1
theorem prime_share {p : Int} (hp : PrOk p) {d e : Int} (hd : 0 ≤ d) (he : 0 ≤ e) (hm : (p - 1) ∣ d * e - 1) :
    0 ≤ d.fmod (p - 1) ∧ (∀ z : Int, p ∣ z ^ (d.fmod (p - 1)).toNat - z ^ d.toNat) ∧ (∀ z : Int, p ∣ z ^ (e.toNat * d.toNat) - z) := by
  obtain ⟨h3, -, hpr⟩ := hp
  have hpn : ((p.toNat : Nat) : Int) = p := Int.toNat_of_nonneg (by lia)
  have hpt : (p - 1).toNat = p.toNat - 1 := by lia
  have hf := fmod_nn (a := d) (b := p - 1) (by lia)
  refine ⟨hf.1, fun z => ?_, fun z => ?_⟩
  · obtain ⟨j, hj⟩ := fmod_div_eq (m := p - 1) (by lia) hd
    rw [hpt] at hj
    have h1 : 1 ≤ (d.fmod (p - 1)).toNat := by
      refine Nat.pos_of_ne_zero fun hz => ?_
      have hz' : d.fmod (p - 1) = 0 := by lia
      have h4 := fmod_dvd (a := d) (m := p - 1) (by lia)
      rw [hz'] at h4
      obtain ⟨u, hu⟩ := h4
      obtain ⟨v, hv⟩ := hm
      have h5 : (p - 1) * (-(u * e) - v) = 1 := by
        have : d = -((p - 1) * u) := by lia
        subst this
        grind
      have h6 : (p - 1) ∣ 1 := ⟨_, h5.symm⟩
      have := Int.le_of_dvd (by decide) h6
      lia
    have := hpr.powC z h1 hj
    rwa [hpn] at this
  · obtain ⟨v, hv⟩ := hm
    have hde : 0 ≤ d * e := Int.mul_nonneg hd he
    have hv0 : 0 ≤ v := by
      refine Int.not_lt.mp fun hc => ?_
      have h7 : (p - 1) * v ≤ (p - 1) * (-1) := Int.mul_le_mul_of_nonneg_left (by lia) (by lia)
      lia
    have h8 : e.toNat * d.toNat = 1 + v.toNat * (p.toNat - 1) := by
      have h9 : (((e.toNat * d.toNat : Nat)) : Int) = ((1 + v.toNat * (p.toNat - 1) : Nat) : Int) := by
        rw [Int.natCast_mul, Int.natCast_add, Int.natCast_mul, Int.toNat_of_nonneg hd, Int.toNat_of_nonneg he, Int.toNat_of_nonneg hv0, ← hpt, Int.toNat_of_nonneg (by lia)]
        have e1 : e * d = d * e := Int.mul_comm ..
        have e2 : v * (p - 1) = (p - 1) * v := Int.mul_comm ..
        rw [e1, e2]
        show d * e = 1 + _
        lia
      exact_mod_cast h9
    have := hpr.powI z v.toNat
    rw [← h8, hpn] at this
    exact this
theorem primes_gcd {p q : Int} (hp : PrOk p) (hq : PrOk q) (hne : p ≠ q) : Int.gcd q p = 1 := by
  obtain ⟨h3, -, hpr⟩ := hp
  obtain ⟨k3, -, hqr⟩ := hq
  have e1 : q.natAbs = q.toNat := by lia
  have e2 : p.natAbs = p.toNat := by lia
  show Nat.gcd q.natAbs p.natAbs = 1
  rw [e1, e2]
  refine hqr.coprime fun hd => ?_
  rcases hpr.2 _ hd with h | h <;> lia
theorem both_dvd {p q a : Int} (hg : Int.gcd q p = 1) (h1 : p ∣ a) (h2 : q ∣ a) : p * q ∣ a := by
  obtain ⟨u, rfl⟩ := h1
  have h3 : q ∣ u := by
    have h4 := Int.natAbs_dvd_natAbs.mpr h2
    rw [Int.natAbs_mul] at h4
    exact Int.natAbs_dvd_natAbs.mp (Nat.Coprime.dvd_of_dvd_mul_left hg h4)
  obtain ⟨v, rfl⟩ := h3
  exact ⟨v, by grind⟩
theorem KRsa.made {S : KeyS} {p q e d : Int} (hp : PrOk p) (hq : PrOk q) (hne : p ≠ q) (he : 0 ≤ e) (heB : Bd 1230 e) (hd : 0 ≤ d) (hd1 : d < (p - 1) * (q - 1)) (hed : (p - 1) * (q - 1) ∣ d * e - 1)
    (en : S.n = p * q) (ee : S.e = e) (ed : S.d = d) (ep : S.p = p) (eq : S.q = q) (e1 : S.x1 = d.fmod (p - 1)) (e2 : S.x2 = d.fmod (q - 1)) (c0 : 0 ≤ S.cf) (c1 : S.cf ≤ p) (cd : p ∣ S.cf * q - 1) : KRsa S := by
  have hg := primes_gcd hp hq hne
  have sp := prime_share hp hd he (Int.dvd_trans ⟨q - 1, rfl⟩ hed)
  have sq := prime_share hq hd he (Int.dvd_trans ⟨p - 1, Int.mul_comm ..⟩ hed)
  have p3 := hp.1
  have q3 := hq.1
  have hpq := pq_lt p3 q3
  have hB : Bd 1214 (p * q) := hp.2.1.mul hq.2.1
  have hb : ∀ a : Int, p ∣ a → q ∣ a → p * q ∣ a := fun a => both_dvd hg
  obtain ⟨n', e', d', p', q', x1', x2', cf', tn, te, td, tp, tq, tx1, tx2, tcf, k1, k2, k3, k4, k5, k6, k7, k8, k9, k10⟩ := S
  dsimp only at en ee ed ep eq e1 e2 c0 c1 cd
  subst en ee ed ep eq e1 e2
  exact ⟨⟨by dsimp only; lia, hB.mono (by decide), he, heB⟩, rfl, by dsimp only; lia, by dsimp only; lia, hp.2.1.mono (by decide), hq.2.1.mono (by decide), Bd.of_lt hd (by dsimp only at hd1 ⊢; lia) (hB.mono (by decide)), c0, c1, cd, sp.1, sq.1, hd, sp.2.1, sq.2.1, hb, fun z => hb _ (sp.2.2 z) (sq.2.2 z)⟩
theorem dB_pq {p q : Int} (hp : PrOk p) (hq : PrOk q) : Bd 1230 ((p - 1) * (q - 1)) := by
  have h1 := hp.1
  have h2 := hq.1
  have h3 := four_le h1 h2
  have h4 := pq_lt h1 h2
  exact Bd.of_lt (by lia) (by lia) ((hp.2.1.mul hq.2.1).mono (by decide))
end Mine

namespace Mine
theorem code_defCR {prog : Program} {w : World} {A₀ A : Around} {s : Shared} {K : Frag} {L : Addr} {h₀ base : Heap} {m mg mb : Str → Option Value} {news : List (Addr × Obj)} {p : Program} {loose : List Str} {mean : ExcName → Option Value}
    {env : Env} {outer : List Env} {R : Result → Shared → Prop} {name qual : Str} {params : Arguments} {body : List Stmt} {scope : Scope} {dV kV doc pm cdv ct oc : Value} {an od : Option Addr} {osl : Array (Option Value)} {f : Addr} {args : Args} {binds : List (Str × Value)}
    (B : Below A₀ base outer h₀) (F : Fr h₀ L s.heap m) (X₀ : K.In h₀) (N : News h₀ L s.heap news) (T : Top p loose mean mg mb h₀) (hA : A.frames = some (env :: outer)) (hf : env.frame = some L) (hke : env.scope.kind = .function)
    (ho : K.lookup f = some ⟨oc, od, .func (fnOf name qual params body scope dV kV doc pm an cdv ct), osl⟩) (hcd : codeIn K cdv qual = true) (hroom : A.depth < recursionLimit)
    (hbind : BindsTo s (fnOf name qual params body scope dV kV doc pm an cdv ct) args binds) (hkind : (binds.all fun y => scope.names.lookup y.1 == some .local || scope.names.lookup y.1 == some .cell) = true)
    (hnd : ((cellsFrom 0 scope.names []).map (·.1)).Nodup)
    (h : ∀ g L' h₁ tk cells, Fr h₀ L g m → Fr g L' h₁ (bindL (envOfC qual scope L' f cdv).kindOf binds fun _ => none) → News g L' h₁ (cells ++ news) →
      CellsAre (bindC (envOfC qual scope L' f cdv).kindOf binds fun _ => none) (cellsFrom (L' + 1) scope.names []) cells → Below A base (env :: outer) g → K.In g → Top p loose mean mg mb g →
      (∀ b o, s.heap.get? b = some o → b ∉ news.map (·.1) → g.get? b = some o) → (∀ b o, s.heap.get? b = some o → b < L') →
      wpAny (model prog w) (A.deeper (envOfC qual scope L' f cdv)) (execs body (envOfC qual scope L' f cdv))
        (fun fl s' => LeaveK h₀ L m g R (match fl with | .ret v => v | _ => .none) s')
        (fun e s' => wpAny (model prog w) (A.deeper (envOfC qual scope L' f cdv)) (leaving (envOfC qual scope L' f cdv) e) (fun _ s'' => R (.error e) s'') (fun e' s'' => R (.error e') s'') s')
        { s with heap := h₁, toks := tk })
    (hco : scope.isCoroutine = false) (hgen : scope.isGenerator = false) (hk : scope.kind = .function) : codeAny (model prog w) A (.call (.ref f) args) R s := by
  obtain ⟨FG, BG, st, lv⟩ := groundX (R := R) B F N hA hf hke
  refine codeAny_call_function hroom ((X₀.keeps F.keep) _ _ ho) rfl hco hgen rfl (codeRec_of (X₀.keeps F.keep) hcd) (hbind _ _ _ _ ?_)
  refine wpAny_newFunctionEnv_cells hk (kindsX hkind _) fun env' he s' x => ?_
  subst he
  refine ⟨(T.nolimit.keeps F.keep).keeps x.toInCall.keep, codeAny_func ?_⟩
  obtain ⟨h₁, tk, rfl, _⟩ := x.done
  have hk₁ := x.toInCall.keep
  obtain ⟨cells, NC, Y⟩ := Cl.news (h₀ := s.heap) (Nat.le_refl _) fun n c hm => ⟨x.cell n c (lookup_of_mem_nodup (cellsFrom_names scope.names 0 (s.heap.objs.size + 1) [] [] rfl ▸ hnd) hm), x.above n c hm⟩
  refine wpAny_mono (h _ s.heap.objs.size h₁ tk cells FG ⟨x.toInCall.ns, fun b o e => hk₁ b o (of_hideAll _ e), Nat.le_of_eq (hideAll_size _ _)⟩ (fun p hp => ?_) Y BG (X₀.keeps st) (T.keeps st) (fun b o e hb => hideAll_get _ e hb) (fun b o e => Heap.lt_size e)) (fun fl s' hl => lv _ _ hl) fun _ _ y => y
  rcases List.mem_append.mp hp with hp | hp
  · refine ⟨(NC p hp).1, (NC p hp).2.1, ?_⟩
    cases q : (hideAll s.heap (news.map (·.1))).get? p.1 with
    | none => rfl
    | some o => have := of_hideAll _ q; rw [(NC p hp).2.2] at this; cases this
  · exact ⟨hk₁ _ _ (N p hp).1, Nat.ne_of_lt (Heap.lt_size (N p hp).1), hideAll_none _ (List.mem_map_of_mem hp)⟩

section
variable {prog : Program} {w : World} {A : Around} {E : Value → Shared → Prop} {s : Shared} {env : Env} {h₀ : Heap} {target : Expr} {body : List Stmt} {Q : Flow → Shared → Prop}
noncomputable def TurnS {σ : Type} (Led : σ → List (Addr × Obj)) (ps : σ → List (Str × Value)) (stored : List Str) (m₀ : Str → Option Value) (P : σ → Prop) (m : Str → Option Value) (nx : List (Addr × Obj)) : Prop :=
  ∃ c : σ, nx = Led c ∧ (∀ p ∈ ps c, m p.1 = some p.2) ∧ (∀ z, (∀ p ∈ ps c, z ≠ p.1) → stored.contains z = false → m z = m₀ z) ∧ P c
theorem m_endT {σ : Type} {L : Addr} {Led : σ → List (Addr × Obj)} {ps : σ → List (Str × Value)} {stored : List Str} {m₀ : Str → Option Value} {P : σ → Prop} (c : σ) {m' : Str → Option Value} {own news' : List (Addr × Obj)} {adr : List Addr} {s₁ : Shared} {h' : Heap} {tk : Nat}
    (F : Fr h₀ L h' m') (N : News h₀ L h' news') (hn : ∀ p ∈ Led c, p ∈ news') (ho : ∀ p ∈ own, p ∈ news') (ha : (Led c).map (·.1) = adr) (hk : ∀ p ∈ ps c, m' p.1 = some p.2) (hr : ∀ z, (∀ p ∈ ps c, z ≠ p.1) → stored.contains z = false → m' z = m₀ z) (hp : P c) :
    InvEndN h₀ L (TurnS Led ps stored m₀ P) own adr s₁ { s₁ with heap := h', toks := tk } :=
  InvEndN.intro F N ⟨c, rfl, hk, hr, hp⟩ ha hn ho
end
section
 open PyProof.Rows.LCg PyProof.Rows.LCt
variable {prog : Program} {w : World} {A : Around} {s : Shared} {h₀ : Heap} {L : Addr} {m : Str → Option Value} {env : Env}
theorem compEnd_mono {s₁ s₂ : Shared} {I C D : Addr} {oI oC oD : Obj} {S : List (Addr × Obj) → Prop} {r r' : Value → List (Addr × Obj) → Prop} {y : Value} (h : CompEnd h₀ L m s₁ I oI C oC D oD S r y s₂) (k : ∀ n, r y n → r' y n) : CompEnd h₀ L m s₁ I oI C oC D oD S r' y s₂ := by
  obtain ⟨h', tk, n', a, b, c, d, e, f⟩ := h
  exact ⟨h', tk, n', a, b, c, d, e, k _ f⟩
end
end Mine

namespace Mine
noncomputable def Fly (B : Heap) (l : List Env) (e : Addr) (cls : Value) (dd : Option Addr) (fl : Value) (h : Heap) : Prop :=
  B.StaysIn h ∧ B.get? e = none ∧ h.FunFrames B l ∧ ∃ oe vs T oT ts, h.get? e = some oe ∧ oe.cls = cls ∧ oe.dict = dd ∧ oe.data = .fields vs ∧ vs[1]? = some (.ref T) ∧ B.get? T = none ∧ T ≠ e ∧ h.get? T = some oT ∧ oT.data = .fields ts ∧ ts[3]? = some fl
theorem dict_mapFields (o : Obj) (f) : (o.mapFields f).dict = o.dict := by
  unfold Obj.mapFields; split <;> rfl
theorem Fly.tail {B h : Heap} {env : Env} {l : List Env} {e : Addr} {cls fl : Value} {dd : Option Addr} (x : Fly B (env :: l) e cls dd fl h) : Fly B l e cls dd fl h := by
  obtain ⟨f1, f2, ⟨_, _, f3⟩, r⟩ := x
  exact ⟨f1, f2, f3, r⟩
theorem Fly.there {B h : Heap} {l : List Env} {e : Addr} {cls fl : Value} {dd : Option Addr} (x : Fly B l e cls dd fl h) : ∃ ob, h.get? e = some ob ∧ ob.cls = cls := by
  obtain ⟨_, _, _, oe, _, _, _, _, a1, a2, _⟩ := x
  exact ⟨oe, a1, a2⟩
section
variable {M : Model} {A : Around} {E : Value → Shared → Prop} {s : Shared} {B : Heap} {env : Env} {outer l : List Env} {L e : Addr} {cls fl : Value} {dd : Option Addr}
theorem upd_other {h : Heap} {T : Addr} {oT : Obj} {ts : Array Value} (hT : h.get? T = some oT) (hd : oT.data = .fields ts) (f : Obj → Obj) :
    (∀ b, b ≠ T → (h.update T f).get? b = h.get? b) ∧ ∀ b o, h.get? b = some o → (∀ vs, o.data ≠ .fields vs) → b ≠ T :=
  ⟨fun _ hb => Heap.get?_update_other _ _ (Ne.symm hb), fun b o hb hn q => by subst q; rw [hT] at hb; cases hb; exact hn ts hd⟩
theorem fly_entry {oe : Obj} {vs : Array Value} {head : Value} {hadNext : Bool} {Q : Unit → Shared → Prop}
    (hfr : A.frames = some (env :: outer)) (hl : s.heap.FunFrames B (env :: outer)) (hf : env.frame = some L)
    (he : s.heap.get? e = some oe) (hkb : B.StaysIn s.heap) (hen : B.get? e = none) (hd : oe.data = .fields vs) (hsz : 1 < vs.size)
    (h : ∀ h', Fly B (env :: outer) e oe.cls oe.dict (rawInt L) h' → s.heap.UpToSlots h' → Q () { s with heap := h' }) :
    wpAny M A (do let a ← frameOf env; let pl ← entryPlaceOf L hadNext; let b ← EntryCells.newEntry head a .none (rawInt L) .none pl; setField (.ref e) 1 b) Q E s := by
  have hene : e ∉ (env :: outer).filterMap (·.frame) := fun hm => by
    obtain ⟨_, o, ho, hnf⟩ := hl.mem hm
    rw [he] at ho; cases ho; exact hnf vs hd
  refine wpAny_bind (wpAny_frameOf_fun hfr hl hf fun h₁ S => ?_)
  refine wpAny_bind (wpAny_entryPlaceOf fun pl hpl => ?_)
  unfold EntryCells.newEntry newFields
  refine wpAny_bind (wpAny_newObj_type ?_ (hpl.sizeOk5 _ _ _ _ _))
  generalize hts : ([head, Value.ref L, Value.none, rawInt L, Value.none] ++ (if pl.isEmpty then List.replicate 6 Value.none else pl)).toArray = ts
  have h3 : ts[3]? = some (rawInt L) := by rw [← hts]; simp
  have he₁ := (S.2.1 e hene).trans he
  have kb₁ : B.StaysIn h₁ := fun b o hb => (S.2.1 b fun hm => by rw [(hl.mem hm).1] at hb; cases hb).trans (hkb b o hb)
  have hlt := Heap.lt_size he₁
  have he₂ := Heap.get?_push_of_some (h := h₁) { cls := .type "traceback", dict := none, data := .fields ts } he₁
  obtain ⟨O, NR⟩ := upd_other he₂ hd (Obj.mapFields (·.setIfInBounds 1 (Value.ref h₁.objs.size)))
  have hne : h₁.objs.size ≠ e := Nat.ne_of_gt hlt
  refine wpAny_setField he₂ hd hsz (h _ ⟨fun b o hb => ?_, hen, hl.of_keeps fun b o hb hn => ?_, ?_⟩ fun b o hb hn => ?_)
  · have q := kb₁ b o hb
    rw [O b (fun z => by rw [z, hen] at hb; cases hb)]
    exact Heap.get?_push_of_some _ q
  · obtain ⟨sl, q⟩ := S.2.2 b o hb
    have q' := Heap.get?_push_of_some (h := h₁) { cls := .type "traceback", dict := none, data := .fields ts } q
    exact ⟨_, (O b (NR _ _ q' hn)).trans q', rfl⟩
  · have hd' := Obj.data_mapFields hd (·.setIfInBounds 1 (Value.ref h₁.objs.size))
    exact ⟨_, _, h₁.objs.size, _, ts, Heap.get?_update_self _ he₂ (Obj.isFreed_of_fields hd'), Obj.cls_mapFields _ _, dict_mapFields _ _, hd', by simp [hsz], kb₁.fresh, hne, (O _ hne).trans (Heap.get?_push_size h₁ rfl), rfl, h3⟩
  · obtain ⟨sl, q⟩ := S.2.2 b o hb
    have q' := Heap.get?_push_of_some (h := h₁) { cls := .type "traceback", dict := none, data := .fields ts } q
    exact ⟨sl, (O b (NR _ _ q' hn)).trans q'⟩
theorem fly_first {oe : Obj} {vs : Array Value} {Q : Unit → Shared → Prop} (hfr : A.frames = some (env :: outer)) (hl : s.heap.FunFrames B (env :: outer)) (hf : env.frame = some L)
    (he : s.heap.get? e = some oe) (hkb : B.StaysIn s.heap) (hen : B.get? e = none) (hd : oe.data = .fields vs) (h1 : vs[1]? = some .none)
    (h : ∀ h', Fly B (env :: outer) e oe.cls oe.dict (rawInt L) h' → s.heap.UpToSlots h' → Q () { s with heap := h' }) : wpAny M A (noteFrame (.ref e) env) Q E s := by
  unfold noteFrame
  simp only [hf]
  refine wpAny_bind (wpAny_field he hd h1 ?_)
  rw [if_neg (by decide)]
  exact fly_entry hfr hl hf he hkb hen hd (Array.getElem?_eq_some_iff.mp h1).1 h
theorem fly_mark {nf : Value} {oe : Obj} {vs : Array Value} {T : Addr} {oT : Obj} {ts : Array Value} {h : Heap} (f1 : B.StaysIn h) (f2 : B.get? e = none) (f3 : h.FunFrames B l)
    (a1 : h.get? e = some oe) (a2 : oe.cls = cls) (a3 : oe.dict = dd) (a4 : oe.data = .fields vs) (a5 : vs[1]? = some (.ref T)) (a6 : B.get? T = none) (a7 : T ≠ e) (a8 : h.get? T = some oT) (a9 : oT.data = .fields ts) (hs : 3 < ts.size) :
    Fly B l e cls dd nf (h.update T (Obj.mapFields (·.setIfInBounds 3 nf))) ∧ h.UpToSlots (h.update T (Obj.mapFields (·.setIfInBounds 3 nf))) := by
  obtain ⟨O, NR⟩ := upd_other a8 a9 (Obj.mapFields (·.setIfInBounds 3 nf))
  refine ⟨⟨fun b o q => (O b fun z => by rw [z, a6] at q; cases q).trans (f1 b o q), f2, f3.of_keeps fun b o hb hn => ⟨o, (O b (NR b o hb hn)).trans hb, rfl⟩, ?_⟩, fun b o hb hn => ⟨o.slots, (O b (NR b o hb hn)).trans hb⟩⟩
  have hd' := Obj.data_mapFields a9 (·.setIfInBounds 3 nf)
  exact ⟨oe, vs, T, _, _, (O e (Ne.symm a7)).trans a1, a2, a3, a4, a5, a6, a7, Heap.get?_update_self _ a8 (Obj.isFreed_of_fields hd'), hd', by simp [hs]⟩
theorem fly_next {Q : Unit → Shared → Prop} (hfr : A.frames = some (env :: outer)) (hf : env.frame = some L) (x : Fly B (env :: outer) e cls dd .none s.heap)
    (h : ∀ h', Fly B (env :: outer) e cls dd (rawInt L) h' → s.heap.UpToSlots h' → Q () { s with heap := h' }) : wpAny M A (noteFrame (.ref e) env) Q E s := by
  obtain ⟨f1, f2, f3, oe, vs, T, oT, ts, a1, a2, a3, a4, a5, a6, a7, a8, a9, a10⟩ := x
  unfold noteFrame
  simp only [hf]
  refine wpAny_bind (wpAny_field a1 a4 a5 ?_)
  rw [if_pos (show (Value.ref T != Value.none) = true from by simp)]
  refine wpAny_bind (wpAny_field a8 a9 a10 ?_)
  rw [if_neg (show ¬ ((Value.none == rawInt L) = true) from by simp [rawInt])]
  have hs := (Array.getElem?_eq_some_iff.mp a10).1
  refine wpAny_bind (wpAny_setField a8 a9 hs ?_)
  obtain ⟨⟨k1, k2, k3, oe', vs', T', oT', ts', b1, b2, b3, b4, b5, -⟩, u⟩ := fly_mark (nf := .none) f1 f2 f3 a1 a2 a3 a4 a5 a6 a7 a8 a9 hs
  subst b2; subst b3
  exact fly_entry hfr k3 hf b1 k1 k2 b4 (Array.getElem?_eq_some_iff.mp b5).1 fun h' y v => h h' y (u.trans v)
theorem fly_off {Q : Unit → Shared → Prop} (x : Fly B l e cls dd fl s.heap) (h : ∀ h', Fly B l e cls dd .none h' → s.heap.UpToSlots h' → Q () { s with heap := h' }) : wpAny M A (setFlight (.ref e) none) Q E s := by
  obtain ⟨f1, f2, f3, oe, vs, T, oT, ts, a1, a2, a3, a4, a5, a6, a7, a8, a9, a10⟩ := x
  have hs := (Array.getElem?_eq_some_iff.mp a10).1
  unfold setFlight
  refine wpAny_bind (wpAny_field a1 a4 a5 ?_)
  rw [if_pos (show (Value.ref T != Value.none) = true from by simp)]
  obtain ⟨k, u⟩ := fly_mark (nf := (none : Option Addr).elim Value.none fun f => rawInt f) f1 f2 f3 a1 a2 a3 a4 a5 a6 a7 a8 a9 hs
  exact wpAny_setField a8 a9 hs (h _ k u)
end
end Mine

namespace Mine
noncomputable def RaisedD (base G : Heap) (l : List Env) (e : Addr) (cls : Value) (dd : Option Addr) (news : List (Addr × Obj)) (h : Heap) : Prop :=
  ∃ B, base.StaysIn B ∧ (∀ b o, G.get? b = some o → b ∉ l.filterMap (·.frame) → B.get? b = some o) ∧ (∀ q ∈ news, B.get? q.1 = some q.2 ∧ G.get? q.1 = none ∧ base.get? q.1 = none) ∧ Fly B l e cls dd .none h
section
variable {M : Model} {A : Around} {E : Value → Shared → Prop} {s' : Shared} {base g g₂ : Heap} {outer : List Env} {L a e : Addr} {m : Str → Option Value} {name : Str} {scope : Scope} {cd : Value} {Q : Unit → Shared → Prop} {news : List (Addr × Obj)}
theorem leaving_eq {env : Env} {v : Value} (h : wpAny M A (noteFrame v env) (fun _ s₂ => wpAny M A (setFlight v none) Q E s₂) E s') : wpAny M A (leaving env v) Q E s' := by
  unfold leaving
  exact wpAny_bind h
theorem leave_raiseD {oe : Obj} {vs : Array Value} (K : Below A base outer g) (F : Fr g L s'.heap m) (N : News g L s'.heap ((e, oe) :: news)) (hd : oe.data = .fields vs) (h1 : vs[1]? = some .none) (hne : ∀ q ∈ news, @Ne Nat q.1 e)
    (hQ : ∀ h', RaisedD base g outer e oe.cls oe.dict news h' → g.UpToSlots h' → Q () { s' with heap := h' }) (hk : scope.kind = .function := by rfl) :
    wpAny M (A.deeper (envOf name scope L a cd)) (leaving (envOf name scope L a cd) (.ref e)) Q E s' := by
  have K' := K.push (name := name) (a := a) (cd := cd) F hk
  generalize hfs : (envOf name scope L a cd :: outer).filterMap (·.frame) = fs at *
  have hee := N (e, oe) (.head _)
  have heb : base.get? e = none := fresh_of_stays K.stays hee.2.2
  have hefs : e ∉ fs := fun hm => by
    subst hfs
    obtain ⟨_, o, ho, hnf⟩ := K'.frames.mem hm
    rw [hee.1] at ho; cases ho; exact hnf vs hd
  have st : base.StaysIn (hideAll s'.heap (e :: fs)) := fun b o q => hideAll_get _ (K'.stays b o q) fun hm => by
    rcases List.mem_cons.mp hm with z | z
    · subst z; rw [heb] at q; cases q
    · subst hfs; rw [(K'.frames.mem z).1] at q; cases q
  have hb : ∀ b ∈ (e :: fs), (hideAll s'.heap (e :: fs)).get? b = none := fun b hb => hideAll_none _ hb
  refine leaving_eq (fly_first K'.stack (B := hideAll s'.heap (e :: fs)) (funFrames_hide K'.frames fun env he b hf => .tail _ (hfs ▸ List.mem_filterMap.mpr ⟨env, he, hf⟩)) rfl hee.1 (fun b o q => of_hideAll _ q) (hb e (.head _)) hd h1 fun h₁ y₁ u₁ => ?_)
  refine fly_off y₁ fun h₂ y₂ u₂ => hQ h₂ ⟨_, st, fun b o q nm => ?_, fun q hq => ⟨?_, (N q (.tail _ hq)).2.2, fresh_of_stays K.stays (N q (.tail _ hq)).2.2⟩, y₂.tail⟩ ((Heap.UpToSlots.of_keeps F.keep).trans (u₁.trans u₂))
  · refine hideAll_get _ (F.keep b o q) fun hm => ?_
    rcases List.mem_cons.mp hm with z | z
    · subst z; rw [hee.2.2] at q; cases q
    · subst hfs
      rcases kts_mem z with z | z
      · rw [z, kts_self F] at q; cases q
      · exact nm z
  · refine hideAll_get _ (N q (.tail _ hq)).1 fun hm => ?_
    rcases List.mem_cons.mp hm with z | z
    · exact hne q hq z
    · subst hfs
      rcases kts_mem z with z | z
      · exact (N q (.tail _ hq)).2.1 z
      · obtain ⟨o, ho, _⟩ := (K.frames.mem z).2
        rw [(N q (.tail _ hq)).2.2] at ho; cases ho
theorem leave_onD {cls : Value} {dd : Option Addr} (K : Below A base outer g) (F : Fr g L g₂ m) (R : RaisedD base g₂ (envOf name scope L a cd :: outer) e cls dd news s'.heap) (hsm : g₂.UpToSlots s'.heap)
    (hQ : ∀ h', RaisedD base g outer e cls dd news h' → g.UpToSlots h' → Q () { s' with heap := h' }) :
    wpAny M (A.deeper (envOf name scope L a cd)) (leaving (envOf name scope L a cd) (.ref e)) Q E s' := by
  obtain ⟨B, hB, hBG, hl, x⟩ := R
  refine leaving_eq (fly_next (Around.frames_deeper K.stack) rfl x fun h₁ y₁ u₁ => fly_off y₁ fun h₂ y₂ u₂ => hQ h₂ ⟨B, hB, fun b o q nm => hBG b o (F.keep b o q) fun hm => ?_, fun q hq => ⟨(hl q hq).1, kts_none F.keep (hl q hq).2.1, (hl q hq).2.2⟩, y₂.tail⟩ ((Heap.UpToSlots.of_keeps F.keep).trans (hsm.trans (u₁.trans u₂))))
  rcases kts_mem hm with z | z
  · rw [z, kts_self F] at q; cases q
  · exact nm z
end
section
variable {prog : Program} {w : World} {A₀ : Around} {E : Value → Shared → Prop} {s' : Shared} {base g G : Heap} {outer : List Env} {L a e C : Addr} {m : Str → Option Value} {name : Str} {scope : Scope} {cd : Value}
  {n : Str} {b₀ : Stmt} {suite : List Stmt} {pos np : Pos} {rest : List ExceptHandler} {Q : Flow → Shared → Prop} {news : List (Addr × Obj)} {KF : Frag}
  {p : Program} {loose : List Str} {mean : ExcName → Option Value} {mg mb : Str → Option Value} {x : Str} {dd : Option Addr}
end
end Mine

set_option maxHeartbeats 4000000
namespace Mine
section
variable {prog : Program} {w : World} {A : Around} {K : Frag} {C fI : Addr} {R : Result → Shared → Prop} {h : Heap} {g : Array GenState} {d : Drawn} {t : Nat} {os : OsState}
end
section
variable {prog : Program} {w : World} {A : Around} {K : Frag} {C fI e : Addr} {E : Value → Shared → Prop} {s : Shared} {oe : Obj} {name : Str} {v : Value} {Q : Unit → Shared → Prop} {h₀ : Heap} {L : Addr} {m : Str → Option Value} {news : List (Addr × Obj)}
end
section
variable {prog : Program} {w : World} {A : Around} {K : Frag} {C fI e : Addr} {E : Value → Shared → Prop} {s : Shared} {oe od : Obj} {name : Str} {v : Value} {h₀ : Heap} {L : Addr} {m : Str → Option Value} {news : List (Addr × Obj)}
end
section
variable {prog : Program} {w : World} {A : Around} {K : Frag} {C fI : Addr} {E : Value → Shared → Prop} {s : Shared} {h₀ : Heap} {L : Addr} {m : Str → Option Value} {news : List (Addr × Obj)}
end
theorem turn_leave {h₀ g g' h' : Heap} {L L' : Addr} {m m' : Str → Option Value} {oL : Obj} {fs : List Addr} {news' : List (Addr × Obj)} (nL : h₀.get? L = none) (hfs : ∀ b ∈ fs, b = L) (hLg : g.get? L = some oL) (st : h₀.StaysIn g) (hab : h₀.objs.size ≤ L)
    (hNs : ∀ (sl : Array (Option Value)) h', h'.get? L = some { oL with slots := sl } → Heap.Ns h' L m) (T : KtsTurn fs g g') (F' : Fr g' L' h' m') (N' : News g' L' h' news') : Fr h₀ L h' m ∧ News h₀ L h' news' := by
  obtain ⟨sl, hs⟩ := T.up hLg
  refine ⟨⟨hNs sl _ (F'.keep _ _ hs), fun b o e => F'.keep b o (T.other b o (st b o e) fun q => by rw [hfs b q, nL] at e; cases e), hab⟩, fun p hp => ⟨(N' p hp).1, fun q => ?_, ?_⟩⟩
  · have := (N' p hp).2.2; rw [q, hs] at this; cases this
  · cases q : h₀.get? p.1 with
    | none => rfl
    | some o =>
      obtain ⟨sl', hs'⟩ := T.up (st _ _ q)
      have := (N' p hp).2.2
      rw [hs'] at this; cases this
theorem code_defSR {prog : Program} {w : World} {A₀ A : Around} {s : Shared} {base h₀ : Heap} {L a : Addr} {m : Str → Option Value} {cn : Str} {cs : Scope} {ccd : Value} {news : List (Addr × Obj)} {K : Frag} {p : Program} {loose : List Str} {mean : ExcName → Option Value} {mg mb : Str → Option Value}
    {R : Result → Shared → Prop} {name qual : Str} {params : Arguments} {body : List Stmt} {scope : Scope} {dV kV doc pm cdv ct oc : Value} {an od : Option Addr} {osl : Array (Option Value)} {f : Addr} {args : Args} {binds : List (Str × Value)}
    (B : Below A₀ base [] h₀) (F : Fr h₀ L s.heap m) (X₀ : K.In h₀) (N : News h₀ L s.heap news) (T : Top p loose mean mg mb h₀) (hA : A.frames = some [envOf cn cs L a ccd])
    (ho : K.lookup f = some ⟨oc, od, .func (fnOf name qual params body scope dV kV doc pm an cdv ct), osl⟩) (hcd : codeIn K cdv qual = true) (hroom : A.depth < recursionLimit)
    (hbind : BindsTo s (fnOf name qual params body scope dV kV doc pm an cdv ct) args binds) (hloc : ∀ y ∈ binds, scope.names.lookup y.1 = some .local)
    (h : ∀ g L' h₁, Fr h₀ L g m → Fr g L' h₁ (fun y => binds.reverse.lookup y) → News g L' h₁ news → Below A base [envOf cn cs L a ccd] g → K.In g → Top p loose mean mg mb g → KtsDicts ([envOf cn cs L a ccd].filterMap (·.frame)) g →
      (∀ b o, s.heap.get? b = some o → b ∉ news.map (·.1) → g.get? b = some o) → (∀ b o, s.heap.get? b = some o → b < L') →
      wpAny (model prog w) (A.deeper (envOf qual scope L' f cdv)) (execs body (envOf qual scope L' f cdv))
        (fun fl s' => LeaveS0 ([envOf cn cs L a ccd].filterMap (·.frame)) h₀ L m g R (match fl with | .ret v => v | _ => .none) s')
        (fun e s' => wpAny (model prog w) (A.deeper (envOf qual scope L' f cdv)) (leaving (envOf qual scope L' f cdv) e) (fun _ s'' => R (.error e) s'') (fun e' s'' => R (.error e') s'') s')
        { s with heap := h₁, toks := s.toks + binds.length })
    (hck : cs.kind = .function) (hco : scope.isCoroutine = false) (hgen : scope.isGenerator = false) (hk : scope.kind = .function)
    (hcell : ∀ x ∈ scope.names, x.2 ≠ .cell) : codeAny (model prog w) A (.call (.ref f) args) R s := by
  have X := X₀.keeps F.keep
  refine codeAny_call_def (fd := fnOf name qual params body scope dV kV doc pm an cdv ct) (body := body) (binds := binds) hroom (X _ _ ho) rfl (T.nolimit.keeps F.keep) (codeRec_of X hcd) rfl hbind hcell hloc (fun h₁ hns hk₁ => ?_) hco hgen hk
  obtain ⟨oL, es, ep, hLg, hLd, hN, hNs, st, B₂⟩ := kts_enter B F N hA hck
  refine wpAny_mono (h _ s.heap.objs.size h₁ ⟨hN _ hLg, st, F.above⟩ ⟨hns, fun b o e => hk₁ b o (of_hideAll _ e), Nat.le_of_eq (hideAll_size _ _)⟩
    (fun p hp => ⟨hk₁ _ _ (N p hp).1, Nat.ne_of_lt (Heap.lt_size (N p hp).1), hideAll_none _ (List.mem_map_of_mem hp)⟩) B₂ (X₀.keeps st) (T.keeps st) (fun b hb => by
      rcases kts_mem hb with rfl | z
      · exact ⟨oL, es, ep, hLg, hLd⟩
      · simp at z) (fun b o e hb => hideAll_get _ e hb) (fun b o e => Heap.lt_size e)) (fun fl s' hl => ?_) fun _ _ y => y
  obtain ⟨g', L', m', news', T', F', N', k⟩ := hl
  have z := turn_leave (kts_self F) (fun b q => by
    rcases kts_mem q with z | z
    · exact z
    · simp at z) hLg st F.above hNs T' F' N'
  exact k z.1 z.2
noncomputable def CtrO (prog : Program) (w : World) (K : Frag) (p : Program) (loose : List Str) (mean : ExcName → Option Value) (mg mb : Str → Option Value) (f : Addr) (D U : Nat) (vs : List Value) (pre : List (Addr × Obj)) (Post : Value → List (Addr × Obj) → Prop) : Prop :=
  ∀ (dp un : Nat) (gd : Option (List Code)) (cn : Str) (cs : Scope) (a : Addr) (ccd : Value) (A₀ : Around) (h₀ : Heap) (L : Addr) (m : Str → Option Value) (rest : List (Addr × Obj)) (s : Shared)
    (Q E : Value → Shared → Prop),
    Below A₀ h₀ [] h₀ → Fr h₀ L s.heap m → K.In h₀ → News h₀ L s.heap (pre ++ rest) → (∀ q ∈ rest, ∀ r ∈ pre, q.1 ≠ r.1) → Top p loose mean mg mb h₀ → cs.kind = .function → dp + D < recursionLimit → un + U < cLine →
    (∀ v pst h' tk', Post v pst → (∀ q ∈ rest, ∀ r ∈ pst, q.1 ≠ r.1) → Fr h₀ L h' m → News h₀ L h' (pst ++ rest) → Q v { s with heap := h', toks := tk' }) →
    wpAny (model prog w) (ktrTop dp un gd cn cs L a ccd [] []) (call (.ref f) vs) Q E s
theorem CtrO.use {prog : Program} {w : World} {K : Frag} {p : Program} {loose : List Str} {mean : ExcName → Option Value} {mg mb : Str → Option Value} {f : Addr} {D U : Nat} {vs : List Value} {pre : List (Addr × Obj)} {Post : Value → List (Addr × Obj) → Prop}
    {dp un : Nat} {gd : Option (List Code)} {cn : Str} {cs : Scope} {a : Addr} {ccd : Value} {A₀ : Around} {h₀ : Heap} {L : Addr} {m : Str → Option Value} {news rest : List (Addr × Obj)} {s : Shared} {Q E : Value → Shared → Prop}
    (C : CtrO prog w K p loose mean mg mb f D U vs pre Post) (B : Below A₀ h₀ [] h₀) (F : Fr h₀ L s.heap m) (X : K.In h₀) (N : News h₀ L s.heap news) (T : Top p loose mean mg mb h₀) (hk : cs.kind = .function)
    (hp : ∀ q ∈ pre, q ∈ news) (hR : Rest (pre.map (·.1)) news rest) (hd : dp + D < recursionLimit) (hu : un + U < cLine)
    (ret : ∀ v pst h' tk', Post v pst → (∀ q ∈ rest, ∀ r ∈ pst, q.1 ≠ r.1) → Fr h₀ L h' m → News h₀ L h' (pst ++ rest) → Q v { s with heap := h', toks := tk' }) :
    wpAny (model prog w) (ktrTop dp un gd cn cs L a ccd [] []) (call (.ref f) vs) Q E s :=
  C _ _ _ _ _ _ _ _ _ _ _ rest _ _ _ B F X (fun q hq => (List.mem_append.mp hq).elim (fun h => N q (hp q h)) fun h => N q (hR.sub q h))
    (fun q hq r hr e => hR.off q hq (List.mem_map.mpr ⟨r, hr, e.symm⟩)) T hk hd hu ret
theorem m_retO {h₀ g g' h h' : Heap} {L L' : Addr} {m m' : Str → Option Value} {fs : List Addr} {pre pst rest ng : List (Addr × Obj)} {s : Shared} {Q : Value → Shared → Prop} {Post : Value → List (Addr × Obj) → Prop} {v : Value} {tk' : Nat}
    (hret : ∀ v pst h' tk', Post v pst → (∀ q ∈ rest, ∀ r ∈ pst, q.1 ≠ r.1) → Fr h₀ L h' m → News h₀ L h' (pst ++ rest) → Q v { s with heap := h', toks := tk' })
    (hfs : ∀ b ∈ fs, b = L) (T : KtsTurn fs g g') (Fg : Fr g' L' h' m') (Ng : News g' L' h' ng) (kF : Fr h₀ L h' m) (kN : News h₀ L h' ng) (hr : ∀ p ∈ rest, g.get? p.1 = some p.2) (N : News h₀ L h (pre ++ rest)) (hs : ∀ p ∈ pst, p ∈ ng) (hP : Post v pst) :
    Q v { s with heap := h', toks := tk' } := by
  have hr' : ∀ p ∈ rest, g'.get? p.1 = some p.2 := fun p hp => T.other _ _ (hr p hp) fun q => (N p (List.mem_append_right _ hp)).2.1 (hfs _ q)
  exact m_ret hret Fg Ng kF kN hr' N hs hP
end Mine

set_option maxHeartbeats 4000000
namespace Mine
section
variable {M : Model} {A : Around} {E : Value → Shared → Prop} {s' : Shared} {base g h : Heap} {outer : List Env} {L a e : Addr} {m : Str → Option Value} {name : Str} {scope : Scope} {cd : Value} {Q : Unit → Shared → Prop} {news : List (Addr × Obj)} {X : String}
theorem leave_newD (hx : Heap.NewExc h s'.heap e X) (K : Below A base outer g) (F : Fr g L h m) (N : News g L h news)
    (hQ : ∀ h' dd, RaisedD base g outer e (.type X) dd news h' → g.UpToSlots h' → Q () { s' with heap := h' }) (hk : scope.kind = .function := by rfl) :
    wpAny M (A.deeper (envOf name scope L a cd)) (leaving (envOf name scope L a cd) (.ref e)) Q E s' := by
  obtain ⟨ob, t, he, hc, hd⟩ := hx.there
  have F' : Fr g L s'.heap m := F.keeps hx.keeps
  have heL : e ≠ L := fun z => by
    obtain ⟨o, es, ep, ho, -⟩ := F.ns
    rw [← z, hx.new] at ho; cases ho
  have N' : News g L s'.heap ((e, ob) :: news) := fun p hp => by
    rcases List.mem_cons.mp hp with rfl | hp
    · exact ⟨he, heL, kts_none F.keep hx.new⟩
    · exact ⟨hx.keeps _ _ (N p hp).1, (N p hp).2⟩
  refine leave_raiseD K F' N' hd rfl (fun q hq z => ?_) (fun h' R U => hQ h' ob.dict (hc ▸ R) U) hk
  have := (N q hq).1
  rw [show q.1 = e from z, hx.new] at this
  cases this
end
section
variable {prog : Program} {w : World} {A₀ : Around} {E : Value → Shared → Prop} {s' : Shared} {base g G : Heap} {outer : List Env} {L a e C fI : Addr} {m : Str → Option Value} {name : Str} {scope : Scope} {cd : Value}
  {b₀ : Stmt} {suite : List Stmt} {pos np np' pos' : Pos} {rest : List ExceptHandler} {Q : Flow → Shared → Prop} {news : List (Addr × Obj)} {KF : Frag} {as' : Option Str} {bd' : List Stmt}
  {p : Program} {loose : List Str} {mean : ExcName → Option Value} {mg mb : Str → Option Value} {x : Str} {dd : Option Addr}
end
end Mine

set_option maxHeartbeats 4000000
namespace Mine
section
variable {prog : Program} {w : World} {A₀ : Around} {E : Value → Shared → Prop} {s' : Shared} {base g G : Heap} {outer : List Env} {L a e : Addr} {m : Str → Option Value} {name : Str} {scope : Scope} {cd : Value}
  {b₀ : Stmt} {suite : List Stmt} {pos np : Pos} {rest : List ExceptHandler} {Q : Flow → Shared → Prop} {news : List (Addr × Obj)} {KF : Frag}
  {p : Program} {loose : List Str} {mean : ExcName → Option Value} {mg mb : Str → Option Value} {dd : Option Addr}
end
end Mine

set_option maxHeartbeats 4000000
namespace Mine
section
variable {prog : Program} {w : World} {A₀ : Around} {E : Value → Shared → Prop} {s' : Shared} {base g G : Heap} {outer : List Env} {L a e : Addr} {m : Str → Option Value} {name : Str} {scope : Scope} {cd : Value}
  {b₀ : Stmt} {suite : List Stmt} {pos np : Pos} {rest : List ExceptHandler} {Q : Flow → Shared → Prop} {news : List (Addr × Obj)} {KF : Frag}
  {p : Program} {loose : List Str} {mean : ExcName → Option Value} {mg mb : Str → Option Value} {dd : Option Addr}
theorem caught_O1 (R : RaisedD base G (envOf name scope L a cd :: outer) e (.type "OverflowError") dd news s'.heap) (F : Fr g L G m) (K : Below A₀ base outer g) (hsm : G.UpToSlots s'.heap) (XB : KF.In base) (TB : Top p loose mean mg mb base)
    (ev : nsIn KF mainGlobals "OverflowError" = some none)
    (k : ∀ h' g', KtsTurn (outer.filterMap (·.frame)) g g' → Fr g' L h' m → News g' L h' news → Below A₀ base outer g' → KF.In g' → Top p loose mean mg mb g' →
      wpAny (model prog w) ((A₀.deeper (envOf name scope L a cd)).mark (some (.ref e))) (execs (b₀ :: suite) (envOf name scope L a cd)) Q
        (notedBy (model prog w) ((A₀.deeper (envOf name scope L a cd)).mark (some (.ref e))) (envOf name scope L a cd) (cameBackBy (model prog w) (A₀.deeper (envOf name scope L a cd)) (envOf name scope L a cd) E)) { s' with heap := h' })
    (hk : scope.kind = .function := by rfl)
    (hxv : (envOf name scope L a cd).kindOf "OverflowError" = some .globalImplicit := by rfl) :
    wpAny (model prog w) (A₀.deeper (envOf name scope L a cd)) (noteFrame (.ref e) (envOf name scope L a cd))
      (fun _ s₂ => wpAny (model prog w) (A₀.deeper (envOf name scope L a cd)) (setFlight (.ref e) none) (fun _ s₃ =>
        wpAny (model prog w) (A₀.deeper (envOf name scope L a cd)) (handleBy (.ref e) (envOf name scope L a cd) (.ExceptHandler (some (.Name (Str.ofString "OverflowError") np)) none (b₀ :: suite) pos :: rest)) Q E s₃) E s₂) E s' := by
  obtain ⟨B, hB, hBG, hl, hfl⟩ := R
  have hL : B.get? L = none := by
    obtain ⟨_, ⟨L', _, hf, hn', _⟩, _⟩ := hfl.2.2.1
    obtain rfl : L = L' := Option.some.inj hf
    exact hn'
  refine fly_next (Around.frames_deeper K.stack) rfl hfl fun h₄ y₄ u₄ => fly_off y₄ fun h₅ y₅ u₅ => ?_
  have v₅ := hsm.trans (u₄.trans u₅)
  obtain ⟨g₅, T₅, F₅, K₅⟩ := kts_ground K F hBG y₅.1 v₅
  have X₅ : KF.In g₅ := XB.keeps K₅.stays
  have P₅ : TopRead p loose mg mb g₅ := topRead_of (TB.keeps K₅.stays)
  obtain ⟨ob, hob, hobc⟩ := y₅.there
  refine wpAny_handleBy_builtin (X := "OverflowError") (T := "OverflowError") (b := true) PySem.F.isExc_OverflowError PySem.F.notTuple_OverflowError (by rw [isSubtype_type]; kernel_rfl)
    (name_B F₅ X₅ P₅ ev PyProof.Rows.Boot.«OverflowError» (by decide +kernel) ⟨rfl, ⟨ob, hob, hobc⟩, ?_⟩ hk hxv (by decide))
  rw [if_pos rfl]
  refine fly_off y₅ fun h₆ y₆ u₆ => ?_
  have v₆ := v₅.trans u₆
  obtain ⟨g₆, T₆, F₆, K₆⟩ := kts_ground K F hBG y₆.1 v₆
  exact k h₆ g₆ T₆ F₆ (fun q hq => ⟨y₆.1 _ _ (hl q hq).1, (fun z => by have := (hl q hq).1; rw [z, hL] at this; cases this), T₆.none_ _ (kts_none F.keep (hl q hq).2.1)⟩) K₆ (XB.keeps K₆.stays) (TB.keeps K₆.stays)
end
end Mine

namespace Mine
section
variable {prog : Program} {w : World} {A : Around} {E : Value → Shared → Prop} {s : Shared} {env : Env} {h₀ : Heap} {x : Str} {target : Expr} {body : List Stmt} {Q : Flow → Shared → Prop}
theorem m_listK {σ : Type} {l : Addr} {vs : List Value} {ns : List Int} {nn : Nat} {m₀ : Str → Option Value} {news : List (Addr × Obj)} (Led : σ → List (Addr × Obj)) (ps : σ → List (Str × Value)) (stored : List Str) (P : Nat → σ → Prop) (c₀ : σ)
    (hh : A.handled = none) (hl : ∀ c : σ, (l, listOf vs.toArray nn) ∈ Led c) (hi : IntsAre vs ns) (F : Fr h₀ env.locals s.heap m₀) (N : News h₀ env.locals s.heap news) (hL : ∀ p ∈ Led c₀, p ∈ news)
    (hk : ∀ p ∈ ps c₀, m₀ p.1 = some p.2) (hp : P 0 c₀)
    (turn : ∀ (c : σ) i n t (u : Str → Option Value) h tk own, ns[i]? = some n → OwnOff own ((Led c₀).map (·.1)) → P i c →
      Fr h₀ env.locals h (fun y => if y = x then some (.int n t) else kstB (fun z => if stored.contains z then u z else m₀ z) (ps c) y) → News h₀ env.locals h (Led c ++ own) →
      wpAny (model prog w) A (execs body env) (InvPostN h₀ env.locals (TurnS Led ps stored m₀ (P (i + 1))) own ((Led c₀).map (·.1)) { s with heap := h, toks := tk } Q) E { s with heap := h, toks := tk })
    (done : ∀ (c : σ) (u : Str → Option Value) h tk, P ns.length c → Fr h₀ env.locals h (kstB (fun z => if stored.contains z then u z else m₀ z) (ps c)) → News h₀ env.locals h (Led c) → Q .next { s with heap := h, toks := tk }) :
    wpAny (model prog w) A (pyIter (.ref l)) (fun it s₂ => LoopAtV prog w A h₀ env x body Q E it s₂) E s := by
  refine iter_invNL (fun i m nx => TurnS Led ps stored m₀ (P i) m nx) hh (hl c₀) hi F (fun p hp => N p (hL p hp)) ⟨c₀, rfl, hk, fun _ _ _ => rfl, hp⟩ ?_ ?_
  · rintro i n t m₁ nx h tk own hn _ hoff _ ⟨c, rfl, h1, h2, hp'⟩ F₁ N₁
    have em : m₁ = kstB (fun z => if stored.contains z then m₁ z else m₀ z) (ps c) := by
      funext y
      refine (kstB_eq h1 fun hn => ?_).symm
      show (if stored.contains y = true then m₁ y else m₀ y) = m₁ y
      cases h3 : stored.contains y with
      | true => rfl
      | false => exact (h2 y hn h3).symm
    have F₂ : Fr h₀ env.locals h (fun y => if y = x then some (.int n t) else kstB (fun z => if stored.contains z then m₁ z else m₀ z) (ps c) y) := by rw [← em]; exact F₁
    refine wpAny_mono (turn c i n t m₁ h tk own hn hoff hp' F₂ N₁) (fun f s₂ p => ?_) fun _ _ x => x
    have up : InvEndN h₀ env.locals (TurnS Led ps stored m₀ (P (i + 1))) own ((Led c₀).map (·.1)) { s with heap := h, toks := tk } s₂ →
        InvEndN h₀ env.locals (fun m' nx => (l, listOf vs.toArray nn) ∈ nx ∧ TurnS Led ps stored m₀ (P (i + 1)) m' nx) own ((Led c₀).map (·.1)) { s with heap := h, toks := tk } s₂ := by
      rintro ⟨h', tk', m', news', nx', e', F', N', hn', ho', ha, c', rfl, hr⟩
      exact ⟨h', tk', m', news', Led c', e', F', N', hn', ho', ha, hl c', c', rfl, hr⟩
    cases f with
    | ret v => exact p
    | brk => exact p
    | next => exact up p
    | cont => exact up p
  · rintro m₁ nx h tk _ ⟨c, rfl, h1, h2, hp'⟩ F₁ N₁
    exact done c m₁ h tk hp' (ksw_fr h1 h2 F₁) N₁

theorem intsAre_at {vs : List Value} {ns : List Int} (h : IntsAre vs ns) {i : Nat} {v : Value} (e : vs[i]? = some v) : ∃ n t, v = .int n t ∧ ns[i]? = some n := h.at i v e
end
section
 open PyProof.Rows.LCg PyProof.Rows.LCt
variable {prog : Program} {w : World} {A : Around} {s : Shared} {h₀ : Heap} {L : Addr} {m : Str → Option Value} {env : Env}
theorem comp_ind {σ : Type} (Led : σ → List (Addr × Obj)) {elt : Expr} {x : Str} {scope : Scope} {cl : List (Str × Addr)} {S : List (Addr × Obj) → Prop} {P : Nat → Value → Prop} {Fin : List Value → List (Addr × Obj) → Prop} {n : Nat} (J : Nat → List Value → σ → Prop) (c₀ : σ) {news : List (Addr × Obj)} (hnews : news = Led c₀) (h0 : J 0 [] c₀)
    (turn : ∀ i ys c (R' : List Value → σ → Prop), i < n → J i ys c → (∀ ys' c', J (i + 1) ys' c' → R' ys' c') → ∀ v I oI C oC D m₂ h tk (E' : Value → Shared → Prop), P i v → NsObj oC m₂ → m₂ x = some v → Fr h₀ L h m → News h₀ L h ((I, oI) :: (C, oC) :: (D, lst ys) :: Led c) → Off3 I C D (Led c) → ((@Ne Nat I C) ∧ (@Ne Nat I D) ∧ (@Ne Nat C D)) →
      wpAny (model prog w) A (eval elt (compEnvC scope cl C env)) (CompEnd h₀ L m { s with heap := h, toks := tk } I oI C oC D (lst ys) S (fun y news' => ∃ c', news' = Led c' ∧ R' (ys ++ [y]) c')) E' { s with heap := h, toks := tk })
    (fin : ∀ ys c, J n ys c → Fin ys (Led c)) : CompRest prog w A h₀ L m env elt x scope cl s S P Fin n 0 [] news := by
  subst hnews
  have key : ∀ k i ys c, i + k = n → J i ys c → CompRest prog w A h₀ L m env elt x scope cl s S P Fin k i ys (Led c) := by
    intro k
    induction k with
    | zero => intro i ys c hi hj; exact .zero (fin ys c (by simpa using hi ▸ hj))
    | succ k ih =>
      intro i ys c hi hj
      refine .succ fun v I oI C oC D m₂ h tk E' a b c1 d e f g => ?_
      refine wpAny_mono (turn i ys c (fun ys' c' => CompRest prog w A h₀ L m env elt x scope cl s S P Fin k (i + 1) ys' (Led c')) (by lia) hj (fun ys' c' hy => ih _ _ _ (by lia) hy) v I oI C oC D m₂ h tk E' a b c1 d e f g) (fun y s' z => compEnd_mono z ?_) fun _ _ z => z
      rintro n' ⟨c', rfl, r⟩
      exact r
  exact key n 0 [] c₀ (by lia) h0
end
theorem all_app {ns : List Int} {n : Int} {P : Int → Prop} (h : ∀ x ∈ ns, P x) (hn : P n) : ∀ x ∈ ns ++ [n], P x := fun x hx => (List.mem_append.mp hx).elim (h x) fun e => (List.mem_singleton.mp e) ▸ hn
noncomputable abbrev tlN {h₀ h : Heap} {L : Addr} {l : List (Addr × Obj)} (_ : News h₀ L h l) (k : Nat) : List (Addr × Obj) := l.drop k
noncomputable abbrev hdN {h₀ h : Heap} {L : Addr} {l : List (Addr × Obj)} (_ : News h₀ L h l) (k : Nat) : List (Addr × Obj) := l.take k
noncomputable def adL : List (Addr × Obj) → Nat → Addr
  | [], _ => 0
  | p :: _, 0 => p.1
  | _ :: r, k + 1 => adL r k
noncomputable abbrev adN {h₀ h : Heap} {L : Addr} {l : List (Addr × Obj)} (_ : News h₀ L h l) (k : Nat) : Addr := adL l k
theorem len_at {prog : Program} {w : World} {A : Around} {E Q : Value → Shared → Prop} {s : Shared} {h₀ : Heap} {L : Addr} {news : List (Addr × Obj)} {l : Addr} {vs : List Value} {nn : Nat} (n : Nat)
    (N : News h₀ L s.heap news) (hm : (l, listOf vs.toArray nn) ∈ news) (hn : vs.length = n) (hf : n < 2 ^ 63)
    (h : Q (.int (n : Int) (s.toks + 1)) { s with toks := s.toks + 1 + 1 }) : wpAny (model prog w) A (call (.builtin "len") [.ref l]) Q E s := by
  subst hn
  refine PyProof.Rows.len_list (items := vs.toArray) ⟨_, (N _ hm).1, rfl, nn, rfl⟩ ?_ ?_
  · rw [List.size_toArray]; lia
  · rw [List.size_toArray]; exact h
theorem item_any {prog : Program} {w : World} {A : Around} {E Q : Value → Shared → Prop} {s : Shared} {h₀ : Heap} {L : Addr} {news : List (Addr × Obj)} {value slice : PySem.Expr} {l : Addr} {vs : List Value} {nn : Nat} {k : Int} {u : Tok} {v : Value} (i : Nat)
    (N : News h₀ L s.heap news) (hm : (l, listOf vs.toArray nn) ∈ news) (hk : k = (i : Int)) (hv : vs[i]? = some v) (hf : i < 2 ^ 63)
    (hs : subscripted slice false (.ref l) (.int k u) = operate [.ref l, .int k u] (getItem (.ref l) (.int k u)) := by with_unfolding_all rfl)
    (h : Q v s) : wpAny (model prog w) A (subscriptTail value slice (.ref l) (.int k u)) Q E s := by
  have hl : s.heap.IsList l vs.toArray := ⟨_, (N _ hm).1, rfl, nn, rfl⟩
  subst hk
  refine tail_any hl.typeIs slot_list_getitem.lookup (wpAny_getItem_list hl (Int.natCast_nonneg i) (by lia) ?_ h) hs
  rw [Int.toNat_natCast, List.getElem?_toArray]
  exact hv
theorem append_led {prog : Program} {w : World} {A : Around} {E Q : Value → Shared → Prop} {s : Shared} {h₀ : Heap} {L : Addr} {m : Str → Option Value} {news : List (Addr × Obj)} {l : Addr} {vs : List Value} {nn : Nat} {x : Value}
    (F : Fr h₀ L s.heap m) (N : News h₀ L s.heap ((l, listOf vs.toArray nn) :: news)) (off : ∀ p ∈ news, @Ne Nat p.1 l) (hsz : vs.length ≤ sizeLine)
    (h : ∀ h', Fr h₀ L h' m → News h₀ L h' ((l, listOf (vs ++ [x]).toArray (nn + 1)) :: news) → Q .none { s with heap := h' }) :
    wpAny (model prog w) A (call (.builtin "list.append") [.ref l, x]) Q E s := by
  obtain ⟨hg, hL, h0⟩ := N _ (.head _)
  refine append_at (its := vs.toArray) (n := nn) hg (fun h' hs hD => ?_) (by rw [List.size_toArray]; exact hsz)
  refine h h' (F.change hs hL h0) fun p hp => ?_
  rcases List.mem_cons.mp hp with rfl | hp
  · refine ⟨?_, hL, h0⟩
    rw [List.push_toArray] at hD
    exact hD
  · exact ⟨hs.extBut _ _ (off p hp) (N p (.tail _ hp)).1, (N p (.tail _ hp)).2⟩
end Mine

set_option maxHeartbeats 4000000
namespace Mine
 open PyProof.Rows.LCg
theorem compTurn_in (elt target iter ct : Expr) (g₀ : Comprehension) (scope : Scope) (pos : Pos) (it acc : Value) (env : Env) :
    compTurn (.ListComp elt [g₀, ⟨target, iter, [ct], 0⟩] scope pos) 1 it acc env = (do
      standAt iter.pos
      match ← pyNext it with
      | none => pure (.done .next)
      | some v =>
        letOwnedTupleGo target it v
        assign target env v
        let mut ok := true
        for c in [ct] do
          if ok then ok ← isTrue c env (eval c env)
        if ok then
          (do let _ ← call (.builtin "list.append") [acc, ← eval elt env])
        again (.compLoop (.ListComp elt [g₀, ⟨target, iter, [ct], 0⟩] scope pos) 1 it acc env)) := by rfl
theorem compTurn_out (elt target iter target' iter' ct : Expr) (scope : Scope) (pos : Pos) (it acc : Value) (env : Env) :
    compTurn (.ListComp elt [⟨target, iter, [], 0⟩, ⟨target', iter', [ct], 0⟩] scope pos) 0 it acc env = (do
      standAt iter.pos
      match ← pyNext it with
      | none => pure (.done .next)
      | some v =>
        letOwnedTupleGo target it v
        assign target env v
        let x ← eval iter' env
        standAt iter'.pos
        let x ← foldedSetIterable iter' env x
        let _ ← runOwn (.compStart (.ListComp elt [⟨target, iter, [], 0⟩, ⟨target', iter', [ct], 0⟩] scope pos) 1 (← holding [x] (pyIter x)) acc env) env
        again (.compLoop (.ListComp elt [⟨target, iter, [], 0⟩, ⟨target', iter', [ct], 0⟩] scope pos) 0 it acc env)) := by rfl
section
variable {prog : Program} {w : World} {A : Around} {E : Value → Shared → Prop} {R : Result → Shared → Prop} {s : Shared}
noncomputable abbrev NB (prog : Program) (w : World) (A : Around) (env : Env) (R : Result → Shared → Prop) : Value → Shared → Prop := notedBy (model prog w) A env fun e s' => R (.error e) s'
theorem loop_in {elt target iter ct : Expr} {g₀ : Comprehension} {scope : Scope} {pos : Pos} {it acc : Value} {env : Env} (I : Nat → Shared → Prop)
    (turn : ∀ n s, I n s → wpAny (model prog w) A (pyNext it) (fun r s₁ => match r with
      | none => R (.ok .next) s₁
      | some v => wpAny (model prog w) A (assign target env v) (fun _ s₂ => wpAny (model prog w) A (isTrue ct env (eval ct env)) (fun ok s₃ =>
          if ok = true then wpAny (model prog w) A (eval elt env) (fun x s₄ => wpAny (model prog w) A (call (.builtin "list.append") [acc, x]) (fun _ s₅ => ∃ m, m < n ∧ I m s₅) (NB prog w A env R) s₄) (NB prog w A env R) s₃
          else ∃ m, m < n ∧ I m s₃) (NB prog w A env R) s₂) (NB prog w A env R) s₁) (NB prog w A env R) s)
    (n : Nat) (h : I n s) (ht : ∀ v, letOwnedTupleGo target it v = pure ()) :
    codeAny (model prog w) A (.compLoop (.ListComp elt [g₀, ⟨target, iter, [ct], 0⟩] scope pos) 1 it acc env) R s := by
  refine codeAny_loop rfl I (fun n s hI => ?_) n h
  show wpAny _ A ((compTurn (.ListComp elt [g₀, ⟨target, iter, [ct], 0⟩] scope pos) 1 it acc env).onRaise (fun x => do noteFrame x env; theTreesLotGoes x)) _ _ s
  refine wpAny_noted ?_
  rw [compTurn_in]
  refine wpAny_bind (wpAny_standAt (wpAny_bind (wpAny_mono (turn n s hI) (fun r s₁ h₁ => ?_) fun _ _ h' => h')))
  cases r with
  | none => exact wpAny_pure h₁
  | some v =>
    refine wpAny_bind (wpAny_of_eq (ht v) ?_)
    refine wpAny_bind (wpAny_mono h₁ (fun _ s₂ h₂ => wpAny_bind (wpAny_tests_one (wpAny_mono h₂ (fun ok s₃ h₃ => ?_) fun _ _ h' => h'))) fun _ _ h' => h')
    cases ok with
    | false => exact wpAny_pure ⟨rfl, h₃⟩
    | true =>
      exact wpAny_bind (wpAny_bind (wpAny_mono h₃ (fun x s₄ h₄ => wpAny_bind (wpAny_mono h₄ (fun _ s₅ h₅ => wpAny_pure (wpAny_pure ⟨rfl, h₅⟩)) fun _ _ h' => h')) fun _ _ h' => h'))
theorem start_in {elt target iter ct : Expr} {g₀ : Comprehension} {scope : Scope} {pos : Pos} {it acc : Value} {env : Env}
    (h0 : codeAny (model prog w) A (.compLoop (.ListComp elt [g₀, ⟨target, iter, [ct], 0⟩] scope pos) 1 it acc env) R s)
    (h : wpAny (model prog w) A (pyIter it) (fun it' s' => codeAny (model prog w) A (.compLoop (.ListComp elt [g₀, ⟨target, iter, [ct], 0⟩] scope pos) 1 it' acc env) R s') (NB prog w A env R) s) :
    codeAny (model prog w) A (.compStart (.ListComp elt [g₀, ⟨target, iter, [ct], 0⟩] scope pos) 1 it acc env) R s := by
  refine codeAny_of_tree ?_
  show wpAny _ _ ((compStart (.ListComp elt [g₀, ⟨target, iter, [ct], 0⟩] scope pos) 1 it acc env).onRaise (fun x => do noteFrame x env; standAt theWindowsPlace)) _ _ s
  refine wpAny_notedAt ?_
  unfold compStart
  show wpAny _ _ (ask >>= _) _ _ s
  refine wpAny_bind (wpAny_askSetting (wpAny_ite ?_))
  split
  · first
      | exact wpAny_bind (wpAny_pure (wpAny_pure (And.intro rfl h0)))
      | exact wpAny_pure (And.intro rfl h0)
  · first
      | exact wpAny_bind (wpAny_rule (wpAny_bind (wpAny_standAt (wpAny_bind (wpAny_mono h (fun it' s' h' => wpAny_pure (And.intro rfl h')) fun _ _ x => x)))))
      | (refine wpAny_bind (wpAny_rule ?_); show wpAny _ _ (standAt iter.pos >>= _) _ _ s; exact wpAny_bind (wpAny_standAt (wpAny_bind (wpAny_mono h (fun it' s' h' => wpAny_pure (And.intro rfl h')) fun _ _ x => x))))
theorem loop_out {elt target iter target' iter' ct : Expr} {scope : Scope} {pos : Pos} {it acc : Value} {env : Env} (I : Nat → Shared → Prop)
    (turn : ∀ n s, I n s → wpAny (model prog w) A (pyNext it) (fun r s₁ => match r with
      | none => R (.ok .next) s₁
      | some v => wpAny (model prog w) A (assign target env v) (fun _ s₂ => wpAny (model prog w) A (eval iter' env) (fun x s₃ => wpAny (model prog w) A (pyIter x) (fun it' s₄ =>
          codeAny (model prog w) (A.mark none) (.compStart (.ListComp elt [⟨target, iter, [], 0⟩, ⟨target', iter', [ct], 0⟩] scope pos) 1 it' acc env) (fun r s₅ => match r with | .ok _ => ∃ m, m < n ∧ I m s₅ | .error e => cameBackBy (model prog w) A env (NB prog w A env R) e s₅) s₄) (NB prog w A env R) s₃) (NB prog w A env R) s₂) (NB prog w A env R) s₁) (NB prog w A env R) s)
    (n : Nat) (h : I n s) (ht : ∀ v, letOwnedTupleGo target it v = pure ()) (hs : ∀ x, foldedSetIterable iter' env x = pure x) :
    codeAny (model prog w) A (.compLoop (.ListComp elt [⟨target, iter, [], 0⟩, ⟨target', iter', [ct], 0⟩] scope pos) 0 it acc env) R s := by
  refine codeAny_loop rfl I (fun n s hI => ?_) n h
  show wpAny _ A ((compTurn (.ListComp elt [⟨target, iter, [], 0⟩, ⟨target', iter', [ct], 0⟩] scope pos) 0 it acc env).onRaise (fun x => do noteFrame x env; theTreesLotGoes x)) _ _ s
  refine wpAny_noted ?_
  rw [compTurn_out]
  refine wpAny_bind (wpAny_standAt (wpAny_bind (wpAny_mono (turn n s hI) (fun r s₁ h₁ => ?_) fun _ _ h' => h')))
  cases r with
  | none => exact wpAny_pure h₁
  | some v =>
    refine wpAny_bind (wpAny_of_eq (ht v) ?_)
    refine wpAny_bind (wpAny_mono h₁ (fun _ s₂ h₂ => wpAny_bind (wpAny_mono h₂ (fun x s₃ h₃ => wpAny_bind (wpAny_standAt (wpAny_bind (wpAny_of_eq (hs x) (wpAny_bind (wpAny_holding (wpAny_mono h₃ (fun it' s₄ h₄ => ?_) fun _ _ h' => h'))))))) fun _ _ h' => h')) fun _ _ h' => h')
    exact wpAny_bind (wpAny_runOwn (codeAny_mono h₄ fun r s₅ h₅ => by
      cases r with
      | ok f => exact wpAny_pure ⟨rfl, h₅⟩
      | error e => exact h₅))
end
theorem fr_ext {h₀ h h' : Heap} {L I : Addr} {m : Str → Option Value} (F : Fr h₀ L h m) (hk : Heap.ExtBut I h h') (hL : L ≠ I) (hI : h₀.get? I = none) : Fr h₀ L h' m :=
  ⟨F.ns.at' fun o e => hk L o hL e, fun b o e => hk b o (fun hm => by rw [hm, hI] at e; cases e) (F.keep b o e), F.above⟩
theorem news_ext {h₀ h h' : Heap} {L I : Addr} {news : List (Addr × Obj)} (N : News h₀ L h news) (hk : Heap.ExtBut I h h') (off : ∀ p ∈ news, p.1 ≠ I) : News h₀ L h' news :=
  fun p hp => ⟨hk _ _ (off p hp) (N p hp).1, (N p hp).2⟩
noncomputable def End2 {σ : Type} (h₀ : Heap) (L : Addr) (m : Str → Option Value) (s₁ : Shared) (I : Addr) (oI : Obj) (I2 : Addr) (o2 : Obj) (C : Addr) (oC : Obj) (D : Addr) (oD : Obj) (Led : σ → List (Addr × Obj)) (r : σ → Prop) (s₂ : Shared) : Prop :=
  ∃ h' tk c, s₂ = { s₁ with heap := h', toks := tk } ∧ Fr h₀ L h' m ∧ News h₀ L h' ((I, oI) :: (I2, o2) :: (C, oC) :: (D, oD) :: Led c) ∧ (∀ p ∈ Led c, p.1 ≠ I ∧ p.1 ≠ I2 ∧ p.1 ≠ C ∧ p.1 ≠ D) ∧ r c
section
variable {prog : Program} {w : World} {A : Around} {E : Value → Shared → Prop} {s : Shared}
inductive Out2 {σ : Type} (h₀ : Heap) (L : Addr) (m : Str → Option Value) (ax : Addr) (its : Array Value) (I C D : Addr) (Led : σ → List (Addr × Obj)) (J : Nat → Nat → List Value → σ → Prop) (s : Shared) (n : Nat) (s' : Shared) : Prop
  | mk (h' : Heap) (tk i : Nat) (ys : List Value) (c : σ) (m' : Str → Option Value) (e : s' = { s with heap := h', toks := tk }) (hi : i ≤ its.size) (hn : n = its.size + 1 - i) (hy : ys.length ≤ i * its.size) (hit : h'.IsListIter I ax i) (F : Fr h₀ L h' m) (hns : h'.Ns C m')
      (N : News h₀ L h' ((D, lst ys) :: Led c)) (off : ∀ p ∈ Led c, p.1 ≠ I ∧ p.1 ≠ C ∧ p.1 ≠ D) (hj : J i 0 ys c) : Out2 h₀ L m ax its I C D Led J s n s'
inductive In2 {σ : Type} (h₀ : Heap) (L : Addr) (m : Str → Option Value) (x : Str) (v : Value) (ax : Addr) (its : Array Value) (I I2 C D : Addr) (Led : σ → List (Addr × Obj)) (J : Nat → Nat → List Value → σ → Prop) (i : Nat) (s : Shared) (n : Nat) (s' : Shared) : Prop
  | mk (h' : Heap) (tk j : Nat) (ys' : List Value) (c' : σ) (m' : Str → Option Value) (e : s' = { s with heap := h', toks := tk }) (hj : j ≤ its.size) (hn : n = its.size + 1 - j) (hy : ys'.length ≤ i * its.size + j) (hit2 : h'.IsListIter I2 ax j) (hit1 : h'.IsListIter I ax (i + 1)) (F : Fr h₀ L h' m) (hns : h'.Ns C m') (hm : m' x = some v)
      (N : News h₀ L h' ((D, lst ys') :: Led c')) (off : ∀ p ∈ Led c', p.1 ≠ I ∧ p.1 ≠ I2 ∧ p.1 ≠ C ∧ p.1 ≠ D) (hJ : J i j ys' c') : In2 h₀ L m x v ax its I I2 C D Led J i s n s'
theorem block2 {σ : Type} {elt iter iter' ct : Expr} {x y : Str} {px py : Pos} {scope : Scope} {cl : List (Str × Addr)} {pos : Pos} {ax : Addr} {its : Array Value} {k : Nat} {h₀ : Heap} {L : Addr} {m : Str → Option Value} {env : Env} {RR : Value → Addr → Result → Shared → Prop}
    (Led : σ → List (Addr × Obj)) (J : Nat → Nat → List Value → σ → Prop) (c₀ : σ)
    (hh : A.handled = none) (hcell : ∀ z ∈ scope.names, z.2 ≠ .cell) (hkind : scope.kind = .function)
    (hx : scope.names.lookup x = some .local) (hy : scope.names.lookup y = some .local) (hxy : x ≠ y)
    (hs₁ : ∀ C v, foldedSetIterable iter' (compEnvC scope cl C env) v = pure v)
    (hlist : ∀ c, (ax, ({ cls := .type "list", data := .seq its k } : Obj)) ∈ Led c) (hsz : its.size * its.size + its.size ≤ sizeLine) (h0 : J 0 0 [] c₀)
    {h1 : Heap} {tk1 : Nat} (F : Fr h₀ L h1 m) (N : News h₀ L h1 (Led c₀))
    (second : ∀ i c ys v I oI C oC D m₂ h tk (E' : Value → Shared → Prop), i < its.size → J i 0 ys c → its[i]? = some v → NsObj oC m₂ → m₂ x = some v → Fr h₀ L h m → News h₀ L h ((I, oI) :: (C, oC) :: (D, lst ys) :: Led c) →
      wpAny (model prog w) A (eval iter' (compEnvC scope cl C env)) (fun xv s₁ => ∃ tk', xv = .ref ax ∧ s₁ = { s with heap := h, toks := tk' }) E' { s with heap := h, toks := tk })
    (turn : ∀ i j c ys v u I oI I2 o2 C oC D m₂ h tk (E' : Value → Shared → Prop), i < its.size → j < its.size → J i j ys c → its[i]? = some v → its[j]? = some u → NsObj oC m₂ → m₂ x = some v → m₂ y = some u → Fr h₀ L h m →
      News h₀ L h ((I, oI) :: (I2, o2) :: (C, oC) :: (D, lst ys) :: Led c) → (∀ p ∈ Led c, p.1 ≠ I ∧ p.1 ≠ I2 ∧ p.1 ≠ C ∧ p.1 ≠ D) → I ≠ I2 ∧ I ≠ C ∧ I ≠ D ∧ I2 ≠ C ∧ I2 ≠ D ∧ C ≠ D →
      wpAny (model prog w) A (isTrue ct (compEnvC scope cl C env) (eval ct (compEnvC scope cl C env))) (fun ok s' => if ok = true then
        wpAny (model prog w) A (eval elt (compEnvC scope cl C env)) (fun yv s'' => End2 h₀ L m { s with heap := h, toks := tk } I oI I2 o2 C oC D (lst ys) Led (fun c' => J i (j + 1) (ys ++ [yv]) c') s'') E' s'
        else End2 h₀ L m { s with heap := h, toks := tk } I oI I2 o2 C oC D (lst ys) Led (fun c' => J i (j + 1) ys c') s') E' { s with heap := h, toks := tk })
    (next : ∀ i ys c, i < its.size → J i its.size ys c → J (i + 1) 0 ys c)
    (hRR : ∀ D C h tk m' ys c, Fr h₀ L h m → News h₀ L h ((D, lst ys) :: Led c) → (∀ p ∈ Led c, p.1 ≠ C ∧ p.1 ≠ D) → h.Ns C m' → h₀.get? C = none → h₀.get? D = none → C ≠ L → D ≠ L → C ≠ D → J its.size 0 ys c → RR (.ref D) C (.ok .next) { s with heap := h, toks := tk }) :
    wpAny (model prog w) A (pyIter (.ref ax)) (fun it s₂ => wpAny (model prog w) A (newList []) (fun acc s₃ => wpAny (model prog w) A (newFunctionEnv scope env.globals cl [] env.qual none .none (some env)) (fun cenv s₄ =>
      codeAny (model prog w) A (.compStart (.ListComp elt [⟨.Name x px, iter, [], 0⟩, ⟨.Name y py, iter', [ct], 0⟩] scope pos) 0 it acc { cenv with scope := relabel scope env }) (RR acc cenv.locals) s₄) E s₃) E s₂) E { s with heap := h1, toks := tk1 } := by
  have lis : ∀ {h : Heap} {c : σ} {pre : List (Addr × Obj)}, News h₀ L h (pre ++ Led c) → h.IsList ax its := fun {h c pre} N => ⟨_, (N _ (List.mem_append_right _ (hlist c))).1, rfl, k, rfl⟩
  have hl : h1.IsList ax its := lis (pre := []) N
  have hlt : ax < h1.objs.size := by obtain ⟨_, e, _⟩ := hl; exact Heap.lt_size e
  refine wpAny_pyIter_list hl ?_
  refine wpAny_newObj_type (wpAny_newFunctionEnv hcell (by intro z hz; simp at hz) (fun h₂ hns₂ hsb₂ => ?_) hkind)
  dsimp only at hns₂ hsb₂ ⊢
  generalize hH1 : h1.push { cls := .type "list_iterator", data := .fields #[.ref ax, .int 0 0] } = H1 at hns₂ hsb₂ ⊢
  generalize hH2 : H1.push { cls := .type "list", dict := none, data := .seq ([] : List Value).toArray } = H2 at hns₂ hsb₂ ⊢
  have sz1 : H1.objs.size = h1.objs.size + 1 := by rw [← hH1, Heap.size_push]
  have sz2 : H2.objs.size = h1.objs.size + 2 := by rw [← hH2, Heap.size_push, sz1]
  have hne : ∀ {b : Addr}, b < H2.objs.size → b ≠ H2.objs.size := fun hb => Nat.ne_of_lt hb
  have up : ∀ b o, h1.get? b = some o → h₂.get? b = some o := fun b o e =>
    hsb₂.extBut b o (hne (by rw [sz2]; exact Nat.lt_of_lt_of_le (Heap.lt_size e) (by lia))) (Heap.get?_push_of_some _ (hH2 ▸ Heap.get?_push_of_some _ (hH1 ▸ Heap.get?_push_of_some _ e)))
  have hI : h₂.get? h1.objs.size = some { cls := .type "list_iterator", data := .fields #[.ref ax, .int 0 0] } :=
    hsb₂.extBut _ _ (hne (by rw [sz2]; exact Nat.lt_add_of_pos_right (by decide))) (Heap.get?_push_of_some _ (hH2 ▸ Heap.get?_push_of_some _ (hH1 ▸ Heap.get?_push_size _ rfl)))
  have hD : h₂.get? H1.objs.size = some (lst []) := hsb₂.extBut _ _ (hne (by rw [sz2, sz1]; exact Nat.lt_succ_self _)) (Heap.get?_push_of_some _ (hH2 ▸ Heap.get?_push_size _ rfl))
  have fresh₀ : ∀ a, h1.objs.size ≤ a → h₀.get? a = none := fun a ha => by
    cases e : h₀.get? a with
    | none => rfl
    | some o' => exact absurd (Heap.lt_size (F.keep a o' e)) (Nat.not_lt.mpr ha)
  have hLlt : L < h1.objs.size := F.ns.lt
  generalize hIe : h1.objs.size = I at *
  generalize hDe : H1.objs.size = D at *
  generalize hCe : H2.objs.size = C at *
  have I₀ : h₀.get? I = none := fresh₀ _ (Nat.le_refl _)
  have lID : Nat.lt I D := by rw [sz1]; exact Nat.lt_succ_self _
  have lIC : Nat.lt I C := by rw [sz2]; exact Nat.lt_add_of_pos_right (by decide)
  have lDC : Nat.lt D C := by rw [sz1, sz2]; exact Nat.lt_succ_self _
  have D₀ : h₀.get? D = none := fresh₀ _ (Nat.le_of_lt lID)
  have C₀ : h₀.get? C = none := fresh₀ _ (Nat.le_of_lt lIC)
  have nIL : L ≠ I := Nat.ne_of_lt hLlt
  have nDL : L ≠ D := Nat.ne_of_lt (Nat.lt_trans hLlt lID)
  have nCL : L ≠ C := Nat.ne_of_lt (Nat.lt_trans hLlt lIC)
  have nID : I ≠ D := Nat.ne_of_lt lID
  have nIC : I ≠ C := Nat.ne_of_lt lIC
  have nDC : D ≠ C := Nat.ne_of_lt lDC
  have off₀ : ∀ p ∈ Led c₀, p.1 ≠ I ∧ p.1 ≠ C ∧ p.1 ≠ D := fun p hp => by
    have hb : p.1 < I := hIe ▸ Heap.lt_size (N p hp).1
    exact ⟨Nat.ne_of_lt hb, Nat.ne_of_lt (Nat.lt_trans hb lIC), Nat.ne_of_lt (Nat.lt_trans hb lID)⟩
  have loop : codeAny (model prog w) A (.compLoop (.ListComp elt [⟨.Name x px, iter, [], 0⟩, ⟨.Name y py, iter', [ct], 0⟩] scope pos) 0 (.ref I) (.ref D) (compEnvC scope cl C env))
      (RR (.ref D) C) { s with heap := h₂, toks := tk1 + ([] : List (Str × Value)).length } := by
    refine loop_out (Out2 h₀ L m ax its I C D Led J s) ?_ (its.size + 1) ⟨h₂, _, 0, [], c₀, _, rfl, Nat.zero_le _, rfl, Nat.zero_le _, ⟨_, hI, rfl, rfl⟩, F.keeps up, hns₂, ?_, off₀, h0⟩ (by intro _; rfl) (hs₁ C)
    · rintro n s' ⟨h', tk, i, ys, c, m', rfl, hi, rfl, hyl, hit, F', hn', N', off', hJ⟩
      have hl' : h'.IsList ax its := lis (pre := [_]) N'
      by_cases hlt : i < its.size
      · obtain ⟨v, hv⟩ : ∃ v, its[i]? = some v := ⟨its[i], by simp [hlt]⟩
        refine wpAny_pyNext_list_item hit hl' hv fun h₃ hit₃ hs₃ => ?_
        refine wpAny_assign_Name (wpAny_storeName_local (lookup_relabel_local hx) (hn'.sameBut hs₃ (Ne.symm nIC)) (fun h₄ hn₄ hs₄ => ?_) (by simp [compEnvC, relabel, hkind]))
        have F₄ : Fr h₀ L h₄ m := (fr_ext F' hs₃.extBut nIL I₀).change hs₄ (Ne.symm nCL) C₀
        have N₄ : News h₀ L h₄ ((D, lst ys) :: Led c) := news_ext (news_ext N' hs₃.extBut (fun p hp => by
          rcases List.mem_cons.mp hp with rfl | hp
          · exact Ne.symm nID
          · exact (off' p hp).1)) hs₄.extBut (fun p hp => by
          rcases List.mem_cons.mp hp with rfl | hp
          · exact nDC
          · exact (off' p hp).2.1)
        have hit₄ := hit₃.extBut hs₄.extBut nIC
        obtain ⟨oI, heI, hcI⟩ := id hit₄
        obtain ⟨oC, heC, hoC⟩ := ns_obj hn₄
        have NN : News h₀ L h₄ ((I, oI) :: (C, oC) :: (D, lst ys) :: Led c) := fun p hp => by
          rcases List.mem_cons.mp hp with rfl | hp
          · exact ⟨heI, Ne.symm nIL, I₀⟩
          · rcases List.mem_cons.mp hp with rfl | hp
            · exact ⟨heC, Ne.symm nCL, C₀⟩
            · exact N₄ p hp
        refine wpAny_mono (second i c ys v I oI C oC D _ h₄ _ _ hlt hJ hv hoC (by simp) F₄ NN) (fun xv s₅ e => ?_) fun _ _ e => e
        obtain ⟨tk', rfl, rfl⟩ := e
        refine wpAny_pyIter_list (lis (pre := [_]) N₄) ?_
        dsimp only
        generalize hH5 : h₄.push { cls := .type "list_iterator", data := .fields #[.ref ax, .int 0 0] } = h₅
        have up₅ : ∀ b o, h₄.get? b = some o → h₅.get? b = some o := fun b o e => hH5 ▸ Heap.get?_push_of_some _ e
        have hI2 : h₅.get? h₄.objs.size = some { cls := .type "list_iterator", data := .fields #[.ref ax, .int 0 0] } := hH5 ▸ Heap.get?_push_size _ rfl
        have lL := F₄.ns.lt
        have lI := Heap.lt_size heI
        have lC := Heap.lt_size heC
        have lD := Heap.lt_size (N₄ _ (.head _)).1
        have lLed : ∀ p ∈ Led c, p.1 < h₄.objs.size := fun p hp => Heap.lt_size (N₄ p (.tail _ hp)).1
        have I2₀ : h₀.get? h₄.objs.size = none := by
          cases e : h₀.get? h₄.objs.size with
          | none => rfl
          | some o' => exact absurd (Heap.lt_size (F₄.keep _ o' e)) (Nat.lt_irrefl _)
        generalize h₄.objs.size = I2 at *
        have nL2 : L ≠ I2 := Nat.ne_of_lt lL
        have nI2 : I ≠ I2 := Nat.ne_of_lt lI
        have nC2 : C ≠ I2 := Nat.ne_of_lt lC
        have nD2 : D ≠ I2 := Nat.ne_of_lt lD
        have loop2 : ∀ tk₅, codeAny (model prog w) (A.mark none) (.compLoop (.ListComp elt [⟨.Name x px, iter, [], 0⟩, ⟨.Name y py, iter', [ct], 0⟩] scope pos) 1 (.ref I2) (.ref D) (compEnvC scope cl C env))
            (fun r s₅ => match r with | .ok _ => ∃ n, n < its.size + 1 - i ∧ Out2 h₀ L m ax its I C D Led J s n s₅ | .error e => cameBackBy (model prog w) A (compEnvC scope cl C env) (NB prog w A (compEnvC scope cl C env) (RR (.ref D) C)) e s₅) { s with heap := h₅, toks := tk₅ } := by
          intro tk₅
          refine loop_in (In2 h₀ L m x v ax its I I2 C D Led J i s) ?_ (its.size + 1) ⟨h₅, _, 0, ys, c, _, rfl, Nat.zero_le _, rfl, hyl, ⟨_, hI2, rfl, rfl⟩, hit₄.at fun o e => up₅ _ o e, F₄.keeps up₅, hn₄.at' fun o e => up₅ _ o e, by simp, fun p hp => ⟨up₅ _ _ (N₄ p hp).1, (N₄ p hp).2⟩, fun p hp => ⟨(off' p hp).1, Nat.ne_of_lt (lLed p hp), (off' p hp).2.1, (off' p hp).2.2⟩, hJ⟩ (by intro _; rfl)
          rintro n s' ⟨h₆, tk₆, j, ys', c', m', rfl, hj, rfl, hyl', hit2, hit1, F₆, hn₆, hm₆, N₆, off₆, hJ₆⟩
          have hl₆ : h₆.IsList ax its := lis (pre := [_]) N₆
          by_cases hjt : j < its.size
          · obtain ⟨u, hu⟩ : ∃ u, its[j]? = some u := ⟨its[j], by simp [hjt]⟩
            refine wpAny_pyNext_list_item hit2 hl₆ hu fun h₇ hit₇ hs₇ => ?_
            refine wpAny_assign_Name (wpAny_storeName_local (lookup_relabel_local hy) (hn₆.sameBut hs₇ nC2) (fun h₈ hn₈ hs₈ => ?_) (by simp [compEnvC, relabel, hkind]))
            have F₈ : Fr h₀ L h₈ m := (fr_ext F₆ hs₇.extBut nL2 I2₀).change hs₈ (Ne.symm nCL) C₀
            have N₈ : News h₀ L h₈ ((D, lst ys') :: Led c') := news_ext (news_ext N₆ hs₇.extBut (fun p hp => by
              rcases List.mem_cons.mp hp with rfl | hp
              · exact nD2
              · exact (off₆ p hp).2.1)) hs₈.extBut (fun p hp => by
              rcases List.mem_cons.mp hp with rfl | hp
              · exact nDC
              · exact (off₆ p hp).2.2.1)
            have hitI := (hit1.extBut hs₇.extBut nI2).extBut hs₈.extBut nIC
            have hit2' := hit₇.extBut hs₈.extBut (Ne.symm nC2)
            obtain ⟨oI, heI8, hcI8⟩ := id hitI
            obtain ⟨o2, he28, hc28⟩ := id hit2'
            obtain ⟨oC, heC8, hoC8⟩ := ns_obj hn₈
            have NN8 : News h₀ L h₈ ((I, oI) :: (I2, o2) :: (C, oC) :: (D, lst ys') :: Led c') := fun p hp => by
              rcases List.mem_cons.mp hp with rfl | hp
              · exact ⟨heI8, Ne.symm nIL, I₀⟩
              · rcases List.mem_cons.mp hp with rfl | hp
                · exact ⟨he28, Ne.symm nL2, I2₀⟩
                · rcases List.mem_cons.mp hp with rfl | hp
                  · exact ⟨heC8, Ne.symm nCL, C₀⟩
                  · exact N₈ p hp
            refine wpAny_mono (turn i j c' ys' v u I oI I2 o2 C oC D _ h₈ _ _ hlt hjt hJ₆ hv hu hoC8 (by simp [hxy, hm₆]) (by simp) F₈ NN8 off₆ ⟨nI2, nIC, nID, Ne.symm nC2, Ne.symm nD2, Ne.symm nDC⟩) (fun ok s₉ h₉ => ?_) fun _ _ e => e
            have sizes : its.size + 1 - (j + 1) < its.size + 1 - j := by lia
            cases ok with
            | true =>
              simp only [if_true] at h₉ ⊢
              refine wpAny_mono h₉ (fun yv s₁₀ e => ?_) fun _ _ e => e
              obtain ⟨ha, tka, ca, rfl, Fa, Na, offa, hJa⟩ := e
              have zI := (Na _ (.head _)).1
              have z2 := (Na _ (.tail _ (.head _))).1
              have zC := (Na _ (.tail _ (.tail _ (.head _)))).1
              have zD := (Na _ (.tail _ (.tail _ (.tail _ (.head _))))).1
              have hij : i * its.size + its.size ≤ its.size * its.size := by
                have h1 : (i + 1) * its.size ≤ its.size * its.size := Nat.mul_le_mul_right _ hlt
                rwa [Nat.succ_mul] at h1
              have hys : ys'.toArray.size ≤ sizeLine := by
                rw [List.size_toArray]
                lia
              refine append_at (hsz := hys) zD fun hb hsb hDb => ?_
              refine ⟨its.size + 1 - (j + 1), sizes, hb, tka, j + 1, ys' ++ [yv], ca, _, rfl, hjt, rfl, by rw [List.length_append, List.length_singleton]; lia, (show ha.IsListIter I2 ax (j + 1) from ⟨o2, z2, hc28⟩).extBut hsb.extBut (Ne.symm nD2), (show ha.IsListIter I ax (i + 1) from ⟨oI, zI, hcI8⟩).extBut hsb.extBut nID, Fa.change hsb (Ne.symm nDL) D₀, (hoC8.ns zC).sameBut hsb (Ne.symm nDC), by simp [hxy, hm₆], fun p hp => ?_, offa, hJa⟩
              rcases List.mem_cons.mp hp with rfl | hp
              · exact ⟨hDb.trans (congrArg some (lst_snoc ys' yv)), Ne.symm nDL, D₀⟩
              · have z := Na p (.tail _ (.tail _ (.tail _ (.tail _ hp))))
                exact ⟨hsb.extBut _ _ (offa p hp).2.2.2 z.1, z.2⟩
            | false =>
              simp only [Bool.false_eq_true, if_false] at h₉ ⊢
              obtain ⟨ha, tka, ca, rfl, Fa, Na, offa, hJa⟩ := h₉
              have zI := (Na _ (.head _)).1
              have z2 := (Na _ (.tail _ (.head _))).1
              have zC := (Na _ (.tail _ (.tail _ (.head _)))).1
              exact ⟨its.size + 1 - (j + 1), sizes, ha, tka, j + 1, ys', ca, _, rfl, hjt, rfl, by lia, ⟨o2, z2, hc28⟩, ⟨oI, zI, hcI8⟩, Fa, hoC8.ns zC, by simp [hxy, hm₆], fun p hp => Na p (.tail _ (.tail _ (.tail _ hp))), offa, hJa⟩
          · obtain rfl : j = its.size := Nat.le_antisymm hj (Nat.not_lt.mp hjt)
            refine wpAny_pyNext_list_end hh hit2 hl₆ (by simp) fun h₇ he₇ => ?_
            refine ⟨its.size + 1 - (i + 1), by lia, h₇, tk₆, i + 1, ys', c', m', rfl, hlt, rfl, by rw [Nat.succ_mul]; exact hyl', hit1.extBut he₇ nI2, fr_ext F₆ he₇ nL2 I2₀, hn₆.extBut he₇ nC2, news_ext N₆ he₇ (fun p hp => ?_), fun p hp => ⟨(off₆ p hp).1, (off₆ p hp).2.2.1, (off₆ p hp).2.2.2⟩, next _ _ _ hlt hJ₆⟩
            rcases List.mem_cons.mp hp with rfl | hp
            · exact nD2
            · exact (off₆ p hp).2.1
        exact start_in (loop2 _) ((Walks.list (A := A.mark none) hh I2 ax (Nat.ne_of_lt (lLed _ (hlist c))) its).self 0 _ _ _ ⟨⟨_, hI2, rfl, rfl⟩, lis (pre := [_]) fun p hp => ⟨up₅ _ _ (N₄ p hp).1, (N₄ p hp).2⟩⟩ (loop2 _))
      · obtain rfl : i = its.size := Nat.le_antisymm hi (Nat.not_lt.mp hlt)
        refine wpAny_pyNext_list_end hh hit hl' (by simp) fun h₃ he₃ => ?_
        refine hRR D C h₃ tk m' ys c (fr_ext F' he₃ nIL I₀) (news_ext N' he₃ ?_) (fun p hp => (off' p hp).2) (hn'.extBut he₃ (Ne.symm nIC)) C₀ D₀ (Ne.symm nCL) (Ne.symm nDL) (Ne.symm nDC) hJ
        intro p hp
        rcases List.mem_cons.mp hp with rfl | hp
        · exact Ne.symm nID
        · exact (off' p hp).1
    · intro p hp
      rcases List.mem_cons.mp hp with rfl | hp
      · exact ⟨hD, Ne.symm nDL, D₀⟩
      · exact ⟨up _ _ (N p hp).1, (N p hp).2⟩
  exact codeAny_compStart_list loop ((Walks.list (A := A) hh I ax (Nat.ne_of_lt hlt) its).self 0 _ _ _ ⟨⟨_, hI, rfl, rfl⟩, lis (pre := []) fun p hp => ⟨up _ _ (N p hp).1, (N p hp).2⟩⟩ loop)
theorem comp2A {σ : Type} {elt iter iter' ct : Expr} {x y : Str} {px py : Pos} {scope : Scope} {cl : List (Str × Addr)} {pos : Pos} {ax : Addr} {its : Array Value} {k : Nat} {h₀ : Heap} {L : Addr} {m : Str → Option Value} {env : Env} {z : Str} {pz spos : Pos} {Q : Flow → Shared → Prop}
    (Led : σ → List (Addr × Obj)) (J : Nat → Nat → List Value → σ → Prop) (c₀ : σ) (F₀ : Fr h₀ L s.heap m)
    (hh : A.handled = none) (hcell : ∀ z ∈ scope.names, z.2 ≠ .cell) (hkind : scope.kind = .function)
    (hx : scope.names.lookup x = some .local) (hy : scope.names.lookup y = some .local) (hxy : x ≠ y)
    (hs₁ : ∀ C v, foldedSetIterable iter' (compEnvC scope cl C env) v = pure v)
    (hlist : ∀ c, (ax, ({ cls := .type "list", data := .seq its k } : Obj)) ∈ Led c) (hsz : its.size * its.size + its.size ≤ sizeLine) (h0 : J 0 0 [] c₀)
    (hclos : closureFor scope env = pure cl) (hnames : ∀ z ∈ scope.names, z.2 = .local → scope.names.lookup z.1 = some .local) (hs₀ : ∀ v, foldedSetIterable iter env v = pure v)
    (hLe : env.locals = L) (hsw : swapsWith (.ListComp elt [⟨.Name x px, iter, [], 0⟩, ⟨.Name y py, iter', [ct], 0⟩] scope pos) (some (.Name z pz)) spos.line env = pure true)
    (hz : env.kindOf z = some .local) (hp : (env.scope.kind == .class || (env.scope.kind == .module && env.locals != env.globals)) = false)
    (first : wpAny (model prog w) A (eval iter env) (fun xv s₁ => ∃ h tk, xv = .ref ax ∧ s₁ = { s with heap := h, toks := tk } ∧ Fr h₀ L h m ∧ News h₀ L h (Led c₀)) E s)
    (second : ∀ i c ys v I oI C oC D m₂ h tk (E' : Value → Shared → Prop), i < its.size → J i 0 ys c → its[i]? = some v → NsObj oC m₂ → m₂ x = some v → Fr h₀ L h m → News h₀ L h ((I, oI) :: (C, oC) :: (D, lst ys) :: Led c) →
      wpAny (model prog w) A (eval iter' (compEnvC scope cl C env)) (fun xv s₁ => ∃ tk', xv = .ref ax ∧ s₁ = { s with heap := h, toks := tk' }) E' { s with heap := h, toks := tk })
    (turn : ∀ i j c ys v u I oI I2 o2 C oC D m₂ h tk (E' : Value → Shared → Prop), i < its.size → j < its.size → J i j ys c → its[i]? = some v → its[j]? = some u → NsObj oC m₂ → m₂ x = some v → m₂ y = some u → Fr h₀ L h m →
      News h₀ L h ((I, oI) :: (I2, o2) :: (C, oC) :: (D, lst ys) :: Led c) → (∀ p ∈ Led c, p.1 ≠ I ∧ p.1 ≠ I2 ∧ p.1 ≠ C ∧ p.1 ≠ D) → I ≠ I2 ∧ I ≠ C ∧ I ≠ D ∧ I2 ≠ C ∧ I2 ≠ D ∧ C ≠ D →
      wpAny (model prog w) A (isTrue ct (compEnvC scope cl C env) (eval ct (compEnvC scope cl C env))) (fun ok s' => if ok = true then
        wpAny (model prog w) A (eval elt (compEnvC scope cl C env)) (fun yv s'' => End2 h₀ L m { s with heap := h, toks := tk } I oI I2 o2 C oC D (lst ys) Led (fun c' => J i (j + 1) (ys ++ [yv]) c') s'') E' s'
        else End2 h₀ L m { s with heap := h, toks := tk } I oI I2 o2 C oC D (lst ys) Led (fun c' => J i (j + 1) ys c') s') E' { s with heap := h, toks := tk })
    (next : ∀ i ys c, i < its.size → J i its.size ys c → J (i + 1) 0 ys c)
    (fin : ∀ ys c D h tk, J its.size 0 ys c → Fr h₀ L h (fun q => if q = z then some (.ref D) else m q) → News h₀ L h ((D, lst ys) :: Led c) → (∀ p ∈ Led c, p.1 ≠ D) → Q .next { s with heap := h, toks := tk }) :
    wpAny (model prog w) A (exec (.Assign [.Name z pz] (.ListComp elt [⟨.Name x px, iter, [], 0⟩, ⟨.Name y py, iter', [ct], 0⟩] scope pos) spos) env) Q E s := by
  subst hLe
  rw [exec_Assign_Name_used _ _ _ _ hsw]
  refine wpAny_bind (wpAny_standAt (wpAny_bind ?_))
  show wpAny _ A (do let _ ← comprehension (.ListComp elt [⟨.Name x px, iter, [], 0⟩, ⟨.Name y py, iter', [ct], 0⟩] scope pos) scope env _ (newList []) false (eval iter env) (some (assign (.Name z pz) env))) _ _ s
  refine wpAny_bind (wpAny_mono (wpAny_comprehension_free (use := some (assign (.Name z pz) env)) (Q := fun _ s' => Q .next s') rfl hs₀ hclos hkind hnames
    (wpAny_mono first (fun xv s₁ h₁ => ?_) fun _ _ e => e)) (fun _ s' hq => wpAny_pure (wpAny_pure hq)) fun _ _ e => e)
  obtain ⟨h1, tk1, rfl, rfl, F, N⟩ := h₁
  refine block2 Led J c₀ hh hcell hkind hx hy hxy hs₁ hlist hsz h0 F N second turn next ?_
  intro D C h tk m' ys c F' N' off hn C₀ D₀ hCL hDL hCD hJ
  show wpAny _ A (assign (.Name z pz) env (.ref D)) _ _ _
  refine wpAny_assign_Name (wpAny_storeName_local hz F'.ns (fun h₂ hn₂ hs₂ => ?_) hp)
  have F₂ : Fr h₀ env.locals h₂ (fun q => if q = z then some (.ref D) else m q) := F'.set hn₂ hs₂
  refine ⟨m', hn.sameBut hs₂ hCL, fun h'' hs'' => fin ys c D h'' _ hJ (F₂.change hs'' hCL C₀) (fun p hp => ?_) fun p hp => (off p hp).2⟩
  have q : h₂.get? p.1 = some p.2 := hs₂.extBut _ _ (N' p hp).2.1 (N' p hp).1
  refine ⟨hs''.extBut _ _ ?_ q, (N' p hp).2⟩
  rcases List.mem_cons.mp hp with rfl | hp
  · exact Ne.symm hCD
  · exact (off p hp).1
end
end Mine

namespace Mine
section
 open PyProof.Rows.LCg PyProof.Rows.LCt
variable {prog : Program} {w : World} {A : Around} {E : Value → Shared → Prop} {s : Shared} {h₀ : Heap} {L : Addr} {m : Str → Option Value} {env : Env}
end
end Mine

namespace Mine
noncomputable def EndV {σ : Type} (h₀ : Heap) (L : Addr) (Led : σ → List (Addr × Obj)) (ps : σ → List (Str × Value)) (stored : List Str) (m₀ : Str → Option Value) (P : σ → Prop) (own : List (Addr × Obj)) (s₁ s₂ : Shared) : Prop :=
  ∃ (c : σ) (h' : Heap) (tk : Nat) (m' : Str → Option Value) (news' : List (Addr × Obj)), s₂ = { s₁ with heap := h', toks := tk } ∧ Fr h₀ L h' m' ∧ News h₀ L h' news' ∧ (∀ p ∈ Led c, p ∈ news') ∧ (∀ p ∈ own, p ∈ news') ∧ (∀ q ∈ own, ∀ p ∈ Led c, @Ne Nat q.1 p.1) ∧
    (∀ p ∈ ps c, m' p.1 = some p.2) ∧ (∀ z, (∀ p ∈ ps c, z ≠ p.1) → stored.contains z = false → m' z = m₀ z) ∧ P c
noncomputable def PostV {σ : Type} (h₀ : Heap) (L : Addr) (Led : σ → List (Addr × Obj)) (ps : σ → List (Str × Value)) (stored : List Str) (m₀ : Str → Option Value) (P Pe : σ → Prop) (own : List (Addr × Obj)) (s₁ : Shared) (Q : Flow → Shared → Prop) (f : Flow) (s₂ : Shared) : Prop :=
  match f with
  | .ret v => Q (.ret v) s₂
  | .brk => EndV h₀ L Led ps stored m₀ Pe own s₁ s₂
  | _ => EndV h₀ L Led ps stored m₀ P own s₁ s₂
section
variable {prog : Program} {w : World} {A : Around} {E : Value → Shared → Prop} {s : Shared} {env : Env} {h₀ : Heap} {target : Expr} {body : List Stmt} {Q : Flow → Shared → Prop}
theorem m_endV {σ : Type} {L : Addr} {Led : σ → List (Addr × Obj)} {ps : σ → List (Str × Value)} {stored : List Str} {m₀ : Str → Option Value} {P : σ → Prop} {own : List (Addr × Obj)} {s₁ : Shared} (c : σ) {h' : Heap} {tk : Nat} {m' : Str → Option Value} {news' : List (Addr × Obj)}
    (F : Fr h₀ L h' m') (N : News h₀ L h' news') (hn : ∀ p ∈ Led c, p ∈ news') (ho : ∀ p ∈ own, p ∈ news') (hs : ∀ q ∈ own, ∀ p ∈ Led c, @Ne Nat q.1 p.1) (hk : ∀ p ∈ ps c, m' p.1 = some p.2) (hr : ∀ z, (∀ p ∈ ps c, z ≠ p.1) → stored.contains z = false → m' z = m₀ z) (hP : P c) :
    EndV h₀ L Led ps stored m₀ P own s₁ { s₁ with heap := h', toks := tk } := ⟨c, h', tk, m', news', rfl, F, N, hn, ho, hs, hk, hr, hP⟩
end
end Mine

namespace Mine
section
variable {prog : Program} {w : World} {A : Around} {E : Value → Shared → Prop} {s : Shared} {env : Env} {h₀ : Heap} {target : Expr} {body : List Stmt} {Q : Flow → Shared → Prop}
theorem go_tuple {elts : List Expr} {k : Nat} {pos : Pos} {l : Addr} (i : Nat) (v : Value) (s : Shared) (Q : Unit → Shared → Prop) (E : Value → Shared → Prop) (I : Addr) (hit : s.heap.IsListIter I l i) (hq : Q () s) :
    wpAny (model prog w) A (letOwnedTupleGo (.Tuple elts k pos) (.ref I) v) Q E s := by
  cases v with
  | ref T => exact wpAny_letOwnedTupleGo_listiter hit hq
  | _ => exact wpAny_pure hq
theorem m_listV {σ : Type} {l : Addr} {vs : List Value} {nn : Nat} {m₀ : Str → Option Value} {news : List (Addr × Obj)} (Led : σ → List (Addr × Obj)) (ps : σ → List (Str × Value)) (stored : List Str) (P : Nat → σ → Prop) (Pe : σ → Prop) (c₀ : σ)
    (hh : A.handled = none) (hl : ∀ c : σ, (l, listOf vs.toArray nn) ∈ Led c) (F : Fr h₀ env.locals s.heap m₀) (N : News h₀ env.locals s.heap news) (hL : ∀ p ∈ Led c₀, p ∈ news)
    (hk : ∀ p ∈ ps c₀, m₀ p.1 = some p.2) (hp : P 0 c₀) (hend : ∀ c, P vs.length c → Pe c)
    (hgo : ∀ i v (s : Shared) (Q : Unit → Shared → Prop) (E : Value → Shared → Prop), ∀ I, s.heap.IsListIter I l i → Q () s → wpAny (model prog w) A (letOwnedTupleGo target (.ref I) v) Q E s)
    (turn : ∀ (c : σ) (i : Nat) v (u : Str → Option Value) h tk own, vs[i]? = some v → (∀ q ∈ own, ∀ p ∈ Led c, @Ne Nat q.1 p.1) → (∀ q ∈ own, q.1 < h.objs.size) → P i c →
      Fr h₀ env.locals h (kstB (fun z => if stored.contains z then u z else m₀ z) (ps c)) → News h₀ env.locals h (Led c ++ own) →
      wpAny (model prog w) A (assign target env v) (fun _ s₃ => wpAny (model prog w) A (execs body env) (PostV h₀ env.locals Led ps stored m₀ (P (i + 1)) Pe own { s with heap := h, toks := tk } Q) E s₃) E { s with heap := h, toks := tk })
    (done : ∀ (c : σ) (u : Str → Option Value) h tk, Pe c → Fr h₀ env.locals h (kstB (fun z => if stored.contains z then u z else m₀ z) (ps c)) → News h₀ env.locals h (Led c) → Q .next { s with heap := h, toks := tk }) :
    wpAny (model prog w) A (pyIter (.ref l)) (fun it s₂ => TurnsAt prog w A h₀ env target body Q E it s₂) E s := by
  have N0 : News h₀ env.locals s.heap (Led c₀) := fun p hp => N p (hL p hp)
  have hax := N0 _ (hl c₀)
  have hlt : l < s.heap.objs.size := Heap.lt_size hax.1
  have hlI : l ≠ s.heap.objs.size := Nat.ne_of_lt hlt
  refine wpAny_pyIter_list (items := vs.toArray) ⟨_, hax.1, rfl, nn, rfl⟩ ?_
  have W := Walks.list (prog := prog) (w := w) hh s.heap.objs.size l hlI vs.toArray
  let J : Nat → (Str → Option Value) → List (Addr × Obj) → Prop := fun i m nx => ∃ c : σ, nx = Led c ∧ (∀ p ∈ ps c, m p.1 = some p.2) ∧ (∀ z, (∀ p ∈ ps c, z ≠ p.1) → stored.contains z = false → m z = m₀ z) ∧ P i c
  have upd : ∀ b o, s.heap.get? b = some o → (s.heap.push { cls := .type "list_iterator", data := .fields #[.ref l, .int 0 0] }).get? b = some o := fun b o e => Heap.get?_push_of_some _ e
  refine ⟨s.heap.objs.size, [s.heap.objs.size, l], [s.heap.objs.size], vs.toArray.size, _, _, _, m₀, Led c₀, J, rfl, KTurns.ofWalks W (fun i v s Q E st q => hgo i v s Q E _ st.1 q), ?_, ?_, ?_, ⟨⟨_, Heap.get?_push_size _ rfl, rfl, rfl⟩, ⟨_, upd _ _ hax.1, rfl, nn, rfl⟩⟩, F.push _, fun p hp => ⟨upd _ _ (N0 p hp).1, (N0 p hp).2⟩, ⟨c₀, rfl, hk, fun _ _ _ => rfl, hp⟩, ?_, ?_⟩
  · intro hm
    rcases List.mem_cons.mp hm with e | hm
    · exact absurd F.ns.lt (e ▸ Nat.lt_irrefl _)
    · exact hax.2.1 (List.mem_singleton.mp hm).symm
  · intro b hb
    rw [List.mem_singleton.mp hb]
    exact next_is_new F
  · intro p hp hI
    exact absurd (Heap.lt_size (N0 p hp).1) ((List.mem_singleton.mp hI) ▸ Nat.lt_irrefl _)
  · rintro i v m₁ nx h tk own hi hv ⟨c, rfl, h1, h2, hp'⟩ hwr hfp hat hown hst F₁ N₁
    have hv' : vs[i]? = some v := by simpa using hv
    let own' := own.filter fun p => !decide (p.1 = l)
    have in' : ∀ q ∈ own', q ∈ own ∧ q.1 = s.heap.objs.size := fun q hq => by
      obtain ⟨h3, h4⟩ := List.mem_filter.mp hq
      refine ⟨h3, ?_⟩
      rcases List.mem_cons.mp (hfp q h3) with e | e
      · exact e
      · exact absurd (List.mem_singleton.mp e) (by simpa using h4)
    have sep : ∀ q ∈ own', ∀ p ∈ Led c, @Ne Nat q.1 p.1 := fun q hq p hp z => hwr p hp (List.mem_singleton.mpr (z ▸ (in' q hq).2))
    have N₂ : News h₀ env.locals h (Led c ++ own') := fun p hp => N₁ p ((List.mem_append.mp hp).elim (fun h => List.mem_append.mpr (.inr h)) fun h => List.mem_append.mpr (.inl (in' p h).1))
    have hlo : h.get? l = some (listOf vs.toArray nn) := (N₁ _ (List.mem_append.mpr (.inr (hl c)))).1
    obtain ⟨oI, hoI⟩ : ∃ o, (s.heap.objs.size, o) ∈ own' := by
      obtain ⟨o, ho, -⟩ := hst.1
      refine ⟨o, List.mem_filter.mpr ⟨hown _ (.head _) (next_is_new F) o ho, ?_⟩⟩
      simpa using Ne.symm hlI
    refine wpAny_mono (turn c i v m₁ h tk own' hv' sep (fun q hq => Heap.lt_size (hat q (in' q hq).1)) hp' (ksw_fr h1 h2 F₁) N₂) (fun _ s₃ p => wpAny_mono p (fun f s₂ p => ?_) fun _ _ e => e) fun _ _ e => e
    have fin : EndV h₀ env.locals Led ps stored m₀ (P (i + 1)) own' { s with heap := h, toks := tk } s₂ → LoopStepU h₀ env.locals [s.heap.objs.size] own (J (i + 1)) { s with heap := h, toks := tk } .next s₂ := by
      rintro ⟨c', h', tk', m', news', rfl, F', N', hn', ho', hs', k1, k2, kp⟩
      refine ⟨rfl, h', tk', m', Led c', rfl, F', fun p hp => ?_, fun p hp hI => ?_, c', rfl, k1, k2, kp⟩
      · rcases List.mem_append.mp hp with hp | hp
        · by_cases e : p.1 = l
          · obtain ⟨pa, po⟩ := p
            have e' : pa = l := e
            subst e'
            have h3 : po = listOf vs.toArray nn := Option.some.inj ((hat _ hp).symm.trans hlo)
            subst h3
            exact N' _ (hn' _ (hl c'))
          · exact N' p (ho' p (List.mem_filter.mpr ⟨hp, by simpa using e⟩))
        · exact N' p (hn' p hp)
      · exact hs' _ hoI p hp (List.mem_singleton.mp hI).symm
    cases f with
    | ret v => exact .ret p
    | brk =>
      refine .brk ?_
      obtain ⟨c', h', tk', m', news', rfl, F', N', hn', ho', hs', k1, k2, kp⟩ := p
      exact done c' m' h' tk' kp (ksw_fr k1 k2 F') (fun p hp => N' p (hn' p hp))
    | next => exact .next (fin p)
    | cont => exact .cont (fin p)
  · rintro h' tk m' news' F' N' _ ⟨c, rfl, h1, h2, hp'⟩
    exact done c m' h' tk (hend c (by simpa using hp')) (ksw_fr h1 h2 F') N'
end
end Mine

namespace Mine
structure LI (num n : Int) (i : Nat) (x1 y1 x2 y2 : Int) : Prop where
  g : GInv 5000 1 i x1 x2
  d1 : n ∣ x1 - y1 * num
  d2 : n ∣ x2 - y2 * num
  b1 : Bd (2500 * (i + 1)) y1
  b2 : Bd (2500 * (i + 1)) y2
  c1 : Bd 2480 x1
  c2 : Bd 2480 x2
theorem LI.start {num n : Int} (hn : 0 < n) (hB : Bd 2480 n) (hg : Int.gcd num n = 1) : LI num n 0 n 0 (num.fmod n) 1 := by
  have h := fmod_nn (a := num) hn
  have hb : Bd 2480 (num.fmod n) := fmod_bd hn hB
  refine ⟨?_, ⟨1, by grind⟩, ?_, .small (by decide) (by decide), .small (by decide) (by decide), hB, hb⟩
  · have e : Int.gcd n (num.fmod n) = 1 := by rw [gcd_fmod hn, hg]
    have := GInv.startB (Int.le_of_lt hn) h.1 (hB.mono (by decide)) (hb.mono (by decide))
    rwa [e] at this
  · have := fmod_dvd (a := num) hn
    rwa [Int.one_mul]
theorem LI.q {num n : Int} {i : Nat} {x1 y1 x2 y2 : Int} (h : LI num n i x1 y1 x2 y2) (h0 : x2 ≠ 0) : Bd 2481 (x1.fdiv x2) ∧ x1 - x1.fdiv x2 * x2 = x1.fmod x2 := by
  obtain ⟨hg, -, -, -, -, c1, c2⟩ := h
  have ha := hg.1
  have hb : 0 < x2 := by have := hg.2.1; lia
  have hq := Int.mul_fdiv_add_fmod x1 x2
  have hm := fmod_nn (a := x1) hb
  have hq0 : 0 ≤ x1.fdiv x2 := by
    rw [Int.fdiv_eq_ediv_of_nonneg _ (Int.le_of_lt hb)]
    exact Int.ediv_nonneg ha (Int.le_of_lt hb)
  have e : x2 * x1.fdiv x2 = x1.fdiv x2 * x2 := Int.mul_comm ..
  have h1 : 1 * x1.fdiv x2 ≤ x2 * x1.fdiv x2 := Int.mul_le_mul_of_nonneg_right (by lia) hq0
  exact ⟨Bd.of_lt hq0 (by lia) (c1.mono (by decide)), by lia⟩
theorem LI.ok {num n : Int} {i : Nat} {x1 y1 x2 y2 : Int} (h : LI num n i x1 y1 x2 y2) (hi : i < 5000) (h0 : x2 ≠ 0) : IntMulOk (x1.fdiv x2) x2 ∧ IntMulOk (x1.fdiv x2) y2 :=
  ⟨mulOkB 2481 2480 (h.q h0).1 h.c2 (by decide), mulOkB 2481 (2500 * (i + 1)) (h.q h0).1 h.b2 (by lia)⟩
theorem LI.step {num n : Int} {i : Nat} {x1 y1 x2 y2 : Int} (h : LI num n i x1 y1 x2 y2) (h0 : x2 ≠ 0) : LI num n (i + 1) x2 y2 (x1 - x1.fdiv x2 * x2) (y1 - x1.fdiv x2 * y2) := by
  obtain ⟨hq, he⟩ := h.q h0
  obtain ⟨hg, d1, d2, b1, b2, c1, c2⟩ := h
  have hb : 0 < x2 := by have := hg.2.1; lia
  have hm := fmod_nn (a := x1) hb
  refine ⟨he ▸ hg.step h0, d2, ?_, b2.mono (by lia), ?_, c2, he ▸ Bd.of_lt hm.1 (Int.le_of_lt hm.2) c2⟩
  · obtain ⟨u, hu⟩ := d1
    obtain ⟨v, hv⟩ := d2
    exact ⟨u - x1.fdiv x2 * v, by grind⟩
  · have e : 2500 * (i + 1 + 1) = (2500 * (i + 1) + 2499) + 1 := by lia
    rw [e]
    refine Bd.sub (b1.mono (by lia)) ?_ (by lia)
    exact (hq.mul b2).mono (by lia)
theorem LI.done {num n y1 y2 x1 : Int} {i : Nat} (h : LI num n i x1 y1 0 y2) (hn : 0 < n) : 0 ≤ y1.fmod n ∧ y1.fmod n < n ∧ n ∣ y1.fmod n * num - 1 := by
  have e := h.g.out
  have e1 : x1 = 1 := e
  have hf := fmod_nn (a := y1) hn
  refine ⟨hf.1, hf.2, ?_⟩
  obtain ⟨u, hu⟩ := h.d1
  obtain ⟨v, hv⟩ := fmod_dvd (a := y1) hn
  exact ⟨v * num - u, by grind⟩
theorem LI.lg {num n y1 y2 x1 x2 : Int} {i : Nat} (h : LI num n i x1 y1 x2 y2) : x2.natAbs.log2 < 9000 := Bd.lg h.c2 (by decide)
noncomputable def szI (n : Int) : Int := ((Builtin.Int.intBits n : Int) + 7).fdiv 8
theorem szI_up {n : Int} (h : ((Builtin.Int.intBits n : Nat) : Int).fmod 8 ≠ 0) : ((Builtin.Int.intBits n : Nat) : Int).fdiv 8 + 1 = szI n := by
  unfold szI
  generalize ((Builtin.Int.intBits n : Nat) : Int) = b at *
  rw [Int.fmod_eq_emod_of_nonneg _ (by decide)] at h
  rw [Int.fdiv_eq_ediv_of_nonneg _ (by decide), Int.fdiv_eq_ediv_of_nonneg _ (by decide)]
  lia
theorem szI_even {n : Int} (h : ((Builtin.Int.intBits n : Nat) : Int).fmod 8 = 0) : ((Builtin.Int.intBits n : Nat) : Int).fdiv 8 = szI n := by
  unfold szI
  generalize ((Builtin.Int.intBits n : Nat) : Int) = b at *
  rw [Int.fmod_eq_emod_of_nonneg _ (by decide)] at h
  rw [Int.fdiv_eq_ediv_of_nonneg _ (by decide), Int.fdiv_eq_ediv_of_nonneg _ (by decide)]
  lia
structure Scr (vs : List Value) (ns : List Int) : Prop where
  i : IntsAre vs ns
  n : ns.length ≤ 100
  b : ∀ n ∈ ns, Bd 1048577 n
theorem Scr.cell {vs : List Value} {ns : List Int} (h : Scr vs ns) (k : Nat) : Bd 1048577 (ns.getD k 0) := getD_all h.b (Bd.small (by decide) (by decide)) k
theorem bd_abs {k : Nat} {x : Int} (h : Bd k x) : Bd k (if x < 0 then -x else x) := by
  unfold Bd at *
  split <;> lia
end Mine

namespace Mine
section
variable {prog : Program} {w : World} {M : Model} {A : Around} {E : Value → Shared → Prop} {s : Shared} {K : Frag} {h₀ : Heap} {L : Addr} {m : Str → Option Value} {news : List (Addr × Obj)}
theorem to_octets {x : Int} {k : Nat} {kk : Int} {t u v : Tok} {Q : Value → Shared → Prop} (hkk : kk = (k : Int)) (hk : k ≤ 100000) (h0 : 0 ≤ x) (h1 : x < 256 ^ k)
    (h : ∀ (b : Array UInt8) t' n, KBw.bInts b = (KTBy.little k x).reverse → Q (.bytes b t') { s with toks := n }) :
    wpAny (model prog w) A (call (.builtin "int.to_bytes") [.int x t, .int kk u, .str (Str.ofString "big") v]) Q E s := by
  subst hkk
  have hbits := KTBy.bits_le (k := k) (B := 256 ^ k) rfl h0 h1
  refine wpAny_call_entry KTBy.slot (typeIs_int s x t) KTBy.entry ?_ (KTBy.args _ _ _)
  refine wpAny_bind (m := Builtin.Int.intOfSelf (.int x t)) (wpAny_of_eq (a := x) rfl ?_)
  refine wpAny_bind (m := Builtin.Int.intBindNamed "to_bytes" ["length", "byteorder", "signed"] 0 2 [.int (k : Int) u, .str (Str.ofString "big") v] []) (wpAny_of_eq (a := [some (.int (k : Int) u), some (.str (Str.ofString "big") v), none]) (by kernel_rfl) ?_)
  refine wpAny_bind (m := Builtin.Int.intIndex "int.to_bytes" (.int (k : Int) u)) (wpAny_of_eq (a := (k : Int)) rfl ?_)
  refine KTBy.if_not (Bool.or_eq_false_iff.mpr ⟨decide_eq_false (by lia), decide_eq_false (by lia)⟩) ?_
  refine wpAny_bind (wpAny_of_eq (a := Str.ofString "big") (by kernel_rfl) ?_)
  refine wpAny_bind (wpAny_of_eq (a := false) rfl ?_)
  refine wpAny_bind (wpAny_of_eq (a := false) (by kernel_rfl) ?_)
  refine wpAny_ite_false (decide_eq_false (by lia)) ?_
  refine wpAny_ite_false (decide_eq_false (by lia)) ?_
  refine wpAny_ite_false (decide_eq_false (by rw [sizeLine_eq]; lia)) ?_
  refine KTBy.if_not (Bool.and_eq_false_iff.mpr (.inl (decide_eq_false (by lia)))) ?_
  refine KTBy.if_not (Bool.and_eq_false_iff.mpr (.inr (decide_eq_false (show ¬ ((Builtin.Int.intBits x : Int) > 8 * (k : Int)) by lia)))) ?_
  have hlen : (KTBy.low x ((k : Int)).toNat).length = k := by rw [KTBy.low_length, Int.toNat_natCast]
  refine wpAny_bind (wpAny_mkBytes (wpAny_pure ⟨_, rfl, h _ _ _ ?_⟩) ?_)
  · show ((KTBy.low x ((k : Int)).toNat).reverse).map (fun c : UInt8 => ((c.toNat : Nat) : Int)) = (KTBy.little k x).reverse
    rw [List.map_reverse, Int.toNat_natCast, KTBy.low_ints h0 h1, KTBy.little_eq]
  · show ((KTBy.low x ((k : Int)).toNat).reverse).length ≤ sizeLine
    rw [List.length_reverse, hlen, sizeLine_eq]
    lia
theorem from_check {b : Array UInt8} {t u : Tok} : checkBoundCall "int.from_bytes" ⟨[.type "int", .bytes b t, .str (Str.ofString "big") u], [(Str.ofString "signed", .bool false)]⟩ = pure () := by kernel_rfl
theorem from_octets_tree {b : Array UInt8} {t u : Tok} {P : Fin → Shared → Prop} (hl : b.size ≤ 1000000) (h : P (.done (.ret (.int (KFB.value (KBw.bInts b)) s.toks))) { s with toks := s.toks + 1 }) :
    wpAny M A (Builtin.«int.from_bytes» ⟨[.type "int", .bytes b t, .str (Str.ofString "big") u], [(Str.ofString "signed", .bool false)]⟩) P E s := by
  have hlt := KFB.fold_lt b.toList 0
  rw [Nat.zero_add, Nat.one_mul, Array.length_toList] at hlt
  unfold Builtin.«int.from_bytes»
  refine wpAny_bind (wpAny_of_eq (a := true) KFB.type_int ?_)
  refine KFB.if_not rfl ?_
  refine wpAny_bind (wpAny_of_eq (a := true) F.conv_sub_int ?_)
  refine KFB.if_not rfl ?_
  refine wpAny_bind (wpAny_of_eq (a := [some (.bytes b t), some (.str (Str.ofString "big") u), some (.bool false)]) (by kernel_rfl) ?_)
  refine wpAny_bind (wpAny_of_eq (a := Str.ofString "big") (by kernel_rfl) ?_)
  refine wpAny_bind (wpAny_of_eq (a := false) (by first | rfl | kernel_rfl) ?_)
  refine wpAny_bind (wpAny_of_eq (a := false) (by kernel_rfl) ?_)
  refine wpAny_bind (wpAny_of_eq (a := b) rfl ?_)
  show wpAny _ _ (mkIntGrown (b.toList.foldl (fun (acc : Int) (c : UInt8) => acc * 256 + (c.toNat : Int)) ((0 : Nat) : Int)) >>= fun v => _) _ _ _
  rw [KFB.foldI_eq]
  refine wpAny_bind (m := mkIntGrown _) ?_
  unfold mkIntGrown
  generalize hN : b.toList.foldl (fun (acc : Nat) (b : UInt8) => acc * 256 + b.toNat) 0 = N at hlt
  have hbig : ¬ ((N : Int).natAbs.log2 ≥ bitsLine) := by
    rw [Int.natAbs_natCast]
    have hb : bitsLine = 134217728 := by first | rfl | decide
    by_cases hz : N = 0
    · subst hz; rw [hb]; decide
    · have e : (256 : Nat) ^ b.size = 2 ^ (8 * b.size) := by rw [Nat.pow_mul]
      have h2 := (Nat.log2_lt hz).mpr (e ▸ hlt)
      lia
  rw [if_neg hbig]
  refine wpAny_mkInt ?_
  refine KFB.if_so (by decide +kernel) ?_
  have hv : (N : Int) = KFB.value (KBw.bInts b) := by
    rw [← hN]; exact KFB.fold_cast b.toList 0
  rw [hv]
  exact wpAny_bind (wpAny_pure (wpAny_pure h))
theorem from_octets {x : Addr} {b : Array UInt8} {t u : Tok} {Q : Value → Shared → Prop} (N : News h₀ L s.heap news) (hm : (x, KFB.bound) ∈ news) (hl : b.size ≤ 1000000)
    (h : ∀ t' k, Q (.int (KFB.value (KBw.bInts b)) t') { s with toks := k }) : wpAny (model prog w) A (call (.ref x) [.bytes b t, .str (Str.ofString "big") u] [(Str.ofString "signed", .bool false)]) Q E s := by
  refine wpAny_call (codeAny_of_tree ?_)
  show wpAny _ A.in1 (callAny (.ref x) ⟨[.bytes b t, .str (Str.ofString "big") u], [(Str.ofString "signed", .bool false)]⟩) _ _ s
  simp only [callAny]
  refine wpAny_bind (wpAny_load (KFB.at_of N hm) ?_)
  simp only [KFB.bound, show (Value.type "builtin_function_or_method" == Value.type "method" || Value.type "builtin_function_or_method" == Value.type "builtin_function_or_method" || Value.type "builtin_function_or_method" == Value.type "method-wrapper") = true by decide, if_true]
  refine KFB.if_so (by decide) ?_
  refine wpAny_bind (wpAny_of_eq (a := ()) from_check ?_)
  refine wpAny_bind (wpAny_pure (wpAny_pure ?_))
  exact ⟨KFB.quiet_fb, codeAny_builtin KFB.entry_fb (from_octets_tree hl (h _ _))⟩
theorem keeps_bound {x : Addr} (h : Heap) (X : KFB.StandsAt x h) : ∃ k, (k = Keeper.frame ∨ k = Keeper.machine ∨ k = Keeper.boundFrame) ∧ Looks M h (keeperOf (.ref x)) k :=
  ⟨.machine, .inr (.inl rfl), (Looks.ld (part := none) X).andThen .now⟩
theorem callWith_boundKw {pos : Pos} {env : Env} {u : Addr} {first : List Value} {e : Expr} {rest : List Expr} {kws : List Keyword} {Q : Value → Shared → Prop} (hall : (backToKw pos (keywordEach kws env)).all (·.1.isSome) = true)
    (h : wpAny M A (spliced (backTo pos (starEach (e :: rest) env))) (fun vs s₁ => wpAny M A (evalAll ((backToKw pos (keywordEach kws env)).map (·.2)))
      (fun ks s₂ => KFB.StandsAt u s₂.heap ∧ wpAny M A (call (.ref u) (first ++ vs) (((backToKw pos (keywordEach kws env)).filterMap (·.1)).zip ks)) Q E s₂) E s₁) E s)
    (hplain : ((backTo pos (starEach (e :: rest) env)).any (·.1) || (backToKw pos (keywordEach kws env)).any (·.1.isNone)) = false := by rfl) (he : starEach (e :: rest) env = (false, eval e env) :: starEach rest env := by rfl) :
    wpAny M A (callWith pos (.ref u) first (backTo pos (starEach (e :: rest) env)) (backToKw pos (keywordEach kws env))) Q E s :=
  callWith_of hplain (fun h X => keeps_bound h X) (evalArgs_kw2 hall h he)
end
theorem slot_bytes_join : Slot "bytes" "join" "bytes.join" :=
  .of (owner := "bytes") (n := "join") (by rw [typeLookup_type, builtinLookup_eq_fast]; kernel_rfl) (by decide +kernel) (by decide +kernel) (by decide +kernel)
    (by first | exact .inl (by decide +kernel) | exact .inr (by decide +kernel)) (by rw [isSubtype_type]; kernel_rfl)
theorem type_bytes_join : typeOf (.builtin "bytes.join") = pure (.type "method_descriptor") := by show builtinType _ = _; rw [builtinType_eq_fast]; kernel_rfl
theorem entry_bytes_join : entryFor table "bytes.join" = some Builtin.«bytes.join» := by first | exact entryFor_of_fast (by kernel_rfl) | exact entryFor_of_tree (by kernel_rfl)
theorem args_bytes_join (a b : Value) : argsOk "bytes.join" ⟨[a, b], []⟩ := by unfold argsOk; kernel_rfl
section
variable {prog : Program} {w : World} {M : Model} {A : Around} {E : Value → Shared → Prop} {s : Shared}
theorem join_method {b : Array UInt8} {t : Tok} {pl : Sem Bool} {Q : Value × List Value → Shared → Prop} (h : Q (.builtin "bytes.join", [.bytes b t]) s) :
    wpAny M A (getMethod (.bytes b t) (Str.ofString "join") pl) Q E s :=
  getMethod_builtin (typeIs_bytes _ _ _) FB.plainAttrs_bytes slot_bytes_join type_bytes_join (fun _ e => nomatch e) h
theorem take_quiet {id : String} {b : Array UInt8} {t : Tok} {Q : Option (Array UInt8 × Option Value) → Shared → Prop} (h : Q (some (b, none)) s) : wpAny M A (Builtin.Bytes.takeBufferQuiet? id (.bytes b t) 0) Q E s := by
  unfold Builtin.Bytes.takeBufferQuiet? Builtin.Bytes.takeBuffer?
  refine wpAny_bind (wpAny_attempt ?_)
  refine wpAny_bind (wpAny_of_eq (KBy.special_eq KBy.look_buffer) ?_)
  refine wpAny_bind (wpAny_of_eq KBy.own_buffer ?_)
  refine KFB.if_not rfl ?_
  refine wpAny_bind (wpAny_of_eq (KBy.special_eq KBy.look_buffer) ?_)
  refine wpAny_bind (wpAny_of_eq KBy.buffer_eq ?_)
  exact wpAny_pure (wpAny_pure h)
theorem let_go_join : ∀ {l : List (Value × Option Value)} {keep : List Value} {Q : Unit → Shared → Prop}, (∀ p ∈ l, p.2 = none) → Q () s → wpAny M A (Builtin.Bytes.joinLetGo l keep) Q E s
  | [], _, _, _, hq => wpAny_pure hq
  | (x, u) :: r, keep, Q, h, hq => by
    obtain rfl : u = none := h _ (.head _)
    unfold Builtin.Bytes.joinLetGo
    dsimp only
    exact wpAny_bind (wpAny_letGo (let_go_join (fun p hp => h p (.tail _ hp)) hq))
theorem join4 {l : Addr} {b1 b2 b3 b4 : Array UInt8} {t t1 t2 t3 t4 : Tok} {Q : Value → Shared → Prop} (hl : s.heap.IsList l #[.bytes b1 t1, .bytes b2 t2, .bytes b3 t3, .bytes b4 t4]) (hsz : b1.size + b2.size + b3.size + b4.size ≤ 16777216)
    (h : ∀ t' k, Q (.bytes (b1 ++ b2 ++ b3 ++ b4) t') { s with toks := k }) : wpAny (model prog w) A (call (.builtin "bytes.join") [.bytes #[] t, .ref l]) Q E s := by
  obtain ⟨o, ho, hoc, n, hod⟩ := id hl
  have seqI : ∀ {A' : Around} {E' : Value → Shared → Prop} {Q' : Option (Array Value) → Shared → Prop}, Q' (some #[.bytes b1 t1, .bytes b2 t2, .bytes b3 t3, .bytes b4 t4]) s → wpAny (model prog w) A' (seqItems? (.ref l)) Q' E' s := by
    intro A' E' Q' hq
    unfold seqItems?
    refine wpAny_bind (wpAny_load ho ?_)
    rw [hod]
    exact wpAny_pure hq
  refine wpAny_call_entry slot_bytes_join (typeIs_bytes _ _ _) entry_bytes_join ?_ (args_bytes_join _ _)
  unfold Builtin.«bytes.join» Builtin.Bytes.joinM
  refine wpAny_bind (wpAny_of_eq (a := (.bytes #[] t, .ref l)) (by kernel_rfl) ?_)
  dsimp only
  refine KFB.if_so rfl ?_
  refine wpAny_bind ?_
  unfold Builtin.Bytes.joinItems
  refine wpAny_bind (wpAny_typeOf hl.typeIs ?_)
  refine KFB.if_so (by decide) ?_
  refine wpAny_pure ?_
  refine wpAny_bind (seqI ?_)
  dsimp only
  refine KFB.if_so rfl ?_
  refine wpAny_bind ?_
  rw [Std.Legacy.Range.forIn_eq_forIn_range']
  rw [show (#[Value.bytes b1 t1, Value.bytes b2 t2, Value.bytes b3 t3, Value.bytes b4 t4] : Array Value).size = 4 from rfl]
  rw [show List.range' ([:4] : Std.Legacy.Range).start ([:4] : Std.Legacy.Range).size ([:4] : Std.Legacy.Range).step = [0, 1, 2, 3] from by decide]
  iterate 4 (rw [List.forIn_cons]; refine wpAny_bind (wpAny_bind (seqI ?_)); refine KFB.if_not rfl ?_; refine wpAny_bind (wpAny_holding (take_quiet ?_)); dsimp only; refine wpAny_bind (seqI ?_); dsimp only; refine KFB.if_not rfl ?_; refine wpAny_pure ?_; dsimp only)
  rw [List.forIn_nil]
  refine wpAny_pure ?_
  refine wpAny_bind (wpAny_of_eq (a := #[]) rfl ?_)
  refine KFB.if_not (KBy.tooLong_not ?_) ?_
  · show Array.foldl (fun x1 x2 => x1 + x2.size) _ #[b1, b2, b3, b4] ≤ _
    simp
    lia
  have ej : Builtin.Bytes.joined #[] [b1, b2, b3, b4] = b1 ++ b2 ++ b3 ++ b4 := by simp [Builtin.Bytes.joined]
  refine wpAny_bind (m := mkBytes (Builtin.Bytes.joined #[] [b1, b2, b3, b4])) ?_
  rw [ej]
  refine wpAny_mkBytes ?_ (by simp only [Array.size_append, sizeLine_eq]; exact hsz)
  refine wpAny_bind (wpAny_holding (wpAny_point ?_))
  refine wpAny_bind (let_go_join (by intro p hp; simp only [List.nil_append, List.cons_append, List.mem_cons, List.not_mem_nil, or_false] at hp; rcases hp with rfl | rfl | rfl | rfl <;> rfl) ?_)
  exact wpAny_pure ⟨_, rfl, h _ _⟩
theorem int_declines_bytes (a : Int) (t : Tok) (b : Array UInt8) (u : Tok) : Gives (Builtin.«int.__mul__» ⟨[.int a t, .bytes b u], []⟩) (.val (Value.notImplemented)) :=
  .of_wp fun M A E s Q h => by obtain ⟨hp, g, d, tk, os⟩ := s; wp_walk; exact ⟨_, rfl, h⟩
theorem ff_times {n : Int} {t u : Tok} {Q : Value → Shared → Prop} (h2 : 2 ≤ n) (hn : n ≤ 100000) (h : ∀ t' k, Q (.bytes (List.replicate n.toNat (255 : UInt8)).toArray t') { s with toks := k }) :
    wpAny (model prog w) A (binaryOp .Mult (.int n t) (.bytes #[255] u)) Q E s := by
  have hf : Builtin.Bytes.fitsIndex n = true := by
    simp only [Builtin.Bytes.fitsIndex, Bool.and_eq_true, decide_eq_true_eq]
    lia
  have hsz : (#[255] : Array UInt8).size * n.toNat = n.toNat := Nat.one_mul _
  have h63 : ¬ (#[255] : Array UInt8).size * n.toNat ≥ 2 ^ 63 := by rw [hsz]; lia
  have hne : ((#[255] : Array UInt8).size * n.toNat == (#[255] : Array UInt8).size) = false := by
    rw [hsz]
    exact beq_false_of_ne (show ¬ n.toNat = 1 by lia)
  have hl : Builtin.Bytes.tooLong ((#[255] : Array UInt8).size * n.toNat) = false := by rw [hsz]; exact KBy.tooLong_not (by lia)
  have er : Builtin.Bytes.repeated #[255] n.toNat = (List.replicate n.toNat (255 : UInt8)).toArray := by
    have e := BMul.repeated_list (b := [255]) (List.cons_ne_nil _ _) n.toNat
    have e2 : (List.replicate n.toNat [(255 : UInt8)]).flatten = List.replicate n.toNat 255 := by
      induction n.toNat with
      | zero => rfl
      | succ k ih => rw [List.replicate_succ, List.flatten_cons, ih]; rfl
    rw [e2] at e
    exact e
  refine lm_binaryOp_repeat_right (T := "bytes") (U := "int") (by decide) (fun s' => typeIs_int s' n t) (typeIs_bytes s _ u) F.fills_int_mul BMul.noFill F.slot_int_mul lm_noRepeat_int BMul.repeats F.slot_int_index.lookup
    (call_gives F.slot_int_mul (typeIs_int s n t) F.entry_int_mul (F.args_int_mul_2 _ _) (int_declines_bytes n t _ u)
      ⟨rfl, typeIs_bytes _ _ _, call_gives BMul.slot_mul (typeIs_bytes s _ u) BMul.entry_mul (BMul.args_mul _ _) (BMul.gives_mul hf h63 hne hl) ?_⟩)
  rw [er]
  exact ⟨by rw [sizeLine_eq, List.size_toArray, List.length_replicate]; lia, h _ _⟩
end
theorem pad_ints {b : Array UInt8} {ms : List Int} {n : Nat} (hb : KBw.bInts b = ms) : KBw.bInts (#[0, 1] ++ (List.replicate n (255 : UInt8)).toArray ++ #[0] ++ b) = [0, 1] ++ List.replicate n 255 ++ [0] ++ ms := by
  refine KBw.ints_app (KBw.ints_app (KBw.ints_app rfl ?_) rfl) hb
  show (List.replicate n (255 : UInt8)).map (fun c : UInt8 => ((c.toNat : Nat) : Int)) = _
  rw [List.map_replicate]
  rfl
theorem pad_size {b : Array UInt8} {ms : List Int} {n : Nat} (hb : KBw.bInts b = ms) (h : n + ms.length ≤ 100000) : (#[0, 1] : Array UInt8).size + (List.replicate n (255 : UInt8)).toArray.size + (#[0] : Array UInt8).size + b.size ≤ 16777216 := by
  have e : b.size = ms.length := by rw [← hb]; exact (KBw.ints_length b).symm
  have e2 : (List.replicate n (255 : UInt8)).toArray.size = n := by simp
  rw [e, e2]
  show 2 + n + 1 + ms.length ≤ _
  lia
theorem pad_total {b : Array UInt8} {ms : List Int} {k : Int} (hb : KBw.bInts b = ms) (h : (ms.length : Int) ≤ k - 3) : (((#[0, 1] ++ (List.replicate (k - (ms.length : Int) - 3).toNat (255 : UInt8)).toArray ++ #[0] ++ b : Array UInt8).size : Nat) : Int) = k := by
  have e : b.size = ms.length := by rw [← hb]; exact (KBw.ints_length b).symm
  have e2 : (List.replicate (k - (ms.length : Int) - 3).toNat (255 : UInt8)).toArray.size = (k - (ms.length : Int) - 3).toNat := by simp
  rw [Array.size_append, Array.size_append, Array.size_append, e, e2]
  show ((2 + (k - (ms.length : Int) - 3).toNat + 1 + ms.length : Nat) : Int) = k
  lia
end Mine

namespace Mine
theorem bytes_len_look : typeLookup (.type "bytes") "__len__" = pure (some (.builtin "bytes.__len__")) := by rw [typeLookup_type, builtinLookup_eq_fast]; kernel_rfl
noncomputable abbrev ByteAt (b : Array UInt8) (i : Nat) (v : Value) : Prop := ∃ c u, b[i]? = some c ∧ v = .int (c.toNat : Int) u
section
variable {prog : Program} {w : World} {A : Around} {E : Value → Shared → Prop} {s : Shared}
theorem extend_bytes {R : Result → Shared → Prop} (hh : A.handled = none) (x : Array UInt8) (t : Tok) (S : Addr) (res : Value) (c₀ : Nat) (hS : s.heap.get? S = some { cls := .type "list", data := .seq #[] c₀ })
    (hR : ∀ h' tk acc' c', (∀ b o, b ≠ S → s.heap.get? b = some o → h'.get? b = some o) → h'.get? S = some { cls := .type "list", dict := none, data := .seq acc' c', slots := #[] } →
      ItemsOf (ByteAt x) acc' x.size → R (.ok (.ret res)) { s with heap := h', toks := tk }) (hn : x.size ≤ sizeLine) :
    wpAny (model prog w) A.in1 (Builtin.List.listExtendWith (.ref S) (.bytes x t) res)
      (fun fin s' => match fin with | .done f => R (.ok f) s' | .again c' => c'.quiet = true ∧ codeAny (model prog w) A c' R s') (fun e s' => R (.error e) s') s := by
  have hSI : S ≠ s.heap.objs.size := Nat.ne_of_lt (Heap.lt_size hS)
  have hSf : S ∉ [s.heap.objs.size] := fun hm => hSI (List.mem_singleton.mp hm)
  unfold Builtin.List.listExtendWith
  refine wpAny_bind (wpAny_typeOf (T := "bytes") (v := .bytes x t) rfl ?_)
  have h1 : Builtin.List.listSameRef (.ref S) (.bytes x t) = false := rfl
  have h2 : (Value.type "bytes" == Value.type "list") = false := by decide
  have h3 : (Value.type "bytes" == Value.type "tuple") = false := by decide
  simp only [h1, h2, h3, Bool.or_false, Bool.false_eq_true, if_false]
  refine wpAny_bind (KBw.pyIter_bytes ?_)
  refine wpAny_bind (wpAny_holding ?_)
  unfold Builtin.List.listLengthHint
  refine wpAny_bind (wpAny_specialOf (T := "bytes") (v := .bytes x t) rfl bytes_len_look ?_)
  wp_delta
  refine wpAny_bind (wpAny_isInstance (T := "bytes") (v := .bytes x t) (b := true) rfl (by rw [isSubtype_type]; kernel_rfl) ?_)
  show wpAny _ _ (typeOf (Value.bytes x t) >>= _) _ _ _
  refine wpAny_bind (wpAny_typeOf (T := "bytes") (v := .bytes x t) rfl ?_)
  refine wpAny_pure ?_
  rw [if_neg (by decide)]
  refine wpAny_pure ⟨plainId_quiet F.plain_extend_loop _, codeAny_extend_loopS (KBw.walks (A := A.in1) hh s.heap.objs.size x t).toS hn _ hSf _ x.size 0 _ _ _ rfl (Nat.zero_le _) ⟨_, Heap.get?_push_size _ rfl, rfl, rfl⟩ (Heap.get?_push_of_some _ hS) (ItemsOf.nil _) fun s' acc' c' hm hS' hacc => ?_⟩
  rw [Moved.eq_with hm]
  refine hR s'.heap s'.toks acc' c' (fun b ob hb e => hm.heap b ob (fun hmem => ?_) (Heap.get?_push_of_some _ e)) hS' hacc
  rcases List.mem_cons.mp hmem with e' | hmem
  · exact hb e'
  · exact absurd (Heap.lt_size e) (by rw [List.mem_singleton.mp hmem]; exact Nat.lt_irrefl _)
theorem list_init_bytes {R : Result → Shared → Prop} (hh : A.handled = none) (x : Array UInt8) (t : Tok) (S : Addr) (hS : s.heap.get? S = some { cls := .type "list", data := .seq #[] })
    (hR : ∀ h' tk acc' c', (∀ b o, b ≠ S → s.heap.get? b = some o → h'.get? b = some o) → h'.get? S = some { cls := .type "list", dict := none, data := .seq acc' c', slots := #[] } →
      ItemsOf (ByteAt x) acc' x.size → R (.ok (.ret .none)) { s with heap := h', toks := tk }) (hn : x.size ≤ sizeLine) :
    wpAny (model prog w) A.in1 (Builtin.«list.__init__» ⟨[.ref S, .bytes x t], []⟩)
      (fun fin s' => match fin with | .done f => R (.ok f) s' | .again c' => c'.quiet = true ∧ codeAny (model prog w) A c' R s') (fun e s' => R (.error e) s') s := by
  show wpAny _ _ (do let old ← Builtin.List.listItems (.ref S); Builtin.List.listUpdate (.ref S) (fun _ => #[]); letGo old.toList.reverse; Builtin.List.listExtendWith (.ref S) (.bytes x t) .none) _ _ s
  refine wpAny_bind ?_
  unfold Builtin.List.listItems
  refine wpAny_bind (wpAny_seqItems hS rfl (wpAny_pure ?_))
  show wpAny _ _ (updateSeq S (fun _ => #[]) >>= fun _ => letGo (#[] : Array Value).toList.reverse >>= fun _ => Builtin.List.listExtendWith (.ref S) (.bytes x t) .none) _ _ s
  refine wpAny_bind (wpAny_updateSeq hS rfl ?_)
  have hS₂ := Heap.get?_update_self (Obj.mapSeq (fun _ => (#[] : Array Value))) hS rfl
  have oth : ∀ b o, b ≠ S → s.heap.get? b = some o → (s.heap.update S (Obj.mapSeq (fun _ => (#[] : Array Value)))).get? b = some o :=
    fun b o hb e => (Heap.get?_update_other _ _ (Ne.symm hb)).trans e
  refine wpAny_bind (wpAny_letGo ?_)
  refine extend_bytes (hn := hn) hh x t S .none _ hS₂ fun h' tk acc' c' hk hS' hacc => ?_
  exact hR h' tk acc' c' (fun b o hb e => hk b o hb (oth b o hb e)) hS' hacc
theorem call_list_bytes {Q : Value → Shared → Prop} (hh : A.handled = none) (x : Array UInt8) (t : Tok)
    (hQ : ∀ h' tk acc' c', (∀ b o, s.heap.get? b = some o → h'.get? b = some o) →
      h'.get? s.heap.objs.size = some { cls := .type "list", dict := none, data := .seq acc' c', slots := #[] } → ItemsOf (ByteAt x) acc' x.size → Q (.ref s.heap.objs.size) { s with heap := h', toks := tk }) (hn : x.size ≤ sizeLine) :
    wpAny (model prog w) A (call (.type "list") [.bytes x t]) Q E s := by
  refine callType_codes (Q₁ := fun obj s₁ => obj = .ref s.heap.objs.size ∧ s₁ = { s with heap := s.heap.push { cls := .type "list", data := .seq #[] } }) F.called_list (F.typeCall_list_1 _) F.entry_list_init
    (code_list_new _ ⟨rfl, rfl⟩) fun obj s₁ h₁ => ?_
  obtain ⟨rfl, rfl⟩ := h₁
  have hS : (s.heap.push { cls := .type "list", data := .seq #[] }).get? s.heap.objs.size = some { cls := .type "list", data := .seq #[] } := Heap.get?_push_size _ rfl
  refine ⟨⟨_, hS, rfl⟩, F.args_list_init_2 _ _, list_init_bytes (A := A.in1) (hn := hn) hh x t _ hS fun h' tk acc' c' hk hS' hacc => ?_⟩
  exact ⟨rfl, hQ h' tk acc' c' (fun b o e => hk b o (Nat.ne_of_lt (Heap.lt_size e)) (Heap.get?_push_of_some _ e)) hS' hacc⟩
theorem bytes_ints {x : Array UInt8} {acc : Array Value} (h : ItemsOf (ByteAt x) acc x.size) : IntsAre acc.toList (KBw.bInts x) := by
  have gen : ∀ (vs : List Value) (ks : List Int), vs.length = ks.length → (∀ (j : Nat) v, vs[j]? = some v → ∃ u, ∃ k, ks[j]? = some k ∧ v = .int k u) → IntsAre vs ks := by
    intro vs
    induction vs with
    | nil => intro ks hl _; cases ks with
      | nil => exact .nil
      | cons _ _ => simp at hl
    | cons v r ih =>
      intro ks hl hv
      cases ks with
      | nil => simp at hl
      | cons k ks =>
        obtain ⟨u, k', hk', rfl⟩ := hv 0 v rfl
        obtain rfl : k = k' := by simpa using hk'
        exact .cons _ _ (ih ks (by simpa using hl) fun j v h => hv (j + 1) v (by simpa using h))
  refine gen _ _ (by rw [KBw.ints_length, Array.length_toList]; exact h.1) fun j v hj => ?_
  obtain ⟨c, u, hc, rfl⟩ := h.2 j v (by simpa using hj)
  exact ⟨u, _, KBw.ints_get hc, rfl⟩
theorem list_bytesL {x : Array UInt8} {t : Tok} {h₀ : Heap} {L : Addr} {m : Str → Option Value} {news : List (Addr × Obj)} {Q : Value → Shared → Prop} (hh : A.handled = none) (F : Fr h₀ L s.heap m) (N : News h₀ L s.heap news)
    (hQ : ∀ D h' tk ys c, D = s.heap.objs.size → (∀ p ∈ news, p.1 < D) → IntsAre ys (KBw.bInts x) → Fr h₀ L h' m → News h₀ L h' ((D, listOf ys.toArray c) :: news) → Q (.ref D) { s with heap := h', toks := tk }) (hn : x.size ≤ sizeLine) :
    wpAny (model prog w) A (call (.type "list") [.bytes x t]) Q E s := by
  refine call_list_bytes hh x t (hn := hn) fun h' tk acc' c' hk hS' hacc => ?_
  refine hQ _ h' tk acc'.toList c' rfl (fun p hp => Heap.lt_size (N p hp).1) (bytes_ints hacc) (F.keeps hk) fun p hp => ?_
  rcases List.mem_cons.mp hp with rfl | hp
  · refine ⟨by simpa [PySem.W.listOf] using hS', Ne.symm (Nat.ne_of_lt F.ns.lt), ?_⟩
    cases e : h₀.get? s.heap.objs.size with
    | none => rfl
    | some o => exact absurd (Heap.lt_size (F.keep _ _ e)) (Nat.lt_irrefl _)
  · exact ⟨hk _ _ (N p hp).1, (N p hp).2⟩
end
end Mine

namespace Mine
noncomputable def strRows (o : Option Obj) : List (Str × Tok × Value) := match o with
  | some o => (match o.data with | .dict es _ => es.toList.map fun e => (match e.key with | .str x t => (x, t, e.val) | _ => (Str.ofString "", 0, .none)) | _ => [])
  | none => []
noncomputable def strEs (P : Params) (rows : List (Str × Tok × Value)) : List DictEntry := rows.map fun x => ⟨PyData.keyHash P x.1, .str x.1 x.2.1, x.2.2⟩
theorem strEs_pairs {prog : Program} {w : World} : ∀ (rows : List (Str × Tok × Value)), Pairs (PySem.strKind prog w) (strEs w.params rows) (rows.map fun x => (x.1, x.2.2))
  | [] => .nil
  | x :: r => .cons (show Value.isStrOf x.1 (.str x.1 x.2.1) = true by simp [Value.isStrOf]) rfl (strEs_pairs r)
theorem dictOf_rows {prog : Program} {w : World} {h : Heap} {a : Addr} {rows : List (Str × Tok × Value)} {n : Nat} (ho : h.get? a = some { cls := .type "dict", data := .dict (strEs w.params rows).toArray n }) (hn : (rows.map (·.1)).Nodup) :
    h.DictOf (PySem.strKind prog w) a (rows.map fun x => (x.1, x.2.2)) := by
  refine ⟨_, _, n, ho, ⟨rfl, rfl, rfl⟩, rfl, ?_, strEs_pairs rows, ?_⟩
  · intro e he
    obtain ⟨x, hx, rfl⟩ := List.mem_map.mp (by simpa using he : e ∈ strEs w.params rows)
    exact ⟨x.1, show Value.isStrOf x.1 (.str x.1 x.2.1) = true by simp [Value.isStrOf], rfl⟩
  · rw [List.map_map]
    exact hn
noncomputable def hN : List Str := [Str.ofString "MD5", Str.ofString "SHA-1", Str.ofString "SHA-224", Str.ofString "SHA-256", Str.ofString "SHA-384", Str.ofString "SHA-512", Str.ofString "SHA3-256", Str.ofString "SHA3-384", Str.ofString "SHA3-512"]
noncomputable def codeOf (kind : List Int) (size : Int) : List Int := [48, (kind.length : Int) + 6 + 2 + size] ++ ([48, (kind.length : Int) + 4, 6, (kind.length : Int)] ++ kind ++ [5, 0]) ++ [4, size]
noncomputable def shaOf (last size : Int) : List Int := codeOf [96, 134, 72, 1, 101, 3, 4, 2, last] size
noncomputable def hC : List (List Int) := [codeOf [42, 134, 72, 134, 247, 13, 2, 5] 16, codeOf [43, 14, 3, 2, 26] 20, shaOf 4 28, shaOf 1 32, shaOf 2 48, shaOf 3 64, shaOf 8 32, shaOf 9 48, shaOf 10 64]
noncomputable def isBy : Value → Bool
  | .bytes _ _ => true
  | _ => false
noncomputable def octs : Value → List Int
  | .bytes b _ => KBw.bInts b
  | _ => []
noncomputable def TabOk (kvs : List (Str × Value)) : Prop := kvs.map (·.1) = hN ∧ kvs.map (fun p => octs p.2) = hC ∧ kvs.all (fun p => isBy p.2) = true
theorem valueAt_of {kvs : List (Str × Value)} {x : Str} {v : Value} : ∀ {i : Nat}, (kvs.map (·.1)).Nodup → kvs[i]? = some (x, v) → valueAt kvs x = some v := by
  induction kvs with
  | nil => intro i _ h; simp at h
  | cons p r ih =>
    intro i hn h
    have hn' := List.nodup_cons.mp (by simpa using hn : (p.1 :: r.map (·.1)).Nodup)
    cases i with
    | zero =>
      obtain rfl : p = (x, v) := by simpa using h
      unfold valueAt
      simp
    | succ i =>
      have h2 : r[i]? = some (x, v) := by simpa using h
      have hx : x ∈ r.map (·.1) := List.mem_map.mpr ⟨_, List.mem_of_getElem? h2, rfl⟩
      have hne : ¬ p.1 = x := fun e => hn'.1 (e ▸ hx)
      have := ih (i := i) hn'.2 h2
      unfold valueAt at this ⊢
      rw [List.find?_cons_of_neg (by simpa using hne)]
      exact this
theorem hN_nodup : hN.Nodup := by decide
theorem TabOk.at {kvs : List (Str × Value)} (h : TabOk kvs) {i : Nat} (hi : i < 9) : ∃ b t, valueAt kvs (hN.getD i (Str.ofString "")) = some (.bytes b t) ∧ KBw.bInts b = hC.getD i [] := by
  obtain ⟨h1, h2, h3⟩ := h
  have hl : kvs.length = 9 := by have := congrArg List.length h1; rwa [List.length_map] at this
  have hi' : i < kvs.length := by lia
  obtain ⟨⟨x, v⟩, hp⟩ : ∃ p, kvs[i]? = some p := ⟨_, List.getElem?_eq_getElem hi'⟩
  have e1 : hN.getD i (Str.ofString "") = x := by rw [← h1, List.getD_eq_getElem?_getD, List.getElem?_map, hp]; rfl
  have e2 : hC.getD i [] = octs v := by rw [← h2, List.getD_eq_getElem?_getD, List.getElem?_map, hp]; rfl
  have e3 := List.all_eq_true.mp h3 _ (List.mem_of_getElem? hp)
  rw [e1, e2]
  have hv := valueAt_of (h1 ▸ hN_nodup) hp
  cases v with
  | bytes b t => exact ⟨b, t, hv, rfl⟩
  | _ => cases e3
theorem TabOk.no {kvs : List (Str × Value)} (h : TabOk kvs) {x : Str} (hx : x ∉ hN) : valueAt kvs x = none := by
  unfold valueAt
  rw [Option.map_eq_none_iff, List.find?_eq_none]
  intro p hp e
  have e' : p.1 = x := by simpa using e
  exact hx (h.1 ▸ List.mem_map.mpr ⟨p, hp, e'⟩)
theorem hC_len {i : Nat} (hi : i < 9) : 15 ≤ (hC.getD i []).length ∧ (hC.getD i []).length ≤ 19 := by
  have : ∀ i : Fin 9, 15 ≤ (hC.getD i.val []).length ∧ (hC.getD i.val []).length ≤ 19 := by decide
  exact this ⟨i, hi⟩
theorem value_lt : ∀ (l : List Int) (a : Int), (∀ n ∈ l, 0 ≤ n ∧ n < 256) → 0 ≤ a → 0 ≤ l.foldl (fun a k => a * 256 + k) a ∧ l.foldl (fun a k => a * 256 + k) a < (a + 1) * 256 ^ l.length
  | [], a, _, h0 => ⟨h0, by simp; lia⟩
  | n :: r, a, h, h0 => by
    obtain ⟨n0, n1⟩ := h n (.head _)
    obtain ⟨v0, v1⟩ := value_lt r (a * 256 + n) (fun k hk => h k (.tail _ hk)) (by lia)
    refine ⟨v0, Int.lt_of_lt_of_le v1 ?_⟩
    rw [List.length_cons, Int.pow_succ]
    have e : (a + 1) * (256 ^ r.length * 256) = ((a + 1) * 256) * 256 ^ r.length := by rw [Int.mul_comm (256 ^ r.length) 256, Int.mul_assoc]
    rw [e]
    exact Int.mul_le_mul_of_nonneg_right (by lia) (Int.le_of_lt (Int.pow_pos (by decide)))
theorem p256 (k : Nat) : (256 : Int) ^ k = 2 ^ (8 * k) := by rw [Int.pow_mul, show (2 : Int) ^ 8 = 256 from by decide]
theorem value_bd {l : List Int} (h : ∀ n ∈ l, 0 ≤ n ∧ n < 256) (hl : l.length ≤ 155) : 0 ≤ KFB.value l ∧ Bd 1240 (KFB.value l) := by
  obtain ⟨v0, v1⟩ := value_lt l 0 h (Int.le_refl _)
  refine ⟨v0, Bd.of_nn v0 (Int.lt_of_lt_of_le v1 ?_)⟩
  have e : (0 + 1) * (256 : Int) ^ l.length = 2 ^ (8 * l.length) := by rw [p256]; lia
  rw [e]
  exact pow_lt_pow (by decide) (by lia)
theorem lt_octets {n : Int} (h0 : 0 < n) : n < 256 ^ (szI n).toNat := by
  rw [p256]
  have hb : (Builtin.Int.intBits n : Nat) ≤ 8 * (szI n).toNat := by
    unfold szI
    rw [Int.fdiv_eq_ediv_of_nonneg _ (by decide)]
    lia
  have h1 : n.natAbs < 2 ^ (Builtin.Int.intBits n) := by
    unfold Builtin.Int.intBits
    rw [if_neg (by simpa using (show n ≠ 0 by lia))]
    exact Nat.lt_log2_self
  have h2 : n.natAbs < 2 ^ (8 * (szI n).toNat) := Nat.lt_of_lt_of_le h1 (Nat.pow_le_pow_right (by decide) hb)
  have h5 : ((2 : Nat) ^ (8 * (szI n).toNat) : Nat) = (2 : Int) ^ (8 * (szI n).toNat) := by simp
  lia
theorem szI_le {n : Int} {k : Nat} (h : Bd k n) : szI n ≤ ((k + 7) / 8 : Nat) := by
  unfold szI
  have := bits_le h
  rw [Int.fdiv_eq_ediv_of_nonneg _ (by decide)]
  lia
theorem szI_nn (n : Int) : 0 ≤ szI n := by
  unfold szI
  rw [Int.fdiv_eq_ediv_of_nonneg _ (by decide)]
  lia
section
variable {prog : Program} {w : World} {A : Around} {E : Value → Shared → Prop} {s : Shared} {d : Addr} {kvs : List (Str × Value)} {x : Str} {t : Tok} {Q : Value → Shared → Prop}
theorem strKey : (PySem.strKind prog w).is x (.str x t) = true := show Value.isStrOf x (.str x t) = true by simp [Value.isStrOf]
theorem tab_notin {v : Value} (hT : s.heap.DictOf (PySem.strKind prog w) d kvs) (hd : (d == sysModules) = false) (hv : valueAt kvs x = some v) (h : Q (.bool false) { s with toks := s.toks + 1 }) : wpAny (model prog w) A (compareOp .NotIn (.str x t) (.ref d)) Q E s :=
  wpAny_notIn_of strKey hd hT.mapOf (by rw [hv]; exact h)
theorem tab_item {value slice : PySem.Expr} {v : Value} (hT : s.heap.DictOf (PySem.strKind prog w) d kvs) (hv : valueAt kvs x = some v) (h : Q v { s with toks := s.toks + 1 })
    (hs : subscripted slice false (.ref d) (.str x t) = operate [.ref d, .str x t] (getItem (.ref d) (.str x t)) := by with_unfolding_all rfl) (hg : ∀ r, letTemporaryGo value (.ref d) r = pure () := by intro _; with_unfolding_all rfl) :
    wpAny (model prog w) A (subscriptTail value slice (.ref d) (.str x t)) Q E s :=
  subscriptTail_builtin hT.typeIs slot_dict_getitem.lookup (wpAny_getItem_of strKey hT.mapOf hv h) hs hg
end
theorem bInts_in (b : Array UInt8) : ∀ n ∈ KBw.bInts b, 0 ≤ n ∧ n < 256 := by
  intro n hn
  obtain ⟨c, -, rfl⟩ := List.mem_map.mp (show n ∈ b.toList.map fun c : UInt8 => ((c.toNat : Nat) : Int) from hn)
  have := c.toNat_lt
  lia
noncomputable def hRow (p : Str × List Int) : Dat := .tuple [.str p.1, .list (p.2.map .int)]
noncomputable def hD : List Dat := (hN.zip hC).map hRow
noncomputable def srcA : List (Str × Int × Int) := [(Str.ofString "SHA-224", 4, 28), (Str.ofString "SHA-256", 1, 32), (Str.ofString "SHA-384", 2, 48), (Str.ofString "SHA-512", 3, 64)]
noncomputable def srcB : List (Str × Int × Int) := [(Str.ofString "SHA3-256", 8, 32), (Str.ofString "SHA3-384", 9, 48), (Str.ofString "SHA3-512", 10, 64)]
noncomputable def srcD (r : Str × Int × Int) : Dat := .tuple [.str r.1, .int r.2.1, .int r.2.2]
noncomputable def shaRow (r : Str × Int × Int) : Str × List Int × Int := (r.1, [96, 134, 72, 1, 101, 3, 4, 2, r.2.1], r.2.2)
noncomputable def rows0 : List (Str × List Int × Int) := [(Str.ofString "MD5", [42, 134, 72, 134, 247, 13, 2, 5], 16), (Str.ofString "SHA-1", [43, 14, 3, 2, 26], 20)]
noncomputable def rows1 : List (Str × List Int × Int) := rows0 ++ srcA.map shaRow
noncomputable def rows2 : List (Str × List Int × Int) := rows1 ++ srcB.map shaRow
noncomputable def rowD (r : Str × List Int × Int) : Dat := .tuple [.str r.1, .list (r.2.1.map .int), .int r.2.2]
noncomputable def madeD (r : Str × List Int × Int) : Dat := hRow (r.1, codeOf r.2.1 r.2.2)
theorem datAll_length {news : List (Addr × Obj)} : ∀ {vs : List Value} {ds : List Dat}, DatAll news vs ds → vs.length = ds.length
  | _, _, .nil => rfl
  | _, _, .cons _ r => congrArg Nat.succ (datAll_length r)
theorem datAll_at {news : List (Addr × Obj)} : ∀ {vs : List Value} {ds : List Dat} {i : Nat} {v : Value}, DatAll news vs ds → vs[i]? = some v → ∃ d, ds[i]? = some d ∧ DatIn news v d
  | _, _, _, _, .nil, h => by simp at h
  | _, _, 0, _, .cons d _, h => ⟨_, rfl, by obtain rfl := Option.some.inj h; exact d⟩
  | _, _, i + 1, _, .cons _ r, h => by
    obtain ⟨d, h1, h2⟩ := datAll_at (i := i) r (by simpa using h)
    exact ⟨d, by simpa using h1, h2⟩
theorem datAll_get {news : List (Addr × Obj)} : ∀ {vs : List Value} {ds : List Dat} {i : Nat} {d : Dat}, DatAll news vs ds → ds[i]? = some d → ∃ v, vs[i]? = some v ∧ DatIn news v d
  | _, _, _, _, .nil, h => by simp at h
  | _, _, 0, _, .cons d _, h => ⟨_, rfl, by obtain rfl := Option.some.inj h; exact d⟩
  | _, _, i + 1, _, .cons _ r, h => by
    obtain ⟨v, h1, h2⟩ := datAll_get (i := i) r (by simpa using h)
    exact ⟨v, by simpa using h1, h2⟩
theorem datAll_ints {news : List (Addr × Obj)} : ∀ {vs : List Value} {ks : List Int}, DatAll news vs (ks.map .int) → IntsAre vs ks
  | _, [], .nil => .nil
  | _, k :: r, .cons (.int _ t) h => .cons k t (datAll_ints h)
theorem datAll_of_ints {news : List (Addr × Obj)} : ∀ {vs : List Value} {ks : List Int}, IntsAre vs ks → DatAll news vs (ks.map .int)
  | _, _, .nil => .nil
  | _, _, .cons k t h => .cons (.int k t) (datAll_of_ints h)
theorem datAll_app {news : List (Addr × Obj)} : ∀ {vs ws : List Value} {ds es : List Dat}, DatAll news vs ds → DatAll news ws es → DatAll news (vs ++ ws) (ds ++ es)
  | _, _, _, _, .nil, h => h
  | _, _, _, _, .cons d r, h => .cons d (datAll_app r h)
theorem srcD_in {news : List (Addr × Obj)} {v : Value} {r : Str × Int × Int} (h : DatIn news v (srcD r)) : ∃ a n t1 t2 t3, v = .ref a ∧ (a, ({ cls := .type "tuple", data := .seq #[.str r.1 t1, .int r.2.1 t2, .int r.2.2 t3] n } : Obj)) ∈ news := by
  cases h with
  | tuple hm r' =>
    cases r' with
    | cons h1 r' => cases h1; cases r' with
      | cons h2 r' => cases h2; cases r' with
        | cons h3 r' => cases h3; cases r'; exact ⟨_, _, _, _, _, rfl, hm⟩
theorem rowD_in {news : List (Addr × Obj)} {v : Value} {r : Str × List Int × Int} (h : DatIn news v (rowD r)) : ∃ a n b ws k t1 t3, v = .ref a ∧ (a, ({ cls := .type "tuple", data := .seq #[.str r.1 t1, .ref b, .int r.2.2 t3] n } : Obj)) ∈ news ∧ (b, listOf ws.toArray k) ∈ news ∧ IntsAre ws r.2.1 := by
  cases h with
  | tuple hm r' =>
    cases r' with
    | cons h1 r' => cases h1; cases r' with
      | cons h2 r' => cases h2 with
        | list hb hw => cases r' with
          | cons h3 r' => cases h3; cases r'; exact ⟨_, _, _, _, _, _, _, rfl, hm, hb, datAll_ints hw⟩
theorem hRow_in {news : List (Addr × Obj)} {v : Value} {p : Str × List Int} (h : DatIn news v (hRow p)) : ∃ a n b ws k t1, v = .ref a ∧ (a, ({ cls := .type "tuple", data := .seq #[.str p.1 t1, .ref b] n } : Obj)) ∈ news ∧ (b, listOf ws.toArray k) ∈ news ∧ IntsAre ws p.2 := by
  cases h with
  | tuple hm r' =>
    cases r' with
    | cons h1 r' => cases h1; cases r' with
      | cons h2 r' => cases h2 with
        | list hb hw => cases r'; exact ⟨_, _, _, _, _, _, rfl, hm, hb, datAll_ints hw⟩
theorem rows_step {S : List (Str × Int × Int)} {i : Nat} {r : Str × Int × Int} {prev : List (Str × List Int × Int)} (h : S[i]? = some r) : (prev ++ (S.take (i + 1)).map shaRow).map rowD = (prev ++ (S.take i).map shaRow).map rowD ++ [rowD (shaRow r)] := by
  rw [List.take_add_one, h, Option.toList_some]
  simp only [List.map_append, List.append_assoc, List.map_cons, List.map_nil]
theorem mem_tl1 {p : Addr × Obj} {a b c : List (Addr × Obj)} (h : p ∈ a) : p ∈ a ++ (b ++ c) := List.mem_append_left _ h
theorem mem_tl2 {p : Addr × Obj} {a b c : List (Addr × Obj)} (h : p ∈ b) : p ∈ a ++ (b ++ c) := List.mem_append_right _ (List.mem_append_left _ h)
theorem mem_tl3 {p : Addr × Obj} {a b c : List (Addr × Obj)} (h : p ∈ c) : p ∈ a ++ (b ++ c) := List.mem_append_right _ (List.mem_append_right _ h)
end Mine

namespace Mine
theorem pow_gcd {b p : Nat} : ∀ {m n : Nat}, b ^ m % p = 1 % p → b ^ n % p = 1 % p → b ^ Nat.gcd m n % p = 1 % p := by
  intro m n
  induction m, n using Nat.gcd.induction with
  | H0 n => intro _ h; rwa [Nat.gcd_zero_left]
  | H1 m n hm ih =>
    intro h1 h2
    rw [Nat.gcd_rec]
    refine ih ?_ h1
    have e : n = n % m + m * (n / m) := (Nat.mod_add_div n m).symm
    have h3 : b ^ (m * (n / m)) % p = 1 % p := by
      rw [Nat.pow_mul, Nat.pow_mod, h1, ← Nat.pow_mod, Nat.one_pow]
    have h4 : b ^ n % p = b ^ (n % m) % p := by
      have e1 : b ^ n = b ^ (n % m) * b ^ (m * (n / m)) := by rw [← Nat.pow_add, ← e]
      rw [e1, Nat.mul_mod, h3, ← Nat.mul_mod, Nat.mul_one]
    rw [← h4, h2]
theorem prime_factor : ∀ {n : Nat}, 2 ≤ n → ∃ p, Pr p ∧ p ∣ n := by
  intro n
  induction n using Nat.strongRecOn with
  | ind n ih =>
    intro h2
    by_cases h : Pr n
    · exact ⟨n, h, Nat.dvd_refl n⟩
    · have : ∃ d, d ∣ n ∧ d ≠ 1 ∧ d ≠ n := by
        refine Classical.byContradiction fun hc => h ⟨h2, fun d hd => ?_⟩
        by_cases h1 : d = 1
        · exact .inl h1
        · exact .inr (Classical.byContradiction fun h3 => hc ⟨d, hd, h1, h3⟩)
      obtain ⟨d, hd, h1, h3⟩ := this
      have hle := Nat.le_of_dvd (by lia) hd
      have h0 : d ≠ 0 := fun e => by rw [e] at hd; have := Nat.eq_zero_of_zero_dvd hd; lia
      obtain ⟨p, hp, hpd⟩ := ih d (by lia) (by lia)
      exact ⟨p, hp, Nat.dvd_trans hpd hd⟩
theorem pock_one {N p q r a : Nat} (hN : 2 ≤ N) (hp : Pr p) (hpN : p ∣ N) (hq : Pr q) (e : N - 1 = q * r) (h1 : Builtin.powMod a (N - 1) N = 1) (h2 : Nat.gcd (Builtin.powMod a r N + (N - 1)) N = 1) : q ∣ p - 1 := by
  rw [powMod_is _ _ _ (by lia)] at h1 h2
  have p2 := hp.1
  refine Classical.byContradiction fun hc => ?_
  have hg := hq.coprime hc
  have toP : ∀ {x y : Nat}, x % N = y % N → x % p = y % p := fun {x y} h => by
    have := congrArg (· % p) h
    simpa [Nat.mod_mod_of_dvd _ hpN] using this
  have hb : (a ^ r) ^ q % p = 1 % p := by
    rw [← Nat.pow_mul, Nat.mul_comm r q, ← e]
    refine toP ?_
    rw [h1, Nat.mod_eq_of_lt (by lia : 1 < N)]
  have hnd : ¬ p ∣ a ^ r := fun hd => by
    have h3 : (a ^ r) ^ q % p = 0 := by
      have hq0 : q = (q - 1) + 1 := by have := hq.1; lia
      rw [hq0, Nat.pow_succ, Nat.mul_mod, Nat.mod_eq_zero_of_dvd hd, Nat.mul_zero, Nat.zero_mod]
    rw [h3, Nat.mod_eq_of_lt (by lia : 1 < p)] at hb
    lia
  have h4 := pow_gcd hb (hp.fermat1 hnd)
  rw [hg, Nat.pow_one, Nat.mod_eq_of_lt (by lia : 1 < p)] at h4
  have h5 : p ∣ a ^ r % N + (N - 1) := by
    refine Nat.dvd_of_mod_eq_zero ?_
    have h6 : a ^ r % N % p = 1 := by rw [Nat.mod_mod_of_dvd _ hpN, h4]
    obtain ⟨c, hc'⟩ := hpN
    have hc0 : 1 ≤ c := by
      refine Nat.pos_of_ne_zero fun e0 => ?_
      rw [e0] at hc'
      lia
    have h7 : a ^ r % N = p * (a ^ r % N / p) + 1 := by
      have := Nat.div_add_mod (a ^ r % N) p
      lia
    have h8 : a ^ r % N + (N - 1) = p * (a ^ r % N / p + c) := by
      rw [Nat.mul_add, ← hc']
      lia
    rw [h8]
    exact Nat.mul_mod_right _ _
  have h9 := Nat.dvd_gcd h5 hpN
  rw [h2] at h9
  have := Nat.le_of_dvd (by decide) h9
  lia
theorem pr_of_factors {N : Nat} (hN : 2 ≤ N) (h : ∀ p, Pr p → p ∣ N → N < p * p) : Pr N := by
  refine Pr.of_noDiv hN fun e he hle hm => ?_
  obtain ⟨p, hp, hpe⟩ := prime_factor he
  have h1 := h p hp (Nat.dvd_trans hpe (Nat.dvd_of_mod_eq_zero hm))
  have h2 := Nat.le_of_dvd (by lia) hpe
  have h3 := Nat.mul_le_mul h2 h2
  lia
theorem pock1 {N q r a : Nat} (hN : 2 ≤ N) (hq : Pr q) (e : N - 1 = q * r) (h1 : Builtin.powMod a (N - 1) N = 1) (h2 : Nat.gcd (Builtin.powMod a r N + (N - 1)) N = 1) (hs : N < (q + 1) * (q + 1)) : Pr N :=
  pr_of_factors hN fun p hp hpN => by
    have h3 := Nat.le_of_dvd (by have := hp.1; lia) (pock_one hN hp hpN hq e h1 h2)
    have h4 : q + 1 ≤ p := by have := hp.1; lia
    exact Nat.lt_of_lt_of_le hs (Nat.mul_le_mul h4 h4)
theorem pock2 {N q r a q' r' a' : Nat} (hN : 2 ≤ N) (hq : Pr q) (e : N - 1 = q * r) (h1 : Builtin.powMod a (N - 1) N = 1) (h2 : Nat.gcd (Builtin.powMod a r N + (N - 1)) N = 1) (hq' : Pr q') (e' : N - 1 = q' * r') (h1' : Builtin.powMod a' (N - 1) N = 1) (h2' : Nat.gcd (Builtin.powMod a' r' N + (N - 1)) N = 1) (hne : ¬ q ∣ q')
    (hs : N < (q * q' + 1) * (q * q' + 1)) : Pr N :=
  pr_of_factors hN fun p hp hpN => by
    have h3 := pock_one hN hp hpN hq e h1 h2
    have h4 := pock_one hN hp hpN hq' e' h1' h2'
    have h5 : q * q' ∣ p - 1 := Nat.Coprime.mul_dvd_of_dvd_of_dvd (hq.coprime hne) h3 h4
    have h6 := Nat.le_of_dvd (by have := hp.1; lia) h5
    have h7 : q * q' + 1 ≤ p := by have := hp.1; lia
    exact Nat.lt_of_lt_of_le hs (Nat.mul_le_mul h7 h7)
theorem pr_2131 : Pr 2131 := Pr.of_test (f := 46) (by decide) (by decide) (by decide +kernel)
theorem pr_15331 : Pr 15331 := Pr.of_test (f := 123) (by decide) (by decide) (by decide +kernel)
theorem pr_4153 : Pr 4153 := Pr.of_test (f := 64) (by decide) (by decide) (by decide +kernel)
theorem pr_430751 : Pr 430751 := Pr.of_test (f := 656) (by decide) (by decide) (by decide +kernel)
theorem pr_569003 : Pr 569003 := Pr.of_test (f := 754) (by decide) (by decide) (by decide +kernel)
theorem pr_127 : Pr 127 := Pr.of_test (f := 11) (by decide) (by decide) (by decide +kernel)
theorem pr_8574133 : Pr 8574133 := Pr.of_test (f := 2928) (by decide) (by decide) (by decide +kernel)
theorem pr_5594472617641 : Pr 5594472617641 := pock2 (q := 15331) (r := 364912440) (a := 2) (q' := 2131) (r' := 2625280440) (a' := 2) (by decide) pr_15331 (by decide) (by decide +kernel) (by decide +kernel) pr_2131 (by decide) (by decide +kernel) (by decide +kernel) (by decide) (by decide)
theorem pr_18446744073709551557 : Pr 18446744073709551557 := pock1 (q := 5594472617641) (r := 3297316) (a := 2) (by decide) pr_5594472617641 (by decide) (by decide +kernel) (by decide +kernel) (by decide)
theorem pr_31757755568855353 : Pr 31757755568855353 := pock2 (q := 430751) (r := 73726481352) (a := 2) (q' := 4153) (r' := 7646943310584) (a' := 2) (by decide) pr_430751 (by decide) (by decide +kernel) (by decide +kernel) pr_4153 (by decide) (by decide +kernel) (by decide +kernel) (by decide) (by decide)
theorem pr_2773320623 : Pr 2773320623 := pock1 (q := 569003) (r := 4874) (a := 2) (by decide) pr_569003 (by decide) (by decide +kernel) (by decide +kernel) (by decide)
theorem pr_72106336199 : Pr 72106336199 := pock1 (q := 2773320623) (r := 26) (a := 2) (by decide) pr_2773320623 (by decide) (by decide +kernel) (by decide +kernel) (by decide)
theorem pr_1919519569386763 : Pr 1919519569386763 := pock2 (q := 8574133) (r := 223873314) (a := 2) (q' := 127) (r' := 15114327318006) (a' := 2) (by decide) pr_8574133 (by decide) (by decide +kernel) (by decide +kernel) pr_127 (by decide) (by decide +kernel) (by decide +kernel) (by decide) (by decide)
theorem pr_75445702479781427272750846543864801 : Pr 75445702479781427272750846543864801 := pock2 (q := 1919519569386763) (r := 39304471641247389600) (a := 2) (q' := 72106336199) (r' := 1046311689884858398375200) (a' := 2) (by decide) pr_1919519569386763 (by decide) (by decide +kernel) (by decide +kernel) pr_72106336199 (by decide) (by decide +kernel) (by decide +kernel) (by decide) (by decide)
theorem pr_74058212732561358302231226437062788676166966415465897661863160754340907 : Pr 74058212732561358302231226437062788676166966415465897661863160754340907 := pock2 (q := 75445702479781427272750846543864801) (r := 981609426360740691344999861639072106) (a := 2) (q' := 31757755568855353) (r' := 2331972502653487852620185443007392165117953542933313402) (a' := 2) (by decide) pr_75445702479781427272750846543864801 (by decide) (by decide +kernel) (by decide +kernel) pr_31757755568855353 (by decide) (by decide +kernel) (by decide +kernel) (by decide) (by decide)
theorem pr_57896044618658097711785492504343953926634992332820282019728792003956564819949 : Pr 57896044618658097711785492504343953926634992332820282019728792003956564819949 := pock1 (q := 74058212732561358302231226437062788676166966415465897661863160754340907) (r := 781764) (a := 2) (by decide) pr_74058212732561358302231226437062788676166966415465897661863160754340907 (by decide) (by decide +kernel) (by decide +kernel) (by decide)
noncomputable def pL : List Int := [2 ^ 31 - 1, 2 ^ 61 - 1, 2 ^ 89 - 1, 2 ^ 107 - 1, 2 ^ 127 - 1, 2 ^ 521 - 1, 2 ^ 607 - 1, 2 ^ 64 - 59, 2 ^ 255 - 19]
theorem pL_ok : ∀ p ∈ pL, PrOk p := by
  refine List.forall_mem_cons.mpr ⟨prOk_of (n := 2 ^ 31 - 1) (by decide) (by decide +kernel) (Pr.ll (by decide) (by decide +kernel)), ?_⟩
  refine List.forall_mem_cons.mpr ⟨prOk_of (n := 2 ^ 61 - 1) (by decide) (by decide +kernel) (Pr.ll (by decide) (by decide +kernel)), ?_⟩
  refine List.forall_mem_cons.mpr ⟨prOk_of (n := 2 ^ 89 - 1) (by decide) (by decide +kernel) (Pr.ll (by decide) (by decide +kernel)), ?_⟩
  refine List.forall_mem_cons.mpr ⟨prOk_of (n := 2 ^ 107 - 1) (by decide) (by decide +kernel) (Pr.ll (by decide) (by decide +kernel)), ?_⟩
  refine List.forall_mem_cons.mpr ⟨prOk_of (n := 2 ^ 127 - 1) (by decide) (by decide +kernel) (Pr.ll (by decide) (by decide +kernel)), ?_⟩
  refine List.forall_mem_cons.mpr ⟨prOk_of (n := 2 ^ 521 - 1) (by decide +kernel) (by decide +kernel) (Pr.ll (by decide) (by decide +kernel)), ?_⟩
  refine List.forall_mem_cons.mpr ⟨prOk_of (n := 2 ^ 607 - 1) (by decide +kernel) (by decide +kernel) (Pr.ll (by decide) (by decide +kernel)), ?_⟩
  refine List.forall_mem_cons.mpr ⟨prOk_of (n := 18446744073709551557) (by decide) (by decide +kernel) pr_18446744073709551557, ?_⟩
  refine List.forall_mem_cons.mpr ⟨prOk_of (n := 57896044618658097711785492504343953926634992332820282019728792003956564819949) (by decide) (by decide +kernel) pr_57896044618658097711785492504343953926634992332820282019728792003956564819949, ?_⟩
  exact List.forall_mem_nil _
noncomputable def wL : List Nat := [3989, 7979, 11971, 15959, 19951, 23939, 27919, 31907, 35899, 39887, 43867, 47857, 51853, 55849, 59833, 63827, 67819, 71809, 75797, 79777, 83773]
theorem wL_ok : ∀ w ∈ wL, ∀ p ∈ pL, Nat.gcd w (p - 1).toNat = 1 := by decide +kernel
noncomputable def gapsOk : Nat → List Nat → Bool
  | _, [] => true
  | lo, w :: r => decide (w ≤ lo + 4000) && decide (w % 2 = 1) && gapsOk w r
noncomputable def lastOf : Nat → List Nat → Nat
  | lo, [] => lo
  | _, w :: r => lastOf w r
theorem gaps_pick : ∀ (l : List Nat) (lo e : Nat), gapsOk lo l = true → lo < e → e ≤ lastOf lo l → ∃ w, w ∈ l ∧ e ≤ w ∧ w < e + 4000 ∧ w % 2 = 1
  | [], _, _, _, h1, h2 => absurd h2 (Nat.not_le.mpr h1)
  | w :: r, lo, e, h, h1, h2 => by
    unfold gapsOk at h
    simp only [Bool.and_eq_true, decide_eq_true_eq] at h
    by_cases hw : e ≤ w
    · exact ⟨w, .head _, hw, Nat.lt_of_le_of_lt h.1.1 (Nat.add_lt_add_right h1 _), h.1.2⟩
    · obtain ⟨x, hx, hr⟩ := gaps_pick r w e h.2 (Nat.not_le.mp hw) h2
      exact ⟨x, .tail _ hx, hr⟩
theorem wL_at {e : Nat} (h3 : 3 ≤ e) (_ : e % 2 = 1) (h : e ≤ 80001) : ∃ w, w ∈ wL ∧ e ≤ w ∧ w < e + 4000 ∧ w % 2 = 1 :=
  gaps_pick wL 2 e (by decide) h3 (Nat.le_trans h (by decide))
theorem exp_ex {p q s : Int} (hp : p ∈ pL) (hq : q ∈ pL) (h0 : 0 ≤ s) (h1 : s < 40000) : ∃ j : Nat, j < 2 * 1000 ∧ Int.gcd (3 + 2 * s + 2 * (j : Int)) ((p - 1) * (q - 1)) = 1 := by
  obtain ⟨w, hw, l1, l2, ho⟩ := wL_at (e := (3 + 2 * s).toNat) (by lia) (by lia) (by lia)
  refine ⟨(w - (3 + 2 * s).toNat) / 2, by lia, ?_⟩
  have e : 3 + 2 * s + 2 * (((w - (3 + 2 * s).toNat) / 2 : Nat) : Int) = (w : Int) := by lia
  rw [e]
  have p3 := (pL_ok p hp).1
  have q3 := (pL_ok q hq).1
  have a := wL_ok w hw p hp
  have b := wL_ok w hw q hq
  show Nat.gcd (w : Int).natAbs ((p - 1) * (q - 1)).natAbs = 1
  rw [Int.natAbs_natCast, Int.natAbs_mul]
  have e1 : (p - 1).natAbs = (p - 1).toNat := by lia
  have e2 : (q - 1).natAbs = (q - 1).toNat := by lia
  rw [e1, e2]
  exact Nat.Coprime.mul_right a b
theorem mem_bd {k : Int} (h : k ∈ ([31, 61, 89, 107, 127, 521, 607] : List Int)) : 0 ≤ k ∧ k ≤ 1000000 := by
  simp only [List.mem_cons, List.not_mem_nil, or_false] at h
  lia
noncomputable abbrev pairObj (p q : Int) (t u : Tok) : Obj := { cls := .type "tuple", data := .seq #[.int p t, .int q u] }
noncomputable def PairsJ (least : Int) (own : List (Addr × Obj)) (ys : List Value) : Prop := ∀ v ∈ ys, ∃ T p q t u, v = .ref T ∧ (T, pairObj p q t u) ∈ own ∧ p ∈ pL ∧ q ∈ pL ∧ p ≠ q ∧ least ≤ szI (p * q)
noncomputable def KeysJ (least : Int) (i j : Nat) (ys : List Value) (own : List (Addr × Obj)) : Prop := PairsJ least own ys ∧ (0 < i ∨ 6 ≤ j → ys ≠ []) ∧ ys.length ≤ i * 9 + j
theorem KeysJ.start {least : Int} : KeysJ least 0 0 [] [] := ⟨(fun _ h => nomatch h), fun h => by lia, Nat.le_refl _⟩
theorem KeysJ.next {least : Int} {i : Nat} {ys : List Value} {own : List (Addr × Obj)} (h : KeysJ least i 9 ys own) : KeysJ least (i + 1) 0 ys own := ⟨h.1, ⟨fun _ => h.2.1 (.inr (by decide)), by have := h.2.2; lia⟩⟩
theorem KeysJ.yes {least p q : Int} {i j : Nat} {ys : List Value} {own : List (Addr × Obj)} {T : Addr} {t u : Tok} (h : KeysJ least i j ys own) (hp : p ∈ pL) (hq : q ∈ pL) (hne : p ≠ q) (hl : least ≤ szI (p * q)) :
    KeysJ least i (j + 1) (ys ++ [.ref T]) ((T, pairObj p q t u) :: own) := by
  refine ⟨fun v hv => ?_, fun _ => by simp, by have := h.2.2; rw [List.length_append, List.length_singleton]; lia⟩
  rcases List.mem_append.mp hv with hv | hv
  · obtain ⟨T', p', q', t', u', e, hm, r⟩ := h.1 v hv
    exact ⟨T', p', q', t', u', e, .tail _ hm, r⟩
  · exact ⟨T, p, q, t, u, List.mem_singleton.mp hv, .head _, hp, hq, hne, hl⟩
theorem szI_first : szI ((2 ^ 31 - 1) * (2 ^ 521 - 1)) = 69 := by decide +kernel
theorem KeysJ.no {least p q : Int} {i j : Nat} {ys : List Value} {own : List (Addr × Obj)} (h : KeysJ least i j ys own) (hl : least ≤ 69) (hp : pL[i]? = some p) (hq : pL[j]? = some q) (hn : ¬ (p ≠ q ∧ least ≤ szI (p * q))) : KeysJ least i (j + 1) ys own := by
  refine ⟨h.1, fun hc => ?_, by have := h.2.2; lia⟩
  by_cases h0 : 0 < i ∨ 6 ≤ j
  · exact h.2.1 h0
  · exfalso
    obtain rfl : i = 0 := by lia
    obtain rfl : j = 5 := by lia
    have e1 : p = 2 ^ 31 - 1 := (Option.some.inj hp).symm
    have e2 : q = 2 ^ 521 - 1 := (Option.some.inj hq).symm
    subst e1 e2
    exact hn ⟨by decide +kernel, by rw [szI_first]; exact hl⟩
theorem KeysJ.pick {least : Int} {ys : List Value} {own : List (Addr × Obj)} (h : KeysJ least 9 0 ys own) : 0 < ys.length ∧ ys.length ≤ 81 ∧ ∀ k : Nat, k < ys.length → ∃ T p q t u, ys[k]? = some (.ref T) ∧ (T, pairObj p q t u) ∈ own ∧ p ∈ pL ∧ q ∈ pL ∧ p ≠ q ∧ least ≤ szI (p * q) := by
  refine ⟨List.length_pos_iff.mpr (h.2.1 (.inl (by decide))), h.2.2, fun k hk => ?_⟩
  obtain ⟨T, p, q, t, u, e, r⟩ := h.1 ys[k] (List.getElem_mem hk)
  exact ⟨T, p, q, t, u, by rw [List.getElem?_eq_getElem hk, e], r⟩
theorem intsAre_cast {vs : List Value} {a b : List Int} (h : IntsAre vs a) (e : a = b) : IntsAre vs b := e ▸ h
end Mine

set_option maxHeartbeats 4000000
namespace Mine
theorem over_msg {prog : Program} {w : World} {A : Around} {E : Value → Shared → Prop} {s : Shared} {h₀ : Heap} {L b : Addr} {news : List (Addr × Obj)} {x y : Int} {t u v : Tok} {n : Nat} {Q : Value → Shared → Prop}
    (N : News h₀ L s.heap news) (hb : (b, ({ cls := .type "tuple", data := .seq #[.int x t, .int y u] n } : Obj)) ∈ news) (hx0 : 0 ≤ x) (hx1 : x < 10000) (hy0 : 0 ≤ y) (hy1 : y < 10000)
    (h : ∀ T t' k, Q (.str T t') { s with toks := k }) : wpAny (model prog w) A (binaryOp .Mod (.str (Str.ofString "%i bytes needed for message, but there is only space for %i") v) (.ref b)) Q E s := by
  refine' KPt.mod_tuple N hb ?kptF ?kptm ?_
  case kptF => kpt_eq
  case kptm => kpt_run
  exact h _
end Mine

namespace Mine
noncomputable abbrev PP : Program := PySem.Challenge.rw_ys0001_09.row.prog
noncomputable def V : Program := PySem.W.view PP [0, 2, 3, 4, 5, 6, 7, 9, 10, 12, 15, 16, 17, 19, 20, 22, 23, 25, 26, 27, 28, 29, 30, 31, 32, 33, 34, 35]
noncomputable def o11 : Params → Obj := fun P => { cls := PySem.Value.type "tuple", data := PySem.Data.seq #[] }
noncomputable def o12 : Params → Obj := fun P => { cls := PySem.Value.none, data := PySem.Data.fields #[] }
noncomputable def o13 : Params → Obj := fun P => { cls := PySem.Value.type "code", data := PySem.Data.fields #[PySem.Value.str (PySem.Str.ofString "<module>") 182, PySem.Value.str (PySem.Str.ofString "<module>") 183, PySem.Value.str (PySem.Str.ofString "/claim/cut.py") 184, PySem.Value.int 1 0, PySem.Value.int 0 0, PySem.Value.int 0 0, PySem.Value.int 0 0, PySem.Value.int 0 0, PySem.Value.ref 11, PySem.Value.bool Bool.false, PySem.Value.int 181 0, PySem.Value.ref 12, PySem.Value.none, PySem.Value.none, PySem.Value.none, PySem.Value.none, PySem.Value.int 185 0, PySem.Value.int 1 0, PySem.Value.str (PySem.Str.ofString "/claim/cut.py") 186] }
noncomputable def o14 : Params → Obj := fun P => { cls := PySem.Value.type "frame", slots := #[Option.some (PySem.Value.ref 13), Option.some (PySem.Value.ref 3), Option.some (PySem.Value.ref 3), Option.none, Option.some (PySem.Value.str (PySem.Str.ofString "__main__") 164), Option.none, Option.some (PySem.Value.ref 0)] }
noncomputable def o15 : Params → Obj := fun P => { cls := PySem.Value.type "tuple", data := PySem.Data.seq #[] }
noncomputable def o16 : Params → Obj := fun P => { cls := PySem.Value.none, data := PySem.Data.fields #[] }
noncomputable def o17 : Params → Obj := fun P => { cls := PySem.Value.type "tuple", data := PySem.Data.seq #[PySem.Value.str (PySem.Str.ofString "k") 190] }
noncomputable def o18 : Params → Obj := fun P => { cls := PySem.Value.type "tuple", data := PySem.Data.seq #[] }
noncomputable def o19 : Params → Obj := fun P => { cls := PySem.Value.none, data := PySem.Data.func { name := PySem.Str.ofString "_wall", qualname := PySem.Str.ofString "_wall", params := (fdA (nthS PP.main.body 0)), body := PySem.FuncBody.stmts (fdB (nthS PP.main.body 0)), scope := (fdS (nthS PP.main.body 0)), globals := 0, closure := [], defaults := PySem.Value.none, kwdefaults := PySem.Value.none } }
noncomputable def o20 : Params → Obj := fun P => { cls := PySem.Value.type "code", data := PySem.Data.fields #[PySem.Value.str (PySem.Str.ofString "_wall") 187, PySem.Value.str (PySem.Str.ofString "_wall") 188, PySem.Value.str (PySem.Str.ofString "/claim/cut.py") 189, PySem.Value.int 1 0, PySem.Value.int 1 0, PySem.Value.int 0 0, PySem.Value.int 0 0, PySem.Value.int 3 0, PySem.Value.ref 15, PySem.Value.bool Bool.true, PySem.Value.int 181 0, PySem.Value.ref 16, PySem.Value.none, PySem.Value.ref 17, PySem.Value.ref 18, PySem.Value.ref 19, PySem.Value.int 191 0, PySem.Value.int 1 0, PySem.Value.str (PySem.Str.ofString "/claim/cut.py") 192] }
noncomputable def o21 : Params → Obj := fun P => { cls := PySem.Value.type "function", data := PySem.Data.func { name := PySem.Str.ofString "_wall", qualname := PySem.Str.ofString "_wall", params := (fdA (nthS PP.main.body 0)), body := PySem.FuncBody.stmts (fdB (nthS PP.main.body 0)), scope := (fdS (nthS PP.main.body 0)), globals := 3, closure := [], defaults := PySem.Value.none, kwdefaults := PySem.Value.none, pyModule := PySem.Value.str (PySem.Str.ofString "__main__") 164, code := PySem.Value.ref 20 } }
noncomputable def o22 : Params → Obj := fun P => { cls := PySem.Value.type "tuple", data := PySem.Data.seq #[PySem.Value.type "ValueError"] }
noncomputable def o23 : Params → Obj := fun P => { cls := PySem.Value.type "builtin_function_or_method", data := PySem.Data.fields #[PySem.Value.builtin "type.__prepare__", PySem.Value.type "type"] }
noncomputable def o24 : Params → Obj := fun P => { cls := PySem.Value.type "dict", data := PySem.Data.dict #[{ hash := PySem.PyData.keyHash P (PySem.Str.ofString "__module__"), key := PySem.Value.str (PySem.Str.ofString "__module__") 203, val := PySem.Value.str (PySem.Str.ofString "rsa.common") 194 }, { hash := PySem.PyData.keyHash P (PySem.Str.ofString "__qualname__"), key := PySem.Value.str (PySem.Str.ofString "__qualname__") 205, val := PySem.Value.str (PySem.Str.ofString "NotRelativePrimeError") 204 }, { hash := PySem.PyData.keyHash P (PySem.Str.ofString "__firstlineno__"), key := PySem.Value.str (PySem.Str.ofString "__firstlineno__") 207, val := PySem.Value.int 5 206 }, { hash := PySem.PyData.keyHash P (PySem.Str.ofString "__init__"), key := PySem.Value.str (PySem.Str.ofString "__init__") 219, val := PySem.Value.ref 36 }, { hash := PySem.PyData.keyHash P (PySem.Str.ofString "__static_attributes__"), key := PySem.Value.str (PySem.Str.ofString "__static_attributes__") 223, val := PySem.Value.ref 37 }] 5 }
noncomputable def o25 : Params → Obj := fun P => { cls := PySem.Value.type "tuple", data := PySem.Data.seq #[] }
noncomputable def o26 : Params → Obj := fun P => { cls := PySem.Value.none, data := PySem.Data.fields #[PySem.Value.int 7 0, PySem.Value.int 4 0, PySem.Value.ref 35] }
noncomputable def o27 : Params → Obj := fun P => { cls := PySem.Value.type "code", data := PySem.Data.fields #[PySem.Value.str (PySem.Str.ofString "NotRelativePrimeError") 198, PySem.Value.str (PySem.Str.ofString "NotRelativePrimeError") 199, PySem.Value.str (PySem.Str.ofString "/claim/cut.py") 200, PySem.Value.int 5 0, PySem.Value.int 0 0, PySem.Value.int 0 0, PySem.Value.int 0 0, PySem.Value.int 0 0, PySem.Value.ref 25, PySem.Value.bool Bool.false, PySem.Value.int 181 0, PySem.Value.ref 26, PySem.Value.none, PySem.Value.none, PySem.Value.none, PySem.Value.none, PySem.Value.int 201 0, PySem.Value.int 5 0, PySem.Value.str (PySem.Str.ofString "/claim/cut.py") 202] }
noncomputable def o28 : Params → Obj := fun P => { cls := PySem.Value.type "frame", slots := #[Option.some (PySem.Value.ref 27), Option.some (PySem.Value.ref 3), Option.some (PySem.Value.ref 24), Option.none, Option.some (PySem.Value.str (PySem.Str.ofString "rsa.common") 194), Option.none, Option.some (PySem.Value.ref 0)] }
noncomputable def o29 : Params → Obj := fun P => { cls := PySem.Value.type "tuple", data := PySem.Data.seq #[PySem.Value.str (PySem.Str.ofString "") 208] }
noncomputable def o30 : Params → Obj := fun P => { cls := PySem.Value.type "tuple", data := PySem.Data.seq #[] }
noncomputable def o31 : Params → Obj := fun P => { cls := PySem.Value.none, data := PySem.Data.fields #[] }
noncomputable def o32 : Params → Obj := fun P => { cls := PySem.Value.type "tuple", data := PySem.Data.seq #[PySem.Value.str (PySem.Str.ofString "self") 212, PySem.Value.str (PySem.Str.ofString "a") 213, PySem.Value.str (PySem.Str.ofString "b") 214, PySem.Value.str (PySem.Str.ofString "d") 215, PySem.Value.str (PySem.Str.ofString "msg") 216] }
noncomputable def o33 : Params → Obj := fun P => { cls := PySem.Value.type "tuple", data := PySem.Data.seq #[] }
noncomputable def o34 : Params → Obj := fun P => { cls := PySem.Value.none, data := PySem.Data.func { name := PySem.Str.ofString "__init__", qualname := PySem.Str.ofString "NotRelativePrimeError.__init__", params := (fdA (nthS (fdB (nthS PP.main.body 2)) 0)), body := PySem.FuncBody.stmts (fdB (nthS (fdB (nthS PP.main.body 2)) 0)), scope := (fdS (nthS (fdB (nthS PP.main.body 2)) 0)), globals := 0, closure := [], defaults := PySem.Value.none, kwdefaults := PySem.Value.none } }
noncomputable def o35 : Params → Obj := fun P => { cls := PySem.Value.type "code", data := PySem.Data.fields #[PySem.Value.str (PySem.Str.ofString "__init__") 209, PySem.Value.str (PySem.Str.ofString "NotRelativePrimeError.__init__") 210, PySem.Value.str (PySem.Str.ofString "/claim/cut.py") 211, PySem.Value.int 7 0, PySem.Value.int 5 0, PySem.Value.int 0 0, PySem.Value.int 0 0, PySem.Value.int 3 0, PySem.Value.ref 30, PySem.Value.bool Bool.true, PySem.Value.int 181 0, PySem.Value.ref 31, PySem.Value.none, PySem.Value.ref 32, PySem.Value.ref 33, PySem.Value.ref 34, PySem.Value.int 217 0, PySem.Value.int 7 0, PySem.Value.str (PySem.Str.ofString "/claim/cut.py") 218] }
noncomputable def o36 : Params → Obj := fun P => { cls := PySem.Value.type "function", data := PySem.Data.func { name := PySem.Str.ofString "__init__", qualname := PySem.Str.ofString "NotRelativePrimeError.__init__", params := (fdA (nthS (fdB (nthS PP.main.body 2)) 0)), body := PySem.FuncBody.stmts (fdB (nthS (fdB (nthS PP.main.body 2)) 0)), scope := (fdS (nthS (fdB (nthS PP.main.body 2)) 0)), globals := 3, closure := [], defaults := PySem.Value.ref 29, kwdefaults := PySem.Value.none, pyModule := PySem.Value.str (PySem.Str.ofString "rsa.common") 194, code := PySem.Value.ref 35 } }
noncomputable def o37 : Params → Obj := fun P => { cls := PySem.Value.type "tuple", data := PySem.Data.seq #[PySem.Value.str (PySem.Str.ofString "a") 220, PySem.Value.str (PySem.Str.ofString "b") 221, PySem.Value.str (PySem.Str.ofString "d") 222] }
noncomputable def o38 : Params → Obj := fun P => { cls := PySem.Value.type "dict", data := PySem.Data.dict #[{ hash := PySem.PyData.keyHash P (PySem.Str.ofString "__module__"), key := PySem.Value.str (PySem.Str.ofString "__module__") 203, val := PySem.Value.str (PySem.Str.ofString "rsa.common") 194 }, { hash := PySem.PyData.keyHash P (PySem.Str.ofString "__firstlineno__"), key := PySem.Value.str (PySem.Str.ofString "__firstlineno__") 207, val := PySem.Value.int 5 206 }, { hash := PySem.PyData.keyHash P (PySem.Str.ofString "__init__"), key := PySem.Value.str (PySem.Str.ofString "__init__") 219, val := PySem.Value.ref 36 }, { hash := PySem.PyData.keyHash P (PySem.Str.ofString "__static_attributes__"), key := PySem.Value.str (PySem.Str.ofString "__static_attributes__") 223, val := PySem.Value.ref 37 }, { hash := PySem.PyData.keyHash P (PySem.Str.ofString "__weakref__"), key := PySem.Value.str (PySem.Str.ofString "__weakref__") 225, val := PySem.Value.ref 40 }, { hash := PySem.PyData.keyHash P (PySem.Str.ofString "__doc__"), key := PySem.Value.str (PySem.Str.ofString "__doc__") 226, val := PySem.Value.none }] 3 }
noncomputable def o39 : Params → Obj := fun P => { cls := PySem.Value.type "type", data := PySem.Data.cls { name := PySem.Str.ofString "NotRelativePrimeError", bases := [PySem.Value.type "ValueError"], mro := [PySem.Value.ref 39, PySem.Value.type "ValueError", PySem.Value.type "Exception", PySem.Value.type "BaseException", PySem.Value.type "object"], ns := 38, qualname := PySem.Str.ofString "NotRelativePrimeError" }, slots := #[Option.some (PySem.Value.ref 22), Option.none, Option.some (PySem.Value.str (PySem.Str.ofString "NotRelativePrimeError") 196), Option.some (PySem.Value.str (PySem.Str.ofString "NotRelativePrimeError") 204), Option.some (PySem.Value.builtin "ValueError.__new__"), Option.some (PySem.Value.bool Bool.true)] }
noncomputable def o40 : Params → Obj := fun P => { cls := PySem.Value.type "getset_descriptor", data := PySem.Data.fields #[PySem.Value.str (PySem.Str.ofString "__weakref__") 224, PySem.Value.ref 39, PySem.Value.builtin "ExceptionGroup.__weakref__", PySem.Value.none] }
noncomputable def o41 : Params → Obj := fun P => { cls := PySem.Value.type "super", data := PySem.Data.fields #[PySem.Value.ref 39, PySem.Value.ref 39, PySem.Value.ref 39] }
noncomputable def o42 : Params → Obj := fun P => { cls := PySem.Value.type "builtin_function_or_method", data := PySem.Data.fields #[PySem.Value.builtin "object.__init_subclass__", PySem.Value.ref 39] }
noncomputable def o43 : Params → Obj := fun P => { cls := PySem.Value.type "tuple", data := PySem.Data.seq #[] }
noncomputable def o44 : Params → Obj := fun P => { cls := PySem.Value.none, data := PySem.Data.fields #[] }
noncomputable def o45 : Params → Obj := fun P => { cls := PySem.Value.type "tuple", data := PySem.Data.seq #[PySem.Value.str (PySem.Str.ofString "num") 232] }
noncomputable def o46 : Params → Obj := fun P => { cls := PySem.Value.type "tuple", data := PySem.Data.seq #[] }
noncomputable def o47 : Params → Obj := fun P => { cls := PySem.Value.none, data := PySem.Data.func { name := PySem.Str.ofString "bit_size", qualname := PySem.Str.ofString "bit_size", params := (fdA (nthS PP.main.body 3)), body := PySem.FuncBody.stmts (fdB (nthS PP.main.body 3)), scope := (fdS (nthS PP.main.body 3)), globals := 0, closure := [], defaults := PySem.Value.none, kwdefaults := PySem.Value.none } }
noncomputable def o48 : Params → Obj := fun P => { cls := PySem.Value.type "code", data := PySem.Data.fields #[PySem.Value.str (PySem.Str.ofString "bit_size") 229, PySem.Value.str (PySem.Str.ofString "bit_size") 230, PySem.Value.str (PySem.Str.ofString "/claim/cut.py") 231, PySem.Value.int 11 0, PySem.Value.int 1 0, PySem.Value.int 0 0, PySem.Value.int 0 0, PySem.Value.int 3 0, PySem.Value.ref 43, PySem.Value.bool Bool.true, PySem.Value.int 181 0, PySem.Value.ref 44, PySem.Value.none, PySem.Value.ref 45, PySem.Value.ref 46, PySem.Value.ref 47, PySem.Value.int 233 0, PySem.Value.int 11 0, PySem.Value.str (PySem.Str.ofString "/claim/cut.py") 234] }
noncomputable def o49 : Params → Obj := fun P => { cls := PySem.Value.type "function", data := PySem.Data.func { name := PySem.Str.ofString "bit_size", qualname := PySem.Str.ofString "bit_size", params := (fdA (nthS PP.main.body 3)), body := PySem.FuncBody.stmts (fdB (nthS PP.main.body 3)), scope := (fdS (nthS PP.main.body 3)), globals := 3, closure := [], defaults := PySem.Value.none, kwdefaults := PySem.Value.none, pyModule := PySem.Value.str (PySem.Str.ofString "rsa.common") 194, code := PySem.Value.ref 48 } }
noncomputable def o50 : Params → Obj := fun P => { cls := PySem.Value.type "tuple", data := PySem.Data.seq #[] }
noncomputable def o51 : Params → Obj := fun P => { cls := PySem.Value.none, data := PySem.Data.fields #[] }
noncomputable def o52 : Params → Obj := fun P => { cls := PySem.Value.type "tuple", data := PySem.Data.seq #[PySem.Value.str (PySem.Str.ofString "number") 239] }
noncomputable def o53 : Params → Obj := fun P => { cls := PySem.Value.type "tuple", data := PySem.Data.seq #[] }
noncomputable def o54 : Params → Obj := fun P => { cls := PySem.Value.none, data := PySem.Data.func { name := PySem.Str.ofString "byte_size", qualname := PySem.Str.ofString "byte_size", params := (fdA (nthS PP.main.body 4)), body := PySem.FuncBody.stmts (fdB (nthS PP.main.body 4)), scope := (fdS (nthS PP.main.body 4)), globals := 0, closure := [], defaults := PySem.Value.none, kwdefaults := PySem.Value.none } }
noncomputable def o55 : Params → Obj := fun P => { cls := PySem.Value.type "code", data := PySem.Data.fields #[PySem.Value.str (PySem.Str.ofString "byte_size") 236, PySem.Value.str (PySem.Str.ofString "byte_size") 237, PySem.Value.str (PySem.Str.ofString "/claim/cut.py") 238, PySem.Value.int 13 0, PySem.Value.int 1 0, PySem.Value.int 0 0, PySem.Value.int 0 0, PySem.Value.int 3 0, PySem.Value.ref 50, PySem.Value.bool Bool.true, PySem.Value.int 181 0, PySem.Value.ref 51, PySem.Value.none, PySem.Value.ref 52, PySem.Value.ref 53, PySem.Value.ref 54, PySem.Value.int 240 0, PySem.Value.int 13 0, PySem.Value.str (PySem.Str.ofString "/claim/cut.py") 241] }
noncomputable def o56 : Params → Obj := fun P => { cls := PySem.Value.type "function", data := PySem.Data.func { name := PySem.Str.ofString "byte_size", qualname := PySem.Str.ofString "byte_size", params := (fdA (nthS PP.main.body 4)), body := PySem.FuncBody.stmts (fdB (nthS PP.main.body 4)), scope := (fdS (nthS PP.main.body 4)), globals := 3, closure := [], defaults := PySem.Value.none, kwdefaults := PySem.Value.none, pyModule := PySem.Value.str (PySem.Str.ofString "rsa.common") 194, code := PySem.Value.ref 55 } }
noncomputable def o57 : Params → Obj := fun P => { cls := PySem.Value.type "tuple", data := PySem.Data.seq #[] }
noncomputable def o58 : Params → Obj := fun P => { cls := PySem.Value.none, data := PySem.Data.fields #[] }
noncomputable def o59 : Params → Obj := fun P => { cls := PySem.Value.type "tuple", data := PySem.Data.seq #[PySem.Value.str (PySem.Str.ofString "num") 246, PySem.Value.str (PySem.Str.ofString "div") 247, PySem.Value.str (PySem.Str.ofString "quanta") 248, PySem.Value.str (PySem.Str.ofString "mod") 249] }
noncomputable def o60 : Params → Obj := fun P => { cls := PySem.Value.type "tuple", data := PySem.Data.seq #[] }
noncomputable def o61 : Params → Obj := fun P => { cls := PySem.Value.none, data := PySem.Data.func { name := PySem.Str.ofString "ceil_div", qualname := PySem.Str.ofString "ceil_div", params := (fdA (nthS PP.main.body 5)), body := PySem.FuncBody.stmts (fdB (nthS PP.main.body 5)), scope := (fdS (nthS PP.main.body 5)), globals := 0, closure := [], defaults := PySem.Value.none, kwdefaults := PySem.Value.none } }
noncomputable def o62 : Params → Obj := fun P => { cls := PySem.Value.type "code", data := PySem.Data.fields #[PySem.Value.str (PySem.Str.ofString "ceil_div") 243, PySem.Value.str (PySem.Str.ofString "ceil_div") 244, PySem.Value.str (PySem.Str.ofString "/claim/cut.py") 245, PySem.Value.int 17 0, PySem.Value.int 2 0, PySem.Value.int 0 0, PySem.Value.int 0 0, PySem.Value.int 3 0, PySem.Value.ref 57, PySem.Value.bool Bool.true, PySem.Value.int 181 0, PySem.Value.ref 58, PySem.Value.none, PySem.Value.ref 59, PySem.Value.ref 60, PySem.Value.ref 61, PySem.Value.int 250 0, PySem.Value.int 17 0, PySem.Value.str (PySem.Str.ofString "/claim/cut.py") 251] }
noncomputable def o63 : Params → Obj := fun P => { cls := PySem.Value.type "function", data := PySem.Data.func { name := PySem.Str.ofString "ceil_div", qualname := PySem.Str.ofString "ceil_div", params := (fdA (nthS PP.main.body 5)), body := PySem.FuncBody.stmts (fdB (nthS PP.main.body 5)), scope := (fdS (nthS PP.main.body 5)), globals := 3, closure := [], defaults := PySem.Value.none, kwdefaults := PySem.Value.none, pyModule := PySem.Value.str (PySem.Str.ofString "rsa.common") 194, code := PySem.Value.ref 62 } }
noncomputable def o64 : Params → Obj := fun P => { cls := PySem.Value.type "tuple", data := PySem.Data.seq #[] }
noncomputable def o65 : Params → Obj := fun P => { cls := PySem.Value.none, data := PySem.Data.fields #[] }
noncomputable def o66 : Params → Obj := fun P => { cls := PySem.Value.type "tuple", data := PySem.Data.seq #[PySem.Value.str (PySem.Str.ofString "a") 256, PySem.Value.str (PySem.Str.ofString "b") 257, PySem.Value.str (PySem.Str.ofString "x") 258, PySem.Value.str (PySem.Str.ofString "y") 259, PySem.Value.str (PySem.Str.ofString "lx") 260, PySem.Value.str (PySem.Str.ofString "ly") 261, PySem.Value.str (PySem.Str.ofString "oa") 262, PySem.Value.str (PySem.Str.ofString "ob") 263, PySem.Value.str (PySem.Str.ofString "q") 264] }
noncomputable def o67 : Params → Obj := fun P => { cls := PySem.Value.type "tuple", data := PySem.Data.seq #[] }
noncomputable def o68 : Params → Obj := fun P => { cls := PySem.Value.none, data := PySem.Data.func { name := PySem.Str.ofString "extended_gcd", qualname := PySem.Str.ofString "extended_gcd", params := (fdA (nthS PP.main.body 6)), body := PySem.FuncBody.stmts (fdB (nthS PP.main.body 6)), scope := (fdS (nthS PP.main.body 6)), globals := 0, closure := [], defaults := PySem.Value.none, kwdefaults := PySem.Value.none } }
noncomputable def o69 : Params → Obj := fun P => { cls := PySem.Value.type "code", data := PySem.Data.fields #[PySem.Value.str (PySem.Str.ofString "extended_gcd") 253, PySem.Value.str (PySem.Str.ofString "extended_gcd") 254, PySem.Value.str (PySem.Str.ofString "/claim/cut.py") 255, PySem.Value.int 22 0, PySem.Value.int 2 0, PySem.Value.int 0 0, PySem.Value.int 0 0, PySem.Value.int 3 0, PySem.Value.ref 64, PySem.Value.bool Bool.true, PySem.Value.int 181 0, PySem.Value.ref 65, PySem.Value.none, PySem.Value.ref 66, PySem.Value.ref 67, PySem.Value.ref 68, PySem.Value.int 265 0, PySem.Value.int 22 0, PySem.Value.str (PySem.Str.ofString "/claim/cut.py") 266] }
noncomputable def o70 : Params → Obj := fun P => { cls := PySem.Value.type "function", data := PySem.Data.func { name := PySem.Str.ofString "extended_gcd", qualname := PySem.Str.ofString "extended_gcd", params := (fdA (nthS PP.main.body 6)), body := PySem.FuncBody.stmts (fdB (nthS PP.main.body 6)), scope := (fdS (nthS PP.main.body 6)), globals := 3, closure := [], defaults := PySem.Value.none, kwdefaults := PySem.Value.none, pyModule := PySem.Value.str (PySem.Str.ofString "rsa.common") 194, code := PySem.Value.ref 69 } }
noncomputable def o12p7 : Params → Obj := fun P => { cls := PySem.Value.none, data := PySem.Data.fields #[PySem.Value.int 1 0, PySem.Value.int 0 0, PySem.Value.ref 20, PySem.Value.int 5 0, PySem.Value.int 0 0, PySem.Value.ref 27, PySem.Value.int 11 0, PySem.Value.int 0 0, PySem.Value.ref 48, PySem.Value.int 13 0, PySem.Value.int 0 0, PySem.Value.ref 55, PySem.Value.int 17 0, PySem.Value.int 0 0, PySem.Value.ref 62, PySem.Value.int 22 0, PySem.Value.int 0 0, PySem.Value.ref 69, PySem.Value.int 39 0, PySem.Value.int 0 0, PySem.Value.ref 76] }
noncomputable def o71 : Params → Obj := fun P => { cls := PySem.Value.type "tuple", data := PySem.Data.seq #[] }
noncomputable def o72 : Params → Obj := fun P => { cls := PySem.Value.none, data := PySem.Data.fields #[] }
noncomputable def o73 : Params → Obj := fun P => { cls := PySem.Value.type "tuple", data := PySem.Data.seq #[PySem.Value.str (PySem.Str.ofString "x") 271, PySem.Value.str (PySem.Str.ofString "n") 272, PySem.Value.str (PySem.Str.ofString "divider") 273, PySem.Value.str (PySem.Str.ofString "inv") 274, PySem.Value.str (PySem.Str.ofString "_") 275] }
noncomputable def o74 : Params → Obj := fun P => { cls := PySem.Value.type "tuple", data := PySem.Data.seq #[] }
noncomputable def o75 : Params → Obj := fun P => { cls := PySem.Value.none, data := PySem.Data.func { name := PySem.Str.ofString "inverse", qualname := PySem.Str.ofString "inverse", params := (fdA (nthS PP.main.body 7)), body := PySem.FuncBody.stmts (fdB (nthS PP.main.body 7)), scope := (fdS (nthS PP.main.body 7)), globals := 0, closure := [], defaults := PySem.Value.none, kwdefaults := PySem.Value.none } }
noncomputable def o76 : Params → Obj := fun P => { cls := PySem.Value.type "code", data := PySem.Data.fields #[PySem.Value.str (PySem.Str.ofString "inverse") 268, PySem.Value.str (PySem.Str.ofString "inverse") 269, PySem.Value.str (PySem.Str.ofString "/claim/cut.py") 270, PySem.Value.int 39 0, PySem.Value.int 2 0, PySem.Value.int 0 0, PySem.Value.int 0 0, PySem.Value.int 3 0, PySem.Value.ref 71, PySem.Value.bool Bool.true, PySem.Value.int 181 0, PySem.Value.ref 72, PySem.Value.none, PySem.Value.ref 73, PySem.Value.ref 74, PySem.Value.ref 75, PySem.Value.int 276 0, PySem.Value.int 39 0, PySem.Value.str (PySem.Str.ofString "/claim/cut.py") 277] }
noncomputable def o77 : Params → Obj := fun P => { cls := PySem.Value.type "function", data := PySem.Data.func { name := PySem.Str.ofString "inverse", qualname := PySem.Str.ofString "inverse", params := (fdA (nthS PP.main.body 7)), body := PySem.FuncBody.stmts (fdB (nthS PP.main.body 7)), scope := (fdS (nthS PP.main.body 7)), globals := 3, closure := [], defaults := PySem.Value.none, kwdefaults := PySem.Value.none, pyModule := PySem.Value.str (PySem.Str.ofString "rsa.common") 194, code := PySem.Value.ref 76 } }
noncomputable def o3p8 : Params → Obj := fun P => { cls := PySem.Value.type "dict", data := PySem.Data.dict #[{ hash := PySem.PyData.keyHash P (PySem.Str.ofString "__name__"), key := PySem.Value.str (PySem.Str.ofString "__name__") 165, val := PySem.Value.str (PySem.Str.ofString "rsa.core") 279 }, { hash := PySem.PyData.keyHash P (PySem.Str.ofString "__doc__"), key := PySem.Value.str (PySem.Str.ofString "__doc__") 166, val := PySem.Value.none }, { hash := PySem.PyData.keyHash P (PySem.Str.ofString "__package__"), key := PySem.Value.str (PySem.Str.ofString "__package__") 167, val := PySem.Value.none }, { hash := PySem.PyData.keyHash P (PySem.Str.ofString "__loader__"), key := PySem.Value.str (PySem.Str.ofString "__loader__") 168, val := PySem.Value.builtin "__main__.__loader__#opaque" }, { hash := PySem.PyData.keyHash P (PySem.Str.ofString "__spec__"), key := PySem.Value.str (PySem.Str.ofString "__spec__") 169, val := PySem.Value.none }, { hash := PySem.PyData.keyHash P (PySem.Str.ofString "__annotations__"), key := PySem.Value.str (PySem.Str.ofString "__annotations__") 170, val := PySem.Value.ref 6 }, { hash := PySem.PyData.keyHash P (PySem.Str.ofString "__builtins__"), key := PySem.Value.str (PySem.Str.ofString "__builtins__") 171, val := PySem.Value.ref 4 }, { hash := PySem.PyData.keyHash P (PySem.Str.ofString "__file__"), key := PySem.Value.str (PySem.Str.ofString "__file__") 173, val := PySem.Value.str (PySem.Str.ofString "/claim/cut.py") 172 }, { hash := PySem.PyData.keyHash P (PySem.Str.ofString "__cached__"), key := PySem.Value.str (PySem.Str.ofString "__cached__") 174, val := PySem.Value.none }, { hash := PySem.PyData.keyHash P (PySem.Str.ofString "_wall"), key := PySem.Value.str (PySem.Str.ofString "_wall") 193, val := PySem.Value.ref 21 }, { hash := PySem.PyData.keyHash P (PySem.Str.ofString "NotRelativePrimeError"), key := PySem.Value.str (PySem.Str.ofString "NotRelativePrimeError") 228, val := PySem.Value.ref 39 }, { hash := PySem.PyData.keyHash P (PySem.Str.ofString "bit_size"), key := PySem.Value.str (PySem.Str.ofString "bit_size") 235, val := PySem.Value.ref 49 }, { hash := PySem.PyData.keyHash P (PySem.Str.ofString "byte_size"), key := PySem.Value.str (PySem.Str.ofString "byte_size") 242, val := PySem.Value.ref 56 }, { hash := PySem.PyData.keyHash P (PySem.Str.ofString "ceil_div"), key := PySem.Value.str (PySem.Str.ofString "ceil_div") 252, val := PySem.Value.ref 63 }, { hash := PySem.PyData.keyHash P (PySem.Str.ofString "extended_gcd"), key := PySem.Value.str (PySem.Str.ofString "extended_gcd") 267, val := PySem.Value.ref 70 }, { hash := PySem.PyData.keyHash P (PySem.Str.ofString "inverse"), key := PySem.Value.str (PySem.Str.ofString "inverse") 278, val := PySem.Value.ref 77 }] 16 }
noncomputable def o78 : Params → Obj := fun P => { cls := PySem.Value.type "tuple", data := PySem.Data.seq #[] }
noncomputable def o79 : Params → Obj := fun P => { cls := PySem.Value.none, data := PySem.Data.fields #[] }
noncomputable def o80 : Params → Obj := fun P => { cls := PySem.Value.type "tuple", data := PySem.Data.seq #[PySem.Value.str (PySem.Str.ofString "var") 284, PySem.Value.str (PySem.Str.ofString "name") 285] }
noncomputable def o81 : Params → Obj := fun P => { cls := PySem.Value.type "tuple", data := PySem.Data.seq #[] }
noncomputable def o82 : Params → Obj := fun P => { cls := PySem.Value.none, data := PySem.Data.func { name := PySem.Str.ofString "assert_int", qualname := PySem.Str.ofString "assert_int", params := (fdA (nthS PP.main.body 9)), body := PySem.FuncBody.stmts (fdB (nthS PP.main.body 9)), scope := (fdS (nthS PP.main.body 9)), globals := 0, closure := [], defaults := PySem.Value.none, kwdefaults := PySem.Value.none } }
noncomputable def o83 : Params → Obj := fun P => { cls := PySem.Value.type "code", data := PySem.Data.fields #[PySem.Value.str (PySem.Str.ofString "assert_int") 281, PySem.Value.str (PySem.Str.ofString "assert_int") 282, PySem.Value.str (PySem.Str.ofString "/claim/cut.py") 283, PySem.Value.int 45 0, PySem.Value.int 2 0, PySem.Value.int 0 0, PySem.Value.int 0 0, PySem.Value.int 3 0, PySem.Value.ref 78, PySem.Value.bool Bool.true, PySem.Value.int 181 0, PySem.Value.ref 79, PySem.Value.none, PySem.Value.ref 80, PySem.Value.ref 81, PySem.Value.ref 82, PySem.Value.int 286 0, PySem.Value.int 45 0, PySem.Value.str (PySem.Str.ofString "/claim/cut.py") 287] }
noncomputable def o84 : Params → Obj := fun P => { cls := PySem.Value.type "function", data := PySem.Data.func { name := PySem.Str.ofString "assert_int", qualname := PySem.Str.ofString "assert_int", params := (fdA (nthS PP.main.body 9)), body := PySem.FuncBody.stmts (fdB (nthS PP.main.body 9)), scope := (fdS (nthS PP.main.body 9)), globals := 3, closure := [], defaults := PySem.Value.none, kwdefaults := PySem.Value.none, pyModule := PySem.Value.str (PySem.Str.ofString "rsa.core") 279, code := PySem.Value.ref 83 } }
noncomputable def o85 : Params → Obj := fun P => { cls := PySem.Value.type "tuple", data := PySem.Data.seq #[] }
noncomputable def o86 : Params → Obj := fun P => { cls := PySem.Value.none, data := PySem.Data.fields #[] }
noncomputable def o87 : Params → Obj := fun P => { cls := PySem.Value.type "tuple", data := PySem.Data.seq #[PySem.Value.str (PySem.Str.ofString "message") 292, PySem.Value.str (PySem.Str.ofString "ekey") 293, PySem.Value.str (PySem.Str.ofString "n") 294] }
noncomputable def o88 : Params → Obj := fun P => { cls := PySem.Value.type "tuple", data := PySem.Data.seq #[] }
noncomputable def o89 : Params → Obj := fun P => { cls := PySem.Value.none, data := PySem.Data.func { name := PySem.Str.ofString "encrypt_int", qualname := PySem.Str.ofString "encrypt_int", params := (fdA (nthS PP.main.body 10)), body := PySem.FuncBody.stmts (fdB (nthS PP.main.body 10)), scope := (fdS (nthS PP.main.body 10)), globals := 0, closure := [], defaults := PySem.Value.none, kwdefaults := PySem.Value.none } }
noncomputable def o90 : Params → Obj := fun P => { cls := PySem.Value.type "code", data := PySem.Data.fields #[PySem.Value.str (PySem.Str.ofString "encrypt_int") 289, PySem.Value.str (PySem.Str.ofString "encrypt_int") 290, PySem.Value.str (PySem.Str.ofString "/claim/cut.py") 291, PySem.Value.int 49 0, PySem.Value.int 3 0, PySem.Value.int 0 0, PySem.Value.int 0 0, PySem.Value.int 3 0, PySem.Value.ref 85, PySem.Value.bool Bool.true, PySem.Value.int 181 0, PySem.Value.ref 86, PySem.Value.none, PySem.Value.ref 87, PySem.Value.ref 88, PySem.Value.ref 89, PySem.Value.int 295 0, PySem.Value.int 49 0, PySem.Value.str (PySem.Str.ofString "/claim/cut.py") 296] }
noncomputable def o91 : Params → Obj := fun P => { cls := PySem.Value.type "function", data := PySem.Data.func { name := PySem.Str.ofString "encrypt_int", qualname := PySem.Str.ofString "encrypt_int", params := (fdA (nthS PP.main.body 10)), body := PySem.FuncBody.stmts (fdB (nthS PP.main.body 10)), scope := (fdS (nthS PP.main.body 10)), globals := 3, closure := [], defaults := PySem.Value.none, kwdefaults := PySem.Value.none, pyModule := PySem.Value.str (PySem.Str.ofString "rsa.core") 279, code := PySem.Value.ref 90 } }
noncomputable def o92 : Params → Obj := fun P => { cls := PySem.Value.type "tuple", data := PySem.Data.seq #[] }
noncomputable def o93 : Params → Obj := fun P => { cls := PySem.Value.none, data := PySem.Data.fields #[] }
noncomputable def o94 : Params → Obj := fun P => { cls := PySem.Value.type "tuple", data := PySem.Data.seq #[PySem.Value.str (PySem.Str.ofString "raw_bytes") 303] }
noncomputable def o95 : Params → Obj := fun P => { cls := PySem.Value.type "tuple", data := PySem.Data.seq #[] }
noncomputable def o96 : Params → Obj := fun P => { cls := PySem.Value.none, data := PySem.Data.func { name := PySem.Str.ofString "bytes2int", qualname := PySem.Str.ofString "bytes2int", params := (fdA (nthS PP.main.body 12)), body := PySem.FuncBody.stmts (fdB (nthS PP.main.body 12)), scope := (fdS (nthS PP.main.body 12)), globals := 0, closure := [], defaults := PySem.Value.none, kwdefaults := PySem.Value.none } }
noncomputable def o97 : Params → Obj := fun P => { cls := PySem.Value.type "code", data := PySem.Data.fields #[PySem.Value.str (PySem.Str.ofString "bytes2int") 300, PySem.Value.str (PySem.Str.ofString "bytes2int") 301, PySem.Value.str (PySem.Str.ofString "/claim/cut.py") 302, PySem.Value.int 59 0, PySem.Value.int 1 0, PySem.Value.int 0 0, PySem.Value.int 0 0, PySem.Value.int 3 0, PySem.Value.ref 92, PySem.Value.bool Bool.true, PySem.Value.int 181 0, PySem.Value.ref 93, PySem.Value.none, PySem.Value.ref 94, PySem.Value.ref 95, PySem.Value.ref 96, PySem.Value.int 304 0, PySem.Value.int 59 0, PySem.Value.str (PySem.Str.ofString "/claim/cut.py") 305] }
noncomputable def o98 : Params → Obj := fun P => { cls := PySem.Value.type "function", data := PySem.Data.func { name := PySem.Str.ofString "bytes2int", qualname := PySem.Str.ofString "bytes2int", params := (fdA (nthS PP.main.body 12)), body := PySem.FuncBody.stmts (fdB (nthS PP.main.body 12)), scope := (fdS (nthS PP.main.body 12)), globals := 3, closure := [], defaults := PySem.Value.none, kwdefaults := PySem.Value.none, pyModule := PySem.Value.str (PySem.Str.ofString "rsa.transform") 298, code := PySem.Value.ref 97 } }
noncomputable def o99 : Params → Obj := fun P => { cls := PySem.Value.type "tuple", data := PySem.Data.seq #[PySem.Value.int 0 307] }
noncomputable def o100 : Params → Obj := fun P => { cls := PySem.Value.type "tuple", data := PySem.Data.seq #[] }
noncomputable def o101 : Params → Obj := fun P => { cls := PySem.Value.none, data := PySem.Data.fields #[] }
noncomputable def o102 : Params → Obj := fun P => { cls := PySem.Value.type "tuple", data := PySem.Data.seq #[PySem.Value.str (PySem.Str.ofString "number") 311, PySem.Value.str (PySem.Str.ofString "fill_size") 312, PySem.Value.str (PySem.Str.ofString "bytes_required") 313] }
noncomputable def o103 : Params → Obj := fun P => { cls := PySem.Value.type "tuple", data := PySem.Data.seq #[] }
noncomputable def o104 : Params → Obj := fun P => { cls := PySem.Value.none, data := PySem.Data.func { name := PySem.Str.ofString "int2bytes", qualname := PySem.Str.ofString "int2bytes", params := (fdA (nthS PP.main.body 13)), body := PySem.FuncBody.stmts (fdB (nthS PP.main.body 13)), scope := (fdS (nthS PP.main.body 13)), globals := 0, closure := [], defaults := PySem.Value.none, kwdefaults := PySem.Value.none } }
noncomputable def o105 : Params → Obj := fun P => { cls := PySem.Value.type "code", data := PySem.Data.fields #[PySem.Value.str (PySem.Str.ofString "int2bytes") 308, PySem.Value.str (PySem.Str.ofString "int2bytes") 309, PySem.Value.str (PySem.Str.ofString "/claim/cut.py") 310, PySem.Value.int 61 0, PySem.Value.int 2 0, PySem.Value.int 0 0, PySem.Value.int 0 0, PySem.Value.int 3 0, PySem.Value.ref 100, PySem.Value.bool Bool.true, PySem.Value.int 181 0, PySem.Value.ref 101, PySem.Value.none, PySem.Value.ref 102, PySem.Value.ref 103, PySem.Value.ref 104, PySem.Value.int 314 0, PySem.Value.int 61 0, PySem.Value.str (PySem.Str.ofString "/claim/cut.py") 315] }
noncomputable def o106 : Params → Obj := fun P => { cls := PySem.Value.type "function", data := PySem.Data.func { name := PySem.Str.ofString "int2bytes", qualname := PySem.Str.ofString "int2bytes", params := (fdA (nthS PP.main.body 13)), body := PySem.FuncBody.stmts (fdB (nthS PP.main.body 13)), scope := (fdS (nthS PP.main.body 13)), globals := 3, closure := [], defaults := PySem.Value.ref 99, kwdefaults := PySem.Value.none, pyModule := PySem.Value.str (PySem.Str.ofString "rsa.transform") 298, code := PySem.Value.ref 105 } }
noncomputable def o107 : Params → Obj := fun P => { cls := PySem.Value.type "dict", data := PySem.Data.dict #[{ hash := PySem.PyData.keyHash P (PySem.Str.ofString "MD5"), key := PySem.Value.str (PySem.Str.ofString "MD5") 319, val := PySem.Value.bytes #[48, 32, 48, 12, 6, 8, 42, 134, 72, 134, 247, 13, 2, 5, 5, 0, 4, 16] 320 }, { hash := PySem.PyData.keyHash P (PySem.Str.ofString "SHA-1"), key := PySem.Value.str (PySem.Str.ofString "SHA-1") 321, val := PySem.Value.bytes #[48, 33, 48, 9, 6, 5, 43, 14, 3, 2, 26, 5, 0, 4, 20] 322 }, { hash := PySem.PyData.keyHash P (PySem.Str.ofString "SHA-224"), key := PySem.Value.str (PySem.Str.ofString "SHA-224") 323, val := PySem.Value.bytes #[48, 45, 48, 13, 6, 9, 96, 134, 72, 1, 101, 3, 4, 2, 4, 5, 0, 4, 28] 324 }, { hash := PySem.PyData.keyHash P (PySem.Str.ofString "SHA-256"), key := PySem.Value.str (PySem.Str.ofString "SHA-256") 325, val := PySem.Value.bytes #[48, 49, 48, 13, 6, 9, 96, 134, 72, 1, 101, 3, 4, 2, 1, 5, 0, 4, 32] 326 }, { hash := PySem.PyData.keyHash P (PySem.Str.ofString "SHA-384"), key := PySem.Value.str (PySem.Str.ofString "SHA-384") 327, val := PySem.Value.bytes #[48, 65, 48, 13, 6, 9, 96, 134, 72, 1, 101, 3, 4, 2, 2, 5, 0, 4, 48] 328 }, { hash := PySem.PyData.keyHash P (PySem.Str.ofString "SHA-512"), key := PySem.Value.str (PySem.Str.ofString "SHA-512") 329, val := PySem.Value.bytes #[48, 81, 48, 13, 6, 9, 96, 134, 72, 1, 101, 3, 4, 2, 3, 5, 0, 4, 64] 330 }, { hash := PySem.PyData.keyHash P (PySem.Str.ofString "SHA3-256"), key := PySem.Value.str (PySem.Str.ofString "SHA3-256") 331, val := PySem.Value.bytes #[48, 49, 48, 13, 6, 9, 96, 134, 72, 1, 101, 3, 4, 2, 8, 5, 0, 4, 32] 332 }, { hash := PySem.PyData.keyHash P (PySem.Str.ofString "SHA3-384"), key := PySem.Value.str (PySem.Str.ofString "SHA3-384") 333, val := PySem.Value.bytes #[48, 65, 48, 13, 6, 9, 96, 134, 72, 1, 101, 3, 4, 2, 9, 5, 0, 4, 48] 334 }, { hash := PySem.PyData.keyHash P (PySem.Str.ofString "SHA3-512"), key := PySem.Value.str (PySem.Str.ofString "SHA3-512") 335, val := PySem.Value.bytes #[48, 81, 48, 13, 6, 9, 96, 134, 72, 1, 101, 3, 4, 2, 10, 5, 0, 4, 64] 336 }] 9 }
noncomputable def o108 : Params → Obj := fun P => { cls := PySem.Value.type "tuple", data := PySem.Data.seq #[] }
noncomputable def o109 : Params → Obj := fun P => { cls := PySem.Value.none, data := PySem.Data.fields #[] }
noncomputable def o110 : Params → Obj := fun P => { cls := PySem.Value.type "tuple", data := PySem.Data.seq #[PySem.Value.str (PySem.Str.ofString "message") 350, PySem.Value.str (PySem.Str.ofString "target_length") 351, PySem.Value.str (PySem.Str.ofString "max_msglength") 352, PySem.Value.str (PySem.Str.ofString "msglength") 353, PySem.Value.str (PySem.Str.ofString "padding_length") 354] }
noncomputable def o111 : Params → Obj := fun P => { cls := PySem.Value.type "tuple", data := PySem.Data.seq #[] }
noncomputable def o112 : Params → Obj := fun P => { cls := PySem.Value.none, data := PySem.Data.func { name := PySem.Str.ofString "_pad_for_signing", qualname := PySem.Str.ofString "_pad_for_signing", params := (fdA (nthS PP.main.body 16)), body := PySem.FuncBody.stmts (fdB (nthS PP.main.body 16)), scope := (fdS (nthS PP.main.body 16)), globals := 0, closure := [], defaults := PySem.Value.none, kwdefaults := PySem.Value.none } }
noncomputable def o113 : Params → Obj := fun P => { cls := PySem.Value.type "code", data := PySem.Data.fields #[PySem.Value.str (PySem.Str.ofString "_pad_for_signing") 347, PySem.Value.str (PySem.Str.ofString "_pad_for_signing") 348, PySem.Value.str (PySem.Str.ofString "/claim/cut.py") 349, PySem.Value.int 70 0, PySem.Value.int 2 0, PySem.Value.int 0 0, PySem.Value.int 0 0, PySem.Value.int 3 0, PySem.Value.ref 108, PySem.Value.bool Bool.true, PySem.Value.int 181 0, PySem.Value.ref 109, PySem.Value.none, PySem.Value.ref 110, PySem.Value.ref 111, PySem.Value.ref 112, PySem.Value.int 355 0, PySem.Value.int 70 0, PySem.Value.str (PySem.Str.ofString "/claim/cut.py") 356] }
noncomputable def o114 : Params → Obj := fun P => { cls := PySem.Value.type "function", data := PySem.Data.func { name := PySem.Str.ofString "_pad_for_signing", qualname := PySem.Str.ofString "_pad_for_signing", params := (fdA (nthS PP.main.body 16)), body := PySem.FuncBody.stmts (fdB (nthS PP.main.body 16)), scope := (fdS (nthS PP.main.body 16)), globals := 3, closure := [], defaults := PySem.Value.none, kwdefaults := PySem.Value.none, pyModule := PySem.Value.str (PySem.Str.ofString "rsa.pkcs1") 317, code := PySem.Value.ref 113 } }
noncomputable def o115 : Params → Obj := fun P => { cls := PySem.Value.type "tuple", data := PySem.Data.seq #[] }
noncomputable def o116 : Params → Obj := fun P => { cls := PySem.Value.none, data := PySem.Data.fields #[] }
noncomputable def o117 : Params → Obj := fun P => { cls := PySem.Value.type "tuple", data := PySem.Data.seq #[PySem.Value.str (PySem.Str.ofString "hash_value") 361, PySem.Value.str (PySem.Str.ofString "priv_key") 362, PySem.Value.str (PySem.Str.ofString "hash_method") 363, PySem.Value.str (PySem.Str.ofString "asn1code") 364, PySem.Value.str (PySem.Str.ofString "cleartext") 365, PySem.Value.str (PySem.Str.ofString "keylength") 366, PySem.Value.str (PySem.Str.ofString "padded") 367, PySem.Value.str (PySem.Str.ofString "payload") 368, PySem.Value.str (PySem.Str.ofString "encrypted") 369, PySem.Value.str (PySem.Str.ofString "block") 370] }
noncomputable def o118 : Params → Obj := fun P => { cls := PySem.Value.type "tuple", data := PySem.Data.seq #[] }
noncomputable def o119 : Params → Obj := fun P => { cls := PySem.Value.none, data := PySem.Data.func { name := PySem.Str.ofString "sign_hash", qualname := PySem.Str.ofString "sign_hash", params := (fdA (nthS PP.main.body 17)), body := PySem.FuncBody.stmts (fdB (nthS PP.main.body 17)), scope := (fdS (nthS PP.main.body 17)), globals := 0, closure := [], defaults := PySem.Value.none, kwdefaults := PySem.Value.none } }
noncomputable def o120 : Params → Obj := fun P => { cls := PySem.Value.type "code", data := PySem.Data.fields #[PySem.Value.str (PySem.Str.ofString "sign_hash") 358, PySem.Value.str (PySem.Str.ofString "sign_hash") 359, PySem.Value.str (PySem.Str.ofString "/claim/cut.py") 360, PySem.Value.int 77 0, PySem.Value.int 3 0, PySem.Value.int 0 0, PySem.Value.int 0 0, PySem.Value.int 3 0, PySem.Value.ref 115, PySem.Value.bool Bool.true, PySem.Value.int 181 0, PySem.Value.ref 116, PySem.Value.none, PySem.Value.ref 117, PySem.Value.ref 118, PySem.Value.ref 119, PySem.Value.int 371 0, PySem.Value.int 77 0, PySem.Value.str (PySem.Str.ofString "/claim/cut.py") 372] }
noncomputable def o121 : Params → Obj := fun P => { cls := PySem.Value.type "function", data := PySem.Data.func { name := PySem.Str.ofString "sign_hash", qualname := PySem.Str.ofString "sign_hash", params := (fdA (nthS PP.main.body 17)), body := PySem.FuncBody.stmts (fdB (nthS PP.main.body 17)), scope := (fdS (nthS PP.main.body 17)), globals := 3, closure := [], defaults := PySem.Value.none, kwdefaults := PySem.Value.none, pyModule := PySem.Value.str (PySem.Str.ofString "rsa.pkcs1") 317, code := PySem.Value.ref 120 } }
noncomputable def o122 : Params → Obj := fun P => { cls := PySem.Value.type "tuple", data := PySem.Data.seq #[] }
noncomputable def o123 : Params → Obj := fun P => { cls := PySem.Value.none, data := PySem.Data.fields #[] }
noncomputable def o124 : Params → Obj := fun P => { cls := PySem.Value.type "tuple", data := PySem.Data.seq #[PySem.Value.str (PySem.Str.ofString "p") 379, PySem.Value.str (PySem.Str.ofString "q") 380] }
noncomputable def o125 : Params → Obj := fun P => { cls := PySem.Value.type "tuple", data := PySem.Data.seq #[] }
noncomputable def o126 : Params → Obj := fun P => { cls := PySem.Value.none, data := PySem.Data.func { name := PySem.Str.ofString "gcd", qualname := PySem.Str.ofString "gcd", params := (fdA (nthS PP.main.body 19)), body := PySem.FuncBody.stmts (fdB (nthS PP.main.body 19)), scope := (fdS (nthS PP.main.body 19)), globals := 0, closure := [], defaults := PySem.Value.none, kwdefaults := PySem.Value.none } }
noncomputable def o127 : Params → Obj := fun P => { cls := PySem.Value.type "code", data := PySem.Data.fields #[PySem.Value.str (PySem.Str.ofString "gcd") 376, PySem.Value.str (PySem.Str.ofString "gcd") 377, PySem.Value.str (PySem.Str.ofString "/claim/cut.py") 378, PySem.Value.int 89 0, PySem.Value.int 2 0, PySem.Value.int 0 0, PySem.Value.int 0 0, PySem.Value.int 3 0, PySem.Value.ref 122, PySem.Value.bool Bool.true, PySem.Value.int 181 0, PySem.Value.ref 123, PySem.Value.none, PySem.Value.ref 124, PySem.Value.ref 125, PySem.Value.ref 126, PySem.Value.int 381 0, PySem.Value.int 89 0, PySem.Value.str (PySem.Str.ofString "/claim/cut.py") 382] }
noncomputable def o128 : Params → Obj := fun P => { cls := PySem.Value.type "function", data := PySem.Data.func { name := PySem.Str.ofString "gcd", qualname := PySem.Str.ofString "gcd", params := (fdA (nthS PP.main.body 19)), body := PySem.FuncBody.stmts (fdB (nthS PP.main.body 19)), scope := (fdS (nthS PP.main.body 19)), globals := 3, closure := [], defaults := PySem.Value.none, kwdefaults := PySem.Value.none, pyModule := PySem.Value.str (PySem.Str.ofString "rsa.prime") 374, code := PySem.Value.ref 127 } }
noncomputable def o12p20 : Params → Obj := fun P => { cls := PySem.Value.none, data := PySem.Data.fields #[PySem.Value.int 1 0, PySem.Value.int 0 0, PySem.Value.ref 20, PySem.Value.int 5 0, PySem.Value.int 0 0, PySem.Value.ref 27, PySem.Value.int 11 0, PySem.Value.int 0 0, PySem.Value.ref 48, PySem.Value.int 13 0, PySem.Value.int 0 0, PySem.Value.ref 55, PySem.Value.int 17 0, PySem.Value.int 0 0, PySem.Value.ref 62, PySem.Value.int 22 0, PySem.Value.int 0 0, PySem.Value.ref 69, PySem.Value.int 39 0, PySem.Value.int 0 0, PySem.Value.ref 76, PySem.Value.int 45 0, PySem.Value.int 0 0, PySem.Value.ref 83, PySem.Value.int 49 0, PySem.Value.int 0 0, PySem.Value.ref 90, PySem.Value.int 59 0, PySem.Value.int 0 0, PySem.Value.ref 97, PySem.Value.int 61 0, PySem.Value.int 0 0, PySem.Value.ref 105, PySem.Value.int 70 0, PySem.Value.int 0 0, PySem.Value.ref 113, PySem.Value.int 77 0, PySem.Value.int 0 0, PySem.Value.ref 120, PySem.Value.int 89 0, PySem.Value.int 0 0, PySem.Value.ref 127, PySem.Value.int 93 0, PySem.Value.int 0 0, PySem.Value.ref 134] }
noncomputable def o129 : Params → Obj := fun P => { cls := PySem.Value.type "tuple", data := PySem.Data.seq #[] }
noncomputable def o130 : Params → Obj := fun P => { cls := PySem.Value.none, data := PySem.Data.fields #[] }
noncomputable def o131 : Params → Obj := fun P => { cls := PySem.Value.type "tuple", data := PySem.Data.seq #[PySem.Value.str (PySem.Str.ofString "a") 387, PySem.Value.str (PySem.Str.ofString "b") 388, PySem.Value.str (PySem.Str.ofString "d") 389] }
noncomputable def o132 : Params → Obj := fun P => { cls := PySem.Value.type "tuple", data := PySem.Data.seq #[] }
noncomputable def o133 : Params → Obj := fun P => { cls := PySem.Value.none, data := PySem.Data.func { name := PySem.Str.ofString "are_relatively_prime", qualname := PySem.Str.ofString "are_relatively_prime", params := (fdA (nthS PP.main.body 20)), body := PySem.FuncBody.stmts (fdB (nthS PP.main.body 20)), scope := (fdS (nthS PP.main.body 20)), globals := 0, closure := [], defaults := PySem.Value.none, kwdefaults := PySem.Value.none } }
noncomputable def o134 : Params → Obj := fun P => { cls := PySem.Value.type "code", data := PySem.Data.fields #[PySem.Value.str (PySem.Str.ofString "are_relatively_prime") 384, PySem.Value.str (PySem.Str.ofString "are_relatively_prime") 385, PySem.Value.str (PySem.Str.ofString "/claim/cut.py") 386, PySem.Value.int 93 0, PySem.Value.int 2 0, PySem.Value.int 0 0, PySem.Value.int 0 0, PySem.Value.int 3 0, PySem.Value.ref 129, PySem.Value.bool Bool.true, PySem.Value.int 181 0, PySem.Value.ref 130, PySem.Value.none, PySem.Value.ref 131, PySem.Value.ref 132, PySem.Value.ref 133, PySem.Value.int 390 0, PySem.Value.int 93 0, PySem.Value.str (PySem.Str.ofString "/claim/cut.py") 391] }
noncomputable def o135 : Params → Obj := fun P => { cls := PySem.Value.type "function", data := PySem.Data.func { name := PySem.Str.ofString "are_relatively_prime", qualname := PySem.Str.ofString "are_relatively_prime", params := (fdA (nthS PP.main.body 20)), body := PySem.FuncBody.stmts (fdB (nthS PP.main.body 20)), scope := (fdS (nthS PP.main.body 20)), globals := 3, closure := [], defaults := PySem.Value.none, kwdefaults := PySem.Value.none, pyModule := PySem.Value.str (PySem.Str.ofString "rsa.prime") 374, code := PySem.Value.ref 134 } }
noncomputable def o3p21 : Params → Obj := fun P => { cls := PySem.Value.type "dict", data := PySem.Data.dict #[{ hash := PySem.PyData.keyHash P (PySem.Str.ofString "__name__"), key := PySem.Value.str (PySem.Str.ofString "__name__") 165, val := PySem.Value.str (PySem.Str.ofString "rsa.key") 393 }, { hash := PySem.PyData.keyHash P (PySem.Str.ofString "__doc__"), key := PySem.Value.str (PySem.Str.ofString "__doc__") 166, val := PySem.Value.none }, { hash := PySem.PyData.keyHash P (PySem.Str.ofString "__package__"), key := PySem.Value.str (PySem.Str.ofString "__package__") 167, val := PySem.Value.none }, { hash := PySem.PyData.keyHash P (PySem.Str.ofString "__loader__"), key := PySem.Value.str (PySem.Str.ofString "__loader__") 168, val := PySem.Value.builtin "__main__.__loader__#opaque" }, { hash := PySem.PyData.keyHash P (PySem.Str.ofString "__spec__"), key := PySem.Value.str (PySem.Str.ofString "__spec__") 169, val := PySem.Value.none }, { hash := PySem.PyData.keyHash P (PySem.Str.ofString "__annotations__"), key := PySem.Value.str (PySem.Str.ofString "__annotations__") 170, val := PySem.Value.ref 6 }, { hash := PySem.PyData.keyHash P (PySem.Str.ofString "__builtins__"), key := PySem.Value.str (PySem.Str.ofString "__builtins__") 171, val := PySem.Value.ref 4 }, { hash := PySem.PyData.keyHash P (PySem.Str.ofString "__file__"), key := PySem.Value.str (PySem.Str.ofString "__file__") 173, val := PySem.Value.str (PySem.Str.ofString "/claim/cut.py") 172 }, { hash := PySem.PyData.keyHash P (PySem.Str.ofString "__cached__"), key := PySem.Value.str (PySem.Str.ofString "__cached__") 174, val := PySem.Value.none }, { hash := PySem.PyData.keyHash P (PySem.Str.ofString "_wall"), key := PySem.Value.str (PySem.Str.ofString "_wall") 193, val := PySem.Value.ref 21 }, { hash := PySem.PyData.keyHash P (PySem.Str.ofString "NotRelativePrimeError"), key := PySem.Value.str (PySem.Str.ofString "NotRelativePrimeError") 228, val := PySem.Value.ref 39 }, { hash := PySem.PyData.keyHash P (PySem.Str.ofString "bit_size"), key := PySem.Value.str (PySem.Str.ofString "bit_size") 235, val := PySem.Value.ref 49 }, { hash := PySem.PyData.keyHash P (PySem.Str.ofString "byte_size"), key := PySem.Value.str (PySem.Str.ofString "byte_size") 242, val := PySem.Value.ref 56 }, { hash := PySem.PyData.keyHash P (PySem.Str.ofString "ceil_div"), key := PySem.Value.str (PySem.Str.ofString "ceil_div") 252, val := PySem.Value.ref 63 }, { hash := PySem.PyData.keyHash P (PySem.Str.ofString "extended_gcd"), key := PySem.Value.str (PySem.Str.ofString "extended_gcd") 267, val := PySem.Value.ref 70 }, { hash := PySem.PyData.keyHash P (PySem.Str.ofString "inverse"), key := PySem.Value.str (PySem.Str.ofString "inverse") 278, val := PySem.Value.ref 77 }, { hash := PySem.PyData.keyHash P (PySem.Str.ofString "assert_int"), key := PySem.Value.str (PySem.Str.ofString "assert_int") 288, val := PySem.Value.ref 84 }, { hash := PySem.PyData.keyHash P (PySem.Str.ofString "encrypt_int"), key := PySem.Value.str (PySem.Str.ofString "encrypt_int") 297, val := PySem.Value.ref 91 }, { hash := PySem.PyData.keyHash P (PySem.Str.ofString "bytes2int"), key := PySem.Value.str (PySem.Str.ofString "bytes2int") 306, val := PySem.Value.ref 98 }, { hash := PySem.PyData.keyHash P (PySem.Str.ofString "int2bytes"), key := PySem.Value.str (PySem.Str.ofString "int2bytes") 316, val := PySem.Value.ref 106 }, { hash := PySem.PyData.keyHash P (PySem.Str.ofString "HASH_ASN1"), key := PySem.Value.str (PySem.Str.ofString "HASH_ASN1") 346, val := PySem.Value.ref 107 }, { hash := PySem.PyData.keyHash P (PySem.Str.ofString "_pad_for_signing"), key := PySem.Value.str (PySem.Str.ofString "_pad_for_signing") 357, val := PySem.Value.ref 114 }, { hash := PySem.PyData.keyHash P (PySem.Str.ofString "sign_hash"), key := PySem.Value.str (PySem.Str.ofString "sign_hash") 373, val := PySem.Value.ref 121 }, { hash := PySem.PyData.keyHash P (PySem.Str.ofString "gcd"), key := PySem.Value.str (PySem.Str.ofString "gcd") 383, val := PySem.Value.ref 128 }, { hash := PySem.PyData.keyHash P (PySem.Str.ofString "are_relatively_prime"), key := PySem.Value.str (PySem.Str.ofString "are_relatively_prime") 392, val := PySem.Value.ref 135 }] 25 }
noncomputable def o3p22 : Params → Obj := fun P => { cls := PySem.Value.type "dict", data := PySem.Data.dict #[{ hash := PySem.PyData.keyHash P (PySem.Str.ofString "__name__"), key := PySem.Value.str (PySem.Str.ofString "__name__") 165, val := PySem.Value.str (PySem.Str.ofString "rsa.key") 393 }, { hash := PySem.PyData.keyHash P (PySem.Str.ofString "__doc__"), key := PySem.Value.str (PySem.Str.ofString "__doc__") 166, val := PySem.Value.none }, { hash := PySem.PyData.keyHash P (PySem.Str.ofString "__package__"), key := PySem.Value.str (PySem.Str.ofString "__package__") 167, val := PySem.Value.none }, { hash := PySem.PyData.keyHash P (PySem.Str.ofString "__loader__"), key := PySem.Value.str (PySem.Str.ofString "__loader__") 168, val := PySem.Value.builtin "__main__.__loader__#opaque" }, { hash := PySem.PyData.keyHash P (PySem.Str.ofString "__spec__"), key := PySem.Value.str (PySem.Str.ofString "__spec__") 169, val := PySem.Value.none }, { hash := PySem.PyData.keyHash P (PySem.Str.ofString "__annotations__"), key := PySem.Value.str (PySem.Str.ofString "__annotations__") 170, val := PySem.Value.ref 6 }, { hash := PySem.PyData.keyHash P (PySem.Str.ofString "__builtins__"), key := PySem.Value.str (PySem.Str.ofString "__builtins__") 171, val := PySem.Value.ref 4 }, { hash := PySem.PyData.keyHash P (PySem.Str.ofString "__file__"), key := PySem.Value.str (PySem.Str.ofString "__file__") 173, val := PySem.Value.str (PySem.Str.ofString "/claim/cut.py") 172 }, { hash := PySem.PyData.keyHash P (PySem.Str.ofString "__cached__"), key := PySem.Value.str (PySem.Str.ofString "__cached__") 174, val := PySem.Value.none }, { hash := PySem.PyData.keyHash P (PySem.Str.ofString "_wall"), key := PySem.Value.str (PySem.Str.ofString "_wall") 193, val := PySem.Value.ref 21 }, { hash := PySem.PyData.keyHash P (PySem.Str.ofString "NotRelativePrimeError"), key := PySem.Value.str (PySem.Str.ofString "NotRelativePrimeError") 228, val := PySem.Value.ref 39 }, { hash := PySem.PyData.keyHash P (PySem.Str.ofString "bit_size"), key := PySem.Value.str (PySem.Str.ofString "bit_size") 235, val := PySem.Value.ref 49 }, { hash := PySem.PyData.keyHash P (PySem.Str.ofString "byte_size"), key := PySem.Value.str (PySem.Str.ofString "byte_size") 242, val := PySem.Value.ref 56 }, { hash := PySem.PyData.keyHash P (PySem.Str.ofString "ceil_div"), key := PySem.Value.str (PySem.Str.ofString "ceil_div") 252, val := PySem.Value.ref 63 }, { hash := PySem.PyData.keyHash P (PySem.Str.ofString "extended_gcd"), key := PySem.Value.str (PySem.Str.ofString "extended_gcd") 267, val := PySem.Value.ref 70 }, { hash := PySem.PyData.keyHash P (PySem.Str.ofString "inverse"), key := PySem.Value.str (PySem.Str.ofString "inverse") 278, val := PySem.Value.ref 77 }, { hash := PySem.PyData.keyHash P (PySem.Str.ofString "assert_int"), key := PySem.Value.str (PySem.Str.ofString "assert_int") 288, val := PySem.Value.ref 84 }, { hash := PySem.PyData.keyHash P (PySem.Str.ofString "encrypt_int"), key := PySem.Value.str (PySem.Str.ofString "encrypt_int") 297, val := PySem.Value.ref 91 }, { hash := PySem.PyData.keyHash P (PySem.Str.ofString "bytes2int"), key := PySem.Value.str (PySem.Str.ofString "bytes2int") 306, val := PySem.Value.ref 98 }, { hash := PySem.PyData.keyHash P (PySem.Str.ofString "int2bytes"), key := PySem.Value.str (PySem.Str.ofString "int2bytes") 316, val := PySem.Value.ref 106 }, { hash := PySem.PyData.keyHash P (PySem.Str.ofString "HASH_ASN1"), key := PySem.Value.str (PySem.Str.ofString "HASH_ASN1") 346, val := PySem.Value.ref 107 }, { hash := PySem.PyData.keyHash P (PySem.Str.ofString "_pad_for_signing"), key := PySem.Value.str (PySem.Str.ofString "_pad_for_signing") 357, val := PySem.Value.ref 114 }, { hash := PySem.PyData.keyHash P (PySem.Str.ofString "sign_hash"), key := PySem.Value.str (PySem.Str.ofString "sign_hash") 373, val := PySem.Value.ref 121 }, { hash := PySem.PyData.keyHash P (PySem.Str.ofString "gcd"), key := PySem.Value.str (PySem.Str.ofString "gcd") 383, val := PySem.Value.ref 128 }, { hash := PySem.PyData.keyHash P (PySem.Str.ofString "are_relatively_prime"), key := PySem.Value.str (PySem.Str.ofString "are_relatively_prime") 392, val := PySem.Value.ref 135 }, { hash := PySem.PyData.keyHash P (PySem.Str.ofString "AbstractKey"), key := PySem.Value.str (PySem.Str.ofString "AbstractKey") 462, val := PySem.Value.ref 180 }] 26 }
noncomputable def o12p22 : Params → Obj := fun P => { cls := PySem.Value.none, data := PySem.Data.fields #[PySem.Value.int 1 0, PySem.Value.int 0 0, PySem.Value.ref 20, PySem.Value.int 5 0, PySem.Value.int 0 0, PySem.Value.ref 27, PySem.Value.int 11 0, PySem.Value.int 0 0, PySem.Value.ref 48, PySem.Value.int 13 0, PySem.Value.int 0 0, PySem.Value.ref 55, PySem.Value.int 17 0, PySem.Value.int 0 0, PySem.Value.ref 62, PySem.Value.int 22 0, PySem.Value.int 0 0, PySem.Value.ref 69, PySem.Value.int 39 0, PySem.Value.int 0 0, PySem.Value.ref 76, PySem.Value.int 45 0, PySem.Value.int 0 0, PySem.Value.ref 83, PySem.Value.int 49 0, PySem.Value.int 0 0, PySem.Value.ref 90, PySem.Value.int 59 0, PySem.Value.int 0 0, PySem.Value.ref 97, PySem.Value.int 61 0, PySem.Value.int 0 0, PySem.Value.ref 105, PySem.Value.int 70 0, PySem.Value.int 0 0, PySem.Value.ref 113, PySem.Value.int 77 0, PySem.Value.int 0 0, PySem.Value.ref 120, PySem.Value.int 89 0, PySem.Value.int 0 0, PySem.Value.ref 127, PySem.Value.int 93 0, PySem.Value.int 0 0, PySem.Value.ref 134, PySem.Value.int 97 0, PySem.Value.int 0 0, PySem.Value.ref 141] }
noncomputable def o136 : Params → Obj := fun P => { cls := PySem.Value.type "tuple", data := PySem.Data.seq #[] }
noncomputable def o137 : Params → Obj := fun P => { cls := PySem.Value.type "builtin_function_or_method", data := PySem.Data.fields #[PySem.Value.builtin "type.__prepare__", PySem.Value.type "type"] }
noncomputable def o138 : Params → Obj := fun P => { cls := PySem.Value.type "dict", data := PySem.Data.dict #[{ hash := PySem.PyData.keyHash P (PySem.Str.ofString "__module__"), key := PySem.Value.str (PySem.Str.ofString "__module__") 402, val := PySem.Value.str (PySem.Str.ofString "rsa.key") 393 }, { hash := PySem.PyData.keyHash P (PySem.Str.ofString "__qualname__"), key := PySem.Value.str (PySem.Str.ofString "__qualname__") 404, val := PySem.Value.str (PySem.Str.ofString "AbstractKey") 403 }, { hash := PySem.PyData.keyHash P (PySem.Str.ofString "__firstlineno__"), key := PySem.Value.str (PySem.Str.ofString "__firstlineno__") 406, val := PySem.Value.int 97 405 }, { hash := PySem.PyData.keyHash P (PySem.Str.ofString "__init__"), key := PySem.Value.str (PySem.Str.ofString "__init__") 415, val := PySem.Value.ref 149 }, { hash := PySem.PyData.keyHash P (PySem.Str.ofString "blind"), key := PySem.Value.str (PySem.Str.ofString "blind") 426, val := PySem.Value.ref 156 }, { hash := PySem.PyData.keyHash P (PySem.Str.ofString "unblind"), key := PySem.Value.str (PySem.Str.ofString "unblind") 435, val := PySem.Value.ref 163 }, { hash := PySem.PyData.keyHash P (PySem.Str.ofString "_initial_blinding_factor"), key := PySem.Value.str (PySem.Str.ofString "_initial_blinding_factor") 443, val := PySem.Value.ref 170 }, { hash := PySem.PyData.keyHash P (PySem.Str.ofString "_update_blinding_factor"), key := PySem.Value.str (PySem.Str.ofString "_update_blinding_factor") 450, val := PySem.Value.ref 177 }, { hash := PySem.PyData.keyHash P (PySem.Str.ofString "__static_attributes__"), key := PySem.Value.str (PySem.Str.ofString "__static_attributes__") 455, val := PySem.Value.ref 178 }] 9 }
noncomputable def o139 : Params → Obj := fun P => { cls := PySem.Value.type "tuple", data := PySem.Data.seq #[] }
noncomputable def o140 : Params → Obj := fun P => { cls := PySem.Value.none, data := PySem.Data.fields #[PySem.Value.int 99 0, PySem.Value.int 4 0, PySem.Value.ref 148, PySem.Value.int 104 0, PySem.Value.int 4 0, PySem.Value.ref 155, PySem.Value.int 109 0, PySem.Value.int 4 0, PySem.Value.ref 162, PySem.Value.int 112 0, PySem.Value.int 4 0, PySem.Value.ref 169, PySem.Value.int 118 0, PySem.Value.int 4 0, PySem.Value.ref 176] }
noncomputable def o141 : Params → Obj := fun P => { cls := PySem.Value.type "code", data := PySem.Data.fields #[PySem.Value.str (PySem.Str.ofString "AbstractKey") 397, PySem.Value.str (PySem.Str.ofString "AbstractKey") 398, PySem.Value.str (PySem.Str.ofString "/claim/cut.py") 399, PySem.Value.int 97 0, PySem.Value.int 0 0, PySem.Value.int 0 0, PySem.Value.int 0 0, PySem.Value.int 0 0, PySem.Value.ref 139, PySem.Value.bool Bool.false, PySem.Value.int 181 0, PySem.Value.ref 140, PySem.Value.none, PySem.Value.none, PySem.Value.none, PySem.Value.none, PySem.Value.int 400 0, PySem.Value.int 97 0, PySem.Value.str (PySem.Str.ofString "/claim/cut.py") 401] }
noncomputable def o142 : Params → Obj := fun P => { cls := PySem.Value.type "frame", slots := #[Option.some (PySem.Value.ref 141), Option.some (PySem.Value.ref 3), Option.some (PySem.Value.ref 138), Option.none, Option.some (PySem.Value.str (PySem.Str.ofString "rsa.key") 393), Option.none, Option.some (PySem.Value.ref 0)] }
noncomputable def o143 : Params → Obj := fun P => { cls := PySem.Value.type "tuple", data := PySem.Data.seq #[] }
noncomputable def o144 : Params → Obj := fun P => { cls := PySem.Value.none, data := PySem.Data.fields #[] }
noncomputable def o145 : Params → Obj := fun P => { cls := PySem.Value.type "tuple", data := PySem.Data.seq #[PySem.Value.str (PySem.Str.ofString "self") 410, PySem.Value.str (PySem.Str.ofString "n") 411, PySem.Value.str (PySem.Str.ofString "e") 412] }
noncomputable def o146 : Params → Obj := fun P => { cls := PySem.Value.type "tuple", data := PySem.Data.seq #[] }
noncomputable def o147 : Params → Obj := fun P => { cls := PySem.Value.none, data := PySem.Data.func { name := PySem.Str.ofString "__init__", qualname := PySem.Str.ofString "AbstractKey.__init__", params := (fdA (nthS (fdB (nthS PP.main.body 22)) 0)), body := PySem.FuncBody.stmts (fdB (nthS (fdB (nthS PP.main.body 22)) 0)), scope := (fdS (nthS (fdB (nthS PP.main.body 22)) 0)), globals := 0, closure := [], defaults := PySem.Value.none, kwdefaults := PySem.Value.none } }
noncomputable def o148 : Params → Obj := fun P => { cls := PySem.Value.type "code", data := PySem.Data.fields #[PySem.Value.str (PySem.Str.ofString "__init__") 407, PySem.Value.str (PySem.Str.ofString "AbstractKey.__init__") 408, PySem.Value.str (PySem.Str.ofString "/claim/cut.py") 409, PySem.Value.int 99 0, PySem.Value.int 3 0, PySem.Value.int 0 0, PySem.Value.int 0 0, PySem.Value.int 3 0, PySem.Value.ref 143, PySem.Value.bool Bool.true, PySem.Value.int 181 0, PySem.Value.ref 144, PySem.Value.none, PySem.Value.ref 145, PySem.Value.ref 146, PySem.Value.ref 147, PySem.Value.int 413 0, PySem.Value.int 99 0, PySem.Value.str (PySem.Str.ofString "/claim/cut.py") 414] }
noncomputable def o149 : Params → Obj := fun P => { cls := PySem.Value.type "function", data := PySem.Data.func { name := PySem.Str.ofString "__init__", qualname := PySem.Str.ofString "AbstractKey.__init__", params := (fdA (nthS (fdB (nthS PP.main.body 22)) 0)), body := PySem.FuncBody.stmts (fdB (nthS (fdB (nthS PP.main.body 22)) 0)), scope := (fdS (nthS (fdB (nthS PP.main.body 22)) 0)), globals := 3, closure := [], defaults := PySem.Value.none, kwdefaults := PySem.Value.none, pyModule := PySem.Value.str (PySem.Str.ofString "rsa.key") 393, code := PySem.Value.ref 148 } }
noncomputable def o150 : Params → Obj := fun P => { cls := PySem.Value.type "tuple", data := PySem.Data.seq #[] }
noncomputable def o151 : Params → Obj := fun P => { cls := PySem.Value.none, data := PySem.Data.fields #[] }
noncomputable def o152 : Params → Obj := fun P => { cls := PySem.Value.type "tuple", data := PySem.Data.seq #[PySem.Value.str (PySem.Str.ofString "self") 419, PySem.Value.str (PySem.Str.ofString "message") 420, PySem.Value.str (PySem.Str.ofString "blindfac") 421, PySem.Value.str (PySem.Str.ofString "blindfac_inverse") 422, PySem.Value.str (PySem.Str.ofString "blinded") 423] }
noncomputable def o153 : Params → Obj := fun P => { cls := PySem.Value.type "tuple", data := PySem.Data.seq #[] }
noncomputable def o154 : Params → Obj := fun P => { cls := PySem.Value.none, data := PySem.Data.func { name := PySem.Str.ofString "blind", qualname := PySem.Str.ofString "AbstractKey.blind", params := (fdA (nthS (fdB (nthS PP.main.body 22)) 1)), body := PySem.FuncBody.stmts (fdB (nthS (fdB (nthS PP.main.body 22)) 1)), scope := (fdS (nthS (fdB (nthS PP.main.body 22)) 1)), globals := 0, closure := [], defaults := PySem.Value.none, kwdefaults := PySem.Value.none } }
noncomputable def o155 : Params → Obj := fun P => { cls := PySem.Value.type "code", data := PySem.Data.fields #[PySem.Value.str (PySem.Str.ofString "blind") 416, PySem.Value.str (PySem.Str.ofString "AbstractKey.blind") 417, PySem.Value.str (PySem.Str.ofString "/claim/cut.py") 418, PySem.Value.int 104 0, PySem.Value.int 2 0, PySem.Value.int 0 0, PySem.Value.int 0 0, PySem.Value.int 3 0, PySem.Value.ref 150, PySem.Value.bool Bool.true, PySem.Value.int 181 0, PySem.Value.ref 151, PySem.Value.none, PySem.Value.ref 152, PySem.Value.ref 153, PySem.Value.ref 154, PySem.Value.int 424 0, PySem.Value.int 104 0, PySem.Value.str (PySem.Str.ofString "/claim/cut.py") 425] }
noncomputable def o156 : Params → Obj := fun P => { cls := PySem.Value.type "function", data := PySem.Data.func { name := PySem.Str.ofString "blind", qualname := PySem.Str.ofString "AbstractKey.blind", params := (fdA (nthS (fdB (nthS PP.main.body 22)) 1)), body := PySem.FuncBody.stmts (fdB (nthS (fdB (nthS PP.main.body 22)) 1)), scope := (fdS (nthS (fdB (nthS PP.main.body 22)) 1)), globals := 3, closure := [], defaults := PySem.Value.none, kwdefaults := PySem.Value.none, pyModule := PySem.Value.str (PySem.Str.ofString "rsa.key") 393, code := PySem.Value.ref 155 } }
noncomputable def o157 : Params → Obj := fun P => { cls := PySem.Value.type "tuple", data := PySem.Data.seq #[] }
noncomputable def o158 : Params → Obj := fun P => { cls := PySem.Value.none, data := PySem.Data.fields #[] }
noncomputable def o159 : Params → Obj := fun P => { cls := PySem.Value.type "tuple", data := PySem.Data.seq #[PySem.Value.str (PySem.Str.ofString "self") 430, PySem.Value.str (PySem.Str.ofString "blinded") 431, PySem.Value.str (PySem.Str.ofString "blindfac_inverse") 432] }
noncomputable def o160 : Params → Obj := fun P => { cls := PySem.Value.type "tuple", data := PySem.Data.seq #[] }
noncomputable def o161 : Params → Obj := fun P => { cls := PySem.Value.none, data := PySem.Data.func { name := PySem.Str.ofString "unblind", qualname := PySem.Str.ofString "AbstractKey.unblind", params := (fdA (nthS (fdB (nthS PP.main.body 22)) 2)), body := PySem.FuncBody.stmts (fdB (nthS (fdB (nthS PP.main.body 22)) 2)), scope := (fdS (nthS (fdB (nthS PP.main.body 22)) 2)), globals := 0, closure := [], defaults := PySem.Value.none, kwdefaults := PySem.Value.none } }
noncomputable def o162 : Params → Obj := fun P => { cls := PySem.Value.type "code", data := PySem.Data.fields #[PySem.Value.str (PySem.Str.ofString "unblind") 427, PySem.Value.str (PySem.Str.ofString "AbstractKey.unblind") 428, PySem.Value.str (PySem.Str.ofString "/claim/cut.py") 429, PySem.Value.int 109 0, PySem.Value.int 3 0, PySem.Value.int 0 0, PySem.Value.int 0 0, PySem.Value.int 3 0, PySem.Value.ref 157, PySem.Value.bool Bool.true, PySem.Value.int 181 0, PySem.Value.ref 158, PySem.Value.none, PySem.Value.ref 159, PySem.Value.ref 160, PySem.Value.ref 161, PySem.Value.int 433 0, PySem.Value.int 109 0, PySem.Value.str (PySem.Str.ofString "/claim/cut.py") 434] }
noncomputable def o163 : Params → Obj := fun P => { cls := PySem.Value.type "function", data := PySem.Data.func { name := PySem.Str.ofString "unblind", qualname := PySem.Str.ofString "AbstractKey.unblind", params := (fdA (nthS (fdB (nthS PP.main.body 22)) 2)), body := PySem.FuncBody.stmts (fdB (nthS (fdB (nthS PP.main.body 22)) 2)), scope := (fdS (nthS (fdB (nthS PP.main.body 22)) 2)), globals := 3, closure := [], defaults := PySem.Value.none, kwdefaults := PySem.Value.none, pyModule := PySem.Value.str (PySem.Str.ofString "rsa.key") 393, code := PySem.Value.ref 162 } }
noncomputable def o164 : Params → Obj := fun P => { cls := PySem.Value.type "tuple", data := PySem.Data.seq #[] }
noncomputable def o165 : Params → Obj := fun P => { cls := PySem.Value.none, data := PySem.Data.fields #[] }
noncomputable def o166 : Params → Obj := fun P => { cls := PySem.Value.type "tuple", data := PySem.Data.seq #[PySem.Value.str (PySem.Str.ofString "self") 439, PySem.Value.str (PySem.Str.ofString "blind_r") 440] }
noncomputable def o167 : Params → Obj := fun P => { cls := PySem.Value.type "tuple", data := PySem.Data.seq #[] }
noncomputable def o168 : Params → Obj := fun P => { cls := PySem.Value.none, data := PySem.Data.func { name := PySem.Str.ofString "_initial_blinding_factor", qualname := PySem.Str.ofString "AbstractKey._initial_blinding_factor", params := (fdA (nthS (fdB (nthS PP.main.body 22)) 3)), body := PySem.FuncBody.stmts (fdB (nthS (fdB (nthS PP.main.body 22)) 3)), scope := (fdS (nthS (fdB (nthS PP.main.body 22)) 3)), globals := 0, closure := [], defaults := PySem.Value.none, kwdefaults := PySem.Value.none } }
noncomputable def o169 : Params → Obj := fun P => { cls := PySem.Value.type "code", data := PySem.Data.fields #[PySem.Value.str (PySem.Str.ofString "_initial_blinding_factor") 436, PySem.Value.str (PySem.Str.ofString "AbstractKey._initial_blinding_factor") 437, PySem.Value.str (PySem.Str.ofString "/claim/cut.py") 438, PySem.Value.int 112 0, PySem.Value.int 1 0, PySem.Value.int 0 0, PySem.Value.int 0 0, PySem.Value.int 3 0, PySem.Value.ref 164, PySem.Value.bool Bool.true, PySem.Value.int 181 0, PySem.Value.ref 165, PySem.Value.none, PySem.Value.ref 166, PySem.Value.ref 167, PySem.Value.ref 168, PySem.Value.int 441 0, PySem.Value.int 112 0, PySem.Value.str (PySem.Str.ofString "/claim/cut.py") 442] }
noncomputable def o170 : Params → Obj := fun P => { cls := PySem.Value.type "function", data := PySem.Data.func { name := PySem.Str.ofString "_initial_blinding_factor", qualname := PySem.Str.ofString "AbstractKey._initial_blinding_factor", params := (fdA (nthS (fdB (nthS PP.main.body 22)) 3)), body := PySem.FuncBody.stmts (fdB (nthS (fdB (nthS PP.main.body 22)) 3)), scope := (fdS (nthS (fdB (nthS PP.main.body 22)) 3)), globals := 3, closure := [], defaults := PySem.Value.none, kwdefaults := PySem.Value.none, pyModule := PySem.Value.str (PySem.Str.ofString "rsa.key") 393, code := PySem.Value.ref 169 } }
noncomputable def o171 : Params → Obj := fun P => { cls := PySem.Value.type "tuple", data := PySem.Data.seq #[] }
noncomputable def o172 : Params → Obj := fun P => { cls := PySem.Value.none, data := PySem.Data.fields #[] }
noncomputable def o173 : Params → Obj := fun P => { cls := PySem.Value.type "tuple", data := PySem.Data.seq #[PySem.Value.str (PySem.Str.ofString "self") 447] }
noncomputable def o174 : Params → Obj := fun P => { cls := PySem.Value.type "tuple", data := PySem.Data.seq #[] }
noncomputable def o175 : Params → Obj := fun P => { cls := PySem.Value.none, data := PySem.Data.func { name := PySem.Str.ofString "_update_blinding_factor", qualname := PySem.Str.ofString "AbstractKey._update_blinding_factor", params := (fdA (nthS (fdB (nthS PP.main.body 22)) 4)), body := PySem.FuncBody.stmts (fdB (nthS (fdB (nthS PP.main.body 22)) 4)), scope := (fdS (nthS (fdB (nthS PP.main.body 22)) 4)), globals := 0, closure := [], defaults := PySem.Value.none, kwdefaults := PySem.Value.none } }
noncomputable def o176 : Params → Obj := fun P => { cls := PySem.Value.type "code", data := PySem.Data.fields #[PySem.Value.str (PySem.Str.ofString "_update_blinding_factor") 444, PySem.Value.str (PySem.Str.ofString "AbstractKey._update_blinding_factor") 445, PySem.Value.str (PySem.Str.ofString "/claim/cut.py") 446, PySem.Value.int 118 0, PySem.Value.int 1 0, PySem.Value.int 0 0, PySem.Value.int 0 0, PySem.Value.int 3 0, PySem.Value.ref 171, PySem.Value.bool Bool.true, PySem.Value.int 181 0, PySem.Value.ref 172, PySem.Value.none, PySem.Value.ref 173, PySem.Value.ref 174, PySem.Value.ref 175, PySem.Value.int 448 0, PySem.Value.int 118 0, PySem.Value.str (PySem.Str.ofString "/claim/cut.py") 449] }
noncomputable def o177 : Params → Obj := fun P => { cls := PySem.Value.type "function", data := PySem.Data.func { name := PySem.Str.ofString "_update_blinding_factor", qualname := PySem.Str.ofString "AbstractKey._update_blinding_factor", params := (fdA (nthS (fdB (nthS PP.main.body 22)) 4)), body := PySem.FuncBody.stmts (fdB (nthS (fdB (nthS PP.main.body 22)) 4)), scope := (fdS (nthS (fdB (nthS PP.main.body 22)) 4)), globals := 3, closure := [], defaults := PySem.Value.none, kwdefaults := PySem.Value.none, pyModule := PySem.Value.str (PySem.Str.ofString "rsa.key") 393, code := PySem.Value.ref 176 } }
noncomputable def o178 : Params → Obj := fun P => { cls := PySem.Value.type "tuple", data := PySem.Data.seq #[PySem.Value.str (PySem.Str.ofString "blindfac") 451, PySem.Value.str (PySem.Str.ofString "blindfac_inverse") 452, PySem.Value.str (PySem.Str.ofString "e") 453, PySem.Value.str (PySem.Str.ofString "n") 454] }
noncomputable def o179 : Params → Obj := fun P => { cls := PySem.Value.type "dict", data := PySem.Data.dict #[{ hash := PySem.PyData.keyHash P (PySem.Str.ofString "__module__"), key := PySem.Value.str (PySem.Str.ofString "__module__") 402, val := PySem.Value.str (PySem.Str.ofString "rsa.key") 393 }, { hash := PySem.PyData.keyHash P (PySem.Str.ofString "__firstlineno__"), key := PySem.Value.str (PySem.Str.ofString "__firstlineno__") 406, val := PySem.Value.int 97 405 }, { hash := PySem.PyData.keyHash P (PySem.Str.ofString "__init__"), key := PySem.Value.str (PySem.Str.ofString "__init__") 415, val := PySem.Value.ref 149 }, { hash := PySem.PyData.keyHash P (PySem.Str.ofString "blind"), key := PySem.Value.str (PySem.Str.ofString "blind") 426, val := PySem.Value.ref 156 }, { hash := PySem.PyData.keyHash P (PySem.Str.ofString "unblind"), key := PySem.Value.str (PySem.Str.ofString "unblind") 435, val := PySem.Value.ref 163 }, { hash := PySem.PyData.keyHash P (PySem.Str.ofString "_initial_blinding_factor"), key := PySem.Value.str (PySem.Str.ofString "_initial_blinding_factor") 443, val := PySem.Value.ref 170 }, { hash := PySem.PyData.keyHash P (PySem.Str.ofString "_update_blinding_factor"), key := PySem.Value.str (PySem.Str.ofString "_update_blinding_factor") 450, val := PySem.Value.ref 177 }, { hash := PySem.PyData.keyHash P (PySem.Str.ofString "__static_attributes__"), key := PySem.Value.str (PySem.Str.ofString "__static_attributes__") 455, val := PySem.Value.ref 178 }, { hash := PySem.PyData.keyHash P (PySem.Str.ofString "__dict__"), key := PySem.Value.str (PySem.Str.ofString "__dict__") 457, val := PySem.Value.ref 181 }, { hash := PySem.PyData.keyHash P (PySem.Str.ofString "__weakref__"), key := PySem.Value.str (PySem.Str.ofString "__weakref__") 459, val := PySem.Value.ref 182 }, { hash := PySem.PyData.keyHash P (PySem.Str.ofString "__doc__"), key := PySem.Value.str (PySem.Str.ofString "__doc__") 460, val := PySem.Value.none }] 4 }
noncomputable def o180 : Params → Obj := fun P => { cls := PySem.Value.type "type", data := PySem.Data.cls { name := PySem.Str.ofString "AbstractKey", bases := [PySem.Value.type "object"], mro := [PySem.Value.ref 180, PySem.Value.type "object"], ns := 179, qualname := PySem.Str.ofString "AbstractKey" }, slots := #[Option.none, Option.none, Option.some (PySem.Value.str (PySem.Str.ofString "AbstractKey") 395), Option.some (PySem.Value.str (PySem.Str.ofString "AbstractKey") 403), Option.some (PySem.Value.builtin "object.__new__"), Option.some (PySem.Value.bool Bool.true)] }
noncomputable def o181 : Params → Obj := fun P => { cls := PySem.Value.type "getset_descriptor", data := PySem.Data.fields #[PySem.Value.str (PySem.Str.ofString "__dict__") 456, PySem.Value.ref 180, PySem.Value.builtin "function.__dict__", PySem.Value.builtin "function.__dict__#set"] }
noncomputable def o182 : Params → Obj := fun P => { cls := PySem.Value.type "getset_descriptor", data := PySem.Data.fields #[PySem.Value.str (PySem.Str.ofString "__weakref__") 458, PySem.Value.ref 180, PySem.Value.builtin "ExceptionGroup.__weakref__", PySem.Value.none] }
noncomputable def o183 : Params → Obj := fun P => { cls := PySem.Value.type "super", data := PySem.Data.fields #[PySem.Value.ref 180, PySem.Value.ref 180, PySem.Value.ref 180] }
noncomputable def o184 : Params → Obj := fun P => { cls := PySem.Value.type "builtin_function_or_method", data := PySem.Data.fields #[PySem.Value.builtin "object.__init_subclass__", PySem.Value.ref 180] }
noncomputable def o180p23 : Params → Obj := fun P => { cls := PySem.Value.type "type", data := PySem.Data.cls { name := PySem.Str.ofString "AbstractKey", bases := [PySem.Value.type "object"], mro := [PySem.Value.ref 180, PySem.Value.type "object"], ns := 179, qualname := PySem.Str.ofString "AbstractKey", subclasses := [PySem.Value.ref 229] }, slots := #[Option.none, Option.none, Option.some (PySem.Value.str (PySem.Str.ofString "AbstractKey") 395), Option.some (PySem.Value.str (PySem.Str.ofString "AbstractKey") 403), Option.some (PySem.Value.builtin "object.__new__"), Option.some (PySem.Value.bool Bool.true)] }
noncomputable def o185 : Params → Obj := fun P => { cls := PySem.Value.type "tuple", data := PySem.Data.seq #[PySem.Value.ref 180] }
noncomputable def o186 : Params → Obj := fun P => { cls := PySem.Value.type "builtin_function_or_method", data := PySem.Data.fields #[PySem.Value.builtin "type.__prepare__", PySem.Value.type "type"] }
noncomputable def o187 : Params → Obj := fun P => { cls := PySem.Value.type "dict", data := PySem.Data.dict #[{ hash := PySem.PyData.keyHash P (PySem.Str.ofString "__module__"), key := PySem.Value.str (PySem.Str.ofString "__module__") 470, val := PySem.Value.str (PySem.Str.ofString "rsa.key") 393 }, { hash := PySem.PyData.keyHash P (PySem.Str.ofString "__qualname__"), key := PySem.Value.str (PySem.Str.ofString "__qualname__") 472, val := PySem.Value.str (PySem.Str.ofString "PrivateKey") 471 }, { hash := PySem.PyData.keyHash P (PySem.Str.ofString "__firstlineno__"), key := PySem.Value.str (PySem.Str.ofString "__firstlineno__") 474, val := PySem.Value.int 126 473 }, { hash := PySem.PyData.keyHash P (PySem.Str.ofString "__init__"), key := PySem.Value.str (PySem.Str.ofString "__init__") 486, val := PySem.Value.ref 198 }, { hash := PySem.PyData.keyHash P (PySem.Str.ofString "__eq__"), key := PySem.Value.str (PySem.Str.ofString "__eq__") 494, val := PySem.Value.ref 205 }, { hash := PySem.PyData.keyHash P (PySem.Str.ofString "__ne__"), key := PySem.Value.str (PySem.Str.ofString "__ne__") 502, val := PySem.Value.ref 212 }, { hash := PySem.PyData.keyHash P (PySem.Str.ofString "blinded_decrypt"), key := PySem.Value.str (PySem.Str.ofString "blinded_decrypt") 510, val := PySem.Value.ref 219 }, { hash := PySem.PyData.keyHash P (PySem.Str.ofString "blinded_encrypt"), key := PySem.Value.str (PySem.Str.ofString "blinded_encrypt") 521, val := PySem.Value.ref 226 }, { hash := PySem.PyData.keyHash P (PySem.Str.ofString "__static_attributes__"), key := PySem.Value.str (PySem.Str.ofString "__static_attributes__") 528, val := PySem.Value.ref 227 }] 9 }
noncomputable def o188 : Params → Obj := fun P => { cls := PySem.Value.type "tuple", data := PySem.Data.seq #[] }
noncomputable def o189 : Params → Obj := fun P => { cls := PySem.Value.none, data := PySem.Data.fields #[PySem.Value.int 128 0, PySem.Value.int 4 0, PySem.Value.ref 197, PySem.Value.int 137 0, PySem.Value.int 4 0, PySem.Value.ref 204, PySem.Value.int 144 0, PySem.Value.int 4 0, PySem.Value.ref 211, PySem.Value.int 147 0, PySem.Value.int 4 0, PySem.Value.ref 218, PySem.Value.int 150 0, PySem.Value.int 4 0, PySem.Value.ref 225] }
noncomputable def o190 : Params → Obj := fun P => { cls := PySem.Value.type "code", data := PySem.Data.fields #[PySem.Value.str (PySem.Str.ofString "PrivateKey") 465, PySem.Value.str (PySem.Str.ofString "PrivateKey") 466, PySem.Value.str (PySem.Str.ofString "/claim/cut.py") 467, PySem.Value.int 126 0, PySem.Value.int 0 0, PySem.Value.int 0 0, PySem.Value.int 0 0, PySem.Value.int 0 0, PySem.Value.ref 188, PySem.Value.bool Bool.false, PySem.Value.int 181 0, PySem.Value.ref 189, PySem.Value.none, PySem.Value.none, PySem.Value.none, PySem.Value.none, PySem.Value.int 468 0, PySem.Value.int 126 0, PySem.Value.str (PySem.Str.ofString "/claim/cut.py") 469] }
noncomputable def o191 : Params → Obj := fun P => { cls := PySem.Value.type "frame", slots := #[Option.some (PySem.Value.ref 190), Option.some (PySem.Value.ref 3), Option.some (PySem.Value.ref 187), Option.none, Option.some (PySem.Value.str (PySem.Str.ofString "rsa.key") 393), Option.none, Option.some (PySem.Value.ref 0)] }
noncomputable def o192 : Params → Obj := fun P => { cls := PySem.Value.type "tuple", data := PySem.Data.seq #[] }
noncomputable def o193 : Params → Obj := fun P => { cls := PySem.Value.none, data := PySem.Data.fields #[] }
noncomputable def o194 : Params → Obj := fun P => { cls := PySem.Value.type "tuple", data := PySem.Data.seq #[PySem.Value.str (PySem.Str.ofString "self") 478, PySem.Value.str (PySem.Str.ofString "n") 479, PySem.Value.str (PySem.Str.ofString "e") 480, PySem.Value.str (PySem.Str.ofString "d") 481, PySem.Value.str (PySem.Str.ofString "p") 482, PySem.Value.str (PySem.Str.ofString "q") 483] }
noncomputable def o195 : Params → Obj := fun P => { cls := PySem.Value.type "tuple", data := PySem.Data.seq #[] }
noncomputable def o196 : Params → Obj := fun P => { cls := PySem.Value.none, data := PySem.Data.func { name := PySem.Str.ofString "__init__", qualname := PySem.Str.ofString "PrivateKey.__init__", params := (fdA (nthS (fdB (nthS PP.main.body 23)) 0)), body := PySem.FuncBody.stmts (fdB (nthS (fdB (nthS PP.main.body 23)) 0)), scope := (fdS (nthS (fdB (nthS PP.main.body 23)) 0)), globals := 0, closure := [], defaults := PySem.Value.none, kwdefaults := PySem.Value.none } }
noncomputable def o197 : Params → Obj := fun P => { cls := PySem.Value.type "code", data := PySem.Data.fields #[PySem.Value.str (PySem.Str.ofString "__init__") 475, PySem.Value.str (PySem.Str.ofString "PrivateKey.__init__") 476, PySem.Value.str (PySem.Str.ofString "/claim/cut.py") 477, PySem.Value.int 128 0, PySem.Value.int 6 0, PySem.Value.int 0 0, PySem.Value.int 0 0, PySem.Value.int 3 0, PySem.Value.ref 192, PySem.Value.bool Bool.true, PySem.Value.int 181 0, PySem.Value.ref 193, PySem.Value.none, PySem.Value.ref 194, PySem.Value.ref 195, PySem.Value.ref 196, PySem.Value.int 484 0, PySem.Value.int 128 0, PySem.Value.str (PySem.Str.ofString "/claim/cut.py") 485] }
noncomputable def o198 : Params → Obj := fun P => { cls := PySem.Value.type "function", data := PySem.Data.func { name := PySem.Str.ofString "__init__", qualname := PySem.Str.ofString "PrivateKey.__init__", params := (fdA (nthS (fdB (nthS PP.main.body 23)) 0)), body := PySem.FuncBody.stmts (fdB (nthS (fdB (nthS PP.main.body 23)) 0)), scope := (fdS (nthS (fdB (nthS PP.main.body 23)) 0)), globals := 3, closure := [], defaults := PySem.Value.none, kwdefaults := PySem.Value.none, pyModule := PySem.Value.str (PySem.Str.ofString "rsa.key") 393, code := PySem.Value.ref 197 } }
noncomputable def o199 : Params → Obj := fun P => { cls := PySem.Value.type "tuple", data := PySem.Data.seq #[] }
noncomputable def o200 : Params → Obj := fun P => { cls := PySem.Value.none, data := PySem.Data.fields #[] }
noncomputable def o201 : Params → Obj := fun P => { cls := PySem.Value.type "tuple", data := PySem.Data.seq #[PySem.Value.str (PySem.Str.ofString "self") 490, PySem.Value.str (PySem.Str.ofString "other") 491] }
noncomputable def o202 : Params → Obj := fun P => { cls := PySem.Value.type "tuple", data := PySem.Data.seq #[] }
noncomputable def o203 : Params → Obj := fun P => { cls := PySem.Value.none, data := PySem.Data.func { name := PySem.Str.ofString "__eq__", qualname := PySem.Str.ofString "PrivateKey.__eq__", params := (fdA (nthS (fdB (nthS PP.main.body 23)) 1)), body := PySem.FuncBody.stmts (fdB (nthS (fdB (nthS PP.main.body 23)) 1)), scope := (fdS (nthS (fdB (nthS PP.main.body 23)) 1)), globals := 0, closure := [], defaults := PySem.Value.none, kwdefaults := PySem.Value.none } }
noncomputable def o204 : Params → Obj := fun P => { cls := PySem.Value.type "code", data := PySem.Data.fields #[PySem.Value.str (PySem.Str.ofString "__eq__") 487, PySem.Value.str (PySem.Str.ofString "PrivateKey.__eq__") 488, PySem.Value.str (PySem.Str.ofString "/claim/cut.py") 489, PySem.Value.int 137 0, PySem.Value.int 2 0, PySem.Value.int 0 0, PySem.Value.int 0 0, PySem.Value.int 3 0, PySem.Value.ref 199, PySem.Value.bool Bool.true, PySem.Value.int 181 0, PySem.Value.ref 200, PySem.Value.none, PySem.Value.ref 201, PySem.Value.ref 202, PySem.Value.ref 203, PySem.Value.int 492 0, PySem.Value.int 137 0, PySem.Value.str (PySem.Str.ofString "/claim/cut.py") 493] }
noncomputable def o205 : Params → Obj := fun P => { cls := PySem.Value.type "function", data := PySem.Data.func { name := PySem.Str.ofString "__eq__", qualname := PySem.Str.ofString "PrivateKey.__eq__", params := (fdA (nthS (fdB (nthS PP.main.body 23)) 1)), body := PySem.FuncBody.stmts (fdB (nthS (fdB (nthS PP.main.body 23)) 1)), scope := (fdS (nthS (fdB (nthS PP.main.body 23)) 1)), globals := 3, closure := [], defaults := PySem.Value.none, kwdefaults := PySem.Value.none, pyModule := PySem.Value.str (PySem.Str.ofString "rsa.key") 393, code := PySem.Value.ref 204 } }
noncomputable def o206 : Params → Obj := fun P => { cls := PySem.Value.type "tuple", data := PySem.Data.seq #[] }
noncomputable def o207 : Params → Obj := fun P => { cls := PySem.Value.none, data := PySem.Data.fields #[] }
noncomputable def o208 : Params → Obj := fun P => { cls := PySem.Value.type "tuple", data := PySem.Data.seq #[PySem.Value.str (PySem.Str.ofString "self") 498, PySem.Value.str (PySem.Str.ofString "other") 499] }
noncomputable def o209 : Params → Obj := fun P => { cls := PySem.Value.type "tuple", data := PySem.Data.seq #[] }
noncomputable def o210 : Params → Obj := fun P => { cls := PySem.Value.none, data := PySem.Data.func { name := PySem.Str.ofString "__ne__", qualname := PySem.Str.ofString "PrivateKey.__ne__", params := (fdA (nthS (fdB (nthS PP.main.body 23)) 2)), body := PySem.FuncBody.stmts (fdB (nthS (fdB (nthS PP.main.body 23)) 2)), scope := (fdS (nthS (fdB (nthS PP.main.body 23)) 2)), globals := 0, closure := [], defaults := PySem.Value.none, kwdefaults := PySem.Value.none } }
noncomputable def o211 : Params → Obj := fun P => { cls := PySem.Value.type "code", data := PySem.Data.fields #[PySem.Value.str (PySem.Str.ofString "__ne__") 495, PySem.Value.str (PySem.Str.ofString "PrivateKey.__ne__") 496, PySem.Value.str (PySem.Str.ofString "/claim/cut.py") 497, PySem.Value.int 144 0, PySem.Value.int 2 0, PySem.Value.int 0 0, PySem.Value.int 0 0, PySem.Value.int 3 0, PySem.Value.ref 206, PySem.Value.bool Bool.true, PySem.Value.int 181 0, PySem.Value.ref 207, PySem.Value.none, PySem.Value.ref 208, PySem.Value.ref 209, PySem.Value.ref 210, PySem.Value.int 500 0, PySem.Value.int 144 0, PySem.Value.str (PySem.Str.ofString "/claim/cut.py") 501] }
noncomputable def o212 : Params → Obj := fun P => { cls := PySem.Value.type "function", data := PySem.Data.func { name := PySem.Str.ofString "__ne__", qualname := PySem.Str.ofString "PrivateKey.__ne__", params := (fdA (nthS (fdB (nthS PP.main.body 23)) 2)), body := PySem.FuncBody.stmts (fdB (nthS (fdB (nthS PP.main.body 23)) 2)), scope := (fdS (nthS (fdB (nthS PP.main.body 23)) 2)), globals := 3, closure := [], defaults := PySem.Value.none, kwdefaults := PySem.Value.none, pyModule := PySem.Value.str (PySem.Str.ofString "rsa.key") 393, code := PySem.Value.ref 211 } }
noncomputable def o213 : Params → Obj := fun P => { cls := PySem.Value.type "tuple", data := PySem.Data.seq #[] }
noncomputable def o214 : Params → Obj := fun P => { cls := PySem.Value.none, data := PySem.Data.fields #[] }
noncomputable def o215 : Params → Obj := fun P => { cls := PySem.Value.type "tuple", data := PySem.Data.seq #[PySem.Value.str (PySem.Str.ofString "self") 506, PySem.Value.str (PySem.Str.ofString "encrypted") 507] }
noncomputable def o216 : Params → Obj := fun P => { cls := PySem.Value.type "tuple", data := PySem.Data.seq #[] }
noncomputable def o217 : Params → Obj := fun P => { cls := PySem.Value.none, data := PySem.Data.func { name := PySem.Str.ofString "blinded_decrypt", qualname := PySem.Str.ofString "PrivateKey.blinded_decrypt", params := (fdA (nthS (fdB (nthS PP.main.body 23)) 3)), body := PySem.FuncBody.stmts (fdB (nthS (fdB (nthS PP.main.body 23)) 3)), scope := (fdS (nthS (fdB (nthS PP.main.body 23)) 3)), globals := 0, closure := [], defaults := PySem.Value.none, kwdefaults := PySem.Value.none } }
noncomputable def o218 : Params → Obj := fun P => { cls := PySem.Value.type "code", data := PySem.Data.fields #[PySem.Value.str (PySem.Str.ofString "blinded_decrypt") 503, PySem.Value.str (PySem.Str.ofString "PrivateKey.blinded_decrypt") 504, PySem.Value.str (PySem.Str.ofString "/claim/cut.py") 505, PySem.Value.int 147 0, PySem.Value.int 2 0, PySem.Value.int 0 0, PySem.Value.int 0 0, PySem.Value.int 3 0, PySem.Value.ref 213, PySem.Value.bool Bool.true, PySem.Value.int 181 0, PySem.Value.ref 214, PySem.Value.none, PySem.Value.ref 215, PySem.Value.ref 216, PySem.Value.ref 217, PySem.Value.int 508 0, PySem.Value.int 147 0, PySem.Value.str (PySem.Str.ofString "/claim/cut.py") 509] }
noncomputable def o219 : Params → Obj := fun P => { cls := PySem.Value.type "function", data := PySem.Data.func { name := PySem.Str.ofString "blinded_decrypt", qualname := PySem.Str.ofString "PrivateKey.blinded_decrypt", params := (fdA (nthS (fdB (nthS PP.main.body 23)) 3)), body := PySem.FuncBody.stmts (fdB (nthS (fdB (nthS PP.main.body 23)) 3)), scope := (fdS (nthS (fdB (nthS PP.main.body 23)) 3)), globals := 3, closure := [], defaults := PySem.Value.none, kwdefaults := PySem.Value.none, pyModule := PySem.Value.str (PySem.Str.ofString "rsa.key") 393, code := PySem.Value.ref 218 } }
noncomputable def o220 : Params → Obj := fun P => { cls := PySem.Value.type "tuple", data := PySem.Data.seq #[] }
noncomputable def o221 : Params → Obj := fun P => { cls := PySem.Value.none, data := PySem.Data.fields #[] }
noncomputable def o222 : Params → Obj := fun P => { cls := PySem.Value.type "tuple", data := PySem.Data.seq #[PySem.Value.str (PySem.Str.ofString "self") 514, PySem.Value.str (PySem.Str.ofString "message") 515, PySem.Value.str (PySem.Str.ofString "blinded") 516, PySem.Value.str (PySem.Str.ofString "blindfac_inverse") 517, PySem.Value.str (PySem.Str.ofString "encrypted") 518] }
noncomputable def o223 : Params → Obj := fun P => { cls := PySem.Value.type "tuple", data := PySem.Data.seq #[] }
noncomputable def o224 : Params → Obj := fun P => { cls := PySem.Value.none, data := PySem.Data.func { name := PySem.Str.ofString "blinded_encrypt", qualname := PySem.Str.ofString "PrivateKey.blinded_encrypt", params := (fdA (nthS (fdB (nthS PP.main.body 23)) 4)), body := PySem.FuncBody.stmts (fdB (nthS (fdB (nthS PP.main.body 23)) 4)), scope := (fdS (nthS (fdB (nthS PP.main.body 23)) 4)), globals := 0, closure := [], defaults := PySem.Value.none, kwdefaults := PySem.Value.none } }
noncomputable def o225 : Params → Obj := fun P => { cls := PySem.Value.type "code", data := PySem.Data.fields #[PySem.Value.str (PySem.Str.ofString "blinded_encrypt") 511, PySem.Value.str (PySem.Str.ofString "PrivateKey.blinded_encrypt") 512, PySem.Value.str (PySem.Str.ofString "/claim/cut.py") 513, PySem.Value.int 150 0, PySem.Value.int 2 0, PySem.Value.int 0 0, PySem.Value.int 0 0, PySem.Value.int 3 0, PySem.Value.ref 220, PySem.Value.bool Bool.true, PySem.Value.int 181 0, PySem.Value.ref 221, PySem.Value.none, PySem.Value.ref 222, PySem.Value.ref 223, PySem.Value.ref 224, PySem.Value.int 519 0, PySem.Value.int 150 0, PySem.Value.str (PySem.Str.ofString "/claim/cut.py") 520] }
noncomputable def o226 : Params → Obj := fun P => { cls := PySem.Value.type "function", data := PySem.Data.func { name := PySem.Str.ofString "blinded_encrypt", qualname := PySem.Str.ofString "PrivateKey.blinded_encrypt", params := (fdA (nthS (fdB (nthS PP.main.body 23)) 4)), body := PySem.FuncBody.stmts (fdB (nthS (fdB (nthS PP.main.body 23)) 4)), scope := (fdS (nthS (fdB (nthS PP.main.body 23)) 4)), globals := 3, closure := [], defaults := PySem.Value.none, kwdefaults := PySem.Value.none, pyModule := PySem.Value.str (PySem.Str.ofString "rsa.key") 393, code := PySem.Value.ref 225 } }
noncomputable def o227 : Params → Obj := fun P => { cls := PySem.Value.type "tuple", data := PySem.Data.seq #[PySem.Value.str (PySem.Str.ofString "coef") 522, PySem.Value.str (PySem.Str.ofString "d") 523, PySem.Value.str (PySem.Str.ofString "exp1") 524, PySem.Value.str (PySem.Str.ofString "exp2") 525, PySem.Value.str (PySem.Str.ofString "p") 526, PySem.Value.str (PySem.Str.ofString "q") 527] }
noncomputable def o228 : Params → Obj := fun P => { cls := PySem.Value.type "dict", data := PySem.Data.dict #[{ hash := PySem.PyData.keyHash P (PySem.Str.ofString "__module__"), key := PySem.Value.str (PySem.Str.ofString "__module__") 470, val := PySem.Value.str (PySem.Str.ofString "rsa.key") 393 }, { hash := PySem.PyData.keyHash P (PySem.Str.ofString "__firstlineno__"), key := PySem.Value.str (PySem.Str.ofString "__firstlineno__") 474, val := PySem.Value.int 126 473 }, { hash := PySem.PyData.keyHash P (PySem.Str.ofString "__init__"), key := PySem.Value.str (PySem.Str.ofString "__init__") 486, val := PySem.Value.ref 198 }, { hash := PySem.PyData.keyHash P (PySem.Str.ofString "__eq__"), key := PySem.Value.str (PySem.Str.ofString "__eq__") 494, val := PySem.Value.ref 205 }, { hash := PySem.PyData.keyHash P (PySem.Str.ofString "__ne__"), key := PySem.Value.str (PySem.Str.ofString "__ne__") 502, val := PySem.Value.ref 212 }, { hash := PySem.PyData.keyHash P (PySem.Str.ofString "blinded_decrypt"), key := PySem.Value.str (PySem.Str.ofString "blinded_decrypt") 510, val := PySem.Value.ref 219 }, { hash := PySem.PyData.keyHash P (PySem.Str.ofString "blinded_encrypt"), key := PySem.Value.str (PySem.Str.ofString "blinded_encrypt") 521, val := PySem.Value.ref 226 }, { hash := PySem.PyData.keyHash P (PySem.Str.ofString "__static_attributes__"), key := PySem.Value.str (PySem.Str.ofString "__static_attributes__") 528, val := PySem.Value.ref 227 }, { hash := PySem.PyData.keyHash P (PySem.Str.ofString "__doc__"), key := PySem.Value.str (PySem.Str.ofString "__doc__") 529, val := PySem.Value.none }, { hash := PySem.PyData.keyHash P (PySem.Str.ofString "__hash__"), key := PySem.Value.str (PySem.Str.ofString "__hash__") 530, val := PySem.Value.none }] 3 }
noncomputable def o229 : Params → Obj := fun P => { cls := PySem.Value.type "type", data := PySem.Data.cls { name := PySem.Str.ofString "PrivateKey", bases := [PySem.Value.ref 180], mro := [PySem.Value.ref 229, PySem.Value.ref 180, PySem.Value.type "object"], ns := 228, qualname := PySem.Str.ofString "PrivateKey" }, slots := #[Option.some (PySem.Value.ref 185), Option.none, Option.some (PySem.Value.str (PySem.Str.ofString "PrivateKey") 463), Option.some (PySem.Value.str (PySem.Str.ofString "PrivateKey") 471), Option.some (PySem.Value.builtin "object.__new__"), Option.some (PySem.Value.bool Bool.true)] }
noncomputable def o230 : Params → Obj := fun P => { cls := PySem.Value.type "super", data := PySem.Data.fields #[PySem.Value.ref 229, PySem.Value.ref 229, PySem.Value.ref 229] }
noncomputable def o231 : Params → Obj := fun P => { cls := PySem.Value.type "builtin_function_or_method", data := PySem.Data.fields #[PySem.Value.builtin "object.__init_subclass__", PySem.Value.ref 229] }
noncomputable def o3p25 : Params → Obj := fun P => { cls := PySem.Value.type "dict", data := PySem.Data.dict #[{ hash := PySem.PyData.keyHash P (PySem.Str.ofString "__name__"), key := PySem.Value.str (PySem.Str.ofString "__name__") 165, val := PySem.Value.str (PySem.Str.ofString "law_ys0001_09") 533 }, { hash := PySem.PyData.keyHash P (PySem.Str.ofString "__doc__"), key := PySem.Value.str (PySem.Str.ofString "__doc__") 166, val := PySem.Value.none }, { hash := PySem.PyData.keyHash P (PySem.Str.ofString "__package__"), key := PySem.Value.str (PySem.Str.ofString "__package__") 167, val := PySem.Value.none }, { hash := PySem.PyData.keyHash P (PySem.Str.ofString "__loader__"), key := PySem.Value.str (PySem.Str.ofString "__loader__") 168, val := PySem.Value.builtin "__main__.__loader__#opaque" }, { hash := PySem.PyData.keyHash P (PySem.Str.ofString "__spec__"), key := PySem.Value.str (PySem.Str.ofString "__spec__") 169, val := PySem.Value.none }, { hash := PySem.PyData.keyHash P (PySem.Str.ofString "__annotations__"), key := PySem.Value.str (PySem.Str.ofString "__annotations__") 170, val := PySem.Value.ref 6 }, { hash := PySem.PyData.keyHash P (PySem.Str.ofString "__builtins__"), key := PySem.Value.str (PySem.Str.ofString "__builtins__") 171, val := PySem.Value.ref 4 }, { hash := PySem.PyData.keyHash P (PySem.Str.ofString "__file__"), key := PySem.Value.str (PySem.Str.ofString "__file__") 173, val := PySem.Value.str (PySem.Str.ofString "/claim/cut.py") 172 }, { hash := PySem.PyData.keyHash P (PySem.Str.ofString "__cached__"), key := PySem.Value.str (PySem.Str.ofString "__cached__") 174, val := PySem.Value.none }, { hash := PySem.PyData.keyHash P (PySem.Str.ofString "_wall"), key := PySem.Value.str (PySem.Str.ofString "_wall") 193, val := PySem.Value.ref 21 }, { hash := PySem.PyData.keyHash P (PySem.Str.ofString "NotRelativePrimeError"), key := PySem.Value.str (PySem.Str.ofString "NotRelativePrimeError") 228, val := PySem.Value.ref 39 }, { hash := PySem.PyData.keyHash P (PySem.Str.ofString "bit_size"), key := PySem.Value.str (PySem.Str.ofString "bit_size") 235, val := PySem.Value.ref 49 }, { hash := PySem.PyData.keyHash P (PySem.Str.ofString "byte_size"), key := PySem.Value.str (PySem.Str.ofString "byte_size") 242, val := PySem.Value.ref 56 }, { hash := PySem.PyData.keyHash P (PySem.Str.ofString "ceil_div"), key := PySem.Value.str (PySem.Str.ofString "ceil_div") 252, val := PySem.Value.ref 63 }, { hash := PySem.PyData.keyHash P (PySem.Str.ofString "extended_gcd"), key := PySem.Value.str (PySem.Str.ofString "extended_gcd") 267, val := PySem.Value.ref 70 }, { hash := PySem.PyData.keyHash P (PySem.Str.ofString "inverse"), key := PySem.Value.str (PySem.Str.ofString "inverse") 278, val := PySem.Value.ref 77 }, { hash := PySem.PyData.keyHash P (PySem.Str.ofString "assert_int"), key := PySem.Value.str (PySem.Str.ofString "assert_int") 288, val := PySem.Value.ref 84 }, { hash := PySem.PyData.keyHash P (PySem.Str.ofString "encrypt_int"), key := PySem.Value.str (PySem.Str.ofString "encrypt_int") 297, val := PySem.Value.ref 91 }, { hash := PySem.PyData.keyHash P (PySem.Str.ofString "bytes2int"), key := PySem.Value.str (PySem.Str.ofString "bytes2int") 306, val := PySem.Value.ref 98 }, { hash := PySem.PyData.keyHash P (PySem.Str.ofString "int2bytes"), key := PySem.Value.str (PySem.Str.ofString "int2bytes") 316, val := PySem.Value.ref 106 }, { hash := PySem.PyData.keyHash P (PySem.Str.ofString "HASH_ASN1"), key := PySem.Value.str (PySem.Str.ofString "HASH_ASN1") 346, val := PySem.Value.ref 107 }, { hash := PySem.PyData.keyHash P (PySem.Str.ofString "_pad_for_signing"), key := PySem.Value.str (PySem.Str.ofString "_pad_for_signing") 357, val := PySem.Value.ref 114 }, { hash := PySem.PyData.keyHash P (PySem.Str.ofString "sign_hash"), key := PySem.Value.str (PySem.Str.ofString "sign_hash") 373, val := PySem.Value.ref 121 }, { hash := PySem.PyData.keyHash P (PySem.Str.ofString "gcd"), key := PySem.Value.str (PySem.Str.ofString "gcd") 383, val := PySem.Value.ref 128 }, { hash := PySem.PyData.keyHash P (PySem.Str.ofString "are_relatively_prime"), key := PySem.Value.str (PySem.Str.ofString "are_relatively_prime") 392, val := PySem.Value.ref 135 }, { hash := PySem.PyData.keyHash P (PySem.Str.ofString "AbstractKey"), key := PySem.Value.str (PySem.Str.ofString "AbstractKey") 462, val := PySem.Value.ref 180 }, { hash := PySem.PyData.keyHash P (PySem.Str.ofString "PrivateKey"), key := PySem.Value.str (PySem.Str.ofString "PrivateKey") 532, val := PySem.Value.ref 229 }, { hash := PySem.PyData.keyHash P (PySem.Str.ofString "_law_cell"), key := PySem.Value.str (PySem.Str.ofString "_law_cell") 542, val := PySem.Value.ref 238 }] 28 }
noncomputable def o12p25 : Params → Obj := fun P => { cls := PySem.Value.none, data := PySem.Data.fields #[PySem.Value.int 1 0, PySem.Value.int 0 0, PySem.Value.ref 20, PySem.Value.int 5 0, PySem.Value.int 0 0, PySem.Value.ref 27, PySem.Value.int 11 0, PySem.Value.int 0 0, PySem.Value.ref 48, PySem.Value.int 13 0, PySem.Value.int 0 0, PySem.Value.ref 55, PySem.Value.int 17 0, PySem.Value.int 0 0, PySem.Value.ref 62, PySem.Value.int 22 0, PySem.Value.int 0 0, PySem.Value.ref 69, PySem.Value.int 39 0, PySem.Value.int 0 0, PySem.Value.ref 76, PySem.Value.int 45 0, PySem.Value.int 0 0, PySem.Value.ref 83, PySem.Value.int 49 0, PySem.Value.int 0 0, PySem.Value.ref 90, PySem.Value.int 59 0, PySem.Value.int 0 0, PySem.Value.ref 97, PySem.Value.int 61 0, PySem.Value.int 0 0, PySem.Value.ref 105, PySem.Value.int 70 0, PySem.Value.int 0 0, PySem.Value.ref 113, PySem.Value.int 77 0, PySem.Value.int 0 0, PySem.Value.ref 120, PySem.Value.int 89 0, PySem.Value.int 0 0, PySem.Value.ref 127, PySem.Value.int 93 0, PySem.Value.int 0 0, PySem.Value.ref 134, PySem.Value.int 97 0, PySem.Value.int 0 0, PySem.Value.ref 141, PySem.Value.int 126 0, PySem.Value.int 0 0, PySem.Value.ref 190, PySem.Value.int 155 0, PySem.Value.int 0 0, PySem.Value.ref 237] }
noncomputable def o232 : Params → Obj := fun P => { cls := PySem.Value.type "tuple", data := PySem.Data.seq #[] }
noncomputable def o233 : Params → Obj := fun P => { cls := PySem.Value.none, data := PySem.Data.fields #[] }
noncomputable def o234 : Params → Obj := fun P => { cls := PySem.Value.type "tuple", data := PySem.Data.seq #[PySem.Value.str (PySem.Str.ofString "script") 538, PySem.Value.str (PySem.Str.ofString "k") 539] }
noncomputable def o235 : Params → Obj := fun P => { cls := PySem.Value.type "tuple", data := PySem.Data.seq #[] }
noncomputable def o236 : Params → Obj := fun P => { cls := PySem.Value.none, data := PySem.Data.func { name := PySem.Str.ofString "_law_cell", qualname := PySem.Str.ofString "_law_cell", params := (fdA (nthS PP.main.body 25)), body := PySem.FuncBody.stmts (fdB (nthS PP.main.body 25)), scope := (fdS (nthS PP.main.body 25)), globals := 0, closure := [], defaults := PySem.Value.none, kwdefaults := PySem.Value.none } }
noncomputable def o237 : Params → Obj := fun P => { cls := PySem.Value.type "code", data := PySem.Data.fields #[PySem.Value.str (PySem.Str.ofString "_law_cell") 535, PySem.Value.str (PySem.Str.ofString "_law_cell") 536, PySem.Value.str (PySem.Str.ofString "/claim/cut.py") 537, PySem.Value.int 155 0, PySem.Value.int 2 0, PySem.Value.int 0 0, PySem.Value.int 0 0, PySem.Value.int 3 0, PySem.Value.ref 232, PySem.Value.bool Bool.true, PySem.Value.int 181 0, PySem.Value.ref 233, PySem.Value.none, PySem.Value.ref 234, PySem.Value.ref 235, PySem.Value.ref 236, PySem.Value.int 540 0, PySem.Value.int 155 0, PySem.Value.str (PySem.Str.ofString "/claim/cut.py") 541] }
noncomputable def o238 : Params → Obj := fun P => { cls := PySem.Value.type "function", data := PySem.Data.func { name := PySem.Str.ofString "_law_cell", qualname := PySem.Str.ofString "_law_cell", params := (fdA (nthS PP.main.body 25)), body := PySem.FuncBody.stmts (fdB (nthS PP.main.body 25)), scope := (fdS (nthS PP.main.body 25)), globals := 3, closure := [], defaults := PySem.Value.none, kwdefaults := PySem.Value.none, pyModule := PySem.Value.str (PySem.Str.ofString "law_ys0001_09") 533, code := PySem.Value.ref 237 } }
noncomputable def o239 : Params → Obj := fun P => { cls := PySem.Value.type "tuple", data := PySem.Data.seq #[] }
noncomputable def o240 : Params → Obj := fun P => { cls := PySem.Value.none, data := PySem.Data.fields #[] }
noncomputable def o241 : Params → Obj := fun P => { cls := PySem.Value.type "tuple", data := PySem.Data.seq #[PySem.Value.str (PySem.Str.ofString "script") 546, PySem.Value.str (PySem.Str.ofString "start") 547, PySem.Value.str (PySem.Str.ofString "size") 548, PySem.Value.str (PySem.Str.ofString "row") 549, PySem.Value.str (PySem.Str.ofString "number") 550, PySem.Value.str (PySem.Str.ofString "k") 551] }
noncomputable def o242 : Params → Obj := fun P => { cls := PySem.Value.type "tuple", data := PySem.Data.seq #[] }
noncomputable def o243 : Params → Obj := fun P => { cls := PySem.Value.none, data := PySem.Data.func { name := PySem.Str.ofString "_law_octets", qualname := PySem.Str.ofString "_law_octets", params := (fdA (nthS PP.main.body 26)), body := PySem.FuncBody.stmts (fdB (nthS PP.main.body 26)), scope := (fdS (nthS PP.main.body 26)), globals := 0, closure := [], defaults := PySem.Value.none, kwdefaults := PySem.Value.none } }
noncomputable def o244 : Params → Obj := fun P => { cls := PySem.Value.type "code", data := PySem.Data.fields #[PySem.Value.str (PySem.Str.ofString "_law_octets") 543, PySem.Value.str (PySem.Str.ofString "_law_octets") 544, PySem.Value.str (PySem.Str.ofString "/claim/cut.py") 545, PySem.Value.int 159 0, PySem.Value.int 3 0, PySem.Value.int 0 0, PySem.Value.int 0 0, PySem.Value.int 3 0, PySem.Value.ref 239, PySem.Value.bool Bool.true, PySem.Value.int 181 0, PySem.Value.ref 240, PySem.Value.none, PySem.Value.ref 241, PySem.Value.ref 242, PySem.Value.ref 243, PySem.Value.int 552 0, PySem.Value.int 159 0, PySem.Value.str (PySem.Str.ofString "/claim/cut.py") 553] }
noncomputable def o245 : Params → Obj := fun P => { cls := PySem.Value.type "function", data := PySem.Data.func { name := PySem.Str.ofString "_law_octets", qualname := PySem.Str.ofString "_law_octets", params := (fdA (nthS PP.main.body 26)), body := PySem.FuncBody.stmts (fdB (nthS PP.main.body 26)), scope := (fdS (nthS PP.main.body 26)), globals := 3, closure := [], defaults := PySem.Value.none, kwdefaults := PySem.Value.none, pyModule := PySem.Value.str (PySem.Str.ofString "law_ys0001_09") 533, code := PySem.Value.ref 244 } }
noncomputable def o246 : Params → Obj := fun P => { cls := PySem.Value.type "tuple", data := PySem.Data.seq #[] }
noncomputable def o247 : Params → Obj := fun P => { cls := PySem.Value.none, data := PySem.Data.fields #[] }
noncomputable def o248 : Params → Obj := fun P => { cls := PySem.Value.type "tuple", data := PySem.Data.seq #[PySem.Value.str (PySem.Str.ofString "one") 558, PySem.Value.str (PySem.Str.ofString "two") 559, PySem.Value.str (PySem.Str.ofString "k") 560] }
noncomputable def o249 : Params → Obj := fun P => { cls := PySem.Value.type "tuple", data := PySem.Data.seq #[] }
noncomputable def o250 : Params → Obj := fun P => { cls := PySem.Value.none, data := PySem.Data.func { name := PySem.Str.ofString "_law_common", qualname := PySem.Str.ofString "_law_common", params := (fdA (nthS PP.main.body 27)), body := PySem.FuncBody.stmts (fdB (nthS PP.main.body 27)), scope := (fdS (nthS PP.main.body 27)), globals := 0, closure := [], defaults := PySem.Value.none, kwdefaults := PySem.Value.none } }
noncomputable def o251 : Params → Obj := fun P => { cls := PySem.Value.type "code", data := PySem.Data.fields #[PySem.Value.str (PySem.Str.ofString "_law_common") 555, PySem.Value.str (PySem.Str.ofString "_law_common") 556, PySem.Value.str (PySem.Str.ofString "/claim/cut.py") 557, PySem.Value.int 168 0, PySem.Value.int 2 0, PySem.Value.int 0 0, PySem.Value.int 0 0, PySem.Value.int 3 0, PySem.Value.ref 246, PySem.Value.bool Bool.true, PySem.Value.int 181 0, PySem.Value.ref 247, PySem.Value.none, PySem.Value.ref 248, PySem.Value.ref 249, PySem.Value.ref 250, PySem.Value.int 561 0, PySem.Value.int 168 0, PySem.Value.str (PySem.Str.ofString "/claim/cut.py") 562] }
noncomputable def o252 : Params → Obj := fun P => { cls := PySem.Value.type "function", data := PySem.Data.func { name := PySem.Str.ofString "_law_common", qualname := PySem.Str.ofString "_law_common", params := (fdA (nthS PP.main.body 27)), body := PySem.FuncBody.stmts (fdB (nthS PP.main.body 27)), scope := (fdS (nthS PP.main.body 27)), globals := 3, closure := [], defaults := PySem.Value.none, kwdefaults := PySem.Value.none, pyModule := PySem.Value.str (PySem.Str.ofString "law_ys0001_09") 533, code := PySem.Value.ref 251 } }
noncomputable def o253 : Params → Obj := fun P => { cls := PySem.Value.type "tuple", data := PySem.Data.seq #[] }
noncomputable def o254 : Params → Obj := fun P => { cls := PySem.Value.none, data := PySem.Data.fields #[] }
noncomputable def o255 : Params → Obj := fun P => { cls := PySem.Value.type "tuple", data := PySem.Data.seq #[PySem.Value.str (PySem.Str.ofString "one") 567, PySem.Value.str (PySem.Str.ofString "whole") 568, PySem.Value.str (PySem.Str.ofString "old") 569, PySem.Value.str (PySem.Str.ofString "new") 570, PySem.Value.str (PySem.Str.ofString "first") 571, PySem.Value.str (PySem.Str.ofString "second") 572, PySem.Value.str (PySem.Str.ofString "k") 573, PySem.Value.str (PySem.Str.ofString "times") 574] }
noncomputable def o256 : Params → Obj := fun P => { cls := PySem.Value.type "tuple", data := PySem.Data.seq #[] }
noncomputable def o257 : Params → Obj := fun P => { cls := PySem.Value.none, data := PySem.Data.func { name := PySem.Str.ofString "_law_inverse", qualname := PySem.Str.ofString "_law_inverse", params := (fdA (nthS PP.main.body 28)), body := PySem.FuncBody.stmts (fdB (nthS PP.main.body 28)), scope := (fdS (nthS PP.main.body 28)), globals := 0, closure := [], defaults := PySem.Value.none, kwdefaults := PySem.Value.none } }
noncomputable def o258 : Params → Obj := fun P => { cls := PySem.Value.type "code", data := PySem.Data.fields #[PySem.Value.str (PySem.Str.ofString "_law_inverse") 564, PySem.Value.str (PySem.Str.ofString "_law_inverse") 565, PySem.Value.str (PySem.Str.ofString "/claim/cut.py") 566, PySem.Value.int 174 0, PySem.Value.int 2 0, PySem.Value.int 0 0, PySem.Value.int 0 0, PySem.Value.int 3 0, PySem.Value.ref 253, PySem.Value.bool Bool.true, PySem.Value.int 181 0, PySem.Value.ref 254, PySem.Value.none, PySem.Value.ref 255, PySem.Value.ref 256, PySem.Value.ref 257, PySem.Value.int 575 0, PySem.Value.int 174 0, PySem.Value.str (PySem.Str.ofString "/claim/cut.py") 576] }
noncomputable def o259 : Params → Obj := fun P => { cls := PySem.Value.type "function", data := PySem.Data.func { name := PySem.Str.ofString "_law_inverse", qualname := PySem.Str.ofString "_law_inverse", params := (fdA (nthS PP.main.body 28)), body := PySem.FuncBody.stmts (fdB (nthS PP.main.body 28)), scope := (fdS (nthS PP.main.body 28)), globals := 3, closure := [], defaults := PySem.Value.none, kwdefaults := PySem.Value.none, pyModule := PySem.Value.str (PySem.Str.ofString "law_ys0001_09") 533, code := PySem.Value.ref 258 } }
noncomputable def o260 : Params → Obj := fun P => { cls := PySem.Value.type "tuple", data := PySem.Data.seq #[] }
noncomputable def o261 : Params → Obj := fun P => { cls := PySem.Value.none, data := PySem.Data.fields #[] }
noncomputable def o262 : Params → Obj := fun P => { cls := PySem.Value.type "tuple", data := PySem.Data.seq #[PySem.Value.str (PySem.Str.ofString "n") 581] }
noncomputable def o263 : Params → Obj := fun P => { cls := PySem.Value.type "tuple", data := PySem.Data.seq #[] }
noncomputable def o264 : Params → Obj := fun P => { cls := PySem.Value.none, data := PySem.Data.func { name := PySem.Str.ofString "_law_size", qualname := PySem.Str.ofString "_law_size", params := (fdA (nthS PP.main.body 29)), body := PySem.FuncBody.stmts (fdB (nthS PP.main.body 29)), scope := (fdS (nthS PP.main.body 29)), globals := 0, closure := [], defaults := PySem.Value.none, kwdefaults := PySem.Value.none } }
noncomputable def o265 : Params → Obj := fun P => { cls := PySem.Value.type "code", data := PySem.Data.fields #[PySem.Value.str (PySem.Str.ofString "_law_size") 578, PySem.Value.str (PySem.Str.ofString "_law_size") 579, PySem.Value.str (PySem.Str.ofString "/claim/cut.py") 580, PySem.Value.int 184 0, PySem.Value.int 1 0, PySem.Value.int 0 0, PySem.Value.int 0 0, PySem.Value.int 3 0, PySem.Value.ref 260, PySem.Value.bool Bool.true, PySem.Value.int 181 0, PySem.Value.ref 261, PySem.Value.none, PySem.Value.ref 262, PySem.Value.ref 263, PySem.Value.ref 264, PySem.Value.int 582 0, PySem.Value.int 184 0, PySem.Value.str (PySem.Str.ofString "/claim/cut.py") 583] }
noncomputable def o266 : Params → Obj := fun P => { cls := PySem.Value.type "function", data := PySem.Data.func { name := PySem.Str.ofString "_law_size", qualname := PySem.Str.ofString "_law_size", params := (fdA (nthS PP.main.body 29)), body := PySem.FuncBody.stmts (fdB (nthS PP.main.body 29)), scope := (fdS (nthS PP.main.body 29)), globals := 3, closure := [], defaults := PySem.Value.none, kwdefaults := PySem.Value.none, pyModule := PySem.Value.str (PySem.Str.ofString "law_ys0001_09") 533, code := PySem.Value.ref 265 } }
noncomputable def o267 : Params → Obj := fun P => { cls := PySem.Value.type "tuple", data := PySem.Data.seq #[] }
noncomputable def o268 : Params → Obj := fun P => { cls := PySem.Value.none, data := PySem.Data.fields #[] }
noncomputable def o269 : Params → Obj := fun P => { cls := PySem.Value.none, data := PySem.Data.func { name := PySem.Str.ofString "_law_keys", qualname := PySem.Str.ofString "_law_keys", params := (fdA (nthS PP.main.body 30)), body := PySem.FuncBody.stmts (fdB (nthS PP.main.body 30)), scope := (fdS (nthS PP.main.body 30)), globals := 0, closure := [], defaults := PySem.Value.none, kwdefaults := PySem.Value.none } }
noncomputable def o270 : Params → Obj := fun P => { cls := PySem.Value.type "code", data := PySem.Data.fields #[PySem.Value.str (PySem.Str.ofString "_law_keys") 585, PySem.Value.str (PySem.Str.ofString "_law_keys") 586, PySem.Value.str (PySem.Str.ofString "/claim/cut.py") 587, PySem.Value.int 186 0, PySem.Value.int 3 0, PySem.Value.int 0 0, PySem.Value.int 0 0, PySem.Value.int 3 0, PySem.Value.ref 267, PySem.Value.bool Bool.true, PySem.Value.int 181 0, PySem.Value.ref 268, PySem.Value.none, PySem.Value.none, PySem.Value.none, PySem.Value.ref 269, PySem.Value.int 588 0, PySem.Value.int 186 0, PySem.Value.str (PySem.Str.ofString "/claim/cut.py") 589] }
noncomputable def o271 : Params → Obj := fun P => { cls := PySem.Value.type "function", data := PySem.Data.func { name := PySem.Str.ofString "_law_keys", qualname := PySem.Str.ofString "_law_keys", params := (fdA (nthS PP.main.body 30)), body := PySem.FuncBody.stmts (fdB (nthS PP.main.body 30)), scope := (fdS (nthS PP.main.body 30)), globals := 3, closure := [], defaults := PySem.Value.none, kwdefaults := PySem.Value.none, pyModule := PySem.Value.str (PySem.Str.ofString "law_ys0001_09") 533, code := PySem.Value.ref 270 } }
noncomputable def o272 : Params → Obj := fun P => { cls := PySem.Value.type "tuple", data := PySem.Data.seq #[] }
noncomputable def o273 : Params → Obj := fun P => { cls := PySem.Value.none, data := PySem.Data.fields #[] }
noncomputable def o274 : Params → Obj := fun P => { cls := PySem.Value.type "tuple", data := PySem.Data.seq #[PySem.Value.str (PySem.Str.ofString "octets") 594, PySem.Value.str (PySem.Str.ofString "number") 595, PySem.Value.str (PySem.Str.ofString "octet") 596] }
noncomputable def o275 : Params → Obj := fun P => { cls := PySem.Value.type "tuple", data := PySem.Data.seq #[] }
noncomputable def o276 : Params → Obj := fun P => { cls := PySem.Value.none, data := PySem.Data.func { name := PySem.Str.ofString "_law_number", qualname := PySem.Str.ofString "_law_number", params := (fdA (nthS PP.main.body 31)), body := PySem.FuncBody.stmts (fdB (nthS PP.main.body 31)), scope := (fdS (nthS PP.main.body 31)), globals := 0, closure := [], defaults := PySem.Value.none, kwdefaults := PySem.Value.none } }
noncomputable def o277 : Params → Obj := fun P => { cls := PySem.Value.type "code", data := PySem.Data.fields #[PySem.Value.str (PySem.Str.ofString "_law_number") 591, PySem.Value.str (PySem.Str.ofString "_law_number") 592, PySem.Value.str (PySem.Str.ofString "/claim/cut.py") 593, PySem.Value.int 198 0, PySem.Value.int 1 0, PySem.Value.int 0 0, PySem.Value.int 0 0, PySem.Value.int 3 0, PySem.Value.ref 272, PySem.Value.bool Bool.true, PySem.Value.int 181 0, PySem.Value.ref 273, PySem.Value.none, PySem.Value.ref 274, PySem.Value.ref 275, PySem.Value.ref 276, PySem.Value.int 597 0, PySem.Value.int 198 0, PySem.Value.str (PySem.Str.ofString "/claim/cut.py") 598] }
noncomputable def o278 : Params → Obj := fun P => { cls := PySem.Value.type "function", data := PySem.Data.func { name := PySem.Str.ofString "_law_number", qualname := PySem.Str.ofString "_law_number", params := (fdA (nthS PP.main.body 31)), body := PySem.FuncBody.stmts (fdB (nthS PP.main.body 31)), scope := (fdS (nthS PP.main.body 31)), globals := 3, closure := [], defaults := PySem.Value.none, kwdefaults := PySem.Value.none, pyModule := PySem.Value.str (PySem.Str.ofString "law_ys0001_09") 533, code := PySem.Value.ref 277 } }
noncomputable def o279 : Params → Obj := fun P => { cls := PySem.Value.type "tuple", data := PySem.Data.seq #[] }
noncomputable def o280 : Params → Obj := fun P => { cls := PySem.Value.none, data := PySem.Data.fields #[] }
noncomputable def o281 : Params → Obj := fun P => { cls := PySem.Value.none, data := PySem.Data.func { name := PySem.Str.ofString "_law_written", qualname := PySem.Str.ofString "_law_written", params := (fdA (nthS PP.main.body 32)), body := PySem.FuncBody.stmts (fdB (nthS PP.main.body 32)), scope := (fdS (nthS PP.main.body 32)), globals := 0, closure := [], defaults := PySem.Value.none, kwdefaults := PySem.Value.none } }
noncomputable def o282 : Params → Obj := fun P => { cls := PySem.Value.type "code", data := PySem.Data.fields #[PySem.Value.str (PySem.Str.ofString "_law_written") 600, PySem.Value.str (PySem.Str.ofString "_law_written") 601, PySem.Value.str (PySem.Str.ofString "/claim/cut.py") 602, PySem.Value.int 203 0, PySem.Value.int 2 0, PySem.Value.int 0 0, PySem.Value.int 0 0, PySem.Value.int 3 0, PySem.Value.ref 279, PySem.Value.bool Bool.true, PySem.Value.int 181 0, PySem.Value.ref 280, PySem.Value.none, PySem.Value.none, PySem.Value.none, PySem.Value.ref 281, PySem.Value.int 603 0, PySem.Value.int 203 0, PySem.Value.str (PySem.Str.ofString "/claim/cut.py") 604] }
noncomputable def o283 : Params → Obj := fun P => { cls := PySem.Value.type "function", data := PySem.Data.func { name := PySem.Str.ofString "_law_written", qualname := PySem.Str.ofString "_law_written", params := (fdA (nthS PP.main.body 32)), body := PySem.FuncBody.stmts (fdB (nthS PP.main.body 32)), scope := (fdS (nthS PP.main.body 32)), globals := 3, closure := [], defaults := PySem.Value.none, kwdefaults := PySem.Value.none, pyModule := PySem.Value.str (PySem.Str.ofString "law_ys0001_09") 533, code := PySem.Value.ref 282 } }
noncomputable def o284 : Params → Obj := fun P => { cls := PySem.Value.type "tuple", data := PySem.Data.seq #[] }
noncomputable def o285 : Params → Obj := fun P => { cls := PySem.Value.none, data := PySem.Data.fields #[] }
noncomputable def o286 : Params → Obj := fun P => { cls := PySem.Value.type "tuple", data := PySem.Data.seq #[PySem.Value.str (PySem.Str.ofString "rows") 609, PySem.Value.str (PySem.Str.ofString "name") 610, PySem.Value.str (PySem.Str.ofString "last") 611, PySem.Value.str (PySem.Str.ofString "size") 612, PySem.Value.str (PySem.Str.ofString "found") 613, PySem.Value.str (PySem.Str.ofString "kind") 614, PySem.Value.str (PySem.Str.ofString "inner") 615] }
noncomputable def o287 : Params → Obj := fun P => { cls := PySem.Value.type "tuple", data := PySem.Data.seq #[] }
noncomputable def o288 : Params → Obj := fun P => { cls := PySem.Value.none, data := PySem.Data.func { name := PySem.Str.ofString "_law_codes", qualname := PySem.Str.ofString "_law_codes", params := (fdA (nthS PP.main.body 33)), body := PySem.FuncBody.stmts (fdB (nthS PP.main.body 33)), scope := (fdS (nthS PP.main.body 33)), globals := 0, closure := [], defaults := PySem.Value.none, kwdefaults := PySem.Value.none } }
noncomputable def o289 : Params → Obj := fun P => { cls := PySem.Value.type "code", data := PySem.Data.fields #[PySem.Value.str (PySem.Str.ofString "_law_codes") 606, PySem.Value.str (PySem.Str.ofString "_law_codes") 607, PySem.Value.str (PySem.Str.ofString "/claim/cut.py") 608, PySem.Value.int 205 0, PySem.Value.int 0 0, PySem.Value.int 0 0, PySem.Value.int 0 0, PySem.Value.int 3 0, PySem.Value.ref 284, PySem.Value.bool Bool.true, PySem.Value.int 181 0, PySem.Value.ref 285, PySem.Value.none, PySem.Value.ref 286, PySem.Value.ref 287, PySem.Value.ref 288, PySem.Value.int 616 0, PySem.Value.int 205 0, PySem.Value.str (PySem.Str.ofString "/claim/cut.py") 617] }
noncomputable def o290 : Params → Obj := fun P => { cls := PySem.Value.type "function", data := PySem.Data.func { name := PySem.Str.ofString "_law_codes", qualname := PySem.Str.ofString "_law_codes", params := (fdA (nthS PP.main.body 33)), body := PySem.FuncBody.stmts (fdB (nthS PP.main.body 33)), scope := (fdS (nthS PP.main.body 33)), globals := 3, closure := [], defaults := PySem.Value.none, kwdefaults := PySem.Value.none, pyModule := PySem.Value.str (PySem.Str.ofString "law_ys0001_09") 533, code := PySem.Value.ref 289 } }
noncomputable def o291 : Params → Obj := fun P => { cls := PySem.Value.type "tuple", data := PySem.Data.seq #[] }
noncomputable def o292 : Params → Obj := fun P => { cls := PySem.Value.none, data := PySem.Data.fields #[] }
noncomputable def o293 : Params → Obj := fun P => { cls := PySem.Value.type "tuple", data := PySem.Data.seq #[PySem.Value.str (PySem.Str.ofString "told") 622, PySem.Value.str (PySem.Str.ofString "private") 623, PySem.Value.str (PySem.Str.ofString "name") 624] }
noncomputable def o294 : Params → Obj := fun P => { cls := PySem.Value.type "tuple", data := PySem.Data.seq #[] }
noncomputable def o295 : Params → Obj := fun P => { cls := PySem.Value.none, data := PySem.Data.func { name := PySem.Str.ofString "_law_told", qualname := PySem.Str.ofString "_law_told", params := (fdA (nthS PP.main.body 34)), body := PySem.FuncBody.stmts (fdB (nthS PP.main.body 34)), scope := (fdS (nthS PP.main.body 34)), globals := 0, closure := [], defaults := PySem.Value.none, kwdefaults := PySem.Value.none } }
noncomputable def o296 : Params → Obj := fun P => { cls := PySem.Value.type "code", data := PySem.Data.fields #[PySem.Value.str (PySem.Str.ofString "_law_told") 619, PySem.Value.str (PySem.Str.ofString "_law_told") 620, PySem.Value.str (PySem.Str.ofString "/claim/cut.py") 621, PySem.Value.int 216 0, PySem.Value.int 3 0, PySem.Value.int 0 0, PySem.Value.int 0 0, PySem.Value.int 3 0, PySem.Value.ref 291, PySem.Value.bool Bool.true, PySem.Value.int 181 0, PySem.Value.ref 292, PySem.Value.none, PySem.Value.ref 293, PySem.Value.ref 294, PySem.Value.ref 295, PySem.Value.int 625 0, PySem.Value.int 216 0, PySem.Value.str (PySem.Str.ofString "/claim/cut.py") 626] }
noncomputable def o297 : Params → Obj := fun P => { cls := PySem.Value.type "function", data := PySem.Data.func { name := PySem.Str.ofString "_law_told", qualname := PySem.Str.ofString "_law_told", params := (fdA (nthS PP.main.body 34)), body := PySem.FuncBody.stmts (fdB (nthS PP.main.body 34)), scope := (fdS (nthS PP.main.body 34)), globals := 3, closure := [], defaults := PySem.Value.none, kwdefaults := PySem.Value.none, pyModule := PySem.Value.str (PySem.Str.ofString "law_ys0001_09") 533, code := PySem.Value.ref 296 } }
noncomputable def o3p35 : Params → Obj := fun P => { cls := PySem.Value.type "dict", data := PySem.Data.dict #[{ hash := PySem.PyData.keyHash P (PySem.Str.ofString "__name__"), key := PySem.Value.str (PySem.Str.ofString "__name__") 165, val := PySem.Value.str (PySem.Str.ofString "law_ys0001_09") 533 }, { hash := PySem.PyData.keyHash P (PySem.Str.ofString "__doc__"), key := PySem.Value.str (PySem.Str.ofString "__doc__") 166, val := PySem.Value.none }, { hash := PySem.PyData.keyHash P (PySem.Str.ofString "__package__"), key := PySem.Value.str (PySem.Str.ofString "__package__") 167, val := PySem.Value.none }, { hash := PySem.PyData.keyHash P (PySem.Str.ofString "__loader__"), key := PySem.Value.str (PySem.Str.ofString "__loader__") 168, val := PySem.Value.builtin "__main__.__loader__#opaque" }, { hash := PySem.PyData.keyHash P (PySem.Str.ofString "__spec__"), key := PySem.Value.str (PySem.Str.ofString "__spec__") 169, val := PySem.Value.none }, { hash := PySem.PyData.keyHash P (PySem.Str.ofString "__annotations__"), key := PySem.Value.str (PySem.Str.ofString "__annotations__") 170, val := PySem.Value.ref 6 }, { hash := PySem.PyData.keyHash P (PySem.Str.ofString "__builtins__"), key := PySem.Value.str (PySem.Str.ofString "__builtins__") 171, val := PySem.Value.ref 4 }, { hash := PySem.PyData.keyHash P (PySem.Str.ofString "__file__"), key := PySem.Value.str (PySem.Str.ofString "__file__") 173, val := PySem.Value.str (PySem.Str.ofString "/claim/cut.py") 172 }, { hash := PySem.PyData.keyHash P (PySem.Str.ofString "__cached__"), key := PySem.Value.str (PySem.Str.ofString "__cached__") 174, val := PySem.Value.none }, { hash := PySem.PyData.keyHash P (PySem.Str.ofString "_wall"), key := PySem.Value.str (PySem.Str.ofString "_wall") 193, val := PySem.Value.ref 21 }, { hash := PySem.PyData.keyHash P (PySem.Str.ofString "NotRelativePrimeError"), key := PySem.Value.str (PySem.Str.ofString "NotRelativePrimeError") 228, val := PySem.Value.ref 39 }, { hash := PySem.PyData.keyHash P (PySem.Str.ofString "bit_size"), key := PySem.Value.str (PySem.Str.ofString "bit_size") 235, val := PySem.Value.ref 49 }, { hash := PySem.PyData.keyHash P (PySem.Str.ofString "byte_size"), key := PySem.Value.str (PySem.Str.ofString "byte_size") 242, val := PySem.Value.ref 56 }, { hash := PySem.PyData.keyHash P (PySem.Str.ofString "ceil_div"), key := PySem.Value.str (PySem.Str.ofString "ceil_div") 252, val := PySem.Value.ref 63 }, { hash := PySem.PyData.keyHash P (PySem.Str.ofString "extended_gcd"), key := PySem.Value.str (PySem.Str.ofString "extended_gcd") 267, val := PySem.Value.ref 70 }, { hash := PySem.PyData.keyHash P (PySem.Str.ofString "inverse"), key := PySem.Value.str (PySem.Str.ofString "inverse") 278, val := PySem.Value.ref 77 }, { hash := PySem.PyData.keyHash P (PySem.Str.ofString "assert_int"), key := PySem.Value.str (PySem.Str.ofString "assert_int") 288, val := PySem.Value.ref 84 }, { hash := PySem.PyData.keyHash P (PySem.Str.ofString "encrypt_int"), key := PySem.Value.str (PySem.Str.ofString "encrypt_int") 297, val := PySem.Value.ref 91 }, { hash := PySem.PyData.keyHash P (PySem.Str.ofString "bytes2int"), key := PySem.Value.str (PySem.Str.ofString "bytes2int") 306, val := PySem.Value.ref 98 }, { hash := PySem.PyData.keyHash P (PySem.Str.ofString "int2bytes"), key := PySem.Value.str (PySem.Str.ofString "int2bytes") 316, val := PySem.Value.ref 106 }, { hash := PySem.PyData.keyHash P (PySem.Str.ofString "HASH_ASN1"), key := PySem.Value.str (PySem.Str.ofString "HASH_ASN1") 346, val := PySem.Value.ref 107 }, { hash := PySem.PyData.keyHash P (PySem.Str.ofString "_pad_for_signing"), key := PySem.Value.str (PySem.Str.ofString "_pad_for_signing") 357, val := PySem.Value.ref 114 }, { hash := PySem.PyData.keyHash P (PySem.Str.ofString "sign_hash"), key := PySem.Value.str (PySem.Str.ofString "sign_hash") 373, val := PySem.Value.ref 121 }, { hash := PySem.PyData.keyHash P (PySem.Str.ofString "gcd"), key := PySem.Value.str (PySem.Str.ofString "gcd") 383, val := PySem.Value.ref 128 }, { hash := PySem.PyData.keyHash P (PySem.Str.ofString "are_relatively_prime"), key := PySem.Value.str (PySem.Str.ofString "are_relatively_prime") 392, val := PySem.Value.ref 135 }, { hash := PySem.PyData.keyHash P (PySem.Str.ofString "AbstractKey"), key := PySem.Value.str (PySem.Str.ofString "AbstractKey") 462, val := PySem.Value.ref 180 }, { hash := PySem.PyData.keyHash P (PySem.Str.ofString "PrivateKey"), key := PySem.Value.str (PySem.Str.ofString "PrivateKey") 532, val := PySem.Value.ref 229 }, { hash := PySem.PyData.keyHash P (PySem.Str.ofString "_law_cell"), key := PySem.Value.str (PySem.Str.ofString "_law_cell") 542, val := PySem.Value.ref 238 }, { hash := PySem.PyData.keyHash P (PySem.Str.ofString "_law_octets"), key := PySem.Value.str (PySem.Str.ofString "_law_octets") 554, val := PySem.Value.ref 245 }, { hash := PySem.PyData.keyHash P (PySem.Str.ofString "_law_common"), key := PySem.Value.str (PySem.Str.ofString "_law_common") 563, val := PySem.Value.ref 252 }, { hash := PySem.PyData.keyHash P (PySem.Str.ofString "_law_inverse"), key := PySem.Value.str (PySem.Str.ofString "_law_inverse") 577, val := PySem.Value.ref 259 }, { hash := PySem.PyData.keyHash P (PySem.Str.ofString "_law_size"), key := PySem.Value.str (PySem.Str.ofString "_law_size") 584, val := PySem.Value.ref 266 }, { hash := PySem.PyData.keyHash P (PySem.Str.ofString "_law_keys"), key := PySem.Value.str (PySem.Str.ofString "_law_keys") 590, val := PySem.Value.ref 271 }, { hash := PySem.PyData.keyHash P (PySem.Str.ofString "_law_number"), key := PySem.Value.str (PySem.Str.ofString "_law_number") 599, val := PySem.Value.ref 278 }, { hash := PySem.PyData.keyHash P (PySem.Str.ofString "_law_written"), key := PySem.Value.str (PySem.Str.ofString "_law_written") 605, val := PySem.Value.ref 283 }, { hash := PySem.PyData.keyHash P (PySem.Str.ofString "_law_codes"), key := PySem.Value.str (PySem.Str.ofString "_law_codes") 618, val := PySem.Value.ref 290 }, { hash := PySem.PyData.keyHash P (PySem.Str.ofString "_law_told"), key := PySem.Value.str (PySem.Str.ofString "_law_told") 627, val := PySem.Value.ref 297 }, { hash := PySem.PyData.keyHash P (PySem.Str.ofString "law"), key := PySem.Value.str (PySem.Str.ofString "law") 647, val := PySem.Value.ref 304 }] 38 }
noncomputable def o12p35 : Params → Obj := fun P => { cls := PySem.Value.none, data := PySem.Data.fields #[PySem.Value.int 1 0, PySem.Value.int 0 0, PySem.Value.ref 20, PySem.Value.int 5 0, PySem.Value.int 0 0, PySem.Value.ref 27, PySem.Value.int 11 0, PySem.Value.int 0 0, PySem.Value.ref 48, PySem.Value.int 13 0, PySem.Value.int 0 0, PySem.Value.ref 55, PySem.Value.int 17 0, PySem.Value.int 0 0, PySem.Value.ref 62, PySem.Value.int 22 0, PySem.Value.int 0 0, PySem.Value.ref 69, PySem.Value.int 39 0, PySem.Value.int 0 0, PySem.Value.ref 76, PySem.Value.int 45 0, PySem.Value.int 0 0, PySem.Value.ref 83, PySem.Value.int 49 0, PySem.Value.int 0 0, PySem.Value.ref 90, PySem.Value.int 59 0, PySem.Value.int 0 0, PySem.Value.ref 97, PySem.Value.int 61 0, PySem.Value.int 0 0, PySem.Value.ref 105, PySem.Value.int 70 0, PySem.Value.int 0 0, PySem.Value.ref 113, PySem.Value.int 77 0, PySem.Value.int 0 0, PySem.Value.ref 120, PySem.Value.int 89 0, PySem.Value.int 0 0, PySem.Value.ref 127, PySem.Value.int 93 0, PySem.Value.int 0 0, PySem.Value.ref 134, PySem.Value.int 97 0, PySem.Value.int 0 0, PySem.Value.ref 141, PySem.Value.int 126 0, PySem.Value.int 0 0, PySem.Value.ref 190, PySem.Value.int 155 0, PySem.Value.int 0 0, PySem.Value.ref 237, PySem.Value.int 159 0, PySem.Value.int 0 0, PySem.Value.ref 244, PySem.Value.int 168 0, PySem.Value.int 0 0, PySem.Value.ref 251, PySem.Value.int 174 0, PySem.Value.int 0 0, PySem.Value.ref 258, PySem.Value.int 184 0, PySem.Value.int 0 0, PySem.Value.ref 265, PySem.Value.int 186 0, PySem.Value.int 0 0, PySem.Value.ref 270, PySem.Value.int 198 0, PySem.Value.int 0 0, PySem.Value.ref 277, PySem.Value.int 203 0, PySem.Value.int 0 0, PySem.Value.ref 282, PySem.Value.int 205 0, PySem.Value.int 0 0, PySem.Value.ref 289, PySem.Value.int 216 0, PySem.Value.int 0 0, PySem.Value.ref 296, PySem.Value.int 221 0, PySem.Value.int 0 0, PySem.Value.ref 303] }
noncomputable def o298 : Params → Obj := fun P => { cls := PySem.Value.type "tuple", data := PySem.Data.seq #[] }
noncomputable def o299 : Params → Obj := fun P => { cls := PySem.Value.none, data := PySem.Data.fields #[] }
noncomputable def o300 : Params → Obj := fun P => { cls := PySem.Value.type "tuple", data := PySem.Data.seq #[PySem.Value.str (PySem.Str.ofString "script") 631, PySem.Value.str (PySem.Str.ofString "p") 632, PySem.Value.str (PySem.Str.ofString "q") 633, PySem.Value.str (PySem.Str.ofString "e") 634, PySem.Value.str (PySem.Str.ofString "d") 635, PySem.Value.str (PySem.Str.ofString "n") 636, PySem.Value.str (PySem.Str.ofString "size") 637, PySem.Value.str (PySem.Str.ofString "private") 638, PySem.Value.str (PySem.Str.ofString "name") 639, PySem.Value.str (PySem.Str.ofString "code") 640, PySem.Value.str (PySem.Str.ofString "many") 641, PySem.Value.str (PySem.Str.ofString "told") 642, PySem.Value.str (PySem.Str.ofString "clear") 643, PySem.Value.str (PySem.Str.ofString "due") 644] }
noncomputable def o301 : Params → Obj := fun P => { cls := PySem.Value.type "tuple", data := PySem.Data.seq #[] }
noncomputable def o302 : Params → Obj := fun P => { cls := PySem.Value.none, data := PySem.Data.func { name := PySem.Str.ofString "law", qualname := PySem.Str.ofString "law", params := (fdA (nthS PP.main.body 35)), body := PySem.FuncBody.stmts (fdB (nthS PP.main.body 35)), scope := (fdS (nthS PP.main.body 35)), globals := 0, closure := [], defaults := PySem.Value.none, kwdefaults := PySem.Value.none } }
noncomputable def o303 : Params → Obj := fun P => { cls := PySem.Value.type "code", data := PySem.Data.fields #[PySem.Value.str (PySem.Str.ofString "law") 628, PySem.Value.str (PySem.Str.ofString "law") 629, PySem.Value.str (PySem.Str.ofString "/claim/cut.py") 630, PySem.Value.int 221 0, PySem.Value.int 1 0, PySem.Value.int 0 0, PySem.Value.int 0 0, PySem.Value.int 3 0, PySem.Value.ref 298, PySem.Value.bool Bool.true, PySem.Value.int 181 0, PySem.Value.ref 299, PySem.Value.none, PySem.Value.ref 300, PySem.Value.ref 301, PySem.Value.ref 302, PySem.Value.int 645 0, PySem.Value.int 221 0, PySem.Value.str (PySem.Str.ofString "/claim/cut.py") 646] }
noncomputable def o304 : Params → Obj := fun P => { cls := PySem.Value.type "function", data := PySem.Data.func { name := PySem.Str.ofString "law", qualname := PySem.Str.ofString "law", params := (fdA (nthS PP.main.body 35)), body := PySem.FuncBody.stmts (fdB (nthS PP.main.body 35)), scope := (fdS (nthS PP.main.body 35)), globals := 3, closure := [], defaults := PySem.Value.none, kwdefaults := PySem.Value.none, pyModule := PySem.Value.str (PySem.Str.ofString "law_ys0001_09") 533, code := PySem.Value.ref 303 } }
noncomputable def h_a : Params → Heap := fun P => ⟨⟨[PySem.W.boot_o_0 P, PySem.W.boot_o_1 P, PySem.W.boot_o_2 P, PySem.W.boot_o_3 P, PySem.W.boot_o_4 P, PySem.W.boot_o_5 P, PySem.W.boot_o_6 P, PySem.W.boot_o_7 P, PySem.W.boot_o_8 P, PySem.W.boot_o_9 P, PySem.W.boot_o_10 P, o11 P, o12 P, o13 P, o14 P]⟩, { }⟩
noncomputable def h_f : Params → Heap := fun P => ⟨⟨[PySem.W.boot_o_0 P, PySem.W.boot_o_1 P, PySem.W.boot_o_2 P, o3p35 P, PySem.W.boot_o_4 P, PySem.W.boot_o_5 P, PySem.W.boot_o_6 P, PySem.W.boot_o_7 P, PySem.W.boot_o_8 P, PySem.W.boot_o_9 P, PySem.W.boot_o_10 P, o11 P, o12p35 P, o13 P, o14 P, o15 P, o16 P, o17 P, o18 P, o19 P, o20 P, o21 P, o22 P, o23 P, o24 P, o25 P, o26 P, o27 P, o28 P, o29 P, o30 P, o31 P, o32 P, o33 P, o34 P, o35 P, o36 P, o37 P, o38 P, o39 P, o40 P, o41 P, o42 P, o43 P, o44 P, o45 P, o46 P, o47 P, o48 P, o49 P, o50 P, o51 P, o52 P, o53 P, o54 P, o55 P, o56 P, o57 P, o58 P, o59 P, o60 P, o61 P, o62 P, o63 P, o64 P, o65 P, o66 P, o67 P, o68 P, o69 P, o70 P, o71 P, o72 P, o73 P, o74 P, o75 P, o76 P, o77 P, o78 P, o79 P, o80 P, o81 P, o82 P, o83 P, o84 P, o85 P, o86 P, o87 P, o88 P, o89 P, o90 P, o91 P, o92 P, o93 P, o94 P, o95 P, o96 P, o97 P, o98 P, o99 P, o100 P, o101 P, o102 P, o103 P, o104 P, o105 P, o106 P, o107 P, o108 P, o109 P, o110 P, o111 P, o112 P, o113 P, o114 P, o115 P, o116 P, o117 P, o118 P, o119 P, o120 P, o121 P, o122 P, o123 P, o124 P, o125 P, o126 P, o127 P, o128 P, o129 P, o130 P, o131 P, o132 P, o133 P, o134 P, o135 P, o136 P, o137 P, o138 P, o139 P, o140 P, o141 P, o142 P, o143 P, o144 P, o145 P, o146 P, o147 P, o148 P, o149 P, o150 P, o151 P, o152 P, o153 P, o154 P, o155 P, o156 P, o157 P, o158 P, o159 P, o160 P, o161 P, o162 P, o163 P, o164 P, o165 P, o166 P, o167 P, o168 P, o169 P, o170 P, o171 P, o172 P, o173 P, o174 P, o175 P, o176 P, o177 P, o178 P, o179 P, o180p23 P, o181 P, o182 P, o183 P, o184 P, o185 P, o186 P, o187 P, o188 P, o189 P, o190 P, o191 P, o192 P, o193 P, o194 P, o195 P, o196 P, o197 P, o198 P, o199 P, o200 P, o201 P, o202 P, o203 P, o204 P, o205 P, o206 P, o207 P, o208 P, o209 P, o210 P, o211 P, o212 P, o213 P, o214 P, o215 P, o216 P, o217 P, o218 P, o219 P, o220 P, o221 P, o222 P, o223 P, o224 P, o225 P, o226 P, o227 P, o228 P, o229 P, o230 P, o231 P, o232 P, o233 P, o234 P, o235 P, o236 P, o237 P, o238 P, o239 P, o240 P, o241 P, o242 P, o243 P, o244 P, o245 P, o246 P, o247 P, o248 P, o249 P, o250 P, o251 P, o252 P, o253 P, o254 P, o255 P, o256 P, o257 P, o258 P, o259 P, o260 P, o261 P, o262 P, o263 P, o264 P, o265 P, o266 P, o267 P, o268 P, o269 P, o270 P, o271 P, o272 P, o273 P, o274 P, o275 P, o276 P, o277 P, o278 P, o279 P, o280 P, o281 P, o282 P, o283 P, o284 P, o285 P, o286 P, o287 P, o288 P, o289 P, o290 P, o291 P, o292 P, o293 P, o294 P, o295 P, o296 P, o297 P, o298 P, o299 P, o300 P, o301 P, o302 P, o303 P, o304 P]⟩, { }⟩
noncomputable def t_b : Params → BT := fun P => (.node (PySem.W.boot_o_0 P) (.node (PySem.W.boot_o_1 P) (.node (PySem.W.boot_o_3 P) (.node (PySem.W.boot_o_7 P) .nil .nil) (.node (o11 P) .nil .nil)) (.node (PySem.W.boot_o_5 P) (.node (PySem.W.boot_o_9 P) .nil .nil) (.node (o13 P) .nil .nil))) (.node (PySem.W.boot_o_2 P) (.node (PySem.W.boot_o_4 P) (.node (PySem.W.boot_o_8 P) .nil .nil) (.node (o12 P) .nil .nil)) (.node (PySem.W.boot_o_6 P) (.node (PySem.W.boot_o_10 P) .nil .nil) (.node (o14 P) .nil .nil))))
noncomputable def S_b (w : World) (os : OsState) : SharedT := ⟨t_b w.params, 15, { }, ⟨[]⟩, { }, 187, os⟩
noncomputable def t_p8 : Params → BT := fun P => (.node (PySem.W.boot_o_0 P) (.node (PySem.W.boot_o_1 P) (.node (o3p8 P) (.node (PySem.W.boot_o_7 P) (.node (o15 P) (.node (o31 P) (.node (o63 P) .nil .nil) .nil) (.node (o47 P) .nil .nil)) (.node (o23 P) (.node (o39 P) (.node (o71 P) .nil .nil) .nil) (.node (o55 P) .nil .nil))) (.node (o11 P) (.node (o19 P) (.node (o35 P) (.node (o67 P) .nil .nil) .nil) (.node (o51 P) .nil .nil)) (.node (o27 P) (.node (o43 P) (.node (o75 P) .nil .nil) .nil) (.node (o59 P) .nil .nil)))) (.node (PySem.W.boot_o_5 P) (.node (PySem.W.boot_o_9 P) (.node (o17 P) (.node (o33 P) (.node (o65 P) .nil .nil) .nil) (.node (o49 P) .nil .nil)) (.node (o25 P) (.node (o41 P) (.node (o73 P) .nil .nil) .nil) (.node (o57 P) .nil .nil))) (.node (o13 P) (.node (o21 P) (.node (o37 P) (.node (o69 P) .nil .nil) .nil) (.node (o53 P) .nil .nil)) (.node (o29 P) (.node (o45 P) (.node (o77 P) .nil .nil) .nil) (.node (o61 P) .nil .nil))))) (.node (PySem.W.boot_o_2 P) (.node (PySem.W.boot_o_4 P) (.node (PySem.W.boot_o_8 P) (.node (o16 P) (.node (o32 P) (.node (o64 P) .nil .nil) .nil) (.node (o48 P) .nil .nil)) (.node (o24 P) (.node (o40 P) (.node (o72 P) .nil .nil) .nil) (.node (o56 P) .nil .nil))) (.node (o12p7 P) (.node (o20 P) (.node (o36 P) (.node (o68 P) .nil .nil) .nil) (.node (o52 P) .nil .nil)) (.node (o28 P) (.node (o44 P) (.node (o76 P) .nil .nil) .nil) (.node (o60 P) .nil .nil)))) (.node (PySem.W.boot_o_6 P) (.node (PySem.W.boot_o_10 P) (.node (o18 P) (.node (o34 P) (.node (o66 P) .nil .nil) .nil) (.node (o50 P) .nil .nil)) (.node (o26 P) (.node (o42 P) (.node (o74 P) .nil .nil) .nil) (.node (o58 P) .nil .nil))) (.node (o14 P) (.node (o22 P) (.node (o38 P) (.node (o70 P) .nil .nil) .nil) (.node (o54 P) .nil .nil)) (.node (o30 P) (.node (o46 P) .nil .nil) (.node (o62 P) .nil .nil))))))
noncomputable def S_p8 (w : World) (os : OsState) : SharedT := ⟨t_p8 w.params, 78, { }, ⟨[]⟩, { }, 281, os⟩
noncomputable def t_p21 : Params → BT := fun P => (.node (PySem.W.boot_o_0 P) (.node (PySem.W.boot_o_1 P) (.node (o3p21 P) (.node (PySem.W.boot_o_7 P) (.node (o15 P) (.node (o31 P) (.node (o63 P) (.node (o127 P) .nil .nil) .nil) (.node (o95 P) .nil .nil)) (.node (o47 P) (.node (o79 P) .nil .nil) (.node (o111 P) .nil .nil))) (.node (o23 P) (.node (o39 P) (.node (o71 P) (.node (o135 P) .nil .nil) .nil) (.node (o103 P) .nil .nil)) (.node (o55 P) (.node (o87 P) .nil .nil) (.node (o119 P) .nil .nil)))) (.node (o11 P) (.node (o19 P) (.node (o35 P) (.node (o67 P) (.node (o131 P) .nil .nil) .nil) (.node (o99 P) .nil .nil)) (.node (o51 P) (.node (o83 P) .nil .nil) (.node (o115 P) .nil .nil))) (.node (o27 P) (.node (o43 P) (.node (o75 P) .nil .nil) (.node (o107 P) .nil .nil)) (.node (o59 P) (.node (o91 P) .nil .nil) (.node (o123 P) .nil .nil))))) (.node (PySem.W.boot_o_5 P) (.node (PySem.W.boot_o_9 P) (.node (o17 P) (.node (o33 P) (.node (o65 P) (.node (o129 P) .nil .nil) .nil) (.node (o97 P) .nil .nil)) (.node (o49 P) (.node (o81 P) .nil .nil) (.node (o113 P) .nil .nil))) (.node (o25 P) (.node (o41 P) (.node (o73 P) .nil .nil) (.node (o105 P) .nil .nil)) (.node (o57 P) (.node (o89 P) .nil .nil) (.node (o121 P) .nil .nil)))) (.node (o13 P) (.node (o21 P) (.node (o37 P) (.node (o69 P) (.node (o133 P) .nil .nil) .nil) (.node (o101 P) .nil .nil)) (.node (o53 P) (.node (o85 P) .nil .nil) (.node (o117 P) .nil .nil))) (.node (o29 P) (.node (o45 P) (.node (o77 P) .nil .nil) (.node (o109 P) .nil .nil)) (.node (o61 P) (.node (o93 P) .nil .nil) (.node (o125 P) .nil .nil)))))) (.node (PySem.W.boot_o_2 P) (.node (PySem.W.boot_o_4 P) (.node (PySem.W.boot_o_8 P) (.node (o16 P) (.node (o32 P) (.node (o64 P) (.node (o128 P) .nil .nil) .nil) (.node (o96 P) .nil .nil)) (.node (o48 P) (.node (o80 P) .nil .nil) (.node (o112 P) .nil .nil))) (.node (o24 P) (.node (o40 P) (.node (o72 P) .nil .nil) (.node (o104 P) .nil .nil)) (.node (o56 P) (.node (o88 P) .nil .nil) (.node (o120 P) .nil .nil)))) (.node (o12p20 P) (.node (o20 P) (.node (o36 P) (.node (o68 P) (.node (o132 P) .nil .nil) .nil) (.node (o100 P) .nil .nil)) (.node (o52 P) (.node (o84 P) .nil .nil) (.node (o116 P) .nil .nil))) (.node (o28 P) (.node (o44 P) (.node (o76 P) .nil .nil) (.node (o108 P) .nil .nil)) (.node (o60 P) (.node (o92 P) .nil .nil) (.node (o124 P) .nil .nil))))) (.node (PySem.W.boot_o_6 P) (.node (PySem.W.boot_o_10 P) (.node (o18 P) (.node (o34 P) (.node (o66 P) (.node (o130 P) .nil .nil) .nil) (.node (o98 P) .nil .nil)) (.node (o50 P) (.node (o82 P) .nil .nil) (.node (o114 P) .nil .nil))) (.node (o26 P) (.node (o42 P) (.node (o74 P) .nil .nil) (.node (o106 P) .nil .nil)) (.node (o58 P) (.node (o90 P) .nil .nil) (.node (o122 P) .nil .nil)))) (.node (o14 P) (.node (o22 P) (.node (o38 P) (.node (o70 P) (.node (o134 P) .nil .nil) .nil) (.node (o102 P) .nil .nil)) (.node (o54 P) (.node (o86 P) .nil .nil) (.node (o118 P) .nil .nil))) (.node (o30 P) (.node (o46 P) (.node (o78 P) .nil .nil) (.node (o110 P) .nil .nil)) (.node (o62 P) (.node (o94 P) .nil .nil) (.node (o126 P) .nil .nil)))))))
noncomputable def S_p21 (w : World) (os : OsState) : SharedT := ⟨t_p21 w.params, 136, { }, ⟨[]⟩, { }, 395, os⟩
noncomputable def t_p22 : Params → BT := fun P => (.node (PySem.W.boot_o_0 P) (.node (PySem.W.boot_o_1 P) (.node (o3p22 P) (.node (PySem.W.boot_o_7 P) (.node (o15 P) (.node (o31 P) (.node (o63 P) (.node (o127 P) .nil .nil) .nil) (.node (o95 P) (.node (o159 P) .nil .nil) .nil)) (.node (o47 P) (.node (o79 P) (.node (o143 P) .nil .nil) .nil) (.node (o111 P) (.node (o175 P) .nil .nil) .nil))) (.node (o23 P) (.node (o39 P) (.node (o71 P) (.node (o135 P) .nil .nil) .nil) (.node (o103 P) (.node (o167 P) .nil .nil) .nil)) (.node (o55 P) (.node (o87 P) (.node (o151 P) .nil .nil) .nil) (.node (o119 P) (.node (o183 P) .nil .nil) .nil)))) (.node (o11 P) (.node (o19 P) (.node (o35 P) (.node (o67 P) (.node (o131 P) .nil .nil) .nil) (.node (o99 P) (.node (o163 P) .nil .nil) .nil)) (.node (o51 P) (.node (o83 P) (.node (o147 P) .nil .nil) .nil) (.node (o115 P) (.node (o179 P) .nil .nil) .nil))) (.node (o27 P) (.node (o43 P) (.node (o75 P) (.node (o139 P) .nil .nil) .nil) (.node (o107 P) (.node (o171 P) .nil .nil) .nil)) (.node (o59 P) (.node (o91 P) (.node (o155 P) .nil .nil) .nil) (.node (o123 P) .nil .nil))))) (.node (PySem.W.boot_o_5 P) (.node (PySem.W.boot_o_9 P) (.node (o17 P) (.node (o33 P) (.node (o65 P) (.node (o129 P) .nil .nil) .nil) (.node (o97 P) (.node (o161 P) .nil .nil) .nil)) (.node (o49 P) (.node (o81 P) (.node (o145 P) .nil .nil) .nil) (.node (o113 P) (.node (o177 P) .nil .nil) .nil))) (.node (o25 P) (.node (o41 P) (.node (o73 P) (.node (o137 P) .nil .nil) .nil) (.node (o105 P) (.node (o169 P) .nil .nil) .nil)) (.node (o57 P) (.node (o89 P) (.node (o153 P) .nil .nil) .nil) (.node (o121 P) .nil .nil)))) (.node (o13 P) (.node (o21 P) (.node (o37 P) (.node (o69 P) (.node (o133 P) .nil .nil) .nil) (.node (o101 P) (.node (o165 P) .nil .nil) .nil)) (.node (o53 P) (.node (o85 P) (.node (o149 P) .nil .nil) .nil) (.node (o117 P) (.node (o181 P) .nil .nil) .nil))) (.node (o29 P) (.node (o45 P) (.node (o77 P) (.node (o141 P) .nil .nil) .nil) (.node (o109 P) (.node (o173 P) .nil .nil) .nil)) (.node (o61 P) (.node (o93 P) (.node (o157 P) .nil .nil) .nil) (.node (o125 P) .nil .nil)))))) (.node (PySem.W.boot_o_2 P) (.node (PySem.W.boot_o_4 P) (.node (PySem.W.boot_o_8 P) (.node (o16 P) (.node (o32 P) (.node (o64 P) (.node (o128 P) .nil .nil) .nil) (.node (o96 P) (.node (o160 P) .nil .nil) .nil)) (.node (o48 P) (.node (o80 P) (.node (o144 P) .nil .nil) .nil) (.node (o112 P) (.node (o176 P) .nil .nil) .nil))) (.node (o24 P) (.node (o40 P) (.node (o72 P) (.node (o136 P) .nil .nil) .nil) (.node (o104 P) (.node (o168 P) .nil .nil) .nil)) (.node (o56 P) (.node (o88 P) (.node (o152 P) .nil .nil) .nil) (.node (o120 P) (.node (o184 P) .nil .nil) .nil)))) (.node (o12p22 P) (.node (o20 P) (.node (o36 P) (.node (o68 P) (.node (o132 P) .nil .nil) .nil) (.node (o100 P) (.node (o164 P) .nil .nil) .nil)) (.node (o52 P) (.node (o84 P) (.node (o148 P) .nil .nil) .nil) (.node (o116 P) (.node (o180 P) .nil .nil) .nil))) (.node (o28 P) (.node (o44 P) (.node (o76 P) (.node (o140 P) .nil .nil) .nil) (.node (o108 P) (.node (o172 P) .nil .nil) .nil)) (.node (o60 P) (.node (o92 P) (.node (o156 P) .nil .nil) .nil) (.node (o124 P) .nil .nil))))) (.node (PySem.W.boot_o_6 P) (.node (PySem.W.boot_o_10 P) (.node (o18 P) (.node (o34 P) (.node (o66 P) (.node (o130 P) .nil .nil) .nil) (.node (o98 P) (.node (o162 P) .nil .nil) .nil)) (.node (o50 P) (.node (o82 P) (.node (o146 P) .nil .nil) .nil) (.node (o114 P) (.node (o178 P) .nil .nil) .nil))) (.node (o26 P) (.node (o42 P) (.node (o74 P) (.node (o138 P) .nil .nil) .nil) (.node (o106 P) (.node (o170 P) .nil .nil) .nil)) (.node (o58 P) (.node (o90 P) (.node (o154 P) .nil .nil) .nil) (.node (o122 P) .nil .nil)))) (.node (o14 P) (.node (o22 P) (.node (o38 P) (.node (o70 P) (.node (o134 P) .nil .nil) .nil) (.node (o102 P) (.node (o166 P) .nil .nil) .nil)) (.node (o54 P) (.node (o86 P) (.node (o150 P) .nil .nil) .nil) (.node (o118 P) (.node (o182 P) .nil .nil) .nil))) (.node (o30 P) (.node (o46 P) (.node (o78 P) (.node (o142 P) .nil .nil) .nil) (.node (o110 P) (.node (o174 P) .nil .nil) .nil)) (.node (o62 P) (.node (o94 P) (.node (o158 P) .nil .nil) .nil) (.node (o126 P) .nil .nil)))))))
noncomputable def S_p22 (w : World) (os : OsState) : SharedT := ⟨t_p22 w.params, 185, { }, ⟨[]⟩, { }, 463, os⟩
noncomputable def t_p25 : Params → BT := fun P => (.node (PySem.W.boot_o_0 P) (.node (PySem.W.boot_o_1 P) (.node (o3p25 P) (.node (PySem.W.boot_o_7 P) (.node (o15 P) (.node (o31 P) (.node (o63 P) (.node (o127 P) .nil .nil) (.node (o191 P) .nil .nil)) (.node (o95 P) (.node (o159 P) .nil .nil) (.node (o223 P) .nil .nil))) (.node (o47 P) (.node (o79 P) (.node (o143 P) .nil .nil) (.node (o207 P) .nil .nil)) (.node (o111 P) (.node (o175 P) .nil .nil) .nil))) (.node (o23 P) (.node (o39 P) (.node (o71 P) (.node (o135 P) .nil .nil) (.node (o199 P) .nil .nil)) (.node (o103 P) (.node (o167 P) .nil .nil) (.node (o231 P) .nil .nil))) (.node (o55 P) (.node (o87 P) (.node (o151 P) .nil .nil) (.node (o215 P) .nil .nil)) (.node (o119 P) (.node (o183 P) .nil .nil) .nil)))) (.node (o11 P) (.node (o19 P) (.node (o35 P) (.node (o67 P) (.node (o131 P) .nil .nil) (.node (o195 P) .nil .nil)) (.node (o99 P) (.node (o163 P) .nil .nil) (.node (o227 P) .nil .nil))) (.node (o51 P) (.node (o83 P) (.node (o147 P) .nil .nil) (.node (o211 P) .nil .nil)) (.node (o115 P) (.node (o179 P) .nil .nil) .nil))) (.node (o27 P) (.node (o43 P) (.node (o75 P) (.node (o139 P) .nil .nil) (.node (o203 P) .nil .nil)) (.node (o107 P) (.node (o171 P) .nil .nil) (.node (o235 P) .nil .nil))) (.node (o59 P) (.node (o91 P) (.node (o155 P) .nil .nil) (.node (o219 P) .nil .nil)) (.node (o123 P) (.node (o187 P) .nil .nil) .nil))))) (.node (PySem.W.boot_o_5 P) (.node (PySem.W.boot_o_9 P) (.node (o17 P) (.node (o33 P) (.node (o65 P) (.node (o129 P) .nil .nil) (.node (o193 P) .nil .nil)) (.node (o97 P) (.node (o161 P) .nil .nil) (.node (o225 P) .nil .nil))) (.node (o49 P) (.node (o81 P) (.node (o145 P) .nil .nil) (.node (o209 P) .nil .nil)) (.node (o113 P) (.node (o177 P) .nil .nil) .nil))) (.node (o25 P) (.node (o41 P) (.node (o73 P) (.node (o137 P) .nil .nil) (.node (o201 P) .nil .nil)) (.node (o105 P) (.node (o169 P) .nil .nil) (.node (o233 P) .nil .nil))) (.node (o57 P) (.node (o89 P) (.node (o153 P) .nil .nil) (.node (o217 P) .nil .nil)) (.node (o121 P) (.node (o185 P) .nil .nil) .nil)))) (.node (o13 P) (.node (o21 P) (.node (o37 P) (.node (o69 P) (.node (o133 P) .nil .nil) (.node (o197 P) .nil .nil)) (.node (o101 P) (.node (o165 P) .nil .nil) (.node (o229 P) .nil .nil))) (.node (o53 P) (.node (o85 P) (.node (o149 P) .nil .nil) (.node (o213 P) .nil .nil)) (.node (o117 P) (.node (o181 P) .nil .nil) .nil))) (.node (o29 P) (.node (o45 P) (.node (o77 P) (.node (o141 P) .nil .nil) (.node (o205 P) .nil .nil)) (.node (o109 P) (.node (o173 P) .nil .nil) (.node (o237 P) .nil .nil))) (.node (o61 P) (.node (o93 P) (.node (o157 P) .nil .nil) (.node (o221 P) .nil .nil)) (.node (o125 P) (.node (o189 P) .nil .nil) .nil)))))) (.node (PySem.W.boot_o_2 P) (.node (PySem.W.boot_o_4 P) (.node (PySem.W.boot_o_8 P) (.node (o16 P) (.node (o32 P) (.node (o64 P) (.node (o128 P) .nil .nil) (.node (o192 P) .nil .nil)) (.node (o96 P) (.node (o160 P) .nil .nil) (.node (o224 P) .nil .nil))) (.node (o48 P) (.node (o80 P) (.node (o144 P) .nil .nil) (.node (o208 P) .nil .nil)) (.node (o112 P) (.node (o176 P) .nil .nil) .nil))) (.node (o24 P) (.node (o40 P) (.node (o72 P) (.node (o136 P) .nil .nil) (.node (o200 P) .nil .nil)) (.node (o104 P) (.node (o168 P) .nil .nil) (.node (o232 P) .nil .nil))) (.node (o56 P) (.node (o88 P) (.node (o152 P) .nil .nil) (.node (o216 P) .nil .nil)) (.node (o120 P) (.node (o184 P) .nil .nil) .nil)))) (.node (o12p25 P) (.node (o20 P) (.node (o36 P) (.node (o68 P) (.node (o132 P) .nil .nil) (.node (o196 P) .nil .nil)) (.node (o100 P) (.node (o164 P) .nil .nil) (.node (o228 P) .nil .nil))) (.node (o52 P) (.node (o84 P) (.node (o148 P) .nil .nil) (.node (o212 P) .nil .nil)) (.node (o116 P) (.node (o180p23 P) .nil .nil) .nil))) (.node (o28 P) (.node (o44 P) (.node (o76 P) (.node (o140 P) .nil .nil) (.node (o204 P) .nil .nil)) (.node (o108 P) (.node (o172 P) .nil .nil) (.node (o236 P) .nil .nil))) (.node (o60 P) (.node (o92 P) (.node (o156 P) .nil .nil) (.node (o220 P) .nil .nil)) (.node (o124 P) (.node (o188 P) .nil .nil) .nil))))) (.node (PySem.W.boot_o_6 P) (.node (PySem.W.boot_o_10 P) (.node (o18 P) (.node (o34 P) (.node (o66 P) (.node (o130 P) .nil .nil) (.node (o194 P) .nil .nil)) (.node (o98 P) (.node (o162 P) .nil .nil) (.node (o226 P) .nil .nil))) (.node (o50 P) (.node (o82 P) (.node (o146 P) .nil .nil) (.node (o210 P) .nil .nil)) (.node (o114 P) (.node (o178 P) .nil .nil) .nil))) (.node (o26 P) (.node (o42 P) (.node (o74 P) (.node (o138 P) .nil .nil) (.node (o202 P) .nil .nil)) (.node (o106 P) (.node (o170 P) .nil .nil) (.node (o234 P) .nil .nil))) (.node (o58 P) (.node (o90 P) (.node (o154 P) .nil .nil) (.node (o218 P) .nil .nil)) (.node (o122 P) (.node (o186 P) .nil .nil) .nil)))) (.node (o14 P) (.node (o22 P) (.node (o38 P) (.node (o70 P) (.node (o134 P) .nil .nil) (.node (o198 P) .nil .nil)) (.node (o102 P) (.node (o166 P) .nil .nil) (.node (o230 P) .nil .nil))) (.node (o54 P) (.node (o86 P) (.node (o150 P) .nil .nil) (.node (o214 P) .nil .nil)) (.node (o118 P) (.node (o182 P) .nil .nil) .nil))) (.node (o30 P) (.node (o46 P) (.node (o78 P) (.node (o142 P) .nil .nil) (.node (o206 P) .nil .nil)) (.node (o110 P) (.node (o174 P) .nil .nil) (.node (o238 P) .nil .nil))) (.node (o62 P) (.node (o94 P) (.node (o158 P) .nil .nil) (.node (o222 P) .nil .nil)) (.node (o126 P) (.node (o190 P) .nil .nil) .nil)))))))
noncomputable def S_p25 (w : World) (os : OsState) : SharedT := ⟨t_p25 w.params, 239, { }, ⟨[]⟩, { }, 543, os⟩
noncomputable def t_p35 : Params → BT := fun P => (.node (PySem.W.boot_o_0 P) (.node (PySem.W.boot_o_1 P) (.node (o3p35 P) (.node (PySem.W.boot_o_7 P) (.node (o15 P) (.node (o31 P) (.node (o63 P) (.node (o127 P) (.node (o255 P) .nil .nil) .nil) (.node (o191 P) .nil .nil)) (.node (o95 P) (.node (o159 P) (.node (o287 P) .nil .nil) .nil) (.node (o223 P) .nil .nil))) (.node (o47 P) (.node (o79 P) (.node (o143 P) (.node (o271 P) .nil .nil) .nil) (.node (o207 P) .nil .nil)) (.node (o111 P) (.node (o175 P) (.node (o303 P) .nil .nil) .nil) (.node (o239 P) .nil .nil)))) (.node (o23 P) (.node (o39 P) (.node (o71 P) (.node (o135 P) (.node (o263 P) .nil .nil) .nil) (.node (o199 P) .nil .nil)) (.node (o103 P) (.node (o167 P) (.node (o295 P) .nil .nil) .nil) (.node (o231 P) .nil .nil))) (.node (o55 P) (.node (o87 P) (.node (o151 P) (.node (o279 P) .nil .nil) .nil) (.node (o215 P) .nil .nil)) (.node (o119 P) (.node (o183 P) .nil .nil) (.node (o247 P) .nil .nil))))) (.node (o11 P) (.node (o19 P) (.node (o35 P) (.node (o67 P) (.node (o131 P) (.node (o259 P) .nil .nil) .nil) (.node (o195 P) .nil .nil)) (.node (o99 P) (.node (o163 P) (.node (o291 P) .nil .nil) .nil) (.node (o227 P) .nil .nil))) (.node (o51 P) (.node (o83 P) (.node (o147 P) (.node (o275 P) .nil .nil) .nil) (.node (o211 P) .nil .nil)) (.node (o115 P) (.node (o179 P) .nil .nil) (.node (o243 P) .nil .nil)))) (.node (o27 P) (.node (o43 P) (.node (o75 P) (.node (o139 P) (.node (o267 P) .nil .nil) .nil) (.node (o203 P) .nil .nil)) (.node (o107 P) (.node (o171 P) (.node (o299 P) .nil .nil) .nil) (.node (o235 P) .nil .nil))) (.node (o59 P) (.node (o91 P) (.node (o155 P) (.node (o283 P) .nil .nil) .nil) (.node (o219 P) .nil .nil)) (.node (o123 P) (.node (o187 P) .nil .nil) (.node (o251 P) .nil .nil)))))) (.node (PySem.W.boot_o_5 P) (.node (PySem.W.boot_o_9 P) (.node (o17 P) (.node (o33 P) (.node (o65 P) (.node (o129 P) (.node (o257 P) .nil .nil) .nil) (.node (o193 P) .nil .nil)) (.node (o97 P) (.node (o161 P) (.node (o289 P) .nil .nil) .nil) (.node (o225 P) .nil .nil))) (.node (o49 P) (.node (o81 P) (.node (o145 P) (.node (o273 P) .nil .nil) .nil) (.node (o209 P) .nil .nil)) (.node (o113 P) (.node (o177 P) .nil .nil) (.node (o241 P) .nil .nil)))) (.node (o25 P) (.node (o41 P) (.node (o73 P) (.node (o137 P) (.node (o265 P) .nil .nil) .nil) (.node (o201 P) .nil .nil)) (.node (o105 P) (.node (o169 P) (.node (o297 P) .nil .nil) .nil) (.node (o233 P) .nil .nil))) (.node (o57 P) (.node (o89 P) (.node (o153 P) (.node (o281 P) .nil .nil) .nil) (.node (o217 P) .nil .nil)) (.node (o121 P) (.node (o185 P) .nil .nil) (.node (o249 P) .nil .nil))))) (.node (o13 P) (.node (o21 P) (.node (o37 P) (.node (o69 P) (.node (o133 P) (.node (o261 P) .nil .nil) .nil) (.node (o197 P) .nil .nil)) (.node (o101 P) (.node (o165 P) (.node (o293 P) .nil .nil) .nil) (.node (o229 P) .nil .nil))) (.node (o53 P) (.node (o85 P) (.node (o149 P) (.node (o277 P) .nil .nil) .nil) (.node (o213 P) .nil .nil)) (.node (o117 P) (.node (o181 P) .nil .nil) (.node (o245 P) .nil .nil)))) (.node (o29 P) (.node (o45 P) (.node (o77 P) (.node (o141 P) (.node (o269 P) .nil .nil) .nil) (.node (o205 P) .nil .nil)) (.node (o109 P) (.node (o173 P) (.node (o301 P) .nil .nil) .nil) (.node (o237 P) .nil .nil))) (.node (o61 P) (.node (o93 P) (.node (o157 P) (.node (o285 P) .nil .nil) .nil) (.node (o221 P) .nil .nil)) (.node (o125 P) (.node (o189 P) .nil .nil) (.node (o253 P) .nil .nil))))))) (.node (PySem.W.boot_o_2 P) (.node (PySem.W.boot_o_4 P) (.node (PySem.W.boot_o_8 P) (.node (o16 P) (.node (o32 P) (.node (o64 P) (.node (o128 P) (.node (o256 P) .nil .nil) .nil) (.node (o192 P) .nil .nil)) (.node (o96 P) (.node (o160 P) (.node (o288 P) .nil .nil) .nil) (.node (o224 P) .nil .nil))) (.node (o48 P) (.node (o80 P) (.node (o144 P) (.node (o272 P) .nil .nil) .nil) (.node (o208 P) .nil .nil)) (.node (o112 P) (.node (o176 P) (.node (o304 P) .nil .nil) .nil) (.node (o240 P) .nil .nil)))) (.node (o24 P) (.node (o40 P) (.node (o72 P) (.node (o136 P) (.node (o264 P) .nil .nil) .nil) (.node (o200 P) .nil .nil)) (.node (o104 P) (.node (o168 P) (.node (o296 P) .nil .nil) .nil) (.node (o232 P) .nil .nil))) (.node (o56 P) (.node (o88 P) (.node (o152 P) (.node (o280 P) .nil .nil) .nil) (.node (o216 P) .nil .nil)) (.node (o120 P) (.node (o184 P) .nil .nil) (.node (o248 P) .nil .nil))))) (.node (o12p35 P) (.node (o20 P) (.node (o36 P) (.node (o68 P) (.node (o132 P) (.node (o260 P) .nil .nil) .nil) (.node (o196 P) .nil .nil)) (.node (o100 P) (.node (o164 P) (.node (o292 P) .nil .nil) .nil) (.node (o228 P) .nil .nil))) (.node (o52 P) (.node (o84 P) (.node (o148 P) (.node (o276 P) .nil .nil) .nil) (.node (o212 P) .nil .nil)) (.node (o116 P) (.node (o180p23 P) .nil .nil) (.node (o244 P) .nil .nil)))) (.node (o28 P) (.node (o44 P) (.node (o76 P) (.node (o140 P) (.node (o268 P) .nil .nil) .nil) (.node (o204 P) .nil .nil)) (.node (o108 P) (.node (o172 P) (.node (o300 P) .nil .nil) .nil) (.node (o236 P) .nil .nil))) (.node (o60 P) (.node (o92 P) (.node (o156 P) (.node (o284 P) .nil .nil) .nil) (.node (o220 P) .nil .nil)) (.node (o124 P) (.node (o188 P) .nil .nil) (.node (o252 P) .nil .nil)))))) (.node (PySem.W.boot_o_6 P) (.node (PySem.W.boot_o_10 P) (.node (o18 P) (.node (o34 P) (.node (o66 P) (.node (o130 P) (.node (o258 P) .nil .nil) .nil) (.node (o194 P) .nil .nil)) (.node (o98 P) (.node (o162 P) (.node (o290 P) .nil .nil) .nil) (.node (o226 P) .nil .nil))) (.node (o50 P) (.node (o82 P) (.node (o146 P) (.node (o274 P) .nil .nil) .nil) (.node (o210 P) .nil .nil)) (.node (o114 P) (.node (o178 P) .nil .nil) (.node (o242 P) .nil .nil)))) (.node (o26 P) (.node (o42 P) (.node (o74 P) (.node (o138 P) (.node (o266 P) .nil .nil) .nil) (.node (o202 P) .nil .nil)) (.node (o106 P) (.node (o170 P) (.node (o298 P) .nil .nil) .nil) (.node (o234 P) .nil .nil))) (.node (o58 P) (.node (o90 P) (.node (o154 P) (.node (o282 P) .nil .nil) .nil) (.node (o218 P) .nil .nil)) (.node (o122 P) (.node (o186 P) .nil .nil) (.node (o250 P) .nil .nil))))) (.node (o14 P) (.node (o22 P) (.node (o38 P) (.node (o70 P) (.node (o134 P) (.node (o262 P) .nil .nil) .nil) (.node (o198 P) .nil .nil)) (.node (o102 P) (.node (o166 P) (.node (o294 P) .nil .nil) .nil) (.node (o230 P) .nil .nil))) (.node (o54 P) (.node (o86 P) (.node (o150 P) (.node (o278 P) .nil .nil) .nil) (.node (o214 P) .nil .nil)) (.node (o118 P) (.node (o182 P) .nil .nil) (.node (o246 P) .nil .nil)))) (.node (o30 P) (.node (o46 P) (.node (o78 P) (.node (o142 P) (.node (o270 P) .nil .nil) .nil) (.node (o206 P) .nil .nil)) (.node (o110 P) (.node (o174 P) (.node (o302 P) .nil .nil) .nil) (.node (o238 P) .nil .nil))) (.node (o62 P) (.node (o94 P) (.node (o158 P) (.node (o286 P) .nil .nil) .nil) (.node (o222 P) .nil .nil)) (.node (o126 P) (.node (o190 P) .nil .nil) (.node (o254 P) .nil .nil))))))))
noncomputable def S_p35 (w : World) (os : OsState) : SharedT := ⟨t_p35 w.params, 305, { }, ⟨[]⟩, { }, 648, os⟩
noncomputable def eE : Env := { scope := PP.main.scope, locals := mainNs, globals := mainNs, cells := [], code := PySem.Value.ref 13, frame := some 14 }
noncomputable def g_0 : List Stmt := [nthS PP.main.body 0, nthS PP.main.body 1, nthS PP.main.body 2, nthS PP.main.body 3, nthS PP.main.body 4, nthS PP.main.body 5, nthS PP.main.body 6, nthS PP.main.body 7, nthS PP.main.body 8]
noncomputable def g_1 : List Stmt := [nthS PP.main.body 9, nthS PP.main.body 10, nthS PP.main.body 11, nthS PP.main.body 12, nthS PP.main.body 13, nthS PP.main.body 14, nthS PP.main.body 15, nthS PP.main.body 16, nthS PP.main.body 17, nthS PP.main.body 18, nthS PP.main.body 19, nthS PP.main.body 20, nthS PP.main.body 21]
noncomputable def g_2 : List Stmt := [nthS PP.main.body 22]
noncomputable def g_3 : List Stmt := [nthS PP.main.body 23, nthS PP.main.body 24, nthS PP.main.body 25]
noncomputable def g_4 : List Stmt := [nthS PP.main.body 26, nthS PP.main.body 27, nthS PP.main.body 28, nthS PP.main.body 29, nthS PP.main.body 30, nthS PP.main.body 31, nthS PP.main.body 32, nthS PP.main.body 33, nthS PP.main.body 34, nthS PP.main.body 35]
noncomputable abbrev bE : List Stmt := g_0 ++ (g_1 ++ (g_2 ++ (g_3 ++ (g_4 ++ ([])))))
noncomputable abbrev cE : Code := .body bE eE
theorem hOpen : ∀ w : World, (fencedOpening treeTable PP w 4078).map (fun s => (s.heap, s.gens, s.drawn, s.toks)) = some (PySem.W.boot_heap w.params, Array.mk [], PySem.W.boot_drawn, PySem.W.boot_toks) := boot_open (by kernel_rfl) (by decide) (fun s => by kernel_rfl)
theorem hSize : ∀ w : World, ((PySem.W.boot_heap w.params).isNs mainGlobals && (Array.mk [] : Array GenState).size == 0, (PySem.W.boot_heap w.params).objs.size, (PySem.W.boot_heap w.params).nsMap mainGlobals "__annotations__") = (true, 11, (Option.some (PySem.Value.ref 6) : Option Value)) := fun w => by kernel_rfl
theorem hPre (w : World) (os : OsState) : topGo treeTable PP w 11 (Option.some (PySem.Value.ref 6) : Option Value) 12 ⟨PySem.W.boot_heap w.params, Array.mk [], PySem.W.boot_drawn, PySem.W.boot_toks, os⟩ (topStub PP) = some (⟨h_a w.params, Array.mk [], { }, 187, os⟩, ⟨denote treeTable cE, cE, { line := 0, col := 0, endLine := 0, endCol := 0 }, [topFrame { line := 0, col := 0, endLine := 0, endCol := 0 }]⟩) := by kernel_rfl
theorem hBlock (w : World) (os : OsState) : segRun treeTable PP w 11 (Option.some (PySem.Value.ref 6) : Option Value) 1 1 ⟨h_a w.params, Array.mk [], { }, 187, os⟩ (blockOf bE eE cE { line := 0, col := 0, endLine := 0, endCol := 0 } [topFrame { line := 0, col := 0, endLine := 0, endCol := 0 }]) = some (.next, (S_b w os).abs, cE, { line := 0, col := 0, endLine := 0, endCol := 0 }) := by kernel_rfl
theorem hG_0 (w : World) (os : OsState) : segRunT treeTable PP w 11 (Option.some (PySem.Value.ref 6) : Option Value) 1 433 (S_b w os) (piecesOf g_0 eE cE { line := 0, col := 0, endLine := 0, endCol := 0 } [topFrame { line := 0, col := 0, endLine := 0, endCol := 0 }]) = some (.next, S_p8 w os, cE, { line := 44, col := 0, endLine := 44, endCol := 8 }) := by kernel_rfl
theorem hG_1 : ∀ (w : World) (os : OsState), segRunT treeTable PP w 11 (Option.some (PySem.Value.ref 6) : Option Value) 1 437 (S_p8 w os) (piecesOf g_1 eE cE { line := 44, col := 0, endLine := 44, endCol := 8 } [topFrame { line := 0, col := 0, endLine := 0, endCol := 0 }]) = some (.next, S_p21 w os, cE, { line := 96, col := 0, endLine := 96, endCol := 8 }) := byRow2 "special-get-raises" (fun w os => by kernel_rfl) (fun w os => by kernel_rfl)
theorem hG_2 (w : World) (os : OsState) : segRunT treeTable PP w 11 (Option.some (PySem.Value.ref 6) : Option Value) 1 358 (S_p21 w os) (piecesOf g_2 eE cE { line := 96, col := 0, endLine := 96, endCol := 8 } [topFrame { line := 0, col := 0, endLine := 0, endCol := 0 }]) = some (.next, S_p22 w os, cE, { line := 97, col := 0, endLine := 125, endCol := 53 }) := by kernel_rfl
theorem hG_3 (w : World) (os : OsState) : segRunT treeTable PP w 11 (Option.some (PySem.Value.ref 6) : Option Value) 1 431 (S_p22 w os) (piecesOf g_3 eE cE { line := 97, col := 0, endLine := 125, endCol := 53 } [topFrame { line := 0, col := 0, endLine := 0, endCol := 0 }]) = some (.next, S_p25 w os, cE, { line := 155, col := 0, endLine := 158, endCol := 20 }) := by kernel_rfl
theorem hG_4 (w : World) (os : OsState) : segRunT treeTable PP w 11 (Option.some (PySem.Value.ref 6) : Option Value) 1 322 (S_p25 w os) (piecesOf g_4 eE cE { line := 155, col := 0, endLine := 158, endCol := 20 } [topFrame { line := 0, col := 0, endLine := 0, endCol := 0 }]) = some (.next, S_p35 w os, cE, { line := 221, col := 0, endLine := 235, endCol := 90 }) := by kernel_rfl
theorem hFin (w : World) (os : OsState) : topRun treeTable PP w 11 (Option.some (PySem.Value.ref 6) : Option Value) 2 (S_p35 w os).abs ⟨doneF .next, cE, { line := 221, col := 0, endLine := 235, endCol := 90 }, [topFrame { line := 0, col := 0, endLine := 0, endCol := 0 }]⟩ = some ⟨h_f w.params, Array.mk [], { }, 648, os⟩ := by kernel_rfl
theorem hRun : ∀ (w : World) (os : OsState), topRun treeTable PP w 11 (Option.some (PySem.Value.ref 6) : Option Value) (12 + (1 + (433 + (437 + (358 + (431 + (322 + 2))))))) ⟨PySem.W.boot_heap w.params, Array.mk [], PySem.W.boot_drawn, PySem.W.boot_toks, os⟩ (topStub PP) = some ⟨h_f w.params, Array.mk [], { }, 648, os⟩ := fun w os => go_top (hPre w os) (piece_block (hBlock w os) (piece_app (segRun_of (hG_0 w os)) (piece_app (segRun_of (hG_1 w os)) (piece_app (segRun_of (hG_2 w os)) (piece_app (segRun_of (hG_3 w os)) (piece_app (segRun_of (hG_4 w os)) (piece_nil (hFin w os))))))))
noncomputable def K : Params → Frag := (fun (n0 : Str) (a0 : Arguments) (b0 : List Stmt) (d0 : List Expr) (r0 : Option Expr) (t0 : List TypeParam) (s0 : PySem.Scope) (u0 : Option PySem.Scope) (m0 : Str) (p0 : Pos) (_ : (nthS PP.main.body 0) = .FunctionDef n0 a0 b0 d0 r0 t0 s0 u0 m0 p0) (n1 : Str) (a1 : Arguments) (b1 : List Stmt) (d1 : List Expr) (r1 : Option Expr) (t1 : List TypeParam) (s1 : PySem.Scope) (u1 : Option PySem.Scope) (m1 : Str) (p1 : Pos) (_ : (nthS (fdB (nthS PP.main.body 2)) 0) = .FunctionDef n1 a1 b1 d1 r1 t1 s1 u1 m1 p1) (n2 : Str) (a2 : Arguments) (b2 : List Stmt) (d2 : List Expr) (r2 : Option Expr) (t2 : List TypeParam) (s2 : PySem.Scope) (u2 : Option PySem.Scope) (m2 : Str) (p2 : Pos) (_ : (nthS PP.main.body 3) = .FunctionDef n2 a2 b2 d2 r2 t2 s2 u2 m2 p2) (n3 : Str) (a3 : Arguments) (b3 : List Stmt) (d3 : List Expr) (r3 : Option Expr) (t3 : List TypeParam) (s3 : PySem.Scope) (u3 : Option PySem.Scope) (m3 : Str) (p3 : Pos) (_ : (nthS PP.main.body 4) = .FunctionDef n3 a3 b3 d3 r3 t3 s3 u3 m3 p3) (n4 : Str) (a4 : Arguments) (b4 : List Stmt) (d4 : List Expr) (r4 : Option Expr) (t4 : List TypeParam) (s4 : PySem.Scope) (u4 : Option PySem.Scope) (m4 : Str) (p4 : Pos) (_ : (nthS PP.main.body 5) = .FunctionDef n4 a4 b4 d4 r4 t4 s4 u4 m4 p4) (n5 : Str) (a5 : Arguments) (b5 : List Stmt) (d5 : List Expr) (r5 : Option Expr) (t5 : List TypeParam) (s5 : PySem.Scope) (u5 : Option PySem.Scope) (m5 : Str) (p5 : Pos) (_ : (nthS PP.main.body 6) = .FunctionDef n5 a5 b5 d5 r5 t5 s5 u5 m5 p5) (n6 : Str) (a6 : Arguments) (b6 : List Stmt) (d6 : List Expr) (r6 : Option Expr) (t6 : List TypeParam) (s6 : PySem.Scope) (u6 : Option PySem.Scope) (m6 : Str) (p6 : Pos) (_ : (nthS PP.main.body 7) = .FunctionDef n6 a6 b6 d6 r6 t6 s6 u6 m6 p6) (n7 : Str) (a7 : Arguments) (b7 : List Stmt) (d7 : List Expr) (r7 : Option Expr) (t7 : List TypeParam) (s7 : PySem.Scope) (u7 : Option PySem.Scope) (m7 : Str) (p7 : Pos) (_ : (nthS PP.main.body 9) = .FunctionDef n7 a7 b7 d7 r7 t7 s7 u7 m7 p7) (n8 : Str) (a8 : Arguments) (b8 : List Stmt) (d8 : List Expr) (r8 : Option Expr) (t8 : List TypeParam) (s8 : PySem.Scope) (u8 : Option PySem.Scope) (m8 : Str) (p8 : Pos) (_ : (nthS PP.main.body 10) = .FunctionDef n8 a8 b8 d8 r8 t8 s8 u8 m8 p8) (n9 : Str) (a9 : Arguments) (b9 : List Stmt) (d9 : List Expr) (r9 : Option Expr) (t9 : List TypeParam) (s9 : PySem.Scope) (u9 : Option PySem.Scope) (m9 : Str) (p9 : Pos) (_ : (nthS PP.main.body 12) = .FunctionDef n9 a9 b9 d9 r9 t9 s9 u9 m9 p9) (n10 : Str) (a10 : Arguments) (b10 : List Stmt) (d10 : List Expr) (r10 : Option Expr) (t10 : List TypeParam) (s10 : PySem.Scope) (u10 : Option PySem.Scope) (m10 : Str) (p10 : Pos) (_ : (nthS PP.main.body 13) = .FunctionDef n10 a10 b10 d10 r10 t10 s10 u10 m10 p10) (n11 : Str) (a11 : Arguments) (b11 : List Stmt) (d11 : List Expr) (r11 : Option Expr) (t11 : List TypeParam) (s11 : PySem.Scope) (u11 : Option PySem.Scope) (m11 : Str) (p11 : Pos) (_ : (nthS PP.main.body 16) = .FunctionDef n11 a11 b11 d11 r11 t11 s11 u11 m11 p11) (n12 : Str) (a12 : Arguments) (b12 : List Stmt) (d12 : List Expr) (r12 : Option Expr) (t12 : List TypeParam) (s12 : PySem.Scope) (u12 : Option PySem.Scope) (m12 : Str) (p12 : Pos) (_ : (nthS PP.main.body 17) = .FunctionDef n12 a12 b12 d12 r12 t12 s12 u12 m12 p12) (n13 : Str) (a13 : Arguments) (b13 : List Stmt) (d13 : List Expr) (r13 : Option Expr) (t13 : List TypeParam) (s13 : PySem.Scope) (u13 : Option PySem.Scope) (m13 : Str) (p13 : Pos) (_ : (nthS PP.main.body 19) = .FunctionDef n13 a13 b13 d13 r13 t13 s13 u13 m13 p13) (n14 : Str) (a14 : Arguments) (b14 : List Stmt) (d14 : List Expr) (r14 : Option Expr) (t14 : List TypeParam) (s14 : PySem.Scope) (u14 : Option PySem.Scope) (m14 : Str) (p14 : Pos) (_ : (nthS PP.main.body 20) = .FunctionDef n14 a14 b14 d14 r14 t14 s14 u14 m14 p14) (n15 : Str) (a15 : Arguments) (b15 : List Stmt) (d15 : List Expr) (r15 : Option Expr) (t15 : List TypeParam) (s15 : PySem.Scope) (u15 : Option PySem.Scope) (m15 : Str) (p15 : Pos) (_ : (nthS (fdB (nthS PP.main.body 22)) 0) = .FunctionDef n15 a15 b15 d15 r15 t15 s15 u15 m15 p15) (n16 : Str) (a16 : Arguments) (b16 : List Stmt) (d16 : List Expr) (r16 : Option Expr) (t16 : List TypeParam) (s16 : PySem.Scope) (u16 : Option PySem.Scope) (m16 : Str) (p16 : Pos) (_ : (nthS (fdB (nthS PP.main.body 22)) 1) = .FunctionDef n16 a16 b16 d16 r16 t16 s16 u16 m16 p16) (n17 : Str) (a17 : Arguments) (b17 : List Stmt) (d17 : List Expr) (r17 : Option Expr) (t17 : List TypeParam) (s17 : PySem.Scope) (u17 : Option PySem.Scope) (m17 : Str) (p17 : Pos) (_ : (nthS (fdB (nthS PP.main.body 22)) 2) = .FunctionDef n17 a17 b17 d17 r17 t17 s17 u17 m17 p17) (n18 : Str) (a18 : Arguments) (b18 : List Stmt) (d18 : List Expr) (r18 : Option Expr) (t18 : List TypeParam) (s18 : PySem.Scope) (u18 : Option PySem.Scope) (m18 : Str) (p18 : Pos) (_ : (nthS (fdB (nthS PP.main.body 22)) 3) = .FunctionDef n18 a18 b18 d18 r18 t18 s18 u18 m18 p18) (n19 : Str) (a19 : Arguments) (b19 : List Stmt) (d19 : List Expr) (r19 : Option Expr) (t19 : List TypeParam) (s19 : PySem.Scope) (u19 : Option PySem.Scope) (m19 : Str) (p19 : Pos) (_ : (nthS (fdB (nthS PP.main.body 22)) 4) = .FunctionDef n19 a19 b19 d19 r19 t19 s19 u19 m19 p19) (n20 : Str) (a20 : Arguments) (b20 : List Stmt) (d20 : List Expr) (r20 : Option Expr) (t20 : List TypeParam) (s20 : PySem.Scope) (u20 : Option PySem.Scope) (m20 : Str) (p20 : Pos) (_ : (nthS (fdB (nthS PP.main.body 23)) 0) = .FunctionDef n20 a20 b20 d20 r20 t20 s20 u20 m20 p20) (n21 : Str) (a21 : Arguments) (b21 : List Stmt) (d21 : List Expr) (r21 : Option Expr) (t21 : List TypeParam) (s21 : PySem.Scope) (u21 : Option PySem.Scope) (m21 : Str) (p21 : Pos) (_ : (nthS (fdB (nthS PP.main.body 23)) 1) = .FunctionDef n21 a21 b21 d21 r21 t21 s21 u21 m21 p21) (n22 : Str) (a22 : Arguments) (b22 : List Stmt) (d22 : List Expr) (r22 : Option Expr) (t22 : List TypeParam) (s22 : PySem.Scope) (u22 : Option PySem.Scope) (m22 : Str) (p22 : Pos) (_ : (nthS (fdB (nthS PP.main.body 23)) 2) = .FunctionDef n22 a22 b22 d22 r22 t22 s22 u22 m22 p22) (n23 : Str) (a23 : Arguments) (b23 : List Stmt) (d23 : List Expr) (r23 : Option Expr) (t23 : List TypeParam) (s23 : PySem.Scope) (u23 : Option PySem.Scope) (m23 : Str) (p23 : Pos) (_ : (nthS (fdB (nthS PP.main.body 23)) 3) = .FunctionDef n23 a23 b23 d23 r23 t23 s23 u23 m23 p23) (n24 : Str) (a24 : Arguments) (b24 : List Stmt) (d24 : List Expr) (r24 : Option Expr) (t24 : List TypeParam) (s24 : PySem.Scope) (u24 : Option PySem.Scope) (m24 : Str) (p24 : Pos) (_ : (nthS (fdB (nthS PP.main.body 23)) 4) = .FunctionDef n24 a24 b24 d24 r24 t24 s24 u24 m24 p24) (n25 : Str) (a25 : Arguments) (b25 : List Stmt) (d25 : List Expr) (r25 : Option Expr) (t25 : List TypeParam) (s25 : PySem.Scope) (u25 : Option PySem.Scope) (m25 : Str) (p25 : Pos) (_ : (nthS PP.main.body 25) = .FunctionDef n25 a25 b25 d25 r25 t25 s25 u25 m25 p25) (n26 : Str) (a26 : Arguments) (b26 : List Stmt) (d26 : List Expr) (r26 : Option Expr) (t26 : List TypeParam) (s26 : PySem.Scope) (u26 : Option PySem.Scope) (m26 : Str) (p26 : Pos) (_ : (nthS PP.main.body 26) = .FunctionDef n26 a26 b26 d26 r26 t26 s26 u26 m26 p26) (n27 : Str) (a27 : Arguments) (b27 : List Stmt) (d27 : List Expr) (r27 : Option Expr) (t27 : List TypeParam) (s27 : PySem.Scope) (u27 : Option PySem.Scope) (m27 : Str) (p27 : Pos) (_ : (nthS PP.main.body 27) = .FunctionDef n27 a27 b27 d27 r27 t27 s27 u27 m27 p27) (n28 : Str) (a28 : Arguments) (b28 : List Stmt) (d28 : List Expr) (r28 : Option Expr) (t28 : List TypeParam) (s28 : PySem.Scope) (u28 : Option PySem.Scope) (m28 : Str) (p28 : Pos) (_ : (nthS PP.main.body 28) = .FunctionDef n28 a28 b28 d28 r28 t28 s28 u28 m28 p28) (n29 : Str) (a29 : Arguments) (b29 : List Stmt) (d29 : List Expr) (r29 : Option Expr) (t29 : List TypeParam) (s29 : PySem.Scope) (u29 : Option PySem.Scope) (m29 : Str) (p29 : Pos) (_ : (nthS PP.main.body 29) = .FunctionDef n29 a29 b29 d29 r29 t29 s29 u29 m29 p29) (n30 : Str) (a30 : Arguments) (b30 : List Stmt) (d30 : List Expr) (r30 : Option Expr) (t30 : List TypeParam) (s30 : PySem.Scope) (u30 : Option PySem.Scope) (m30 : Str) (p30 : Pos) (_ : (nthS PP.main.body 30) = .FunctionDef n30 a30 b30 d30 r30 t30 s30 u30 m30 p30) (n31 : Str) (a31 : Arguments) (b31 : List Stmt) (d31 : List Expr) (r31 : Option Expr) (t31 : List TypeParam) (s31 : PySem.Scope) (u31 : Option PySem.Scope) (m31 : Str) (p31 : Pos) (_ : (nthS PP.main.body 31) = .FunctionDef n31 a31 b31 d31 r31 t31 s31 u31 m31 p31) (n32 : Str) (a32 : Arguments) (b32 : List Stmt) (d32 : List Expr) (r32 : Option Expr) (t32 : List TypeParam) (s32 : PySem.Scope) (u32 : Option PySem.Scope) (m32 : Str) (p32 : Pos) (_ : (nthS PP.main.body 32) = .FunctionDef n32 a32 b32 d32 r32 t32 s32 u32 m32 p32) (n33 : Str) (a33 : Arguments) (b33 : List Stmt) (d33 : List Expr) (r33 : Option Expr) (t33 : List TypeParam) (s33 : PySem.Scope) (u33 : Option PySem.Scope) (m33 : Str) (p33 : Pos) (_ : (nthS PP.main.body 33) = .FunctionDef n33 a33 b33 d33 r33 t33 s33 u33 m33 p33) (n34 : Str) (a34 : Arguments) (b34 : List Stmt) (d34 : List Expr) (r34 : Option Expr) (t34 : List TypeParam) (s34 : PySem.Scope) (u34 : Option PySem.Scope) (m34 : Str) (p34 : Pos) (_ : (nthS PP.main.body 34) = .FunctionDef n34 a34 b34 d34 r34 t34 s34 u34 m34 p34) (n35 : Str) (a35 : Arguments) (b35 : List Stmt) (d35 : List Expr) (r35 : Option Expr) (t35 : List TypeParam) (s35 : PySem.Scope) (u35 : Option PySem.Scope) (m35 : Str) (p35 : Pos) (_ : (nthS PP.main.body 35) = .FunctionDef n35 a35 b35 d35 r35 t35 s35 u35 m35 p35) => fun P => ((nat_lit 2, { cls := PySem.Value.none, data := PySem.Data.dict #[] }) :: (nat_lit 3, { cls := PySem.Value.type "dict", data := PySem.Data.dict #[{ hash := PySem.PyData.keyHash P (PySem.Str.ofString "__name__"), key := PySem.Value.str (PySem.Str.ofString "__name__") 165, val := PySem.Value.str (PySem.Str.ofString "law_ys0001_09") 533 }, { hash := PySem.PyData.keyHash P (PySem.Str.ofString "__doc__"), key := PySem.Value.str (PySem.Str.ofString "__doc__") 166, val := PySem.Value.none }, { hash := PySem.PyData.keyHash P (PySem.Str.ofString "__package__"), key := PySem.Value.str (PySem.Str.ofString "__package__") 167, val := PySem.Value.none }, { hash := PySem.PyData.keyHash P (PySem.Str.ofString "__loader__"), key := PySem.Value.str (PySem.Str.ofString "__loader__") 168, val := PySem.Value.builtin "__main__.__loader__#opaque" }, { hash := PySem.PyData.keyHash P (PySem.Str.ofString "__spec__"), key := PySem.Value.str (PySem.Str.ofString "__spec__") 169, val := PySem.Value.none }, { hash := PySem.PyData.keyHash P (PySem.Str.ofString "__annotations__"), key := PySem.Value.str (PySem.Str.ofString "__annotations__") 170, val := PySem.Value.ref 6 }, { hash := PySem.PyData.keyHash P (PySem.Str.ofString "__builtins__"), key := PySem.Value.str (PySem.Str.ofString "__builtins__") 171, val := PySem.Value.ref 4 }, { hash := PySem.PyData.keyHash P (PySem.Str.ofString "__file__"), key := PySem.Value.str (PySem.Str.ofString "__file__") 173, val := PySem.Value.str (PySem.Str.ofString "/claim/cut.py") 172 }, { hash := PySem.PyData.keyHash P (PySem.Str.ofString "__cached__"), key := PySem.Value.str (PySem.Str.ofString "__cached__") 174, val := PySem.Value.none }, { hash := PySem.PyData.keyHash P (PySem.Str.ofString "_wall"), key := PySem.Value.str (PySem.Str.ofString "_wall") 193, val := PySem.Value.ref 21 }, { hash := PySem.PyData.keyHash P (PySem.Str.ofString "NotRelativePrimeError"), key := PySem.Value.str (PySem.Str.ofString "NotRelativePrimeError") 228, val := PySem.Value.ref 39 }, { hash := PySem.PyData.keyHash P (PySem.Str.ofString "bit_size"), key := PySem.Value.str (PySem.Str.ofString "bit_size") 235, val := PySem.Value.ref 49 }, { hash := PySem.PyData.keyHash P (PySem.Str.ofString "byte_size"), key := PySem.Value.str (PySem.Str.ofString "byte_size") 242, val := PySem.Value.ref 56 }, { hash := PySem.PyData.keyHash P (PySem.Str.ofString "ceil_div"), key := PySem.Value.str (PySem.Str.ofString "ceil_div") 252, val := PySem.Value.ref 63 }, { hash := PySem.PyData.keyHash P (PySem.Str.ofString "extended_gcd"), key := PySem.Value.str (PySem.Str.ofString "extended_gcd") 267, val := PySem.Value.ref 70 }, { hash := PySem.PyData.keyHash P (PySem.Str.ofString "inverse"), key := PySem.Value.str (PySem.Str.ofString "inverse") 278, val := PySem.Value.ref 77 }, { hash := PySem.PyData.keyHash P (PySem.Str.ofString "assert_int"), key := PySem.Value.str (PySem.Str.ofString "assert_int") 288, val := PySem.Value.ref 84 }, { hash := PySem.PyData.keyHash P (PySem.Str.ofString "encrypt_int"), key := PySem.Value.str (PySem.Str.ofString "encrypt_int") 297, val := PySem.Value.ref 91 }, { hash := PySem.PyData.keyHash P (PySem.Str.ofString "bytes2int"), key := PySem.Value.str (PySem.Str.ofString "bytes2int") 306, val := PySem.Value.ref 98 }, { hash := PySem.PyData.keyHash P (PySem.Str.ofString "int2bytes"), key := PySem.Value.str (PySem.Str.ofString "int2bytes") 316, val := PySem.Value.ref 106 }, { hash := PySem.PyData.keyHash P (PySem.Str.ofString "HASH_ASN1"), key := PySem.Value.str (PySem.Str.ofString "HASH_ASN1") 346, val := PySem.Value.ref 107 }, { hash := PySem.PyData.keyHash P (PySem.Str.ofString "_pad_for_signing"), key := PySem.Value.str (PySem.Str.ofString "_pad_for_signing") 357, val := PySem.Value.ref 114 }, { hash := PySem.PyData.keyHash P (PySem.Str.ofString "sign_hash"), key := PySem.Value.str (PySem.Str.ofString "sign_hash") 373, val := PySem.Value.ref 121 }, { hash := PySem.PyData.keyHash P (PySem.Str.ofString "gcd"), key := PySem.Value.str (PySem.Str.ofString "gcd") 383, val := PySem.Value.ref 128 }, { hash := PySem.PyData.keyHash P (PySem.Str.ofString "are_relatively_prime"), key := PySem.Value.str (PySem.Str.ofString "are_relatively_prime") 392, val := PySem.Value.ref 135 }, { hash := PySem.PyData.keyHash P (PySem.Str.ofString "AbstractKey"), key := PySem.Value.str (PySem.Str.ofString "AbstractKey") 462, val := PySem.Value.ref 180 }, { hash := PySem.PyData.keyHash P (PySem.Str.ofString "PrivateKey"), key := PySem.Value.str (PySem.Str.ofString "PrivateKey") 532, val := PySem.Value.ref 229 }, { hash := PySem.PyData.keyHash P (PySem.Str.ofString "_law_cell"), key := PySem.Value.str (PySem.Str.ofString "_law_cell") 542, val := PySem.Value.ref 238 }, { hash := PySem.PyData.keyHash P (PySem.Str.ofString "_law_octets"), key := PySem.Value.str (PySem.Str.ofString "_law_octets") 554, val := PySem.Value.ref 245 }, { hash := PySem.PyData.keyHash P (PySem.Str.ofString "_law_common"), key := PySem.Value.str (PySem.Str.ofString "_law_common") 563, val := PySem.Value.ref 252 }, { hash := PySem.PyData.keyHash P (PySem.Str.ofString "_law_inverse"), key := PySem.Value.str (PySem.Str.ofString "_law_inverse") 577, val := PySem.Value.ref 259 }, { hash := PySem.PyData.keyHash P (PySem.Str.ofString "_law_size"), key := PySem.Value.str (PySem.Str.ofString "_law_size") 584, val := PySem.Value.ref 266 }, { hash := PySem.PyData.keyHash P (PySem.Str.ofString "_law_keys"), key := PySem.Value.str (PySem.Str.ofString "_law_keys") 590, val := PySem.Value.ref 271 }, { hash := PySem.PyData.keyHash P (PySem.Str.ofString "_law_number"), key := PySem.Value.str (PySem.Str.ofString "_law_number") 599, val := PySem.Value.ref 278 }, { hash := PySem.PyData.keyHash P (PySem.Str.ofString "_law_written"), key := PySem.Value.str (PySem.Str.ofString "_law_written") 605, val := PySem.Value.ref 283 }, { hash := PySem.PyData.keyHash P (PySem.Str.ofString "_law_codes"), key := PySem.Value.str (PySem.Str.ofString "_law_codes") 618, val := PySem.Value.ref 290 }, { hash := PySem.PyData.keyHash P (PySem.Str.ofString "_law_told"), key := PySem.Value.str (PySem.Str.ofString "_law_told") 627, val := PySem.Value.ref 297 }, { hash := PySem.PyData.keyHash P (PySem.Str.ofString "law"), key := PySem.Value.str (PySem.Str.ofString "law") 647, val := PySem.Value.ref 304 }] 38 }) :: (nat_lit 15, { cls := PySem.Value.type "tuple", data := PySem.Data.seq #[] }) :: (nat_lit 17, { cls := PySem.Value.type "tuple", data := PySem.Data.seq #[PySem.Value.str (PySem.Str.ofString "k") 190] }) :: (nat_lit 18, { cls := PySem.Value.type "tuple", data := PySem.Data.seq #[] }) :: (nat_lit 20, { cls := PySem.Value.type "code", data := PySem.Data.fields #[PySem.Value.str (PySem.Str.ofString "_wall") 187, PySem.Value.str (PySem.Str.ofString "_wall") 188, PySem.Value.str (PySem.Str.ofString "/claim/cut.py") 189, PySem.Value.int 1 0, PySem.Value.int 1 0, PySem.Value.int 0 0, PySem.Value.int 0 0, PySem.Value.int 3 0, PySem.Value.ref 15, PySem.Value.bool Bool.true, PySem.Value.int 181 0, PySem.Value.ref 16, PySem.Value.none, PySem.Value.ref 17, PySem.Value.ref 18, PySem.Value.ref 19, PySem.Value.int 191 0, PySem.Value.int 1 0, PySem.Value.str (PySem.Str.ofString "/claim/cut.py") 192] }) :: (nat_lit 21, { cls := PySem.Value.type "function", data := PySem.Data.func { name := PySem.Str.ofString "_wall", qualname := PySem.Str.ofString "_wall", params := a0, body := PySem.FuncBody.stmts b0, scope := s0, globals := 3, closure := [], defaults := PySem.Value.none, kwdefaults := PySem.Value.none, pyModule := PySem.Value.str (PySem.Str.ofString "__main__") 164, code := PySem.Value.ref 20 } }) :: (nat_lit 22, { cls := PySem.Value.type "tuple", data := PySem.Data.seq #[PySem.Value.type "ValueError"] }) :: (nat_lit 29, { cls := PySem.Value.type "tuple", data := PySem.Data.seq #[PySem.Value.str (PySem.Str.ofString "") 208] }) :: (nat_lit 30, { cls := PySem.Value.type "tuple", data := PySem.Data.seq #[] }) :: (nat_lit 32, { cls := PySem.Value.type "tuple", data := PySem.Data.seq #[PySem.Value.str (PySem.Str.ofString "self") 212, PySem.Value.str (PySem.Str.ofString "a") 213, PySem.Value.str (PySem.Str.ofString "b") 214, PySem.Value.str (PySem.Str.ofString "d") 215, PySem.Value.str (PySem.Str.ofString "msg") 216] }) :: (nat_lit 33, { cls := PySem.Value.type "tuple", data := PySem.Data.seq #[] }) :: (nat_lit 35, { cls := PySem.Value.type "code", data := PySem.Data.fields #[PySem.Value.str (PySem.Str.ofString "__init__") 209, PySem.Value.str (PySem.Str.ofString "NotRelativePrimeError.__init__") 210, PySem.Value.str (PySem.Str.ofString "/claim/cut.py") 211, PySem.Value.int 7 0, PySem.Value.int 5 0, PySem.Value.int 0 0, PySem.Value.int 0 0, PySem.Value.int 3 0, PySem.Value.ref 30, PySem.Value.bool Bool.true, PySem.Value.int 181 0, PySem.Value.ref 31, PySem.Value.none, PySem.Value.ref 32, PySem.Value.ref 33, PySem.Value.ref 34, PySem.Value.int 217 0, PySem.Value.int 7 0, PySem.Value.str (PySem.Str.ofString "/claim/cut.py") 218] }) :: (nat_lit 36, { cls := PySem.Value.type "function", data := PySem.Data.func { name := PySem.Str.ofString "__init__", qualname := PySem.Str.ofString "NotRelativePrimeError.__init__", params := a1, body := PySem.FuncBody.stmts b1, scope := s1, globals := 3, closure := [], defaults := PySem.Value.ref 29, kwdefaults := PySem.Value.none, pyModule := PySem.Value.str (PySem.Str.ofString "rsa.common") 194, code := PySem.Value.ref 35 } }) :: (nat_lit 37, { cls := PySem.Value.type "tuple", data := PySem.Data.seq #[PySem.Value.str (PySem.Str.ofString "a") 220, PySem.Value.str (PySem.Str.ofString "b") 221, PySem.Value.str (PySem.Str.ofString "d") 222] }) :: (nat_lit 38, { cls := PySem.Value.type "dict", data := PySem.Data.dict #[{ hash := PySem.PyData.keyHash P (PySem.Str.ofString "__module__"), key := PySem.Value.str (PySem.Str.ofString "__module__") 203, val := PySem.Value.str (PySem.Str.ofString "rsa.common") 194 }, { hash := PySem.PyData.keyHash P (PySem.Str.ofString "__firstlineno__"), key := PySem.Value.str (PySem.Str.ofString "__firstlineno__") 207, val := PySem.Value.int 5 206 }, { hash := PySem.PyData.keyHash P (PySem.Str.ofString "__init__"), key := PySem.Value.str (PySem.Str.ofString "__init__") 219, val := PySem.Value.ref 36 }, { hash := PySem.PyData.keyHash P (PySem.Str.ofString "__static_attributes__"), key := PySem.Value.str (PySem.Str.ofString "__static_attributes__") 223, val := PySem.Value.ref 37 }, { hash := PySem.PyData.keyHash P (PySem.Str.ofString "__weakref__"), key := PySem.Value.str (PySem.Str.ofString "__weakref__") 225, val := PySem.Value.ref 40 }, { hash := PySem.PyData.keyHash P (PySem.Str.ofString "__doc__"), key := PySem.Value.str (PySem.Str.ofString "__doc__") 226, val := PySem.Value.none }] 3 }) :: (nat_lit 39, { cls := PySem.Value.type "type", data := PySem.Data.cls { name := PySem.Str.ofString "NotRelativePrimeError", bases := [PySem.Value.type "ValueError"], mro := [PySem.Value.ref 39, PySem.Value.type "ValueError", PySem.Value.type "Exception", PySem.Value.type "BaseException", PySem.Value.type "object"], ns := 38, qualname := PySem.Str.ofString "NotRelativePrimeError" }, slots := #[Option.some (PySem.Value.ref 22), Option.none, Option.some (PySem.Value.str (PySem.Str.ofString "NotRelativePrimeError") 196), Option.some (PySem.Value.str (PySem.Str.ofString "NotRelativePrimeError") 204), Option.some (PySem.Value.builtin "ValueError.__new__"), Option.some (PySem.Value.bool Bool.true)] }) :: (nat_lit 40, { cls := PySem.Value.type "getset_descriptor", data := PySem.Data.fields #[PySem.Value.str (PySem.Str.ofString "__weakref__") 224, PySem.Value.ref 39, PySem.Value.builtin "ExceptionGroup.__weakref__", PySem.Value.none] }) :: (nat_lit 43, { cls := PySem.Value.type "tuple", data := PySem.Data.seq #[] }) :: (nat_lit 45, { cls := PySem.Value.type "tuple", data := PySem.Data.seq #[PySem.Value.str (PySem.Str.ofString "num") 232] }) :: (nat_lit 46, { cls := PySem.Value.type "tuple", data := PySem.Data.seq #[] }) :: (nat_lit 48, { cls := PySem.Value.type "code", data := PySem.Data.fields #[PySem.Value.str (PySem.Str.ofString "bit_size") 229, PySem.Value.str (PySem.Str.ofString "bit_size") 230, PySem.Value.str (PySem.Str.ofString "/claim/cut.py") 231, PySem.Value.int 11 0, PySem.Value.int 1 0, PySem.Value.int 0 0, PySem.Value.int 0 0, PySem.Value.int 3 0, PySem.Value.ref 43, PySem.Value.bool Bool.true, PySem.Value.int 181 0, PySem.Value.ref 44, PySem.Value.none, PySem.Value.ref 45, PySem.Value.ref 46, PySem.Value.ref 47, PySem.Value.int 233 0, PySem.Value.int 11 0, PySem.Value.str (PySem.Str.ofString "/claim/cut.py") 234] }) :: (nat_lit 49, { cls := PySem.Value.type "function", data := PySem.Data.func { name := PySem.Str.ofString "bit_size", qualname := PySem.Str.ofString "bit_size", params := a2, body := PySem.FuncBody.stmts b2, scope := s2, globals := 3, closure := [], defaults := PySem.Value.none, kwdefaults := PySem.Value.none, pyModule := PySem.Value.str (PySem.Str.ofString "rsa.common") 194, code := PySem.Value.ref 48 } }) :: (nat_lit 50, { cls := PySem.Value.type "tuple", data := PySem.Data.seq #[] }) :: (nat_lit 52, { cls := PySem.Value.type "tuple", data := PySem.Data.seq #[PySem.Value.str (PySem.Str.ofString "number") 239] }) :: (nat_lit 53, { cls := PySem.Value.type "tuple", data := PySem.Data.seq #[] }) :: (nat_lit 55, { cls := PySem.Value.type "code", data := PySem.Data.fields #[PySem.Value.str (PySem.Str.ofString "byte_size") 236, PySem.Value.str (PySem.Str.ofString "byte_size") 237, PySem.Value.str (PySem.Str.ofString "/claim/cut.py") 238, PySem.Value.int 13 0, PySem.Value.int 1 0, PySem.Value.int 0 0, PySem.Value.int 0 0, PySem.Value.int 3 0, PySem.Value.ref 50, PySem.Value.bool Bool.true, PySem.Value.int 181 0, PySem.Value.ref 51, PySem.Value.none, PySem.Value.ref 52, PySem.Value.ref 53, PySem.Value.ref 54, PySem.Value.int 240 0, PySem.Value.int 13 0, PySem.Value.str (PySem.Str.ofString "/claim/cut.py") 241] }) :: (nat_lit 56, { cls := PySem.Value.type "function", data := PySem.Data.func { name := PySem.Str.ofString "byte_size", qualname := PySem.Str.ofString "byte_size", params := a3, body := PySem.FuncBody.stmts b3, scope := s3, globals := 3, closure := [], defaults := PySem.Value.none, kwdefaults := PySem.Value.none, pyModule := PySem.Value.str (PySem.Str.ofString "rsa.common") 194, code := PySem.Value.ref 55 } }) :: (nat_lit 57, { cls := PySem.Value.type "tuple", data := PySem.Data.seq #[] }) :: (nat_lit 59, { cls := PySem.Value.type "tuple", data := PySem.Data.seq #[PySem.Value.str (PySem.Str.ofString "num") 246, PySem.Value.str (PySem.Str.ofString "div") 247, PySem.Value.str (PySem.Str.ofString "quanta") 248, PySem.Value.str (PySem.Str.ofString "mod") 249] }) :: (nat_lit 60, { cls := PySem.Value.type "tuple", data := PySem.Data.seq #[] }) :: (nat_lit 62, { cls := PySem.Value.type "code", data := PySem.Data.fields #[PySem.Value.str (PySem.Str.ofString "ceil_div") 243, PySem.Value.str (PySem.Str.ofString "ceil_div") 244, PySem.Value.str (PySem.Str.ofString "/claim/cut.py") 245, PySem.Value.int 17 0, PySem.Value.int 2 0, PySem.Value.int 0 0, PySem.Value.int 0 0, PySem.Value.int 3 0, PySem.Value.ref 57, PySem.Value.bool Bool.true, PySem.Value.int 181 0, PySem.Value.ref 58, PySem.Value.none, PySem.Value.ref 59, PySem.Value.ref 60, PySem.Value.ref 61, PySem.Value.int 250 0, PySem.Value.int 17 0, PySem.Value.str (PySem.Str.ofString "/claim/cut.py") 251] }) :: (nat_lit 63, { cls := PySem.Value.type "function", data := PySem.Data.func { name := PySem.Str.ofString "ceil_div", qualname := PySem.Str.ofString "ceil_div", params := a4, body := PySem.FuncBody.stmts b4, scope := s4, globals := 3, closure := [], defaults := PySem.Value.none, kwdefaults := PySem.Value.none, pyModule := PySem.Value.str (PySem.Str.ofString "rsa.common") 194, code := PySem.Value.ref 62 } }) :: (nat_lit 64, { cls := PySem.Value.type "tuple", data := PySem.Data.seq #[] }) :: (nat_lit 66, { cls := PySem.Value.type "tuple", data := PySem.Data.seq #[PySem.Value.str (PySem.Str.ofString "a") 256, PySem.Value.str (PySem.Str.ofString "b") 257, PySem.Value.str (PySem.Str.ofString "x") 258, PySem.Value.str (PySem.Str.ofString "y") 259, PySem.Value.str (PySem.Str.ofString "lx") 260, PySem.Value.str (PySem.Str.ofString "ly") 261, PySem.Value.str (PySem.Str.ofString "oa") 262, PySem.Value.str (PySem.Str.ofString "ob") 263, PySem.Value.str (PySem.Str.ofString "q") 264] }) :: (nat_lit 67, { cls := PySem.Value.type "tuple", data := PySem.Data.seq #[] }) :: (nat_lit 69, { cls := PySem.Value.type "code", data := PySem.Data.fields #[PySem.Value.str (PySem.Str.ofString "extended_gcd") 253, PySem.Value.str (PySem.Str.ofString "extended_gcd") 254, PySem.Value.str (PySem.Str.ofString "/claim/cut.py") 255, PySem.Value.int 22 0, PySem.Value.int 2 0, PySem.Value.int 0 0, PySem.Value.int 0 0, PySem.Value.int 3 0, PySem.Value.ref 64, PySem.Value.bool Bool.true, PySem.Value.int 181 0, PySem.Value.ref 65, PySem.Value.none, PySem.Value.ref 66, PySem.Value.ref 67, PySem.Value.ref 68, PySem.Value.int 265 0, PySem.Value.int 22 0, PySem.Value.str (PySem.Str.ofString "/claim/cut.py") 266] }) :: (nat_lit 70, { cls := PySem.Value.type "function", data := PySem.Data.func { name := PySem.Str.ofString "extended_gcd", qualname := PySem.Str.ofString "extended_gcd", params := a5, body := PySem.FuncBody.stmts b5, scope := s5, globals := 3, closure := [], defaults := PySem.Value.none, kwdefaults := PySem.Value.none, pyModule := PySem.Value.str (PySem.Str.ofString "rsa.common") 194, code := PySem.Value.ref 69 } }) :: (nat_lit 71, { cls := PySem.Value.type "tuple", data := PySem.Data.seq #[] }) :: (nat_lit 73, { cls := PySem.Value.type "tuple", data := PySem.Data.seq #[PySem.Value.str (PySem.Str.ofString "x") 271, PySem.Value.str (PySem.Str.ofString "n") 272, PySem.Value.str (PySem.Str.ofString "divider") 273, PySem.Value.str (PySem.Str.ofString "inv") 274, PySem.Value.str (PySem.Str.ofString "_") 275] }) :: (nat_lit 74, { cls := PySem.Value.type "tuple", data := PySem.Data.seq #[] }) :: (nat_lit 76, { cls := PySem.Value.type "code", data := PySem.Data.fields #[PySem.Value.str (PySem.Str.ofString "inverse") 268, PySem.Value.str (PySem.Str.ofString "inverse") 269, PySem.Value.str (PySem.Str.ofString "/claim/cut.py") 270, PySem.Value.int 39 0, PySem.Value.int 2 0, PySem.Value.int 0 0, PySem.Value.int 0 0, PySem.Value.int 3 0, PySem.Value.ref 71, PySem.Value.bool Bool.true, PySem.Value.int 181 0, PySem.Value.ref 72, PySem.Value.none, PySem.Value.ref 73, PySem.Value.ref 74, PySem.Value.ref 75, PySem.Value.int 276 0, PySem.Value.int 39 0, PySem.Value.str (PySem.Str.ofString "/claim/cut.py") 277] }) :: (nat_lit 77, { cls := PySem.Value.type "function", data := PySem.Data.func { name := PySem.Str.ofString "inverse", qualname := PySem.Str.ofString "inverse", params := a6, body := PySem.FuncBody.stmts b6, scope := s6, globals := 3, closure := [], defaults := PySem.Value.none, kwdefaults := PySem.Value.none, pyModule := PySem.Value.str (PySem.Str.ofString "rsa.common") 194, code := PySem.Value.ref 76 } }) :: (nat_lit 78, { cls := PySem.Value.type "tuple", data := PySem.Data.seq #[] }) :: (nat_lit 80, { cls := PySem.Value.type "tuple", data := PySem.Data.seq #[PySem.Value.str (PySem.Str.ofString "var") 284, PySem.Value.str (PySem.Str.ofString "name") 285] }) :: (nat_lit 81, { cls := PySem.Value.type "tuple", data := PySem.Data.seq #[] }) :: (nat_lit 83, { cls := PySem.Value.type "code", data := PySem.Data.fields #[PySem.Value.str (PySem.Str.ofString "assert_int") 281, PySem.Value.str (PySem.Str.ofString "assert_int") 282, PySem.Value.str (PySem.Str.ofString "/claim/cut.py") 283, PySem.Value.int 45 0, PySem.Value.int 2 0, PySem.Value.int 0 0, PySem.Value.int 0 0, PySem.Value.int 3 0, PySem.Value.ref 78, PySem.Value.bool Bool.true, PySem.Value.int 181 0, PySem.Value.ref 79, PySem.Value.none, PySem.Value.ref 80, PySem.Value.ref 81, PySem.Value.ref 82, PySem.Value.int 286 0, PySem.Value.int 45 0, PySem.Value.str (PySem.Str.ofString "/claim/cut.py") 287] }) :: (nat_lit 84, { cls := PySem.Value.type "function", data := PySem.Data.func { name := PySem.Str.ofString "assert_int", qualname := PySem.Str.ofString "assert_int", params := a7, body := PySem.FuncBody.stmts b7, scope := s7, globals := 3, closure := [], defaults := PySem.Value.none, kwdefaults := PySem.Value.none, pyModule := PySem.Value.str (PySem.Str.ofString "rsa.core") 279, code := PySem.Value.ref 83 } }) :: (nat_lit 85, { cls := PySem.Value.type "tuple", data := PySem.Data.seq #[] }) :: (nat_lit 87, { cls := PySem.Value.type "tuple", data := PySem.Data.seq #[PySem.Value.str (PySem.Str.ofString "message") 292, PySem.Value.str (PySem.Str.ofString "ekey") 293, PySem.Value.str (PySem.Str.ofString "n") 294] }) :: (nat_lit 88, { cls := PySem.Value.type "tuple", data := PySem.Data.seq #[] }) :: (nat_lit 90, { cls := PySem.Value.type "code", data := PySem.Data.fields #[PySem.Value.str (PySem.Str.ofString "encrypt_int") 289, PySem.Value.str (PySem.Str.ofString "encrypt_int") 290, PySem.Value.str (PySem.Str.ofString "/claim/cut.py") 291, PySem.Value.int 49 0, PySem.Value.int 3 0, PySem.Value.int 0 0, PySem.Value.int 0 0, PySem.Value.int 3 0, PySem.Value.ref 85, PySem.Value.bool Bool.true, PySem.Value.int 181 0, PySem.Value.ref 86, PySem.Value.none, PySem.Value.ref 87, PySem.Value.ref 88, PySem.Value.ref 89, PySem.Value.int 295 0, PySem.Value.int 49 0, PySem.Value.str (PySem.Str.ofString "/claim/cut.py") 296] }) :: (nat_lit 91, { cls := PySem.Value.type "function", data := PySem.Data.func { name := PySem.Str.ofString "encrypt_int", qualname := PySem.Str.ofString "encrypt_int", params := a8, body := PySem.FuncBody.stmts b8, scope := s8, globals := 3, closure := [], defaults := PySem.Value.none, kwdefaults := PySem.Value.none, pyModule := PySem.Value.str (PySem.Str.ofString "rsa.core") 279, code := PySem.Value.ref 90 } }) :: (nat_lit 92, { cls := PySem.Value.type "tuple", data := PySem.Data.seq #[] }) :: (nat_lit 94, { cls := PySem.Value.type "tuple", data := PySem.Data.seq #[PySem.Value.str (PySem.Str.ofString "raw_bytes") 303] }) :: (nat_lit 95, { cls := PySem.Value.type "tuple", data := PySem.Data.seq #[] }) :: (nat_lit 97, { cls := PySem.Value.type "code", data := PySem.Data.fields #[PySem.Value.str (PySem.Str.ofString "bytes2int") 300, PySem.Value.str (PySem.Str.ofString "bytes2int") 301, PySem.Value.str (PySem.Str.ofString "/claim/cut.py") 302, PySem.Value.int 59 0, PySem.Value.int 1 0, PySem.Value.int 0 0, PySem.Value.int 0 0, PySem.Value.int 3 0, PySem.Value.ref 92, PySem.Value.bool Bool.true, PySem.Value.int 181 0, PySem.Value.ref 93, PySem.Value.none, PySem.Value.ref 94, PySem.Value.ref 95, PySem.Value.ref 96, PySem.Value.int 304 0, PySem.Value.int 59 0, PySem.Value.str (PySem.Str.ofString "/claim/cut.py") 305] }) :: (nat_lit 98, { cls := PySem.Value.type "function", data := PySem.Data.func { name := PySem.Str.ofString "bytes2int", qualname := PySem.Str.ofString "bytes2int", params := a9, body := PySem.FuncBody.stmts b9, scope := s9, globals := 3, closure := [], defaults := PySem.Value.none, kwdefaults := PySem.Value.none, pyModule := PySem.Value.str (PySem.Str.ofString "rsa.transform") 298, code := PySem.Value.ref 97 } }) :: (nat_lit 99, { cls := PySem.Value.type "tuple", data := PySem.Data.seq #[PySem.Value.int 0 307] }) :: (nat_lit 100, { cls := PySem.Value.type "tuple", data := PySem.Data.seq #[] }) :: (nat_lit 102, { cls := PySem.Value.type "tuple", data := PySem.Data.seq #[PySem.Value.str (PySem.Str.ofString "number") 311, PySem.Value.str (PySem.Str.ofString "fill_size") 312, PySem.Value.str (PySem.Str.ofString "bytes_required") 313] }) :: (nat_lit 103, { cls := PySem.Value.type "tuple", data := PySem.Data.seq #[] }) :: (nat_lit 105, { cls := PySem.Value.type "code", data := PySem.Data.fields #[PySem.Value.str (PySem.Str.ofString "int2bytes") 308, PySem.Value.str (PySem.Str.ofString "int2bytes") 309, PySem.Value.str (PySem.Str.ofString "/claim/cut.py") 310, PySem.Value.int 61 0, PySem.Value.int 2 0, PySem.Value.int 0 0, PySem.Value.int 0 0, PySem.Value.int 3 0, PySem.Value.ref 100, PySem.Value.bool Bool.true, PySem.Value.int 181 0, PySem.Value.ref 101, PySem.Value.none, PySem.Value.ref 102, PySem.Value.ref 103, PySem.Value.ref 104, PySem.Value.int 314 0, PySem.Value.int 61 0, PySem.Value.str (PySem.Str.ofString "/claim/cut.py") 315] }) :: (nat_lit 106, { cls := PySem.Value.type "function", data := PySem.Data.func { name := PySem.Str.ofString "int2bytes", qualname := PySem.Str.ofString "int2bytes", params := a10, body := PySem.FuncBody.stmts b10, scope := s10, globals := 3, closure := [], defaults := PySem.Value.ref 99, kwdefaults := PySem.Value.none, pyModule := PySem.Value.str (PySem.Str.ofString "rsa.transform") 298, code := PySem.Value.ref 105 } }) :: (nat_lit 107, { cls := PySem.Value.type "dict", data := PySem.Data.dict #[{ hash := PySem.PyData.keyHash P (PySem.Str.ofString "MD5"), key := PySem.Value.str (PySem.Str.ofString "MD5") 319, val := PySem.Value.bytes #[48, 32, 48, 12, 6, 8, 42, 134, 72, 134, 247, 13, 2, 5, 5, 0, 4, 16] 320 }, { hash := PySem.PyData.keyHash P (PySem.Str.ofString "SHA-1"), key := PySem.Value.str (PySem.Str.ofString "SHA-1") 321, val := PySem.Value.bytes #[48, 33, 48, 9, 6, 5, 43, 14, 3, 2, 26, 5, 0, 4, 20] 322 }, { hash := PySem.PyData.keyHash P (PySem.Str.ofString "SHA-224"), key := PySem.Value.str (PySem.Str.ofString "SHA-224") 323, val := PySem.Value.bytes #[48, 45, 48, 13, 6, 9, 96, 134, 72, 1, 101, 3, 4, 2, 4, 5, 0, 4, 28] 324 }, { hash := PySem.PyData.keyHash P (PySem.Str.ofString "SHA-256"), key := PySem.Value.str (PySem.Str.ofString "SHA-256") 325, val := PySem.Value.bytes #[48, 49, 48, 13, 6, 9, 96, 134, 72, 1, 101, 3, 4, 2, 1, 5, 0, 4, 32] 326 }, { hash := PySem.PyData.keyHash P (PySem.Str.ofString "SHA-384"), key := PySem.Value.str (PySem.Str.ofString "SHA-384") 327, val := PySem.Value.bytes #[48, 65, 48, 13, 6, 9, 96, 134, 72, 1, 101, 3, 4, 2, 2, 5, 0, 4, 48] 328 }, { hash := PySem.PyData.keyHash P (PySem.Str.ofString "SHA-512"), key := PySem.Value.str (PySem.Str.ofString "SHA-512") 329, val := PySem.Value.bytes #[48, 81, 48, 13, 6, 9, 96, 134, 72, 1, 101, 3, 4, 2, 3, 5, 0, 4, 64] 330 }, { hash := PySem.PyData.keyHash P (PySem.Str.ofString "SHA3-256"), key := PySem.Value.str (PySem.Str.ofString "SHA3-256") 331, val := PySem.Value.bytes #[48, 49, 48, 13, 6, 9, 96, 134, 72, 1, 101, 3, 4, 2, 8, 5, 0, 4, 32] 332 }, { hash := PySem.PyData.keyHash P (PySem.Str.ofString "SHA3-384"), key := PySem.Value.str (PySem.Str.ofString "SHA3-384") 333, val := PySem.Value.bytes #[48, 65, 48, 13, 6, 9, 96, 134, 72, 1, 101, 3, 4, 2, 9, 5, 0, 4, 48] 334 }, { hash := PySem.PyData.keyHash P (PySem.Str.ofString "SHA3-512"), key := PySem.Value.str (PySem.Str.ofString "SHA3-512") 335, val := PySem.Value.bytes #[48, 81, 48, 13, 6, 9, 96, 134, 72, 1, 101, 3, 4, 2, 10, 5, 0, 4, 64] 336 }] 9 }) :: (nat_lit 108, { cls := PySem.Value.type "tuple", data := PySem.Data.seq #[] }) :: (nat_lit 110, { cls := PySem.Value.type "tuple", data := PySem.Data.seq #[PySem.Value.str (PySem.Str.ofString "message") 350, PySem.Value.str (PySem.Str.ofString "target_length") 351, PySem.Value.str (PySem.Str.ofString "max_msglength") 352, PySem.Value.str (PySem.Str.ofString "msglength") 353, PySem.Value.str (PySem.Str.ofString "padding_length") 354] }) :: (nat_lit 111, { cls := PySem.Value.type "tuple", data := PySem.Data.seq #[] }) :: (nat_lit 113, { cls := PySem.Value.type "code", data := PySem.Data.fields #[PySem.Value.str (PySem.Str.ofString "_pad_for_signing") 347, PySem.Value.str (PySem.Str.ofString "_pad_for_signing") 348, PySem.Value.str (PySem.Str.ofString "/claim/cut.py") 349, PySem.Value.int 70 0, PySem.Value.int 2 0, PySem.Value.int 0 0, PySem.Value.int 0 0, PySem.Value.int 3 0, PySem.Value.ref 108, PySem.Value.bool Bool.true, PySem.Value.int 181 0, PySem.Value.ref 109, PySem.Value.none, PySem.Value.ref 110, PySem.Value.ref 111, PySem.Value.ref 112, PySem.Value.int 355 0, PySem.Value.int 70 0, PySem.Value.str (PySem.Str.ofString "/claim/cut.py") 356] }) :: (nat_lit 114, { cls := PySem.Value.type "function", data := PySem.Data.func { name := PySem.Str.ofString "_pad_for_signing", qualname := PySem.Str.ofString "_pad_for_signing", params := a11, body := PySem.FuncBody.stmts b11, scope := s11, globals := 3, closure := [], defaults := PySem.Value.none, kwdefaults := PySem.Value.none, pyModule := PySem.Value.str (PySem.Str.ofString "rsa.pkcs1") 317, code := PySem.Value.ref 113 } }) :: (nat_lit 115, { cls := PySem.Value.type "tuple", data := PySem.Data.seq #[] }) :: (nat_lit 117, { cls := PySem.Value.type "tuple", data := PySem.Data.seq #[PySem.Value.str (PySem.Str.ofString "hash_value") 361, PySem.Value.str (PySem.Str.ofString "priv_key") 362, PySem.Value.str (PySem.Str.ofString "hash_method") 363, PySem.Value.str (PySem.Str.ofString "asn1code") 364, PySem.Value.str (PySem.Str.ofString "cleartext") 365, PySem.Value.str (PySem.Str.ofString "keylength") 366, PySem.Value.str (PySem.Str.ofString "padded") 367, PySem.Value.str (PySem.Str.ofString "payload") 368, PySem.Value.str (PySem.Str.ofString "encrypted") 369, PySem.Value.str (PySem.Str.ofString "block") 370] }) :: (nat_lit 118, { cls := PySem.Value.type "tuple", data := PySem.Data.seq #[] }) :: (nat_lit 120, { cls := PySem.Value.type "code", data := PySem.Data.fields #[PySem.Value.str (PySem.Str.ofString "sign_hash") 358, PySem.Value.str (PySem.Str.ofString "sign_hash") 359, PySem.Value.str (PySem.Str.ofString "/claim/cut.py") 360, PySem.Value.int 77 0, PySem.Value.int 3 0, PySem.Value.int 0 0, PySem.Value.int 0 0, PySem.Value.int 3 0, PySem.Value.ref 115, PySem.Value.bool Bool.true, PySem.Value.int 181 0, PySem.Value.ref 116, PySem.Value.none, PySem.Value.ref 117, PySem.Value.ref 118, PySem.Value.ref 119, PySem.Value.int 371 0, PySem.Value.int 77 0, PySem.Value.str (PySem.Str.ofString "/claim/cut.py") 372] }) :: (nat_lit 121, { cls := PySem.Value.type "function", data := PySem.Data.func { name := PySem.Str.ofString "sign_hash", qualname := PySem.Str.ofString "sign_hash", params := a12, body := PySem.FuncBody.stmts b12, scope := s12, globals := 3, closure := [], defaults := PySem.Value.none, kwdefaults := PySem.Value.none, pyModule := PySem.Value.str (PySem.Str.ofString "rsa.pkcs1") 317, code := PySem.Value.ref 120 } }) :: (nat_lit 122, { cls := PySem.Value.type "tuple", data := PySem.Data.seq #[] }) :: (nat_lit 124, { cls := PySem.Value.type "tuple", data := PySem.Data.seq #[PySem.Value.str (PySem.Str.ofString "p") 379, PySem.Value.str (PySem.Str.ofString "q") 380] }) :: (nat_lit 125, { cls := PySem.Value.type "tuple", data := PySem.Data.seq #[] }) :: (nat_lit 127, { cls := PySem.Value.type "code", data := PySem.Data.fields #[PySem.Value.str (PySem.Str.ofString "gcd") 376, PySem.Value.str (PySem.Str.ofString "gcd") 377, PySem.Value.str (PySem.Str.ofString "/claim/cut.py") 378, PySem.Value.int 89 0, PySem.Value.int 2 0, PySem.Value.int 0 0, PySem.Value.int 0 0, PySem.Value.int 3 0, PySem.Value.ref 122, PySem.Value.bool Bool.true, PySem.Value.int 181 0, PySem.Value.ref 123, PySem.Value.none, PySem.Value.ref 124, PySem.Value.ref 125, PySem.Value.ref 126, PySem.Value.int 381 0, PySem.Value.int 89 0, PySem.Value.str (PySem.Str.ofString "/claim/cut.py") 382] }) :: (nat_lit 128, { cls := PySem.Value.type "function", data := PySem.Data.func { name := PySem.Str.ofString "gcd", qualname := PySem.Str.ofString "gcd", params := a13, body := PySem.FuncBody.stmts b13, scope := s13, globals := 3, closure := [], defaults := PySem.Value.none, kwdefaults := PySem.Value.none, pyModule := PySem.Value.str (PySem.Str.ofString "rsa.prime") 374, code := PySem.Value.ref 127 } }) :: (nat_lit 129, { cls := PySem.Value.type "tuple", data := PySem.Data.seq #[] }) :: (nat_lit 131, { cls := PySem.Value.type "tuple", data := PySem.Data.seq #[PySem.Value.str (PySem.Str.ofString "a") 387, PySem.Value.str (PySem.Str.ofString "b") 388, PySem.Value.str (PySem.Str.ofString "d") 389] }) :: (nat_lit 132, { cls := PySem.Value.type "tuple", data := PySem.Data.seq #[] }) :: (nat_lit 134, { cls := PySem.Value.type "code", data := PySem.Data.fields #[PySem.Value.str (PySem.Str.ofString "are_relatively_prime") 384, PySem.Value.str (PySem.Str.ofString "are_relatively_prime") 385, PySem.Value.str (PySem.Str.ofString "/claim/cut.py") 386, PySem.Value.int 93 0, PySem.Value.int 2 0, PySem.Value.int 0 0, PySem.Value.int 0 0, PySem.Value.int 3 0, PySem.Value.ref 129, PySem.Value.bool Bool.true, PySem.Value.int 181 0, PySem.Value.ref 130, PySem.Value.none, PySem.Value.ref 131, PySem.Value.ref 132, PySem.Value.ref 133, PySem.Value.int 390 0, PySem.Value.int 93 0, PySem.Value.str (PySem.Str.ofString "/claim/cut.py") 391] }) :: (nat_lit 135, { cls := PySem.Value.type "function", data := PySem.Data.func { name := PySem.Str.ofString "are_relatively_prime", qualname := PySem.Str.ofString "are_relatively_prime", params := a14, body := PySem.FuncBody.stmts b14, scope := s14, globals := 3, closure := [], defaults := PySem.Value.none, kwdefaults := PySem.Value.none, pyModule := PySem.Value.str (PySem.Str.ofString "rsa.prime") 374, code := PySem.Value.ref 134 } }) :: (nat_lit 143, { cls := PySem.Value.type "tuple", data := PySem.Data.seq #[] }) :: (nat_lit 145, { cls := PySem.Value.type "tuple", data := PySem.Data.seq #[PySem.Value.str (PySem.Str.ofString "self") 410, PySem.Value.str (PySem.Str.ofString "n") 411, PySem.Value.str (PySem.Str.ofString "e") 412] }) :: (nat_lit 146, { cls := PySem.Value.type "tuple", data := PySem.Data.seq #[] }) :: (nat_lit 148, { cls := PySem.Value.type "code", data := PySem.Data.fields #[PySem.Value.str (PySem.Str.ofString "__init__") 407, PySem.Value.str (PySem.Str.ofString "AbstractKey.__init__") 408, PySem.Value.str (PySem.Str.ofString "/claim/cut.py") 409, PySem.Value.int 99 0, PySem.Value.int 3 0, PySem.Value.int 0 0, PySem.Value.int 0 0, PySem.Value.int 3 0, PySem.Value.ref 143, PySem.Value.bool Bool.true, PySem.Value.int 181 0, PySem.Value.ref 144, PySem.Value.none, PySem.Value.ref 145, PySem.Value.ref 146, PySem.Value.ref 147, PySem.Value.int 413 0, PySem.Value.int 99 0, PySem.Value.str (PySem.Str.ofString "/claim/cut.py") 414] }) :: (nat_lit 149, { cls := PySem.Value.type "function", data := PySem.Data.func { name := PySem.Str.ofString "__init__", qualname := PySem.Str.ofString "AbstractKey.__init__", params := a15, body := PySem.FuncBody.stmts b15, scope := s15, globals := 3, closure := [], defaults := PySem.Value.none, kwdefaults := PySem.Value.none, pyModule := PySem.Value.str (PySem.Str.ofString "rsa.key") 393, code := PySem.Value.ref 148 } }) :: (nat_lit 150, { cls := PySem.Value.type "tuple", data := PySem.Data.seq #[] }) :: (nat_lit 152, { cls := PySem.Value.type "tuple", data := PySem.Data.seq #[PySem.Value.str (PySem.Str.ofString "self") 419, PySem.Value.str (PySem.Str.ofString "message") 420, PySem.Value.str (PySem.Str.ofString "blindfac") 421, PySem.Value.str (PySem.Str.ofString "blindfac_inverse") 422, PySem.Value.str (PySem.Str.ofString "blinded") 423] }) :: (nat_lit 153, { cls := PySem.Value.type "tuple", data := PySem.Data.seq #[] }) :: (nat_lit 155, { cls := PySem.Value.type "code", data := PySem.Data.fields #[PySem.Value.str (PySem.Str.ofString "blind") 416, PySem.Value.str (PySem.Str.ofString "AbstractKey.blind") 417, PySem.Value.str (PySem.Str.ofString "/claim/cut.py") 418, PySem.Value.int 104 0, PySem.Value.int 2 0, PySem.Value.int 0 0, PySem.Value.int 0 0, PySem.Value.int 3 0, PySem.Value.ref 150, PySem.Value.bool Bool.true, PySem.Value.int 181 0, PySem.Value.ref 151, PySem.Value.none, PySem.Value.ref 152, PySem.Value.ref 153, PySem.Value.ref 154, PySem.Value.int 424 0, PySem.Value.int 104 0, PySem.Value.str (PySem.Str.ofString "/claim/cut.py") 425] }) :: (nat_lit 156, { cls := PySem.Value.type "function", data := PySem.Data.func { name := PySem.Str.ofString "blind", qualname := PySem.Str.ofString "AbstractKey.blind", params := a16, body := PySem.FuncBody.stmts b16, scope := s16, globals := 3, closure := [], defaults := PySem.Value.none, kwdefaults := PySem.Value.none, pyModule := PySem.Value.str (PySem.Str.ofString "rsa.key") 393, code := PySem.Value.ref 155 } }) :: (nat_lit 157, { cls := PySem.Value.type "tuple", data := PySem.Data.seq #[] }) :: (nat_lit 159, { cls := PySem.Value.type "tuple", data := PySem.Data.seq #[PySem.Value.str (PySem.Str.ofString "self") 430, PySem.Value.str (PySem.Str.ofString "blinded") 431, PySem.Value.str (PySem.Str.ofString "blindfac_inverse") 432] }) :: (nat_lit 160, { cls := PySem.Value.type "tuple", data := PySem.Data.seq #[] }) :: (nat_lit 162, { cls := PySem.Value.type "code", data := PySem.Data.fields #[PySem.Value.str (PySem.Str.ofString "unblind") 427, PySem.Value.str (PySem.Str.ofString "AbstractKey.unblind") 428, PySem.Value.str (PySem.Str.ofString "/claim/cut.py") 429, PySem.Value.int 109 0, PySem.Value.int 3 0, PySem.Value.int 0 0, PySem.Value.int 0 0, PySem.Value.int 3 0, PySem.Value.ref 157, PySem.Value.bool Bool.true, PySem.Value.int 181 0, PySem.Value.ref 158, PySem.Value.none, PySem.Value.ref 159, PySem.Value.ref 160, PySem.Value.ref 161, PySem.Value.int 433 0, PySem.Value.int 109 0, PySem.Value.str (PySem.Str.ofString "/claim/cut.py") 434] }) :: (nat_lit 163, { cls := PySem.Value.type "function", data := PySem.Data.func { name := PySem.Str.ofString "unblind", qualname := PySem.Str.ofString "AbstractKey.unblind", params := a17, body := PySem.FuncBody.stmts b17, scope := s17, globals := 3, closure := [], defaults := PySem.Value.none, kwdefaults := PySem.Value.none, pyModule := PySem.Value.str (PySem.Str.ofString "rsa.key") 393, code := PySem.Value.ref 162 } }) :: (nat_lit 164, { cls := PySem.Value.type "tuple", data := PySem.Data.seq #[] }) :: (nat_lit 166, { cls := PySem.Value.type "tuple", data := PySem.Data.seq #[PySem.Value.str (PySem.Str.ofString "self") 439, PySem.Value.str (PySem.Str.ofString "blind_r") 440] }) :: (nat_lit 167, { cls := PySem.Value.type "tuple", data := PySem.Data.seq #[] }) :: (nat_lit 169, { cls := PySem.Value.type "code", data := PySem.Data.fields #[PySem.Value.str (PySem.Str.ofString "_initial_blinding_factor") 436, PySem.Value.str (PySem.Str.ofString "AbstractKey._initial_blinding_factor") 437, PySem.Value.str (PySem.Str.ofString "/claim/cut.py") 438, PySem.Value.int 112 0, PySem.Value.int 1 0, PySem.Value.int 0 0, PySem.Value.int 0 0, PySem.Value.int 3 0, PySem.Value.ref 164, PySem.Value.bool Bool.true, PySem.Value.int 181 0, PySem.Value.ref 165, PySem.Value.none, PySem.Value.ref 166, PySem.Value.ref 167, PySem.Value.ref 168, PySem.Value.int 441 0, PySem.Value.int 112 0, PySem.Value.str (PySem.Str.ofString "/claim/cut.py") 442] }) :: (nat_lit 170, { cls := PySem.Value.type "function", data := PySem.Data.func { name := PySem.Str.ofString "_initial_blinding_factor", qualname := PySem.Str.ofString "AbstractKey._initial_blinding_factor", params := a18, body := PySem.FuncBody.stmts b18, scope := s18, globals := 3, closure := [], defaults := PySem.Value.none, kwdefaults := PySem.Value.none, pyModule := PySem.Value.str (PySem.Str.ofString "rsa.key") 393, code := PySem.Value.ref 169 } }) :: (nat_lit 171, { cls := PySem.Value.type "tuple", data := PySem.Data.seq #[] }) :: (nat_lit 173, { cls := PySem.Value.type "tuple", data := PySem.Data.seq #[PySem.Value.str (PySem.Str.ofString "self") 447] }) :: (nat_lit 174, { cls := PySem.Value.type "tuple", data := PySem.Data.seq #[] }) :: (nat_lit 176, { cls := PySem.Value.type "code", data := PySem.Data.fields #[PySem.Value.str (PySem.Str.ofString "_update_blinding_factor") 444, PySem.Value.str (PySem.Str.ofString "AbstractKey._update_blinding_factor") 445, PySem.Value.str (PySem.Str.ofString "/claim/cut.py") 446, PySem.Value.int 118 0, PySem.Value.int 1 0, PySem.Value.int 0 0, PySem.Value.int 0 0, PySem.Value.int 3 0, PySem.Value.ref 171, PySem.Value.bool Bool.true, PySem.Value.int 181 0, PySem.Value.ref 172, PySem.Value.none, PySem.Value.ref 173, PySem.Value.ref 174, PySem.Value.ref 175, PySem.Value.int 448 0, PySem.Value.int 118 0, PySem.Value.str (PySem.Str.ofString "/claim/cut.py") 449] }) :: (nat_lit 177, { cls := PySem.Value.type "function", data := PySem.Data.func { name := PySem.Str.ofString "_update_blinding_factor", qualname := PySem.Str.ofString "AbstractKey._update_blinding_factor", params := a19, body := PySem.FuncBody.stmts b19, scope := s19, globals := 3, closure := [], defaults := PySem.Value.none, kwdefaults := PySem.Value.none, pyModule := PySem.Value.str (PySem.Str.ofString "rsa.key") 393, code := PySem.Value.ref 176 } }) :: (nat_lit 178, { cls := PySem.Value.type "tuple", data := PySem.Data.seq #[PySem.Value.str (PySem.Str.ofString "blindfac") 451, PySem.Value.str (PySem.Str.ofString "blindfac_inverse") 452, PySem.Value.str (PySem.Str.ofString "e") 453, PySem.Value.str (PySem.Str.ofString "n") 454] }) :: (nat_lit 179, { cls := PySem.Value.type "dict", data := PySem.Data.dict #[{ hash := PySem.PyData.keyHash P (PySem.Str.ofString "__module__"), key := PySem.Value.str (PySem.Str.ofString "__module__") 402, val := PySem.Value.str (PySem.Str.ofString "rsa.key") 393 }, { hash := PySem.PyData.keyHash P (PySem.Str.ofString "__firstlineno__"), key := PySem.Value.str (PySem.Str.ofString "__firstlineno__") 406, val := PySem.Value.int 97 405 }, { hash := PySem.PyData.keyHash P (PySem.Str.ofString "__init__"), key := PySem.Value.str (PySem.Str.ofString "__init__") 415, val := PySem.Value.ref 149 }, { hash := PySem.PyData.keyHash P (PySem.Str.ofString "blind"), key := PySem.Value.str (PySem.Str.ofString "blind") 426, val := PySem.Value.ref 156 }, { hash := PySem.PyData.keyHash P (PySem.Str.ofString "unblind"), key := PySem.Value.str (PySem.Str.ofString "unblind") 435, val := PySem.Value.ref 163 }, { hash := PySem.PyData.keyHash P (PySem.Str.ofString "_initial_blinding_factor"), key := PySem.Value.str (PySem.Str.ofString "_initial_blinding_factor") 443, val := PySem.Value.ref 170 }, { hash := PySem.PyData.keyHash P (PySem.Str.ofString "_update_blinding_factor"), key := PySem.Value.str (PySem.Str.ofString "_update_blinding_factor") 450, val := PySem.Value.ref 177 }, { hash := PySem.PyData.keyHash P (PySem.Str.ofString "__static_attributes__"), key := PySem.Value.str (PySem.Str.ofString "__static_attributes__") 455, val := PySem.Value.ref 178 }, { hash := PySem.PyData.keyHash P (PySem.Str.ofString "__dict__"), key := PySem.Value.str (PySem.Str.ofString "__dict__") 457, val := PySem.Value.ref 181 }, { hash := PySem.PyData.keyHash P (PySem.Str.ofString "__weakref__"), key := PySem.Value.str (PySem.Str.ofString "__weakref__") 459, val := PySem.Value.ref 182 }, { hash := PySem.PyData.keyHash P (PySem.Str.ofString "__doc__"), key := PySem.Value.str (PySem.Str.ofString "__doc__") 460, val := PySem.Value.none }] 4 }) :: (nat_lit 180, { cls := PySem.Value.type "type", data := PySem.Data.cls { name := PySem.Str.ofString "AbstractKey", bases := [PySem.Value.type "object"], mro := [PySem.Value.ref 180, PySem.Value.type "object"], ns := 179, qualname := PySem.Str.ofString "AbstractKey", subclasses := [PySem.Value.ref 229] }, slots := #[Option.none, Option.none, Option.some (PySem.Value.str (PySem.Str.ofString "AbstractKey") 395), Option.some (PySem.Value.str (PySem.Str.ofString "AbstractKey") 403), Option.some (PySem.Value.builtin "object.__new__"), Option.some (PySem.Value.bool Bool.true)] }) :: (nat_lit 181, { cls := PySem.Value.type "getset_descriptor", data := PySem.Data.fields #[PySem.Value.str (PySem.Str.ofString "__dict__") 456, PySem.Value.ref 180, PySem.Value.builtin "function.__dict__", PySem.Value.builtin "function.__dict__#set"] }) :: (nat_lit 182, { cls := PySem.Value.type "getset_descriptor", data := PySem.Data.fields #[PySem.Value.str (PySem.Str.ofString "__weakref__") 458, PySem.Value.ref 180, PySem.Value.builtin "ExceptionGroup.__weakref__", PySem.Value.none] }) :: (nat_lit 185, { cls := PySem.Value.type "tuple", data := PySem.Data.seq #[PySem.Value.ref 180] }) :: (nat_lit 192, { cls := PySem.Value.type "tuple", data := PySem.Data.seq #[] }) :: (nat_lit 194, { cls := PySem.Value.type "tuple", data := PySem.Data.seq #[PySem.Value.str (PySem.Str.ofString "self") 478, PySem.Value.str (PySem.Str.ofString "n") 479, PySem.Value.str (PySem.Str.ofString "e") 480, PySem.Value.str (PySem.Str.ofString "d") 481, PySem.Value.str (PySem.Str.ofString "p") 482, PySem.Value.str (PySem.Str.ofString "q") 483] }) :: (nat_lit 195, { cls := PySem.Value.type "tuple", data := PySem.Data.seq #[] }) :: (nat_lit 197, { cls := PySem.Value.type "code", data := PySem.Data.fields #[PySem.Value.str (PySem.Str.ofString "__init__") 475, PySem.Value.str (PySem.Str.ofString "PrivateKey.__init__") 476, PySem.Value.str (PySem.Str.ofString "/claim/cut.py") 477, PySem.Value.int 128 0, PySem.Value.int 6 0, PySem.Value.int 0 0, PySem.Value.int 0 0, PySem.Value.int 3 0, PySem.Value.ref 192, PySem.Value.bool Bool.true, PySem.Value.int 181 0, PySem.Value.ref 193, PySem.Value.none, PySem.Value.ref 194, PySem.Value.ref 195, PySem.Value.ref 196, PySem.Value.int 484 0, PySem.Value.int 128 0, PySem.Value.str (PySem.Str.ofString "/claim/cut.py") 485] }) :: (nat_lit 198, { cls := PySem.Value.type "function", data := PySem.Data.func { name := PySem.Str.ofString "__init__", qualname := PySem.Str.ofString "PrivateKey.__init__", params := a20, body := PySem.FuncBody.stmts b20, scope := s20, globals := 3, closure := [], defaults := PySem.Value.none, kwdefaults := PySem.Value.none, pyModule := PySem.Value.str (PySem.Str.ofString "rsa.key") 393, code := PySem.Value.ref 197 } }) :: (nat_lit 199, { cls := PySem.Value.type "tuple", data := PySem.Data.seq #[] }) :: (nat_lit 201, { cls := PySem.Value.type "tuple", data := PySem.Data.seq #[PySem.Value.str (PySem.Str.ofString "self") 490, PySem.Value.str (PySem.Str.ofString "other") 491] }) :: (nat_lit 202, { cls := PySem.Value.type "tuple", data := PySem.Data.seq #[] }) :: (nat_lit 204, { cls := PySem.Value.type "code", data := PySem.Data.fields #[PySem.Value.str (PySem.Str.ofString "__eq__") 487, PySem.Value.str (PySem.Str.ofString "PrivateKey.__eq__") 488, PySem.Value.str (PySem.Str.ofString "/claim/cut.py") 489, PySem.Value.int 137 0, PySem.Value.int 2 0, PySem.Value.int 0 0, PySem.Value.int 0 0, PySem.Value.int 3 0, PySem.Value.ref 199, PySem.Value.bool Bool.true, PySem.Value.int 181 0, PySem.Value.ref 200, PySem.Value.none, PySem.Value.ref 201, PySem.Value.ref 202, PySem.Value.ref 203, PySem.Value.int 492 0, PySem.Value.int 137 0, PySem.Value.str (PySem.Str.ofString "/claim/cut.py") 493] }) :: (nat_lit 205, { cls := PySem.Value.type "function", data := PySem.Data.func { name := PySem.Str.ofString "__eq__", qualname := PySem.Str.ofString "PrivateKey.__eq__", params := a21, body := PySem.FuncBody.stmts b21, scope := s21, globals := 3, closure := [], defaults := PySem.Value.none, kwdefaults := PySem.Value.none, pyModule := PySem.Value.str (PySem.Str.ofString "rsa.key") 393, code := PySem.Value.ref 204 } }) :: (nat_lit 206, { cls := PySem.Value.type "tuple", data := PySem.Data.seq #[] }) :: (nat_lit 208, { cls := PySem.Value.type "tuple", data := PySem.Data.seq #[PySem.Value.str (PySem.Str.ofString "self") 498, PySem.Value.str (PySem.Str.ofString "other") 499] }) :: (nat_lit 209, { cls := PySem.Value.type "tuple", data := PySem.Data.seq #[] }) :: (nat_lit 211, { cls := PySem.Value.type "code", data := PySem.Data.fields #[PySem.Value.str (PySem.Str.ofString "__ne__") 495, PySem.Value.str (PySem.Str.ofString "PrivateKey.__ne__") 496, PySem.Value.str (PySem.Str.ofString "/claim/cut.py") 497, PySem.Value.int 144 0, PySem.Value.int 2 0, PySem.Value.int 0 0, PySem.Value.int 0 0, PySem.Value.int 3 0, PySem.Value.ref 206, PySem.Value.bool Bool.true, PySem.Value.int 181 0, PySem.Value.ref 207, PySem.Value.none, PySem.Value.ref 208, PySem.Value.ref 209, PySem.Value.ref 210, PySem.Value.int 500 0, PySem.Value.int 144 0, PySem.Value.str (PySem.Str.ofString "/claim/cut.py") 501] }) :: (nat_lit 212, { cls := PySem.Value.type "function", data := PySem.Data.func { name := PySem.Str.ofString "__ne__", qualname := PySem.Str.ofString "PrivateKey.__ne__", params := a22, body := PySem.FuncBody.stmts b22, scope := s22, globals := 3, closure := [], defaults := PySem.Value.none, kwdefaults := PySem.Value.none, pyModule := PySem.Value.str (PySem.Str.ofString "rsa.key") 393, code := PySem.Value.ref 211 } }) :: (nat_lit 213, { cls := PySem.Value.type "tuple", data := PySem.Data.seq #[] }) :: (nat_lit 215, { cls := PySem.Value.type "tuple", data := PySem.Data.seq #[PySem.Value.str (PySem.Str.ofString "self") 506, PySem.Value.str (PySem.Str.ofString "encrypted") 507] }) :: (nat_lit 216, { cls := PySem.Value.type "tuple", data := PySem.Data.seq #[] }) :: (nat_lit 218, { cls := PySem.Value.type "code", data := PySem.Data.fields #[PySem.Value.str (PySem.Str.ofString "blinded_decrypt") 503, PySem.Value.str (PySem.Str.ofString "PrivateKey.blinded_decrypt") 504, PySem.Value.str (PySem.Str.ofString "/claim/cut.py") 505, PySem.Value.int 147 0, PySem.Value.int 2 0, PySem.Value.int 0 0, PySem.Value.int 0 0, PySem.Value.int 3 0, PySem.Value.ref 213, PySem.Value.bool Bool.true, PySem.Value.int 181 0, PySem.Value.ref 214, PySem.Value.none, PySem.Value.ref 215, PySem.Value.ref 216, PySem.Value.ref 217, PySem.Value.int 508 0, PySem.Value.int 147 0, PySem.Value.str (PySem.Str.ofString "/claim/cut.py") 509] }) :: (nat_lit 219, { cls := PySem.Value.type "function", data := PySem.Data.func { name := PySem.Str.ofString "blinded_decrypt", qualname := PySem.Str.ofString "PrivateKey.blinded_decrypt", params := a23, body := PySem.FuncBody.stmts b23, scope := s23, globals := 3, closure := [], defaults := PySem.Value.none, kwdefaults := PySem.Value.none, pyModule := PySem.Value.str (PySem.Str.ofString "rsa.key") 393, code := PySem.Value.ref 218 } }) :: (nat_lit 220, { cls := PySem.Value.type "tuple", data := PySem.Data.seq #[] }) :: (nat_lit 222, { cls := PySem.Value.type "tuple", data := PySem.Data.seq #[PySem.Value.str (PySem.Str.ofString "self") 514, PySem.Value.str (PySem.Str.ofString "message") 515, PySem.Value.str (PySem.Str.ofString "blinded") 516, PySem.Value.str (PySem.Str.ofString "blindfac_inverse") 517, PySem.Value.str (PySem.Str.ofString "encrypted") 518] }) :: (nat_lit 223, { cls := PySem.Value.type "tuple", data := PySem.Data.seq #[] }) :: (nat_lit 225, { cls := PySem.Value.type "code", data := PySem.Data.fields #[PySem.Value.str (PySem.Str.ofString "blinded_encrypt") 511, PySem.Value.str (PySem.Str.ofString "PrivateKey.blinded_encrypt") 512, PySem.Value.str (PySem.Str.ofString "/claim/cut.py") 513, PySem.Value.int 150 0, PySem.Value.int 2 0, PySem.Value.int 0 0, PySem.Value.int 0 0, PySem.Value.int 3 0, PySem.Value.ref 220, PySem.Value.bool Bool.true, PySem.Value.int 181 0, PySem.Value.ref 221, PySem.Value.none, PySem.Value.ref 222, PySem.Value.ref 223, PySem.Value.ref 224, PySem.Value.int 519 0, PySem.Value.int 150 0, PySem.Value.str (PySem.Str.ofString "/claim/cut.py") 520] }) :: (nat_lit 226, { cls := PySem.Value.type "function", data := PySem.Data.func { name := PySem.Str.ofString "blinded_encrypt", qualname := PySem.Str.ofString "PrivateKey.blinded_encrypt", params := a24, body := PySem.FuncBody.stmts b24, scope := s24, globals := 3, closure := [], defaults := PySem.Value.none, kwdefaults := PySem.Value.none, pyModule := PySem.Value.str (PySem.Str.ofString "rsa.key") 393, code := PySem.Value.ref 225 } }) :: (nat_lit 227, { cls := PySem.Value.type "tuple", data := PySem.Data.seq #[PySem.Value.str (PySem.Str.ofString "coef") 522, PySem.Value.str (PySem.Str.ofString "d") 523, PySem.Value.str (PySem.Str.ofString "exp1") 524, PySem.Value.str (PySem.Str.ofString "exp2") 525, PySem.Value.str (PySem.Str.ofString "p") 526, PySem.Value.str (PySem.Str.ofString "q") 527] }) :: (nat_lit 228, { cls := PySem.Value.type "dict", data := PySem.Data.dict #[{ hash := PySem.PyData.keyHash P (PySem.Str.ofString "__module__"), key := PySem.Value.str (PySem.Str.ofString "__module__") 470, val := PySem.Value.str (PySem.Str.ofString "rsa.key") 393 }, { hash := PySem.PyData.keyHash P (PySem.Str.ofString "__firstlineno__"), key := PySem.Value.str (PySem.Str.ofString "__firstlineno__") 474, val := PySem.Value.int 126 473 }, { hash := PySem.PyData.keyHash P (PySem.Str.ofString "__init__"), key := PySem.Value.str (PySem.Str.ofString "__init__") 486, val := PySem.Value.ref 198 }, { hash := PySem.PyData.keyHash P (PySem.Str.ofString "__eq__"), key := PySem.Value.str (PySem.Str.ofString "__eq__") 494, val := PySem.Value.ref 205 }, { hash := PySem.PyData.keyHash P (PySem.Str.ofString "__ne__"), key := PySem.Value.str (PySem.Str.ofString "__ne__") 502, val := PySem.Value.ref 212 }, { hash := PySem.PyData.keyHash P (PySem.Str.ofString "blinded_decrypt"), key := PySem.Value.str (PySem.Str.ofString "blinded_decrypt") 510, val := PySem.Value.ref 219 }, { hash := PySem.PyData.keyHash P (PySem.Str.ofString "blinded_encrypt"), key := PySem.Value.str (PySem.Str.ofString "blinded_encrypt") 521, val := PySem.Value.ref 226 }, { hash := PySem.PyData.keyHash P (PySem.Str.ofString "__static_attributes__"), key := PySem.Value.str (PySem.Str.ofString "__static_attributes__") 528, val := PySem.Value.ref 227 }, { hash := PySem.PyData.keyHash P (PySem.Str.ofString "__doc__"), key := PySem.Value.str (PySem.Str.ofString "__doc__") 529, val := PySem.Value.none }, { hash := PySem.PyData.keyHash P (PySem.Str.ofString "__hash__"), key := PySem.Value.str (PySem.Str.ofString "__hash__") 530, val := PySem.Value.none }] 3 }) :: (nat_lit 229, { cls := PySem.Value.type "type", data := PySem.Data.cls { name := PySem.Str.ofString "PrivateKey", bases := [PySem.Value.ref 180], mro := [PySem.Value.ref 229, PySem.Value.ref 180, PySem.Value.type "object"], ns := 228, qualname := PySem.Str.ofString "PrivateKey" }, slots := #[Option.some (PySem.Value.ref 185), Option.none, Option.some (PySem.Value.str (PySem.Str.ofString "PrivateKey") 463), Option.some (PySem.Value.str (PySem.Str.ofString "PrivateKey") 471), Option.some (PySem.Value.builtin "object.__new__"), Option.some (PySem.Value.bool Bool.true)] }) :: (nat_lit 232, { cls := PySem.Value.type "tuple", data := PySem.Data.seq #[] }) :: (nat_lit 234, { cls := PySem.Value.type "tuple", data := PySem.Data.seq #[PySem.Value.str (PySem.Str.ofString "script") 538, PySem.Value.str (PySem.Str.ofString "k") 539] }) :: (nat_lit 235, { cls := PySem.Value.type "tuple", data := PySem.Data.seq #[] }) :: (nat_lit 237, { cls := PySem.Value.type "code", data := PySem.Data.fields #[PySem.Value.str (PySem.Str.ofString "_law_cell") 535, PySem.Value.str (PySem.Str.ofString "_law_cell") 536, PySem.Value.str (PySem.Str.ofString "/claim/cut.py") 537, PySem.Value.int 155 0, PySem.Value.int 2 0, PySem.Value.int 0 0, PySem.Value.int 0 0, PySem.Value.int 3 0, PySem.Value.ref 232, PySem.Value.bool Bool.true, PySem.Value.int 181 0, PySem.Value.ref 233, PySem.Value.none, PySem.Value.ref 234, PySem.Value.ref 235, PySem.Value.ref 236, PySem.Value.int 540 0, PySem.Value.int 155 0, PySem.Value.str (PySem.Str.ofString "/claim/cut.py") 541] }) :: (nat_lit 238, { cls := PySem.Value.type "function", data := PySem.Data.func { name := PySem.Str.ofString "_law_cell", qualname := PySem.Str.ofString "_law_cell", params := a25, body := PySem.FuncBody.stmts b25, scope := s25, globals := 3, closure := [], defaults := PySem.Value.none, kwdefaults := PySem.Value.none, pyModule := PySem.Value.str (PySem.Str.ofString "law_ys0001_09") 533, code := PySem.Value.ref 237 } }) :: (nat_lit 239, { cls := PySem.Value.type "tuple", data := PySem.Data.seq #[] }) :: (nat_lit 241, { cls := PySem.Value.type "tuple", data := PySem.Data.seq #[PySem.Value.str (PySem.Str.ofString "script") 546, PySem.Value.str (PySem.Str.ofString "start") 547, PySem.Value.str (PySem.Str.ofString "size") 548, PySem.Value.str (PySem.Str.ofString "row") 549, PySem.Value.str (PySem.Str.ofString "number") 550, PySem.Value.str (PySem.Str.ofString "k") 551] }) :: (nat_lit 242, { cls := PySem.Value.type "tuple", data := PySem.Data.seq #[] }) :: (nat_lit 244, { cls := PySem.Value.type "code", data := PySem.Data.fields #[PySem.Value.str (PySem.Str.ofString "_law_octets") 543, PySem.Value.str (PySem.Str.ofString "_law_octets") 544, PySem.Value.str (PySem.Str.ofString "/claim/cut.py") 545, PySem.Value.int 159 0, PySem.Value.int 3 0, PySem.Value.int 0 0, PySem.Value.int 0 0, PySem.Value.int 3 0, PySem.Value.ref 239, PySem.Value.bool Bool.true, PySem.Value.int 181 0, PySem.Value.ref 240, PySem.Value.none, PySem.Value.ref 241, PySem.Value.ref 242, PySem.Value.ref 243, PySem.Value.int 552 0, PySem.Value.int 159 0, PySem.Value.str (PySem.Str.ofString "/claim/cut.py") 553] }) :: (nat_lit 245, { cls := PySem.Value.type "function", data := PySem.Data.func { name := PySem.Str.ofString "_law_octets", qualname := PySem.Str.ofString "_law_octets", params := a26, body := PySem.FuncBody.stmts b26, scope := s26, globals := 3, closure := [], defaults := PySem.Value.none, kwdefaults := PySem.Value.none, pyModule := PySem.Value.str (PySem.Str.ofString "law_ys0001_09") 533, code := PySem.Value.ref 244 } }) :: (nat_lit 246, { cls := PySem.Value.type "tuple", data := PySem.Data.seq #[] }) :: (nat_lit 248, { cls := PySem.Value.type "tuple", data := PySem.Data.seq #[PySem.Value.str (PySem.Str.ofString "one") 558, PySem.Value.str (PySem.Str.ofString "two") 559, PySem.Value.str (PySem.Str.ofString "k") 560] }) :: (nat_lit 249, { cls := PySem.Value.type "tuple", data := PySem.Data.seq #[] }) :: (nat_lit 251, { cls := PySem.Value.type "code", data := PySem.Data.fields #[PySem.Value.str (PySem.Str.ofString "_law_common") 555, PySem.Value.str (PySem.Str.ofString "_law_common") 556, PySem.Value.str (PySem.Str.ofString "/claim/cut.py") 557, PySem.Value.int 168 0, PySem.Value.int 2 0, PySem.Value.int 0 0, PySem.Value.int 0 0, PySem.Value.int 3 0, PySem.Value.ref 246, PySem.Value.bool Bool.true, PySem.Value.int 181 0, PySem.Value.ref 247, PySem.Value.none, PySem.Value.ref 248, PySem.Value.ref 249, PySem.Value.ref 250, PySem.Value.int 561 0, PySem.Value.int 168 0, PySem.Value.str (PySem.Str.ofString "/claim/cut.py") 562] }) :: (nat_lit 252, { cls := PySem.Value.type "function", data := PySem.Data.func { name := PySem.Str.ofString "_law_common", qualname := PySem.Str.ofString "_law_common", params := a27, body := PySem.FuncBody.stmts b27, scope := s27, globals := 3, closure := [], defaults := PySem.Value.none, kwdefaults := PySem.Value.none, pyModule := PySem.Value.str (PySem.Str.ofString "law_ys0001_09") 533, code := PySem.Value.ref 251 } }) :: (nat_lit 253, { cls := PySem.Value.type "tuple", data := PySem.Data.seq #[] }) :: (nat_lit 255, { cls := PySem.Value.type "tuple", data := PySem.Data.seq #[PySem.Value.str (PySem.Str.ofString "one") 567, PySem.Value.str (PySem.Str.ofString "whole") 568, PySem.Value.str (PySem.Str.ofString "old") 569, PySem.Value.str (PySem.Str.ofString "new") 570, PySem.Value.str (PySem.Str.ofString "first") 571, PySem.Value.str (PySem.Str.ofString "second") 572, PySem.Value.str (PySem.Str.ofString "k") 573, PySem.Value.str (PySem.Str.ofString "times") 574] }) :: (nat_lit 256, { cls := PySem.Value.type "tuple", data := PySem.Data.seq #[] }) :: (nat_lit 258, { cls := PySem.Value.type "code", data := PySem.Data.fields #[PySem.Value.str (PySem.Str.ofString "_law_inverse") 564, PySem.Value.str (PySem.Str.ofString "_law_inverse") 565, PySem.Value.str (PySem.Str.ofString "/claim/cut.py") 566, PySem.Value.int 174 0, PySem.Value.int 2 0, PySem.Value.int 0 0, PySem.Value.int 0 0, PySem.Value.int 3 0, PySem.Value.ref 253, PySem.Value.bool Bool.true, PySem.Value.int 181 0, PySem.Value.ref 254, PySem.Value.none, PySem.Value.ref 255, PySem.Value.ref 256, PySem.Value.ref 257, PySem.Value.int 575 0, PySem.Value.int 174 0, PySem.Value.str (PySem.Str.ofString "/claim/cut.py") 576] }) :: (nat_lit 259, { cls := PySem.Value.type "function", data := PySem.Data.func { name := PySem.Str.ofString "_law_inverse", qualname := PySem.Str.ofString "_law_inverse", params := a28, body := PySem.FuncBody.stmts b28, scope := s28, globals := 3, closure := [], defaults := PySem.Value.none, kwdefaults := PySem.Value.none, pyModule := PySem.Value.str (PySem.Str.ofString "law_ys0001_09") 533, code := PySem.Value.ref 258 } }) :: (nat_lit 260, { cls := PySem.Value.type "tuple", data := PySem.Data.seq #[] }) :: (nat_lit 262, { cls := PySem.Value.type "tuple", data := PySem.Data.seq #[PySem.Value.str (PySem.Str.ofString "n") 581] }) :: (nat_lit 263, { cls := PySem.Value.type "tuple", data := PySem.Data.seq #[] }) :: (nat_lit 265, { cls := PySem.Value.type "code", data := PySem.Data.fields #[PySem.Value.str (PySem.Str.ofString "_law_size") 578, PySem.Value.str (PySem.Str.ofString "_law_size") 579, PySem.Value.str (PySem.Str.ofString "/claim/cut.py") 580, PySem.Value.int 184 0, PySem.Value.int 1 0, PySem.Value.int 0 0, PySem.Value.int 0 0, PySem.Value.int 3 0, PySem.Value.ref 260, PySem.Value.bool Bool.true, PySem.Value.int 181 0, PySem.Value.ref 261, PySem.Value.none, PySem.Value.ref 262, PySem.Value.ref 263, PySem.Value.ref 264, PySem.Value.int 582 0, PySem.Value.int 184 0, PySem.Value.str (PySem.Str.ofString "/claim/cut.py") 583] }) :: (nat_lit 266, { cls := PySem.Value.type "function", data := PySem.Data.func { name := PySem.Str.ofString "_law_size", qualname := PySem.Str.ofString "_law_size", params := a29, body := PySem.FuncBody.stmts b29, scope := s29, globals := 3, closure := [], defaults := PySem.Value.none, kwdefaults := PySem.Value.none, pyModule := PySem.Value.str (PySem.Str.ofString "law_ys0001_09") 533, code := PySem.Value.ref 265 } }) :: (nat_lit 267, { cls := PySem.Value.type "tuple", data := PySem.Data.seq #[] }) :: (nat_lit 270, { cls := PySem.Value.type "code", data := PySem.Data.fields #[PySem.Value.str (PySem.Str.ofString "_law_keys") 585, PySem.Value.str (PySem.Str.ofString "_law_keys") 586, PySem.Value.str (PySem.Str.ofString "/claim/cut.py") 587, PySem.Value.int 186 0, PySem.Value.int 3 0, PySem.Value.int 0 0, PySem.Value.int 0 0, PySem.Value.int 3 0, PySem.Value.ref 267, PySem.Value.bool Bool.true, PySem.Value.int 181 0, PySem.Value.ref 268, PySem.Value.none, PySem.Value.none, PySem.Value.none, PySem.Value.ref 269, PySem.Value.int 588 0, PySem.Value.int 186 0, PySem.Value.str (PySem.Str.ofString "/claim/cut.py") 589] }) :: (nat_lit 271, { cls := PySem.Value.type "function", data := PySem.Data.func { name := PySem.Str.ofString "_law_keys", qualname := PySem.Str.ofString "_law_keys", params := a30, body := PySem.FuncBody.stmts b30, scope := s30, globals := 3, closure := [], defaults := PySem.Value.none, kwdefaults := PySem.Value.none, pyModule := PySem.Value.str (PySem.Str.ofString "law_ys0001_09") 533, code := PySem.Value.ref 270 } }) :: (nat_lit 272, { cls := PySem.Value.type "tuple", data := PySem.Data.seq #[] }) :: (nat_lit 274, { cls := PySem.Value.type "tuple", data := PySem.Data.seq #[PySem.Value.str (PySem.Str.ofString "octets") 594, PySem.Value.str (PySem.Str.ofString "number") 595, PySem.Value.str (PySem.Str.ofString "octet") 596] }) :: (nat_lit 275, { cls := PySem.Value.type "tuple", data := PySem.Data.seq #[] }) :: (nat_lit 277, { cls := PySem.Value.type "code", data := PySem.Data.fields #[PySem.Value.str (PySem.Str.ofString "_law_number") 591, PySem.Value.str (PySem.Str.ofString "_law_number") 592, PySem.Value.str (PySem.Str.ofString "/claim/cut.py") 593, PySem.Value.int 198 0, PySem.Value.int 1 0, PySem.Value.int 0 0, PySem.Value.int 0 0, PySem.Value.int 3 0, PySem.Value.ref 272, PySem.Value.bool Bool.true, PySem.Value.int 181 0, PySem.Value.ref 273, PySem.Value.none, PySem.Value.ref 274, PySem.Value.ref 275, PySem.Value.ref 276, PySem.Value.int 597 0, PySem.Value.int 198 0, PySem.Value.str (PySem.Str.ofString "/claim/cut.py") 598] }) :: (nat_lit 278, { cls := PySem.Value.type "function", data := PySem.Data.func { name := PySem.Str.ofString "_law_number", qualname := PySem.Str.ofString "_law_number", params := a31, body := PySem.FuncBody.stmts b31, scope := s31, globals := 3, closure := [], defaults := PySem.Value.none, kwdefaults := PySem.Value.none, pyModule := PySem.Value.str (PySem.Str.ofString "law_ys0001_09") 533, code := PySem.Value.ref 277 } }) :: (nat_lit 279, { cls := PySem.Value.type "tuple", data := PySem.Data.seq #[] }) :: (nat_lit 282, { cls := PySem.Value.type "code", data := PySem.Data.fields #[PySem.Value.str (PySem.Str.ofString "_law_written") 600, PySem.Value.str (PySem.Str.ofString "_law_written") 601, PySem.Value.str (PySem.Str.ofString "/claim/cut.py") 602, PySem.Value.int 203 0, PySem.Value.int 2 0, PySem.Value.int 0 0, PySem.Value.int 0 0, PySem.Value.int 3 0, PySem.Value.ref 279, PySem.Value.bool Bool.true, PySem.Value.int 181 0, PySem.Value.ref 280, PySem.Value.none, PySem.Value.none, PySem.Value.none, PySem.Value.ref 281, PySem.Value.int 603 0, PySem.Value.int 203 0, PySem.Value.str (PySem.Str.ofString "/claim/cut.py") 604] }) :: (nat_lit 283, { cls := PySem.Value.type "function", data := PySem.Data.func { name := PySem.Str.ofString "_law_written", qualname := PySem.Str.ofString "_law_written", params := a32, body := PySem.FuncBody.stmts b32, scope := s32, globals := 3, closure := [], defaults := PySem.Value.none, kwdefaults := PySem.Value.none, pyModule := PySem.Value.str (PySem.Str.ofString "law_ys0001_09") 533, code := PySem.Value.ref 282 } }) :: (nat_lit 284, { cls := PySem.Value.type "tuple", data := PySem.Data.seq #[] }) :: (nat_lit 286, { cls := PySem.Value.type "tuple", data := PySem.Data.seq #[PySem.Value.str (PySem.Str.ofString "rows") 609, PySem.Value.str (PySem.Str.ofString "name") 610, PySem.Value.str (PySem.Str.ofString "last") 611, PySem.Value.str (PySem.Str.ofString "size") 612, PySem.Value.str (PySem.Str.ofString "found") 613, PySem.Value.str (PySem.Str.ofString "kind") 614, PySem.Value.str (PySem.Str.ofString "inner") 615] }) :: (nat_lit 287, { cls := PySem.Value.type "tuple", data := PySem.Data.seq #[] }) :: (nat_lit 289, { cls := PySem.Value.type "code", data := PySem.Data.fields #[PySem.Value.str (PySem.Str.ofString "_law_codes") 606, PySem.Value.str (PySem.Str.ofString "_law_codes") 607, PySem.Value.str (PySem.Str.ofString "/claim/cut.py") 608, PySem.Value.int 205 0, PySem.Value.int 0 0, PySem.Value.int 0 0, PySem.Value.int 0 0, PySem.Value.int 3 0, PySem.Value.ref 284, PySem.Value.bool Bool.true, PySem.Value.int 181 0, PySem.Value.ref 285, PySem.Value.none, PySem.Value.ref 286, PySem.Value.ref 287, PySem.Value.ref 288, PySem.Value.int 616 0, PySem.Value.int 205 0, PySem.Value.str (PySem.Str.ofString "/claim/cut.py") 617] }) :: (nat_lit 290, { cls := PySem.Value.type "function", data := PySem.Data.func { name := PySem.Str.ofString "_law_codes", qualname := PySem.Str.ofString "_law_codes", params := a33, body := PySem.FuncBody.stmts b33, scope := s33, globals := 3, closure := [], defaults := PySem.Value.none, kwdefaults := PySem.Value.none, pyModule := PySem.Value.str (PySem.Str.ofString "law_ys0001_09") 533, code := PySem.Value.ref 289 } }) :: (nat_lit 291, { cls := PySem.Value.type "tuple", data := PySem.Data.seq #[] }) :: (nat_lit 293, { cls := PySem.Value.type "tuple", data := PySem.Data.seq #[PySem.Value.str (PySem.Str.ofString "told") 622, PySem.Value.str (PySem.Str.ofString "private") 623, PySem.Value.str (PySem.Str.ofString "name") 624] }) :: (nat_lit 294, { cls := PySem.Value.type "tuple", data := PySem.Data.seq #[] }) :: (nat_lit 296, { cls := PySem.Value.type "code", data := PySem.Data.fields #[PySem.Value.str (PySem.Str.ofString "_law_told") 619, PySem.Value.str (PySem.Str.ofString "_law_told") 620, PySem.Value.str (PySem.Str.ofString "/claim/cut.py") 621, PySem.Value.int 216 0, PySem.Value.int 3 0, PySem.Value.int 0 0, PySem.Value.int 0 0, PySem.Value.int 3 0, PySem.Value.ref 291, PySem.Value.bool Bool.true, PySem.Value.int 181 0, PySem.Value.ref 292, PySem.Value.none, PySem.Value.ref 293, PySem.Value.ref 294, PySem.Value.ref 295, PySem.Value.int 625 0, PySem.Value.int 216 0, PySem.Value.str (PySem.Str.ofString "/claim/cut.py") 626] }) :: (nat_lit 297, { cls := PySem.Value.type "function", data := PySem.Data.func { name := PySem.Str.ofString "_law_told", qualname := PySem.Str.ofString "_law_told", params := a34, body := PySem.FuncBody.stmts b34, scope := s34, globals := 3, closure := [], defaults := PySem.Value.none, kwdefaults := PySem.Value.none, pyModule := PySem.Value.str (PySem.Str.ofString "law_ys0001_09") 533, code := PySem.Value.ref 296 } }) :: (nat_lit 298, { cls := PySem.Value.type "tuple", data := PySem.Data.seq #[] }) :: (nat_lit 300, { cls := PySem.Value.type "tuple", data := PySem.Data.seq #[PySem.Value.str (PySem.Str.ofString "script") 631, PySem.Value.str (PySem.Str.ofString "p") 632, PySem.Value.str (PySem.Str.ofString "q") 633, PySem.Value.str (PySem.Str.ofString "e") 634, PySem.Value.str (PySem.Str.ofString "d") 635, PySem.Value.str (PySem.Str.ofString "n") 636, PySem.Value.str (PySem.Str.ofString "size") 637, PySem.Value.str (PySem.Str.ofString "private") 638, PySem.Value.str (PySem.Str.ofString "name") 639, PySem.Value.str (PySem.Str.ofString "code") 640, PySem.Value.str (PySem.Str.ofString "many") 641, PySem.Value.str (PySem.Str.ofString "told") 642, PySem.Value.str (PySem.Str.ofString "clear") 643, PySem.Value.str (PySem.Str.ofString "due") 644] }) :: (nat_lit 301, { cls := PySem.Value.type "tuple", data := PySem.Data.seq #[] }) :: (nat_lit 303, { cls := PySem.Value.type "code", data := PySem.Data.fields #[PySem.Value.str (PySem.Str.ofString "law") 628, PySem.Value.str (PySem.Str.ofString "law") 629, PySem.Value.str (PySem.Str.ofString "/claim/cut.py") 630, PySem.Value.int 221 0, PySem.Value.int 1 0, PySem.Value.int 0 0, PySem.Value.int 0 0, PySem.Value.int 3 0, PySem.Value.ref 298, PySem.Value.bool Bool.true, PySem.Value.int 181 0, PySem.Value.ref 299, PySem.Value.none, PySem.Value.ref 300, PySem.Value.ref 301, PySem.Value.ref 302, PySem.Value.int 645 0, PySem.Value.int 221 0, PySem.Value.str (PySem.Str.ofString "/claim/cut.py") 646] }) :: (nat_lit 304, { cls := PySem.Value.type "function", data := PySem.Data.func { name := PySem.Str.ofString "law", qualname := PySem.Str.ofString "law", params := a35, body := PySem.FuncBody.stmts b35, scope := s35, globals := 3, closure := [], defaults := PySem.Value.none, kwdefaults := PySem.Value.none, pyModule := PySem.Value.str (PySem.Str.ofString "law_ys0001_09") 533, code := PySem.Value.ref 303 } }) :: [])) _ _ _ _ _ _ _ _ _ _ rfl _ _ _ _ _ _ _ _ _ _ rfl _ _ _ _ _ _ _ _ _ _ rfl _ _ _ _ _ _ _ _ _ _ rfl _ _ _ _ _ _ _ _ _ _ rfl _ _ _ _ _ _ _ _ _ _ rfl _ _ _ _ _ _ _ _ _ _ rfl _ _ _ _ _ _ _ _ _ _ rfl _ _ _ _ _ _ _ _ _ _ rfl _ _ _ _ _ _ _ _ _ _ rfl _ _ _ _ _ _ _ _ _ _ rfl _ _ _ _ _ _ _ _ _ _ rfl _ _ _ _ _ _ _ _ _ _ rfl _ _ _ _ _ _ _ _ _ _ rfl _ _ _ _ _ _ _ _ _ _ rfl _ _ _ _ _ _ _ _ _ _ rfl _ _ _ _ _ _ _ _ _ _ rfl _ _ _ _ _ _ _ _ _ _ rfl _ _ _ _ _ _ _ _ _ _ rfl _ _ _ _ _ _ _ _ _ _ rfl _ _ _ _ _ _ _ _ _ _ rfl _ _ _ _ _ _ _ _ _ _ rfl _ _ _ _ _ _ _ _ _ _ rfl _ _ _ _ _ _ _ _ _ _ rfl _ _ _ _ _ _ _ _ _ _ rfl _ _ _ _ _ _ _ _ _ _ rfl _ _ _ _ _ _ _ _ _ _ rfl _ _ _ _ _ _ _ _ _ _ rfl _ _ _ _ _ _ _ _ _ _ rfl _ _ _ _ _ _ _ _ _ _ rfl _ _ _ _ _ _ _ _ _ _ rfl _ _ _ _ _ _ _ _ _ _ rfl _ _ _ _ _ _ _ _ _ _ rfl _ _ _ _ _ _ _ _ _ _ rfl _ _ _ _ _ _ _ _ _ _ rfl _ _ _ _ _ _ _ _ _ _ rfl
theorem hKas : ∀ P, ((2 :: 3 :: 15 :: 17 :: 18 :: 20 :: 21 :: 22 :: 29 :: 30 :: 32 :: 33 :: 35 :: 36 :: 37 :: 38 :: 39 :: 40 :: 43 :: 45 :: 46 :: 48 :: 49 :: 50 :: 52 :: 53 :: 55 :: 56 :: 57 :: 59 :: 60 :: 62 :: 63 :: 64 :: 66 :: 67 :: 69 :: 70 :: 71 :: 73 :: 74 :: 76 :: 77 :: 78 :: 80 :: 81 :: 83 :: 84 :: 85 :: 87 :: 88 :: 90 :: 91 :: 92 :: 94 :: 95 :: 97 :: 98 :: 99 :: 100 :: 102 :: 103 :: 105 :: 106 :: 107 :: 108 :: 110 :: 111 :: 113 :: 114 :: 115 :: 117 :: 118 :: 120 :: 121 :: 122 :: 124 :: 125 :: 127 :: 128 :: 129 :: 131 :: 132 :: 134 :: 135 :: 143 :: 145 :: 146 :: 148 :: 149 :: 150 :: 152 :: 153 :: 155 :: 156 :: 157 :: 159 :: 160 :: 162 :: 163 :: 164 :: 166 :: 167 :: 169 :: 170 :: 171 :: 173 :: 174 :: 176 :: 177 :: 178 :: 179 :: 180 :: 181 :: 182 :: 185 :: 192 :: 194 :: 195 :: 197 :: 198 :: 199 :: 201 :: 202 :: 204 :: 205 :: 206 :: 208 :: 209 :: 211 :: 212 :: 213 :: 215 :: 216 :: 218 :: 219 :: 220 :: 222 :: 223 :: 225 :: 226 :: 227 :: 228 :: 229 :: 232 :: 234 :: 235 :: 237 :: 238 :: 239 :: 241 :: 242 :: 244 :: 245 :: 246 :: 248 :: 249 :: 251 :: 252 :: 253 :: 255 :: 256 :: 258 :: 259 :: 260 :: 262 :: 263 :: 265 :: 266 :: 267 :: 270 :: 271 :: 272 :: 274 :: 275 :: 277 :: 278 :: 279 :: 282 :: 283 :: 284 :: 286 :: 287 :: 289 :: 290 :: 291 :: 293 :: 294 :: 296 :: 297 :: 298 :: 300 :: 301 :: 303 :: 304 :: []) : List Addr) = (K P).map (·.1) := fun P => by kernel_rfl
theorem hLooks : ∀ w : World, (fun os => ((staticsOk (importedModules PP.main.body) (PySem.W.boot_heap w.params) (h_f w.params) && namesBound PP (h_f w.params) && gensDone ⟨h_f w.params, Array.mk [], { }, 648, os⟩ && laidKept (PySem.W.boot_heap w.params) (h_f w.params)), openSeen V [Str.ofString "NotRelativePrimeError", Str.ofString "int2bytes", Str.ofString "HASH_ASN1"] (importedModules PP.main.body) (fun s => xlAt V [] s && recOk (RowW.records PySem.Challenge.rw_ys0001_09.row.toRowW) s) true ⟨h_f w.params, Array.mk [], { }, 648, os⟩, (Hook.obs (kHook K (2 :: 3 :: 15 :: 17 :: 18 :: 20 :: 21 :: 22 :: 29 :: 30 :: 32 :: 33 :: 35 :: 36 :: 37 :: 38 :: 39 :: 40 :: 43 :: 45 :: 46 :: 48 :: 49 :: 50 :: 52 :: 53 :: 55 :: 56 :: 57 :: 59 :: 60 :: 62 :: 63 :: 64 :: 66 :: 67 :: 69 :: 70 :: 71 :: 73 :: 74 :: 76 :: 77 :: 78 :: 80 :: 81 :: 83 :: 84 :: 85 :: 87 :: 88 :: 90 :: 91 :: 92 :: 94 :: 95 :: 97 :: 98 :: 99 :: 100 :: 102 :: 103 :: 105 :: 106 :: 107 :: 108 :: 110 :: 111 :: 113 :: 114 :: 115 :: 117 :: 118 :: 120 :: 121 :: 122 :: 124 :: 125 :: 127 :: 128 :: 129 :: 131 :: 132 :: 134 :: 135 :: 143 :: 145 :: 146 :: 148 :: 149 :: 150 :: 152 :: 153 :: 155 :: 156 :: 157 :: 159 :: 160 :: 162 :: 163 :: 164 :: 166 :: 167 :: 169 :: 170 :: 171 :: 173 :: 174 :: 176 :: 177 :: 178 :: 179 :: 180 :: 181 :: 182 :: 185 :: 192 :: 194 :: 195 :: 197 :: 198 :: 199 :: 201 :: 202 :: 204 :: 205 :: 206 :: 208 :: 209 :: 211 :: 212 :: 213 :: 215 :: 216 :: 218 :: 219 :: 220 :: 222 :: 223 :: 225 :: 226 :: 227 :: 228 :: 229 :: 232 :: 234 :: 235 :: 237 :: 238 :: 239 :: 241 :: 242 :: 244 :: 245 :: 246 :: 248 :: 249 :: 251 :: 252 :: 253 :: 255 :: 256 :: 258 :: 259 :: 260 :: 262 :: 263 :: 265 :: 266 :: 267 :: 270 :: 271 :: 272 :: 274 :: 275 :: 277 :: 278 :: 279 :: 282 :: 283 :: 284 :: 286 :: 287 :: 289 :: 290 :: 291 :: 293 :: 294 :: 296 :: 297 :: 298 :: 300 :: 301 :: 303 :: 304 :: []) hKas)) ⟨h_f w.params, Array.mk [], { }, 648, os⟩)) = fun _ => (true, openGood V [Str.ofString "NotRelativePrimeError", Str.ofString "int2bytes", Str.ofString "HASH_ASN1"], (Hook.val (kHook K (2 :: 3 :: 15 :: 17 :: 18 :: 20 :: 21 :: 22 :: 29 :: 30 :: 32 :: 33 :: 35 :: 36 :: 37 :: 38 :: 39 :: 40 :: 43 :: 45 :: 46 :: 48 :: 49 :: 50 :: 52 :: 53 :: 55 :: 56 :: 57 :: 59 :: 60 :: 62 :: 63 :: 64 :: 66 :: 67 :: 69 :: 70 :: 71 :: 73 :: 74 :: 76 :: 77 :: 78 :: 80 :: 81 :: 83 :: 84 :: 85 :: 87 :: 88 :: 90 :: 91 :: 92 :: 94 :: 95 :: 97 :: 98 :: 99 :: 100 :: 102 :: 103 :: 105 :: 106 :: 107 :: 108 :: 110 :: 111 :: 113 :: 114 :: 115 :: 117 :: 118 :: 120 :: 121 :: 122 :: 124 :: 125 :: 127 :: 128 :: 129 :: 131 :: 132 :: 134 :: 135 :: 143 :: 145 :: 146 :: 148 :: 149 :: 150 :: 152 :: 153 :: 155 :: 156 :: 157 :: 159 :: 160 :: 162 :: 163 :: 164 :: 166 :: 167 :: 169 :: 170 :: 171 :: 173 :: 174 :: 176 :: 177 :: 178 :: 179 :: 180 :: 181 :: 182 :: 185 :: 192 :: 194 :: 195 :: 197 :: 198 :: 199 :: 201 :: 202 :: 204 :: 205 :: 206 :: 208 :: 209 :: 211 :: 212 :: 213 :: 215 :: 216 :: 218 :: 219 :: 220 :: 222 :: 223 :: 225 :: 226 :: 227 :: 228 :: 229 :: 232 :: 234 :: 235 :: 237 :: 238 :: 239 :: 241 :: 242 :: 244 :: 245 :: 246 :: 248 :: 249 :: 251 :: 252 :: 253 :: 255 :: 256 :: 258 :: 259 :: 260 :: 262 :: 263 :: 265 :: 266 :: 267 :: 270 :: 271 :: 272 :: 274 :: 275 :: 277 :: 278 :: 279 :: 282 :: 283 :: 284 :: 286 :: 287 :: 289 :: 290 :: 291 :: 293 :: 294 :: 296 :: 297 :: 298 :: 300 :: 301 :: 303 :: 304 :: []) hKas)) w) := fun w => by kernel_rfl
theorem hLeft : LeftO PP V [Str.ofString "NotRelativePrimeError", Str.ofString "int2bytes", Str.ofString "HASH_ASN1"] (fun s => xlAt V [] s && recOk (RowW.records PySem.Challenge.rw_ys0001_09.row.toRowW) s) (Hook.obs (kHook K (2 :: 3 :: 15 :: 17 :: 18 :: 20 :: 21 :: 22 :: 29 :: 30 :: 32 :: 33 :: 35 :: 36 :: 37 :: 38 :: 39 :: 40 :: 43 :: 45 :: 46 :: 48 :: 49 :: 50 :: 52 :: 53 :: 55 :: 56 :: 57 :: 59 :: 60 :: 62 :: 63 :: 64 :: 66 :: 67 :: 69 :: 70 :: 71 :: 73 :: 74 :: 76 :: 77 :: 78 :: 80 :: 81 :: 83 :: 84 :: 85 :: 87 :: 88 :: 90 :: 91 :: 92 :: 94 :: 95 :: 97 :: 98 :: 99 :: 100 :: 102 :: 103 :: 105 :: 106 :: 107 :: 108 :: 110 :: 111 :: 113 :: 114 :: 115 :: 117 :: 118 :: 120 :: 121 :: 122 :: 124 :: 125 :: 127 :: 128 :: 129 :: 131 :: 132 :: 134 :: 135 :: 143 :: 145 :: 146 :: 148 :: 149 :: 150 :: 152 :: 153 :: 155 :: 156 :: 157 :: 159 :: 160 :: 162 :: 163 :: 164 :: 166 :: 167 :: 169 :: 170 :: 171 :: 173 :: 174 :: 176 :: 177 :: 178 :: 179 :: 180 :: 181 :: 182 :: 185 :: 192 :: 194 :: 195 :: 197 :: 198 :: 199 :: 201 :: 202 :: 204 :: 205 :: 206 :: 208 :: 209 :: 211 :: 212 :: 213 :: 215 :: 216 :: 218 :: 219 :: 220 :: 222 :: 223 :: 225 :: 226 :: 227 :: 228 :: 229 :: 232 :: 234 :: 235 :: 237 :: 238 :: 239 :: 241 :: 242 :: 244 :: 245 :: 246 :: 248 :: 249 :: 251 :: 252 :: 253 :: 255 :: 256 :: 258 :: 259 :: 260 :: 262 :: 263 :: 265 :: 266 :: 267 :: 270 :: 271 :: 272 :: 274 :: 275 :: 277 :: 278 :: 279 :: 282 :: 283 :: 284 :: 286 :: 287 :: 289 :: 290 :: 291 :: 293 :: 294 :: 296 :: 297 :: 298 :: 300 :: 301 :: 303 :: 304 :: []) hKas)) (Hook.val (kHook K (2 :: 3 :: 15 :: 17 :: 18 :: 20 :: 21 :: 22 :: 29 :: 30 :: 32 :: 33 :: 35 :: 36 :: 37 :: 38 :: 39 :: 40 :: 43 :: 45 :: 46 :: 48 :: 49 :: 50 :: 52 :: 53 :: 55 :: 56 :: 57 :: 59 :: 60 :: 62 :: 63 :: 64 :: 66 :: 67 :: 69 :: 70 :: 71 :: 73 :: 74 :: 76 :: 77 :: 78 :: 80 :: 81 :: 83 :: 84 :: 85 :: 87 :: 88 :: 90 :: 91 :: 92 :: 94 :: 95 :: 97 :: 98 :: 99 :: 100 :: 102 :: 103 :: 105 :: 106 :: 107 :: 108 :: 110 :: 111 :: 113 :: 114 :: 115 :: 117 :: 118 :: 120 :: 121 :: 122 :: 124 :: 125 :: 127 :: 128 :: 129 :: 131 :: 132 :: 134 :: 135 :: 143 :: 145 :: 146 :: 148 :: 149 :: 150 :: 152 :: 153 :: 155 :: 156 :: 157 :: 159 :: 160 :: 162 :: 163 :: 164 :: 166 :: 167 :: 169 :: 170 :: 171 :: 173 :: 174 :: 176 :: 177 :: 178 :: 179 :: 180 :: 181 :: 182 :: 185 :: 192 :: 194 :: 195 :: 197 :: 198 :: 199 :: 201 :: 202 :: 204 :: 205 :: 206 :: 208 :: 209 :: 211 :: 212 :: 213 :: 215 :: 216 :: 218 :: 219 :: 220 :: 222 :: 223 :: 225 :: 226 :: 227 :: 228 :: 229 :: 232 :: 234 :: 235 :: 237 :: 238 :: 239 :: 241 :: 242 :: 244 :: 245 :: 246 :: 248 :: 249 :: 251 :: 252 :: 253 :: 255 :: 256 :: 258 :: 259 :: 260 :: 262 :: 263 :: 265 :: 266 :: 267 :: 270 :: 271 :: 272 :: 274 :: 275 :: 277 :: 278 :: 279 :: 282 :: 283 :: 284 :: 286 :: 287 :: 289 :: 290 :: 291 :: 293 :: 294 :: 296 :: 297 :: 298 :: 300 :: 301 :: 303 :: 304 :: []) hKas)) 4078 := LeftO.of_pieces hOpen hSize hRun (by decide) hLooks
theorem hSaid : OpenLaw.wellSaid PySem.Challenge.rw_ys0001_09 = true := by kernel_rfl
local macro_rules | `(tactic| walk_at "call ref") => `(tactic| k_extra "m:call ref")
local macro_rules | `(tactic| walk_at "pyIter ref") => `(tactic| k_extra "m:pyIter ref")
local macro_rules | `(tactic| walk_at "binaryOp Mult int int") => `(tactic| k_extra "m:binaryOp Mult int int")
local macro_rules | `(tactic| walk_at "exec While") => `(tactic| k_extra "m:exec While")
local macro_rules | `(tactic| walk_at "exec While Compare") => `(tactic| k_extra "m:exec While Compare")
local macro_rules | `(tactic| walk_at "binaryOp FloorDiv int int") => `(tactic| k_extra "m:binaryOp FloorDiv int int")
local macro_rules | `(tactic| walk_at "m_bd") => `(tactic| k_extra "m_bd")
local macro_rules | `(tactic| walk_at "m_fact") => `(tactic| k_extra "m_fact")
local macro_rules | `(tactic| walk_at "m_rest") => `(tactic| k_extra "m_rest")
local macro_rules | `(tactic| walk_at "execs cons") => `(tactic| k_extra "m:execs cons")
local macro_rules | `(tactic| k_ne) => `(tactic| first | (with_reducible assumption) | (with_reducible exact Ne.symm (by assumption)) | (refine neN ?_; (try dsimp only); first | (k_extra "m_conj2") | (refine Ne.symm ?_; (k_extra "m_conj2")) | (k_extra "m_conj") | (refine Ne.symm ?_; (k_extra "m_conj")) | ((repeat (rename (_ ≠ _) ∧ _ => q9; clear q9)); (repeat (rename ((_ ≠ _) ∧ _) ∧ _ => q9; clear q9)); (repeat (rename @Ne Nat _ _ => q9; clear q9)); lia) | lia))
local macro_rules | `(tactic| walk_at "m_inline") => `(tactic| (refine wpAny_call ?_; (refine' code_def ?k1 ?k2 ?k3 ?k4 ?k5 ?kA ?kF ?kK ?k6 ?k7 ?k8 ?k9 ?kB ?_ ?c2 ?c3 ?c4 ?c5; (case kA => exact rfl); (case kF => exact rfl); (case kK => first | exact rfl | assumption); (case k1 => k_asm); (case k2 => k_asm); (case k3 => k_asm); (case k4 => k_asm); (case k5 => k_asm); (case k6 => k_is); (case k7 => k_is); (case k8 => first | exact room0 (by assumption) | exact roomj (by assumption) (by decide) | (simp (zetaDelta := true) only [depth_deeper]; ktr_room) | ktr_room); (case k9 => first | exact BindsTo.of_eq rfl | exact binds_K (by k_in) rfl (by k_is) rfl rfl rfl); (case c5 => decide); (case kB => exact locs rfl); (case c2 => exact rfl); (case c3 => exact rfl); (case c4 => exact rfl); k_whole; intro g' L' h' FG' F' N' B' X' T'; (try dsimp only); (try k_lift B'); (try k_fold))))

inductive PEg (oa ob : Int) : Value → List (Addr × Obj) → Prop
  | mk (q : Nat) (a fx fy lx ly x y : Int) (u1 u2 u3 : Tok) (h : EInv oa ob a 0 x lx y ly) (hx : fx = (if lx < 0 then lx + ob else lx)) (hy : fy = (if ly < 0 then ly + oa else ly)) : PEg oa ob (.ref q) [(q, ({ cls := .type "tuple", data := .seq #[.int a u1, .int fx u2, .int fy u3] } : Obj))]
theorem c_egcd (w : World) (mean : ExcName → Option Value) (mg mb : Str → Option Value) {oa ob : Int} {t1 t2 : Tok} {B1 : Nat} (h1 : Bd B1 oa) (h2 : Bd B1 ob) (hB1 : B1 ≤ 8000) (hob : 0 ≤ ob) :
    Ctr PySem.Challenge.rw_ys0001_09.row.prog w (Mine.K w.params) Mine.V (looseW Mine.V [Str.ofString "NotRelativePrimeError", Str.ofString "int2bytes", Str.ofString "HASH_ASN1"]) mean mg mb 70 5 20 [.int oa t1, .int ob t2] []
      (PEg oa ob) := by
  k_with "m_conj" => ((with_reducible (first | exact (And.left ‹((_ ≠ _) ∧ _)›) | exact (And.right ‹(_ ∧ (_ ≠ _))›) | exact (And.left (And.left ‹(((_ ≠ _) ∧ _) ∧ _)›)) | exact (And.left (And.right ‹(_ ∧ ((_ ≠ _) ∧ _))›)) | exact (And.right (And.right ‹(_ ∧ (_ ∧ (_ ≠ _)))›)) | exact (And.left (And.right (And.left ‹((_ ∧ ((_ ≠ _) ∧ _)) ∧ _)›))) | exact (And.right (And.right (And.left ‹((_ ∧ (_ ∧ (_ ≠ _))) ∧ _)›))) | exact (And.left (And.left (And.right ‹(_ ∧ (((_ ≠ _) ∧ _) ∧ _))›))) | exact (And.left (And.right (And.right ‹(_ ∧ (_ ∧ ((_ ≠ _) ∧ _)))›))) | exact (And.right (And.right (And.right ‹(_ ∧ (_ ∧ (_ ∧ (_ ≠ _))))›))) | exact (And.left (And.right (And.left (And.right ‹(_ ∧ ((_ ∧ ((_ ≠ _) ∧ _)) ∧ _))›)))) | exact (And.right (And.right (And.left (And.right ‹(_ ∧ ((_ ∧ (_ ∧ (_ ≠ _))) ∧ _))›)))) | exact (And.left (And.left (And.right (And.right ‹(_ ∧ (_ ∧ (((_ ≠ _) ∧ _) ∧ _)))›)))) | exact (And.left (And.right (And.right (And.right ‹(_ ∧ (_ ∧ (_ ∧ ((_ ≠ _) ∧ _))))›)))) | exact (And.right (And.right (And.right (And.right ‹(_ ∧ (_ ∧ (_ ∧ (_ ∧ (_ ≠ _)))))›)))) | exact (And.left (And.right (And.left (And.right (And.right ‹(_ ∧ (_ ∧ ((_ ∧ ((_ ≠ _) ∧ _)) ∧ _)))›))))) | exact (And.right (And.right (And.left (And.right (And.right ‹(_ ∧ (_ ∧ ((_ ∧ (_ ∧ (_ ≠ _))) ∧ _)))›))))) | exact (And.left (And.left (And.right (And.right (And.right ‹(_ ∧ (_ ∧ (_ ∧ (((_ ≠ _) ∧ _) ∧ _))))›))))) | exact (And.left (And.right (And.right (And.right (And.right ‹(_ ∧ (_ ∧ (_ ∧ (_ ∧ ((_ ≠ _) ∧ _)))))›))))) | exact (And.right (And.right (And.right (And.right (And.right ‹(_ ∧ (_ ∧ (_ ∧ (_ ∧ (_ ∧ (_ ≠ _))))))›))))) | exact (And.left (And.right (And.left (And.right (And.right (And.right ‹(_ ∧ (_ ∧ (_ ∧ ((_ ∧ ((_ ≠ _) ∧ _)) ∧ _))))›)))))) | exact (And.right (And.right (And.left (And.right (And.right (And.right ‹(_ ∧ (_ ∧ (_ ∧ ((_ ∧ (_ ∧ (_ ≠ _))) ∧ _))))›)))))) | exact (And.left (And.left (And.right (And.right (And.right (And.right ‹(_ ∧ (_ ∧ (_ ∧ (_ ∧ (((_ ≠ _) ∧ _) ∧ _)))))›)))))) | exact (And.left (And.right (And.right (And.right (And.right (And.right ‹(_ ∧ (_ ∧ (_ ∧ (_ ∧ (_ ∧ ((_ ≠ _) ∧ _))))))›)))))) | exact (And.right (And.right (And.right (And.right (And.right (And.right ‹(_ ∧ (_ ∧ (_ ∧ (_ ∧ (_ ∧ (_ ∧ (_ ≠ _)))))))›)))))) | exact (And.left (And.right (And.left (And.right (And.right (And.right (And.right ‹(_ ∧ (_ ∧ (_ ∧ (_ ∧ ((_ ∧ ((_ ≠ _) ∧ _)) ∧ _)))))›))))))) | exact (And.right (And.right (And.left (And.right (And.right (And.right (And.right ‹(_ ∧ (_ ∧ (_ ∧ (_ ∧ ((_ ∧ (_ ∧ (_ ≠ _))) ∧ _)))))›))))))) | exact (And.left (And.left (And.right (And.right (And.right (And.right (And.right ‹(_ ∧ (_ ∧ (_ ∧ (_ ∧ (_ ∧ (((_ ≠ _) ∧ _) ∧ _))))))›))))))) | exact (And.left (And.right (And.right (And.right (And.right (And.right (And.right ‹(_ ∧ (_ ∧ (_ ∧ (_ ∧ (_ ∧ (_ ∧ ((_ ≠ _) ∧ _)))))))›))))))) | exact (And.right (And.right (And.right (And.right (And.right (And.right (And.right ‹(_ ∧ (_ ∧ (_ ∧ (_ ∧ (_ ∧ (_ ∧ (_ ∧ (_ ≠ _))))))))›))))))) | exact (And.left (And.right (And.left (And.right (And.right (And.right (And.right (And.right ‹(_ ∧ (_ ∧ (_ ∧ (_ ∧ (_ ∧ ((_ ∧ ((_ ≠ _) ∧ _)) ∧ _))))))›)))))))) | exact (And.right (And.right (And.left (And.right (And.right (And.right (And.right (And.right ‹(_ ∧ (_ ∧ (_ ∧ (_ ∧ (_ ∧ ((_ ∧ (_ ∧ (_ ≠ _))) ∧ _))))))›)))))))) | exact (And.left (And.left (And.right (And.right (And.right (And.right (And.right (And.right ‹(_ ∧ (_ ∧ (_ ∧ (_ ∧ (_ ∧ (_ ∧ (((_ ≠ _) ∧ _) ∧ _)))))))›)))))))) | exact (And.left (And.right (And.left (And.right (And.right (And.right (And.right (And.right (And.right ‹(_ ∧ (_ ∧ (_ ∧ (_ ∧ (_ ∧ (_ ∧ ((_ ∧ ((_ ≠ _) ∧ _)) ∧ _)))))))›))))))))) | exact (And.right (And.right (And.left (And.right (And.right (And.right (And.right (And.right (And.right ‹(_ ∧ (_ ∧ (_ ∧ (_ ∧ (_ ∧ (_ ∧ ((_ ∧ (_ ∧ (_ ≠ _))) ∧ _)))))))›))))))))))))
  k_with "m_enter2" => (((case kA => exact rfl); (case kF => exact rfl); (case kK => assumption); (case k6 => k_is); (case k7 => k_is); (case k8 => first | exact room0 (by assumption) | exact roomj (by assumption) (by decide) | (simp (zetaDelta := true) only [depth_deeper]; ktr_room) | ktr_room); (case k9 => exact BindsTo.of_eq rfl); (case c5 => decide); (case kB => exact locs rfl); (case c2 => exact rfl); (case c3 => exact rfl); (case c4 => exact rfl); k_whole))
  k_with "m_enterC" => (((case kA => exact rfl); (case kF => exact rfl); (case kK => assumption); (case k1 => k_asm); (case k2 => k_asm); (case k3 => k_asm); (case k4 => k_asm); (case k5 => k_asm); (case k6 => k_is); (case k7 => k_is); (case k8 => first | exact room0 (by assumption) | exact roomj (by assumption) (by decide) | (simp (zetaDelta := true) only [depth_deeper]; ktr_room) | ktr_room); (case k9 => exact BindsTo.of_eq rfl); (case kN => decide); (case kB => exact rfl); (case c2 => exact rfl); (case c3 => exact rfl); (case c4 => exact rfl); k_whole))
  k_with "m_enter" => (((case kA => exact rfl); (case kF => exact rfl); (case kK => assumption); (case k1 => k_asm); (case k2 => k_asm); (case k3 => k_asm); (case k4 => k_asm); (case k5 => k_asm); (case k6 => k_is); (case k7 => k_is); (case k8 => first | exact room0 (by assumption) | exact roomj (by assumption) (by decide) | (simp (zetaDelta := true) only [depth_deeper]; ktr_room) | ktr_room); (case k9 => exact BindsTo.of_eq rfl); (case c5 => decide); (case kB => exact locs rfl); (case c2 => exact rfl); (case c3 => exact rfl); (case c4 => exact rfl); k_whole))
  k_with "m_same" => ((intro z h2 h3; (try simp only [List.forall_mem_cons, List.not_mem_nil, false_implies, implies_true, and_true, ne_eq] at h2); (try simp only [List.contains_cons, List.contains_nil, Bool.or_false, Bool.or_eq_false_iff, beq_eq_false_iff_ne, ne_eq] at h3); simp [kstB, h2, h3]))
  k_with "m_same3" => ((intro z h1 h2 h3; (try simp only [List.forall_mem_cons, List.not_mem_nil, false_implies, implies_true, and_true, ne_eq] at h2); (try simp only [List.contains_cons, List.contains_nil, Bool.or_false, Bool.or_eq_false_iff, beq_eq_false_iff_ne, ne_eq] at h3); simp [kstB, h1, h2, h3]))
  k_with "m_pre" => (first | exact List.forall_mem_nil _ | (refine List.forall_mem_cons.mpr ⟨by k_mem, ?_⟩; k_extra "m_pre") | (intro p hp; kst_mem))
  k_with "m_off" => (first | exact off0 | (refine off1 (by (try dsimp only); first | assumption | (apply Ne.symm; assumption) | k_ne) ?_; k_extra "m_off"))
  k_with "m_rest" => (first | exact Rest.nil | exact Rest.tail (fun _ _ => List.not_mem_nil) | exact Rest.drop (by k_mem) (by walk_at "m_rest") | exact Rest.keep (by k_extra "m_off") (by walk_at "m_rest") | exact Rest.tail (fun _ _ => List.not_mem_nil) | exact Rest.tail (own_off (by assumption) (by k_extra "m_subA")) | exact Rest.tail (own_off (by assumption) (by intro b hb; simp only [StL, List.map_cons, List.map_nil, List.mem_cons, List.not_mem_nil, or_false] at hb ⊢; lia)))
  k_with "m_subA" => (first | exact List.forall_mem_nil _ | (refine List.forall_mem_cons.mpr ⟨by k_mem, ?_⟩; k_extra "m_subA"))
  k_with "m_use" => (((case k1 => k_asm); (case k2 => k_asm); (case k3 => k_asm); (case k4 => k_asm); (case k5 => k_asm); (case kk => first | exact rfl | assumption); (case hp => k_extra "m_pre"); (case hR => walk_at "m_rest"); (case kd => first | exact roomk (by assumption) (by decide) | exact roomk2 (by assumption) (by decide) | ktr_room); (case ku => first | exact roomk (by assumption) (by decide) | exact roomk2 (by assumption) (by decide) | ktr_units)))
  k_with "m:pyIter ref" => (((first | (with_reducible show wpAny _ _ (pyIter (Value.ref _)) (fun it s₂ => LoopAtV _ _ _ _ _ _ _ _ _ it s₂) _ _) | (with_reducible show wpAny _ _ (pyIter (Value.ref _)) (fun it s₂ => TurnsAt _ _ _ _ _ _ _ _ _ it s₂) _ _)); refine hold ?_))
  k_with "m_bd" => (first | assumption | exact Bd.mono (by assumption) (by decide) | (refine Bd.small' ?_ ?_; decide; lia) | (refine Bd.mulS' ?_ ?_ ?_; decide; (first | assumption | (refine Bd.small' ?_ ?_; decide; lia)); walk_at "m_bd") | (refine Bd.mul2 ?_ ?_; (walk_at "m_bd"); (walk_at "m_bd")) | (refine Bd.add' ?_ ?_ ?_; decide; (walk_at "m_bd"); (walk_at "m_bd")) | (refine Bd.sub' ?_ ?_ ?_; decide; (walk_at "m_bd"); (walk_at "m_bd")) | (refine Bd.neg ?_; walk_at "m_bd"))
  k_with "m_fact" => (first | assumption | lia | (refine mul_nn0 ?_ ?_; (walk_at "m_fact"); (walk_at "m_fact")))
  k_with "m:binaryOp Mult int int" => ((refine mul_int ?_ ?_; rotate_left; (first | assumption | exact mulOkB 2490 2490 (by walk_at "m_bd") (by walk_at "m_bd") (by decide) | mul_fits)))
  k_with "m:exec While" => ((refine hold ?_))
  k_with "m:exec While Compare" => ((refine hold ?_))
  k_with "m:binaryOp FloorDiv int int" => ((refine floordiv_int ?_ ?_ (Or.inl (PyProof.noPylong_of_log2 ?_)); (first | assumption | lia); rotate_left; (first | assumption | decide +kernel)))
  k_with "m_conj2" => ((with_reducible (first | exact And.left (‹((_ ≠ _) ∧ _)›) | exact And.left (And.right ‹(_ ∧ ((_ ≠ _) ∧ _))›) | exact And.left (And.right (And.right ‹(_ ∧ (_ ∧ ((_ ≠ _) ∧ _)))›)) | exact And.left (And.right (And.right (And.right ‹(_ ∧ (_ ∧ (_ ∧ ((_ ≠ _) ∧ _))))›))) | exact And.left (And.right (And.right (And.right (And.right ‹(_ ∧ (_ ∧ (_ ∧ (_ ∧ ((_ ≠ _) ∧ _)))))›)))) | exact And.left (And.right (And.right (And.right (And.right (And.right ‹(_ ∧ (_ ∧ (_ ∧ (_ ∧ (_ ∧ ((_ ≠ _) ∧ _))))))›))))) | exact And.left (And.right (And.right (And.right (And.right (And.right (And.right ‹(_ ∧ (_ ∧ (_ ∧ (_ ∧ (_ ∧ (_ ∧ ((_ ≠ _) ∧ _)))))))›)))))) | exact And.left (And.right (And.right (And.right (And.right (And.right (And.right (And.right ‹(_ ∧ (_ ∧ (_ ∧ (_ ∧ (_ ∧ (_ ∧ (_ ∧ ((_ ≠ _) ∧ _))))))))›))))))) | exact And.left (And.right (And.right (And.right (And.right (And.right (And.right (And.right (And.right ‹(_ ∧ (_ ∧ (_ ∧ (_ ∧ (_ ∧ (_ ∧ (_ ∧ (_ ∧ ((_ ≠ _) ∧ _)))))))))›)))))))) | exact And.left (And.right (And.right (And.right (And.right (And.right (And.right (And.right (And.right (And.right ‹(_ ∧ (_ ∧ (_ ∧ (_ ∧ (_ ∧ (_ ∧ (_ ∧ (_ ∧ (_ ∧ ((_ ≠ _) ∧ _))))))))))›))))))))) | exact And.left (And.right (And.right (And.right (And.right (And.right (And.right (And.right (And.right (And.right (And.right ‹(_ ∧ (_ ∧ (_ ∧ (_ ∧ (_ ∧ (_ ∧ (_ ∧ (_ ∧ (_ ∧ (_ ∧ ((_ ≠ _) ∧ _)))))))))))›)))))))))) | exact And.left (And.right (And.right (And.right (And.right (And.right (And.right (And.right (And.right (And.right (And.right (And.right ‹(_ ∧ (_ ∧ (_ ∧ (_ ∧ (_ ∧ (_ ∧ (_ ∧ (_ ∧ (_ ∧ (_ ∧ (_ ∧ ((_ ≠ _) ∧ _))))))))))))›))))))))))) | exact And.left (And.right (And.right (And.right (And.right (And.right (And.right (And.right (And.right (And.right (And.right (And.right (And.right ‹(_ ∧ (_ ∧ (_ ∧ (_ ∧ (_ ∧ (_ ∧ (_ ∧ (_ ∧ (_ ∧ (_ ∧ (_ ∧ (_ ∧ ((_ ≠ _) ∧ _)))))))))))))›)))))))))))) | exact And.left (And.right (And.right (And.right (And.right (And.right (And.right (And.right (And.right (And.right (And.right (And.right (And.right (And.right ‹(_ ∧ (_ ∧ (_ ∧ (_ ∧ (_ ∧ (_ ∧ (_ ∧ (_ ∧ (_ ∧ (_ ∧ (_ ∧ (_ ∧ (_ ∧ ((_ ≠ _) ∧ _))))))))))))))›))))))))))))) | exact And.left (And.right (And.right (And.right (And.right (And.right (And.right (And.right (And.right (And.right (And.right (And.right (And.right (And.right (And.right ‹(_ ∧ (_ ∧ (_ ∧ (_ ∧ (_ ∧ (_ ∧ (_ ∧ (_ ∧ (_ ∧ (_ ∧ (_ ∧ (_ ∧ (_ ∧ (_ ∧ ((_ ≠ _) ∧ _)))))))))))))))›)))))))))))))) | exact And.left (And.right (And.right (And.right (And.right (And.right (And.right (And.right (And.right (And.right (And.right (And.right (And.right (And.right (And.right (And.right ‹(_ ∧ (_ ∧ (_ ∧ (_ ∧ (_ ∧ (_ ∧ (_ ∧ (_ ∧ (_ ∧ (_ ∧ (_ ∧ (_ ∧ (_ ∧ (_ ∧ (_ ∧ ((_ ≠ _) ∧ _))))))))))))))))›))))))))))))))) | exact And.left (And.right (And.right (And.right (And.right (And.right (And.right (And.right (And.right (And.right (And.right (And.right (And.right (And.right (And.right (And.right (And.right ‹(_ ∧ (_ ∧ (_ ∧ (_ ∧ (_ ∧ (_ ∧ (_ ∧ (_ ∧ (_ ∧ (_ ∧ (_ ∧ (_ ∧ (_ ∧ (_ ∧ (_ ∧ (_ ∧ ((_ ≠ _) ∧ _)))))))))))))))))›)))))))))))))))) | exact And.left (And.right (And.right (And.right (And.right (And.right (And.right (And.right (And.right (And.right (And.right (And.right (And.right (And.right (And.right (And.right (And.right (And.right ‹(_ ∧ (_ ∧ (_ ∧ (_ ∧ (_ ∧ (_ ∧ (_ ∧ (_ ∧ (_ ∧ (_ ∧ (_ ∧ (_ ∧ (_ ∧ (_ ∧ (_ ∧ (_ ∧ (_ ∧ ((_ ≠ _) ∧ _))))))))))))))))))›))))))))))))))))) | exact And.left (And.right (And.right (And.right (And.right (And.right (And.right (And.right (And.right (And.right (And.right (And.right (And.right (And.right (And.right (And.right (And.right (And.right (And.right ‹(_ ∧ (_ ∧ (_ ∧ (_ ∧ (_ ∧ (_ ∧ (_ ∧ (_ ∧ (_ ∧ (_ ∧ (_ ∧ (_ ∧ (_ ∧ (_ ∧ (_ ∧ (_ ∧ (_ ∧ (_ ∧ ((_ ≠ _) ∧ _)))))))))))))))))))›)))))))))))))))))) | exact And.left (And.right (And.right (And.right (And.right (And.right (And.right (And.right (And.right (And.right (And.right (And.right (And.right (And.right (And.right (And.right (And.right (And.right (And.right (And.right ‹(_ ∧ (_ ∧ (_ ∧ (_ ∧ (_ ∧ (_ ∧ (_ ∧ (_ ∧ (_ ∧ (_ ∧ (_ ∧ (_ ∧ (_ ∧ (_ ∧ (_ ∧ (_ ∧ (_ ∧ (_ ∧ (_ ∧ ((_ ≠ _) ∧ _))))))))))))))))))))›))))))))))))))))))) | exact And.left (And.right (And.right (And.right (And.right (And.right (And.right (And.right (And.right (And.right (And.right (And.right (And.right (And.right (And.right (And.right (And.right (And.right (And.right (And.right (And.right ‹(_ ∧ (_ ∧ (_ ∧ (_ ∧ (_ ∧ (_ ∧ (_ ∧ (_ ∧ (_ ∧ (_ ∧ (_ ∧ (_ ∧ (_ ∧ (_ ∧ (_ ∧ (_ ∧ (_ ∧ (_ ∧ (_ ∧ (_ ∧ ((_ ≠ _) ∧ _)))))))))))))))))))))›)))))))))))))))))))) | exact And.left (And.right (And.right (And.right (And.right (And.right (And.right (And.right (And.right (And.right (And.right (And.right (And.right (And.right (And.right (And.right (And.right (And.right (And.right (And.right (And.right (And.right ‹(_ ∧ (_ ∧ (_ ∧ (_ ∧ (_ ∧ (_ ∧ (_ ∧ (_ ∧ (_ ∧ (_ ∧ (_ ∧ (_ ∧ (_ ∧ (_ ∧ (_ ∧ (_ ∧ (_ ∧ (_ ∧ (_ ∧ (_ ∧ (_ ∧ ((_ ≠ _) ∧ _))))))))))))))))))))))›))))))))))))))))))))) | exact And.left (And.right (And.right (And.right (And.right (And.right (And.right (And.right (And.right (And.right (And.right (And.right (And.right (And.right (And.right (And.right (And.right (And.right (And.right (And.right (And.right (And.right (And.right ‹(_ ∧ (_ ∧ (_ ∧ (_ ∧ (_ ∧ (_ ∧ (_ ∧ (_ ∧ (_ ∧ (_ ∧ (_ ∧ (_ ∧ (_ ∧ (_ ∧ (_ ∧ (_ ∧ (_ ∧ (_ ∧ (_ ∧ (_ ∧ (_ ∧ (_ ∧ ((_ ≠ _) ∧ _)))))))))))))))))))))))›)))))))))))))))))))))) | exact And.left (And.right (And.right (And.right (And.right (And.right (And.right (And.right (And.right (And.right (And.right (And.right (And.right (And.right (And.right (And.right (And.right (And.right (And.right (And.right (And.right (And.right (And.right (And.right ‹(_ ∧ (_ ∧ (_ ∧ (_ ∧ (_ ∧ (_ ∧ (_ ∧ (_ ∧ (_ ∧ (_ ∧ (_ ∧ (_ ∧ (_ ∧ (_ ∧ (_ ∧ (_ ∧ (_ ∧ (_ ∧ (_ ∧ (_ ∧ (_ ∧ (_ ∧ (_ ∧ ((_ ≠ _) ∧ _))))))))))))))))))))))))›))))))))))))))))))))))) | exact And.left (And.right (And.right (And.right (And.right (And.right (And.right (And.right (And.right (And.right (And.right (And.right (And.right (And.right (And.right (And.right (And.right (And.right (And.right (And.right (And.right (And.right (And.right (And.right (And.right ‹(_ ∧ (_ ∧ (_ ∧ (_ ∧ (_ ∧ (_ ∧ (_ ∧ (_ ∧ (_ ∧ (_ ∧ (_ ∧ (_ ∧ (_ ∧ (_ ∧ (_ ∧ (_ ∧ (_ ∧ (_ ∧ (_ ∧ (_ ∧ (_ ∧ (_ ∧ (_ ∧ (_ ∧ ((_ ≠ _) ∧ _)))))))))))))))))))))))))›)))))))))))))))))))))))) | exact And.left (And.right (And.right (And.right (And.right (And.right (And.right (And.right (And.right (And.right (And.right (And.right (And.right (And.right (And.right (And.right (And.right (And.right (And.right (And.right (And.right (And.right (And.right (And.right (And.right (And.right ‹(_ ∧ (_ ∧ (_ ∧ (_ ∧ (_ ∧ (_ ∧ (_ ∧ (_ ∧ (_ ∧ (_ ∧ (_ ∧ (_ ∧ (_ ∧ (_ ∧ (_ ∧ (_ ∧ (_ ∧ (_ ∧ (_ ∧ (_ ∧ (_ ∧ (_ ∧ (_ ∧ (_ ∧ (_ ∧ ((_ ≠ _) ∧ _))))))))))))))))))))))))))›))))))))))))))))))))))))) | exact And.left (And.right (And.right (And.right (And.right (And.right (And.right (And.right (And.right (And.right (And.right (And.right (And.right (And.right (And.right (And.right (And.right (And.right (And.right (And.right (And.right (And.right (And.right (And.right (And.right (And.right (And.right ‹(_ ∧ (_ ∧ (_ ∧ (_ ∧ (_ ∧ (_ ∧ (_ ∧ (_ ∧ (_ ∧ (_ ∧ (_ ∧ (_ ∧ (_ ∧ (_ ∧ (_ ∧ (_ ∧ (_ ∧ (_ ∧ (_ ∧ (_ ∧ (_ ∧ (_ ∧ (_ ∧ (_ ∧ (_ ∧ (_ ∧ ((_ ≠ _) ∧ _)))))))))))))))))))))))))))›)))))))))))))))))))))))))) | exact And.left (And.right (And.right (And.right (And.right (And.right (And.right (And.right (And.right (And.right (And.right (And.right (And.right (And.right (And.right (And.right (And.right (And.right (And.right (And.right (And.right (And.right (And.right (And.right (And.right (And.right (And.right (And.right ‹(_ ∧ (_ ∧ (_ ∧ (_ ∧ (_ ∧ (_ ∧ (_ ∧ (_ ∧ (_ ∧ (_ ∧ (_ ∧ (_ ∧ (_ ∧ (_ ∧ (_ ∧ (_ ∧ (_ ∧ (_ ∧ (_ ∧ (_ ∧ (_ ∧ (_ ∧ (_ ∧ (_ ∧ (_ ∧ (_ ∧ (_ ∧ ((_ ≠ _) ∧ _))))))))))))))))))))))))))))›))))))))))))))))))))))))))) | exact And.left (And.right (And.right (And.right (And.right (And.right (And.right (And.right (And.right (And.right (And.right (And.right (And.right (And.right (And.right (And.right (And.right (And.right (And.right (And.right (And.right (And.right (And.right (And.right (And.right (And.right (And.right (And.right (And.right ‹(_ ∧ (_ ∧ (_ ∧ (_ ∧ (_ ∧ (_ ∧ (_ ∧ (_ ∧ (_ ∧ (_ ∧ (_ ∧ (_ ∧ (_ ∧ (_ ∧ (_ ∧ (_ ∧ (_ ∧ (_ ∧ (_ ∧ (_ ∧ (_ ∧ (_ ∧ (_ ∧ (_ ∧ (_ ∧ (_ ∧ (_ ∧ (_ ∧ ((_ ≠ _) ∧ _)))))))))))))))))))))))))))))›)))))))))))))))))))))))))))) | exact And.left (And.right (And.right (And.right (And.right (And.right (And.right (And.right (And.right (And.right (And.right (And.right (And.right (And.right (And.right (And.right (And.right (And.right (And.right (And.right (And.right (And.right (And.right (And.right (And.right (And.right (And.right (And.right (And.right (And.right ‹(_ ∧ (_ ∧ (_ ∧ (_ ∧ (_ ∧ (_ ∧ (_ ∧ (_ ∧ (_ ∧ (_ ∧ (_ ∧ (_ ∧ (_ ∧ (_ ∧ (_ ∧ (_ ∧ (_ ∧ (_ ∧ (_ ∧ (_ ∧ (_ ∧ (_ ∧ (_ ∧ (_ ∧ (_ ∧ (_ ∧ (_ ∧ (_ ∧ (_ ∧ ((_ ≠ _) ∧ _))))))))))))))))))))))))))))))›))))))))))))))))))))))))))))) | exact And.left (And.right (And.right (And.right (And.right (And.right (And.right (And.right (And.right (And.right (And.right (And.right (And.right (And.right (And.right (And.right (And.right (And.right (And.right (And.right (And.right (And.right (And.right (And.right (And.right (And.right (And.right (And.right (And.right (And.right (And.right ‹(_ ∧ (_ ∧ (_ ∧ (_ ∧ (_ ∧ (_ ∧ (_ ∧ (_ ∧ (_ ∧ (_ ∧ (_ ∧ (_ ∧ (_ ∧ (_ ∧ (_ ∧ (_ ∧ (_ ∧ (_ ∧ (_ ∧ (_ ∧ (_ ∧ (_ ∧ (_ ∧ (_ ∧ (_ ∧ (_ ∧ (_ ∧ (_ ∧ (_ ∧ (_ ∧ ((_ ≠ _) ∧ _)))))))))))))))))))))))))))))))›)))))))))))))))))))))))))))))) | exact And.left (And.right (And.right (And.right (And.right (And.right (And.right (And.right (And.right (And.right (And.right (And.right (And.right (And.right (And.right (And.right (And.right (And.right (And.right (And.right (And.right (And.right (And.right (And.right (And.right (And.right (And.right (And.right (And.right (And.right (And.right (And.right ‹(_ ∧ (_ ∧ (_ ∧ (_ ∧ (_ ∧ (_ ∧ (_ ∧ (_ ∧ (_ ∧ (_ ∧ (_ ∧ (_ ∧ (_ ∧ (_ ∧ (_ ∧ (_ ∧ (_ ∧ (_ ∧ (_ ∧ (_ ∧ (_ ∧ (_ ∧ (_ ∧ (_ ∧ (_ ∧ (_ ∧ (_ ∧ (_ ∧ (_ ∧ (_ ∧ (_ ∧ ((_ ≠ _) ∧ _))))))))))))))))))))))))))))))))›))))))))))))))))))))))))))))))) | exact And.left (And.right (And.right (And.right (And.right (And.right (And.right (And.right (And.right (And.right (And.right (And.right (And.right (And.right (And.right (And.right (And.right (And.right (And.right (And.right (And.right (And.right (And.right (And.right (And.right (And.right (And.right (And.right (And.right (And.right (And.right (And.right (And.right ‹(_ ∧ (_ ∧ (_ ∧ (_ ∧ (_ ∧ (_ ∧ (_ ∧ (_ ∧ (_ ∧ (_ ∧ (_ ∧ (_ ∧ (_ ∧ (_ ∧ (_ ∧ (_ ∧ (_ ∧ (_ ∧ (_ ∧ (_ ∧ (_ ∧ (_ ∧ (_ ∧ (_ ∧ (_ ∧ (_ ∧ (_ ∧ (_ ∧ (_ ∧ (_ ∧ (_ ∧ (_ ∧ ((_ ≠ _) ∧ _)))))))))))))))))))))))))))))))))›)))))))))))))))))))))))))))))))) | exact And.left (And.right (And.right (And.right (And.right (And.right (And.right (And.right (And.right (And.right (And.right (And.right (And.right (And.right (And.right (And.right (And.right (And.right (And.right (And.right (And.right (And.right (And.right (And.right (And.right (And.right (And.right (And.right (And.right (And.right (And.right (And.right (And.right (And.right ‹(_ ∧ (_ ∧ (_ ∧ (_ ∧ (_ ∧ (_ ∧ (_ ∧ (_ ∧ (_ ∧ (_ ∧ (_ ∧ (_ ∧ (_ ∧ (_ ∧ (_ ∧ (_ ∧ (_ ∧ (_ ∧ (_ ∧ (_ ∧ (_ ∧ (_ ∧ (_ ∧ (_ ∧ (_ ∧ (_ ∧ (_ ∧ (_ ∧ (_ ∧ (_ ∧ (_ ∧ (_ ∧ (_ ∧ ((_ ≠ _) ∧ _))))))))))))))))))))))))))))))))))›))))))))))))))))))))))))))))))))) | exact And.left (And.right (And.right (And.right (And.right (And.right (And.right (And.right (And.right (And.right (And.right (And.right (And.right (And.right (And.right (And.right (And.right (And.right (And.right (And.right (And.right (And.right (And.right (And.right (And.right (And.right (And.right (And.right (And.right (And.right (And.right (And.right (And.right (And.right (And.right ‹(_ ∧ (_ ∧ (_ ∧ (_ ∧ (_ ∧ (_ ∧ (_ ∧ (_ ∧ (_ ∧ (_ ∧ (_ ∧ (_ ∧ (_ ∧ (_ ∧ (_ ∧ (_ ∧ (_ ∧ (_ ∧ (_ ∧ (_ ∧ (_ ∧ (_ ∧ (_ ∧ (_ ∧ (_ ∧ (_ ∧ (_ ∧ (_ ∧ (_ ∧ (_ ∧ (_ ∧ (_ ∧ (_ ∧ (_ ∧ ((_ ≠ _) ∧ _)))))))))))))))))))))))))))))))))))›)))))))))))))))))))))))))))))))))) | exact And.left (And.right (And.right (And.right (And.right (And.right (And.right (And.right (And.right (And.right (And.right (And.right (And.right (And.right (And.right (And.right (And.right (And.right (And.right (And.right (And.right (And.right (And.right (And.right (And.right (And.right (And.right (And.right (And.right (And.right (And.right (And.right (And.right (And.right (And.right (And.right ‹(_ ∧ (_ ∧ (_ ∧ (_ ∧ (_ ∧ (_ ∧ (_ ∧ (_ ∧ (_ ∧ (_ ∧ (_ ∧ (_ ∧ (_ ∧ (_ ∧ (_ ∧ (_ ∧ (_ ∧ (_ ∧ (_ ∧ (_ ∧ (_ ∧ (_ ∧ (_ ∧ (_ ∧ (_ ∧ (_ ∧ (_ ∧ (_ ∧ (_ ∧ (_ ∧ (_ ∧ (_ ∧ (_ ∧ (_ ∧ (_ ∧ ((_ ≠ _) ∧ _))))))))))))))))))))))))))))))))))))›))))))))))))))))))))))))))))))))))) | exact And.left (And.right (And.right (And.right (And.right (And.right (And.right (And.right (And.right (And.right (And.right (And.right (And.right (And.right (And.right (And.right (And.right (And.right (And.right (And.right (And.right (And.right (And.right (And.right (And.right (And.right (And.right (And.right (And.right (And.right (And.right (And.right (And.right (And.right (And.right (And.right (And.right ‹(_ ∧ (_ ∧ (_ ∧ (_ ∧ (_ ∧ (_ ∧ (_ ∧ (_ ∧ (_ ∧ (_ ∧ (_ ∧ (_ ∧ (_ ∧ (_ ∧ (_ ∧ (_ ∧ (_ ∧ (_ ∧ (_ ∧ (_ ∧ (_ ∧ (_ ∧ (_ ∧ (_ ∧ (_ ∧ (_ ∧ (_ ∧ (_ ∧ (_ ∧ (_ ∧ (_ ∧ (_ ∧ (_ ∧ (_ ∧ (_ ∧ (_ ∧ ((_ ≠ _) ∧ _)))))))))))))))))))))))))))))))))))))›)))))))))))))))))))))))))))))))))))) | exact And.left (And.right (And.right (And.right (And.right (And.right (And.right (And.right (And.right (And.right (And.right (And.right (And.right (And.right (And.right (And.right (And.right (And.right (And.right (And.right (And.right (And.right (And.right (And.right (And.right (And.right (And.right (And.right (And.right (And.right (And.right (And.right (And.right (And.right (And.right (And.right (And.right (And.right ‹(_ ∧ (_ ∧ (_ ∧ (_ ∧ (_ ∧ (_ ∧ (_ ∧ (_ ∧ (_ ∧ (_ ∧ (_ ∧ (_ ∧ (_ ∧ (_ ∧ (_ ∧ (_ ∧ (_ ∧ (_ ∧ (_ ∧ (_ ∧ (_ ∧ (_ ∧ (_ ∧ (_ ∧ (_ ∧ (_ ∧ (_ ∧ (_ ∧ (_ ∧ (_ ∧ (_ ∧ (_ ∧ (_ ∧ (_ ∧ (_ ∧ (_ ∧ (_ ∧ ((_ ≠ _) ∧ _))))))))))))))))))))))))))))))))))))))›))))))))))))))))))))))))))))))))))))) | exact And.left (And.right (And.right (And.right (And.right (And.right (And.right (And.right (And.right (And.right (And.right (And.right (And.right (And.right (And.right (And.right (And.right (And.right (And.right (And.right (And.right (And.right (And.right (And.right (And.right (And.right (And.right (And.right (And.right (And.right (And.right (And.right (And.right (And.right (And.right (And.right (And.right (And.right (And.right ‹(_ ∧ (_ ∧ (_ ∧ (_ ∧ (_ ∧ (_ ∧ (_ ∧ (_ ∧ (_ ∧ (_ ∧ (_ ∧ (_ ∧ (_ ∧ (_ ∧ (_ ∧ (_ ∧ (_ ∧ (_ ∧ (_ ∧ (_ ∧ (_ ∧ (_ ∧ (_ ∧ (_ ∧ (_ ∧ (_ ∧ (_ ∧ (_ ∧ (_ ∧ (_ ∧ (_ ∧ (_ ∧ (_ ∧ (_ ∧ (_ ∧ (_ ∧ (_ ∧ (_ ∧ ((_ ≠ _) ∧ _)))))))))))))))))))))))))))))))))))))))›)))))))))))))))))))))))))))))))))))))) | exact And.left (And.right (And.right (And.right (And.right (And.right (And.right (And.right (And.right (And.right (And.right (And.right (And.right (And.right (And.right (And.right (And.right (And.right (And.right (And.right (And.right (And.right (And.right (And.right (And.right (And.right (And.right (And.right (And.right (And.right (And.right (And.right (And.right (And.right (And.right (And.right (And.right (And.right (And.right (And.right ‹(_ ∧ (_ ∧ (_ ∧ (_ ∧ (_ ∧ (_ ∧ (_ ∧ (_ ∧ (_ ∧ (_ ∧ (_ ∧ (_ ∧ (_ ∧ (_ ∧ (_ ∧ (_ ∧ (_ ∧ (_ ∧ (_ ∧ (_ ∧ (_ ∧ (_ ∧ (_ ∧ (_ ∧ (_ ∧ (_ ∧ (_ ∧ (_ ∧ (_ ∧ (_ ∧ (_ ∧ (_ ∧ (_ ∧ (_ ∧ (_ ∧ (_ ∧ (_ ∧ (_ ∧ (_ ∧ ((_ ≠ _) ∧ _))))))))))))))))))))))))))))))))))))))))›))))))))))))))))))))))))))))))))))))))) | exact And.left (And.right (And.right (And.right (And.right (And.right (And.right (And.right (And.right (And.right (And.right (And.right (And.right (And.right (And.right (And.right (And.right (And.right (And.right (And.right (And.right (And.right (And.right (And.right (And.right (And.right (And.right (And.right (And.right (And.right (And.right (And.right (And.right (And.right (And.right (And.right (And.right (And.right (And.right (And.right (And.right ‹(_ ∧ (_ ∧ (_ ∧ (_ ∧ (_ ∧ (_ ∧ (_ ∧ (_ ∧ (_ ∧ (_ ∧ (_ ∧ (_ ∧ (_ ∧ (_ ∧ (_ ∧ (_ ∧ (_ ∧ (_ ∧ (_ ∧ (_ ∧ (_ ∧ (_ ∧ (_ ∧ (_ ∧ (_ ∧ (_ ∧ (_ ∧ (_ ∧ (_ ∧ (_ ∧ (_ ∧ (_ ∧ (_ ∧ (_ ∧ (_ ∧ (_ ∧ (_ ∧ (_ ∧ (_ ∧ (_ ∧ ((_ ≠ _) ∧ _)))))))))))))))))))))))))))))))))))))))))›)))))))))))))))))))))))))))))))))))))))) | exact And.left (And.right (And.right (And.right (And.right (And.right (And.right (And.right (And.right (And.right (And.right (And.right (And.right (And.right (And.right (And.right (And.right (And.right (And.right (And.right (And.right (And.right (And.right (And.right (And.right (And.right (And.right (And.right (And.right (And.right (And.right (And.right (And.right (And.right (And.right (And.right (And.right (And.right (And.right (And.right (And.right (And.right ‹(_ ∧ (_ ∧ (_ ∧ (_ ∧ (_ ∧ (_ ∧ (_ ∧ (_ ∧ (_ ∧ (_ ∧ (_ ∧ (_ ∧ (_ ∧ (_ ∧ (_ ∧ (_ ∧ (_ ∧ (_ ∧ (_ ∧ (_ ∧ (_ ∧ (_ ∧ (_ ∧ (_ ∧ (_ ∧ (_ ∧ (_ ∧ (_ ∧ (_ ∧ (_ ∧ (_ ∧ (_ ∧ (_ ∧ (_ ∧ (_ ∧ (_ ∧ (_ ∧ (_ ∧ (_ ∧ (_ ∧ (_ ∧ ((_ ≠ _) ∧ _))))))))))))))))))))))))))))))))))))))))))›))))))))))))))))))))))))))))))))))))))))) | exact And.left (And.right (And.right (And.right (And.right (And.right (And.right (And.right (And.right (And.right (And.right (And.right (And.right (And.right (And.right (And.right (And.right (And.right (And.right (And.right (And.right (And.right (And.right (And.right (And.right (And.right (And.right (And.right (And.right (And.right (And.right (And.right (And.right (And.right (And.right (And.right (And.right (And.right (And.right (And.right (And.right (And.right (And.right ‹(_ ∧ (_ ∧ (_ ∧ (_ ∧ (_ ∧ (_ ∧ (_ ∧ (_ ∧ (_ ∧ (_ ∧ (_ ∧ (_ ∧ (_ ∧ (_ ∧ (_ ∧ (_ ∧ (_ ∧ (_ ∧ (_ ∧ (_ ∧ (_ ∧ (_ ∧ (_ ∧ (_ ∧ (_ ∧ (_ ∧ (_ ∧ (_ ∧ (_ ∧ (_ ∧ (_ ∧ (_ ∧ (_ ∧ (_ ∧ (_ ∧ (_ ∧ (_ ∧ (_ ∧ (_ ∧ (_ ∧ (_ ∧ (_ ∧ ((_ ≠ _) ∧ _)))))))))))))))))))))))))))))))))))))))))))›)))))))))))))))))))))))))))))))))))))))))) | exact And.left (And.right (And.right (And.right (And.right (And.right (And.right (And.right (And.right (And.right (And.right (And.right (And.right (And.right (And.right (And.right (And.right (And.right (And.right (And.right (And.right (And.right (And.right (And.right (And.right (And.right (And.right (And.right (And.right (And.right (And.right (And.right (And.right (And.right (And.right (And.right (And.right (And.right (And.right (And.right (And.right (And.right (And.right (And.right ‹(_ ∧ (_ ∧ (_ ∧ (_ ∧ (_ ∧ (_ ∧ (_ ∧ (_ ∧ (_ ∧ (_ ∧ (_ ∧ (_ ∧ (_ ∧ (_ ∧ (_ ∧ (_ ∧ (_ ∧ (_ ∧ (_ ∧ (_ ∧ (_ ∧ (_ ∧ (_ ∧ (_ ∧ (_ ∧ (_ ∧ (_ ∧ (_ ∧ (_ ∧ (_ ∧ (_ ∧ (_ ∧ (_ ∧ (_ ∧ (_ ∧ (_ ∧ (_ ∧ (_ ∧ (_ ∧ (_ ∧ (_ ∧ (_ ∧ (_ ∧ ((_ ≠ _) ∧ _))))))))))))))))))))))))))))))))))))))))))))›))))))))))))))))))))))))))))))))))))))))))))))
  k_with "m:execs cons" => ((k_here; (try k_gentoks); (try k_made); (with_reducible refine wpAny_execs_cons ?_); (try dsimp only); first | (with_reducible show wpAny _ _ (exec (Stmt.Assign _ (Expr.BinOp (Expr.ListComp _ _ _ _) _ _ _) _) _) _ _ _) | (with_reducible show wpAny _ _ (exec (Stmt.Assign _ (Expr.ListComp _ _ _ _) _) _) _ _ _) | k_fold))
  k_with "m_letA" => ((show (let v9 : Env := _; let A9 : Around := Around.deeper _ v9; wpAny _ A9 (execs _ v9) _ _ _); intro v9 A9))
  w_top off
  k_fill
  intro dp un gd cn cs' a ccd cl outer A₀ base h₀ L m rest s Q E B F X N hdis T hk hd hu hret
  refine wpAny_call ?_
  have N0 := news_left N
  k_dflt refine' code_defR (binds := [(Str.ofString "a", .int oa t1), (Str.ofString "b", .int ob t2)]) ?k1 ?k2 ?k3 ?k4 ?k5 ?kA ?kF ?kK ?k6 ?k7 ?k8 ?k9 ?kB ?_ ?c2 ?c3 ?c4 ?c5
  k_dflt k_extra "m_enter"
  intro g' L' h' FG F' N' B' X' T' kept small
  (try dsimp only)
  (try k_extra "m_letA")
  (try k_fold)
  have hr := rest_kept N hdis kept
  k_steps
  unfold Hold
  (try k_gentoks)
  rename Fr _ _ _ _ => fr1
  rename News _ _ _ _ => ne1
  with_unfolding_all refine ksw_while (σ := (Int × Tok) × (Int × Tok) × (Int × Tok) × (Int × Tok) × (Int × Tok) × (Int × Tok)) (fun _ => []) (fun c => [(Str.ofString "a", .int c.1.1 c.1.2), (Str.ofString "b", .int c.2.1.1 c.2.1.2), (Str.ofString "x", .int c.2.2.1.1 c.2.2.1.2), (Str.ofString "lx", .int c.2.2.2.1.1 c.2.2.2.1.2), (Str.ofString "y", .int c.2.2.2.2.1.1 c.2.2.2.2.1.2), (Str.ofString "ly", .int c.2.2.2.2.2.1 c.2.2.2.2.2.2)]) (fun _ => True) [Str.ofString "q", Str.ofString "a", Str.ofString "b", Str.ofString "x", Str.ofString "lx", Str.ofString "y", Str.ofString "ly"] (fun c => EInv oa ob c.1.1 c.2.1.1 c.2.2.1.1 c.2.2.2.1.1 c.2.2.2.2.1.1 c.2.2.2.2.2.1) (fun c => c.2.1.1.toNat) ((oa, t1), (ob, t2), (0, _), (1, _), (1, _), (0, _)) fr1 ne1 trivial (List.forall_mem_cons.mpr ⟨rfl, List.forall_mem_cons.mpr ⟨rfl, List.forall_mem_cons.mpr ⟨rfl, List.forall_mem_cons.mpr ⟨rfl, List.forall_mem_cons.mpr ⟨rfl, List.forall_mem_cons.mpr ⟨rfl, List.forall_mem_nil _⟩⟩⟩⟩⟩⟩) (EInv.start hob) ?_ ?_
  · clear fr1 ne1
    rintro ⟨⟨a, ta⟩, ⟨b, tb⟩, ⟨x, tx⟩, ⟨lx, tlx⟩, ⟨y, ty⟩, ⟨ly, tly⟩⟩ u h tk - hp fr1 ne1
    dsimp only at hp fr1 ne1 ⊢
    replace fr1 : Fr g' L' h _ := fr1
    replace ne1 : News g' L' h _ := ne1
    k_sweep
    (try k_fold)
    have hlg := hp.lg h2 hB1
    k_steps
    · rename b ≠ 0 => hb0
      have hm1 := hp.mul1 h1 h2 (by lia) hb0
      have hm2 := hp.mul2 h1 h2 (by lia) hb0
      dsimp only
      k_steps
      rename Fr g' _ _ _ => fr2
      rename News g' _ _ _ => ne2
      with_unfolding_all refine' ksw_end ((_, _), (_, _), (_, _), (_, _), (_, _), (_, _)) fr2 ne2 (List.forall_mem_nil _) trivial (List.forall_mem_cons.mpr ⟨rfl, List.forall_mem_cons.mpr ⟨rfl, List.forall_mem_cons.mpr ⟨rfl, List.forall_mem_cons.mpr ⟨rfl, List.forall_mem_cons.mpr ⟨rfl, List.forall_mem_cons.mpr ⟨rfl, List.forall_mem_nil _⟩⟩⟩⟩⟩⟩) ?_ ?_ ?_
      · intro z h2 h3
        simp only [List.forall_mem_cons, List.not_mem_nil, false_implies, implies_true, and_true, ne_eq] at h2
        simp only [List.contains_cons, List.contains_nil, Bool.or_false, Bool.or_eq_false_iff, beq_eq_false_iff_ne, ne_eq] at h3
        simp [kstB, h2, h3]
      · exact hp.step hb0
      · have := hp.hb
        have := fmod_nn (a := a) (b := b) (by lia)
        show (a.fmod b).toNat < b.toNat
        lia
    all_goals (rename b = 0 => hb0; subst hb0; (rename Fr g' _ _ _ => fr8); (rename News g' _ _ _ => ne8); refine m_ret hret fr8 ne8 (by assumption) (by assumption) hr N (fun p hp => hp) ⟨_, _, _, _, lx, ly, x, y, _, _, _, hp, ?_, ?_⟩)
    · exact (if_pos (by assumption)).symm
    · exact (if_pos (by assumption)).symm
    · exact (if_pos (by assumption)).symm
    · exact (if_neg (by assumption)).symm
    · exact (if_neg (by assumption)).symm
    · exact (if_pos (by assumption)).symm
    · exact (if_neg (by assumption)).symm
    · exact (if_neg (by assumption)).symm
  · with_unfolding_all passes_own
theorem EInv.inv {oa ob a x lx y ly fx : Int} (h : EInv oa ob a 0 x lx y ly) (hb : 0 < ob) (h1 : a = 1) (hx : fx = if lx < 0 then lx + ob else lx) : 0 ≤ fx ∧ fx ≤ ob ∧ (fx < ob ∨ ob = 1) ∧ ob ∣ fx * oa - 1 := by
  k_with "m:call ref" => ((k_here; (with_reducible show wpAny _ _ (call (Value.ref 70) _) _ _ _); refine hold ?_))
  k_with "m:call ref" => ((k_here; (with_reducible show wpAny _ _ (call (Value.ref 70) _) _ _ _); k_dflt ((refine Ctr.use (c_egcd (B1 := 2490) _ _ _ _ ?_ ?_ ?_ ?_) (by k_asm) (by k_asm) (by k_asm) (by k_asm) (by k_asm) (by first | exact rfl | assumption) (by k_extra "m_pre") (by walk_at "m_rest") (by first | exact roomk (by assumption) (by decide) | exact roomk2 (by assumption) (by decide) | ktr_room) (by first | exact roomk (by assumption) (by decide) | exact roomk2 (by assumption) (by decide) | ktr_units) ?_); (walk_at "m_bd"); (walk_at "m_bd"); (decide); (walk_at "m_fact")); rintro v9 l9 h9 tk9 ⟨q9, a9, fx9, fy9, lx9, ly9, x9, y9, u91, u92, u93, he9, hx9, hy9⟩ hlo9 F9 N9; (try (refine EInv.facts_k he9 ?fa ?fb ?fc ?fd hx9 hy9 ?_; (case fa => walk_at "m_fact"); (case fb => walk_at "m_fact"); (case fc => walk_at "m_bd"); (case fd => walk_at "m_bd"); intro hg9 hf1 hf2 hf3 hf4 hf5 hf6 hf7 hf8)); replace hlo9 := sepL_of hlo9; (try dsimp only [sepL, sepR, StL, KeyL, PubL] at hlo9); (try dsimp only [List.cons_append, List.nil_append] at N9); k_sweep; (try k_fold)))
  obtain ⟨hb0, bz1, bz2, hg, st⟩ := h
  have hd : ob ∣ fx * oa - 1 := by
    subst hx
    split
    · exact ⟨oa - ly, by grind⟩
    · exact ⟨-ly, by grind⟩
  rcases st with ⟨k1, k2, _⟩ | R
  · lia
  · have l1 := R.lx1
    have l2 := R.lx2
    have hne : ob = 1 ∨ (lx ≠ ob ∧ lx ≠ -ob) := by
      by_cases q : ob = 1
      · exact .inl q
      · right
        constructor <;> intro e
        · rw [e] at bz1
          have : ob ∣ 1 := ⟨oa + ly, by grind⟩
          have := Int.le_of_dvd (by decide) this
          lia
        · rw [e] at bz1
          have : ob ∣ 1 := ⟨ly - oa, by grind⟩
          have := Int.le_of_dvd (by decide) this
          lia
    subst hx
    refine ⟨?_, ?_, ?_, hd⟩
    · split <;> lia
    · split <;> lia
    · split <;> lia
inductive PInv (x n : Int) : Value → List (Addr × Obj) → Prop
  | mk (r : Int) (tr : Tok) (h0 : 0 ≤ r) (h1 : r ≤ n) (h2 : r < n ∨ n = 1) (h3 : n ∣ r * x - 1) (h4 : Bd 1240 r) : PInv x n (.int r tr) []
theorem c_inverse (w : World) (mean : ExcName → Option Value) (mg mb : Str → Option Value) {x n : Int} {t1 t2 : Tok} (h1 : Bd 1240 x) (h2 : Bd 1240 n) (hx : 0 ≤ x) (hn : 0 < n) (hg : Int.gcd x n = 1) :
    Ctr PySem.Challenge.rw_ys0001_09.row.prog w (Mine.K w.params) Mine.V (looseW Mine.V [Str.ofString "NotRelativePrimeError", Str.ofString "int2bytes", Str.ofString "HASH_ASN1"]) mean mg mb 77 8 60 [.int x t1, .int n t2] []
      (PInv x n) := by
  w_top off
  k_fill
  intro dp un gd cn cs' a ccd cl outer A₀ base h₀ L m rest s Q E B F X N hdis T hk hd hu hret
  refine wpAny_call ?_
  have N0 := news_left N
  k_dflt refine' code_defR (binds := [(Str.ofString "x", .int x t1), (Str.ofString "n", .int n t2)]) ?k1 ?k2 ?k3 ?k4 ?k5 ?kA ?kF ?kK ?k6 ?k7 ?k8 ?k9 ?kB ?_ ?c2 ?c3 ?c4 ?c5
  k_dflt k_extra "m_enter"
  intro g' L' h' FG F' N' B' X' T' kept small
  (try dsimp only)
  (try k_extra "m_letA")
  (try k_fold)
  have hr := rest_kept N hdis kept
  k_steps
  · exfalso
    rename EInv _ _ _ _ _ _ _ _ => he
    have := he.gcdIs (.inl hx)
    rw [hg] at this
    lia
  · rename EInv _ _ _ _ _ _ _ _ => he
    have hi := he.inv hn (by have := he.gcdIs (.inl hx); rw [hg] at this; exact this) (by assumption)
    (rename Fr g' _ _ _ => fr8); (rename News g' _ _ _ => ne8)
    exact m_ret hret fr8 ne8 (by assumption) (by assumption) hr N (List.forall_mem_nil _) ⟨_, _, hi.1, hi.2.1, hi.2.2.1, hi.2.2.2, Bd.of_lt hi.1 hi.2.1 h2⟩
local macro_rules | `(tactic| walk_at "call builtin:pow") => `(tactic| (refine pow3 ?hm ?hy ?_; (case hm => walk_at "m_fact"); (case hy => walk_at "m_fact")))
local macro_rules | `(tactic| walk_at "call ref") => `(tactic| (k_here; (with_reducible show wpAny _ _ (call (Value.ref 84) _) _ _ _); k_dflt (walk_at "m_inline")))
local macro_rules | `(tactic| walk_at "m_bd") => `(tactic| first | (refine PM_bd ?a ?b; (case a => first | assumption | lia); (case b => walk_at "m_bd")) | (refine fmod_bd ?a ?b; (case a => first | assumption | lia); (case b => walk_at "m_bd")))
theorem c_encrypt (w : World) (mean : ExcName → Option Value) (mg mb : Str → Option Value) {x e n : Int} {t1 t2 t3 : Tok} (hx : 0 ≤ x) (hxn : x ≤ n) (he : 0 ≤ e) (hn : 0 < n) :
    Ctr PySem.Challenge.rw_ys0001_09.row.prog w (Mine.K w.params) Mine.V (looseW Mine.V [Str.ofString "NotRelativePrimeError", Str.ofString "int2bytes", Str.ofString "HASH_ASN1"]) mean mg mb 91 8 60 [.int x t1, .int e t2, .int n t3] []
      (PInt (PM x e n) []) := by
  k_with "m:call ref" => ((k_here; (with_reducible show wpAny _ _ (call (Value.ref 77) _) _ _ _); refine hold ?_))
  k_with "m:call ref" => ((k_here; (with_reducible show wpAny _ _ (call (Value.ref 77) _) _ _ _); k_dflt ((refine Ctr.use (c_inverse _ _ _ _ ?_ ?_ ?_ ?_ ?_) (by k_asm) (by k_asm) (by k_asm) (by k_asm) (by k_asm) (by first | exact rfl | assumption) (by k_extra "m_pre") (by walk_at "m_rest") (by first | exact roomk (by assumption) (by decide) | exact roomk2 (by assumption) (by decide) | ktr_room) (by first | exact roomk (by assumption) (by decide) | exact roomk2 (by assumption) (by decide) | ktr_units) ?_); (walk_at "m_bd"); (walk_at "m_bd"); (walk_at "m_fact"); (walk_at "m_fact"); (first | assumption | rfl)); rintro v9 l9 h9 tk9 ⟨r9, tr9, hi1, hi0, hi2, hi3, hi4⟩ hlo9 F9 N9; clear hlo9; (try dsimp only [List.nil_append] at N9); k_sweep; (try k_fold)))
  k_with "m:call ref" => ((k_here; (with_reducible show wpAny _ _ (call (Value.ref 84) _) _ _ _); refine hold ?_))
  w_top off
  k_fill
  intro dp un gd cn cs' a ccd cl outer A₀ base h₀ L m rest s Q E B F X N hdis T hk hd hu hret
  refine wpAny_call ?_
  have N0 := news_left N
  k_dflt refine' code_defR (binds := [(Str.ofString "message", .int x t1), (Str.ofString "ekey", .int e t2), (Str.ofString "n", .int n t3)]) ?k1 ?k2 ?k3 ?k4 ?k5 ?kA ?kF ?kK ?k6 ?k7 ?k8 ?k9 ?kB ?_ ?c2 ?c3 ?c4 ?c5
  k_dflt k_extra "m_enter"
  intro g' L' h' FG F' N' B' X' T' kept small
  (try dsimp only)
  (try k_extra "m_letA")
  (try k_fold)
  have hr := rest_kept N hdis kept
  k_steps
  (rename Fr g' _ _ _ => fr8); (rename News g' _ _ _ => ne8); exact m_ret hret fr8 ne8 (by assumption) (by assumption) hr N (by k_extra "m_pre") ⟨_⟩
theorem c_pgcd (w : World) (mean : ExcName → Option Value) (mg mb : Str → Option Value) {p q : Int} {t1 t2 : Tok} (hp0 : 0 ≤ p) (hq0 : 0 ≤ q) :
    Ctr PySem.Challenge.rw_ys0001_09.row.prog w (Mine.K w.params) Mine.V (looseW Mine.V [Str.ofString "NotRelativePrimeError", Str.ofString "int2bytes", Str.ofString "HASH_ASN1"]) mean mg mb 128 5 20 [.int p t1, .int q t2] []
      (PInt (Int.gcd p q) []) := by
  k_with "m:call ref" => ((k_here; (with_reducible show wpAny _ _ (call (Value.ref 91) _) _ _ _); refine hold ?_))
  k_with "m:call ref" => ((k_here; (with_reducible show wpAny _ _ (call (Value.ref 91) _) _ _ _); k_dflt ((refine Ctr.use (c_encrypt _ _ _ _ ?_ ?_ ?_ ?_) (by k_asm) (by k_asm) (by k_asm) (by k_asm) (by k_asm) (by first | exact rfl | assumption) (by k_extra "m_pre") (by walk_at "m_rest") (by first | exact roomk (by assumption) (by decide) | exact roomk2 (by assumption) (by decide) | ktr_room) (by first | exact roomk (by assumption) (by decide) | exact roomk2 (by assumption) (by decide) | ktr_units) ?_); (walk_at "m_fact"); (walk_at "m_fact"); (walk_at "m_fact"); (walk_at "m_fact")); rintro v9 l9 h9 tk9 ⟨tr9⟩ hlo9 F9 N9; clear hlo9; (try dsimp only [List.nil_append] at N9); k_sweep; (try k_fold)))
  w_top off
  k_fill
  intro dp un gd cn cs' a ccd cl outer A₀ base h₀ L m rest s Q E B F X N hdis T hk hd hu hret
  refine wpAny_call ?_
  have N0 := news_left N
  k_dflt refine' code_defR (binds := [(Str.ofString "p", .int p t1), (Str.ofString "q", .int q t2)]) ?k1 ?k2 ?k3 ?k4 ?k5 ?kA ?kF ?kK ?k6 ?k7 ?k8 ?k9 ?kB ?_ ?c2 ?c3 ?c4 ?c5
  k_dflt k_extra "m_enter"
  intro g' L' h' FG F' N' B' X' T' kept small
  (try dsimp only)
  (try k_extra "m_letA")
  (try k_fold)
  have hr := rest_kept N hdis kept
  k_steps
  unfold Hold
  (try k_gentoks)
  rename Fr _ _ _ _ => fr1
  rename News _ _ _ _ => ne1
  with_unfolding_all refine ksw_while (σ := (Int × Tok) × (Int × Tok)) (fun _ => []) (fun c => [(Str.ofString "p", .int c.1.1 c.1.2), (Str.ofString "q", .int c.2.1 c.2.2)]) (fun _ => True) [Str.ofString "p", Str.ofString "q"] (fun c => 0 ≤ c.1.1 ∧ 0 ≤ c.2.1 ∧ Int.gcd c.1.1 c.2.1 = Int.gcd p q) (fun c => c.2.1.toNat) ((p, t1), (q, t2)) fr1 ne1 trivial (List.forall_mem_cons.mpr ⟨rfl, List.forall_mem_cons.mpr ⟨rfl, List.forall_mem_nil _⟩⟩) ⟨hp0, hq0, rfl⟩ ?_ ?_
  · clear fr1 ne1
    rintro ⟨⟨a, ta⟩, ⟨b, tb⟩⟩ u h tk - ⟨ha, hb, hg⟩ fr1 ne1
    dsimp only at ha hb hg fr1 ne1 ⊢
    replace fr1 : Fr g' L' h _ := fr1
    replace ne1 : News g' L' h _ := ne1
    k_sweep
    (try k_fold)
    k_steps
    · rename b ≠ 0 => hb0
      rename Fr g' _ _ _ => fr2
      rename News g' _ _ _ => ne2
      have h5 := fmod_nn (a := a) (b := b) (by lia)
      with_unfolding_all refine' ksw_end ((_, _), (_, _)) fr2 ne2 (List.forall_mem_nil _) trivial (List.forall_mem_cons.mpr ⟨rfl, List.forall_mem_cons.mpr ⟨rfl, List.forall_mem_nil _⟩⟩) ?_ ?_ ?_
      · k_extra "m_same"
      · exact ⟨hb, h5.1, (gcd_fmod (a := a) (b := b) (by lia)).trans hg⟩
      · show (a.fmod b).toNat < b.toNat
        lia
    · rename b = 0 => hb0
      subst hb0
      have e : a = (Int.gcd p q : Int) := by rw [← hg, Int.gcd_zero_right]; lia
      subst e
      (rename Fr g' _ _ _ => fr8); (rename News g' _ _ _ => ne8); exact m_ret hret fr8 ne8 (by assumption) (by assumption) hr N (by k_extra "m_pre") ⟨_⟩
  · with_unfolding_all passes_own
inductive PArp (p q : Int) : Value → List (Addr × Obj) → Prop
  | mk (b : Bool) (h : b = true ↔ Int.gcd p q = 1) : PArp p q (.bool b) []
theorem c_arp (w : World) (mean : ExcName → Option Value) (mg mb : Str → Option Value) {p q : Int} {t1 t2 : Tok} (hp0 : 0 ≤ p) (hq0 : 0 ≤ q) :
    Ctr PySem.Challenge.rw_ys0001_09.row.prog w (Mine.K w.params) Mine.V (looseW Mine.V [Str.ofString "NotRelativePrimeError", Str.ofString "int2bytes", Str.ofString "HASH_ASN1"]) mean mg mb 135 8 40 [.int p t1, .int q t2] []
      (PArp p q) := by
  k_with "m:call ref" => ((k_here; (with_reducible show wpAny _ _ (call (Value.ref 128) _) _ _ _); refine hold ?_))
  k_with "m:call ref" => ((k_here; (with_reducible show wpAny _ _ (call (Value.ref 128) _) _ _ _); k_dflt ((refine Ctr.use (c_pgcd _ _ _ _ ?_ ?_) (by k_asm) (by k_asm) (by k_asm) (by k_asm) (by k_asm) (by first | exact rfl | assumption) (by k_extra "m_pre") (by walk_at "m_rest") (by first | exact roomk (by assumption) (by decide) | exact roomk2 (by assumption) (by decide) | ktr_room) (by first | exact roomk (by assumption) (by decide) | exact roomk2 (by assumption) (by decide) | ktr_units) ?_); (walk_at "m_fact"); (walk_at "m_fact")); rintro v9 l9 h9 tk9 ⟨tr9⟩ hlo9 F9 N9; clear hlo9; (try dsimp only [List.nil_append] at N9); k_sweep; (try k_fold)))
  w_top off
  k_fill
  intro dp un gd cn cs' a ccd cl outer A₀ base h₀ L m rest s Q E B F X N hdis T hk hd hu hret
  refine wpAny_call ?_
  have N0 := news_left N
  k_dflt refine' code_defR (binds := [(Str.ofString "a", .int p t1), (Str.ofString "b", .int q t2)]) ?k1 ?k2 ?k3 ?k4 ?k5 ?kA ?kF ?kK ?k6 ?k7 ?k8 ?k9 ?kB ?_ ?c2 ?c3 ?c4 ?c5
  k_dflt k_extra "m_enter"
  intro g' L' h' FG F' N' B' X' T' kept small
  (try dsimp only)
  (try k_extra "m_letA")
  (try k_fold)
  have hr := rest_kept N hdis kept
  k_steps
  (rename Fr g' _ _ _ => fr8); (rename News g' _ _ _ => ne8); exact m_ret hret fr8 ne8 (by assumption) (by assumption) hr N (by k_extra "m_pre") ⟨_, by simp; lia⟩
inductive PIbf_pv (w : World) (x dx : Nat) (S : KeyS) (bf : Int) (t1 : Tok) (bi : Int) (t2 : Tok) : Value → List (Addr × Obj) → Prop
  | mk (r : Int) (tr : Tok) (h0 : 2 ≤ r) (h1 : ∀ R, 2 ≤ R → Int.gcd S.n R = 1 → r ≤ R) (h2 : Int.gcd r S.n = 1) (h3 : Bd 1231 r) : PIbf_pv w x dx S bf t1 bi t2 (.int r tr) (KeyL w 229 x dx S bf t1 bi t2)
theorem c_ibf_pv (w : World) (mean : ExcName → Option Value) (mg mb : Str → Option Value) {x dx : Nat} {S : KeyS} {bf bi : Int} {t1 t2 : Tok} (hne : @Ne Nat x dx) (hk0 : KOk S) :
    Ctr PySem.Challenge.rw_ys0001_09.row.prog w (Mine.K w.params) Mine.V (looseW Mine.V [Str.ofString "NotRelativePrimeError", Str.ofString "int2bytes", Str.ofString "HASH_ASN1"]) mean mg mb 170 12 80 [.ref x] (KeyL w 229 x dx S bf t1 bi t2)
      (PIbf_pv w x dx S bf t1 bi t2) := by
  k_with "m:call ref" => ((k_here; (with_reducible show wpAny _ _ (call (Value.ref 135) _) _ _ _); refine hold ?_))
  k_with "m:call ref" => ((k_here; (with_reducible show wpAny _ _ (call (Value.ref 135) _) _ _ _); k_dflt ((refine Ctr.use (c_arp _ _ _ _ ?_ ?_) (by k_asm) (by k_asm) (by k_asm) (by k_asm) (by k_asm) (by first | exact rfl | assumption) (by k_extra "m_pre") (by walk_at "m_rest") (by first | exact roomk (by assumption) (by decide) | exact roomk2 (by assumption) (by decide) | ktr_room) (by first | exact roomk (by assumption) (by decide) | exact roomk2 (by assumption) (by decide) | ktr_units) ?_); (walk_at "m_fact"); (walk_at "m_fact")); rintro v9 l9 h9 tk9 ⟨tr9, h9b⟩ hlo9 F9 N9; clear hlo9; (try dsimp only [List.nil_append] at N9); k_sweep; (try k_fold)))
  have hn : 0 < S.n := hk0.1
  w_top off
  k_fill
  intro dp un gd cn cs' a ccd cl outer A₀ base h₀ L m rest s Q E B F X N hdis T hk hd hu hret
  refine wpAny_call ?_
  have N0 := news_left N
  k_dflt refine' code_defR (binds := [(Str.ofString "self", .ref x)]) ?k1 ?k2 ?k3 ?k4 ?k5 ?kA ?kF ?kK ?k6 ?k7 ?k8 ?k9 ?kB ?_ ?c2 ?c3 ?c4 ?c5
  k_dflt k_extra "m_enter"
  intro g' L' h' FG F' N' B' X' T' kept small
  (try dsimp only)
  (try k_extra "m_letA")
  (try k_fold)
  have hr := rest_kept N hdis kept
  k_steps
  unfold Hold
  (try k_gentoks)
  rename Fr _ _ _ _ => fr1
  rename News _ _ _ _ => ne1
  with_unfolding_all refine ksw_while (σ := Int × Tok) (fun _ => KeyL w 229 x dx S bf t1 bi t2) (fun c => [(Str.ofString "blind_r", .int c.1 c.2)]) (fun _ => True) [Str.ofString "blind_r"] (fun c => 2 ≤ c.1 ∧ ∀ k, 2 ≤ k → k < c.1 → Int.gcd S.n k ≠ 1) (fun c => (S.n + 2 - c.1).toNat) (2, _) fr1 ne1 trivial (List.forall_mem_cons.mpr ⟨rfl, List.forall_mem_nil _⟩) ⟨Int.le_refl 2, by intro k h1 h2; dsimp only at h2; lia⟩ ?_ ?_
  · clear fr1 ne1
    rintro ⟨r, tr⟩ u h tk - ⟨ha, hb⟩ fr1 ne1
    dsimp only at ha hb fr1 ne1 ⊢
    replace fr1 : Fr g' L' h _ := fr1
    replace ne1 : News g' L' h _ := ne1
    k_sweep
    (try k_fold)
    k_steps
    · rename _ ↔ _ => hiff
      have hmin : ∀ R, 2 ≤ R → Int.gcd S.n R = 1 → r ≤ R := fun R h1 h2 => Int.not_lt.mp fun hc => hb R h1 hc h2
      (rename Fr g' _ _ _ => fr8); (rename News g' _ _ _ => ne8); exact m_ret hret fr8 ne8 (by assumption) (by assumption) hr N (by k_extra "m_pre") ⟨_, _, ha, hmin, (Int.gcd_comm _ _).trans (hiff.mp (by assumption)), Bd.lt_succ hk0.2.1 (by lia) (hmin (S.n + 1) (by lia) (gcd_succ S.n))⟩
    · rename _ ↔ _ => hiff
      rename Fr g' _ _ _ => fr2
      rename News g' _ _ _ => ne2
      with_unfolding_all refine' ksw_end (_, _) fr2 ne2 ?_ trivial (List.forall_mem_cons.mpr ⟨rfl, List.forall_mem_nil _⟩) ?_ ?_ ?_
      · k_extra "m_pre"
      · k_extra "m_same"
      · refine ⟨by dsimp only; lia, fun k h1 h2 => ?_⟩
        dsimp only at h2
        by_cases hk2 : k = r
        · subst hk2
          intro e
          have := hiff.mpr e
          simp_all
        · exact hb k h1 (by lia)
      · have hle : r ≤ S.n + 1 := by
          refine Int.not_lt.mp fun hc => hb (S.n + 1) (by lia) hc ?_
          exact gcd_succ S.n
        dsimp only
        lia
  · with_unfolding_all passes_own
inductive PUpd_pv (w : World) (x dx : Nat) (S : KeyS) : Value → List (Addr × Obj) → Prop
  | mk (tp : Nat) (b' : Int) (s1 : Tok) (i' : Int) (s2 : Tok) (h0 : BfOk S b' i') (h1 : 0 ≤ b') : PUpd_pv w x dx S (.ref tp) ((tp, ({ cls := .type "tuple", data := .seq #[.int b' s1, .int i' s2] } : Obj)) :: KeyL w 229 x dx S b' s1 i' s2)
theorem c_upd_pv (w : World) (mean : ExcName → Option Value) (mg mb : Str → Option Value) {x dx : Nat} {S : KeyS} {bf bi : Int} {t1 t2 : Tok} (hne : @Ne Nat x dx) (hk : KOk S) (hb : BfOk S bf bi) :
    Ctr PySem.Challenge.rw_ys0001_09.row.prog w (Mine.K w.params) Mine.V (looseW Mine.V [Str.ofString "NotRelativePrimeError", Str.ofString "int2bytes", Str.ofString "HASH_ASN1"]) mean mg mb 177 20 120 [.ref x] (KeyL w 229 x dx S bf t1 bi t2)
      (PUpd_pv w x dx S) := by
  k_with "m:call ref" => ((k_here; (with_reducible show wpAny _ _ (call (Value.ref 170) _) _ _ _); refine hold ?_))
  k_with "m:call ref" => ((k_here; (with_reducible show wpAny _ _ (call (Value.ref 170) _) _ _ _); k_dflt ((refine Ctr.use (c_ibf_pv _ _ _ _ (by assumption) (by assumption)) (by k_asm) (by k_asm) (by k_asm) (by k_asm) (by k_asm) (by first | exact rfl | assumption) (by k_extra "m_pre") (by walk_at "m_rest") (by first | exact roomk (by assumption) (by decide) | exact roomk2 (by assumption) (by decide) | ktr_room) (by first | exact roomk (by assumption) (by decide) | exact roomk2 (by assumption) (by decide) | ktr_units) ?_)); rintro v9 l9 h9 tk9 ⟨r9, tr9, h9a, h9b, h9c, h9d⟩ hlo9 F9 N9; clear hlo9; (try dsimp only [List.cons_append, List.nil_append] at N9); k_sweep; (try k_fold)))
  have hkk := hk
  obtain ⟨hk0, hk1, hk2, hk3⟩ := hk
  w_top off
  k_fill
  intro dp un gd cn cs' a ccd cl outer A₀ base h₀ L m rest s Q E B F X N hdis T hk hd hu hret
  refine wpAny_call ?_
  have N0 := news_left N
  k_dflt refine' code_defR (binds := [(Str.ofString "self", .ref x)]) ?k1 ?k2 ?k3 ?k4 ?k5 ?kA ?kF ?kK ?k6 ?k7 ?k8 ?k9 ?kB ?_ ?c2 ?c3 ?c4 ?c5
  k_dflt k_extra "m_enter"
  intro g' L' h' FG F' N' B' X' T' kept small
  (try dsimp only)
  (try k_extra "m_letA")
  (try k_fold)
  have hr := rest_kept N hdis kept
  k_steps
  · (rename Fr g' _ _ _ => fr8); (rename News g' _ _ _ => ne8); exact m_ret hret fr8 ne8 (by assumption) (by assumption) hr N (by k_extra "m_pre") ⟨_, _, _, _, _, BfOk.first hkk (by assumption) (by assumption) (by assumption) (by assumption) (by assumption), by lia⟩
  · (rename Fr g' _ _ _ => fr8); (rename News g' _ _ _ => ne8); exact m_ret hret fr8 ne8 (by assumption) (by assumption) hr N (by k_extra "m_pre") ⟨_, _, _, _, _, BfOk.next hkk hb (by assumption), PM_nn _ _ _⟩
theorem c_unblind_pv (w : World) (mean : ExcName → Option Value) (mg mb : Str → Option Value) {x dx : Nat} {S : KeyS} {bf bi y i : Int} {t1 t2 ty ti : Tok} (hne : @Ne Nat x dx) (hk : KOk S) (hy : Bd 1240 y) (hi : Bd 1240 i) :
    Ctr PySem.Challenge.rw_ys0001_09.row.prog w (Mine.K w.params) Mine.V (looseW Mine.V [Str.ofString "NotRelativePrimeError", Str.ofString "int2bytes", Str.ofString "HASH_ASN1"]) mean mg mb 163 5 30 [.ref x, .int y ty, .int i ti] (KeyL w 229 x dx S bf t1 bi t2)
      (PUnb (S.n) (i * y) (KeyL w 229 x dx S bf t1 bi t2)) := by
  k_with "m:call ref" => ((k_here; (with_reducible show wpAny _ _ (call (Value.ref 177) _) _ _ _); refine hold ?_))
  k_with "m:call ref" => ((k_here; (with_reducible show wpAny _ _ (call (Value.ref 177) _) _ _ _); k_dflt ((refine Ctr.use (c_upd_pv _ _ _ _ (by assumption) (by assumption) (by assumption)) (by k_asm) (by k_asm) (by k_asm) (by k_asm) (by k_asm) (by first | exact rfl | assumption) (by k_extra "m_pre") (by walk_at "m_rest") (by first | exact roomk (by assumption) (by decide) | exact roomk2 (by assumption) (by decide) | ktr_room) (by first | exact roomk (by assumption) (by decide) | exact roomk2 (by assumption) (by decide) | ktr_units) ?_)); rintro v9 l9 h9 tk9 ⟨tp9, b9, s9, i9, t9, h9a, h9b⟩ hlo9 F9 N9; clear hlo9; (try dsimp only [List.cons_append, List.nil_append] at N9); k_sweep; (try k_fold)))
  have hkk := hk
  obtain ⟨hk0, hk1, hk2, hk3⟩ := hk
  w_top off
  k_fill
  intro dp un gd cn cs' a ccd cl outer A₀ base h₀ L m rest s Q E B F X N hdis T hk hd hu hret
  refine wpAny_call ?_
  have N0 := news_left N
  k_dflt refine' code_defR (binds := [(Str.ofString "self", .ref x), (Str.ofString "blinded", .int y ty), (Str.ofString "blindfac_inverse", .int i ti)]) ?k1 ?k2 ?k3 ?k4 ?k5 ?kA ?kF ?kK ?k6 ?k7 ?k8 ?k9 ?kB ?_ ?c2 ?c3 ?c4 ?c5
  k_dflt k_extra "m_enter"
  intro g' L' h' FG F' N' B' X' T' kept small
  (try dsimp only)
  (try k_extra "m_letA")
  (try k_fold)
  have hr := rest_kept N hdis kept
  k_steps
  (rename Fr g' _ _ _ => fr8); (rename News g' _ _ _ => ne8); exact m_ret hret fr8 ne8 (by assumption) (by assumption) hr N (by k_extra "m_pre") ⟨_, _, (fmod_nn hk0).1, (fmod_nn hk0).2, fmod_dvd hk0⟩
inductive PBli_pv (w : World) (x dx : Nat) (S : KeyS) (y : Int) : Value → List (Addr × Obj) → Prop
  | mk (tp : Nat) (b' : Int) (s1 : Tok) (i' : Int) (s2 : Tok) (r : Int) (s3 : Tok) (n1 : @Ne Nat tp x) (n2 : @Ne Nat tp dx) (h0 : BfOk S b' i') (h1 : 0 ≤ b') (h2 : Bd 1231 i') (h3 : 0 ≤ r) (h4 : r < S.n) (h5 : S.n ∣ r - y * b' ^ S.e.toNat) : PBli_pv w x dx S y (.ref tp) ((tp, ({ cls := .type "tuple", data := .seq #[.int r s3, .int i' s2] } : Obj)) :: KeyL w 229 x dx S b' s1 i' s2)
theorem c_blind_pv (w : World) (mean : ExcName → Option Value) (mg mb : Str → Option Value) {x dx : Nat} {S : KeyS} {bf bi y : Int} {t1 t2 ty : Tok} (hne : @Ne Nat x dx) (hk : KOk S) (hb : BfOk S bf bi) (hy : Bd 1240 y) :
    Ctr PySem.Challenge.rw_ys0001_09.row.prog w (Mine.K w.params) Mine.V (looseW Mine.V [Str.ofString "NotRelativePrimeError", Str.ofString "int2bytes", Str.ofString "HASH_ASN1"]) mean mg mb 156 26 160 [.ref x, .int y ty] (KeyL w 229 x dx S bf t1 bi t2)
      (PBli_pv w x dx S y) := by
  k_with "m:call ref" => ((k_here; (with_reducible show wpAny _ _ (call (Value.ref 163) _) _ _ _); refine hold ?_))
  k_with "m:call ref" => ((k_here; (with_reducible show wpAny _ _ (call (Value.ref 163) _) _ _ _); k_dflt ((refine Ctr.use (c_unblind_pv _ _ _ _ (by assumption) (by assumption) (by walk_at "m_bd") (by walk_at "m_bd")) (by k_asm) (by k_asm) (by k_asm) (by k_asm) (by k_asm) (by first | exact rfl | assumption) (by k_extra "m_pre") (by walk_at "m_rest") (by first | exact roomk (by assumption) (by decide) | exact roomk2 (by assumption) (by decide) | ktr_room) (by first | exact roomk (by assumption) (by decide) | exact roomk2 (by assumption) (by decide) | ktr_units) ?_)); rintro v9 l9 h9 tk9 ⟨r9, tr9, h9a, h9b, h9c⟩ hlo9 F9 N9; clear hlo9; (try dsimp only [List.cons_append, List.nil_append] at N9); k_sweep; (try k_fold)))
  have hkk := hk
  obtain ⟨hk0, hk1, hk2, hk3⟩ := hk
  w_top off
  k_fill
  intro dp un gd cn cs' a ccd cl outer A₀ base h₀ L m rest s Q E B F X N hdis T hk hd hu hret
  refine wpAny_call ?_
  have N0 := news_left N
  k_dflt refine' code_defR (binds := [(Str.ofString "self", .ref x), (Str.ofString "message", .int y ty)]) ?k1 ?k2 ?k3 ?k4 ?k5 ?kA ?kF ?kK ?k6 ?k7 ?k8 ?k9 ?kB ?_ ?c2 ?c3 ?c4 ?c5
  k_dflt k_extra "m_enter"
  intro g' L' h' FG F' N' B' X' T' kept small
  (try dsimp only)
  (try k_extra "m_letA")
  (try k_fold)
  have hr := rest_kept N hdis kept
  k_steps
  (rename Fr g' _ _ _ => fr8); (rename News g' _ _ _ => ne8); exact m_ret hret fr8 ne8 (by assumption) (by assumption) hr N (by k_extra "m_pre") ⟨_, _, _, _, _, _, _, neN (by lia), neN (by lia), by assumption, by assumption, BfOk.bd hkk (by assumption) (by assumption), (fmod_nn hk0).1, (fmod_nn hk0).2, blinded_dvd hk0⟩
inductive PBen (w : World) (x dx : Nat) (S : KeyS) (y : Int) : Value → List (Addr × Obj) → Prop
  | mk (b' : Int) (s1 : Tok) (i' : Int) (s2 tr : Tok) (h0 : BfOk S b' i') : PBen w x dx S y (.int (PM y S.d S.n) tr) (KeyL w 229 x dx S b' s1 i' s2)
theorem PBen.of {w : World} {x dx : Nat} {S : KeyS} {y z b' i' : Int} {s1 s2 tr : Tok} (h : z = PM y S.d S.n) (h0 : BfOk S b' i') : PBen w x dx S y (.int z tr) (KeyL w 229 x dx S b' s1 i' s2) := h ▸ .mk _ _ _ _ _ h0
theorem c_benc (w : World) (mean : ExcName → Option Value) (mg mb : Str → Option Value) {x dx : Nat} {S : KeyS} {bf bi y : Int} {t1 t2 ty : Tok} (hne : @Ne Nat x dx) (hk : KRsa S) (hb : BfOk S bf bi) (hy : Bd 1240 y) :
    Ctr PySem.Challenge.rw_ys0001_09.row.prog w (Mine.K w.params) Mine.V (looseW Mine.V [Str.ofString "NotRelativePrimeError", Str.ofString "int2bytes", Str.ofString "HASH_ASN1"]) mean mg mb 226 32 200 [.ref x, .int y ty] (KeyL w 229 x dx S bf t1 bi t2)
      (PBen w x dx S y) := by
  k_with "m:call ref" => ((k_here; (with_reducible show wpAny _ _ (call (Value.ref 156) _) _ _ _); refine hold ?_))
  k_with "m:call ref" => ((k_here; (with_reducible show wpAny _ _ (call (Value.ref 156) _) _ _ _); k_dflt ((refine Ctr.use (c_blind_pv _ _ _ _ (by assumption) (by assumption) (by assumption) (by walk_at "m_bd")) (by k_asm) (by k_asm) (by k_asm) (by k_asm) (by k_asm) (by first | exact rfl | assumption) (by k_extra "m_pre") (by walk_at "m_rest") (by first | exact roomk (by assumption) (by decide) | exact roomk2 (by assumption) (by decide) | ktr_room) (by first | exact roomk (by assumption) (by decide) | exact roomk2 (by assumption) (by decide) | ktr_units) ?_)); rintro v9 l9 h9 tk9 ⟨tp9, b9, s9, i9, t9, r9, u9, h9n, h9m, h9a, h9b, h9f, h9c, h9d, h9e⟩ hlo9 F9 N9; clear hlo9; (try dsimp only [List.cons_append, List.nil_append] at N9); k_sweep; (try k_fold)))
  have hkk := hk.ok
  obtain ⟨hk0, hk1, hk2, hk3⟩ := hk.ok
  have d0 := hk.d0
  w_top off
  k_fill
  intro dp un gd cn cs' a ccd cl outer A₀ base h₀ L m rest s Q E B F X N hdis T hkf hd hu hret
  refine wpAny_call ?_
  have N0 := news_left N
  k_dflt refine' code_defR (binds := [(Str.ofString "self", .ref x), (Str.ofString "message", .int y ty)]) ?k1 ?k2 ?k3 ?k4 ?k5 ?kA ?kF ?kK ?k6 ?k7 ?k8 ?k9 ?kB ?_ ?c2 ?c3 ?c4 ?c5
  k_dflt k_extra "m_enter"
  intro g' L' h' FG F' N' B' X' T' kept small
  (try dsimp only)
  (try k_extra "m_letA")
  (try k_fold)
  have hr := rest_kept N hdis kept
  k_steps
  · rename S.n ∣ _ - _ * PM _ _ _ => hu9
    (rename Fr g' _ _ _ => fr8); (rename News g' _ _ _ => ne8); exact m_ret hret fr8 ne8 (by assumption) (by assumption) hr N (by k_extra "m_pre") (PBen.of (hk.benc (by assumption) (by assumption) (by assumption) (by assumption) (by assumption) hu9) (by assumption))
section
local macro_rules | `(tactic| walk_at "call ref") => `(tactic| (k_here; (with_reducible show wpAny _ _ (call (Value.ref 149) _) _ _ _); k_dflt (walk_at "m_inline")))
local macro_rules | `(tactic| ktr_units) => `(tactic| (have hcL9 := cLine_is; (simp only [units_under_make, units_in1, units_deeper, Around.mark_units, units_caller]); (try dsimp only [ktrTop]); lia))
inductive PMkv (w : World) (n e d p q : Int) : Value → List (Addr × Obj) → Prop
  | mk (x dx : Nat) (S : KeyS) (bf : Int) (tb : Tok) (bi : Int) (ti : Tok) (hne : @Ne Nat x dx) (hb : bf < 0) (hn : S.n = n) (he : S.e = e) (hd : S.d = d) (hp : S.p = p) (hq : S.q = q) (h1 : S.x1 = d.fmod (p - 1)) (h2 : S.x2 = d.fmod (q - 1)) (h3 : 0 ≤ S.cf) (h4 : S.cf ≤ p) (h5 : p ∣ S.cf * q - 1) : PMkv w n e d p q (.ref x) (KeyL w 229 x dx S bf tb bi ti)
theorem c_mkpv (w : World) (mean : ExcName → Option Value) (mg mb : Str → Option Value) {n e d p q : Int} {t1 t2 t3 t4 t5 : Tok} (hp : PrOk p) (hq : PrOk q) (hd : 0 ≤ d) (hdB : Bd 1230 d) (hg : Int.gcd q p = 1) :
    Ctr PySem.Challenge.rw_ys0001_09.row.prog w (Mine.K w.params) Mine.V (looseW Mine.V [Str.ofString "NotRelativePrimeError", Str.ofString "int2bytes", Str.ofString "HASH_ASN1"]) mean mg mb 229 20 160 [.int n t1, .int e t2, .int d t3, .int p t4, .int q t5] []
      (PMkv w n e d p q) := by
  k_with "m:call ref" => ((k_here; (with_reducible show wpAny _ _ (call (Value.ref 226) _) _ _ _); refine hold ?_))
  k_with "m:call ref" => ((k_here; (with_reducible show wpAny _ _ (call (Value.ref 226) _) _ _ _); k_dflt ((refine Ctr.use (c_benc _ _ _ _ (by assumption) (by assumption) (by assumption) (by walk_at "m_bd")) (by k_asm) (by k_asm) (by k_asm) (by k_asm) (by k_asm) (by first | exact rfl | assumption) (by k_extra "m_pre") (by walk_at "m_rest") (by first | exact roomk (by assumption) (by decide) | exact roomk2 (by assumption) (by decide) | ktr_room) (by first | exact roomk (by assumption) (by decide) | exact roomk2 (by assumption) (by decide) | ktr_units) ?_)); rintro v9 l9 h9 tk9 ⟨b9, s9, i9, t9, u9, h9a⟩ hlo9 F9 N9; clear hlo9; (try dsimp only [List.cons_append, List.nil_append] at N9); k_sweep; (try k_fold)))
  obtain ⟨hp3, hpB, -⟩ := hp
  obtain ⟨hq3, hqB, -⟩ := hq
  w_top off
  k_fill
  intro dp un gd cn cs' a ccd cl outer A₀ base h₀ L m rest s Q E B F X N hdis T hk hdd hu hret
  k_dflt refine' call_cls F X N ?h1 ?h2 ?h3 ?_
  case h1 => k_dflt k_is
  case h2 => k_dflt k_is
  case h3 => k_dflt k_is
  intro x dx h1 F1 N1 l1 l2
  have l2' := ltN l2
  have N2 : News h₀ L h1 ([(x, instObj 229 dx), (dx, dictOf [] 0)] ++ rest) := N1
  have hdis2 : ∀ q ∈ rest, ∀ r ∈ [(x, instObj 229 dx), (dx, dictOf [] 0)], q.1 ≠ r.1 := by
    intro q9 hq9 r9 hr9
    have h3 := ltN (l1 q9 hq9)
    simp only [List.mem_cons, List.not_mem_nil, or_false] at hr9
    rcases hr9 with rfl | rfl <;> (refine neN ?_; dsimp only; lia)
  have hne : @Ne Nat x dx := neN (by lia)
  have N0 := news_left N2
  k_dflt refine' code_defR (binds := [(Str.ofString "self", .ref x), (Str.ofString "n", .int n t1), (Str.ofString "e", .int e t2), (Str.ofString "d", .int d t3), (Str.ofString "p", .int p t4), (Str.ofString "q", .int q t5)]) B F1 X N0 T ?kA ?kF ?kK ?k6 ?k7 ?k8 ?k9 ?kB ?_ ?c2 ?c3 ?c4 ?c5
  k_dflt k_extra "m_enter2"
  intro g' L' h' FG F' N' B' X' T' kept small
  (try dsimp only)
  (try k_extra "m_letA")
  (try k_fold)
  have hr := rest_kept N2 hdis2 kept
  k_steps
  (rename Fr g' _ _ _ => fr8); (rename News g' _ _ _ => ne8); exact m_ret hret fr8 ne8 (by assumption) (by assumption) hr N (by k_extra "m_pre") ⟨x, dx, ⟨n, e, d, p, q, _, _, _, _, _, _, _, _, _, _, _, _, _, _, _, _, _, _, _, _, _⟩, _, _, _, _, hne, by decide, rfl, rfl, rfl, rfl, rfl, rfl, rfl, by assumption, by assumption, by assumption⟩
end
inductive PCell : Value → List (Addr × Obj) → Prop
  | mk (r : Int) (tr : Tok) (h0 : 0 ≤ r) (hB : Bd 1048577 r) : PCell (.int r tr) []
theorem c_lcell (w : World) (mean : ExcName → Option Value) (mg mb : Str → Option Value) {sc : Nat} {vs : List Value} {ns : List Int} {k : Int} {tk0 : Tok} (hS : Scr vs ns) (hk0 : 0 ≤ k) (hk1 : k < 1000) :
    CtrB PySem.Challenge.rw_ys0001_09.row.prog w (Mine.K w.params) Mine.V (looseW Mine.V [Str.ofString "NotRelativePrimeError", Str.ofString "int2bytes", Str.ofString "HASH_ASN1"]) mean mg mb 238 5 20 [.ref sc, .int k tk0] [] (fun base => base.IsList sc vs.toArray)
      PCell := by
  k_with "m:call ref" => ((k_here; (with_reducible show wpAny _ _ (call (Value.ref 229) _) _ _ _); refine hold ?_))
  k_with "m:call ref" => ((k_here; (with_reducible show wpAny _ _ (call (Value.ref 229) _) _ _ _); k_dflt ((refine Ctr.use (c_mkpv _ _ _ _ ?_ ?_ ?_ ?_ ?_) (by k_asm) (by k_asm) (by k_asm) (by k_asm) (by k_asm) (by first | exact rfl | assumption) (by k_extra "m_pre") (by walk_at "m_rest") (by first | exact roomk (by assumption) (by decide) | exact roomk2 (by assumption) (by decide) | ktr_room) (by first | exact roomk (by assumption) (by decide) | exact roomk2 (by assumption) (by decide) | ktr_units) ?_); (assumption); (assumption); (walk_at "m_fact"); (walk_at "m_bd"); (assumption)); rintro v9 l9 h9 tk9 ⟨x9, dx9, S9, bf9, tb9, bi9, ti9, hne9, hbf9, hSn, hSe, hSd, hSp, hSq, hS1, hS2, hSc0, hSc1, hSc2⟩ hlo9 F9 N9; replace hlo9 := sepL_of hlo9; (try dsimp only [sepL, sepR, StL, KeyL, PubL] at hlo9); k_dflt (have hK9 : KRsa S9 := KRsa.made (by assumption) (by assumption) (by assumption) (by lia) (by walk_at "m_bd") (by assumption) (by assumption) (by assumption) hSn hSe hSd hSp hSq hS1 hS2 hSc0 hSc1 hSc2); k_dflt (have hB9 : BfOk S9 bf9 bi9 := Or.inl hbf9); (obtain ⟨n8, e8, d8, p8, q8, x18, x28, cf8, tn8, te8, td8, tp8, tq8, tx18, tx28, tcf8, k18, k28, k38, k48, k58, k68, k78, k88, k98, k108⟩ := S9); (dsimp only at hSn hSe hSd hSp hSq hS1 hS2 hSc0 hSc1 hSc2); subst hSn; subst hSe; subst hSd; subst hSp; subst hSq; subst hS1; subst hS2; (try dsimp only [List.cons_append, List.nil_append] at N9); k_sweep; (try k_fold)))
  have hI := hS.i
  have hn := hS.n
  have hcb := hS.cell k.toNat
  w_top off
  k_fill
  intro dp un gd cn cs' a ccd cl outer A₀ base h₀ L m rest s Q E B hL0 F X N hdis T hk hd hu hret
  refine wpAny_call ?_
  have N0 := news_left N
  k_dflt refine' code_defR (binds := [(Str.ofString "script", .ref sc), (Str.ofString "k", .int k tk0)]) ?k1 ?k2 ?k3 ?k4 ?k5 ?kA ?kF ?kK ?k6 ?k7 ?k8 ?k9 ?kB ?_ ?c2 ?c3 ?c4 ?c5
  k_dflt k_extra "m_enter"
  intro g' L' h' FG F' N' B' X' T' kept small
  have hL1 := stays_list B'.stays hL0
  (try dsimp only)
  (try k_extra "m_letA")
  (try k_fold)
  have hr := rest_kept N hdis kept
  k_steps
  · (rename Fr g' _ _ _ => fr8); (rename News g' _ _ _ => ne8); exact m_ret hret fr8 ne8 (by assumption) (by assumption) hr N (by k_extra "m_pre") ⟨_, _, by split <;> lia, bd_abs hcb⟩
  · (rename Fr g' _ _ _ => fr8); (rename News g' _ _ _ => ne8); exact m_ret hret fr8 ne8 (by assumption) (by assumption) hr N (by k_extra "m_pre") ⟨_, _, by lia, Bd.small (by lia) (by decide)⟩
theorem c_lcom (w : World) (mean : ExcName → Option Value) (mg mb : Str → Option Value) {one two : Int} {t1 t2 : Tok} (h1 : 0 ≤ one) (h2 : 0 ≤ two) (h3 : Bd 2490 one) (h4 : Bd 2490 two) :
    Ctr PySem.Challenge.rw_ys0001_09.row.prog w (Mine.K w.params) Mine.V (looseW Mine.V [Str.ofString "NotRelativePrimeError", Str.ofString "int2bytes", Str.ofString "HASH_ASN1"]) mean mg mb 252 5 20 [.int one t1, .int two t2] []
      (PInt (Int.gcd one two) []) := by
  k_with "m:call ref" => ((k_here; (with_reducible show wpAny _ _ (call (Value.ref 238) _) _ _ _); refine hold ?_))
  k_with "m:call ref" => ((k_here; (with_reducible show wpAny _ _ (call (Value.ref 238) _) _ _ _); k_dflt ((refine CtrB.use (c_lcell _ _ _ _ (by assumption) ?_ ?_) (by k_asm) (by assumption) (by k_asm) (by k_asm) (by k_asm) (by k_asm) (by first | exact rfl | assumption) (by k_extra "m_pre") (by walk_at "m_rest") (by first | exact roomk (by assumption) (by decide) | exact roomk2 (by assumption) (by decide) | ktr_room) (by first | exact roomk (by assumption) (by decide) | exact roomk2 (by assumption) (by decide) | ktr_units) ?_); (first | decide | lia); (first | decide | lia)); rintro v9 l9 h9 tk9 ⟨r9, tr9, hr0, hrB⟩ hlo9 F9 N9; clear hlo9; (try dsimp only [List.nil_append] at N9); k_sweep; (try k_fold)))
  w_top off
  k_fill
  intro dp un gd cn cs' a ccd cl outer A₀ base h₀ L m rest s Q E B F X N hdis T hk hd hu hret
  refine wpAny_call ?_
  have N0 := news_left N
  k_dflt refine' code_defR (binds := [(Str.ofString "one", .int one t1), (Str.ofString "two", .int two t2)]) ?k1 ?k2 ?k3 ?k4 ?k5 ?kA ?kF ?kK ?k6 ?k7 ?k8 ?k9 ?kB ?_ ?c2 ?c3 ?c4 ?c5
  k_dflt k_extra "m_enter"
  intro g' L' h' FG F' N' B' X' T' kept small
  (try dsimp only)
  (try k_extra "m_letA")
  (try k_fold)
  have hr := rest_kept N hdis kept
  k_steps
  unfold Hold
  (try k_gentoks)
  rename IsRange _ _ _ _ _ _ _ _ => hrng
  rename Fr _ _ _ _ => fr1
  rename News _ _ _ _ => ne1
  k_dflt refine m_range (σ := Int × Tok × Int × Tok) (n := 5000) (fun _ => []) (fun c => [(Str.ofString "one", .int c.1 c.2.1), (Str.ofString "two", .int c.2.2.1 c.2.2.2)]) (fun _ => True) [Str.ofString "one", Str.ofString "two"]
    (fun i c => GInv 5000 (Int.gcd one two) i c.1 c.2.2.1) (fun c => c.1 = (Int.gcd one two : Int)) (one, t1, two, t2) rfl hrng (by decide) (by rfl) fr1 ne1 ?_ trivial ?_ ?_ ?_ ?_ ?_
  · exact List.forall_mem_nil _
  · kst_all
  · exact GInv.startB h1 h2 h3 h4
  · rintro ⟨a, ta, b, tb⟩ hp
    have := hp.last (by decide)
    dsimp only at this hp ⊢
    subst this
    exact hp.out
  · clear fr1 ne1
    rintro ⟨a, ta, b, tb⟩ i k t u h tk own hk' hi hoff - hp fr1 ne1
    dsimp only at hp fr1 ne1 ⊢
    (try k_fold)
    k_steps
    · rename _ = _ => hb0
      (try dsimp only at hb0)
      subst hb0
      dsimp only [MPost]
      rename Fr _ _ _ _ => fr2
      rename News _ _ _ _ => ne2
      with_unfolding_all exact m_end (_, _, _, _) fr2 ne2 (List.forall_mem_nil _) (by intro p hp; kst_mem) rfl trivial (List.forall_mem_cons.mpr ⟨rfl, List.forall_mem_cons.mpr ⟨rfl, List.forall_mem_nil _⟩⟩) (by intro z h1 h2 h3; simp only [List.forall_mem_cons, List.not_mem_nil, false_implies, implies_true, and_true, ne_eq] at h2; simp [kstB, h1, h2]) (hp.out)
    · rename _ ≠ _ => hb0
      dsimp only [MPost]
      rename Fr _ _ _ _ => fr2
      rename News _ _ _ _ => ne2
      with_unfolding_all exact m_end (_, _, _, _) fr2 ne2 (List.forall_mem_nil _) (by intro p hp; kst_mem) rfl trivial (List.forall_mem_cons.mpr ⟨rfl, List.forall_mem_cons.mpr ⟨rfl, List.forall_mem_nil _⟩⟩) (by intro z h1 h2 h3; simp only [List.forall_mem_cons, List.not_mem_nil, false_implies, implies_true, and_true, ne_eq] at h2; simp [kstB, h1, h2]) (hp.step hb0)
  · clear fr1 ne1
    rintro ⟨a, ta, b, tb⟩ u h tk - hp fr1 ne1
    dsimp only at hp fr1 ne1 ⊢
    replace fr1 : Fr g' L' h _ := fr1
    replace ne1 : News g' L' h _ := ne1
    k_sweep
    k_steps
    subst hp
    (rename Fr g' _ _ _ => fr8); (rename News g' _ _ _ => ne8); exact m_ret hret fr8 ne8 (by assumption) (by assumption) hr N (by k_extra "m_pre") ⟨_⟩
section
local macro_rules | `(tactic| walk_at "binaryOp Mult int int") => `(tactic| first | (refine mul_int ?_ (LI.ok (by assumption) (by assumption) (by assumption)).1) | (refine mul_int ?_ (LI.ok (by assumption) (by assumption) (by assumption)).2))
inductive PLin (num n : Int) : Value → List (Addr × Obj) → Prop
  | mk (r : Int) (tr : Tok) (h0 : 0 ≤ r) (h1 : r < n) (h2 : n ∣ r * num - 1) : PLin num n (.int r tr) []
theorem c_lin (w : World) (mean : ExcName → Option Value) (mg mb : Str → Option Value) {num n : Int} {t1 t2 : Tok} (hn : 0 < n) (hB : Bd 2480 n) (hg : Int.gcd num n = 1) :
    Ctr PySem.Challenge.rw_ys0001_09.row.prog w (Mine.K w.params) Mine.V (looseW Mine.V [Str.ofString "NotRelativePrimeError", Str.ofString "int2bytes", Str.ofString "HASH_ASN1"]) mean mg mb 259 9 80 [.int num t1, .int n t2] []
      (PLin num n) := by
  k_with "m:call ref" => ((k_here; (with_reducible show wpAny _ _ (call (Value.ref 252) _) _ _ _); refine hold ?_))
  k_with "m:call ref" => ((k_here; (with_reducible show wpAny _ _ (call (Value.ref 252) _) _ _ _); k_dflt ((refine Ctr.use (c_lcom _ _ _ _ ?_ ?_ ?_ ?_) (by k_asm) (by k_asm) (by k_asm) (by k_asm) (by k_asm) (by first | exact rfl | assumption) (by k_extra "m_pre") (by walk_at "m_rest") (by first | exact roomk (by assumption) (by decide) | exact roomk2 (by assumption) (by decide) | ktr_room) (by first | exact roomk (by assumption) (by decide) | exact roomk2 (by assumption) (by decide) | ktr_units) ?_); (walk_at "m_fact"); (walk_at "m_fact"); (walk_at "m_bd"); (walk_at "m_bd")); rintro v9 l9 h9 tk9 ⟨tr9⟩ hlo9 F9 N9; clear hlo9; (try dsimp only [List.nil_append] at N9); k_sweep; (try k_fold)))
  w_top off
  k_fill
  intro dp un gd cn cs' a ccd cl outer A₀ base h₀ L m rest s Q E B F X N hdis T hk hd hu hret
  refine wpAny_call ?_
  have N0 := news_left N
  k_dflt refine' code_defR (binds := [(Str.ofString "one", .int num t1), (Str.ofString "whole", .int n t2)]) ?k1 ?k2 ?k3 ?k4 ?k5 ?kA ?kF ?kK ?k6 ?k7 ?k8 ?k9 ?kB ?_ ?c2 ?c3 ?c4 ?c5
  k_dflt k_extra "m_enter"
  intro g' L' h' FG F' N' B' X' T' kept small
  (try dsimp only)
  (try k_extra "m_letA")
  (try k_fold)
  have hr := rest_kept N hdis kept
  k_steps
  unfold Hold
  (try k_gentoks)
  rename IsRange _ _ _ _ _ _ _ _ => hrng
  rename Fr _ _ _ _ => fr1
  rename News _ _ _ _ => ne1
  with_unfolding_all refine m_range (σ := Int × Tok × Int × Tok × Int × Tok × Int × Tok) (n := 5000) (fun _ => []) (fun c => [(Str.ofString "old", .int c.1 c.2.1), (Str.ofString "new", .int c.2.2.1 c.2.2.2.1), (Str.ofString "first", .int c.2.2.2.2.1 c.2.2.2.2.2.1), (Str.ofString "second", .int c.2.2.2.2.2.2.1 c.2.2.2.2.2.2.2)]) (fun _ => True) [Str.ofString "old", Str.ofString "new", Str.ofString "first", Str.ofString "second", Str.ofString "times"] (fun i c => LI num n i c.1 c.2.2.2.2.1 c.2.2.1 c.2.2.2.2.2.2.1) (fun c => ∃ i, LI num n i c.1 c.2.2.2.2.1 0 c.2.2.2.2.2.2.1) (n, _, num.fmod n, _, 0, _, 1, _) rfl hrng (by decide) (by rfl) fr1 ne1 (List.forall_mem_nil _) trivial (List.forall_mem_cons.mpr ⟨rfl, List.forall_mem_cons.mpr ⟨rfl, List.forall_mem_cons.mpr ⟨rfl, List.forall_mem_cons.mpr ⟨rfl, List.forall_mem_nil _⟩⟩⟩⟩) (LI.start hn hB hg) ?_ ?_ ?_
  · rintro ⟨a, ta, b, tb, x, tx, y, ty⟩ hp
    dsimp only at hp ⊢
    have e := hp.g.last (by decide)
    subst e
    exact ⟨_, hp⟩
  · clear fr1 ne1
    rintro ⟨a, ta, b, tb, x, tx, y, ty⟩ i k t u h tk own hk' hi hoff - hp fr1 ne1
    dsimp only at hp fr1 ne1 ⊢
    have hlg := hp.lg
    (try k_fold)
    k_steps
    · rename b = 0 => hb0
      subst hb0
      dsimp only [MPost]
      rename Fr _ _ _ _ => fr2
      rename News _ _ _ _ => ne2
      with_unfolding_all exact m_end (_, _, _, _, _, _, _, _) fr2 ne2 (List.forall_mem_nil _) (by intro p hp; kst_mem) rfl trivial (List.forall_mem_cons.mpr ⟨rfl, List.forall_mem_cons.mpr ⟨rfl, List.forall_mem_cons.mpr ⟨rfl, List.forall_mem_cons.mpr ⟨rfl, List.forall_mem_nil _⟩⟩⟩⟩) (by k_extra "m_same3") ⟨i, hp⟩
    · rename b ≠ 0 => hb0
      dsimp only [MPost]
      rename Fr _ _ _ _ => fr2
      rename News _ _ _ _ => ne2
      with_unfolding_all exact m_end (_, _, _, _, _, _, _, _) fr2 ne2 (List.forall_mem_nil _) (by intro p hp; kst_mem) rfl trivial (List.forall_mem_cons.mpr ⟨rfl, List.forall_mem_cons.mpr ⟨rfl, List.forall_mem_cons.mpr ⟨rfl, List.forall_mem_cons.mpr ⟨rfl, List.forall_mem_nil _⟩⟩⟩⟩) (by k_extra "m_same3") (hp.step hb0)
  · clear fr1 ne1
    rintro ⟨a, ta, b, tb, x, tx, y, ty⟩ u h tk - ⟨i, hp⟩ fr1 ne1
    dsimp only at hp fr1 ne1 ⊢
    replace fr1 : Fr g' L' h _ := fr1
    replace ne1 : News g' L' h _ := ne1
    k_sweep
    k_steps
    (rename Fr g' _ _ _ => fr8); (rename News g' _ _ _ => ne8); exact m_ret hret fr8 ne8 (by assumption) (by assumption) hr N (by k_extra "m_pre") ⟨_, _, (hp.done hn).1, (hp.done hn).2.1, (hp.done hn).2.2⟩
end
theorem c_lsize (w : World) (mean : ExcName → Option Value) (mg mb : Str → Option Value) {n : Int} {t1 : Tok} (hn : Bd 1240 n) :
    Ctr PySem.Challenge.rw_ys0001_09.row.prog w (Mine.K w.params) Mine.V (looseW Mine.V [Str.ofString "NotRelativePrimeError", Str.ofString "int2bytes", Str.ofString "HASH_ASN1"]) mean mg mb 266 5 20 [.int n t1] []
      (PInt (szI n) []) := by
  k_with "m:call ref" => ((k_here; (with_reducible show wpAny _ _ (call (Value.ref 259) _) _ _ _); refine hold ?_))
  k_with "m:call ref" => ((k_here; (with_reducible show wpAny _ _ (call (Value.ref 259) _) _ _ _); k_dflt ((refine Ctr.use (c_lin _ _ _ _ ?_ ?_ ?_) (by k_asm) (by k_asm) (by k_asm) (by k_asm) (by k_asm) (by first | exact rfl | assumption) (by k_extra "m_pre") (by walk_at "m_rest") (by first | exact roomk (by assumption) (by decide) | exact roomk2 (by assumption) (by decide) | ktr_room) (by first | exact roomk (by assumption) (by decide) | exact roomk2 (by assumption) (by decide) | ktr_units) ?_); (walk_at "m_fact"); (walk_at "m_bd"); (assumption)); rintro v9 l9 h9 tk9 ⟨r9, tr9, hd0, hd1, hd2⟩ hlo9 F9 N9; clear hlo9; (try dsimp only [List.nil_append] at N9); k_sweep; (try k_fold)))
  w_top off
  k_fill
  intro dp un gd cn cs' a ccd cl outer A₀ base h₀ L m rest s Q E B F X N hdis T hk hd hu hret
  refine wpAny_call ?_
  have N0 := news_left N
  k_dflt refine' code_defR (binds := [(Str.ofString "n", .int n t1)]) ?k1 ?k2 ?k3 ?k4 ?k5 ?kA ?kF ?kK ?k6 ?k7 ?k8 ?k9 ?kB ?_ ?c2 ?c3 ?c4 ?c5
  k_dflt k_extra "m_enter"
  intro g' L' h' FG F' N' B' X' T' kept small
  (try dsimp only)
  (try k_extra "m_letA")
  (try k_fold)
  have hr := rest_kept N hdis kept
  k_steps
  (rename Fr g' _ _ _ => fr8); (rename News g' _ _ _ => ne8); exact m_ret hret fr8 ne8 (by assumption) (by assumption) hr N (by k_extra "m_pre") ⟨_⟩
section
local macro_rules | `(tactic| walk_at "call ref") => `(tactic| (k_here; (with_reducible show wpAny _ _ (call (Value.ref 49) _) _ _ _); k_dflt (walk_at "m_inline")))
local macro_rules | `(tactic| walk_at "call ref") => `(tactic| (k_here; (with_reducible show wpAny _ _ (call (Value.ref 63) _) _ _ _); k_dflt (walk_at "m_inline")))
theorem c_bsize (w : World) (mean : ExcName → Option Value) (mg mb : Str → Option Value) {n : Int} {t1 : Tok} (hn : Bd 1240 n) (h0 : 0 < n) :
    Ctr PySem.Challenge.rw_ys0001_09.row.prog w (Mine.K w.params) Mine.V (looseW Mine.V [Str.ofString "NotRelativePrimeError", Str.ofString "int2bytes", Str.ofString "HASH_ASN1"]) mean mg mb 56 9 40 [.int n t1] []
      (PInt (szI n) []) := by
  k_with "m:call ref" => ((k_here; (with_reducible show wpAny _ _ (call (Value.ref 266) _) _ _ _); refine hold ?_))
  k_with "m:call ref" => ((k_here; (with_reducible show wpAny _ _ (call (Value.ref 266) _) _ _ _); k_dflt ((refine Ctr.use (c_lsize _ _ _ _ ?_) (by k_asm) (by k_asm) (by k_asm) (by k_asm) (by k_asm) (by first | exact rfl | assumption) (by k_extra "m_pre") (by walk_at "m_rest") (by first | exact roomk (by assumption) (by decide) | exact roomk2 (by assumption) (by decide) | ktr_room) (by first | exact roomk (by assumption) (by decide) | exact roomk2 (by assumption) (by decide) | ktr_units) ?_); (walk_at "m_bd")); rintro v9 l9 h9 tk9 ⟨tr9⟩ hlo9 F9 N9; clear hlo9; (try dsimp only [List.nil_append] at N9); k_sweep; (try k_fold)))
  w_top off
  k_fill
  intro dp un gd cn cs' a ccd cl outer A₀ base h₀ L m rest s Q E B F X N hdis T hk hd hu hret
  refine wpAny_call ?_
  have N0 := news_left N
  k_dflt refine' code_defR (binds := [(Str.ofString "number", .int n t1)]) ?k1 ?k2 ?k3 ?k4 ?k5 ?kA ?kF ?kK ?k6 ?k7 ?k8 ?k9 ?kB ?_ ?c2 ?c3 ?c4 ?c5
  k_dflt k_extra "m_enter"
  intro g' L' h' FG F' N' B' X' T' kept small
  (try dsimp only)
  (try k_extra "m_letA")
  (try k_fold)
  have hr := rest_kept N hdis kept
  k_steps
  · lia
  · (rename Fr g' _ _ _ => fr8); (rename News g' _ _ _ => ne8); exact m_ret hret fr8 ne8 (by assumption) (by assumption) hr N (by k_extra "m_pre") (PInt.of (szI_up (by assumption)))
  · (rename Fr g' _ _ _ => fr8); (rename News g' _ _ _ => ne8); exact m_ret hret fr8 ne8 (by assumption) (by assumption) hr N (by k_extra "m_pre") (PInt.of (szI_even (by assumption)))
end
section
local macro_rules | `(tactic| walk_at "call builtin:int.to_bytes") => `(tactic| (refine hold ?_))
theorem c_i2b (w : World) (mean : ExcName → Option Value) (mg mb : Str → Option Value) {x k : Int} {t1 t2 : Tok} (h0 : 0 ≤ x) (hk0 : 0 < k) (hk1 : k ≤ 10000) (hx : x < 256 ^ k.toNat) :
    Ctr PySem.Challenge.rw_ys0001_09.row.prog w (Mine.K w.params) Mine.V (looseW Mine.V [Str.ofString "NotRelativePrimeError", Str.ofString "int2bytes", Str.ofString "HASH_ASN1"]) mean mg mb 106 5 40 [.int x t1, .int k t2] []
      (PByt (KTBy.little k.toNat x).reverse []) := by
  k_with "m:call ref" => ((k_here; (with_reducible show wpAny _ _ (call (Value.ref 56) _) _ _ _); refine hold ?_))
  k_with "m:call ref" => ((k_here; (with_reducible show wpAny _ _ (call (Value.ref 56) _) _ _ _); k_dflt ((refine Ctr.use (c_bsize _ _ _ _ ?_ ?_) (by k_asm) (by k_asm) (by k_asm) (by k_asm) (by k_asm) (by first | exact rfl | assumption) (by k_extra "m_pre") (by walk_at "m_rest") (by first | exact roomk (by assumption) (by decide) | exact roomk2 (by assumption) (by decide) | ktr_room) (by first | exact roomk (by assumption) (by decide) | exact roomk2 (by assumption) (by decide) | ktr_units) ?_); (walk_at "m_bd"); (walk_at "m_fact")); rintro v9 l9 h9 tk9 ⟨tr9⟩ hlo9 F9 N9; clear hlo9; (try dsimp only [List.nil_append] at N9); k_sweep; (try k_fold)))
  w_top off
  k_fill
  intro dp un gd cn cs' a ccd cl outer A₀ base h₀ L m rest s Q E B F X N hdis T hk hd hu hret
  refine wpAny_call ?_
  have N0 := news_left N
  k_dflt refine' code_defR (binds := [(Str.ofString "number", .int x t1), (Str.ofString "fill_size", .int k t2)]) ?k1 ?k2 ?k3 ?k4 ?k5 ?kA ?kF ?kK ?k6 ?k7 ?k8 ?k9 ?kB ?_ ?c2 ?c3 ?c4 ?c5
  k_dflt ((case kA => exact rfl); (case kF => exact rfl); (case kK => assumption); (case k1 => k_asm); (case k2 => k_asm); (case k3 => k_asm); (case k4 => k_asm); (case k5 => k_asm); (case k6 => k_is); (case k7 => k_is); (case k8 => ktr_room); (case k9 => exact binds_K (by k_in) rfl (by k_is) rfl rfl rfl); (case c5 => decide); (case kB => exact locs rfl); (case c2 => exact rfl); (case c3 => exact rfl); (case c4 => exact rfl); k_whole)
  intro g' L' h' FG F' N' B' X' T' kept small
  (try dsimp only)
  (try k_extra "m_letA")
  (try k_fold)
  have hr := rest_kept N hdis kept
  k_steps
  unfold Hold
  refine to_octets (k := k.toNat) (by lia) (by lia) h0 hx ?_
  intro b9 t9 n9 hb9
  k_steps
  (rename Fr g' _ _ _ => fr8); (rename News g' _ _ _ => ne8); exact m_ret hret fr8 ne8 (by assumption) (by assumption) hr N (by k_extra "m_pre") ⟨_, _, hb9⟩
end
section
local macro_rules | `(tactic| walk_at "callWith ref") => `(tactic| (k_here; (with_reducible show wpAny _ _ (callWith _ (Value.ref _) _ (backTo _ (starEach (_ :: _) _)) (backToKw _ _)) _ _ _); k_dflt (refine callWith_boundKw rfl ?_)))
local macro_rules | `(tactic| walk_at "call ref") => `(tactic| (refine hold ?_))
theorem c_b2i (w : World) (mean : ExcName → Option Value) (mg mb : Str → Option Value) {b : Array UInt8} {t1 : Tok} (hb : b.size ≤ 100000) :
    Ctr PySem.Challenge.rw_ys0001_09.row.prog w (Mine.K w.params) Mine.V (looseW Mine.V [Str.ofString "NotRelativePrimeError", Str.ofString "int2bytes", Str.ofString "HASH_ASN1"]) mean mg mb 98 5 40 [.bytes b t1] []
      (PInt (KFB.value (KBw.bInts b)) []) := by
  k_with "m:call ref" => ((k_here; (with_reducible show wpAny _ _ (call (Value.ref 106) _) _ _ _); refine hold ?_))
  k_with "m:call ref" => ((k_here; (with_reducible show wpAny _ _ (call (Value.ref 106) _) _ _ _); k_dflt ((refine Ctr.use (c_i2b _ _ _ _ ?_ ?_ ?_ ?_) (by k_asm) (by k_asm) (by k_asm) (by k_asm) (by k_asm) (by first | exact rfl | assumption) (by k_extra "m_pre") (by walk_at "m_rest") (by first | exact roomk (by assumption) (by decide) | exact roomk2 (by assumption) (by decide) | ktr_room) (by first | exact roomk (by assumption) (by decide) | exact roomk2 (by assumption) (by decide) | ktr_units) ?_); (walk_at "m_fact"); (walk_at "m_fact"); (walk_at "m_fact"); (walk_at "m_fact")); rintro v9 l9 h9 tk9 ⟨b9, tb9, hb9⟩ hlo9 F9 N9; clear hlo9; (try dsimp only [List.nil_append] at N9); k_sweep; (try k_fold)))
  w_top off
  k_fill
  intro dp un gd cn cs' a ccd cl outer A₀ base h₀ L m rest s Q E B F X N hdis T hk hd hu hret
  refine wpAny_call ?_
  have N0 := news_left N
  k_dflt refine' code_defR (binds := [(Str.ofString "raw_bytes", .bytes b t1)]) ?k1 ?k2 ?k3 ?k4 ?k5 ?kA ?kF ?kK ?k6 ?k7 ?k8 ?k9 ?kB ?_ ?c2 ?c3 ?c4 ?c5
  k_dflt k_extra "m_enter"
  intro g' L' h' FG F' N' B' X' T' kept small
  (try dsimp only)
  (try k_extra "m_letA")
  (try k_fold)
  have hr := rest_kept N hdis kept
  k_steps
  unfold Hold
  rename News _ _ _ _ => ne1
  show wpAny _ _ (call (Value.ref _) [.bytes b t1, .str (Str.ofString "big") _] [(Str.ofString "signed", .bool false)]) _ _ _
  refine from_octets ne1 (by k_mem) (Nat.le_trans hb (by decide)) ?_
  intro t9 n9
  k_steps
  (rename Fr g' _ _ _ => fr8); (rename News g' _ _ _ => ne8); exact m_ret hret fr8 ne8 (by assumption) (by assumption) hr N (by k_extra "m_pre") ⟨_⟩
end
section
local macro_rules | `(tactic| walk_at "binaryOp Mult int bytes") => `(tactic| (k_here; (refine ff_times ?_ ?_ ?_); (lia); (lia); intro _ _))
local macro_rules | `(tactic| walk_at "getMethod bytes") => `(tactic| (k_here; (refine join_method ?_)))
local macro_rules | `(tactic| walk_at "call builtin:bytes.join") => `(tactic| (refine hold ?_))
inductive PPad (ms : List Int) (k : Int) : Value → List (Addr × Obj) → Prop
  | mk (c : Array UInt8) (tb : Tok) (h : KBw.bInts c = [0, 1] ++ List.replicate (k - (ms.length : Int) - 3).toNat 255 ++ [0] ++ ms) (hz : (c.size : Int) = k) : PPad ms k (.bytes c tb) []
theorem c_pad (w : World) (mean : ExcName → Option Value) (mg mb : Str → Option Value) {b : Array UInt8} {ms : List Int} {k : Int} {t1 t2 : Tok} (hb : KBw.bInts b = ms) (hk0 : (ms.length : Int) ≤ k - 11) (hk1 : k ≤ 10000) :
    Ctr PySem.Challenge.rw_ys0001_09.row.prog w (Mine.K w.params) Mine.V (looseW Mine.V [Str.ofString "NotRelativePrimeError", Str.ofString "int2bytes", Str.ofString "HASH_ASN1"]) mean mg mb 114 5 40 [.bytes b t1, .int k t2] []
      (PPad ms k) := by
  k_with "m:call ref" => ((k_here; (with_reducible show wpAny _ _ (call (Value.ref 98) _) _ _ _); refine hold ?_))
  k_with "m:call ref" => ((k_here; (with_reducible show wpAny _ _ (call (Value.ref 98) _) _ _ _); k_dflt ((refine Ctr.use (c_b2i _ _ _ _ ?_) (by k_asm) (by k_asm) (by k_asm) (by k_asm) (by k_asm) (by first | exact rfl | assumption) (by k_extra "m_pre") (by walk_at "m_rest") (by first | exact roomk (by assumption) (by decide) | exact roomk2 (by assumption) (by decide) | ktr_room) (by first | exact roomk (by assumption) (by decide) | exact roomk2 (by assumption) (by decide) | ktr_units) ?_); (lia)); rintro v9 l9 h9 tk9 ⟨tr9⟩ hlo9 F9 N9; clear hlo9; (try dsimp only [List.nil_append] at N9); k_sweep; (try k_fold)))
  w_top off
  k_fill
  intro dp un gd cn cs' a ccd cl outer A₀ base h₀ L m rest s Q E B F X N hdis T hk hd hu hret
  refine wpAny_call ?_
  have N0 := news_left N
  k_dflt refine' code_defR (binds := [(Str.ofString "message", .bytes b t1), (Str.ofString "target_length", .int k t2)]) ?k1 ?k2 ?k3 ?k4 ?k5 ?kA ?kF ?kK ?k6 ?k7 ?k8 ?k9 ?kB ?_ ?c2 ?c3 ?c4 ?c5
  k_dflt k_extra "m_enter"
  intro g' L' h' FG F' N' B' X' T' kept small
  (try dsimp only)
  (try k_extra "m_letA")
  (try k_fold)
  have hr := rest_kept N hdis kept
  k_steps
  unfold Hold
  rename News _ _ _ _ => ne1
  have hls := News.isList ne1 (List.Mem.head _)
  refine join4 hls (pad_size hb (by lia)) ?_
  intro t9 n9
  k_steps
  (rename Fr g' _ _ _ => fr8); (rename News g' _ _ _ => ne8); exact m_ret hret fr8 ne8 (by assumption) (by assumption) hr N (by k_extra "m_pre") ⟨_, _, pad_ints hb, pad_total hb (by lia)⟩
end
noncomputable def tabRows (P : Params) : List (Str × Tok × Value) := strRows ((K P).lookup 107)
theorem tab_names : ∀ P : Params, (tabRows P).map (·.1) = hN := fun P => by kernel_rfl
theorem tab_codes : ∀ P : Params, (tabRows P).map (fun x => octs x.2.2) = hC := fun P => by kernel_rfl
theorem tab_bytes : ∀ P : Params, (tabRows P).all (fun x => isBy x.2.2) = true := fun P => by kernel_rfl
theorem tab_at : ∀ P : Params, (K P).lookup 107 = some { cls := .type "dict", data := .dict (strEs P (tabRows P)).toArray 9 } := fun P => by kernel_rfl
theorem c_tab {w : World} {h : Heap} (X : (K w.params).In h) : ∃ kvs, h.DictOf (PySem.strKind PySem.Challenge.rw_ys0001_09.prog w) 107 kvs ∧ TabOk kvs := by
  k_with "m:call ref" => ((k_here; (with_reducible show wpAny _ _ (call (Value.ref 114) _) _ _ _); refine hold ?_))
  k_with "m:call ref" => ((k_here; (with_reducible show wpAny _ _ (call (Value.ref 114) _) _ _ _); k_dflt ((refine Ctr.use (c_pad _ _ _ _ (by assumption) ?_ ?_) (by k_asm) (by k_asm) (by k_asm) (by k_asm) (by k_asm) (by first | exact rfl | assumption) (by k_extra "m_pre") (by walk_at "m_rest") (by first | exact roomk (by assumption) (by decide) | exact roomk2 (by assumption) (by decide) | ktr_room) (by first | exact roomk (by assumption) (by decide) | exact roomk2 (by assumption) (by decide) | ktr_units) ?_); (lia); (lia)); rintro v9 l9 h9 tk9 ⟨b9, tb9, hb9, hbz9⟩ hlo9 F9 N9; clear hlo9; (try dsimp only [List.nil_append] at N9); k_sweep; (try k_fold)))
  exact ⟨_, dictOf_rows (X _ _ (tab_at w.params)) (tab_names w.params ▸ hN_nodup), by rw [List.map_map]; exact tab_names w.params, by rw [List.map_map]; exact tab_codes w.params, by rw [List.all_map]; exact tab_bytes w.params⟩
section
local macro_rules | `(tactic| walk_at "compareOp NotIn str ref") => `(tactic| (refine hold ?_))
local macro_rules | `(tactic| walk_at "subscriptTail Name Name ref str") => `(tactic| (refine hold ?_))
inductive PSig (w : World) (x dx : Nat) (S : KeyS) (ms : List Int) (i : Nat) : Value → List (Addr × Obj) → Prop
  | mk (b' : Int) (s1 : Tok) (i' : Int) (s2 : Tok) (c : Array UInt8) (tc : Tok) (h : KBw.bInts c = (KTBy.little (szI S.n).toNat (PM (KFB.value ([0, 1] ++ List.replicate (szI S.n - ((hC.getD i [] ++ ms).length : Int) - 3).toNat 255 ++ [0] ++ (hC.getD i [] ++ ms))) S.d S.n)).reverse) (hb : BfOk S b' i') : PSig w x dx S ms i (.bytes c tc) (KeyL w 229 x dx S b' s1 i' s2)
theorem c_sign (w : World) (mean : ExcName → Option Value) (mg mb : Str → Option Value) {x dx : Nat} {S : KeyS} {bf bi : Int} {t1 t2 tm th : Tok} {b : Array UInt8} {ms : List Int} {i : Nat} (hne : @Ne Nat x dx) (hk : KRsa S) (hb : BfOk S bf bi) (hm : KBw.bInts b = ms) (hi : i < 9) (hl : ((hC.getD i []).length : Int) + ms.length ≤ szI S.n - 11) :
    Ctr PySem.Challenge.rw_ys0001_09.row.prog w (Mine.K w.params) Mine.V (looseW Mine.V [Str.ofString "NotRelativePrimeError", Str.ofString "int2bytes", Str.ofString "HASH_ASN1"]) mean mg mb 121 45 400 [.bytes b tm, .ref x, .str (hN.getD i (Str.ofString "")) th] (KeyL w 229 x dx S bf t1 bi t2)
      (PSig w x dx S ms i) := by
  have hkk := hk.ok
  obtain ⟨hk0, hk1, hk2, hk3⟩ := hk.ok
  have d0 := hk.d0
  have hcl := hC_len hi
  have hsz : szI S.n ≤ 155 := by have := szI_le hk1; lia
  have hl' : ((hC.getD i [] ++ ms).length : Int) ≤ szI S.n - 11 := by rw [List.length_append]; lia
  have hn0 : 0 < szI S.n := by lia
  have hlt := lt_octets hk0
  w_top off
  k_fill
  intro dp un gd cn cs' a ccd cl outer A₀ base h₀ L m rest s Q E B F X N hdis T hkf hd hu hret
  refine wpAny_call ?_
  have N0 := news_left N
  k_dflt refine' code_defR (binds := [(Str.ofString "hash_value", .bytes b tm), (Str.ofString "priv_key", .ref x), (Str.ofString "hash_method", .str (hN.getD i (Str.ofString "")) th)]) ?k1 ?k2 ?k3 ?k4 ?k5 ?kA ?kF ?kK ?k6 ?k7 ?k8 ?k9 ?kB ?_ ?c2 ?c3 ?c4 ?c5
  k_dflt k_extra "m_enter"
  intro g' L' h' FG F' N' B' X' T' kept small
  (try dsimp only)
  (try k_extra "m_letA")
  (try k_fold)
  have hr := rest_kept N hdis kept
  obtain ⟨kvs, hT, hTab⟩ := c_tab X'
  obtain ⟨cb, ct, hcv, hcb⟩ := hTab.at hi
  k_steps
  unfold Hold
  rename Fr g' _ _ _ => fr1
  refine tab_notin (hT.keep fr1.keep) (by decide) hcv ?_
  k_steps
  unfold Hold
  rename Fr g' _ _ _ => fr2
  refine tab_item (hT.keep fr2.keep) hcv ?_
  k_steps
  unfold Hold
  have hbp := hb9
  have hvb := value_bd (bInts_in b9) (by rw [KBw.ints_length]; lia)
  obtain ⟨hv0, hvB⟩ := hvb
  have hres0 := PM_nn (KFB.value (KBw.bInts b9)) S.d S.n
  have hres := Int.lt_trans (PM_lt (x := KFB.value (KBw.bInts b9)) (y := S.d) hk0) hlt
  k_steps
  rename KBw.bInts _ = List.reverse _ => hout
  rw [hbp] at hout
  (rename Fr g' _ _ _ => fr8); (rename News g' _ _ _ => ne8); exact m_ret hret fr8 ne8 (by assumption) (by assumption) hr N (by k_extra "m_pre") ⟨_, _, _, _, _, _, hout, by assumption⟩
end
section
local macro_rules | `(tactic| walk_at "binaryOp LShift int int") => `(tactic| ((rename @Membership.mem Int (List Int) _ _ _ => hk9); (have hk8 := mem_bd hk9); obtain ⟨hk81, hk82⟩ := hk8; refine lshift_int_small hk81 hk82 (by decide) ?_))
local macro_rules | `(tactic| walk_at "exec Assign cons ListComp") => `(tactic| ((with_reducible show wpAny _ _ (exec (Stmt.Assign [Expr.Name (Str.ofString "pairs") _] _ _) _) _ _ _); refine hold ?_))
local macro_rules | `(tactic| walk_at "subscriptTail Name BinOp ref int") => `(tactic| ((with_reducible show wpAny _ _ (subscriptTail (Expr.Name (Str.ofString "pairs") _) _ (Value.ref _) (Value.int _ _)) _ _ _); refine hold ?_))
inductive PKey9 (least : Int) : Value → List (Addr × Obj) → Prop
  | mk (tp : Nat) (p q e d : Int) (u1 u2 u3 u4 : Tok) (hp : PrOk p) (hq : PrOk q) (hpq : p ≠ q) (hl : least ≤ szI (p * q)) (he : 3 ≤ e) (he' : e < 100000) (hd : 0 ≤ d) (hd' : d < (p - 1) * (q - 1)) (hi : (p - 1) * (q - 1) ∣ d * e - 1) : PKey9 least (.ref tp) [(tp, ({ cls := .type "tuple", data := .seq #[.int p u1, .int q u2, .int e u3, .int d u4] } : Obj))]
theorem c_keys (w : World) (mean : ExcName → Option Value) (mg mb : Str → Option Value) {sc : Nat} {vs : List Value} {ns : List Int} {start least : Int} {t1 t2 : Tok} (hS : Scr vs ns) (hs0 : 0 ≤ start) (hs1 : start < 900) (hl0 : 0 ≤ least) (hl1 : least ≤ 69) :
    CtrB PySem.Challenge.rw_ys0001_09.row.prog w (Mine.K w.params) Mine.V (looseW Mine.V [Str.ofString "NotRelativePrimeError", Str.ofString "int2bytes", Str.ofString "HASH_ASN1"]) mean mg mb 271 30 300 [.ref sc, .int start t1, .int least t2] [] (fun base => base.IsList sc vs.toArray)
      (PKey9 least) := by
  k_with "m:call ref" => ((k_here; (with_reducible show wpAny _ _ (call (Value.ref 121) _) _ _ _); refine hold ?_))
  k_with "m:call ref" => ((k_here; (with_reducible show wpAny _ _ (call (Value.ref 121) _) _ _ _); k_dflt ((refine Ctr.use (c_sign _ _ _ _ (by assumption) (by assumption) (by assumption) (by assumption) (by assumption) (by assumption)) (by k_asm) (by k_asm) (by k_asm) (by k_asm) (by k_asm) (by first | exact rfl | assumption) (by k_extra "m_pre") (by walk_at "m_rest") (by first | exact roomk (by assumption) (by decide) | exact roomk2 (by assumption) (by decide) | ktr_room) (by first | exact roomk (by assumption) (by decide) | exact roomk2 (by assumption) (by decide) | ktr_units) ?_)); rintro v9 l9 h9 tk9 ⟨b9, s9, i9, t9, c9, tc9, hc9, h9a⟩ hlo9 F9 N9; clear hlo9; (try dsimp only [List.cons_append, List.nil_append] at N9); k_sweep; (try k_fold)))
  w_top off
  k_fill
  intro dp un gd cn cs' a ccd cl outer A₀ base h₀ L m rest s Q E B hL0 F X N hdis T hk hd hu hret
  refine wpAny_call ?_
  have N0 := news_left N
  k_dflt refine' code_defCR (binds := [(Str.ofString "script", .ref sc), (Str.ofString "start", .int start t1), (Str.ofString "least", .int least t2)]) ?k1 ?k2 ?k3 ?k4 ?k5 ?kA ?kF ?kK ?k6 ?k7 ?k8 ?k9 ?kB ?kN ?_ ?c2 ?c3 ?c4
  k_dflt k_extra "m_enterC"
  intro g' L' h' tkc cells FG F' N' Y B' X' T' kept small
  k_cells Y
  (try simp only [List.cons_append, List.nil_append] at N')
  have hL1 := stays_list B'.stays hL0
  (try dsimp only)
  (try k_extra "m_letA")
  (try k_fold)
  have hr := rest_kept N hdis kept
  k_steps
  unfold Hold
  rename IntsAre _ _ => hp1
  rename Fr g' _ _ _ => fr1
  rename News g' _ _ _ => ne1
  replace hp1 := intsAre_cast (b := pL) hp1 (by decide +kernel)
  k_dflt (with_unfolding_all refine comp2A (σ := List (Addr × Obj)) (k := 0) (fun own => hdN ne1 1 ++ (tlN ne1 4 ++ own)) (KeysJ least) [] fr1 rfl (by decide) rfl (by rfl) (by rfl) (by decide) (fun _ _ => rfl) (fun _ => List.Mem.head _) ?hsz KeysJ.start rfl (by decide) (fun _ => rfl) rfl rfl rfl rfl ?first ?second ?turn ?next ?fin)
  case hsz =>
    have e9 : ∀ ws : List Value, IntsAre ws pL → ws.toArray.size = 9 := fun ws h => by rw [List.size_toArray, h.length]; rfl
    rw [e9 _ hp1, sizeLine_eq]
    decide
  case first =>
    k_steps
    · exact fr1
    · exact news_of ne1 (by dsimp only [hdN, tlN, List.take, List.drop, List.cons_append, List.nil_append]; k_extra "m_pre")
  case second =>
    intro i c ys v I oI C oC D m₂ h9 tk9 E' hi hj hv hC hx fr2 ne2
    dsimp only [hdN, tlN, List.take, List.drop, List.cons_append, List.nil_append] at fr2 ne2 ⊢
    clear fr1 ne1
    k_sweep
    (try k_fold)
    k_steps
  case turn =>
    intro i j c ys v u I oI I2 o2 C oC D m₂ h9 tk9 E' hi hj9 hJ hv hu hC hx hy fr2 ne2 off neI
    dsimp only [hdN, tlN, List.take, List.drop, List.cons_append, List.nil_append] at fr2 ne2 off ⊢
    obtain ⟨p, tp, rfl, hp⟩ := intsAre_at hp1 (i := i) (v := v) (by simpa using hv)
    obtain ⟨q, tq, rfl, hq⟩ := intsAre_at hp1 (i := j) (v := u) (by simpa using hu)
    have hpm := List.mem_of_getElem? hp
    have hqm := List.mem_of_getElem? hq
    have hpB := (pL_ok p hpm).2.1
    have hqB := (pL_ok q hqm).2.1
    have hpqB : Bd 1240 (p * q) := (hpB.mul hqB).mono (by decide)
    clear fr1 ne1
    k_sweep
    (try k_fold)
    k_steps
    · rename _ ∧ _ ∧ _ ∧ _ ∧ _ ∧ _ ∧ _ ∧ _ => l8
      rename Fr g' _ _ _ => fr8
      rename News g' _ _ _ => ne8
      with_unfolding_all refine ⟨_, _, (_, pairObj p q tp tq) :: c, rfl, fr8, news_of ne8 ?_, ?_, hJ.yes hpm hqm (by assumption) (by assumption)⟩
      · dsimp only [hdN, tlN, List.take, List.drop, List.cons_append, List.nil_append]
        k_extra "m_pre"
      · intro z hz
        simp only [hdN, tlN, List.take, List.drop, List.cons_append, List.nil_append, List.mem_cons] at hz
        rcases hz with rfl | rfl | rfl | rfl | hz
        · exact off _ (.head _)
        · exact off _ (.tail _ (.head _))
        · exact off _ (.tail _ (.tail _ (.head _)))
        · exact ⟨Nat.ne_of_gt l8.1, Nat.ne_of_gt l8.2.1, Nat.ne_of_gt l8.2.2.1, Nat.ne_of_gt l8.2.2.2.1⟩
        · exact off _ (.tail _ (.tail _ (.tail _ hz)))
    · rename Fr g' _ _ _ => fr8
      rename News g' _ _ _ => ne8
      with_unfolding_all exact ⟨_, _, c, rfl, fr8, ne8, off, hJ.no hl1 hp hq (fun hc => absurd hc.2 (by assumption))⟩
    · rename Fr g' _ _ _ => fr8
      rename News g' _ _ _ => ne8
      with_unfolding_all exact ⟨_, _, c, rfl, fr8, ne8, off, hJ.no hl1 hp hq (fun hc => hc.1 (by assumption))⟩
  case next =>
    intro i ys c hi hJ
    rw [List.size_toArray, hp1.length] at hJ
    exact hJ.next
  case fin =>
    intro ys c D h9 tk9 hJ fr2 ne2 off
    dsimp only [hdN, tlN, List.take, List.drop, List.cons_append, List.nil_append] at fr2 ne2 off ⊢
    rw [List.size_toArray, hp1.length] at hJ
    obtain ⟨hy0, hy1, hpick⟩ := KeysJ.pick hJ
    clear fr1 ne1
    simp only [show ∀ zs : List Value, LCg.lst zs = listOf (List.toArray zs) zs.length from fun _ => rfl] at ne2
    k_sweep
    (try k_fold)
    k_steps
    have hlen0 : (ys.length : Int) ≠ 0 := by lia
    have hlg9 : (ys.length : Int).natAbs.log2 < 9000 := log2_small (by lia)
    refine len_at ys.length ne2 (List.Mem.head _) rfl (by lia) ?_
    k_steps
    unfold Hold
    rename Fr g' _ _ _ => fr3
    rename News g' _ _ _ => ne3
    have hfm := fmod_nn (a := r9) (b := (ys.length : Int)) (by lia)
    obtain ⟨T9, p, q, tp, tq, hyT, hTm, hpm, hqm, hpq, hle⟩ := hpick (r9.fmod (ys.length : Int)).toNat (by lia)
    refine item_any (r9.fmod (ys.length : Int)).toNat ne3 (List.Mem.head _) (by lia) hyT (by lia) rfl ?_
    have ne4 := news_of (l' := (T9, pairObj p q tp tq) :: [((L' + 1 + 1 : Nat), _), ((L' + 1 : Nat), _)]) ne3 (List.forall_mem_cons.mpr ⟨.tail _ (.tail _ (.tail _ (.tail _ hTm))), List.forall_mem_cons.mpr ⟨.tail _ (.tail _ (.head _)), List.forall_mem_cons.mpr ⟨.tail _ (.tail _ (.tail _ (.head _))), List.forall_mem_nil _⟩⟩⟩)
    clear ne3 hpick hJ; (try clear ne2); (try clear off); (try clear fr2)
    obtain ⟨hp3, hpB, hpP⟩ := pL_ok p hpm
    obtain ⟨hq3, hqB, hqP⟩ := pL_ok q hqm
    have hs : ∀ a : Int, 0 ≤ a.fmod 40000 ∧ a.fmod 40000 < 40000 := fun a => fmod_nn (by decide)
    have h4 := four_le hp3 hq3
    have hw0 : 0 < (p - 1) * (q - 1) := by lia
    have hwB : Bd 1240 ((p - 1) * (q - 1)) := (dB_pq ⟨hp3, hpB, hpP⟩ ⟨hq3, hqB, hqP⟩).mono (by decide)
    k_steps
    unfold Hold
    (try k_gentoks)
    rename IsRange _ _ _ _ _ _ _ _ => hrng
    rename Fr g' _ _ _ => fr1
    rename News g' _ _ _ => ne1
    rename 0 ≤ r9 => hr9
    obtain ⟨j0, hj0, hgj⟩ := exp_ex hpm hqm (hs r9).1 (hs r9).2
    with_unfolding_all refine m_range (σ := Int × Tok) (n := 2 * 1000) (fun _ => []) (fun c => [(Str.ofString "e", .int c.1 c.2)]) (fun _ => True) [Str.ofString "e"] (fun i c => c.1 = 3 + 2 * r9.fmod 40000 + 2 * (i : Int) ∧ ∀ j : Nat, j < i → Int.gcd (3 + 2 * r9.fmod 40000 + 2 * (j : Int)) ((p - 1) * (q - 1)) ≠ 1) (fun c => 3 ≤ c.1 ∧ c.1 < 100000 ∧ Int.gcd c.1 ((p - 1) * (q - 1)) = 1) (_, _) rfl hrng (by decide) (by rfl) fr1 ne1 (List.forall_mem_nil _) trivial (List.forall_mem_cons.mpr ⟨rfl, List.forall_mem_nil _⟩) ⟨by dsimp only; lia, fun j h => absurd h (Nat.not_lt_zero _)⟩ ?_ ?_ ?_
    · rintro ⟨e, te⟩ ⟨he, hno⟩
      exact absurd hgj (hno j0 hj0)
    · clear fr1 ne1
      rintro ⟨e, te⟩ i k t u h tk own hk' hi hoff - ⟨he, hno⟩ fr1 ne1
      dsimp only [List.cons_append, List.nil_append] at he hno fr1 ne1 ⊢
      replace fr1 : Fr g' L' h _ := fr1
      replace ne1 : News g' L' h _ := ne1
      have hs9 := hs r9
      have he0 : 3 ≤ e := by lia
      have he1 : e < 100000 := by lia
      k_sweep
      (try k_fold)
      k_steps
      · rename ((Int.gcd _ _ : Nat) : Int) = 1 => hg1
        have hg2 : Int.gcd e ((p - 1) * (q - 1)) = 1 := by lia
        dsimp only [MPost]
        rename Fr g' _ _ _ => fr2
        rename News g' _ _ _ => ne2
        with_unfolding_all exact m_end (e, te) fr2 ne2 (List.forall_mem_nil _) (by intro p hp; kst_mem) rfl trivial (List.forall_mem_cons.mpr ⟨rfl, List.forall_mem_nil _⟩) (by k_extra "m_same3") ⟨he0, he1, hg2⟩
      · rename ((Int.gcd _ _ : Nat) : Int) ≠ 1 => hg1
        dsimp only [MPost]
        rename Fr g' _ _ _ => fr2
        rename News g' _ _ _ => ne2
        with_unfolding_all refine' m_end (e + 2, _) fr2 ne2 (List.forall_mem_nil _) (by intro p hp; kst_mem) rfl trivial (List.forall_mem_cons.mpr ⟨rfl, List.forall_mem_nil _⟩) (by k_extra "m_same3") ⟨by dsimp only; lia, fun j hj hg => ?_⟩
        by_cases hji : j = i
        · subst hji
          rw [← he] at hg
          lia
        · exact hno j (by lia) hg
    · clear fr1 ne1
      rintro ⟨e, te⟩ u h tk - ⟨he0, he1, heg⟩ fr1 ne1
      dsimp only [List.cons_append, List.nil_append] at he0 he1 heg fr1 ne1 ⊢
      replace fr1 : Fr g' L' h _ := fr1
      replace ne1 : News g' L' h _ := ne1
      k_sweep
      (try k_fold)
      k_steps
      (rename Fr g' _ _ _ => fr8); (rename News g' _ _ _ => ne8); exact m_ret hret fr8 ne8 (by assumption) (by assumption) hr N (by k_extra "m_pre") ⟨_, p, q, e, _, _, _, _, _, ⟨hp3, hpB, hpP⟩, ⟨hq3, hqB, hqP⟩, hpq, hle, he0, he1, by assumption, by assumption, by assumption⟩
end
section
local macro_rules | `(tactic| walk_at "exec For Tuple Name cons nil") => `(tactic| (k_here; (rename Fr _ _ _ _ => lF'); (with_unfolding_all refine' For_turns lF' ?_; k_whole)))
theorem code_eq (ks : List Int) (sz : Int) : [48, ((1 + 1 + 1 + 1 + ks.length + (1 + 1) : Nat) : Int) + 2 + sz] ++ ([48, (ks.length : Int) + 4, 6, (ks.length : Int)] ++ ks ++ [5, 0]) ++ [4, sz] = codeOf ks sz := by
  k_with "m:call ref" => ((k_here; (with_reducible show wpAny _ _ (call (Value.ref 271) _) _ _ _); refine hold ?_))
  k_with "m:call ref" => ((k_here; (with_reducible show wpAny _ _ (call (Value.ref 271) _) _ _ _); k_dflt ((refine CtrB.use (c_keys _ _ _ _ (by assumption) ?_ ?_ ?_ ?_) (by k_asm) (by assumption) (by k_asm) (by k_asm) (by k_asm) (by k_asm) (by first | exact rfl | assumption) (by k_extra "m_pre") (by walk_at "m_rest") (by first | exact roomk (by assumption) (by decide) | exact roomk2 (by assumption) (by decide) | ktr_room) (by first | exact roomk (by assumption) (by decide) | exact roomk2 (by assumption) (by decide) | ktr_units) ?_); (first | decide | lia); (first | decide | lia); (first | decide | lia); (first | decide | lia)); rintro v9 l9 h9 tk9 ⟨tp9, p9, q9, e9, d9, u91, u92, u93, u94, hp9, hq9, hpq9, hle9, he90, he91, hd90, hd91, hd92⟩ hlo9 F9 N9; replace hlo9 := sepL_of hlo9; (try dsimp only [sepL, sepR, StL, KeyL, PubL] at hlo9); (try dsimp only [List.cons_append, List.nil_append] at N9); k_sweep; (try k_fold)))
  have e : ((1 + 1 + 1 + 1 + ks.length + (1 + 1) : Nat) : Int) + 2 + sz = (ks.length : Int) + 6 + 2 + sz := by lia
  rw [e]
  rfl
theorem made_step {i : Nat} {r : Str × List Int × Int} (h : rows2[i]? = some r) : (rows2.take (i + 1)).map madeD = (rows2.take i).map madeD ++ [madeD r] := by
  rw [List.take_succ, h, List.map_append]
  rfl
inductive PCod : Value → List (Addr × Obj) → Prop
  | mk (cd : Nat) (vs : List Value) (nn : Nat) (own : List (Addr × Obj)) (h : DatAll own vs hD) : PCod (.ref cd) ((cd, listOf vs.toArray nn) :: own)
theorem c_codes (w : World) (mean : ExcName → Option Value) (mg mb : Str → Option Value) :
    Ctr PySem.Challenge.rw_ys0001_09.row.prog w (Mine.K w.params) Mine.V (looseW Mine.V [Str.ofString "NotRelativePrimeError", Str.ofString "int2bytes", Str.ofString "HASH_ASN1"]) mean mg mb 290 10 100 [] []
      PCod := by
  w_top off
  k_fill
  intro dp un gd cn cs' a ccd cl outer A₀ base h₀ L m rest s Q E B F X N hdis T hk hd hu hret
  refine wpAny_call ?_
  have N0 := news_left N
  k_dflt refine' code_defR (binds := []) ?k1 ?k2 ?k3 ?k4 ?k5 ?kA ?kF ?kK ?k6 ?k7 ?k8 ?k9 ?kB ?_ ?c2 ?c3 ?c4 ?c5
  k_dflt k_extra "m_enter"
  intro g' L' h' FG F' N' B' X' T' kept small
  (try dsimp only)
  (try k_extra "m_letA")
  (try k_fold)
  have hr := rest_kept N hdis kept
  refine abs_Q ?_
  intro Q9 hq9
  k_steps
  unfold Hold
  rename Fr g' _ _ _ => fr1
  rename News g' _ _ _ => ne1
  obtain ⟨l4, e9⟩ : ∃ a, a = adN ne1 0 := ⟨_, rfl⟩
  dsimp only [adN, adL] at e9
  subst e9
  obtain ⟨d1, e9⟩ : ∃ a, a = adN ne1 1 := ⟨_, rfl⟩
  dsimp only [adN, adL] at e9
  subst e9
  obtain ⟨d2, e9⟩ : ∃ a, a = adN ne1 2 := ⟨_, rfl⟩
  dsimp only [adN, adL] at e9
  subst e9
  obtain ⟨d3, e9⟩ : ∃ a, a = adN ne1 3 := ⟨_, rfl⟩
  dsimp only [adN, adL] at e9
  subst e9
  obtain ⟨d4, e9⟩ : ∃ a, a = adN ne1 4 := ⟨_, rfl⟩
  dsimp only [adN, adL] at e9
  subst e9
  obtain ⟨r5, e9⟩ : ∃ a, a = adN ne1 5 := ⟨_, rfl⟩
  dsimp only [adN, adL] at e9
  subst e9
  have hsrc : DatAll (List.take 4 (tlN ne1 1)) [.ref d4, .ref d3, .ref d2, .ref d1] (srcA.map srcD) := by
    with_unfolding_all exact (.cons (.tuple (.tail _ (.tail _ (.tail _ (.head _)))) (.cons (.str _ _) (.cons (.int _ _) (.cons (.int _ _) .nil)))) (.cons (.tuple (.tail _ (.tail _ (.head _))) (.cons (.str _ _) (.cons (.int _ _) (.cons (.int _ _) .nil)))) (.cons (.tuple (.tail _ (.head _)) (.cons (.str _ _) (.cons (.int _ _) (.cons (.int _ _) .nil)))) (.cons (.tuple (.head _) (.cons (.str _ _) (.cons (.int _ _) (.cons (.int _ _) .nil)))) .nil))))
  have hs4 : ∀ p ∈ List.take 4 (tlN ne1 1), @Ne Nat p.1 r5 ∧ @Ne Nat p.1 l4 := by
    intro p hp
    simp only [tlN, List.take, List.drop, List.mem_cons, List.not_mem_nil, or_false] at hp
    rcases hp with rfl | rfl | rfl | rfl <;> exact ⟨by dsimp only; lia, by dsimp only; lia⟩
  obtain ⟨S4, hS4⟩ : ∃ S4, S4 = List.take 4 (tlN ne1 1) := ⟨_, rfl⟩
  rw [← hS4] at hsrc hs4
  with_unfolding_all refine m_listV (σ := List Value × Nat × List (Addr × Obj)) (fun c => (l4, listOf (List.toArray [.ref d4, .ref d3, .ref d2, .ref d1]) 0) :: (r5, listOf c.1.toArray c.2.1) :: (List.take 4 (tlN ne1 1) ++ c.2.2)) (fun _ => []) [Str.ofString "name", Str.ofString "last", Str.ofString "size"] (fun i c => DatAll c.2.2 c.1 ((rows0 ++ (srcA.take i).map shaRow).map rowD) ∧ ∀ p ∈ c.2.2, @Ne Nat p.1 r5 ∧ @Ne Nat p.1 l4) (fun c => DatAll c.2.2 c.1 ((rows0 ++ srcA.map shaRow).map rowD) ∧ ∀ p ∈ c.2.2, @Ne Nat p.1 r5 ∧ @Ne Nat p.1 l4) (_, 0, tlN ne1 6) rfl (fun _ => List.Mem.head _) fr1 ne1 (by k_extra "m_pre") (List.forall_mem_nil _) ⟨(show DatAll (tlN ne1 6) _ (rows0.map rowD) from by with_unfolding_all exact (.cons (.tuple (.tail _ (.tail _ (.head _))) (.cons (.str _ _) (.cons (.list (.tail _ (.tail _ (.tail _ (.head _)))) (datAll_of_ints (.cons _ _ (.cons _ _ (.cons _ _ (.cons _ _ (.cons _ _ (.cons _ _ (.cons _ _ (.cons _ _ .nil)))))))))) (.cons (.int _ _) .nil)))) (.cons (.tuple (.head _) (.cons (.str _ _) (.cons (.list (.tail _ (.head _)) (datAll_of_ints (.cons _ _ (.cons _ _ (.cons _ _ (.cons _ _ (.cons _ _ .nil))))))) (.cons (.int _ _) .nil)))) .nil))), by intro p hp; simp only [tlN, List.drop, List.mem_cons, List.not_mem_nil, or_false] at hp; rcases hp with rfl | rfl | rfl | rfl <;> exact ⟨by dsimp only; lia, by dsimp only; lia⟩⟩ ?_ go_tuple ?_ ?_
  · exact fun c h => h
  · clear fr1
    rintro ⟨rvs, rn, rown⟩ i v u h tk own hv hsep hlt ⟨hd, hro⟩ fr2 ne2
    dsimp only at hd hro fr2 ne2 hsep ⊢
    rw [← hS4] at ne2 hsep ⊢
    clear hS4 ne1
    obtain ⟨dd, hd1, hdin⟩ := datAll_at hsrc hv
    obtain ⟨⟨nm, la, sz⟩, hr1, rfl⟩ : ∃ r, srcA[i]? = some r ∧ srcD r = dd := by rw [List.getElem?_map] at hd1; exact Option.map_eq_some_iff.mp hd1
    obtain ⟨a, n0, t1, t2, t3, rfl, ham⟩ := srcD_in hdin
    dsimp only at ham ⊢
    obtain ⟨tl, htl⟩ : ∃ tl, tl = S4 ++ (rown ++ own) := ⟨_, rfl⟩
    have sub : ∀ p ∈ tl, p ∈ (l4, listOf (List.toArray [.ref d4, .ref d3, .ref d2, .ref d1]) 0) :: (r5, listOf rvs.toArray rn) :: (S4 ++ rown) ++ own := by
      intro p hp
      rw [htl] at hp
      rcases List.mem_append.mp hp with hp | hp
      · exact List.mem_append_left _ (.tail _ (.tail _ (List.mem_append_left _ hp)))
      · rcases List.mem_append.mp hp with hp | hp
        · exact List.mem_append_left _ (.tail _ (.tail _ (List.mem_append_right _ hp)))
        · exact List.mem_append_right _ hp
    have htr : OwnOff tl [r5] := by
      intro p hp b hb
      rw [List.mem_singleton.mp hb]
      rw [htl] at hp
      rcases List.mem_append.mp hp with hp | hp
      · exact (hs4 p hp).1
      · rcases List.mem_append.mp hp with hp | hp
        · exact (hro p hp).1
        · exact hsep p hp _ (.tail _ (.head _))
    have har : @Ne Nat a r5 := (hs4 _ ham).1
    have ne3 := news_of (l' := (a, ({ cls := .type "tuple", data := .seq #[.str nm t1, .int la t2, .int sz t3] n0 } : Obj)) :: (l4, listOf (List.toArray [.ref d4, .ref d3, .ref d2, .ref d1]) 0) :: (r5, listOf rvs.toArray rn) :: tl) ne2 (List.forall_mem_cons.mpr ⟨List.mem_append_left _ (.tail _ (.tail _ (List.mem_append_left _ ham))), List.forall_mem_cons.mpr ⟨.head _, List.forall_mem_cons.mpr ⟨.tail _ (.head _), sub⟩⟩⟩)
    clear ne2 sub
    replace fr2 : Fr g' L' h _ := fr2
    replace ne3 : News g' L' h _ := ne3
    k_sweep
    (try k_fold)
    refine abs_turn ?_
    intro P9 hp9
    k_steps
    rename Fr g' _ _ _ => fr7
    rename News g' _ _ _ => ne7
    rename _ ∧ _ ∧ _ ∧ _ ∧ AllLt _ tl => l8
    rename _ ∧ _ ∧ _ ∧ AllLt _ tl => l7
    obtain ⟨T7, e7⟩ : ∃ a, a = adN ne7 0 := ⟨_, rfl⟩
    dsimp only [adN, adL] at e7
    subst e7
    obtain ⟨L7, e7⟩ : ∃ a, a = adN ne7 1 := ⟨_, rfl⟩
    dsimp only [adN, adL] at e7
    subst e7
    have hz : rvs.length ≤ sizeLine := by
      have e := datAll_length hd
      have hi : i < 4 := by
        have := (List.getElem?_eq_some_iff.mp hr1).1
        exact this
      simp only [List.length_map, List.length_append, List.length_take] at e
      have : rvs.length ≤ 9 + 4 := by
        rw [e]; have : (rows0).length ≤ 9 := by decide
        lia
      exact Nat.le_trans this (by decide)
    have hoff : ∀ p ∈ hdN ne7 4 ++ tl, @Ne Nat p.1 r5 := by
      intro p hp
      dsimp only [hdN, List.take, List.cons_append, List.nil_append] at hp
      rcases List.mem_cons.mp hp with rfl | hp
      · exact Nat.ne_of_gt l8.2.2.2.1
      · rcases List.mem_cons.mp hp with rfl | hp
        · exact Nat.ne_of_gt l7.2.2.1
        · rcases List.mem_cons.mp hp with rfl | hp
          · exact har
          · rcases List.mem_cons.mp hp with rfl | hp
            · dsimp only; lia
            · exact htr p hp _ (List.mem_singleton.mpr rfl)
    have ne6 := news_of (l' := (r5, listOf rvs.toArray rn) :: (hdN ne7 4 ++ tl)) ne7 (List.forall_mem_cons.mpr ⟨by k_mem, fun p hp => by
      dsimp only [hdN, List.take, List.cons_append, List.nil_append] at hp
      rcases List.mem_cons.mp hp with rfl | hp
      · k_mem
      · rcases List.mem_cons.mp hp with rfl | hp
        · k_mem
        · rcases List.mem_cons.mp hp with rfl | hp
          · k_mem
          · rcases List.mem_cons.mp hp with rfl | hp
            · k_mem
            · repeat (first | exact hp | refine List.Mem.tail _ ?_)⟩)
    refine append_led fr7 ne6 hoff hz ?_
    dsimp only [hdN, List.take, List.cons_append, List.nil_append]
    clear hoff ne6 ne7 fr7
    intro h8 fr8 ne8
    (try k_fold)
    k_steps
    (try show EndV _ _ _ _ _ _ _ _ _ _)
    obtain ⟨T9, e9⟩ : ∃ a, a = adN ne8 1 := ⟨_, rfl⟩
    dsimp only [adN, adL] at e9
    subst e9
    obtain ⟨L9, e9⟩ : ∃ a, a = adN ne8 2 := ⟨_, rfl⟩
    dsimp only [adN, adL] at e9
    subst e9
    have intl : ∀ p ∈ tl, p ∈ tlN ne8 0 := by
      intro p st
      dsimp only [tlN, List.drop]
      repeat (first | exact st | refine List.Mem.tail _ ?_)
    refine hp9 _ _ ?_
    with_unfolding_all refine' m_endV (rvs ++ [.ref T9], rn + 1, List.drop 1 (hdN ne8 3) ++ rown) fr8 ne8 ?hn ?ho ?hs (List.forall_mem_nil _) ?hr ⟨?hP, ?hQ⟩
    case hn =>
      dsimp only [hdN, List.take, List.drop, List.cons_append, List.nil_append]
      refine List.forall_mem_cons.mpr ⟨by k_mem, List.forall_mem_cons.mpr ⟨by k_mem, fun p hp => ?_⟩⟩
      rcases List.mem_append.mp hp with hp | hp
      · exact intl p (htl ▸ mem_tl1 hp)
      · rcases List.mem_cons.mp hp with rfl | hp
        · k_mem
        · rcases List.mem_cons.mp hp with rfl | hp
          · k_mem
          · exact intl p (htl ▸ mem_tl2 hp)
    case ho => exact fun p hp => intl p (htl ▸ mem_tl3 hp)
    case hs =>
      intro q hq p hp
      dsimp only [hdN, List.take, List.drop, List.cons_append, List.nil_append] at hp
      have hqt : q ∈ tl := htl ▸ mem_tl3 hq
      rcases List.mem_cons.mp hp with rfl | hp
      · exact hsep q hq _ (.head _)
      · rcases List.mem_cons.mp hp with rfl | hp
        · exact hsep q hq (_, listOf rvs.toArray rn) (.tail _ (.head _))
        · rcases List.mem_append.mp hp with hp | hp
          · exact hsep q hq _ (.tail _ (.tail _ (List.mem_append_left _ hp)))
          · rcases List.mem_cons.mp hp with rfl | hp
            · exact Nat.ne_of_lt (kst_ltOf l8.2.2.2.2 q hqt)
            · rcases List.mem_cons.mp hp with rfl | hp
              · exact Nat.ne_of_lt (kst_ltOf l7.2.2.2 q hqt)
              · exact hsep q hq _ (.tail _ (.tail _ (List.mem_append_right _ hp)))
    case hr => k_extra "m_same"
    case hP =>
      rw [rows_step hr1]
      refine datAll_app (DatAll.mono (fun p hp => List.mem_append_right _ hp) hd) (.cons ?_ .nil)
      dsimp only [hdN, List.take, List.drop, List.cons_append, List.nil_append]
      with_unfolding_all exact (.tuple (.head _) (.cons (.str _ _) (.cons (.list (.tail _ (.head _)) (datAll_of_ints (.cons _ _ (.cons _ _ (.cons _ _ (.cons _ _ (.cons _ _ (.cons _ _ (.cons _ _ (.cons _ _ (.cons _ _ .nil))))))))))) (.cons (.int _ _) .nil))))
    case hQ =>
      intro p hp
      dsimp only [hdN, List.take, List.drop, List.cons_append, List.nil_append] at hp
      rcases List.mem_cons.mp hp with rfl | hp
      · exact ⟨Nat.ne_of_gt l8.2.2.2.1, Nat.ne_of_gt l8.2.2.1⟩
      · rcases List.mem_cons.mp hp with rfl | hp
        · exact ⟨Nat.ne_of_gt l7.2.2.1, Nat.ne_of_gt l7.2.1⟩
        · exact hro p hp
  · clear fr1
    rintro ⟨rv1, rn1, ro1⟩ u h tk ⟨hd, hro⟩ fr2 ne2
    dsimp only at hd hro fr2 ne2 ⊢
    have ne3 := news_of (l' := (r5, listOf rv1.toArray rn1) :: ro1) ne2 (fun p hp => .tail _ ((List.mem_cons.mp hp).elim (fun e => e ▸ .head _) fun hp => .tail _ (List.mem_append_right _ hp)))
    have hro5 : OwnOff ro1 [r5] := fun p hp b hb => (List.mem_singleton.mp hb) ▸ (hro p hp).1
    clear hs4 hsrc hS4 ne1 ne2 S4 hro
    replace fr2 : Fr g' L' h _ := fr2
    replace ne3 : News g' L' h _ := ne3
    k_sweep
    (try k_fold)
    k_steps
    (try unfold Hold)
    rename Fr g' _ _ _ => fr1
    rename News g' _ _ _ => ne1
    obtain ⟨l4, e9⟩ : ∃ a, a = adN ne1 0 := ⟨_, rfl⟩
    dsimp only [adN, adL] at e9
    subst e9
    obtain ⟨d1, e9⟩ : ∃ a, a = adN ne1 1 := ⟨_, rfl⟩
    dsimp only [adN, adL] at e9
    subst e9
    obtain ⟨d2, e9⟩ : ∃ a, a = adN ne1 2 := ⟨_, rfl⟩
    dsimp only [adN, adL] at e9
    subst e9
    obtain ⟨d3, e9⟩ : ∃ a, a = adN ne1 3 := ⟨_, rfl⟩
    dsimp only [adN, adL] at e9
    subst e9
    rename _ ∧ _ ∧ _ ∧ _ ∧ AllLt _ ro1 => lz
    have hsrc : DatAll (List.take 3 (tlN ne1 1)) [.ref d3, .ref d2, .ref d1] (srcB.map srcD) := by
      with_unfolding_all exact (.cons (.tuple (.tail _ (.tail _ (.head _))) (.cons (.str _ _) (.cons (.int _ _) (.cons (.int _ _) .nil)))) (.cons (.tuple (.tail _ (.head _)) (.cons (.str _ _) (.cons (.int _ _) (.cons (.int _ _) .nil)))) (.cons (.tuple (.head _) (.cons (.str _ _) (.cons (.int _ _) (.cons (.int _ _) .nil)))) .nil)))
    have hs4 : ∀ p ∈ List.take 3 (tlN ne1 1), @Ne Nat p.1 r5 ∧ @Ne Nat p.1 l4 := by
      intro p hp
      simp only [tlN, List.take, List.drop, List.mem_cons, List.not_mem_nil, or_false] at hp
      rcases hp with rfl | rfl | rfl <;> exact ⟨by dsimp only; lia, by dsimp only; lia⟩
    obtain ⟨S4, hS4⟩ : ∃ S4, S4 = List.take 3 (tlN ne1 1) := ⟨_, rfl⟩
    rw [← hS4] at hsrc hs4
    with_unfolding_all refine m_listV (σ := List Value × Nat × List (Addr × Obj)) (fun c => (l4, listOf (List.toArray [.ref d3, .ref d2, .ref d1]) 0) :: (r5, listOf c.1.toArray c.2.1) :: (List.take 3 (tlN ne1 1) ++ c.2.2)) (fun _ => []) [Str.ofString "name", Str.ofString "last", Str.ofString "size"] (fun i c => DatAll c.2.2 c.1 ((rows1 ++ (srcB.take i).map shaRow).map rowD) ∧ ∀ p ∈ c.2.2, @Ne Nat p.1 r5 ∧ @Ne Nat p.1 l4) (fun c => DatAll c.2.2 c.1 ((rows1 ++ srcB.map shaRow).map rowD) ∧ ∀ p ∈ c.2.2, @Ne Nat p.1 r5 ∧ @Ne Nat p.1 l4) (rv1, rn1, ro1) rfl (fun _ => List.Mem.head _) fr1 ne1 (by
        intro p hp
        rcases List.mem_cons.mp hp with rfl | hp
        · k_mem
        · rcases List.mem_cons.mp hp with rfl | hp
          · k_mem
          · rcases List.mem_append.mp hp with hp | hp
            · exact .tail _ (List.mem_of_mem_take hp)
            · repeat (first | exact hp | refine List.Mem.tail _ ?_)) (List.forall_mem_nil _) ⟨(by show DatAll _ _ ((rows1 ++ []).map rowD); rw [List.append_nil]; exact hd), fun p hp => ⟨hro5 p hp _ (List.mem_singleton.mpr rfl), Nat.ne_of_lt (kst_ltOf lz.2.2.2.2 p hp)⟩⟩ ?_ go_tuple ?_ ?_
    · exact fun c h => h
    · clear fr1
      rintro ⟨rvs, rn, rown⟩ i v u h tk own hv hsep hlt ⟨hd, hro⟩ fr2 ne2
      dsimp only at hd hro fr2 ne2 hsep ⊢
      rw [← hS4] at ne2 hsep ⊢
      clear hS4 ne1
      obtain ⟨dd, hd1, hdin⟩ := datAll_at hsrc hv
      obtain ⟨⟨nm, la, sz⟩, hr1, rfl⟩ : ∃ r, srcB[i]? = some r ∧ srcD r = dd := by rw [List.getElem?_map] at hd1; exact Option.map_eq_some_iff.mp hd1
      obtain ⟨a, n0, t1, t2, t3, rfl, ham⟩ := srcD_in hdin
      dsimp only at ham ⊢
      obtain ⟨tl, htl⟩ : ∃ tl, tl = S4 ++ (rown ++ own) := ⟨_, rfl⟩
      have sub : ∀ p ∈ tl, p ∈ (l4, listOf (List.toArray [.ref d3, .ref d2, .ref d1]) 0) :: (r5, listOf rvs.toArray rn) :: (S4 ++ rown) ++ own := by
        intro p hp
        rw [htl] at hp
        rcases List.mem_append.mp hp with hp | hp
        · exact List.mem_append_left _ (.tail _ (.tail _ (List.mem_append_left _ hp)))
        · rcases List.mem_append.mp hp with hp | hp
          · exact List.mem_append_left _ (.tail _ (.tail _ (List.mem_append_right _ hp)))
          · exact List.mem_append_right _ hp
      have htr : OwnOff tl [r5] := by
        intro p hp b hb
        rw [List.mem_singleton.mp hb]
        rw [htl] at hp
        rcases List.mem_append.mp hp with hp | hp
        · exact (hs4 p hp).1
        · rcases List.mem_append.mp hp with hp | hp
          · exact (hro p hp).1
          · exact hsep p hp _ (.tail _ (.head _))
      have har : @Ne Nat a r5 := (hs4 _ ham).1
      have ne3 := news_of (l' := (a, ({ cls := .type "tuple", data := .seq #[.str nm t1, .int la t2, .int sz t3] n0 } : Obj)) :: (l4, listOf (List.toArray [.ref d3, .ref d2, .ref d1]) 0) :: (r5, listOf rvs.toArray rn) :: tl) ne2 (List.forall_mem_cons.mpr ⟨List.mem_append_left _ (.tail _ (.tail _ (List.mem_append_left _ ham))), List.forall_mem_cons.mpr ⟨.head _, List.forall_mem_cons.mpr ⟨.tail _ (.head _), sub⟩⟩⟩)
      clear ne2 sub
      replace fr2 : Fr g' L' h _ := fr2
      replace ne3 : News g' L' h _ := ne3
      k_sweep
      (try k_fold)
      refine abs_turn ?_
      intro P9 hp9
      k_steps
      rename Fr g' _ _ _ => fr7
      rename News g' _ _ _ => ne7
      rename _ ∧ _ ∧ _ ∧ _ ∧ AllLt _ tl => l8
      rename _ ∧ _ ∧ _ ∧ AllLt _ tl => l7
      obtain ⟨T7, e7⟩ : ∃ a, a = adN ne7 0 := ⟨_, rfl⟩
      dsimp only [adN, adL] at e7
      subst e7
      obtain ⟨L7, e7⟩ : ∃ a, a = adN ne7 1 := ⟨_, rfl⟩
      dsimp only [adN, adL] at e7
      subst e7
      have hz : rvs.length ≤ sizeLine := by
        have e := datAll_length hd
        have hi : i < 3 := by
          have := (List.getElem?_eq_some_iff.mp hr1).1
          exact this
        simp only [List.length_map, List.length_append, List.length_take] at e
        have : rvs.length ≤ 9 + 3 := by
          rw [e]; have : (rows1).length ≤ 9 := by decide
          lia
        exact Nat.le_trans this (by decide)
      have hoff : ∀ p ∈ hdN ne7 4 ++ tl, @Ne Nat p.1 r5 := by
        intro p hp
        dsimp only [hdN, List.take, List.cons_append, List.nil_append] at hp
        rcases List.mem_cons.mp hp with rfl | hp
        · exact Nat.ne_of_gt l8.2.2.2.1
        · rcases List.mem_cons.mp hp with rfl | hp
          · exact Nat.ne_of_gt l7.2.2.1
          · rcases List.mem_cons.mp hp with rfl | hp
            · exact har
            · rcases List.mem_cons.mp hp with rfl | hp
              · dsimp only; lia
              · exact htr p hp _ (List.mem_singleton.mpr rfl)
      have ne6 := news_of (l' := (r5, listOf rvs.toArray rn) :: (hdN ne7 4 ++ tl)) ne7 (List.forall_mem_cons.mpr ⟨by k_mem, fun p hp => by
        dsimp only [hdN, List.take, List.cons_append, List.nil_append] at hp
        rcases List.mem_cons.mp hp with rfl | hp
        · k_mem
        · rcases List.mem_cons.mp hp with rfl | hp
          · k_mem
          · rcases List.mem_cons.mp hp with rfl | hp
            · k_mem
            · rcases List.mem_cons.mp hp with rfl | hp
              · k_mem
              · repeat (first | exact hp | refine List.Mem.tail _ ?_)⟩)
      refine append_led fr7 ne6 hoff hz ?_
      dsimp only [hdN, List.take, List.cons_append, List.nil_append]
      clear hoff ne6 ne7 fr7
      intro h8 fr8 ne8
      (try k_fold)
      k_steps
      (try show EndV _ _ _ _ _ _ _ _ _ _)
      obtain ⟨T9, e9⟩ : ∃ a, a = adN ne8 1 := ⟨_, rfl⟩
      dsimp only [adN, adL] at e9
      subst e9
      obtain ⟨L9, e9⟩ : ∃ a, a = adN ne8 2 := ⟨_, rfl⟩
      dsimp only [adN, adL] at e9
      subst e9
      have intl : ∀ p ∈ tl, p ∈ tlN ne8 0 := by
        intro p st
        dsimp only [tlN, List.drop]
        repeat (first | exact st | refine List.Mem.tail _ ?_)
      refine hp9 _ _ ?_
      with_unfolding_all refine' m_endV (rvs ++ [.ref T9], rn + 1, List.drop 1 (hdN ne8 3) ++ rown) fr8 ne8 ?hn ?ho ?hs (List.forall_mem_nil _) ?hr ⟨?hP, ?hQ⟩
      case hn =>
        dsimp only [hdN, List.take, List.drop, List.cons_append, List.nil_append]
        refine List.forall_mem_cons.mpr ⟨by k_mem, List.forall_mem_cons.mpr ⟨by k_mem, fun p hp => ?_⟩⟩
        rcases List.mem_append.mp hp with hp | hp
        · exact intl p (htl ▸ mem_tl1 hp)
        · rcases List.mem_cons.mp hp with rfl | hp
          · k_mem
          · rcases List.mem_cons.mp hp with rfl | hp
            · k_mem
            · exact intl p (htl ▸ mem_tl2 hp)
      case ho => exact fun p hp => intl p (htl ▸ mem_tl3 hp)
      case hs =>
        intro q hq p hp
        dsimp only [hdN, List.take, List.drop, List.cons_append, List.nil_append] at hp
        have hqt : q ∈ tl := htl ▸ mem_tl3 hq
        rcases List.mem_cons.mp hp with rfl | hp
        · exact hsep q hq _ (.head _)
        · rcases List.mem_cons.mp hp with rfl | hp
          · exact hsep q hq (_, listOf rvs.toArray rn) (.tail _ (.head _))
          · rcases List.mem_append.mp hp with hp | hp
            · exact hsep q hq _ (.tail _ (.tail _ (List.mem_append_left _ hp)))
            · rcases List.mem_cons.mp hp with rfl | hp
              · exact Nat.ne_of_lt (kst_ltOf l8.2.2.2.2 q hqt)
              · rcases List.mem_cons.mp hp with rfl | hp
                · exact Nat.ne_of_lt (kst_ltOf l7.2.2.2 q hqt)
                · exact hsep q hq _ (.tail _ (.tail _ (List.mem_append_right _ hp)))
      case hr => k_extra "m_same"
      case hP =>
        rw [rows_step hr1]
        refine datAll_app (DatAll.mono (fun p hp => List.mem_append_right _ hp) hd) (.cons ?_ .nil)
        dsimp only [hdN, List.take, List.drop, List.cons_append, List.nil_append]
        with_unfolding_all exact (.tuple (.head _) (.cons (.str _ _) (.cons (.list (.tail _ (.head _)) (datAll_of_ints (.cons _ _ (.cons _ _ (.cons _ _ (.cons _ _ (.cons _ _ (.cons _ _ (.cons _ _ (.cons _ _ (.cons _ _ .nil))))))))))) (.cons (.int _ _) .nil))))
      case hQ =>
        intro p hp
        dsimp only [hdN, List.take, List.drop, List.cons_append, List.nil_append] at hp
        rcases List.mem_cons.mp hp with rfl | hp
        · exact ⟨Nat.ne_of_gt l8.2.2.2.1, Nat.ne_of_gt l8.2.2.1⟩
        · rcases List.mem_cons.mp hp with rfl | hp
          · exact ⟨Nat.ne_of_gt l7.2.2.1, Nat.ne_of_gt l7.2.1⟩
          · exact hro p hp
    · clear fr1
      rintro ⟨rv1, rn1, ro1⟩ u h tk ⟨hd, hro⟩ fr2 ne2
      dsimp only at hd hro fr2 ne2 ⊢
      have ne3 := news_of (l' := (r5, listOf rv1.toArray rn1) :: ro1) ne2 (fun p hp => .tail _ ((List.mem_cons.mp hp).elim (fun e => e ▸ .head _) fun hp => .tail _ (List.mem_append_right _ hp)))
      have hro5 : OwnOff ro1 [r5] := fun p hp b hb => (List.mem_singleton.mp hb) ▸ (hro p hp).1
      clear hs4 hsrc hS4 ne1 ne2 S4 hro
      replace fr2 : Fr g' L' h _ := fr2
      replace ne3 : News g' L' h _ := ne3
      k_sweep
      (try k_fold)
      k_steps
      (try unfold Hold)
      rename Fr g' _ _ _ => fr1
      rename News g' _ _ _ => ne1
      obtain ⟨f4, e9⟩ : ∃ a, a = adN ne1 0 := ⟨_, rfl⟩
      dsimp only [adN, adL] at e9
      subst e9
      rename _ ∧ AllLt _ ro1 => lf
      with_unfolding_all refine m_listV (vs := rv1) (nn := rn1) (σ := List Value × Nat × List (Addr × Obj)) (fun c => (r5, listOf rv1.toArray rn1) :: (f4, listOf c.1.toArray c.2.1) :: (ro1 ++ c.2.2)) (fun _ => []) [Str.ofString "name", Str.ofString "kind", Str.ofString "size", Str.ofString "inner"] (fun i c => DatAll c.2.2 c.1 ((rows2.take i).map madeD) ∧ ∀ p ∈ c.2.2, @Ne Nat p.1 f4) (fun c => DatAll c.2.2 c.1 hD) ([], 0, []) rfl (fun _ => List.Mem.head _) fr1 ne1 (by
        intro p hp
        rcases List.mem_cons.mp hp with rfl | hp
        · k_mem
        · rcases List.mem_cons.mp hp with rfl | hp
          · k_mem
          · rw [List.append_nil] at hp
            exact .tail _ (.tail _ hp)) (List.forall_mem_nil _) ⟨.nil, List.forall_mem_nil _⟩ ?_ go_tuple ?_ ?_
      · rintro c ⟨hdf, -⟩
        have e := datAll_length hd
        have e2 : rv1.length = rows2.length := e.trans (List.length_map _)
        rw [List.take_of_length_le (Nat.le_of_eq e2.symm)] at hdf
        exact hdf
      · clear fr1 ne1
        rintro ⟨fvs, fn, fown⟩ i v u h tk own hv hsep hlt ⟨hdf, hfo⟩ fr2 ne2
        dsimp only at hdf hfo fr2 ne2 hsep ⊢
        obtain ⟨dd, hd1, hdin⟩ := datAll_at hd hv
        obtain ⟨⟨nm, ks, sz⟩, hr1, rfl⟩ : ∃ r, rows2[i]? = some r ∧ rowD r = dd := by rw [List.getElem?_map] at hd1; exact Option.map_eq_some_iff.mp hd1
        obtain ⟨a, n0, b, ws, k0, t1, t3, rfl, ham, hbm, hws⟩ := rowD_in hdin
        dsimp only at ham hbm hws ⊢
        obtain ⟨tl, htl⟩ : ∃ tl, tl = ro1 ++ (fown ++ own) := ⟨_, rfl⟩
        have sub : ∀ p ∈ tl, p ∈ (r5, listOf rv1.toArray rn1) :: (f4, listOf fvs.toArray fn) :: (ro1 ++ fown) ++ own := by
          intro p hp
          rw [htl] at hp
          rcases List.mem_append.mp hp with hp | hp
          · exact List.mem_append_left _ (.tail _ (.tail _ (List.mem_append_left _ hp)))
          · rcases List.mem_append.mp hp with hp | hp
            · exact List.mem_append_left _ (.tail _ (.tail _ (List.mem_append_right _ hp)))
            · exact List.mem_append_right _ hp
        have hrf : ∀ p ∈ ro1, @Ne Nat p.1 f4 := fun p hp => Nat.ne_of_lt (kst_ltOf lf.2 p hp)
        have htr : OwnOff tl [f4] := by
          intro p hp b hb
          rw [List.mem_singleton.mp hb]
          rw [htl] at hp
          rcases List.mem_append.mp hp with hp | hp
          · exact hrf p hp
          · rcases List.mem_append.mp hp with hp | hp
            · exact hfo p hp
            · exact hsep p hp _ (.tail _ (.head _))
        have haf : @Ne Nat a f4 := hrf _ ham
        have hbf : @Ne Nat b f4 := hrf _ hbm
        have hks : ks.length ≤ 9 := by
          have : ∀ r ∈ rows2, r.2.1.length ≤ 9 := by decide
          exact this _ (List.mem_of_getElem? hr1)
        have hwl : ws.length = ks.length := hws.length
        have hw9 : ws.length ≤ 9 := hwl ▸ hks
        have ne3 := news_of (l' := (a, ({ cls := .type "tuple", data := .seq #[.str nm t1, .ref b, .int sz t3] n0 } : Obj)) :: (b, listOf ws.toArray k0) :: (r5, listOf rv1.toArray rn1) :: (f4, listOf fvs.toArray fn) :: tl) ne2 (List.forall_mem_cons.mpr ⟨List.mem_append_left _ (.tail _ (.tail _ (List.mem_append_left _ ham))), List.forall_mem_cons.mpr ⟨List.mem_append_left _ (.tail _ (.tail _ (List.mem_append_left _ hbm))), List.forall_mem_cons.mpr ⟨.head _, List.forall_mem_cons.mpr ⟨.tail _ (.head _), sub⟩⟩⟩⟩)
        clear ne2 sub
        replace fr2 : Fr g' L' h _ := fr2
        replace ne3 : News g' L' h _ := ne3
        k_sweep
        (try k_fold)
        refine abs_turn ?_
        intro P9 hp9
        k_steps
        rename Fr g' _ _ _ => fr7
        rename News g' _ _ _ => ne7
        rename _ ∧ _ ∧ _ ∧ _ ∧ _ ∧ _ ∧ _ ∧ _ ∧ _ ∧ _ ∧ _ ∧ _ ∧ AllLt _ tl => l8
        rename _ ∧ _ ∧ _ ∧ _ ∧ _ ∧ _ ∧ _ ∧ _ ∧ _ ∧ _ ∧ _ ∧ AllLt _ tl => l7
        rename IntsAre _ _ => hI9
        rw [code_eq ks sz] at hI9
        obtain ⟨T7, e7⟩ : ∃ a, a = adN ne7 0 := ⟨_, rfl⟩
        dsimp only [adN, adL] at e7
        subst e7
        obtain ⟨L7, e7⟩ : ∃ a, a = adN ne7 1 := ⟨_, rfl⟩
        dsimp only [adN, adL] at e7
        subst e7
        have nT : @Ne Nat T7 f4 := by have h1 := l8.2.2.2.2.2.2.2.2.2.2.2.1; exact Nat.ne_of_gt h1
        have nL : @Ne Nat L7 f4 := by have h1 := l7.2.2.2.2.2.2.2.2.2.2.1; exact Nat.ne_of_gt h1
        have tT := l8.2.2.2.2.2.2.2.2.2.2.2.2
        have tL := l7.2.2.2.2.2.2.2.2.2.2.2
        have hz : fvs.length ≤ sizeLine := by
          have e := datAll_length hdf
          have h9 : rows2.length = 9 := by rfl
          simp only [List.length_map, List.length_take] at e
          have : fvs.length ≤ 9 := by
            rw [e]; lia
          exact Nat.le_trans this (by decide)
        have hoff : ∀ p ∈ hdN ne7 2 ++ (r5, listOf rv1.toArray rn1) :: tl, @Ne Nat p.1 f4 := by
          intro p hp
          dsimp only [hdN, List.take, List.cons_append, List.nil_append] at hp
          rcases List.mem_cons.mp hp with rfl | hp
          · exact nT
          · rcases List.mem_cons.mp hp with rfl | hp
            · exact nL
            · rcases List.mem_cons.mp hp with rfl | hp
              · exact Nat.ne_of_lt lf.1
              · exact htr p hp _ (List.mem_singleton.mpr rfl)
        have ne6 := news_of (l' := (f4, listOf fvs.toArray fn) :: (hdN ne7 2 ++ (r5, listOf rv1.toArray rn1) :: tl)) ne7 (List.forall_mem_cons.mpr ⟨by k_mem, fun p hp => by
          dsimp only [hdN, List.take, List.cons_append, List.nil_append] at hp
          rcases List.mem_cons.mp hp with rfl | hp
          · k_mem
          · rcases List.mem_cons.mp hp with rfl | hp
            · k_mem
            · rcases List.mem_cons.mp hp with rfl | hp
              · k_mem
              · repeat (first | exact hp | refine List.Mem.tail _ ?_)⟩)
        refine append_led fr7 ne6 hoff hz ?_
        dsimp only [hdN, List.take, List.cons_append, List.nil_append]
        clear hoff ne6 ne7 fr7
        intro h8 fr8 ne8
        (try k_fold)
        k_steps
        (try show EndV _ _ _ _ _ _ _ _ _ _)
        refine hp9 _ _ ?_
        with_unfolding_all refine' m_endV (fvs ++ [.ref T7], fn + 1, List.drop 1 (hdN ne8 3) ++ fown) fr8 ne8 ?hn ?ho ?hs (List.forall_mem_nil _) ?hr ⟨?hP, ?hQ⟩
        case hn =>
          dsimp only [hdN, List.take, List.drop, List.cons_append, List.nil_append]
          refine List.forall_mem_cons.mpr ⟨by k_mem, List.forall_mem_cons.mpr ⟨by k_mem, fun p hp => ?_⟩⟩
          rcases List.mem_append.mp hp with hp | hp
          · exact .tail _ (.tail _ (.tail _ (.tail _ (htl ▸ mem_tl1 hp))))
          · rcases List.mem_cons.mp hp with rfl | hp
            · k_mem
            · rcases List.mem_cons.mp hp with rfl | hp
              · k_mem
              · exact .tail _ (.tail _ (.tail _ (.tail _ (htl ▸ mem_tl2 hp))))
        case ho => exact fun p hp => .tail _ (.tail _ (.tail _ (.tail _ (htl ▸ mem_tl3 hp))))
        case hs =>
          intro q hq p hp
          dsimp only [hdN, List.take, List.drop, List.cons_append, List.nil_append] at hp
          have hqt : q ∈ tl := htl ▸ mem_tl3 hq
          rcases List.mem_cons.mp hp with rfl | hp
          · exact hsep q hq _ (.head _)
          · rcases List.mem_cons.mp hp with rfl | hp
            · exact hsep q hq (_, listOf fvs.toArray fn) (.tail _ (.head _))
            · rcases List.mem_append.mp hp with hp | hp
              · exact hsep q hq _ (.tail _ (.tail _ (List.mem_append_left _ hp)))
              · rcases List.mem_cons.mp hp with rfl | hp
                · exact Nat.ne_of_lt (kst_ltOf tT q hqt)
                · rcases List.mem_cons.mp hp with rfl | hp
                  · exact Nat.ne_of_lt (kst_ltOf tL q hqt)
                  · exact hsep q hq _ (.tail _ (.tail _ (List.mem_append_right _ hp)))
        case hr => k_extra "m_same"
        case hP =>
          rw [made_step hr1]
          refine datAll_app (DatAll.mono (fun p hp => List.mem_append_right _ hp) hdf) (.cons ?_ .nil)
          dsimp only [hdN, List.take, List.drop, List.cons_append, List.nil_append]
          with_unfolding_all exact (.tuple (.head _) (.cons (.str _ _) (.cons (.list (.tail _ (.head _)) (datAll_of_ints hI9)) .nil)))
        case hQ =>
          intro p hp
          dsimp only [hdN, List.take, List.drop, List.cons_append, List.nil_append] at hp
          rcases List.mem_cons.mp hp with rfl | hp
          · exact nT
          · rcases List.mem_cons.mp hp with rfl | hp
            · exact nL
            · exact hfo p hp
      · clear fr1 ne1
        rintro ⟨fvs, fn, fown⟩ u h tk hdf fr2 ne2
        dsimp only at hdf fr2 ne2 ⊢
        have ne3 := news_of (l' := (f4, listOf fvs.toArray fn) :: fown) ne2 (fun p hp => .tail _ ((List.mem_cons.mp hp).elim (fun e => e ▸ .head _) fun hp => .tail _ (List.mem_append_right _ hp)))
        clear ne2
        replace fr2 : Fr g' L' h _ := fr2
        replace ne3 : News g' L' h _ := ne3
        k_sweep
        (try k_fold)
        k_steps
        refine hq9 _ _ ?_
        k_steps
        (rename Fr g' _ _ _ => fr8); (rename News g' _ _ _ => ne8); exact m_ret hret fr8 ne8 (by assumption) (by assumption) hr N (by k_extra "m_pre") ⟨_, fvs, fn, fown, hdf⟩
end
inductive POct (size : Int) : Value → List (Addr × Obj) → Prop
  | mk (a : Nat) (os : List Value) (ks : List Int) (nn : Nat) (hI : IntsAre os ks) (hl : (ks.length : Int) = size) (hb : ∀ k ∈ ks, 0 ≤ k ∧ k < 256) : POct size (.ref a) [(a, listOf os.toArray nn)]
theorem c_octets (w : World) (mean : ExcName → Option Value) (mg mb : Str → Option Value) {sc : Nat} {vs : List Value} {ns : List Int} {start size : Int} {t1 t2 : Tok} (hS : Scr vs ns) (hs0 : 0 ≤ start) (hs1 : start < 900) (hz0 : 0 ≤ size) (hz1 : size ≤ 400) :
    CtrB PySem.Challenge.rw_ys0001_09.row.prog w (Mine.K w.params) Mine.V (looseW Mine.V [Str.ofString "NotRelativePrimeError", Str.ofString "int2bytes", Str.ofString "HASH_ASN1"]) mean mg mb 245 20 200 [.ref sc, .int start t1, .int size t2] [] (fun base => base.IsList sc vs.toArray)
      (POct size) := by
  k_with "m:call ref" => ((k_here; (with_reducible show wpAny _ _ (call (Value.ref 290) _) _ _ _); refine hold ?_))
  k_with "m:call ref" => ((k_here; (with_reducible show wpAny _ _ (call (Value.ref 290) _) _ _ _); k_dflt ((refine Ctr.use (c_codes _ _ _ _) (by k_asm) (by k_asm) (by k_asm) (by k_asm) (by k_asm) (by first | exact rfl | assumption) (by k_extra "m_pre") (by walk_at "m_rest") (by first | exact roomk (by assumption) (by decide) | exact roomk2 (by assumption) (by decide) | ktr_room) (by first | exact roomk (by assumption) (by decide) | exact roomk2 (by assumption) (by decide) | ktr_units) ?_)); rintro v9 l9 h9 tk9 ⟨cd9, vs9, nn9, own9, hD9⟩ hlo9 F9 N9; (have hcs9 := hlo9); clear hlo9; (try simp only [List.cons_append, List.append_nil] at N9); k_sweep; (try k_fold)))
  w_top off
  k_fill
  intro dp un gd cn cs' a ccd cl outer A₀ base h₀ L m rest s Q E B hL0 F X N hdis T hk hd hu hret
  refine wpAny_call ?_
  have N0 := news_left N
  k_dflt refine' code_defR (binds := [(Str.ofString "script", .ref sc), (Str.ofString "start", .int start t1), (Str.ofString "size", .int size t2)]) ?k1 ?k2 ?k3 ?k4 ?k5 ?kA ?kF ?kK ?k6 ?k7 ?k8 ?k9 ?kB ?_ ?c2 ?c3 ?c4 ?c5
  k_dflt k_extra "m_enter"
  intro g' L' h' FG F' N' B' X' T' kept small
  have hL1 := stays_list B'.stays hL0
  (try dsimp only)
  (try k_extra "m_letA")
  (try k_fold)
  have hr := rest_kept N hdis kept
  k_steps
  unfold Hold
  (try k_gentoks)
  rename IsRange _ _ _ _ _ _ _ _ => hrng
  rename Fr g' _ _ _ => fr1
  rename News g' _ _ _ => ne1
  obtain ⟨r9a, e9⟩ : ∃ a, a = adN ne1 0 := ⟨_, rfl⟩
  dsimp only [adN, adL] at e9
  subst e9
  have hz : ((size.toNat : Nat) : Int) = size := Int.toNat_of_nonneg hz0
  with_unfolding_all refine m_range (σ := List Value × List Int × Nat × Int × Tok) (n := size.toNat) (fun c => [(r9a, listOf c.1.toArray c.2.2.1)]) (fun c => [(Str.ofString "number", .int c.2.2.2.1 c.2.2.2.2)]) (fun _ => True) [Str.ofString "number"] (fun i c => IntsAre c.1 c.2.1 ∧ c.2.1.length = i ∧ (∀ k ∈ c.2.1, 0 ≤ k ∧ k < 256) ∧ 0 ≤ c.2.2.2.1 ∧ Bd 1048578 c.2.2.2.1) (fun c => IntsAre c.1 c.2.1 ∧ (c.2.1.length : Int) = size ∧ (∀ k ∈ c.2.1, 0 ≤ k ∧ k < 256)) ([], [], 0, _, _) rfl hrng (small_one (by lia) (by lia) (by lia) (by lia)) (by rw [rangeSize_nat]; lia) fr1 ne1 (by k_extra "m_pre") trivial (List.forall_mem_cons.mpr ⟨rfl, List.forall_mem_nil _⟩) ⟨.nil, rfl, List.forall_mem_nil _, by dsimp only; lia, ?hb0⟩ ?_ ?_ ?_
  case hb0 => walk_at "m_bd"
  · rintro c ⟨h1, h2, h3, -⟩
    exact ⟨h1, by rw [h2, hz], h3⟩
  · clear fr1 ne1
    rintro ⟨os, ks, nn, num, tn⟩ i k t u h tk own hk' hi hoff - ⟨hI, hlen, hall, hn0, hnB⟩ fr1 ne1
    dsimp only [List.cons_append, List.nil_append] at hI hlen hall hn0 hnB fr1 ne1 ⊢
    replace fr1 : Fr g' L' h _ := fr1
    replace ne1 : News g' L' h _ := ne1
    k_sweep
    (try k_fold)
    k_steps
    all_goals (dsimp only [MPost]; (rename Fr g' _ _ _ => fr8); (rename News g' _ _ _ => ne8); (simp only [List.push_toArray] at ne8); with_unfolding_all refine' m_end (_, ks ++ [_], _, _, _) fr8 ne8 ?hn ?ho ?ha trivial (List.forall_mem_cons.mpr ⟨rfl, List.forall_mem_nil _⟩) (by k_extra "m_same3") ⟨intsAre_append hI (.cons _ _ .nil), by simp [hlen], all_app hall (fmod_nn (by decide)), (fmod_nn (by decide)).1, ?hw⟩; (case hn => k_extra "m_pre"); (case ho => intro p hp; kst_mem); (case ha => rfl); (case hw => exact fmod_bd (by decide) (.small (by decide) (by decide))))
  · clear fr1 ne1
    rintro ⟨os, ks, nn, num, tn⟩ u h tk - ⟨hI, hlen, hall⟩ fr1 ne1
    dsimp only at hI hlen hall fr1 ne1 ⊢
    replace fr1 : Fr g' L' h _ := fr1
    replace ne1 : News g' L' h _ := ne1
    k_sweep
    (try k_fold)
    k_steps
    (rename Fr g' _ _ _ => fr8); (rename News g' _ _ _ => ne8); exact m_ret hret fr8 ne8 (by assumption) (by assumption) hr N (by k_extra "m_pre") ⟨_, _, _, _, hI, hlen, hall⟩
theorem value_take {ks : List Int} {i : Nat} {n : Int} (h : ks[i]? = some n) : KFB.value (ks.take (i + 1)) = 256 * KFB.value (ks.take i) + n := by
  k_with "m:call ref" => ((k_here; (with_reducible show wpAny _ _ (call (Value.ref 245) _) _ _ _); refine hold ?_))
  k_with "m:call ref" => ((k_here; (with_reducible show wpAny _ _ (call (Value.ref 245) _) _ _ _); k_dflt ((refine CtrB.use (c_octets _ _ _ _ (by assumption) ?_ ?_ ?_ ?_) (by k_asm) (by assumption) (by k_asm) (by k_asm) (by k_asm) (by k_asm) (by first | exact rfl | assumption) (by k_extra "m_pre") (by walk_at "m_rest") (by first | exact roomk (by assumption) (by decide) | exact roomk2 (by assumption) (by decide) | ktr_room) (by first | exact roomk (by assumption) (by decide) | exact roomk2 (by assumption) (by decide) | ktr_units) ?_); (first | decide | lia); (first | decide | lia); (first | decide | lia); (first | decide | lia)); rintro v9 l9 h9 tk9 ⟨oa9, os9, ko9, no9, hoI9, hoL9, hoB9⟩ hlo9 F9 N9; replace hlo9 := sepL_of hlo9; (try dsimp only [sepL, sepR, StL, KeyL, PubL] at hlo9); (try dsimp only [List.cons_append, List.nil_append] at N9); k_sweep; (try k_fold)))
  rw [List.take_add_one, h, Option.toList_some]
  unfold KFB.value
  rw [List.foldl_append]
  simp only [List.foldl_cons, List.foldl_nil]
  lia
theorem value_takeB {ks : List Int} (h : ∀ n ∈ ks, 0 ≤ n ∧ n < 256) (hl : ks.length ≤ 155) (i : Nat) : Bd 1240 (KFB.value (ks.take i)) :=
  (value_bd (fun n hn => h n (List.mem_of_mem_take hn)) (by rw [List.length_take]; lia)).2
theorem c_number (w : World) (mean : ExcName → Option Value) (mg mb : Str → Option Value) {oa : Nat} {os : List Value} {ks : List Int} {nn : Nat} (hI : IntsAre os ks) (hb : ∀ k ∈ ks, 0 ≤ k ∧ k < 256) (hl : ks.length ≤ 155) :
    Ctr PySem.Challenge.rw_ys0001_09.row.prog w (Mine.K w.params) Mine.V (looseW Mine.V [Str.ofString "NotRelativePrimeError", Str.ofString "int2bytes", Str.ofString "HASH_ASN1"]) mean mg mb 278 8 80 [.ref oa] [(oa, listOf os.toArray nn)]
      (PInt (KFB.value ks) [(oa, listOf os.toArray nn)]) := by
  w_top off
  k_fill
  intro dp un gd cn cs' a ccd cl outer A₀ base h₀ L m rest s Q E B F X N hdis T hk hd hu hret
  refine wpAny_call ?_
  have N0 := news_left N
  k_dflt refine' code_defR (binds := [(Str.ofString "octets", .ref oa)]) ?k1 ?k2 ?k3 ?k4 ?k5 ?kA ?kF ?kK ?k6 ?k7 ?k8 ?k9 ?kB ?_ ?c2 ?c3 ?c4 ?c5
  k_dflt k_extra "m_enter"
  intro g' L' h' FG F' N' B' X' T' kept small
  (try dsimp only)
  (try k_extra "m_letA")
  (try k_fold)
  have hr := rest_kept N hdis kept
  k_steps
  unfold Hold
  rename Fr g' _ _ _ => fr1
  rename News g' _ _ _ => ne1
  with_unfolding_all refine m_listK (σ := Int × Tok) (fun _ => [(oa, listOf os.toArray nn)]) (fun c => [(Str.ofString "number", .int c.1 c.2)]) [Str.ofString "octet"] (fun i c => c.1 = KFB.value (ks.take i)) (0, _) rfl (fun _ => by k_mem) hI fr1 ne1 (by k_extra "m_pre") (List.forall_mem_cons.mpr ⟨rfl, List.forall_mem_nil _⟩) rfl ?_ ?_
  · clear fr1 ne1
    rintro ⟨p, tp⟩ i n t u h tk own hn hoff hp fr1 ne1
    dsimp only [List.cons_append, List.nil_append] at hp fr1 ne1 ⊢
    replace fr1 : Fr g' L' h _ := fr1
    replace ne1 : News g' L' h _ := ne1
    have hpB : Bd 1240 p := hp ▸ value_takeB hb hl i
    k_sweep
    (try k_fold)
    k_steps
    (try dsimp only [InvPostN])
    rename Fr g' _ _ _ => fr2
    rename News g' _ _ _ => ne2
    with_unfolding_all refine' m_endT (_, _) fr2 ne2 ?hn ?ho ?ha (List.forall_mem_cons.mpr ⟨rfl, List.forall_mem_nil _⟩) ?hr ?hq
    case hn => k_extra "m_pre"
    case ho => intro p hp; kst_mem
    case ha => rfl
    case hr => k_extra "m_same"
    case hq => exact (value_take hn).symm ▸ hp ▸ rfl
  · clear fr1 ne1
    rintro ⟨p, tp⟩ u h tk hp fr1 ne1
    dsimp only at hp fr1 ne1 ⊢
    replace fr1 : Fr g' L' h _ := fr1
    replace ne1 : News g' L' h _ := ne1
    rw [List.take_length] at hp
    subst hp
    k_sweep
    (try k_fold)
    k_steps
    (rename Fr g' _ _ _ => fr8); (rename News g' _ _ _ => ne8); exact m_ret hret fr8 ne8 (by assumption) (by assumption) hr N (by k_extra "m_pre") ⟨_⟩
section
local macro_rules | `(tactic| walk_at "eval ListComp") => `(tactic| (k_here; k_dflt (refine LCg.ListComp_U (F₀ := by k_asm) (by with_unfolding_all rfl) (by decide) (by rfl) (by decide) (by rfl) ?_)))
local macro_rules | `(tactic| walk_at "CompSrc") => `(tactic| (refine hold ?_))
local macro_rules | `(tactic| walk_at "binaryOp RShift int int") => `(tactic| (k_here; (refine rshift_int ?_ ?_); (lia)))
theorem wr_eq {x : Int} {K : Nat} : ((List.range K).map fun j : Nat => (x.fdiv (2 ^ (8 * ((K : Int) - 1 - (j : Int))).toNat)).fmod 256) = (KTBy.little K x).reverse := by
  k_with "m:call ref" => ((k_here; (with_reducible show wpAny _ _ (call (Value.ref 278) _) _ _ _); refine hold ?_))
  k_with "m:call ref" => ((k_here; (with_reducible show wpAny _ _ (call (Value.ref 278) _) _ _ _); k_dflt ((refine Ctr.use (c_number _ _ _ _ (by assumption) (by assumption) ?_) (by k_asm) (by k_asm) (by k_asm) (by k_asm) (by k_asm) (by first | exact rfl | assumption) (by k_extra "m_pre") (by walk_at "m_rest") (by first | exact roomk (by assumption) (by decide) | exact roomk2 (by assumption) (by decide) | ktr_room) (by first | exact roomk (by assumption) (by decide) | exact roomk2 (by assumption) (by decide) | ktr_units) ?_); (first | assumption | lia)); rintro v9 l9 h9 tk9 ⟨tr9⟩ hlo9 F9 N9; clear hlo9; (try dsimp only [List.cons_append, List.nil_append] at N9); k_sweep; (try k_fold)))
  rw [KTBy.little_eq]
  apply List.ext_getElem
  · simp
  intro j h1 h2
  have hj : j < K := by simpa using h1
  simp only [List.getElem_map, List.getElem_range, List.getElem_reverse, List.length_map, List.length_range]
  rw [Int.fdiv_eq_ediv_of_nonneg _ (Int.le_of_lt (Int.pow_pos (by decide))), Int.fmod_eq_emod_of_nonneg _ (by decide), p256]
  have e : (8 * ((K : Int) - 1 - (j : Int))).toNat = 8 * (K - 1 - j) := by lia
  rw [e]
inductive PWri (x size : Int) : Value → List (Addr × Obj) → Prop
  | mk (a : Nat) (os : List Value) (nn : Nat) (hI : IntsAre os (KTBy.little size.toNat x).reverse) : PWri x size (.ref a) [(a, listOf os.toArray nn)]
theorem c_written (w : World) (mean : ExcName → Option Value) (mg mb : Str → Option Value) {x size : Int} {t1 t2 : Tok} (hx : 0 ≤ x) (hxB : Bd 1240 x) (hz0 : 0 ≤ size) (hz1 : size ≤ 400) :
    Ctr PySem.Challenge.rw_ys0001_09.row.prog w (Mine.K w.params) Mine.V (looseW Mine.V [Str.ofString "NotRelativePrimeError", Str.ofString "int2bytes", Str.ofString "HASH_ASN1"]) mean mg mb 283 8 80 [.int x t1, .int size t2] []
      (PWri x size) := by
  w_top off
  k_fill
  intro dp un gd cn cs' a ccd cl outer A₀ base h₀ L m rest s Q E B F X N hdis T hk hd hu hret
  refine wpAny_call ?_
  have N0 := news_left N
  k_dflt refine' code_defCR (binds := [(Str.ofString "number", .int x t1), (Str.ofString "size", .int size t2)]) ?k1 ?k2 ?k3 ?k4 ?k5 ?kA ?kF ?kK ?k6 ?k7 ?k8 ?k9 ?kB ?kN ?_ ?c2 ?c3 ?c4
  k_dflt k_extra "m_enterC"
  intro g' L' h' tkc cells FG F' N' Y B' X' T' kept small
  k_cells Y
  (try simp only [List.cons_append, List.nil_append] at N')
  (try dsimp only)
  (try k_extra "m_letA")
  (try k_fold)
  have hr := rest_kept N hdis kept
  k_steps
  unfold Hold
  (try k_gentoks)
  rename IsRange _ _ _ _ _ _ _ _ => hr2
  rename Fr g' _ _ _ => fr2
  rename News g' _ _ _ => ne2
  have hz : ((size.toNat : Nat) : Int) = size := Int.toNat_of_nonneg hz0
  with_unfolding_all refine LCg.CompSrc.range (n := size.toNat) rfl fr2 ne2 hr2 (small_one (by lia) (by lia) (by lia) (by lia)) (by rw [rangeSize_nat]; lia) (by rw [sizeLine_eq]; lia) (fun g9 => comp_ind (σ := Unit) (fun _ => _) (fun i ys _ => IntsAre ys ((List.range i).map fun j : Nat => (x.fdiv (2 ^ (8 * (size - 1 - (j : Int))).toNat)).fmod 256)) () rfl .nil ?_ ?_)
  · intro i ys u9 R' hi9 hj hR v I oI C oC D m₂ h9 tk9 E' hP hC hx9 fr3 ne3 off ne9
    obtain ⟨t9, rfl⟩ := hP
    have hi8 : (i : Int) < size := by lia
    k_sweep
    (try k_fold)
    k_steps
    with_unfolding_all refine LCg.CompEnd.intro fr3 ne3 _ (fun p hp => hp) off trivial ⟨(), rfl, hR _ _ ?_⟩
    rw [List.range_succ, List.map_append, Int.zero_add]
    exact intsAre_append hj (.cons _ _ .nil)
  · intro ys u9 hb
    have hw := wr_eq (x := x) (K := size.toNat)
    rw [hz] at hw
    rw [hw] at hb
    unfold LCg.FinE
    intro D h9 tk9 fr3 ne3 off
    k_sweep
    (try k_fold)
    k_steps
    (rename Fr g' _ _ _ => fr8); (rename News g' _ _ _ => ne8); exact m_ret hret fr8 ne8 (by assumption) (by assumption) hr N (by k_extra "m_pre") ⟨_, ys, ys.length, hb⟩
end
section
local macro_rules | `(tactic| walk_at "call type:bytes") => `(tactic| (refine hold ?_))
local macro_rules | `(tactic| walk_at "call type:list") => `(tactic| ((with_reducible show wpAny _ _ (call (Value.type "list") [Value.bytes _ _]) _ _ _); refine hold ?_))
inductive PTo (w : World) (oa x dx : Nat) (S : KeyS) (os : List Value) (ms : List Int) (no i : Nat) : Value → List (Addr × Obj) → Prop
  | mk (ra : Nat) (rs : List Value) (rn : Nat) (b' : Int) (s1 : Tok) (i' : Int) (s2 : Tok) (h1 : @Ne Nat ra oa) (h2 : @Ne Nat ra x) (h3 : @Ne Nat ra dx) (hI : IntsAre rs (KTBy.little (szI S.n).toNat (PM (KFB.value ([0, 1] ++ List.replicate (szI S.n - ((hC.getD i [] ++ ms).length : Int) - 3).toNat 255 ++ [0] ++ (hC.getD i [] ++ ms))) S.d S.n)).reverse) (hB : BfOk S b' i') : PTo w oa x dx S os ms no i (.ref ra) ((ra, listOf rs.toArray rn) :: (oa, listOf os.toArray no) :: KeyL w 229 x dx S b' s1 i' s2)
theorem c_toldo (w : World) (mean : ExcName → Option Value) (mg mb : Str → Option Value) {oa x dx : Nat} {S : KeyS} {bf bi : Int} {t1 t2 th : Tok} {os : List Value} {ms : List Int} {no i : Nat} (hne : @Ne Nat x dx) (hox : @Ne Nat oa x) (hod : @Ne Nat oa dx) (hk9 : KRsa S) (hB : BfOk S bf bi) (hI : IntsAre os ms) (hb : ∀ k ∈ ms, 0 ≤ k ∧ k < 256) (hl : ms.length ≤ 400) (hi : i < 9) (hfit : ((hC.getD i []).length : Int) + ms.length ≤ szI S.n - 11) :
    Ctr PySem.Challenge.rw_ys0001_09.row.prog w (Mine.K w.params) Mine.V (looseW Mine.V [Str.ofString "NotRelativePrimeError", Str.ofString "int2bytes", Str.ofString "HASH_ASN1"]) mean mg mb 297 60 450 [.ref oa, .ref x, .str (hN.getD i (Str.ofString "")) th] ((oa, listOf os.toArray no) :: KeyL w 229 x dx S bf t1 bi t2)
      (PTo w oa x dx S os ms no i) := by
  k_with "m:call ref" => ((k_here; (with_reducible show wpAny _ _ (call (Value.ref 283) _) _ _ _); refine hold ?_))
  k_with "m:call ref" => ((k_here; (with_reducible show wpAny _ _ (call (Value.ref 283) _) _ _ _); k_dflt ((refine Ctr.use (c_written _ _ _ _ ?_ ?_ ?_ ?_) (by k_asm) (by k_asm) (by k_asm) (by k_asm) (by k_asm) (by first | exact rfl | assumption) (by k_extra "m_pre") (by walk_at "m_rest") (by first | exact roomk (by assumption) (by decide) | exact roomk2 (by assumption) (by decide) | ktr_room) (by first | exact roomk (by assumption) (by decide) | exact roomk2 (by assumption) (by decide) | ktr_units) ?_); (first | assumption | lia); (first | assumption | (walk_at "m_bd")); (first | assumption | lia); (first | assumption | lia)); rintro v9 l9 h9 tk9 ⟨wa9, ws9, wn9, hwI9⟩ hlo9 F9 N9; replace hlo9 := sepL_of hlo9; (try dsimp only [sepL, sepR, StL, KeyL, PubL] at hlo9); (try dsimp only [List.cons_append, List.nil_append] at N9); k_sweep; (try k_fold)))
  have hsz : szI S.n ≤ 155 := by have := szI_le hk9.ok.2.1; lia
  w_top off
  k_fill
  intro dp un gd cn cs' a ccd cl outer A₀ base h₀ L m rest s Q E B F X N hdis T hkf hd hu hret
  refine wpAny_call ?_
  have N0 := news_left N
  k_dflt refine' code_defR (binds := [(Str.ofString "told", .ref oa), (Str.ofString "private", .ref x), (Str.ofString "name", .str (hN.getD i (Str.ofString "")) th)]) ?k1 ?k2 ?k3 ?k4 ?k5 ?kA ?kF ?kK ?k6 ?k7 ?k8 ?k9 ?kB ?_ ?c2 ?c3 ?c4 ?c5
  k_dflt k_extra "m_enter"
  intro g' L' h' FG F' N' B' X' T' kept small
  have l1 : ∀ p ∈ (oa, listOf os.toArray no) :: KeyL w 229 x dx S bf t1 bi t2, p.1 < L' := fun p hp => small _ _ (N0 p hp).1
  k_lt l1
  (try dsimp only)
  (try k_extra "m_letA")
  (try k_fold)
  have hr := rest_kept N hdis kept
  k_steps
  unfold Hold
  rename Fr _ _ _ _ => fr1
  rename News _ _ _ _ => ne1
  refine KBa.make_K fr1 ne1 rfl (News.isList ne1 (List.Mem.head _)) hI hb (by lia) ?_
  intro h8 t8 k8 fr2 ne2 hin8
  clear fr1 ne1
  have hbb := KBa.ints_make hin8
  k_steps
  unfold Hold
  rename Fr _ _ _ _ => fr3
  rename News _ _ _ _ => ne3
  rename KBw.bInts _ = List.reverse _ => hc9
  refine list_bytesL rfl fr3 ne3 ?_ ?hz
  case hz =>
    have e := congrArg List.length hc9
    rw [KBw.ints_length, List.length_reverse, KTBy.little_length] at e
    rw [sizeLine_eq]; lia
  intro D8 h8 tk8 ys8 c8 hD8 hlt8 hI8 fr8 ne8
  rw [hc9] at hI8
  have g1 := hlt8 _ (.head _)
  have g2 := hlt8 _ (.tail _ (.head _))
  have g3 := hlt8 _ (.tail _ (.tail _ (.head _)))
  clear hlt8 hD8 fr3 ne3
  have q1 : @Ne Nat D8 x := Nat.ne_of_gt g1
  have q2 : @Ne Nat D8 dx := Nat.ne_of_gt g2
  have q3 : @Ne Nat D8 oa := Nat.ne_of_gt g3
  k_steps
  (rename Fr g' _ _ _ => fr8); (rename News g' _ _ _ => ne8); exact m_ret hret fr8 ne8 (by assumption) (by assumption) hr N (by k_extra "m_pre") ⟨_, _, _, _, _, _, _, q3, q1, q2, hI8, by assumption⟩
end
section
local macro_rules | `(tactic| walk_at "call ref") => `(tactic| (k_here; (with_reducible show wpAny _ _ (call (Value.ref 121) _) _ _ _); k_dflt (walk_at "m_inline")))
local macro_rules | `(tactic| walk_at "call ref") => `(tactic| (k_here; (with_reducible show wpAny _ _ (call (Value.ref 114) _) _ _ _); k_dflt (walk_at "m_inline")))
local macro_rules | `(tactic| walk_at "compareOp NotIn str ref") => `(tactic| (refine hold ?_))
local macro_rules | `(tactic| walk_at "subscriptTail Name Name ref str") => `(tactic| (refine hold ?_))
local macro_rules | `(tactic| walk_at "call type:bytes") => `(tactic| (refine hold ?_))
local macro_rules | `(tactic| walk_at "exec Raise some none") => `(tactic| ((with_reducible show wpAny _ _ (exec (Stmt.Raise (some (Expr.Call (Expr.Name (Str.ofString "OverflowError") _) _ _ _)) none _) _) _ _ _); refine Raise_new rfl ?_))
local macro_rules | `(tactic| walk_at "call type:OverflowError") => `(tactic| (k_here; (with_reducible show wpAny _ _ (call (Value.type "OverflowError") _) (Raisable _) _ _); k_dflt (refine call_exc_raise PySem.F.excClass_OverflowError ?_); intro h9 e9 hN9; (try dsimp only)))
local macro_rules | `(tactic| walk_at "leaving ref") => `(tactic| (k_here; (rename RaisedD _ _ _ _ _ _ _ _ => rkD); k_dflt (refine' leave_onD ?r1 ?r2 rkD ?r4 ?_; (case r1 => assumption); (case r2 => assumption); (case r4 => assumption); k_whole); clear rkD; intro h9 R9 U9; (try dsimp only at R9 U9 ⊢)))
local macro_rules | `(tactic| walk_at "leaving ref") => `(tactic| (k_here; (rename Heap.NewExc _ _ _ _ => hNX); k_dflt (refine' leave_newD hNX ?r1 ?r2 ?r3 ?_; (case r1 => assumption); (case r2 => assumption); (case r3 => assumption); k_whole); clear hNX; intro h9 dd9 R9 U9; (try dsimp only at R9 U9 ⊢)))
local macro_rules | `(tactic| walk_at "noteFrame ref") => `(tactic| (k_here; (rename RaisedD _ _ _ _ _ _ _ _ => rkD); k_dflt (refine' caught_O1 rkD ?r1 ?r2 ?r3 ?r4 ?r5 ?r6 ?_; (case r1 => assumption); (case r2 => assumption); (case r3 => assumption); (case r4 => assumption); (case r5 => assumption); (case r6 => first | k_is | kernel_rfl); k_whole); clear rkD; intro h9 g9 T9 F9 N9 K9 X9 P9; k_sweep))
local macro_rules | `(tactic| walk_at "binaryOp Mod str ref") => `(tactic| (refine hold ?_))
theorem hN_le8 {i : Nat} (hi : i < 9) : (hN.getD i (Str.ofString "")).length ≤ 8 := by
  k_with "m:call ref" => ((k_here; (with_reducible show wpAny _ _ (call (Value.ref 297) _) _ _ _); refine hold ?_))
  k_with "m:call ref" => ((k_here; (with_reducible show wpAny _ _ (call (Value.ref 297) _) _ _ _); k_dflt ((refine Ctr.use (c_toldo _ _ _ _ ?_ ?_ ?_ (by assumption) (by assumption) (by exact hoI9) ?_ ?_ ?_ ?_) (by k_asm) (by k_asm) (by k_asm) (by k_asm) (by k_asm) (by first | exact rfl | assumption) (by k_extra "m_pre") (by walk_at "m_rest") (by first | exact roomk (by assumption) (by decide) | exact roomk2 (by assumption) (by decide) | ktr_room) (by first | exact roomk (by assumption) (by decide) | exact roomk2 (by assumption) (by decide) | ktr_units) ?_); (assumption); (assumption); (assumption); (assumption); (lia); (((try dsimp only); with_reducible assumption)); (((try dsimp only); with_reducible assumption))); rintro v9 l9 h9 tk9 ⟨ra9, rs9, rn9, b9, s9, i9, t9, hra1, hra2, hra3, hrI9, h9a⟩ hlo9 F9 N9; replace hlo9 := sepL_of hlo9; (try dsimp only [sepL, sepR, StL, KeyL, PubL] at hlo9); (try dsimp only [List.cons_append, List.nil_append] at N9); k_sweep; (try k_fold)))
  have : ∀ i : Fin 9, (hN.getD i.val (Str.ofString "")).length ≤ 8 := by decide
  exact this ⟨i, hi⟩
theorem c_toldl (w : World) (mean : ExcName → Option Value) (mg mb : Str → Option Value) {oa x dx : Nat} {S : KeyS} {bf bi : Int} {t1 t2 th : Tok} {os : List Value} {ms : List Int} {no i : Nat} (hne : @Ne Nat x dx) (hox : @Ne Nat oa x) (hod : @Ne Nat oa dx) (hk9 : KRsa S) (hI : IntsAre os ms) (hb : ∀ k ∈ ms, 0 ≤ k ∧ k < 256) (hl : ms.length ≤ 400) (hi : i < 9) (h12 : 12 ≤ szI S.n) (hlong : szI S.n - 11 < ((hC.getD i []).length : Int) + ms.length) :
    CtrO PySem.Challenge.rw_ys0001_09.row.prog w (Mine.K w.params) Mine.V (looseW Mine.V [Str.ofString "NotRelativePrimeError", Str.ofString "int2bytes", Str.ofString "HASH_ASN1"]) mean mg mb 297 60 450 [.ref oa, .ref x, .str (hN.getD i (Str.ofString "")) th] ((oa, listOf os.toArray no) :: KeyL w 229 x dx S bf t1 bi t2)
      (PStr (Str.ofString "long") ((oa, listOf os.toArray no) :: KeyL w 229 x dx S bf t1 bi t2)) := by
  obtain ⟨hk0, hk1, hk2, hk3⟩ := hk9.ok
  have hcl := hC_len hi
  have hsz : szI S.n ≤ 155 := by have := szI_le hk1; lia
  have hs0 := szI_nn S.n
  have hnl := hN_le8 hi
  w_top off
  k_fill
  intro dp un gd cn cs' a ccd A₀ h₀ L m rest s Q E B F X N hdis T hk hd hu hret
  refine wpAny_call ?_
  have N0 := news_left N
  k_dflt refine' code_defSR (binds := [(Str.ofString "told", .ref oa), (Str.ofString "private", .ref x), (Str.ofString "name", .str (hN.getD i (Str.ofString "")) th)]) B F X N0 T ?kA ?k6 ?k7 ?k8 ?k9 ?kB ?_ ?kK ?c2 ?c3 ?c4 ?c5
  k_dflt ((case kA => exact rfl); (case kK => assumption); (case k6 => k_is); (case k7 => k_is); (case k8 => ktr_room); (case k9 => exact BindsTo.of_eq rfl); (case c5 => decide); (case kB => exact locs rfl); (case c2 => exact rfl); (case c3 => exact rfl); (case c4 => exact rfl); k_whole)
  intro g' L' h' FG F' N' B' X' T' D' kept small
  (try dsimp only)
  (try k_extra "m_letA")
  (try k_fold)
  have hr := rest_kept N hdis kept
  k_steps
  unfold Hold
  rename Fr _ _ _ _ => fr1
  rename News _ _ _ _ => ne1
  refine KBa.make_K fr1 ne1 rfl (News.isList ne1 (List.Mem.head _)) hI ?hin (by lia) ?_
  case hin => exact hb
  intro h8 t8 k8 fr2 ne2 hin8
  clear fr1 ne1
  have hbb := KBa.ints_make hin8
  k_steps
  unfold Hold
  rename Frag.In _ _ => X9
  rename Fr _ _ _ _ => fr3
  obtain ⟨kvs, hT, hTab⟩ := c_tab X9
  obtain ⟨cb, ct, hcv, hcb⟩ := hTab.at hi
  refine tab_notin (hT.keep fr3.keep) (by decide) hcv ?_
  k_steps
  unfold Hold
  rename Fr _ _ _ _ => fr4
  refine tab_item (hT.keep fr4.keep) hcv ?_
  k_steps
  unfold Hold
  rename News _ _ _ _ => ne5
  refine over_msg ne5 (List.Mem.head _) (by omega) (by omega) (by omega) (by omega) ?_
  intro T9 t9 k9
  k_steps
  rename KtsTurn _ _ _ => tn8
  exact m_retO hret (by intro b hb; exact List.mem_singleton.mp hb) tn8 (by assumption) (by assumption) (by assumption) (by assumption) hr N (by k_extra "m_pre") ⟨_⟩
end
section
theorem scr_of {vs : List Value} {ns : List Int} (hI : IntsAre vs ns) (hl : ns.length ≤ 63) (h : PyData.layable0 (.list (ns.map .int)) = true) : Scr vs ns where
  i := hI
  n := by lia
  b := fun x hx => show x.natAbs < 2 ^ 1048577 from Nat.lt_of_lt_of_le (natAbs_lt_pow_bits x) (Nat.pow_le_pow_right (by decide) (Nat.le_trans (intBits_le_of_item hx h) (by decide)))
theorem news_cut {h₀ h : Heap} {L : Addr} {p q1 q2 a b : Addr × Obj} {own r : List (Addr × Obj)} (N : News h₀ L h (p :: (own ++ (q1 :: q2 :: r)))) (ha : a ∈ own) (hb : b ∈ own) : News h₀ L h [a, b, q1, q2] := by
  k_with "m:call ref" => ((k_here; (with_reducible show wpAny _ _ (call (Value.ref 297) _) _ _ _); k_dflt ((refine CtrO.use (c_toldl _ _ _ _ ?_ ?_ ?_ (by assumption) (by exact hoI9) ?_ ?_ ?_ ?_ ?_) (by k_asm) (by k_asm) (by k_asm) (by k_asm) (by k_asm) (by first | exact rfl | assumption) (by k_extra "m_pre") (by walk_at "m_rest") (by first | exact roomk (by assumption) (by decide) | exact roomk2 (by assumption) (by decide) | ktr_room) (by first | exact roomk (by assumption) (by decide) | exact roomk2 (by assumption) (by decide) | ktr_units) ?_); (assumption); (assumption); (assumption); (assumption); (lia); (((try dsimp only); with_reducible assumption)); (((try dsimp only); with_reducible assumption)); (((try dsimp only); with_reducible assumption))); rintro v9 l9 h9 tk9 ⟨tl9⟩ hlo9 F9 N9; clear hlo9; (try dsimp only [List.cons_append, List.nil_append] at N9); k_sweep; (try k_fold)))
  refine news_of N ?_
  intro x hx
  simp only [List.mem_cons, List.not_mem_nil, or_false] at hx
  rcases hx with rfl | rfl | rfl | rfl
  · exact .tail _ (List.mem_append_left _ ha)
  · exact .tail _ (List.mem_append_left _ hb)
  · exact .tail _ (List.mem_append_right _ (.head _))
  · exact .tail _ (List.mem_append_right _ (.tail _ (.head _)))
theorem max_bd (c : Int) (h : c ≤ 200) : 0 ≤ (if c > 0 then c else 0) ∧ (if c > 0 then c else 0) ≤ 200 := by
  split <;> lia
theorem flat_one {n : Nat} : (List.replicate n [(255 : Int)]).flatten = List.replicate n 255 := by
  induction n with
  | zero => rfl
  | succ k ih => rw [List.replicate_succ, List.flatten_cons, ih]; rfl
theorem hC_in {i : Nat} (hi : i < 9) : ∀ k ∈ hC.getD i [], 0 ≤ k ∧ k < 256 := by
  have : ∀ i : Fin 9, ∀ k ∈ hC.getD i.val [], 0 ≤ k ∧ k < 256 := by decide
  exact this ⟨i, hi⟩
theorem blk_in {i K : Nat} {ms : List Int} (hi : i < 9) (h : ∀ k ∈ ms, 0 ≤ k ∧ k < 256) : ∀ k ∈ [0, 1] ++ List.replicate K 255 ++ [0] ++ (hC.getD i [] ++ ms), 0 ≤ k ∧ k < 256 := by
  intro k hk
  simp only [List.mem_append, List.mem_cons, List.not_mem_nil, or_false, List.mem_replicate] at hk
  rcases hk with (((rfl | rfl) | hk) | rfl) | hk | hk
  · decide
  · decide
  · lia
  · decide
  · exact hC_in hi k hk
  · exact h k hk
theorem hD_at : ∀ {i : Nat}, i < 9 → hD[i]? = some (hRow (hN.getD i (Str.ofString ""), hC.getD i []))
  | 0, _ => rfl
  | 1, _ => rfl
  | 2, _ => rfl
  | 3, _ => rfl
  | 4, _ => rfl
  | 5, _ => rfl
  | 6, _ => rfl
  | 7, _ => rfl
  | 8, _ => rfl
  | n + 9, h => absurd h (by lia)
local macro_rules | `(tactic| walk_at "binaryOp Mult int int") => `(tactic| (refine hold ?_))
local macro_rules | `(tactic| walk_at "eval Call") => `(tactic| (k_dflt (refine PyProof.Rows.Call_ ?_)))
local macro_rules | `(tactic| walk_at "subscriptTail Call BinOp ref int") => `(tactic| (refine hold ?_))
local macro_rules | `(tactic| walk_at "subscriptTail Call Name nil nil BinOp ref int") => `(tactic| (refine hold ?_))
local macro_rules | `(tactic| walk_at "exec Return some") => `(tactic| (refine hold ?_))
local macro_rules | `(tactic| walk_at "exec If") => `(tactic| (refine hold ?_))
theorem holds : PySem.Challenge.rw_ys0001_09.Holds := by
  w_on
  refine holds_law hSaid fun said => ?_
  refine holds_open (q := V) (loose := [Str.ofString "NotRelativePrimeError", Str.ofString "int2bytes", Str.ofString "HASH_ASN1"]) (Xt := (fun s => xlAt V [] s && recOk (RowW.records PySem.Challenge.rw_ys0001_09.row.toRowW) s)) (XP := XL V []) (Yf := Hook.obs (kHook K (2 :: 3 :: 15 :: 17 :: 18 :: 20 :: 21 :: 22 :: 29 :: 30 :: 32 :: 33 :: 35 :: 36 :: 37 :: 38 :: 39 :: 40 :: 43 :: 45 :: 46 :: 48 :: 49 :: 50 :: 52 :: 53 :: 55 :: 56 :: 57 :: 59 :: 60 :: 62 :: 63 :: 64 :: 66 :: 67 :: 69 :: 70 :: 71 :: 73 :: 74 :: 76 :: 77 :: 78 :: 80 :: 81 :: 83 :: 84 :: 85 :: 87 :: 88 :: 90 :: 91 :: 92 :: 94 :: 95 :: 97 :: 98 :: 99 :: 100 :: 102 :: 103 :: 105 :: 106 :: 107 :: 108 :: 110 :: 111 :: 113 :: 114 :: 115 :: 117 :: 118 :: 120 :: 121 :: 122 :: 124 :: 125 :: 127 :: 128 :: 129 :: 131 :: 132 :: 134 :: 135 :: 143 :: 145 :: 146 :: 148 :: 149 :: 150 :: 152 :: 153 :: 155 :: 156 :: 157 :: 159 :: 160 :: 162 :: 163 :: 164 :: 166 :: 167 :: 169 :: 170 :: 171 :: 173 :: 174 :: 176 :: 177 :: 178 :: 179 :: 180 :: 181 :: 182 :: 185 :: 192 :: 194 :: 195 :: 197 :: 198 :: 199 :: 201 :: 202 :: 204 :: 205 :: 206 :: 208 :: 209 :: 211 :: 212 :: 213 :: 215 :: 216 :: 218 :: 219 :: 220 :: 222 :: 223 :: 225 :: 226 :: 227 :: 228 :: 229 :: 232 :: 234 :: 235 :: 237 :: 238 :: 239 :: 241 :: 242 :: 244 :: 245 :: 246 :: 248 :: 249 :: 251 :: 252 :: 253 :: 255 :: 256 :: 258 :: 259 :: 260 :: 262 :: 263 :: 265 :: 266 :: 267 :: 270 :: 271 :: 272 :: 274 :: 275 :: 277 :: 278 :: 279 :: 282 :: 283 :: 284 :: 286 :: 287 :: 289 :: 290 :: 291 :: 293 :: 294 :: 296 :: 297 :: 298 :: 300 :: 301 :: 303 :: 304 :: []) hKas)) (Ya := Hook.val (kHook K (2 :: 3 :: 15 :: 17 :: 18 :: 20 :: 21 :: 22 :: 29 :: 30 :: 32 :: 33 :: 35 :: 36 :: 37 :: 38 :: 39 :: 40 :: 43 :: 45 :: 46 :: 48 :: 49 :: 50 :: 52 :: 53 :: 55 :: 56 :: 57 :: 59 :: 60 :: 62 :: 63 :: 64 :: 66 :: 67 :: 69 :: 70 :: 71 :: 73 :: 74 :: 76 :: 77 :: 78 :: 80 :: 81 :: 83 :: 84 :: 85 :: 87 :: 88 :: 90 :: 91 :: 92 :: 94 :: 95 :: 97 :: 98 :: 99 :: 100 :: 102 :: 103 :: 105 :: 106 :: 107 :: 108 :: 110 :: 111 :: 113 :: 114 :: 115 :: 117 :: 118 :: 120 :: 121 :: 122 :: 124 :: 125 :: 127 :: 128 :: 129 :: 131 :: 132 :: 134 :: 135 :: 143 :: 145 :: 146 :: 148 :: 149 :: 150 :: 152 :: 153 :: 155 :: 156 :: 157 :: 159 :: 160 :: 162 :: 163 :: 164 :: 166 :: 167 :: 169 :: 170 :: 171 :: 173 :: 174 :: 176 :: 177 :: 178 :: 179 :: 180 :: 181 :: 182 :: 185 :: 192 :: 194 :: 195 :: 197 :: 198 :: 199 :: 201 :: 202 :: 204 :: 205 :: 206 :: 208 :: 209 :: 211 :: 212 :: 213 :: 215 :: 216 :: 218 :: 219 :: 220 :: 222 :: 223 :: 225 :: 226 :: 227 :: 228 :: 229 :: 232 :: 234 :: 235 :: 237 :: 238 :: 239 :: 241 :: 242 :: 244 :: 245 :: 246 :: 248 :: 249 :: 251 :: 252 :: 253 :: 255 :: 256 :: 258 :: 259 :: 260 :: 262 :: 263 :: 265 :: 266 :: 267 :: 270 :: 271 :: 272 :: 274 :: 275 :: 277 :: 278 :: 279 :: 282 :: 283 :: 284 :: 286 :: 287 :: 289 :: 290 :: 291 :: 293 :: 294 :: 296 :: 297 :: 298 :: 300 :: 301 :: 303 :: 304 :: []) hKas)) (YP := Hook.says (kHook K (2 :: 3 :: 15 :: 17 :: 18 :: 20 :: 21 :: 22 :: 29 :: 30 :: 32 :: 33 :: 35 :: 36 :: 37 :: 38 :: 39 :: 40 :: 43 :: 45 :: 46 :: 48 :: 49 :: 50 :: 52 :: 53 :: 55 :: 56 :: 57 :: 59 :: 60 :: 62 :: 63 :: 64 :: 66 :: 67 :: 69 :: 70 :: 71 :: 73 :: 74 :: 76 :: 77 :: 78 :: 80 :: 81 :: 83 :: 84 :: 85 :: 87 :: 88 :: 90 :: 91 :: 92 :: 94 :: 95 :: 97 :: 98 :: 99 :: 100 :: 102 :: 103 :: 105 :: 106 :: 107 :: 108 :: 110 :: 111 :: 113 :: 114 :: 115 :: 117 :: 118 :: 120 :: 121 :: 122 :: 124 :: 125 :: 127 :: 128 :: 129 :: 131 :: 132 :: 134 :: 135 :: 143 :: 145 :: 146 :: 148 :: 149 :: 150 :: 152 :: 153 :: 155 :: 156 :: 157 :: 159 :: 160 :: 162 :: 163 :: 164 :: 166 :: 167 :: 169 :: 170 :: 171 :: 173 :: 174 :: 176 :: 177 :: 178 :: 179 :: 180 :: 181 :: 182 :: 185 :: 192 :: 194 :: 195 :: 197 :: 198 :: 199 :: 201 :: 202 :: 204 :: 205 :: 206 :: 208 :: 209 :: 211 :: 212 :: 213 :: 215 :: 216 :: 218 :: 219 :: 220 :: 222 :: 223 :: 225 :: 226 :: 227 :: 228 :: 229 :: 232 :: 234 :: 235 :: 237 :: 238 :: 239 :: 241 :: 242 :: 244 :: 245 :: 246 :: 248 :: 249 :: 251 :: 252 :: 253 :: 255 :: 256 :: 258 :: 259 :: 260 :: 262 :: 263 :: 265 :: 266 :: 267 :: 270 :: 271 :: 272 :: 274 :: 275 :: 277 :: 278 :: 279 :: 282 :: 283 :: 284 :: 286 :: 287 :: 289 :: 290 :: 291 :: 293 :: 294 :: 296 :: 297 :: 298 :: 300 :: 301 :: 303 :: 304 :: []) hKas)) (N := 4078) ?hl (Hook.of (kHook K (2 :: 3 :: 15 :: 17 :: 18 :: 20 :: 21 :: 22 :: 29 :: 30 :: 32 :: 33 :: 35 :: 36 :: 37 :: 38 :: 39 :: 40 :: 43 :: 45 :: 46 :: 48 :: 49 :: 50 :: 52 :: 53 :: 55 :: 56 :: 57 :: 59 :: 60 :: 62 :: 63 :: 64 :: 66 :: 67 :: 69 :: 70 :: 71 :: 73 :: 74 :: 76 :: 77 :: 78 :: 80 :: 81 :: 83 :: 84 :: 85 :: 87 :: 88 :: 90 :: 91 :: 92 :: 94 :: 95 :: 97 :: 98 :: 99 :: 100 :: 102 :: 103 :: 105 :: 106 :: 107 :: 108 :: 110 :: 111 :: 113 :: 114 :: 115 :: 117 :: 118 :: 120 :: 121 :: 122 :: 124 :: 125 :: 127 :: 128 :: 129 :: 131 :: 132 :: 134 :: 135 :: 143 :: 145 :: 146 :: 148 :: 149 :: 150 :: 152 :: 153 :: 155 :: 156 :: 157 :: 159 :: 160 :: 162 :: 163 :: 164 :: 166 :: 167 :: 169 :: 170 :: 171 :: 173 :: 174 :: 176 :: 177 :: 178 :: 179 :: 180 :: 181 :: 182 :: 185 :: 192 :: 194 :: 195 :: 197 :: 198 :: 199 :: 201 :: 202 :: 204 :: 205 :: 206 :: 208 :: 209 :: 211 :: 212 :: 213 :: 215 :: 216 :: 218 :: 219 :: 220 :: 222 :: 223 :: 225 :: 226 :: 227 :: 228 :: 229 :: 232 :: 234 :: 235 :: 237 :: 238 :: 239 :: 241 :: 242 :: 244 :: 245 :: 246 :: 248 :: 249 :: 251 :: 252 :: 253 :: 255 :: 256 :: 258 :: 259 :: 260 :: 262 :: 263 :: 265 :: 266 :: 267 :: 270 :: 271 :: 272 :: 274 :: 275 :: 277 :: 278 :: 279 :: 282 :: 283 :: 284 :: 286 :: 287 :: 289 :: 290 :: 291 :: 293 :: 294 :: 296 :: 297 :: 298 :: 300 :: 301 :: 303 :: 304 :: []) hKas)) (Hook.keeps (kHook K (2 :: 3 :: 15 :: 17 :: 18 :: 20 :: 21 :: 22 :: 29 :: 30 :: 32 :: 33 :: 35 :: 36 :: 37 :: 38 :: 39 :: 40 :: 43 :: 45 :: 46 :: 48 :: 49 :: 50 :: 52 :: 53 :: 55 :: 56 :: 57 :: 59 :: 60 :: 62 :: 63 :: 64 :: 66 :: 67 :: 69 :: 70 :: 71 :: 73 :: 74 :: 76 :: 77 :: 78 :: 80 :: 81 :: 83 :: 84 :: 85 :: 87 :: 88 :: 90 :: 91 :: 92 :: 94 :: 95 :: 97 :: 98 :: 99 :: 100 :: 102 :: 103 :: 105 :: 106 :: 107 :: 108 :: 110 :: 111 :: 113 :: 114 :: 115 :: 117 :: 118 :: 120 :: 121 :: 122 :: 124 :: 125 :: 127 :: 128 :: 129 :: 131 :: 132 :: 134 :: 135 :: 143 :: 145 :: 146 :: 148 :: 149 :: 150 :: 152 :: 153 :: 155 :: 156 :: 157 :: 159 :: 160 :: 162 :: 163 :: 164 :: 166 :: 167 :: 169 :: 170 :: 171 :: 173 :: 174 :: 176 :: 177 :: 178 :: 179 :: 180 :: 181 :: 182 :: 185 :: 192 :: 194 :: 195 :: 197 :: 198 :: 199 :: 201 :: 202 :: 204 :: 205 :: 206 :: 208 :: 209 :: 211 :: 212 :: 213 :: 215 :: 216 :: 218 :: 219 :: 220 :: 222 :: 223 :: 225 :: 226 :: 227 :: 228 :: 229 :: 232 :: 234 :: 235 :: 237 :: 238 :: 239 :: 241 :: 242 :: 244 :: 245 :: 246 :: 248 :: 249 :: 251 :: 252 :: 253 :: 255 :: 256 :: 258 :: 259 :: 260 :: 262 :: 263 :: 265 :: 266 :: 267 :: 270 :: 271 :: 272 :: 274 :: 275 :: 277 :: 278 :: 279 :: 282 :: 283 :: 284 :: 286 :: 287 :: 289 :: 290 :: 291 :: 293 :: 294 :: 296 :: 297 :: 298 :: 300 :: 301 :: 303 :: 304 :: []) hKas)) (fun s e => xl_of s (Bool.and_eq_true_iff.mp e).1) XL.keeps (by rfl) (by rfl) (by rfl) (fun s e => recFacts_of (Bool.and_eq_true_iff.mp e).2) (by rfl) (by first | assumption | decide +kernel) (by decide +kernel) ⟨rfl, rfl, rfl, rfl, rfl, by decide +kernel⟩ ?hw ?hc
  case hl => exact hLeft
  case hw => w_witness2
  w_top off
  k_fill
  intro w s₀ s₁ mg mb G Y fa o pm cd doc dV kV ho hd hcd hdf9 hmg hg args vals as hpre hlay hrd hwl hlo
  have KX := kIn_of Y
  have X := (Ground.X G).1
  have V9 := (Ground.X G).2
  refine Ground.open G ?_
  intro T B D TE TW
  (try (refine guard_noD D (by decide +kernel) ?_; clear D))
  obtain ⟨_, _, M⟩ := bmod_of_top T
  have TA := at_of_top T
  (try (obtain ⟨_, _, he, B0⟩ := based_of_top T rfl hmg ho hd; have he' : cd = _ := he; subst he'; clear he))
  clear hmg
  wrow_args hpre hlay hrd hwl hlo
  (first | refine callC_kw (enter_call ?_) | refine enter_call ?_ | refine callC_kw (enter_callW ?_) | refine enter_callW ?_)
  w_top on
  (try refine codeAny_mono ?_ (fun _ _ g => GoodW.toG g))
  have K0 := below_caller (Top.heap T)
  w_call any ho hd hcd hdf9 T F
  clear hd TA
  k_drop
  clear said
  (all_goals try k_fold)
  rename IntsAre _ _ => hIS
  rename PyData.layable0 (PyData.list _) = true => hLay
  have hScr := scr_of hIS (by lia) hLay
  refine abs_QE ?_
  intro Q9 E9 hqq
  (try k_extra "m_letA")
  k_steps
  unfold Hold
  have hpB := hp9.2.1
  have hqB := hq9.2.1
  have hp3 := hp9.1
  have hq3 := hq9.1
  have hpqB : Bd 1240 (p9 * q9) := (hpB.mul hqB).mono (by decide)
  have hg9 : Int.gcd q9 p9 = 1 := by first | exact primes_gcd hp9 hq9 hpq9 | exact primes_gcd hq9 hp9 hpq9.symm
  have hdB9 : Bd 1230 d9 := by
    have hx := dB_pq hp9 hq9
    unfold Bd at hx ⊢
    refine Nat.lt_of_le_of_lt ?_ hx
    generalize (p9 - 1) * (q9 - 1) = W9 at *
    lia
  refine mul_int ?_ (mulOkB 610 610 (hpB.mono (by decide)) (hqB.mono (by decide)) (by decide))
  k_steps
  unfold Hold
  rename News _ _ _ _ => ne8
  have hf9 := fmod_nn (a := r9) (b := 9) (by decide)
  obtain ⟨i7, hi7, hi8⟩ : ∃ i7 : Nat, r9.fmod 9 = (i7 : Int) ∧ i7 < 9 := ⟨(r9.fmod 9).toNat, by lia, by lia⟩
  obtain ⟨v7, hv7, hd7⟩ := datAll_get hD9 (hD_at hi8)
  obtain ⟨a7, n7, b7, ws7, k7, tt7, rfl, hm7, hm8, hI7⟩ := hRow_in hd7
  dsimp only at hm7 hI7
  have hcl7 := hC_len hi8
  have hax : @Ne Nat a7 x9 := Ne.symm (hcs9 _ (.head _) _ (.tail _ hm7))
  have hadx : @Ne Nat a7 dx9 := Ne.symm (hcs9 _ (.tail _ (.head _)) _ (.tail _ hm7))
  have hbx : @Ne Nat b7 x9 := Ne.symm (hcs9 _ (.head _) _ (.tail _ hm8))
  have hbdx : @Ne Nat b7 dx9 := Ne.symm (hcs9 _ (.tail _ (.head _)) _ (.tail _ hm8))
  refine item_any i7 ne8 (List.Mem.head _) hi7 hv7 (by lia) (by with_unfolding_all rfl) ?_
  have ne9 := news_cut ne8 hm7 hm8
  clear ne8 hcs9 hm7 hm8 hd7
  k_steps
  unfold Hold
  rename Fr _ _ _ _ => fr1
  rename News _ _ _ _ => ne1
  have hmany := fmod_nn (a := r9) (b := 101) (by decide)
  have hmany2 : 0 ≤ r9.fmod 101 ∧ r9.fmod 101 ≤ 200 := ⟨hmany.1, by lia⟩
  have hszv : szI (p8 * q8) ≤ 155 := by have := szI_le hpqB; lia
  with_unfolding_all refine m_join (σ := Int × Tok) (fun _ => tlN ne1 1) (fun c => [(Str.ofString "many", .int c.1 c.2)]) [Str.ofString "many"] (fun c => 0 ≤ c.1 ∧ c.1 ≤ 200) fr1 ?_ ?_
  · refine wpAny_If ?_
    (try k_fold)
    k_steps
    all_goals (dsimp only [JPost]; (have hm2 := fmod_nn (a := r9.fdiv 4) (b := 2) (by decide)); (rename Fr _ _ _ _ => fr8); (rename News _ _ _ _ => ne8); (with_unfolding_all refine' m_jend (_, _) fr8 ne8 ?hn (List.forall_mem_cons.mpr ⟨rfl, List.forall_mem_nil _⟩) ?hr ?hP); (case hn => dsimp only [tlN, List.drop]; k_extra "m_pre"); (case hr => k_extra "m_same"); (case hP => first | exact hmany2 | exact max_bd _ (by lia)))
  · rintro ⟨k9, tk9⟩ u h tk ⟨hk0, hk1⟩ fr6 ne6
    dsimp only [tlN, List.drop] at hk0 hk1 fr6 ne6 ⊢
    clear fr1 ne1
    (try k_fold)
    k_steps
    unfold Hold
    rename News _ _ _ _ => ne1
    have ne4 := news_of (l' := hdN ne1 2 ++ tlN ne1 3) ne1 (by dsimp only [hdN, tlN, List.take, List.drop, List.cons_append, List.nil_append]; k_extra "m_pre")
    dsimp only [hdN, tlN, List.take, List.drop, List.cons_append, List.nil_append] at ne4
    clear ne1
    have hcl8 : ((hC.getD i7 [] ++ ko9).length : Int) = ((hC.getD i7 []).length : Int) + ko9.length := by rw [List.length_append]; lia
    have hox : @Ne Nat oa9 x9 := (by k_ne)
    have hod : @Ne Nat oa9 dx9 := (by k_ne)
    have hn0 : 0 < p8 * q8 := Int.mul_pos (by lia) (by lia)
    have hn7 : ko9.length ≤ 400 := by lia
    by_cases hfit : ((hC.getD i7 []).length : Int) + ko9.length ≤ szI (p8 * q8) - 11
    · refine wpAny_If ?_
      k_steps
      unfold Hold
      rename IntsAre _ (_ ++ (hC.getD i7 [] ++ ko9)) => hI9
      rw [flat_one, ← List.length_append] at hI9
      rename News _ _ _ _ => ne1
      have ne4 := news_of (l' := hdN ne1 1 ++ tlN ne1 8) ne1 (by dsimp only [hdN, tlN, List.take, List.drop, List.cons_append, List.nil_append]; k_extra "m_pre")
      dsimp only [hdN, tlN, List.take, List.drop, List.cons_append, List.nil_append] at ne4
      clear ne1
      have hb9 := blk_in (i := i7) (K := (szI (p8 * q8) - ((hC.getD i7 [] ++ ko9).length : Int) - 3).toNat) hi8 hoB9
      have hl9 : ([0, 1] ++ List.replicate (szI (p8 * q8) - ((hC.getD i7 [] ++ ko9).length : Int) - 3).toNat 255 ++ [0] ++ (hC.getD i7 [] ++ ko9)).length ≤ 155 := by
        simp only [List.length_append, List.length_replicate, List.length_cons, List.length_nil]
        lia
      have hPM0 := PM_nn (KFB.value ([0, 1] ++ List.replicate (szI (p8 * q8) - ((hC.getD i7 [] ++ ko9).length : Int) - 3).toNat 255 ++ [0] ++ (hC.getD i7 [] ++ ko9))) d8 (p8 * q8)
      have hPMB : Bd 1240 (PM (KFB.value ([0, 1] ++ List.replicate (szI (p8 * q8) - ((hC.getD i7 [] ++ ko9).length : Int) - 3).toNat 255 ++ [0] ++ (hC.getD i7 [] ++ ko9))) d8 (p8 * q8)) := PM_bd hn0 hpqB
      k_steps
      unfold Hold
      rename News _ _ _ _ => ne2
      have hwo : @Ne Nat wa9 oa9 := (by k_ne)
      have hwx : @Ne Nat wa9 x9 := (by k_ne)
      have hwd : @Ne Nat wa9 dx9 := (by k_ne)
      have ne3 := news_of (l' := hdN ne2 1 ++ tlN ne2 2) ne2 (by dsimp only [hdN, tlN, List.take, List.drop, List.cons_append, List.nil_append]; k_extra "m_pre")
      dsimp only [hdN, tlN, List.take, List.drop, List.cons_append, List.nil_append] at ne3
      clear ne2
      refine wpAny_Return_some ?_
      k_steps
      all_goals (refine hqq _ _ ?_; k_steps)
    · have hlong : szI (p8 * q8) - 11 < ((hC.getD i7 []).length : Int) + ko9.length := Int.not_le.mp hfit
      refine wpAny_If ?_
      k_steps
      unfold Hold
      rename News _ _ _ _ => ne2
      have ne3 := news_of (l' := tlN ne2 1) ne2 (by dsimp only [hdN, tlN, List.take, List.drop, List.cons_append, List.nil_append]; k_extra "m_pre")
      dsimp only [hdN, tlN, List.take, List.drop, List.cons_append, List.nil_append] at ne3
      clear ne2
      refine wpAny_Return_some ?_
      k_steps
      all_goals (refine hqq _ _ ?_; k_steps)
end
end Mine
theorem PySem.Challenge.cw_ys0001_09_holds : PySem.Challenge.rw_ys0001_09.Holds :=
  Mine.holds
