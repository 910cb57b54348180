import PyProof.Rows.All
import Wide.All
import OpenK.AllK
import Wide.FinOn
import Lean
import PySem.Challenge.RW_ys0001_05
set_option compiler.extract_closed false
open PySem PySem.W PySem.Spec PySem.Calls PyProof.Rows
set_option Elab.async false
set_option maxRecDepth 100000
set_option maxHeartbeats 8000000
set_option linter.unusedVariables false
set_option linter.unusedSimpArgs false
set_option linter.all false
namespace Mine
noncomputable section
noncomputable def nthS : List Stmt → Nat → Stmt
  | [], _ => default
  | s :: _, 0 => s
  | _ :: r, n + 1 => nthS r n
noncomputable def fdA : Stmt → Arguments
  | .FunctionDef _ a _ _ _ _ _ _ _ _ => a
  | _ => default
noncomputable def fdB : Stmt → List Stmt
  | .FunctionDef _ _ b _ _ _ _ _ _ _ => b
  | .ClassDef _ _ _ b _ _ _ _ _ _ _ => b
  | _ => []
noncomputable def fdS : Stmt → Scope
  | .FunctionDef _ _ _ _ _ _ s _ _ _ => s
  | _ => default
noncomputable def fdT (s : Stmt) : Arguments × List Stmt × Scope := (fdA s, fdB s, fdS s)
end
end Mine

namespace Mine

theorem code_defR {prog : Program} {w : World} {A₀ A : Around} {s : Shared} {K : Frag} {L : Addr} {h₀ base : Heap} {m mg mb : Str → Option Value} {news : List (Addr × Obj)} {p : Program} {loose : List Str} {mean : ExcName → Option Value}
    {env : Env} {outer : List Env} {R : Result → Shared → Prop} {name qual : Str} {params : Arguments} {body : List Stmt} {scope : Scope} {dV kV doc pm cdv ct oc : Value} {an od : Option Addr} {osl : Array (Option Value)} {f : Addr} {args : Args} {binds : List (Str × Value)}
    (B : Below A₀ base outer h₀) (F : Fr h₀ L s.heap m) (X₀ : K.In h₀) (N : News h₀ L s.heap news) (T : Top p loose mean mg mb h₀) (hA : A.frames = some (env :: outer)) (hf : env.frame = some L) (hke : env.scope.kind = .function)
    (ho : K.lookup f = some ⟨oc, od, .func (fnOf name qual params body scope dV kV doc pm an cdv ct), osl⟩) (hcd : codeIn K cdv qual = true) (hroom : A.depth < recursionLimit)
    (hbind : BindsTo s (fnOf name qual params body scope dV kV doc pm an cdv ct) args binds) (hloc : ∀ y ∈ binds, scope.names.lookup y.1 = some .local)
    (h : ∀ g L' h₁, Fr h₀ L g m → Fr g L' h₁ (fun y => binds.reverse.lookup y) → News g L' h₁ news → Below A base (env :: outer) g → K.In g → Top p loose mean mg mb g →
      (∀ b o, s.heap.get? b = some o → b ∉ news.map (·.1) → g.get? b = some o) → (∀ b o, s.heap.get? b = some o → b < L') →
      wpAny (model prog w) (A.deeper (envOf qual scope L' f cdv)) (execs body (envOf qual scope L' f cdv))
        (fun fl s' => LeaveK h₀ L m g R (match fl with | .ret v => v | _ => .none) s')
        (fun e s' => wpAny (model prog w) (A.deeper (envOf qual scope L' f cdv)) (leaving (envOf qual scope L' f cdv) e) (fun _ s'' => R (.error e) s'') (fun e' s'' => R (.error e') s'') s')
        { s with heap := h₁, toks := s.toks + binds.length })
    (hco : scope.isCoroutine = false) (hgen : scope.isGenerator = false) (hk : scope.kind = .function)
    (hcell : ∀ x ∈ scope.names, x.2 ≠ .cell) : codeAny (model prog w) A (.call (.ref f) args) R s := by
  obtain ⟨FG, BG, st, lv⟩ := groundX (R := R) B F N hA hf hke
  refine codeAny_call_def (fd := fnOf name qual params body scope dV kV doc pm an cdv ct) (body := body) (binds := binds) hroom ((X₀.keeps F.keep) _ _ ho) rfl (T.nolimit.keeps F.keep) (codeRec_of (X₀.keeps F.keep) hcd) rfl hbind hcell hloc (fun h₁ hns hk₁ => ?_) hco hgen hk
  exact wpAny_mono (h _ s.heap.objs.size h₁ FG ⟨hns, fun b o e => hk₁ b o (of_hideAll _ e), Nat.le_of_eq (hideAll_size _ _)⟩
    (fun p hp => ⟨hk₁ _ _ (N p hp).1, Nat.ne_of_lt (Heap.lt_size (N p hp).1), hideAll_none _ (List.mem_map_of_mem hp)⟩) BG (X₀.keeps st) (T.keeps st)
    (fun b o e hb => hideAll_get _ e hb) (fun b o e => Heap.lt_size e)) (fun fl s' hl => lv _ _ hl) fun _ _ y => y


noncomputable def Ctr (prog : Program) (w : World) (K : Frag) (p : Program) (loose : List Str) (mean : ExcName → Option Value) (mg mb : Str → Option Value) (f : Addr) (D U : Nat) (vs : List Value) (pre : List (Addr × Obj)) (Post : Value → List (Addr × Obj) → Prop) : Prop :=
  ∀ (dp un : Nat) (gd : Option (List Code)) (cn : Str) (cs : Scope) (a : Addr) (ccd : Value) (cl : List (Str × Addr)) (outer : List Env) (A₀ : Around) (base h₀ : Heap) (L : Addr) (m : Str → Option Value) (rest : List (Addr × Obj)) (s : Shared)
    (Q E : Value → Shared → Prop),
    Below A₀ base outer h₀ → Fr h₀ L s.heap m → K.In h₀ → News h₀ L s.heap (pre ++ rest) → (∀ q ∈ rest, ∀ r ∈ pre, q.1 ≠ r.1) → Top p loose mean mg mb h₀ → cs.kind = .function → dp + D < recursionLimit → un + U < cLine →
    (∀ v pst h' tk', Post v pst → (∀ q ∈ rest, ∀ r ∈ pst, q.1 ≠ r.1) → Fr h₀ L h' m → News h₀ L h' (pst ++ rest) → Q v { s with heap := h', toks := tk' }) →
    wpAny (model prog w) (ktrTop dp un gd cn cs L a ccd cl outer) (call (.ref f) vs) Q E s

noncomputable def CtrB (prog : Program) (w : World) (K : Frag) (p : Program) (loose : List Str) (mean : ExcName → Option Value) (mg mb : Str → Option Value) (f : Addr) (D U : Nat) (vs : List Value) (pre : List (Addr × Obj)) (Pb : Heap → Prop) (Post : Value → List (Addr × Obj) → Prop) : Prop :=
  ∀ (dp un : Nat) (gd : Option (List Code)) (cn : Str) (cs : Scope) (a : Addr) (ccd : Value) (cl : List (Str × Addr)) (outer : List Env) (A₀ : Around) (base h₀ : Heap) (L : Addr) (m : Str → Option Value) (rest : List (Addr × Obj)) (s : Shared)
    (Q E : Value → Shared → Prop),
    Below A₀ base outer h₀ → Pb base → Fr h₀ L s.heap m → K.In h₀ → News h₀ L s.heap (pre ++ rest) → (∀ q ∈ rest, ∀ r ∈ pre, q.1 ≠ r.1) → Top p loose mean mg mb h₀ → cs.kind = .function → dp + D < recursionLimit → un + U < cLine →
    (∀ v pst h' tk', Post v pst → (∀ q ∈ rest, ∀ r ∈ pst, q.1 ≠ r.1) → Fr h₀ L h' m → News h₀ L h' (pst ++ rest) → Q v { s with heap := h', toks := tk' }) →
    wpAny (model prog w) (ktrTop dp un gd cn cs L a ccd cl outer) (call (.ref f) vs) Q E s

theorem ret_news {h₀ g h h' : Heap} {L L' : Addr} {m' : Str → Option Value} {pre pst rest : List (Addr × Obj)} (kN : News h₀ L h' pst) (Fg : Fr g L' h' m') (hr : ∀ p ∈ rest, g.get? p.1 = some p.2) (N : News h₀ L h (pre ++ rest)) : News h₀ L h' (pst ++ rest) := by
  intro p hp
  rcases List.mem_append.mp hp with hp | hp
  · exact kN p hp
  · exact ⟨Fg.keep _ _ (hr p hp), (N p (List.mem_append_right _ hp)).2⟩
theorem news_left {h₀ h : Heap} {L : Addr} {pre rest : List (Addr × Obj)} (N : News h₀ L h (pre ++ rest)) : News h₀ L h pre := fun p hp => N p (List.mem_append_left _ hp)
theorem rest_kept {h₀ h g : Heap} {L : Addr} {pre rest : List (Addr × Obj)} (N : News h₀ L h (pre ++ rest)) (hd : ∀ q ∈ rest, ∀ r ∈ pre, q.1 ≠ r.1) (k : ∀ b o, h.get? b = some o → b ∉ pre.map (·.1) → g.get? b = some o) : ∀ p ∈ rest, g.get? p.1 = some p.2 := by
  intro p hp
  refine k _ _ (N p (List.mem_append_right _ hp)).1 fun hm => ?_
  obtain ⟨r, hr, e⟩ := List.mem_map.mp hm
  exact hd p hp r hr e.symm


inductive Rest (ads : List Addr) : List (Addr × Obj) → List (Addr × Obj) → Prop
  | nil : Rest ads [] []
  | tail {own : List (Addr × Obj)} : (∀ p ∈ own, p.1 ∉ ads) → Rest ads own own
  | drop {p : Addr × Obj} {l r : List (Addr × Obj)} : p.1 ∈ ads → Rest ads l r → Rest ads (p :: l) r
  | keep {p : Addr × Obj} {l r : List (Addr × Obj)} : p.1 ∉ ads → Rest ads l r → Rest ads (p :: l) (p :: r)
theorem Rest.sub {ads : List Addr} {l r : List (Addr × Obj)} (h : Rest ads l r) : ∀ p ∈ r, p ∈ l := by
  induction h with
  | nil => exact fun _ h => h
  | tail _ => exact fun _ h => h
  | drop _ _ ih => exact fun p hp => .tail _ (ih p hp)
  | keep _ _ ih =>
    intro p hp
    rcases List.mem_cons.mp hp with rfl | hp
    · exact .head _
    · exact .tail _ (ih p hp)
theorem Rest.off {ads : List Addr} {l r : List (Addr × Obj)} (h : Rest ads l r) : ∀ p ∈ r, p.1 ∉ ads := by
  induction h with
  | nil => exact fun _ h => nomatch h
  | tail h => exact h
  | drop _ _ ih => exact ih
  | keep hn _ ih =>
    intro p hp
    rcases List.mem_cons.mp hp with rfl | hp
    · exact hn
    · exact ih p hp
theorem off0 {a : Nat} : a ∉ ([] : List Addr) := List.not_mem_nil
theorem off1 {a b : Nat} {l : List Addr} (h : @Ne Nat a b) (t : a ∉ l) : a ∉ b :: l := by
  intro hm
  rcases List.mem_cons.mp hm with e | hm
  · exact h e
  · exact t hm
theorem own_off {own : List (Addr × Obj)} {adr ads : List Addr} (h : OwnOff own adr) (hs : ∀ b ∈ ads, b ∈ adr) : ∀ p ∈ own, p.1 ∉ ads := fun p hp hm => h p hp _ (hs _ hm) rfl

theorem Ctr.use {prog : Program} {w : World} {K : Frag} {p : Program} {loose : List Str} {mean : ExcName → Option Value} {mg mb : Str → Option Value} {f : Addr} {D U : Nat} {vs : List Value} {pre : List (Addr × Obj)} {Post : Value → List (Addr × Obj) → Prop}
    {dp un : Nat} {gd : Option (List Code)} {cn : Str} {cs : Scope} {a : Addr} {ccd : Value} {cl : List (Str × Addr)} {outer : List Env} {A₀ : Around} {base h₀ : Heap} {L : Addr} {m : Str → Option Value} {news rest : List (Addr × Obj)} {s : Shared} {Q E : Value → Shared → Prop}
    (C : Ctr prog w K p loose mean mg mb f D U vs pre Post) (B : Below A₀ base outer h₀) (F : Fr h₀ L s.heap m) (X : K.In h₀) (N : News h₀ L s.heap news) (T : Top p loose mean mg mb h₀) (hk : cs.kind = .function)
    (hp : ∀ q ∈ pre, q ∈ news) (hR : Rest (pre.map (·.1)) news rest) (hd : dp + D < recursionLimit) (hu : un + U < cLine)
    (ret : ∀ v pst h' tk', Post v pst → (∀ q ∈ rest, ∀ r ∈ pst, q.1 ≠ r.1) → Fr h₀ L h' m → News h₀ L h' (pst ++ rest) → Q v { s with heap := h', toks := tk' }) :
    wpAny (model prog w) (ktrTop dp un gd cn cs L a ccd cl outer) (call (.ref f) vs) Q E s :=
  C _ _ _ _ _ _ _ _ _ _ _ _ _ _ rest _ _ _ B F X (fun q hq => (List.mem_append.mp hq).elim (fun h => N q (hp q h)) fun h => N q (hR.sub q h))
    (fun q hq r hr e => hR.off q hq (List.mem_map.mpr ⟨r, hr, e.symm⟩)) T hk hd hu ret
theorem CtrB.use {prog : Program} {w : World} {K : Frag} {p : Program} {loose : List Str} {mean : ExcName → Option Value} {mg mb : Str → Option Value} {f : Addr} {D U : Nat} {vs : List Value} {pre : List (Addr × Obj)} {Pb : Heap → Prop} {Post : Value → List (Addr × Obj) → Prop}
    {dp un : Nat} {gd : Option (List Code)} {cn : Str} {cs : Scope} {a : Addr} {ccd : Value} {cl : List (Str × Addr)} {outer : List Env} {A₀ : Around} {base h₀ : Heap} {L : Addr} {m : Str → Option Value} {news rest : List (Addr × Obj)} {s : Shared} {Q E : Value → Shared → Prop}
    (C : CtrB prog w K p loose mean mg mb f D U vs pre Pb Post) (B : Below A₀ base outer h₀) (hB : Pb base) (F : Fr h₀ L s.heap m) (X : K.In h₀) (N : News h₀ L s.heap news) (T : Top p loose mean mg mb h₀) (hk : cs.kind = .function)
    (hp : ∀ q ∈ pre, q ∈ news) (hR : Rest (pre.map (·.1)) news rest) (hd : dp + D < recursionLimit) (hu : un + U < cLine)
    (ret : ∀ v pst h' tk', Post v pst → (∀ q ∈ rest, ∀ r ∈ pst, q.1 ≠ r.1) → Fr h₀ L h' m → News h₀ L h' (pst ++ rest) → Q v { s with heap := h', toks := tk' }) :
    wpAny (model prog w) (ktrTop dp un gd cn cs L a ccd cl outer) (call (.ref f) vs) Q E s :=
  C _ _ _ _ _ _ _ _ _ _ _ _ _ _ rest _ _ _ B hB F X (fun q hq => (List.mem_append.mp hq).elim (fun h => N q (hp q h)) fun h => N q (hR.sub q h))
    (fun q hq r hr e => hR.off q hq (List.mem_map.mpr ⟨r, hr, e.symm⟩)) T hk hd hu ret
theorem m_ret {h₀ g h h' : Heap} {L L' : Addr} {m m' : Str → Option Value} {pre pst rest ng : List (Addr × Obj)} {s : Shared} {Q : Value → Shared → Prop} {Post : Value → List (Addr × Obj) → Prop} {v : Value} {tk' : Nat}
    (hret : ∀ v pst h' tk', Post v pst → (∀ q ∈ rest, ∀ r ∈ pst, q.1 ≠ r.1) → Fr h₀ L h' m → News h₀ L h' (pst ++ rest) → Q v { s with heap := h', toks := tk' })
    (Fg : Fr g L' h' m') (Ng : News g L' h' ng) (kF : Fr h₀ L h' m) (kN : News h₀ L h' ng) (hr : ∀ p ∈ rest, g.get? p.1 = some p.2) (N : News h₀ L h (pre ++ rest)) (hs : ∀ p ∈ pst, p ∈ ng) (hP : Post v pst) :
    Q v { s with heap := h', toks := tk' } := by
  refine hret v pst h' tk' hP (fun q hq r hr' e => ?_) kF (ret_news (fun p hp => kN p (hs p hp)) Fg hr N)
  have h1 := hr q hq
  have h2 := (Ng r (hs r hr')).2.2
  rw [e, h2] at h1
  cases h1
noncomputable def AllNe (d : Nat) : List (Addr × Obj) → Prop
  | [] => True
  | p :: r => @Ne Nat p.1 d ∧ AllNe d r
theorem allNe_of {d : Addr} {o : Obj} : ∀ {l : List (Addr × Obj)}, (∀ q ∈ l, ∀ r ∈ [(d, o)], q.1 ≠ r.1) → AllNe d l
  | [], _ => trivial
  | p :: _, h => ⟨h p (.head _) _ (.head _), allNe_of fun q hq => h q (.tail _ hq)⟩
noncomputable def AllNeL : List (Addr × Obj) → List (Addr × Obj) → Prop
  | [], _ => True
  | r :: rs, l => AllNe r.1 l ∧ AllNeL rs l
theorem allNe_one {d : Addr} : ∀ {l : List (Addr × Obj)}, (∀ q ∈ l, q.1 ≠ d) → AllNe d l
  | [], _ => trivial
  | p :: _, h => ⟨h p (.head _), allNe_one fun q hq => h q (.tail _ hq)⟩
theorem allNeL_of : ∀ {rs l : List (Addr × Obj)}, (∀ q ∈ l, ∀ r ∈ rs, q.1 ≠ r.1) → AllNeL rs l
  | [], _, _ => trivial
  | r :: _, _, h => ⟨allNe_one fun q hq => h q hq r (.head _), allNeL_of fun q hq s hs => h q hq s (.tail _ hs)⟩
noncomputable def Hold (P : Prop) : Prop := P
theorem hold {P : Prop} (h : Hold P) : P := h

theorem bits_le {x : Int} {M : Nat} (h : x.natAbs < 2 ^ M) : Builtin.Int.intBits x ≤ M := by
  unfold Builtin.Int.intBits
  by_cases h0 : x = 0
  · simp [h0]
  · have hb : (x == 0) = false := by simpa using h0
    rw [hb]
    have hp : x.natAbs ≠ 0 := by omega
    have := (Nat.log2_lt hp).mpr h
    simp only [Bool.false_eq_true, if_false]
    omega
theorem mulOk {a b : Int} (M N : Nat) (ha : a.natAbs < 2 ^ M) (hb : b.natAbs < 2 ^ N) (h : M + N ≤ 134217728) : IntMulOk a b := by
  have h1 := bits_le ha
  have h2 := bits_le hb
  unfold IntMulOk
  intro hc
  simp only [Bool.and_eq_true] at hc
  have h3 := hc.2
  unfold Builtin.Int.intTooBig at h3
  rw [decide_eq_true_eq, bitsLine_eq] at h3
  omega
theorem log2_small {x : Int} (h : x.natAbs < 18446744073709551616) : x.natAbs.log2 < 9000 := by
  by_cases hz : x.natAbs = 0
  · rw [hz]; decide
  · have := (Nat.log2_lt (k := 64) hz).mpr h
    omega
theorem log2_of {x : Int} {M : Nat} (h : x.natAbs < 2 ^ M) (hM : M ≤ 9000) (h0 : 0 < M) : x.natAbs.log2 < 9000 := by
  by_cases hz : x.natAbs = 0
  · rw [hz]; decide
  · exact Nat.lt_of_lt_of_le ((Nat.log2_lt hz).mpr h) hM

section
variable {prog : Program} {w : World} {A : Around} {E : Value → Shared → Prop} {s : Shared} {env : Env} {h₀ : Heap} {x : Str} {body : List Stmt} {Q : Flow → Shared → Prop}
noncomputable def MPost {σ : Type} (h₀ : Heap) (L : Addr) (Led : σ → List (Addr × Obj)) (ps : σ → List (Str × Value)) (Facts : σ → Prop) (x : Str) (stored : List Str) (m₀ : Str → Option Value) (P Pe : σ → Prop) (own : List (Addr × Obj)) (adr : List Addr) (s₁ : Shared) (Q : Flow → Shared → Prop) (f : Flow) (s₂ : Shared) : Prop :=
  match f with
  | .ret v => Q (.ret v) s₂
  | .brk => InvEndN h₀ L (KstS Led ps Facts x stored m₀ (fun _ => Pe) []) own adr s₁ s₂
  | _ => InvEndN h₀ L (KstS Led ps Facts x stored m₀ (fun _ => P) []) own adr s₁ s₂
theorem m_range {σ : Type} {r : Addr} {a₀ b₀ : Int} {t₀ u₀ v₀ : Tok} {n : Nat} {m₀ : Str → Option Value} {news : List (Addr × Obj)} (Led : σ → List (Addr × Obj)) (ps : σ → List (Str × Value)) (Facts : σ → Prop) (stored : List Str) (P : Nat → σ → Prop) (Pe : σ → Prop) (c₀ : σ)
    (hh : A.handled = none) (hr : IsRange s.heap r a₀ b₀ 1 t₀ u₀ v₀) (hsmall : Builtin.Range.small a₀ b₀ 1 = true) (hn : Builtin.Range.rangeSize a₀ b₀ 1 = (n : Int)) (F : Fr h₀ env.locals s.heap m₀) (N : News h₀ env.locals s.heap news) (hL : ∀ p ∈ Led c₀, p ∈ news)
    (hf : Facts c₀) (hk : ∀ p ∈ ps c₀, m₀ p.1 = some p.2) (hp : P 0 c₀) (hend : ∀ c, P n c → Pe c)
    (turn : ∀ (c : σ) (i : Nat) (k : Int) t (u : Str → Option Value) h tk own, k = a₀ + (i : Int) → i < n → OwnOff own ((Led c₀).map (·.1)) → Facts c → P i c →
      Fr h₀ env.locals h (fun y => if y = x then some (.int k t) else kstB (fun z => if stored.contains z then u z else m₀ z) (ps c) y) → News h₀ env.locals h (Led c ++ own) →
      wpAny (model prog w) A (execs body env) (MPost h₀ env.locals Led ps Facts x stored m₀ (P (i + 1)) Pe own ((Led c₀).map (·.1)) { s with heap := h, toks := tk } Q) E { s with heap := h, toks := tk })
    (done : ∀ (c : σ) (u : Str → Option Value) h tk, Facts c → Pe c → Fr h₀ env.locals h (fun y => if y = x then u y else kstB (fun z => if stored.contains z then u z else m₀ z) (ps c) y) → News h₀ env.locals h (Led c) → Q .next { s with heap := h, toks := tk }) :
    wpAny (model prog w) A (pyIter (.ref r)) (fun it s₂ => LoopAtV prog w A h₀ env x body Q E it s₂) E s := by
  refine kst_range (n := n) Led ps Facts stored (fun pre c => P pre.length c) c₀ hh hr hsmall hn F (fun p hp => N p (hL p hp)) hf hk hp ?_ fun c u h tk hf' hp' F' N' => done c u h tk hf' (hend c (by simpa [rangeKs_length] using hp')) F' N'
  intro c pre k t u h tk own hk' hlt hoff hf' hp' F' N'
  refine wpAny_mono (turn c pre.length k t u h tk own hk' hlt hoff hf' hp' F' N') (fun f s₂ q => ?_) fun _ _ x => x
  have up : ∀ {P' : σ → Prop}, InvEndN h₀ env.locals (KstS Led ps Facts x stored m₀ (fun _ => P') []) own ((Led c₀).map (·.1)) { s with heap := h, toks := tk } s₂ →
      ∃ c h' tk' m' news', s₂ = { s with heap := h', toks := tk' } ∧ Fr h₀ env.locals h' m' ∧ News h₀ env.locals h' news' ∧ (∀ p ∈ Led c, p ∈ news') ∧ (∀ p ∈ own, p ∈ news') ∧ (Led c).map (·.1) = (Led c₀).map (·.1) ∧ Facts c ∧ (∀ p ∈ ps c, m' p.1 = some p.2) ∧ (∀ z, z ≠ x → (∀ p ∈ ps c, z ≠ p.1) → stored.contains z = false → m' z = m₀ z) ∧ P' c := by
    rintro P' ⟨h', tk', m', news', nx, e, F'', N'', hn', ho, ha, c', rfl, hfc, h1, h2, hpc⟩
    exact ⟨c', h', tk', m', news', e, F'', N'', hn', ho, ha, hfc, h1, h2, hpc⟩
  have nxt : InvEndN h₀ env.locals (KstS Led ps Facts x stored m₀ (fun _ => P (pre.length + 1)) []) own ((Led c₀).map (·.1)) { s with heap := h, toks := tk } s₂ → InvEndN h₀ env.locals (KstS Led ps Facts x stored m₀ (fun pre c => P pre.length c) (pre ++ [k])) own ((Led c₀).map (·.1)) { s with heap := h, toks := tk } s₂ := by
    intro q
    obtain ⟨c', h', tk', m', news', e, F'', N'', hn', ho, ha, hfc, h1, h2, hpc⟩ := up q
    exact ⟨h', tk', m', news', Led c', e, F'', N'', hn', ho, ha, c', rfl, hfc, h1, h2, by simpa using hpc⟩
  cases f with
  | ret v => exact q
  | brk =>
    obtain ⟨c', h', tk', m', news', rfl, F'', N'', hn', ho, ha, hfc, h1, h2, hpc⟩ := up q
    exact done c' m' h' tk' hfc hpc (kst_frOut h1 h2 F'') (fun p hp => N'' p (hn' p hp))
  | next => exact nxt q
  | cont => exact nxt q
theorem m_end {σ : Type} {Led : σ → List (Addr × Obj)} {ps : σ → List (Str × Value)} {Facts : σ → Prop} {stored : List Str} {m₀ : Str → Option Value} {P : σ → Prop} (c : σ) {L : Addr} {m' : Str → Option Value} {own news' : List (Addr × Obj)} {adr : List Addr} {s₁ : Shared} {h' : Heap} {tk : Nat}
    (F : Fr h₀ L h' m') (N : News h₀ L h' news') (hn : ∀ p ∈ Led c, p ∈ news') (ho : ∀ p ∈ own, p ∈ news') (ha : (Led c).map (·.1) = adr) (hf : Facts c) (hk : ∀ p ∈ ps c, m' p.1 = some p.2) (hr : ∀ z, z ≠ x → (∀ p ∈ ps c, z ≠ p.1) → stored.contains z = false → m' z = m₀ z) (hp : P c) :
    InvEndN h₀ L (KstS Led ps Facts x stored m₀ (fun _ => P) []) own adr s₁ { s₁ with heap := h', toks := tk } :=
  kst_end c F N hn ho ha hf hk hr hp
end

noncomputable def JEnd {σ : Type} (h₀ : Heap) (L : Addr) (Led : σ → List (Addr × Obj)) (ps : σ → List (Str × Value)) (stored : List Str) (m₀ : Str → Option Value) (P : σ → Prop) (s₁ s₂ : Shared) : Prop :=
  ∃ (c : σ) (h' : Heap) (tk : Nat) (m' : Str → Option Value) (news' : List (Addr × Obj)), s₂ = { s₁ with heap := h', toks := tk } ∧ Fr h₀ L h' m' ∧ News h₀ L h' news' ∧ (∀ p ∈ Led c, p ∈ news') ∧ (∀ p ∈ ps c, m' p.1 = some p.2) ∧ (∀ z, (∀ p ∈ ps c, z ≠ p.1) → stored.contains z = false → m' z = m₀ z) ∧ P c
noncomputable def JPost {σ : Type} (h₀ : Heap) (L : Addr) (Led : σ → List (Addr × Obj)) (ps : σ → List (Str × Value)) (stored : List Str) (m₀ : Str → Option Value) (P : σ → Prop) (s₁ : Shared) (Q : Flow → Shared → Prop) (f : Flow) (s₂ : Shared) : Prop :=
  match f with
  | .next => JEnd h₀ L Led ps stored m₀ P s₁ s₂
  | f => Q f s₂
noncomputable abbrev fstN {a b : Nat} (_ : @Ne Nat a b) : Nat := a
noncomputable abbrev sndN {a b : Nat} (_ : @Ne Nat a b) : Nat := b
structure StT where
  i : Int
  t : Tok
  n : Nat
  vs : List Value
  ns : List Int
  n2 : Nat
noncomputable def StOk (S : StT) : Prop := IntsAre S.vs S.ns ∧ 0 < S.ns.length ∧ S.ns.length ≤ 63
noncomputable abbrev StL (st c : Nat) (S : StT) : List (Addr × Obj) := [(st, listOf #[.int S.i S.t, .ref c] S.n), (c, listOf S.vs.toArray S.n2)]

end Mine

namespace Mine
noncomputable def Bd (k : Nat) (x : Int) : Prop := x.natAbs < 2 ^ k
theorem Bd.mono {j k : Nat} {x : Int} (h : Bd j x) (hk : j ≤ k) : Bd k x := Nat.lt_of_lt_of_le h (Nat.pow_le_pow_right (by decide) hk)
theorem Bd.small {k : Nat} {x : Int} (h : x.natAbs < 4294967296) (hk : 32 ≤ k) : Bd k x := Nat.lt_of_lt_of_le h (Nat.pow_le_pow_right (by decide) hk : 2 ^ 32 ≤ 2 ^ k)
theorem Bd.of_lt {k : Nat} {x y : Int} (h0 : 0 ≤ x) (h1 : x ≤ y) (h : Bd k y) : Bd k x := by
  unfold Bd at *; omega
theorem Bd.mul {j k : Nat} {a b : Int} (h1 : Bd j a) (h2 : Bd k b) : Bd (j + k) (a * b) := by
  unfold Bd at *
  rw [Int.natAbs_mul, Nat.pow_add]
  exact Nat.mul_lt_mul'' h1 h2
theorem Bd.mul2 {k : Nat} {a b : Int} (h1 : Bd (k / 2) a) (h2 : Bd (k / 2) b) : Bd k (a * b) := (h1.mul h2).mono (by omega)
theorem Bd.mulS {k : Nat} {a b : Int} (h1 : Bd (k - 32) a) (h2 : Bd 32 b) (hk : 32 ≤ k) : Bd k (a * b) := (h1.mul h2).mono (by omega)
theorem Bd.add {k : Nat} {a b : Int} (h1 : Bd (k - 1) a) (h2 : Bd (k - 1) b) (hk : 0 < k) : Bd k (a + b) := by
  unfold Bd at *
  have e : k = (k - 1) + 1 := by omega
  rw [e, Nat.pow_succ]
  omega
theorem Bd.sub {k : Nat} {a b : Int} (h1 : Bd (k - 1) a) (h2 : Bd (k - 1) b) (hk : 0 < k) : Bd k (a - b) := by
  unfold Bd at *
  have e : k = (k - 1) + 1 := by omega
  rw [e, Nat.pow_succ]
  omega
theorem Bd.lt {k : Nat} {x : Int} (h : Bd k x) : x < 2 ^ k := by
  unfold Bd at h
  have h5 : ((2 : Nat) ^ k : Nat) = (2 : Int) ^ k := by simp
  omega
theorem Bd.of_nn {k : Nat} {x : Int} (h0 : 0 ≤ x) (h : x < 2 ^ k) : Bd k x := by
  unfold Bd
  have h5 : ((2 : Nat) ^ k : Nat) = (2 : Int) ^ k := by simp
  omega
noncomputable def GInv (T : Nat) (g : Nat) (i : Nat) (a b : Int) : Prop :=
  0 ≤ a ∧ 0 ≤ b ∧ Int.gcd a b = g ∧ (0 < i → b ≤ a) ∧ (a * b) * 2 ^ (i - 1) < 2 ^ (T - 1)
theorem fmod_nn {a b : Int} (hb : 0 < b) : 0 ≤ a.fmod b ∧ a.fmod b < b := by
  rw [Int.fmod_eq_emod_of_nonneg _ (Int.le_of_lt hb)]
  exact ⟨Int.emod_nonneg _ (by omega), Int.emod_lt_of_pos _ hb⟩
theorem gcd_fmod {a b : Int} (hb : 0 < b) : Int.gcd b (a.fmod b) = Int.gcd a b := by
  rw [Int.fmod_eq_emod_of_nonneg _ (Int.le_of_lt hb), Int.gcd_comm, Int.emod_def, Int.gcd_sub_mul_left_left]
theorem GInv.start {T : Nat} {a b : Int} (ha : 0 ≤ a) (hb : 0 ≤ b) (h : a * b < 2 ^ (T - 1)) : GInv T (Int.gcd a b) 0 a b :=
  ⟨ha, hb, rfl, fun h => absurd h (Nat.lt_irrefl _), by simpa using h⟩
theorem GInv.step {T g i : Nat} {a b : Int} (h : GInv T g i a b) (hb0 : b ≠ 0) : GInv T g (i + 1) b (a.fmod b) := by
  obtain ⟨ha, hb, hg, hle, hp⟩ := h
  have hb' : 0 < b := by omega
  obtain ⟨h1, h2⟩ := fmod_nn (a := a) hb'
  refine ⟨hb, h1, (gcd_fmod hb').trans hg, fun _ => Int.le_of_lt h2, ?_⟩
  rw [Nat.add_sub_cancel]
  by_cases hi : i = 0
  · subst hi
    simp only [Nat.zero_sub, Int.pow_zero, Int.mul_one] at hp ⊢
    refine Int.lt_of_le_of_lt ?_ hp
    rw [Int.mul_comm a b]
    refine Int.mul_le_mul_of_nonneg_left ?_ hb
    rw [Int.fmod_eq_emod_of_nonneg _ hb]
    have hq := Int.emod_add_mul_ediv a b
    have : 0 ≤ b * (a / b) := Int.mul_nonneg hb (Int.ediv_nonneg ha hb)
    omega
  · have hle' := hle (by omega)
    have e : i = (i - 1) + 1 := by omega
    have h3 : 2 * a.fmod b ≤ a := by
      rw [Int.fmod_eq_emod_of_nonneg _ hb]
      rw [Int.fmod_eq_emod_of_nonneg _ hb] at h2
      have hq := Int.emod_add_mul_ediv a b
      have hq1 : 1 ≤ a / b := by
        rw [Int.le_ediv_iff_mul_le hb']; omega
      have : b * 1 ≤ b * (a / b) := Int.mul_le_mul_of_nonneg_left hq1 hb
      omega
    have h4 : (b * a.fmod b) * 2 ≤ a * b := by
      have := Int.mul_le_mul_of_nonneg_left h3 hb
      rw [Int.mul_comm a b]
      calc (b * a.fmod b) * 2 = b * (2 * a.fmod b) := by rw [Int.mul_assoc, Int.mul_comm (a.fmod b)]
        _ ≤ b * a := this
    have h5 : (b * a.fmod b) * 2 ^ i = ((b * a.fmod b) * 2) * 2 ^ (i - 1) := by
      conv => lhs; rw [e]
      rw [Int.pow_succ]; simp only [Int.mul_assoc, Int.mul_comm]
    rw [h5]
    refine Int.lt_of_le_of_lt (Int.mul_le_mul_of_nonneg_right h4 ?_) hp
    exact Int.le_of_lt (Int.pow_pos (by decide))
theorem GInv.last {T g : Nat} {a b : Int} (hT : 0 < T) (h : GInv T g T a b) : b = 0 := by
  obtain ⟨ha, hb, hg, hle, hp⟩ := h
  have hle' := hle hT
  false_or_by_contra
  have h1 : 1 ≤ b := by omega
  have h2 : 1 ≤ a := by omega
  have h3 : 1 ≤ a * b := by
    have := Int.mul_le_mul h2 h1 (by decide) ha
    simpa using this
  have h4 : (2 : Int) ^ (T - 1) ≤ a * b * 2 ^ (T - 1) := by
    have := Int.mul_le_mul_of_nonneg_right (c := (2 : Int) ^ (T - 1)) h3 (Int.le_of_lt (Int.pow_pos (by decide)))
    simpa using this
  omega
theorem GInv.out {T g i : Nat} {a : Int} (h : GInv T g i a 0) : a = (g : Int) := by
  obtain ⟨ha, _, hg, _, _⟩ := h
  rw [Int.gcd_zero_right] at hg
  omega
theorem getD_all {l : List Int} {P : Int → Prop} (h : ∀ x ∈ l, P x) (h0 : P 0) (k : Nat) : P (l.getD k 0) := by
  rw [List.getD_eq_getElem?_getD]
  cases e : l[k]? with
  | none => exact h0
  | some x => exact h x (List.mem_of_getElem? e)
theorem pow_lt_pow {a : Int} {m n : Nat} (h1 : 1 ≤ a) (h : m ≤ n) : a ^ m ≤ a ^ n := by
  obtain ⟨k, rfl⟩ := Nat.exists_eq_add_of_le h
  rw [Int.pow_add]
  have h2 : 1 ≤ a ^ k := by
    have : 0 < a ^ k := Int.pow_pos (show 0 < a by omega)
    omega
  have h3 : 0 ≤ a ^ m := Int.le_of_lt (Int.pow_pos (show 0 < a by omega))
  have := Int.mul_le_mul_of_nonneg_left h2 h3
  omega
theorem number_pow {e r : Int} (h0 : 0 ≤ e) (h1 : e < 300) (h2 : 0 ≤ r) (h3 : r < 3) : 0 ≤ (2 : Int) ^ e.toNat + r - 1 ∧ Bd 300 ((2 : Int) ^ e.toNat + r - 1) := by
  have h4 : (2 : Int) ^ e.toNat ≤ 2 ^ 299 := pow_lt_pow (by decide) (by omega)
  have h5 : 0 < (2 : Int) ^ e.toNat := Int.pow_pos (by decide)
  have h6 : (2 : Int) ^ 299 + 2 < 2 ^ 300 := by decide
  exact ⟨by omega, Bd.of_nn (by omega) (by omega)⟩
theorem great_bd {r : Int} {k : Nat} (h0 : 0 ≤ r) (h : r < 1000003 ^ k) (hk : k ≤ 15) : Bd 300 r := by
  have h4 : (1000003 : Int) ^ k ≤ 1000003 ^ 15 := pow_lt_pow (by decide) hk
  have h6 : (1000003 : Int) ^ 15 < 2 ^ 300 := by decide
  exact Bd.of_nn h0 (by omega)
theorem GInv.startB {a b : Int} (ha : 0 ≤ a) (hb : 0 ≤ b) (h1 : Bd 990 a) (h2 : Bd 990 b) : GInv 2000 (Int.gcd a b) 0 a b :=
  GInv.start ha hb (((h1.mul h2).mono (by decide) : Bd 1999 (a * b)).lt)
theorem Bd.small' {k : Nat} {x : Int} (hk : 32 ≤ k) (h : x.natAbs < 4294967296) : Bd k x := Bd.small h hk
theorem Bd.mulS' {k : Nat} {a b : Int} (hk : 32 ≤ k) (h2 : Bd 32 b) (h1 : Bd (k - 32) a) : Bd k (a * b) := Bd.mulS h1 h2 hk
theorem Bd.add' {k : Nat} {a b : Int} (hk : 0 < k) (h1 : Bd (k - 1) a) (h2 : Bd (k - 1) b) : Bd k (a + b) := Bd.add h1 h2 hk
theorem Bd.sub' {k : Nat} {a b : Int} (hk : 0 < k) (h1 : Bd (k - 1) a) (h2 : Bd (k - 1) b) : Bd k (a - b) := Bd.sub h1 h2 hk
end Mine

namespace Mine
structure ERun (oa ob a b x lx y ly : Int) : Prop where
  a0 : 0 < a
  ba : b < a
  aob : a ≤ ob
  altx : (0 ≤ x ∧ lx ≤ 0 ∧ a * x - b * lx = ob) ∨ (x ≤ 0 ∧ 0 ≤ lx ∧ b * lx - a * x = ob)
  alty : 0 ≤ oa → (0 ≤ y ∧ ly ≤ 0 ∧ a * y - b * ly = oa) ∨ (y ≤ 0 ∧ 0 ≤ ly ∧ b * ly - a * y = oa)
  lx1 : -ob ≤ lx
  lx2 : lx ≤ ob
  ly1 : 0 ≤ oa → -oa ≤ ly
  ly2 : 0 ≤ oa → ly ≤ oa ∨ ly ≤ 1
  lx3 : 2 * lx ≤ ob
  lx4 : -ob ≤ 2 * lx
structure EInv (oa ob a b x lx y ly : Int) : Prop where
  hb : 0 ≤ b
  bz1 : lx * oa + ly * ob = a
  bz2 : x * oa + y * ob = b
  g : Int.gcd a b = Int.gcd oa ob
  st : (a = oa ∧ b = ob ∧ x = 0 ∧ lx = 1 ∧ y = 1 ∧ ly = 0) ∨ ERun oa ob a b x lx y ly
theorem EInv.start {oa ob : Int} (hb : 0 ≤ ob) : EInv oa ob oa ob 0 1 1 0 :=
  ⟨hb, by omega, by omega, rfl, .inl ⟨rfl, rfl, rfl, rfl, rfl, rfl⟩⟩
theorem fdiv_fmod (a b : Int) : b * a.fdiv b + a.fmod b = a := by
  have := Int.mul_fdiv_add_fmod a b
  omega
theorem mul_nn_le {a x o : Int} (ha : 0 < a) (hx : 0 ≤ x) (h : a * x ≤ o) : x ≤ o := by
  have : 1 * x ≤ a * x := Int.mul_le_mul_of_nonneg_right (by omega) hx
  omega
theorem EInv.step {oa ob a b x lx y ly : Int} (h : EInv oa ob a b x lx y ly) (h0 : b ≠ 0) :
    EInv oa ob b (a.fmod b) (lx - a.fdiv b * x) x (ly - a.fdiv b * y) y := by
  obtain ⟨hb, bz1, bz2, hg, st⟩ := h
  have hb0 : 0 < b := by omega
  have hm : 0 ≤ a.fmod b ∧ a.fmod b < b := by
    rw [Int.fmod_eq_emod_of_nonneg _ hb]
    exact ⟨Int.emod_nonneg _ h0, Int.emod_lt_of_pos _ hb0⟩
  have hq := fdiv_fmod a b
  generalize hQ : a.fdiv b = q at hq ⊢
  generalize hR : a.fmod b = r at hq hm ⊢
  have hgr : Int.gcd b r = Int.gcd oa ob := by
    rw [← hg, ← hq, Int.add_comm (b * q) r]
    rw [Int.gcd_comm b r, Int.gcd_add_mul_left_left]
  refine ⟨hm.1, bz2, ?_, hgr, .inr ?_⟩
  · have e1 : (lx - q * x) * oa + (ly - q * y) * ob = (lx * oa + ly * ob) - q * (x * oa + y * ob) := by
      simp only [Int.sub_mul, Int.mul_add, Int.mul_assoc]; omega
    rw [e1, bz1, bz2, Int.mul_comm q b]; omega
  · have expand : ∀ u v : Int, b * (u - q * v) - r * v = b * u - (b * q + r) * v := by
      intro u v
      simp only [Int.mul_sub, Int.add_mul, Int.mul_assoc]; omega
    rcases st with ⟨rfl, rfl, rfl, rfl, rfl, rfl⟩ | R
    · refine ⟨hb0, hm.2, Int.le_refl _, .inl ⟨by omega, by omega, by omega⟩, fun ho => .inr ?_, by omega, by omega, fun ho => by omega, fun _ => .inr (Int.le_refl _), by omega, by omega⟩
      have hq0 : 0 ≤ q := by
        rw [← hQ, Int.fdiv_eq_ediv_of_nonneg _ hb]
        exact Int.ediv_nonneg ho hb
      refine ⟨by omega, by omega, ?_⟩
      simp only [Int.mul_one, Int.zero_sub, Int.mul_neg]; omega
    · have hq1 : 1 ≤ q := by
        rw [← hQ, Int.fdiv_eq_ediv_of_nonneg _ hb, Int.le_ediv_iff_mul_le hb0]
        have := R.ba; omega
      have sgn : ∀ {u v : Int}, (0 ≤ u ∧ v ≤ 0) → v - q * u ≤ 0 := by
        rintro u v ⟨h1, h2⟩
        have : 0 ≤ q * u := Int.mul_nonneg (by omega) h1
        omega
      have sgn' : ∀ {u v : Int}, (u ≤ 0 ∧ 0 ≤ v) → 0 ≤ v - q * u := by
        rintro u v ⟨h1, h2⟩
        have : 0 ≤ q * (-u) := Int.mul_nonneg (by omega) (by omega)
        rw [Int.mul_neg] at this
        omega
      have bdx : -ob ≤ x ∧ x ≤ ob := by
        rcases R.altx with ⟨h1, h2, h3⟩ | ⟨h1, h2, h3⟩
        · have h4 : 0 ≤ b * (-lx) := Int.mul_nonneg hb (by omega)
          rw [Int.mul_neg] at h4
          have := mul_nn_le R.a0 h1 (o := ob) (by omega)
          omega
        · have h4 : 0 ≤ b * lx := Int.mul_nonneg hb h2
          have := mul_nn_le R.a0 (x := -x) (o := ob) (by omega) (by rw [Int.mul_neg]; omega)
          omega
      have bdy : 0 ≤ oa → -oa ≤ y ∧ y ≤ oa := by
        intro ho
        rcases R.alty ho with ⟨h1, h2, h3⟩ | ⟨h1, h2, h3⟩
        · have h4 : 0 ≤ b * (-ly) := Int.mul_nonneg hb (by omega)
          rw [Int.mul_neg] at h4
          have := mul_nn_le R.a0 h1 (o := oa) (by omega)
          omega
        · have h4 : 0 ≤ b * ly := Int.mul_nonneg hb h2
          have := mul_nn_le R.a0 (x := -y) (o := oa) (by omega) (by rw [Int.mul_neg]; omega)
          omega
      have := R.ba
      have := R.aob
      have two : ∀ z : Int, 0 ≤ z → a * z ≤ ob → 2 * z ≤ ob := fun z hz h => by
        have : 2 * z ≤ a * z := Int.mul_le_mul_of_nonneg_right (by omega) hz
        omega
      have b2x : 2 * x ≤ ob ∧ -ob ≤ 2 * x := by
        rcases R.altx with ⟨h1, h2, h3⟩ | ⟨h1, h2, h3⟩
        · have h4 : 0 ≤ b * (-lx) := Int.mul_nonneg hb (by omega)
          rw [Int.mul_neg] at h4
          have := two x h1 (by omega)
          omega
        · have h4 : 0 ≤ b * lx := Int.mul_nonneg hb h2
          have := two (-x) (by omega) (by rw [Int.mul_neg]; omega)
          omega
      refine ⟨hb0, hm.2, by omega, ?_, ?_, bdx.1, bdx.2, fun ho => (bdy ho).1, fun ho => .inl (bdy ho).2, b2x.1, b2x.2⟩
      · rcases R.altx with ⟨h1, h2, h3⟩ | ⟨h1, h2, h3⟩
        · refine .inr ⟨sgn ⟨h1, h2⟩, h1, ?_⟩
          have := expand lx x
          rw [hq] at this
          omega
        · refine .inl ⟨sgn' ⟨h1, h2⟩, h1, ?_⟩
          have := expand lx x
          rw [hq] at this
          omega
      · intro ho
        rcases R.alty ho with ⟨h1, h2, h3⟩ | ⟨h1, h2, h3⟩
        · refine .inr ⟨sgn ⟨h1, h2⟩, h1, ?_⟩
          have := expand ly y
          rw [hq] at this
          omega
        · refine .inl ⟨sgn' ⟨h1, h2⟩, h1, ?_⟩
          have := expand ly y
          rw [hq] at this
          omega
theorem natAbs_mul_lt {a b : Int} {M N : Nat} (h1 : a.natAbs < 2 ^ M) (h2 : b.natAbs < 2 ^ N) : (a * b).natAbs < 2 ^ (M + N) := by
  rw [Int.natAbs_mul, Nat.pow_add]
  exact Nat.mul_lt_mul'' h1 h2
theorem EInv.bd {oa ob a b x lx y ly : Int} {N : Nat} (h : EInv oa ob a b x lx y ly) (h1 : Bd N oa) (h2 : Bd N ob) (h0 : b ≠ 0) :
    (a.fdiv b).natAbs < 2 ^ (N + 1) ∧ x.natAbs < 2 ^ N ∧ y.natAbs < 2 ^ (N + N + 1) := by
  unfold Bd at h1 h2
  obtain ⟨hb, bz1, bz2, hg, st⟩ := h
  have hp : 0 < 2 ^ N := Nat.pow_pos (by decide)
  have ha : a.natAbs < 2 ^ N := by
    rcases st with ⟨rfl, _⟩ | R
    · exact h1
    · have := R.a0; have := R.aob; omega
  have hx : x.natAbs < 2 ^ N := by
    rcases st with ⟨_, _, rfl, _⟩ | R
    · simpa using hp
    · have ho : 0 < ob := by have := R.a0; have := R.aob; omega
      rcases R.altx with ⟨k1, k2, k3⟩ | ⟨k1, k2, k3⟩
      · have h4 : 0 ≤ b * (-lx) := Int.mul_nonneg hb (by omega)
        rw [Int.mul_neg] at h4
        have := mul_nn_le R.a0 k1 (o := ob) (by omega)
        omega
      · have h4 : 0 ≤ b * lx := Int.mul_nonneg hb k2
        have := mul_nn_le R.a0 (x := -x) (o := ob) (by omega) (by rw [Int.mul_neg]; omega)
        omega
  refine ⟨?_, hx, ?_⟩
  · have hq := fdiv_fmod a b
    have hm : 0 ≤ a.fmod b ∧ a.fmod b < b := by
      rw [Int.fmod_eq_emod_of_nonneg _ hb]
      exact ⟨Int.emod_nonneg _ h0, Int.emod_lt_of_pos _ (by omega)⟩
    generalize a.fdiv b = q at hq ⊢
    generalize a.fmod b = r at hq hm
    have hbl : b ≤ ob ∧ 0 < b := by
      rcases st with ⟨_, rfl, _⟩ | R
      · exact ⟨Int.le_refl _, by omega⟩
      · have := R.ba; have := R.aob; omega
    have e : (b * q).natAbs = b.natAbs * q.natAbs := Int.natAbs_mul ..
    have h5 : 1 * q.natAbs ≤ b.natAbs * q.natAbs := Nat.mul_le_mul_right _ (by omega)
    have h6 : (b * q).natAbs < 2 ^ N + 2 ^ N := by omega
    rw [Nat.pow_succ]; omega
  · have ho : 0 < ob ∨ ob = 0 := by
      rcases st with ⟨_, rfl, _⟩ | R
      · omega
      · have := R.a0; have := R.aob; omega
    rcases ho with ho | ho
    · have hbl : b ≤ ob := by
        rcases st with ⟨_, rfl, _⟩ | R
        · exact Int.le_refl _
        · have := R.ba; have := R.aob; omega
      have e : (y * ob).natAbs = y.natAbs * ob.natAbs := Int.natAbs_mul ..
      have h5 : y.natAbs * 1 ≤ y.natAbs * ob.natAbs := Nat.mul_le_mul_left _ (by omega)
      have h6 := natAbs_mul_lt hx h1
      have h7 : 2 ^ N ≤ 2 ^ (N + N) := Nat.pow_le_pow_right (by decide) (by omega)
      rw [Nat.pow_succ]
      omega
    · rcases st with ⟨_, rfl, _⟩ | R
      · exact absurd ho h0
      · have := R.a0; have := R.aob; omega
theorem EInv.bdb {oa ob a b x lx y ly : Int} {N : Nat} (h : EInv oa ob a b x lx y ly) (h2 : Bd N ob) : Bd N b := by
  unfold Bd at h2 ⊢
  obtain ⟨hb, bz1, bz2, hg, st⟩ := h
  rcases st with ⟨_, rfl, _⟩ | R
  · exact h2
  · have := R.ba; have := R.aob; omega
theorem EInv.lg {oa ob a b x lx y ly : Int} {N : Nat} (h : EInv oa ob a b x lx y ly) (h2 : Bd N ob) (hN : N ≤ 8000) : b.natAbs.log2 < 9000 :=
  log2_of (M := N + 1) (Nat.lt_trans (h.bdb h2) (by rw [Nat.pow_succ]; have : 0 < 2 ^ N := Nat.pow_pos (by decide); omega)) (by omega) (by omega)
theorem EInv.mul1 {oa ob a b x lx y ly : Int} {N : Nat} (h : EInv oa ob a b x lx y ly) (h1 : Bd N oa) (h2 : Bd N ob) (hN : N ≤ 1000000) (h0 : b ≠ 0) : IntMulOk (a.fdiv b) x :=
  mulOk _ _ (h.bd h1 h2 h0).1 (h.bd h1 h2 h0).2.1 (by omega)
theorem EInv.mul2 {oa ob a b x lx y ly : Int} {N : Nat} (h : EInv oa ob a b x lx y ly) (h1 : Bd N oa) (h2 : Bd N ob) (hN : N ≤ 1000000) (h0 : b ≠ 0) : IntMulOk (a.fdiv b) y :=
  mulOk _ _ (h.bd h1 h2 h0).1 (h.bd h1 h2 h0).2.2 (by omega)
theorem EInv.gcdIs {oa ob a x lx y ly : Int} (h : EInv oa ob a 0 x lx y ly) (h1 : 0 ≤ oa ∨ 0 < ob) : a = (Int.gcd oa ob : Int) := by
  obtain ⟨hb, bz1, bz2, hg, st⟩ := h
  rw [Int.gcd_zero_right] at hg
  rcases st with ⟨k1, k2, _⟩ | R
  · omega
  · have := R.a0; omega
theorem EInv.fst {oa ob a x lx y ly fx : Int} (h : EInv oa ob a 0 x lx y ly) (hx : fx = if lx < 0 then lx + ob else lx) : 0 ≤ fx ∧ (fx ≤ ob ∨ fx ≤ 1) := by
  obtain ⟨hb, bz1, bz2, hg, st⟩ := h
  subst hx
  rcases st with ⟨k1, k2, k3, k4, k5, k6⟩ | R
  · split <;> omega
  · have h1 := R.lx1
    have h2 := R.lx2
    split <;> omega
theorem EInv.snd {oa ob a x lx y ly fy : Int} (h : EInv oa ob a 0 x lx y ly) (h0 : 0 ≤ oa) (hy : fy = if ly < 0 then ly + oa else ly) : 0 ≤ fy ∧ (fy ≤ oa ∨ fy ≤ 1) := by
  obtain ⟨hb, bz1, bz2, hg, st⟩ := h
  subst hy
  rcases st with ⟨k1, k2, k3, k4, k5, k6⟩ | R
  · split <;> omega
  · have h1 := R.ly1 h0
    have h2 := R.ly2 h0
    split <;> omega
theorem EInv.sum {oa ob a x lx y ly fx fy : Int} (h : EInv oa ob a 0 x lx y ly) (h0 : 0 ≤ oa) (h1 : 0 ≤ ob) (hx : fx = if lx < 0 then lx + ob else lx) (hy : fy = if ly < 0 then ly + oa else ly) :
    fx * oa + fy * ob = a ∨ fx * oa + fy * ob = a + oa * ob := by
  have ha := h.gcdIs (.inl h0)
  obtain ⟨hb, bz1, bz2, hg, st⟩ := h
  subst hx; subst hy
  have e := Int.mul_comm oa ob
  split
  · split
    · rename_i k1 k2
      have : lx * oa ≤ 0 := Int.mul_nonpos_of_nonpos_of_nonneg (by omega) h0
      have h5 : ly * ob ≤ 0 := Int.mul_nonpos_of_nonpos_of_nonneg (by omega) h1
      have : 0 ≤ a := by omega
      have e1 : (lx + ob) * oa = lx * oa + ob * oa := Int.add_mul ..
      have e2 : (ly + oa) * ob = ly * ob + oa * ob := Int.add_mul ..
      have e3 : oa * ob = 0 ∨ 0 < oa * ob := by
        have := Int.mul_nonneg h0 h1; omega
      rcases e3 with e3 | e3
      · omega
      · have o1 : 0 < oa := by
          rcases Int.lt_or_eq_of_le h0 with q | q
          · exact q
          · rw [← q] at e3; simp at e3
        have : lx * oa < 0 := Int.mul_neg_of_neg_of_pos (by omega) o1
        omega
    · have e1 : (lx + ob) * oa = lx * oa + ob * oa := Int.add_mul ..
      right; omega
  · split
    · have e2 : (ly + oa) * ob = ly * ob + oa * ob := Int.add_mul ..
      right; omega
    · left; omega
theorem mulOkB {a b : Int} (M N : Nat) (ha : Bd M a) (hb : Bd N b) (h : M + N ≤ 134217728) : IntMulOk a b := mulOk M N ha hb h
theorem EInv.facts {oa ob a x lx y ly fx fy : Int} (h : EInv oa ob a 0 x lx y ly) (h0 : 0 ≤ oa) (h1 : 0 ≤ ob) (b1 : Bd 490 oa) (b2 : Bd 490 ob) (hx : fx = if lx < 0 then lx + ob else lx) (hy : fy = if ly < 0 then ly + oa else ly) :
    a = (Int.gcd oa ob : Int) ∧ 0 ≤ fx ∧ (fx ≤ ob ∨ fx ≤ 1) ∧ 0 ≤ fy ∧ (fy ≤ oa ∨ fy ≤ 1) ∧ IntMulOk fx oa ∧ IntMulOk fy ob ∧ IntMulOk oa ob ∧ (fx * oa + fy * ob = a ∨ fx * oa + fy * ob = a + oa * ob) := by
  have p1 := h.fst hx
  have p2 := h.snd h0 hy
  have q1 : Bd 490 fx := by
    rcases p1.2 with q | q
    · exact .of_lt p1.1 q b2
    · exact .small (by omega) (by decide)
  have q2 : Bd 490 fy := by
    rcases p2.2 with q | q
    · exact .of_lt p2.1 q b1
    · exact .small (by omega) (by decide)
  exact ⟨h.gcdIs (.inl h0), p1.1, p1.2, p2.1, p2.2, mulOkB _ _ q1 b1 (by decide), mulOkB _ _ q2 b2 (by decide), mulOkB _ _ b1 b2 (by decide), h.sum h0 h1 hx hy⟩
theorem EInv.facts_k {P : Prop} {oa ob a x lx y ly fx fy : Int} (h : EInv oa ob a 0 x lx y ly) (h0 : 0 ≤ oa) (h1 : 0 ≤ ob) (b1 : Bd 490 oa) (b2 : Bd 490 ob) (hx : fx = if lx < 0 then lx + ob else lx) (hy : fy = if ly < 0 then ly + oa else ly)
    (k : a = (Int.gcd oa ob : Int) → 0 ≤ fx → (fx ≤ ob ∨ fx ≤ 1) → 0 ≤ fy → (fy ≤ oa ∨ fy ≤ 1) → IntMulOk fx oa → IntMulOk fy ob → IntMulOk oa ob → (fx * oa + fy * ob = a ∨ fx * oa + fy * ob = a + oa * ob) → P) : P :=
  have f := h.facts h0 h1 b1 b2 hx hy
  k f.1 f.2.1 f.2.2.1 f.2.2.2.1 f.2.2.2.2.1 f.2.2.2.2.2.1 f.2.2.2.2.2.2.1 f.2.2.2.2.2.2.2.1 f.2.2.2.2.2.2.2.2
theorem Bd.lg {k : Nat} {x : Int} (h : Bd k x) (hk : k < 9000) : x.natAbs.log2 < 9000 :=
  log2_of (M := k + 1) (h.mono (Nat.le_succ k)) (by omega) (by omega)
end Mine

namespace Mine
noncomputable def Pr (p : Nat) : Prop := 2 ≤ p ∧ ∀ d, d ∣ p → d = 1 ∨ d = p
theorem Pr.coprime {p a : Nat} (h : Pr p) (ha : ¬ p ∣ a) : Nat.gcd p a = 1 := by
  rcases h.2 _ (Nat.gcd_dvd_left p a) with e | e
  · exact e
  · exact absurd (e ▸ Nat.gcd_dvd_right p a) ha
theorem Pr.dvd_mul {p a b : Nat} (h : Pr p) (hd : p ∣ a * b) : p ∣ a ∨ p ∣ b := by
  by_cases ha : p ∣ a
  · exact .inl ha
  · exact .inr (Nat.Coprime.dvd_of_dvd_mul_left (h.coprime ha) hd)

noncomputable def chs : Nat → Nat → Nat
  | _, 0 => 1
  | 0, _ + 1 => 0
  | n + 1, k + 1 => chs n k + chs n (k + 1)
theorem chs_zero (n : Nat) : chs n 0 = 1 := by cases n <;> rfl
theorem chs_gt : ∀ {n k : Nat}, n < k → chs n k = 0
  | 0, _ + 1, _ => rfl
  | n + 1, k + 1, h => by
    rw [chs, chs_gt (by omega), chs_gt (by omega)]
theorem chs_self : ∀ n : Nat, chs n n = 1
  | 0 => rfl
  | n + 1 => by rw [chs, chs_self n, chs_gt (by omega)]
theorem chs_mul : ∀ n k : Nat, (k + 1) * chs (n + 1) (k + 1) = (n + 1) * chs n k
  | 0, 0 => rfl
  | 0, k + 1 => by
    have h1 : chs 1 (k + 1 + 1) = 0 := chs_gt (by omega)
    have h2 : chs 0 (k + 1) = 0 := rfl
    rw [h1, h2]
    omega
  | n + 1, 0 => by
    have h := chs_mul n 0
    rw [chs_zero] at h ⊢
    rw [chs, chs_zero]
    omega
  | n + 1, k + 1 => by
    have h1 := chs_mul n k
    have h2 := chs_mul n (k + 1)
    have e1 : chs (n + 1 + 1) (k + 1 + 1) = chs (n + 1) (k + 1) + chs (n + 1) (k + 1 + 1) := rfl
    have e2 : chs (n + 1) (k + 1) = chs n k + chs n (k + 1) := rfl
    rw [e1]
    have e3 : (k + 1 + 1) * (chs (n + 1) (k + 1) + chs (n + 1) (k + 1 + 1)) = (k + 1) * chs (n + 1) (k + 1) + chs (n + 1) (k + 1) + (k + 1 + 1) * chs (n + 1) (k + 1 + 1) := by
      rw [Nat.mul_add, Nat.add_mul (k + 1) 1, Nat.one_mul]
    rw [e3, h1, h2, Nat.add_mul (n + 1) 1 (chs (n + 1) (k + 1)), Nat.one_mul]
    have e4 : (n + 1) * chs (n + 1) (k + 1) = (n + 1) * chs n k + (n + 1) * chs n (k + 1) := by rw [e2, Nat.mul_add]
    omega
theorem Pr.dvd_chs {p k : Nat} (h : Pr p) (h0 : 0 < k) (h1 : k < p) : p ∣ chs p k := by
  obtain ⟨n, rfl⟩ : ∃ n, p = n + 1 := ⟨p - 1, by have := h.1; omega⟩
  obtain ⟨j, rfl⟩ : ∃ j, k = j + 1 := ⟨k - 1, by omega⟩
  have e := chs_mul n j
  have hd : (n + 1) ∣ (j + 1) * chs (n + 1) (j + 1) := ⟨_, e⟩
  rcases h.dvd_mul hd with q | q
  · exact absurd (Nat.le_of_dvd (by omega) q) (by omega)
  · exact q
noncomputable def bsum (a n : Nat) : Nat → Nat
  | 0 => 0
  | m + 1 => bsum a n m + chs n m * a ^ m
theorem bsum_step (a n : Nat) : ∀ m, bsum a (n + 1) (m + 1) = (a + 1) * bsum a n m + chs n m * a ^ m
  | 0 => by
    show 0 + chs (n + 1) 0 * a ^ 0 = (a + 1) * 0 + chs n 0 * a ^ 0
    rw [chs_zero, chs_zero]
    omega
  | m + 1 => by
    have ih := bsum_step a n m
    show bsum a (n + 1) (m + 1) + chs (n + 1) (m + 1) * a ^ (m + 1) = (a + 1) * (bsum a n m + chs n m * a ^ m) + chs n (m + 1) * a ^ (m + 1)
    rw [ih]
    show _ + (chs n m + chs n (m + 1)) * a ^ (m + 1) = _
    have e1 : (chs n m + chs n (m + 1)) * a ^ (m + 1) = chs n m * a ^ (m + 1) + chs n (m + 1) * a ^ (m + 1) := Nat.add_mul ..
    have e2 : (a + 1) * (bsum a n m + chs n m * a ^ m) = (a + 1) * bsum a n m + (a * (chs n m * a ^ m) + chs n m * a ^ m) := by
      rw [Nat.mul_add, Nat.add_mul a 1 (chs n m * a ^ m), Nat.one_mul]
    have e3 : chs n m * a ^ (m + 1) = a * (chs n m * a ^ m) := by
      rw [Nat.pow_succ, ← Nat.mul_assoc, Nat.mul_comm]
    omega
theorem bsum_pow (a : Nat) : ∀ n, bsum a n (n + 1) = (a + 1) ^ n
  | 0 => by
    show 0 + chs 0 0 * a ^ 0 = (a + 1) ^ 0
    simp [chs]
  | n + 1 => by
    have e : (a + 1) ^ (n + 1) = (a + 1) * (a + 1) ^ n := by rw [Nat.pow_succ, Nat.mul_comm]
    rw [bsum_step, e, ← bsum_pow a n, chs_gt (n := n) (k := n + 1) (by omega), Nat.zero_mul, Nat.add_zero]
theorem Pr.bsum_mod {p a : Nat} (h : Pr p) : ∀ m, 0 < m → m ≤ p → bsum a p m % p = 1 % p
  | 0, h0, _ => absurd h0 (Nat.lt_irrefl _)
  | 1, _, _ => by
    show (0 + chs p 0 * a ^ 0) % p = 1 % p
    rw [chs_zero]; simp
  | m + 2, _, hm => by
    have ih := Pr.bsum_mod (a := a) h (m + 1) (by omega) (by omega)
    show (bsum a p (m + 1) + chs p (m + 1) * a ^ (m + 1)) % p = 1 % p
    obtain ⟨c, hc⟩ := h.dvd_chs (k := m + 1) (by omega) (by omega)
    rw [hc, Nat.mul_assoc, Nat.add_mul_mod_self_left]
    exact ih
theorem Pr.fermat {p : Nat} (h : Pr p) : ∀ a : Nat, a ^ p % p = a % p
  | 0 => by
    have := h.1
    rw [Nat.zero_pow (by omega)]
  | a + 1 => by
    have ih := Pr.fermat h a
    have e := bsum_pow a p
    have hb : bsum a p (p + 1) = bsum a p p + chs p p * a ^ p := rfl
    rw [chs_self, Nat.one_mul] at hb
    rw [← e, hb, Nat.add_mod, h.bsum_mod p (by have := h.1; omega) (Nat.le_refl _), ih, ← Nat.add_mod, Nat.add_comm]
theorem Pr.fermat1 {p a : Nat} (h : Pr p) (ha : ¬ p ∣ a) : a ^ (p - 1) % p = 1 % p := by
  have hp := h.1
  have e := h.fermat a
  obtain ⟨n, rfl⟩ : ∃ n, p = n + 1 := ⟨p - 1, by omega⟩
  rw [Nat.add_sub_cancel]
  -- a * (a^n - 1) = 0 mod p
  have hpos : 0 < a := Nat.pos_of_ne_zero fun q => ha (q ▸ Nat.dvd_zero _)
  have h1 : 1 ≤ a ^ n := Nat.pow_pos hpos
  have hd : (n + 1) ∣ a * (a ^ n - 1) := by
    rw [Nat.mul_sub, Nat.mul_one, Nat.mul_comm, ← Nat.pow_succ]
    exact Nat.dvd_of_mod_eq_zero (Nat.sub_mod_eq_zero_of_mod_eq e)
  rcases h.dvd_mul hd with q | q
  · exact absurd q ha
  · obtain ⟨c, hc⟩ := q
    have e2 : a ^ n = 1 + (n + 1) * c := by omega
    rw [e2, Nat.add_mul_mod_self_left]
theorem pow_mod_of {m a e k j : Nat} (h : a ^ e % m = 1 % m) (hk : k = 1 + j * e) : a ^ k % m = a % m := by
  subst hk
  rw [Nat.pow_add, Nat.pow_one, Nat.mul_comm j e, Nat.pow_mul, Nat.mul_mod, Nat.pow_mod, h, ← Nat.pow_mod, Nat.one_pow, ← Nat.mul_mod, Nat.mul_one]
theorem Pr.pow1 {p a k j : Nat} (h : Pr p) (hk : k = 1 + j * (p - 1)) : a ^ k % p = a % p := by
  by_cases ha : p ∣ a
  · have h2 : p ∣ a ^ k := Nat.dvd_trans ha (by subst hk; rw [Nat.pow_add, Nat.pow_one]; exact Nat.dvd_mul_right _ _)
    rw [Nat.mod_eq_zero_of_dvd ha, Nat.mod_eq_zero_of_dvd h2]
  · exact pow_mod_of (h.fermat1 ha) hk
noncomputable def noDiv (n : Nat) : Nat → Nat → Bool
  | 0, _ => true
  | f + 1, d => if n % d == 0 then false else noDiv n f (d + 1)
theorem noDiv_spec {n : Nat} : ∀ {f d : Nat}, noDiv n f d = true → ∀ e, d ≤ e → e < d + f → n % e ≠ 0
  | 0, d, _, e, h1, h2 => absurd h2 (by omega)
  | f + 1, d, h, e, h1, h2 => by
    unfold noDiv at h
    split at h
    · cases h
    · rename_i hd
      by_cases he : e = d
      · subst he; simpa using hd
      · exact noDiv_spec h e (by omega) (by omega)
theorem Pr.of_noDiv {n : Nat} (h2 : 2 ≤ n) (h : ∀ e, 2 ≤ e → e * e ≤ n → n % e ≠ 0) : Pr n := by
  have small : ∀ d, d ∣ n → d * d ≤ n → d = 1 := fun d hd hle => by
    by_cases h0 : d = 0
    · subst h0
      have := Nat.eq_zero_of_zero_dvd hd; omega
    by_cases h1 : d = 1
    · exact h1
    · exact absurd (Nat.mod_eq_zero_of_dvd hd) (h d (by omega) hle)
  refine ⟨h2, fun d hd => ?_⟩
  obtain ⟨e, he⟩ := hd
  by_cases hle : d * d ≤ n
  · exact .inl (small d ⟨e, he⟩ hle)
  · have hlt : e ≤ d := by
      false_or_by_contra
      have := Nat.mul_le_mul_left d (show d ≤ e by omega)
      omega
    have h1 : e = 1 := small e ⟨d, by rw [he, Nat.mul_comm]⟩ (by have := Nat.mul_le_mul_right e hlt; omega)
    subst h1
    right; omega
theorem Pr.of_test {n f : Nat} (h2 : 2 ≤ n) (hf : n < (f + 2) * (f + 2)) (h : noDiv n f 2 = true) : Pr n := by
  refine .of_noDiv h2 fun e h1 h3 => noDiv_spec h e h1 ?_
  false_or_by_contra
  have : f + 2 ≤ e := by omega
  have := Nat.mul_le_mul this this
  omega
theorem pigeon : ∀ (m n : Nat) (f : Nat → Nat), (∀ i, i < n → f i < m) → m < n → ∃ i j, i < j ∧ j < n ∧ f i = f j
  | 0, n, f, h, hn => absurd (h 0 hn) (Nat.not_lt_zero _)
  | m + 1, n, f, h, hn => by
    obtain ⟨k, rfl⟩ : ∃ k, n = k + 1 := ⟨n - 1, by omega⟩
    by_cases hc : ∃ i, i < k ∧ f i = f k
    · obtain ⟨i, hi, e⟩ := hc
      exact ⟨i, k, hi, Nat.lt_succ_self _, e⟩
    · have hno : ∀ i, i < k → f i ≠ f k := fun i hi e => hc ⟨i, hi, e⟩
      have hk := h k (Nat.lt_succ_self _)
      obtain ⟨i, j, hij, hj, e⟩ := pigeon m k (fun i => if f i = m then f k else f i) (fun i hi => by
        have h1 := h i (by omega)
        have h2 := hno i hi
        show (if f i = m then f k else f i) < m
        split <;> omega) (by omega)
      refine ⟨i, j, hij, by omega, ?_⟩
      have hi' := hno i (by omega)
      have hj' := hno j hj
      (try dsimp only at e)
      split at e <;> split at e <;> omega

noncomputable def lx : Nat → Int × Int
  | 0 => (1, 0)
  | n + 1 => (2 * (lx n).1 + 3 * (lx n).2, (lx n).1 + 2 * (lx n).2)
theorem lx_add (m : Nat) : ∀ n, lx (m + n) = ((lx m).1 * (lx n).1 + 3 * ((lx m).2 * (lx n).2), (lx m).1 * (lx n).2 + (lx m).2 * (lx n).1)
  | 0 => by simp [lx]
  | n + 1 => by
    show (2 * (lx (m + n)).1 + 3 * (lx (m + n)).2, (lx (m + n)).1 + 2 * (lx (m + n)).2) = _
    rw [lx_add m n]
    show _ = ((lx m).1 * (2 * (lx n).1 + 3 * (lx n).2) + 3 * ((lx m).2 * ((lx n).1 + 2 * (lx n).2)), (lx m).1 * ((lx n).1 + 2 * (lx n).2) + (lx m).2 * (2 * (lx n).1 + 3 * (lx n).2))
    refine Prod.ext ?_ ?_ <;> dsimp only <;> grind
theorem lx_norm : ∀ n, (lx n).1 * (lx n).1 - 3 * ((lx n).2 * (lx n).2) = 1
  | 0 => by simp [lx]
  | n + 1 => by
    have ih := lx_norm n
    show (2 * (lx n).1 + 3 * (lx n).2) * (2 * (lx n).1 + 3 * (lx n).2) - 3 * (((lx n).1 + 2 * (lx n).2) * ((lx n).1 + 2 * (lx n).2)) = 1
    generalize (lx n).1 = x at *
    generalize (lx n).2 = y at *
    grind
theorem lx_dbl (n : Nat) : (lx (n + n)).1 = 2 * ((lx n).1 * (lx n).1) - 1 ∧ (lx (n + n)).2 = 2 * ((lx n).1 * (lx n).2) := by
  have h := lx_norm n
  rw [lx_add]
  have e : (lx n).2 * (lx n).1 = (lx n).1 * (lx n).2 := Int.mul_comm ..
  dsimp only
  omega
noncomputable def LId (d : Int) (n : Nat) : Prop := d ∣ (lx n).1 - 1 ∧ d ∣ (lx n).2
noncomputable def LNg (d : Int) (n : Nat) : Prop := d ∣ (lx n).1 + 1 ∧ d ∣ (lx n).2
theorem dvd_of_eq {d a b : Int} (h : d ∣ a) (e : a = b) : d ∣ b := e ▸ h
theorem LId.add {d : Int} {m n : Nat} (h : LId d m) (k : LId d n) : LId d (m + n) := by
  obtain ⟨⟨a, ha⟩, b, hb⟩ := h
  obtain ⟨⟨a', ha'⟩, b', hb'⟩ := k
  unfold LId
  rw [lx_add]
  have e1 : (lx m).1 = d * a + 1 := by omega
  have e2 : (lx n).1 = d * a' + 1 := by omega
  rw [e1, e2, hb, hb']
  constructor
  · exact ⟨a * (d * a') + a + a' + 3 * (b * (d * b')), by grind⟩
  · exact ⟨a * (d * b') + b' + (b * (d * a') + b), by grind⟩
theorem LId.mul {d : Int} {n : Nat} (h : LId d n) : ∀ c, LId d (n * c)
  | 0 => ⟨⟨0, by simp [lx]⟩, ⟨0, by simp [lx]⟩⟩
  | c + 1 => by rw [Nat.mul_succ]; exact (h.mul c).add h
theorem LNg.addI {d : Int} {m n : Nat} (h : LId d m) (k : LNg d n) : LNg d (m + n) := by
  obtain ⟨⟨a, ha⟩, b, hb⟩ := h
  obtain ⟨⟨a', ha'⟩, b', hb'⟩ := k
  unfold LNg
  rw [lx_add]
  have e1 : (lx m).1 = d * a + 1 := by omega
  have e2 : (lx n).1 = d * a' - 1 := by omega
  rw [e1, e2, hb, hb']
  constructor
  · exact ⟨a * (d * a') - a + a' + 3 * (b * (d * b')), by grind⟩
  · exact ⟨a * (d * b') + b' + (b * (d * a') - b), by grind⟩
theorem LNg.dbl {d : Int} {n : Nat} (k : LNg d n) : LId d (n + n) := by
  obtain ⟨⟨a', ha'⟩, b', hb'⟩ := k
  unfold LId
  obtain ⟨q1, q2⟩ := lx_dbl n
  rw [q1, q2]
  have e2 : (lx n).1 = d * a' - 1 := by omega
  rw [e2, hb']
  constructor
  · exact ⟨2 * (a' * (d * a')) - 4 * a', by grind⟩
  · exact ⟨2 * (a' * (d * b')) - 2 * b', by grind⟩
theorem LNg.odd {d : Int} {n : Nat} (k : LNg d n) (c : Nat) : LNg d (n * (2 * c + 1)) := by
  have h := LNg.addI (k.dbl.mul c) k
  have e : (n + n) * c + n = n * (2 * c + 1) := by
    rw [Nat.mul_add, Nat.mul_one, Nat.add_mul, ← Nat.mul_assoc, Nat.mul_comm n 2, Nat.two_mul, Nat.add_mul]
  rw [← e]; exact h
theorem two_part : ∀ n : Nat, 0 < n → ∃ t c, n = 2 ^ t * (2 * c + 1) := by
  intro n
  induction n using Nat.strongRecOn with
  | ind n ih =>
    intro hn
    by_cases h : n % 2 = 1
    · exact ⟨0, n / 2, by omega⟩
    · obtain ⟨t, c, e⟩ := ih (n / 2) (by omega) (by omega)
      refine ⟨t + 1, c, ?_⟩
      have e2 : n = 2 * (n / 2) := by omega
      rw [e2, Nat.pow_succ, Nat.mul_comm (2 ^ t) 2, Nat.mul_assoc, ← e]

noncomputable def llR (M : Nat) : Nat → Nat → Nat
  | 0, s => s
  | k + 1, s => llR M k ((s * s + (M - 2)) % M)
theorem llR_spec {M : Nat} (hM : 2 ≤ M) : ∀ (k i : Nat) (s : Nat), (M : Int) ∣ (s : Int) - 2 * (lx (2 ^ i)).1 → (M : Int) ∣ (llR M k s : Int) - 2 * (lx (2 ^ (i + k))).1
  | 0, i, s, h => h
  | k + 1, i, s, h => by
    have key : (M : Int) ∣ (((s * s + (M - 2)) % M : Nat) : Int) - 2 * (lx (2 ^ (i + 1))).1 := by
      have e : 2 ^ (i + 1) = 2 ^ i + 2 ^ i := by rw [Nat.pow_succ]; omega
      rw [e, (lx_dbl (2 ^ i)).1]
      obtain ⟨c, hc⟩ := h
      have hs : (s : Int) = M * c + 2 * (lx (2 ^ i)).1 := by omega
      have e1 : (((s * s + (M - 2)) % M : Nat) : Int) = ((s : Int) * s + (M - 2)) - M * (((s * s + (M - 2)) / M : Nat) : Int) := by
        have := Nat.div_add_mod (s * s + (M - 2)) M
        have h3 : ((M * ((s * s + (M - 2)) / M) + (s * s + (M - 2)) % M : Nat) : Int) = ((s * s + (M - 2) : Nat) : Int) := by rw [this]
        rw [Int.natCast_add, Int.natCast_mul, Int.natCast_add, Int.natCast_mul, Int.natCast_sub hM] at h3
        omega
      rw [e1, hs]
      generalize (((s * s + (M - 2)) / M : Nat) : Int) = q
      generalize (lx (2 ^ i)).1 = x
      exact ⟨c * (M * c) + 4 * (c * x) + 1 - q, by grind⟩
    have := llR_spec hM k (i + 1) _ key
    have e : i + 1 + k = i + (k + 1) := by omega
    rw [e] at this
    exact this
theorem dvd_odd {d x : Int} (hd : ∃ c, d = 2 * c + 1) (h : d ∣ 2 * x) : d ∣ x := by
  obtain ⟨c, rfl⟩ := hd
  obtain ⟨k, hk⟩ := h
  refine ⟨x - c * k, ?_⟩
  have e : (2 * c + 1) * k = 2 * (c * k) + k := by rw [Int.add_mul, Int.mul_assoc, Int.one_mul]
  rw [e] at hk
  have e2 : (2 * c + 1) * (x - c * k) = 2 * (c * (x - c * k)) + (x - c * k) := by rw [Int.add_mul, Int.mul_assoc, Int.one_mul]
  rw [e2, Int.mul_sub]
  have hk' : k = 2 * (x - c * k) := by omega
  have : c * k = c * (2 * (x - c * k)) := by rw [← hk']
  rw [Int.mul_left_comm, Int.mul_sub] at this
  omega
theorem Pr.ll {p : Nat} (hp : 3 ≤ p) (h : llR (2 ^ p - 1) (p - 2) 4 = 0) : Pr (2 ^ p - 1) := by
  have hpow : 8 ≤ 2 ^ p := Nat.pow_le_pow_right (n := 2) (by decide) hp
  have hodd : 2 ^ p = 2 * 2 ^ (p - 1) := by
    have e : p = (p - 1) + 1 := by omega
    conv => lhs; rw [e]
    rw [Nat.pow_succ, Nat.mul_comm]
  have hs := llR_spec (M := 2 ^ p - 1) (by omega) (p - 2) 0 4 ⟨0, by rw [Int.mul_zero]; rfl⟩
  rw [h, Nat.zero_add] at hs
  have small : ∀ d, d ∣ 2 ^ p - 1 → d * d ≤ 2 ^ p - 1 → d = 1 := by
    intro d hd hle
    false_or_by_contra
    rename_i hne
    obtain ⟨m, hm⟩ := hd
    have hd0 : 0 < d := Nat.pos_of_ne_zero fun q => by subst q; omega
    have hdodd : ∃ c : Int, (d : Int) = 2 * c + 1 := by
      by_cases q : d % 2 = 1
      · exact ⟨(d / 2 : Nat), by omega⟩
      · exfalso
        have e : d * m = 2 * (d / 2 * m) := by
          have : d = 2 * (d / 2) := by omega
          conv => lhs; rw [this]
          rw [Nat.mul_assoc]
        omega
    have hX : (d : Int) ∣ (lx (2 ^ (p - 2))).1 := by
      refine dvd_odd hdodd ?_
      have h1 : (d : Int) ∣ ((2 ^ p - 1 : Nat) : Int) := Int.natCast_dvd_natCast.mpr ⟨m, hm⟩
      have h2 := Int.dvd_trans h1 hs
      have h3 : (d : Int) ∣ -(((0 : Nat) : Int) - 2 * (lx (2 ^ (p - 2))).1) := Int.dvd_neg.mpr h2
      exact dvd_of_eq h3 (by omega)
    have e1 : 2 ^ (p - 1) = 2 ^ (p - 2) + 2 ^ (p - 2) := by
      have e : p - 1 = (p - 2) + 1 := by omega
      rw [e, Nat.pow_succ]; omega
    have hng : LNg d (2 ^ (p - 1)) := by
      obtain ⟨a, ha⟩ := hX
      unfold LNg
      rw [e1, (lx_dbl _).1, (lx_dbl _).2, ha]
      refine ⟨⟨2 * (a * (d * a)), ?_⟩, ⟨2 * (a * (lx (2 ^ (p - 2))).2), ?_⟩⟩
      · grind
      · grind
    obtain ⟨i, j, hij, hj, e⟩ := pigeon (d * d) (2 ^ p) (fun n => ((lx n).1 % d).toNat * d + ((lx n).2 % d).toNat) (fun n _ => by
      have a1 := Int.emod_nonneg (lx n).1 (b := (d : Int)) (by omega)
      have a2 := Int.emod_lt_of_pos (lx n).1 (b := (d : Int)) (by omega)
      have b1 := Int.emod_nonneg (lx n).2 (b := (d : Int)) (by omega)
      have b2 := Int.emod_lt_of_pos (lx n).2 (b := (d : Int)) (by omega)
      have h3 : ((lx n).1 % d).toNat + 1 ≤ d := by omega
      have h4 := Nat.mul_le_mul_right d h3
      rw [Nat.add_mul] at h4
      omega) (by omega)
    (try dsimp only at e)
    have ai := Int.emod_nonneg (lx i).2 (b := (d : Int)) (by omega)
    have ai2 := Int.emod_lt_of_pos (lx i).2 (b := (d : Int)) (by omega)
    have aj := Int.emod_nonneg (lx j).2 (b := (d : Int)) (by omega)
    have aj2 := Int.emod_lt_of_pos (lx j).2 (b := (d : Int)) (by omega)
    have bi := Int.emod_nonneg (lx i).1 (b := (d : Int)) (by omega)
    have bj := Int.emod_nonneg (lx j).1 (b := (d : Int)) (by omega)
    have hy : ((lx i).2 % d).toNat = ((lx j).2 % d).toNat := by
      have := congrArg (· % d) e
      simpa [Nat.add_mod, Nat.mod_eq_of_lt (show ((lx i).2 % d).toNat < d by omega), Nat.mod_eq_of_lt (show ((lx j).2 % d).toNat < d by omega)] using this
    have hx : ((lx i).1 % d).toNat = ((lx j).1 % d).toNat := Nat.eq_of_mul_eq_mul_right hd0 (by omega)
    have hx' : (lx i).1 % d = (lx j).1 % d := by omega
    have hy' : (lx i).2 % d = (lx j).2 % d := by omega
    obtain ⟨u, hu⟩ : (d : Int) ∣ (lx j).1 - (lx i).1 := Int.dvd_of_emod_eq_zero (Int.emod_eq_emod_iff_emod_sub_eq_zero.mp hx'.symm)
    obtain ⟨v, hv⟩ : (d : Int) ∣ (lx j).2 - (lx i).2 := Int.dvd_of_emod_eq_zero (Int.emod_eq_emod_iff_emod_sub_eq_zero.mp hy'.symm)
    -- the difference's power is one
    have hid : LId d (j - i) := by
      have ha := lx_add (j - i) i
      have hn := lx_norm i
      have hji : j - i + i = j := by omega
      rw [hji] at ha
      have h1 := congrArg Prod.fst ha
      have h2 := congrArg Prod.snd ha
      dsimp only at h1 h2
      unfold LId
      generalize (lx (j - i)).1 = a at *
      generalize (lx (j - i)).2 = b at *
      generalize (lx i).1 = x at *
      generalize (lx i).2 = y at *
      generalize (lx j).1 = x' at *
      generalize (lx j).2 = y' at *
      refine ⟨⟨u * x - 3 * (v * y), ?_⟩, ⟨v * x - u * y, ?_⟩⟩
      · have : a = x' * x - 3 * (y' * y) := by grind
        grind
      · have : b = y' * x - x' * y := by grind
        grind
    obtain ⟨t, c, ht⟩ := two_part (j - i) (by omega)
    have htp : t < p := by
      false_or_by_contra
      have h5 : 2 ^ p ≤ 2 ^ t := Nat.pow_le_pow_right (by decide) (by omega)
      have h6 : 2 ^ t * 1 ≤ 2 ^ t * (2 * c + 1) := Nat.mul_le_mul_left _ (by omega)
      omega
    have h7 := hid.mul (2 ^ (p - 1 - t))
    have h8 := hng.odd c
    have e9 : (j - i) * 2 ^ (p - 1 - t) = 2 ^ (p - 1) * (2 * c + 1) := by
      rw [ht, Nat.mul_right_comm, ← Nat.pow_add]
      congr 2
      omega
    rw [e9] at h7
    obtain ⟨⟨a, ha⟩, -⟩ := h7
    obtain ⟨⟨b, hb⟩, -⟩ := h8
    have h2d : (d : Int) ∣ 2 := ⟨b - a, by rw [Int.mul_sub]; omega⟩
    have h3 : d ∣ 2 := Int.natCast_dvd_natCast.mp h2d
    have h4 := Nat.le_of_dvd (by decide) h3
    obtain ⟨k, hk⟩ := hdodd
    omega
  refine ⟨by omega, fun d hd => ?_⟩
  obtain ⟨e, he⟩ := hd
  by_cases hle : d * d ≤ 2 ^ p - 1
  · exact .inl (small d ⟨e, he⟩ hle)
  · have hlt : e ≤ d := by
      false_or_by_contra
      have := Nat.mul_le_mul_left d (show d ≤ e by omega)
      omega
    have h1 : e = 1 := small e ⟨d, by rw [he, Nat.mul_comm]⟩ (by have := Nat.mul_le_mul_right e hlt; omega)
    subst h1
    right; omega
end Mine

namespace Mine
theorem powMod_go (b m e : Nat) : ∀ (k p : Nat), p % m = b ^ (e >>> k) % m → ((List.range k).reverse.foldl (fun p i => if e.testBit i then p * p % m * b % m else p * p % m) p) % m = b ^ e % m
  | 0, p, h => by simpa using h
  | k + 1, p, h => by
    rw [List.range_succ, List.reverse_append]
    show ((List.range k).reverse.foldl _ (if e.testBit k then p * p % m * b % m else p * p % m)) % m = _
    refine powMod_go b m e k _ ?_
    have hs : e >>> k = 2 * (e >>> (k + 1)) + (if e.testBit k then 1 else 0) := by
      have h1 : e >>> (k + 1) = (e >>> k) / 2 := by rw [Nat.shiftRight_succ]
      have h2 : e.testBit k = decide ((e >>> k) % 2 = 1) := by
        rw [Nat.testBit_eq_decide_div_mod_eq, Nat.shiftRight_eq_div_pow]
      rw [h1, h2]
      by_cases q : (e >>> k) % 2 = 1
      · simp [q]; omega
      · simp [q]; omega
    have hq : p * p % m = b ^ (2 * (e >>> (k + 1))) % m := by
      rw [Nat.mul_mod, h, ← Nat.mul_mod, ← Nat.pow_add, Nat.two_mul]
    rw [hs]
    by_cases hb : e.testBit k
    · simp only [hb, if_true]
      rw [Nat.mod_mod, Nat.mul_mod, Nat.mod_mod, hq, ← Nat.mul_mod, Nat.pow_add, Nat.pow_one]
    · simp only [hb, if_false, Nat.add_zero, Bool.false_eq_true]
      rw [Nat.mod_mod, hq]
noncomputable def PM (x y m : Int) : Int := (((x % m).toNat ^ y.toNat % m.toNat : Nat) : Int)
theorem PM_nn (x y m : Int) : 0 ≤ PM x y m := Int.natCast_nonneg _
theorem PM_lt {x y m : Int} (hm : 0 < m) : PM x y m < m := by
  unfold PM
  have := Nat.mod_lt ((x % m).toNat ^ y.toNat) (show 0 < m.toNat by omega)
  omega
theorem powMod_lt (b m e : Nat) (hm : 0 < m) : Builtin.powMod b e m < m := by
  unfold Builtin.powMod
  have : ∀ (l : List Nat) (p : Nat), p < m → l.foldl (fun p i => if e.testBit i then p * p % m * b % m else p * p % m) p < m := by
    intro l
    induction l with
    | nil => intro p h; exact h
    | cons x r ih =>
      intro p h
      refine ih _ ?_
      show (if e.testBit x = true then p * p % m * b % m else p * p % m) < m
      split <;> exact Nat.mod_lt _ hm
  exact this _ _ (Nat.mod_lt _ hm)
theorem powMod_is (b e m : Nat) (hm : 0 < m) : Builtin.powMod b e m = b ^ e % m := by
  have h1 := powMod_lt b m e hm
  rw [← Nat.mod_eq_of_lt h1]
  unfold Builtin.powMod
  refine powMod_go b m e _ _ ?_
  have hb : e >>> Builtin.Int.intBits (e : Int) = 0 := by
    unfold Builtin.Int.intBits
    by_cases h0 : e = 0
    · subst h0; rfl
    · have hb : ((e : Int) == 0) = false := by simpa using h0
      rw [hb]
      simp only [Bool.false_eq_true, if_false, Int.natAbs_natCast]
      rw [Nat.shiftRight_eq_div_pow]
      exact Nat.div_eq_of_lt Nat.lt_log2_self
  rw [hb]; simp

theorem entry_powT : entryFor table "pow" = some Builtin.«pow» := entryFor_of_fast (by kernel_rfl)
theorem kind_powT : builtinKind "pow" = none := by decide +kernel
theorem plain_powT : plainId "pow" = true := by decide +kernel
theorem args_pow3 (a b c : Value) : argsOk "pow" ⟨[a, b, c], []⟩ := by unfold argsOk; kernel_rfl
section
variable {prog : Program} {w : World} {A : Around} {E : Value → Shared → Prop} {s : Shared} {x y m : Int} {t u v : Tok} {Q : Value → Shared → Prop}
theorem call_int_pow3 (hm : 0 < m) (hy : 0 ≤ y) (h : Q (.int ((((x % m).toNat ^ y.toNat % m.toNat : Nat) : Int)) s.toks) { s with toks := s.toks + 1 }) :
    wpAny (model prog w) A (call (.builtin "int.__pow__") [.int x t, .int y u, .int m v]) (fun r s' => r ≠ .notImplemented ∧ Q r s') E s := by
  refine wpAny_call_entry slot_int_pow (typeIs_int s x t) entry_int_pow ?_ (F.args_int_pow_3 _ _ _)
  have hm0 : (m == 0) = false := by simpa using (show m ≠ 0 by omega)
  have hy0 : ¬ y < 0 := by omega
  show wpAny _ _ (if (m == 0) = true then _ else _) _ _ s
  rw [if_neg (by rw [hm0]; exact Bool.false_ne_true)]
  show wpAny _ _ (if (m.natAbs == 1) = true then _ else _) _ _ s
  by_cases h1 : m.natAbs = 1
  · have e1 : m = 1 := by omega
    subst e1
    rw [if_pos (by decide : (Int.natAbs 1 == 1) = true)]
    have e2 : (((x % 1).toNat ^ y.toNat % (1 : Int).toNat : Nat) : Int) = 0 := by
      have : (1 : Int).toNat = 1 := rfl
      rw [this, Nat.mod_one]; rfl
    rw [e2] at h
    exact wpAny_bind (wpAny_rule (wpAny_ret_mkInt ⟨by simp, h⟩))
  · rw [if_neg (by simpa using h1)]
    show wpAny _ _ (if y < 0 then _ else _) _ _ s
    rw [if_neg hy0]
    show wpAny _ _ (do ret (← mkInt (if (decide (m < 0) && ((Builtin.powMod (x % (m.natAbs : Int)).toNat y.natAbs m.natAbs : Nat) : Int) != 0) = true then ((Builtin.powMod (x % (m.natAbs : Int)).toNat y.natAbs m.natAbs : Nat) : Int) - m.natAbs else ((Builtin.powMod (x % (m.natAbs : Int)).toNat y.natAbs m.natAbs : Nat) : Int)))) _ _ s
    have hlt : decide (m < 0) = false := by simpa using (show 0 ≤ m by omega)
    rw [hlt, Bool.false_and, if_neg Bool.false_ne_true]
    have e1 : m.natAbs = m.toNat := by omega
    have e2 : y.natAbs = y.toNat := by omega
    have e3 : ((m.toNat : Nat) : Int) = m := by omega
    rw [e1, e2, e3, powMod_is _ _ _ (by omega)]
    exact wpAny_ret_mkInt ⟨by simp, h⟩
theorem pow3 (hm : 0 < m) (hy : 0 ≤ y) (h : Q (.int (PM x y m) s.toks) { s with toks := s.toks + 1 }) :
    wpAny (model prog w) A (call (.builtin "pow") [.int x t, .int y u, .int m v]) Q E s := by
  refine Calls.call_function_entry kind_powT plain_powT entry_powT (args_pow3 _ _ _) ?_
  unfold Builtin.«pow»
  refine wpAny_bind (m := Builtin.Builtins.bindParams "pow" ["base", "exp", "mod"] 2 _) (wpAny_pure ?_)
  refine wpAny_bind (wpAny_rule ?_)
  refine wpAny_bind (m := typeOf (.int x t)) (wpAny_pure ?_)
  have hT : s.TypeIs (.int x t) "int" := rfl
  have f3 : typeLookup (.type "int") (Str.ofString "__pow__") = pure (some (.builtin "int.__pow__")) := slot_int_pow.lookup
  refine wpAny_bind (m := typeLookup (.type "int") (Str.ofString "__pow__")) ?_
  rw [f3]
  refine wpAny_pure ?_
  refine wpAny_bind (m := callSpecial? (.int x t) (Str.ofString "__pow__") [.int y u, .int m v]) ?_
  refine wpAny_callSpecial?_slot (name := Str.ofString "__pow__") hT slot_int_pow (wpAny_mono (call_int_pow3 hm hy (Q := Q) h) (fun r s' hr => ?_) fun _ _ z => z)
  show wpAny _ _ (if (r != .notImplemented) = true then ret r else _) _ _ s'
  rw [if_pos (by simpa using hr.1)]
  exact wpAny_pure ⟨_, rfl, hr.2⟩
end
theorem pow_dvd_sub {m a b : Int} (h : m ∣ a - b) : ∀ k : Nat, m ∣ a ^ k - b ^ k
  | 0 => ⟨0, by simp⟩
  | k + 1 => by
    obtain ⟨c, hc⟩ := h
    obtain ⟨d, hd⟩ := pow_dvd_sub ⟨c, hc⟩ k
    exact ⟨d * a + b ^ k * c, by rw [Int.pow_succ, Int.pow_succ]; grind⟩
theorem emod_dvd (m a : Int) : m ∣ a % m - a := ⟨-(a / m), by have := Int.emod_add_mul_ediv a m; grind⟩
theorem fmod_dvd {m a : Int} (hm : 0 < m) : m ∣ a.fmod m - a := by rw [Int.fmod_eq_emod_of_nonneg _ (Int.le_of_lt hm)]; exact emod_dvd m a
theorem PM_eq {x y m : Int} (hm : 0 < m) : PM x y m = (x % m) ^ y.toNat % m := by
  unfold PM
  have h1 : ((x % m).toNat : Int) = x % m := Int.toNat_of_nonneg (Int.emod_nonneg _ (by omega))
  have h2 : (m.toNat : Int) = m := Int.toNat_of_nonneg (by omega)
  rw [Int.natCast_emod, Int.natCast_pow, h1, h2]
theorem PM_dvd {x y m : Int} (hm : 0 < m) : m ∣ PM x y m - x ^ y.toNat := by
  rw [PM_eq hm]
  obtain ⟨c, hc⟩ := emod_dvd m ((x % m) ^ y.toNat)
  obtain ⟨d, hd⟩ := pow_dvd_sub (emod_dvd m x) y.toNat
  exact ⟨c + d, by grind⟩
theorem res_unique {m a b : Int} (h : m ∣ a - b) (ha : 0 ≤ a) (ha1 : a < m) (hb : 0 ≤ b) (hb1 : b < m) : a = b := by
  have := Int.emod_emod_of_dvd
  have h1 := Int.emod_eq_emod_iff_emod_sub_eq_zero.mpr (Int.emod_eq_zero_of_dvd h)
  rwa [Int.emod_eq_of_lt ha ha1, Int.emod_eq_of_lt hb hb1] at h1
theorem dvd_trans_sub {m a b c : Int} (h : m ∣ a - b) (k : m ∣ b - c) : m ∣ a - c := by
  obtain ⟨x, hx⟩ := h
  obtain ⟨y, hy⟩ := k
  exact ⟨x + y, by grind⟩
theorem dvd_sub_symm {m a b : Int} (h : m ∣ a - b) : m ∣ b - a := by
  obtain ⟨x, hx⟩ := h
  exact ⟨-x, by grind⟩
theorem dvd_mul_sub {m a b c d : Int} (h : m ∣ a - b) (k : m ∣ c - d) : m ∣ a * c - b * d := by
  obtain ⟨x, hx⟩ := h
  obtain ⟨y, hy⟩ := k
  exact ⟨x * c + b * y, by grind⟩
theorem PM_of_dvd {x y m r : Int} (hm : 0 < m) (h : m ∣ r - x ^ y.toNat) (h0 : 0 ≤ r) (h1 : r < m) : r = PM x y m :=
  res_unique (dvd_trans_sub h (dvd_sub_symm (PM_dvd hm))) h0 h1 (PM_nn _ _ _) (PM_lt hm)
theorem PM_bd {x y m : Int} {k : Nat} (hm : 0 < m) (h : Bd k m) : Bd k (PM x y m) := Bd.of_lt (PM_nn _ _ _) (Int.le_of_lt (PM_lt hm)) h
theorem fmod_bd {x m : Int} {k : Nat} (hm : 0 < m) (h : Bd k m) : Bd k (x.fmod m) := Bd.of_lt (fmod_nn hm).1 (Int.le_of_lt (fmod_nn hm).2) h
theorem blinded_dvd {x b e n : Int} (hn : 0 < n) : n ∣ (x * PM b e n).fmod n - x * b ^ e.toNat := by
  obtain ⟨c, hc⟩ := fmod_dvd (a := x * PM b e n) hn
  obtain ⟨d, hd⟩ := PM_dvd (x := b) (y := e) hn
  exact ⟨c + x * d, by grind⟩
theorem pw_half {e : Int} (h : 0 ≤ e) : 0 ≤ e.fdiv 2 ∧ e = 2 * e.fdiv 2 + e.fmod 2 ∧ 0 ≤ e.fmod 2 ∧ e.fmod 2 < 2 := by
  have h1 : e.fdiv 2 = e / 2 := Int.fdiv_eq_ediv_of_nonneg _ (by decide)
  have h2 : e.fmod 2 = e % 2 := Int.fmod_eq_emod_of_nonneg _ (by decide)
  omega
theorem pw_bd {e : Int} {k j : Nat} (h0 : 0 ≤ e) (h : Bd k e) (hk : k = j + 1) : Bd j (e.fdiv 2) := by
  subst hk
  have h1 := pw_half h0
  unfold Bd at *
  have : 2 ^ (j + 1) = 2 * 2 ^ j := by rw [Nat.pow_succ]; omega
  omega
theorem Bd.zero_of {e : Int} (h : Bd 0 e) : e = 0 := by
  unfold Bd at h
  omega
theorem pw_even {n f b e T : Int} (hn : 0 < n) (he : 0 ≤ e) (h0 : e.fmod 2 = 0) (h : n ∣ f * b ^ e.toNat - T) : n ∣ f * (b * b).fmod n ^ (e.fdiv 2).toNat - T := by
  obtain ⟨h1, h2, h3, h4⟩ := pw_half he
  have e1 : e.toNat = 2 * (e.fdiv 2).toNat := by omega
  rw [e1, Int.pow_mul] at h
  obtain ⟨c, hc⟩ := pow_dvd_sub (fmod_dvd (a := b * b) hn) (e.fdiv 2).toNat
  obtain ⟨d, hd⟩ := h
  have e2 : b ^ 2 = b * b := by grind
  rw [e2] at hd
  exact ⟨f * c + d, by grind⟩
theorem pw_odd {n f b e T : Int} (hn : 0 < n) (he : 0 ≤ e) (h0 : e.fmod 2 = 1) (h : n ∣ f * b ^ e.toNat - T) : n ∣ (f * b).fmod n * (b * b).fmod n ^ (e.fdiv 2).toNat - T := by
  obtain ⟨h1, h2, h3, h4⟩ := pw_half he
  have e1 : e.toNat = 2 * (e.fdiv 2).toNat + 1 := by omega
  rw [e1, Int.pow_succ, Int.pow_mul] at h
  obtain ⟨c, hc⟩ := pow_dvd_sub (fmod_dvd (a := b * b) hn) (e.fdiv 2).toNat
  obtain ⟨d, hd⟩ := h
  obtain ⟨g, hg⟩ := fmod_dvd (a := f * b) hn
  have e2 : b ^ 2 = b * b := by grind
  rw [e2] at hd
  exact ⟨f * b * c + d + g * (b * b).fmod n ^ (e.fdiv 2).toNat, by grind⟩
theorem pw_done {n f b T : Int} (h : n ∣ f * b ^ (0 : Int).toNat - T) : n ∣ f - T := by simpa using h
theorem pw_start {x n : Int} {e : Nat} (hn : 0 < n) : n ∣ (1 : Int).fmod n * x ^ e - x ^ e := by
  obtain ⟨c, hc⟩ := fmod_dvd (a := 1) hn
  exact ⟨c * x ^ e, by grind⟩
end Mine

namespace Mine
structure KeyS where
  n : Int
  e : Int
  d : Int
  p : Int
  q : Int
  x1 : Int
  x2 : Int
  cf : Int
  tn : Tok
  te : Tok
  td : Tok
  tp : Tok
  tq : Tok
  tx1 : Tok
  tx2 : Tok
  tcf : Tok
  k1 : Tok
  k2 : Tok
  k3 : Tok
  k4 : Tok
  k5 : Tok
  k6 : Tok
  k7 : Tok
  k8 : Tok
  k9 : Tok
  k10 : Tok
noncomputable abbrev keyE (w : World) (nm : Str) (k : Tok) (v : Value) : DictEntry := ⟨PyData.keyHash w.params nm, .str nm k, v⟩
noncomputable abbrev KeyL (w : World) (C x dx : Nat) (S : KeyS) (bf : Int) (tbf : Tok) (bi : Int) (tbi : Tok) : List (Addr × Obj) :=
  [(x, instObj C dx), (dx, dictOf [keyE w (Str.ofString "n") S.k1 (.int S.n S.tn), keyE w (Str.ofString "e") S.k2 (.int S.e S.te), keyE w (Str.ofString "blindfac") S.k3 (.int bf tbf), keyE w (Str.ofString "blindfac_inverse") S.k4 (.int bi tbi),
    keyE w (Str.ofString "d") S.k5 (.int S.d S.td), keyE w (Str.ofString "p") S.k6 (.int S.p S.tp), keyE w (Str.ofString "q") S.k7 (.int S.q S.tq), keyE w (Str.ofString "exp1") S.k8 (.int S.x1 S.tx1), keyE w (Str.ofString "exp2") S.k9 (.int S.x2 S.tx2), keyE w (Str.ofString "coef") S.k10 (.int S.cf S.tcf)] 10)]
noncomputable abbrev PubL (w : World) (C x dx : Nat) (S : KeyS) (bf : Int) (tbf : Tok) (bi : Int) (tbi : Tok) : List (Addr × Obj) :=
  [(x, instObj C dx), (dx, dictOf [keyE w (Str.ofString "n") S.k1 (.int S.n S.tn), keyE w (Str.ofString "e") S.k2 (.int S.e S.te), keyE w (Str.ofString "blindfac") S.k3 (.int bf tbf), keyE w (Str.ofString "blindfac_inverse") S.k4 (.int bi tbi)] 4)]
noncomputable def KOk (S : KeyS) : Prop := 0 < S.n ∧ Bd 470 S.n ∧ (0 ≤ S.e ∧ Bd 470 S.e)
noncomputable def BfOk (S : KeyS) (bf bi : Int) : Prop := (bf < 0 ∨ (0 ≤ bf ∧ Bd 471 bf ∧ 0 ≤ bi ∧ bi ≤ S.n ∧ S.n ∣ bi * bf - 1))
theorem Bd.lt_succ {M : Nat} {a b : Int} (h : Bd M a) (h0 : 0 ≤ b) (h1 : b ≤ a + 1) : Bd (M + 1) b := by
  unfold Bd at *
  have : 2 ^ (M + 1) = 2 * 2 ^ M := by rw [Nat.pow_succ]; omega
  have : 0 < 2 ^ M := Nat.two_pow_pos M
  omega
theorem gcd_succ (n : Int) : Int.gcd n (n + 1) = 1 := by
  rw [Int.add_comm, Int.gcd_add_self_right]
  exact Int.gcd_one_right n
theorem BfOk.first {S : KeyS} {r i : Int} (hk : KOk S) (h2 : 2 ≤ r) (hb : Bd 471 r) (h0 : 0 ≤ i) (h1 : i ≤ S.n) (hd : S.n ∣ i * r - 1) : BfOk S r i := .inr ⟨by omega, hb, h0, h1, hd⟩
theorem BfOk.next {S : KeyS} {bf bi : Int} (hk : KOk S) (h : BfOk S bf bi) (hn : ¬ bf < 0) : BfOk S (PM bf 2 S.n) (PM bi 2 S.n) := by
  rcases h with h | ⟨h1, h2, h3, h4, h5⟩
  · exact absurd h hn
  · refine .inr ⟨PM_nn _ _ _, Bd.of_lt (PM_nn _ _ _) (Int.le_of_lt (PM_lt hk.1)) (hk.2.1.mono (by decide)), PM_nn _ _ _, Int.le_of_lt (PM_lt hk.1), ?_⟩
    have a1 := PM_dvd (x := bf) (y := 2) hk.1
    have a2 := PM_dvd (x := bi) (y := 2) hk.1
    have a3 := dvd_mul_sub a2 a1
    refine dvd_trans_sub a3 ?_
    have a4 := dvd_mul_sub h5 h5
    obtain ⟨c, hc⟩ := a4
    refine ⟨c, ?_⟩
    show bi ^ 2 * bf ^ 2 - 1 = _
    grind
structure KRsa (S : KeyS) : Prop where
  ok : KOk S
  npq : S.n = S.p * S.q
  p0 : 0 < S.p
  q0 : 0 < S.q
  pB : Bd 130 S.p
  qB : Bd 130 S.q
  dB : Bd 470 S.d
  c0 : 0 ≤ S.cf
  c1 : S.cf ≤ S.p
  cd : S.p ∣ S.cf * S.q - 1
  x10 : 0 ≤ S.x1
  x20 : 0 ≤ S.x2
  d0 : 0 ≤ S.d
  xp : ∀ z : Int, S.p ∣ z ^ S.x1.toNat - z ^ S.d.toNat
  xq : ∀ z : Int, S.q ∣ z ^ S.x2.toNat - z ^ S.d.toNat
  both : ∀ a : Int, S.p ∣ a → S.q ∣ a → S.n ∣ a
  ed : ∀ z : Int, S.n ∣ z ^ (S.e.toNat * S.d.toNat) - z
theorem KRsa.bdec {S : KeyS} {r y b i u : Int} (K : KRsa S) (h1 : S.n ∣ r - y * b ^ S.e.toNat) (hb : BfOk S b i) (hb0 : 0 ≤ b) (u0 : 0 ≤ u) (u1 : u < S.n)
    (hu : S.n ∣ u - i * (PM r S.x2 S.q + S.q * ((PM r S.x1 S.p - PM r S.x2 S.q) * S.cf).fmod S.p)) : u = PM y S.d S.n := by
  have hbi : S.n ∣ i * b - 1 := by
    rcases hb with h | ⟨_, _, _, _, h⟩
    · omega
    · exact h
  refine PM_of_dvd K.ok.1 ?_ u0 u1
  have e1 : S.p ∣ PM r S.x1 S.p - r ^ S.d.toNat := dvd_trans_sub (PM_dvd K.p0) (K.xp r)
  have e2 : S.q ∣ PM r S.x2 S.q - r ^ S.d.toNat := dvd_trans_sub (PM_dvd K.q0) (K.xq r)
  have e3 := fmod_dvd (a := (PM r S.x1 S.p - PM r S.x2 S.q) * S.cf) K.p0
  generalize PM r S.x1 S.p = s1 at *
  generalize PM r S.x2 S.q = s2 at *
  generalize ((s1 - s2) * S.cf).fmod S.p = h at *
  have e4 : S.n ∣ (s2 + S.q * h) - r ^ S.d.toNat := by
    refine K.both _ ?_ ?_
    · obtain ⟨a1, q1⟩ := e1
      obtain ⟨a3, q3⟩ := e3
      obtain ⟨a4, q4⟩ := K.cd
      exact ⟨a1 + S.q * a3 + (s1 - s2) * a4, by grind⟩
    · obtain ⟨a2, q2⟩ := e2
      exact ⟨a2 + h, by grind⟩
  have e5 := pow_dvd_sub h1 S.d.toNat
  have e6 : S.n ∣ (y * b ^ S.e.toNat) ^ S.d.toNat - y ^ S.d.toNat * b := by
    have := K.ed b
    rw [Int.mul_pow, ← Int.pow_mul]
    obtain ⟨c, hc⟩ := this
    exact ⟨y ^ S.d.toNat * c, by grind⟩
  have e7 := dvd_trans_sub e4 (dvd_trans_sub e5 e6)
  obtain ⟨a1, q1⟩ := e7
  obtain ⟨a2, q2⟩ := hu
  obtain ⟨a3, q3⟩ := hbi
  exact ⟨a2 + i * a1 + y ^ S.d.toNat * a3, by grind⟩
theorem KRsa.benc {S : KeyS} {r y b i u : Int} (K : KRsa S) (h1 : S.n ∣ r - y * b ^ S.e.toNat) (hb : BfOk S b i) (hb0 : 0 ≤ b) (u0 : 0 ≤ u) (u1 : u < S.n)
    (hu : S.n ∣ u - i * PM r S.d S.n) : u = PM y S.d S.n := by
  have hbi : S.n ∣ i * b - 1 := by
    rcases hb with h | ⟨_, _, _, _, h⟩
    · omega
    · exact h
  refine PM_of_dvd K.ok.1 ?_ u0 u1
  have e4 := PM_dvd (x := r) (y := S.d) K.ok.1
  have e5 := pow_dvd_sub h1 S.d.toNat
  have e6 : S.n ∣ (y * b ^ S.e.toNat) ^ S.d.toNat - y ^ S.d.toNat * b := by
    have := K.ed b
    rw [Int.mul_pow, ← Int.pow_mul]
    obtain ⟨c, hc⟩ := this
    exact ⟨y ^ S.d.toNat * c, by grind⟩
  have e7 := dvd_trans_sub e4 (dvd_trans_sub e5 e6)
  obtain ⟨a1, q1⟩ := e7
  obtain ⟨a2, q2⟩ := hu
  obtain ⟨a3, q3⟩ := hbi
  exact ⟨a2 + i * a1 + y ^ S.d.toNat * a3, by grind⟩
theorem KRsa.back {S : KeyS} {y : Int} (K : KRsa S) (h0 : 0 ≤ y) (h1 : y < S.n) : PM (PM y S.e S.n) S.d S.n = y := by
  refine res_unique (m := S.n) ?_ (PM_nn _ _ _) (PM_lt K.ok.1) h0 h1
  have e1 := PM_dvd (x := PM y S.e S.n) (y := S.d) K.ok.1
  have e2 := pow_dvd_sub (PM_dvd (x := y) (y := S.e) K.ok.1) S.d.toNat
  rw [← Int.pow_mul] at e2
  exact dvd_trans_sub e1 (dvd_trans_sub e2 (K.ed y))
theorem KRsa.forth {S : KeyS} {y : Int} (K : KRsa S) (h0 : 0 ≤ y) (h1 : y < S.n) : PM (PM y S.d S.n) S.e S.n = y := by
  refine res_unique (m := S.n) ?_ (PM_nn _ _ _) (PM_lt K.ok.1) h0 h1
  have e1 := PM_dvd (x := PM y S.d S.n) (y := S.e) K.ok.1
  have e2 := pow_dvd_sub (PM_dvd (x := y) (y := S.d) K.ok.1) S.e.toNat
  rw [← Int.pow_mul, Nat.mul_comm] at e2
  exact dvd_trans_sub e1 (dvd_trans_sub e2 (K.ed y))
theorem BfOk.bd {S : KeyS} {b i : Int} (hk : KOk S) (h : BfOk S b i) (h0 : 0 ≤ b) : Bd 471 i := by
  rcases h with h | ⟨_, _, h3, h4, _⟩
  · omega
  · exact Bd.of_lt h3 h4 (hk.2.1.mono (by decide))
noncomputable def PrOk (r : Int) : Prop := 3 ≤ r ∧ Bd 127 r ∧ Pr r.toNat
theorem getD_lt {P : Int → Prop} {d : Int} : ∀ {l : List Int} {i : Nat}, (∀ x ∈ l, P x) → i < l.length → P (l.getD i d)
  | x :: l, 0, h, _ => h x (.head _)
  | x :: l, i + 1, h, hi => by
    show P (l.getD i d)
    exact getD_lt (fun y hy => h y (.tail _ hy)) (Nat.lt_of_succ_lt_succ hi)
theorem prOk_of {n : Nat} (h3 : 3 ≤ n) (hb : n < 2 ^ 127) (hp : Pr n) : PrOk (n : Int) := ⟨by omega, hb, hp⟩
theorem prOk_great {i : Nat} (h : i < 11) : PrOk (([65537, 998244353, 1000000007, 2 ^ Int.toNat 13 - 1, 2 ^ Int.toNat 17 - 1, 2 ^ Int.toNat 19 - 1, 2 ^ Int.toNat 31 - 1, 2 ^ Int.toNat 61 - 1, 2 ^ Int.toNat 89 - 1, 2 ^ Int.toNat 107 - 1, 2 ^ Int.toNat 127 - 1] : List Int).getD i 0) := by
  refine getD_lt ?_ h
  refine List.forall_mem_cons.mpr ⟨prOk_of (n := 65537) (by decide) (by decide) (Pr.of_test (f := 256) (by decide) (by decide) (by decide +kernel)), ?_⟩
  refine List.forall_mem_cons.mpr ⟨prOk_of (n := 998244353) (by decide) (by decide) (Pr.of_test (f := 31600) (by decide) (by decide) (by decide +kernel)), ?_⟩
  refine List.forall_mem_cons.mpr ⟨prOk_of (n := 1000000007) (by decide) (by decide) (Pr.of_test (f := 31650) (by decide) (by decide) (by decide +kernel)), ?_⟩
  refine List.forall_mem_cons.mpr ⟨prOk_of (n := 2 ^ 13 - 1) (by decide) (by decide) (Pr.ll (by decide) (by decide +kernel)), ?_⟩
  refine List.forall_mem_cons.mpr ⟨prOk_of (n := 2 ^ 17 - 1) (by decide) (by decide) (Pr.ll (by decide) (by decide +kernel)), ?_⟩
  refine List.forall_mem_cons.mpr ⟨prOk_of (n := 2 ^ 19 - 1) (by decide) (by decide) (Pr.ll (by decide) (by decide +kernel)), ?_⟩
  refine List.forall_mem_cons.mpr ⟨prOk_of (n := 2 ^ 31 - 1) (by decide) (by decide) (Pr.ll (by decide) (by decide +kernel)), ?_⟩
  refine List.forall_mem_cons.mpr ⟨prOk_of (n := 2 ^ 61 - 1) (by decide) (by decide) (Pr.ll (by decide) (by decide +kernel)), ?_⟩
  refine List.forall_mem_cons.mpr ⟨prOk_of (n := 2 ^ 89 - 1) (by decide) (by decide) (Pr.ll (by decide) (by decide +kernel)), ?_⟩
  refine List.forall_mem_cons.mpr ⟨prOk_of (n := 2 ^ 107 - 1) (by decide) (by decide) (Pr.ll (by decide) (by decide +kernel)), ?_⟩
  refine List.forall_mem_cons.mpr ⟨prOk_of (n := 2 ^ 127 - 1) (by decide) (by decide) (Pr.ll (by decide) (by decide +kernel)), ?_⟩
  exact List.forall_mem_nil _
theorem prOk_trial {n : Int} (h3 : 3 ≤ n) (h4 : n < 3600) (h : ∀ i : Nat, i < 58 → (2 + (i : Int)) * (2 + (i : Int)) ≤ n → n.fmod (2 + (i : Int)) > 0) : PrOk n := by
  refine ⟨h3, Bd.small (by omega) (by decide), Pr.of_noDiv (by omega) fun e he hle hm => ?_⟩
  have h5 : e < 60 := by
    refine Nat.lt_of_not_le fun hc => ?_
    have : 60 * 60 ≤ e * e := Nat.mul_le_mul hc hc
    omega
  obtain ⟨i, rfl⟩ : ∃ i, e = 2 + i := ⟨e - 2, by omega⟩
  obtain ⟨k, rfl⟩ : ∃ k : Nat, n = (k : Int) := ⟨n.toNat, by omega⟩
  rw [Int.toNat_natCast] at hm hle
  have h6 := h i (by omega) (by exact_mod_cast hle)
  have e1 : (2 + (i : Int)) = ((2 + i : Nat) : Int) := by omega
  rw [e1, Int.fmod_eq_emod_of_nonneg _ (by omega), ← Int.natCast_emod, hm] at h6
  exact absurd h6 (by decide)
theorem four_le {p q : Int} (hp : 3 ≤ p) (hq : 3 ≤ q) : 4 ≤ (p - 1) * (q - 1) := by
  obtain ⟨a, rfl⟩ : ∃ a, p = a + 3 := ⟨p - 3, by omega⟩
  obtain ⟨b, rfl⟩ : ∃ b, q = b + 3 := ⟨q - 3, by omega⟩
  have h : 0 ≤ a * b := Int.mul_nonneg (by omega) (by omega)
  have e : (a + 3 - 1) * (b + 3 - 1) = a * b + 2 * a + 2 * b + 4 := by grind
  omega
theorem prOk_3 : PrOk 3 := prOk_of (n := 3) (by decide) (by decide) (Pr.of_test (f := 0) (by decide) (by decide) (by decide))
theorem prOk_5 : PrOk 5 := prOk_of (n := 5) (by decide) (by decide) (Pr.of_test (f := 1) (by decide) (by decide) (by decide))
theorem alt_prime (p : Int) : PrOk (([3, 5] : List Int).getD (if (p == 3) = true then (1 : Int) else 0).toNat 0) ∧ p ≠ ([3, 5] : List Int).getD (if (p == 3) = true then (1 : Int) else 0).toNat 0 := by
  by_cases h : p = 3
  · subst h
    exact ⟨prOk_5, by decide⟩
  · have hb : (p == 3) = false := by simpa using h
    rw [hb]
    exact ⟨prOk_3, h⟩
theorem fmod_one {m x r : Int} (hm : 1 < m) (h : m ∣ r * x - 1) : (x * r).fmod m = 1 := by
  have h1 := fmod_dvd (a := x * r) (m := m) (by omega)
  have h2 := fmod_nn (a := x * r) (b := m) (by omega)
  refine res_unique (m := m) ?_ h2.1 h2.2 (by omega) hm
  obtain ⟨a, ha⟩ := h1
  obtain ⟨b, hb⟩ := h
  exact ⟨a + b, by grind⟩
theorem msg_ok {p q r d : Int} {i : Nat} (hp : 3 ≤ p) (hq : 3 ≤ q) (r0 : 0 ≤ r) (r1 : r < p) (hi : i < 7) : 0 ≤ ([0, 1, p * q - 1, p, q * r, d.fmod (p * q), d.fmod (p * q)] : List Int).getD i 0 ∧ ([0, 1, p * q - 1, p, q * r, d.fmod (p * q), d.fmod (p * q)] : List Int).getD i 0 < p * q := by
  have h1 : p * 3 ≤ p * q := Int.mul_le_mul_of_nonneg_left hq (by omega)
  have h2 : 0 ≤ q * r := Int.mul_nonneg (by omega) r0
  have h3 : q * r ≤ q * (p - 1) := Int.mul_le_mul_of_nonneg_left (by omega) (by omega)
  have h4 : q * (p - 1) = p * q - q := by grind
  have h5 := fmod_nn (a := d) (b := p * q) (by omega)
  refine getD_lt (P := fun x => 0 ≤ x ∧ x < p * q) ?_ hi
  intro x hx
  simp only [List.mem_cons, List.not_mem_nil, or_false] at hx
  rcases hx with rfl | rfl | rfl | rfl | rfl | rfl | rfl <;> omega
theorem pq_pos {p q : Int} (hp : 3 ≤ p) (hq : 3 ≤ q) : 0 < p * q := Int.mul_pos (by omega) (by omega)
theorem pq_lt {p q : Int} (hp : 3 ≤ p) (hq : 3 ≤ q) : (p - 1) * (q - 1) + 5 ≤ p * q ∧ 9 ≤ p * q := by
  have e : p * q = (p - 1) * (q - 1) + (p - 1) + (q - 1) + 1 := by grind
  have := four_le hp hq
  omega
end Mine

namespace Mine
theorem Pr.powI {p : Nat} (h : Pr p) (z : Int) (j : Nat) : (p : Int) ∣ z ^ (1 + j * (p - 1)) - z := by
  have hp : (0 : Int) < (p : Int) := by have := h.1; omega
  obtain ⟨r, hr⟩ : ∃ r : Nat, (r : Int) = z % (p : Int) := ⟨(z % (p : Int)).toNat, Int.toNat_of_nonneg (Int.emod_nonneg _ (by omega))⟩
  have h1 : (p : Int) ∣ (r : Int) - z := hr ▸ emod_dvd (p : Int) z
  have h2 : (p : Int) ∣ (r : Int) ^ (1 + j * (p - 1)) - (r : Int) := by
    have h3 := h.pow1 (a := r) (k := 1 + j * (p - 1)) (j := j) rfl
    have h4 : (((r ^ (1 + j * (p - 1)) : Nat) : Int)) % (p : Int) = ((r : Nat) : Int) % (p : Int) := by
      rw [← Int.natCast_emod, ← Int.natCast_emod, h3]
    have h5 := Int.dvd_of_emod_eq_zero (Int.emod_eq_emod_iff_emod_sub_eq_zero.mp h4)
    rwa [Int.natCast_pow] at h5
  exact dvd_trans_sub (dvd_sub_symm (pow_dvd_sub h1 _)) (dvd_trans_sub h2 h1)
theorem Pr.powC {p : Nat} (h : Pr p) (z : Int) {a b j : Nat} (ha : 1 ≤ a) (hb : b = a + j * (p - 1)) : (p : Int) ∣ z ^ a - z ^ b := by
  obtain ⟨c, rfl⟩ : ∃ c, a = c + 1 := ⟨a - 1, by omega⟩
  have e1 : b = c + (1 + j * (p - 1)) := by omega
  rw [e1, Int.pow_add, Int.pow_add, Int.pow_one]
  obtain ⟨k, hk⟩ := h.powI z j
  refine ⟨z ^ c * -k, ?_⟩
  generalize z ^ (1 + j * (p - 1)) = y at *
  generalize z ^ c = x at *
  have : y = z + (p : Int) * k := by omega
  subst this
  grind
theorem fmod_div_eq {d m : Int} (hm : 0 < m) (hd : 0 ≤ d) : ∃ j : Nat, d.toNat = (d.fmod m).toNat + j * m.toNat := by
  refine ⟨(d / m).toNat, ?_⟩
  have h0 := Int.emod_nonneg d (show m ≠ 0 by omega)
  have h1 := Int.emod_add_mul_ediv d m
  have h2 : 0 ≤ d / m := Int.ediv_nonneg hd (by omega)
  rw [Int.fmod_eq_emod_of_nonneg _ (by omega)]
  have h3 : ((d.toNat : Nat) : Int) = (((d % m).toNat + (d / m).toNat * m.toNat : Nat) : Int) := by
    rw [Int.natCast_add, Int.natCast_mul, Int.toNat_of_nonneg hd, Int.toNat_of_nonneg h0, Int.toNat_of_nonneg h2, Int.toNat_of_nonneg (by omega)]
    rw [Int.mul_comm]; omega
  exact_mod_cast h3
theorem PrOk.f1 {p : Int} (h : PrOk p) : 3 ≤ p := h.1
theorem PrOk.f2 {p : Int} (h : PrOk p) : Bd 127 p := h.2.1
theorem prime_share {p : Int} (hp : PrOk p) {d e : Int} (hd : 0 ≤ d) (he : 0 ≤ e) (hm : (p - 1) ∣ d * e - 1) :
    0 ≤ d.fmod (p - 1) ∧ (∀ z : Int, p ∣ z ^ (d.fmod (p - 1)).toNat - z ^ d.toNat) ∧ (∀ z : Int, p ∣ z ^ (e.toNat * d.toNat) - z) := by
  obtain ⟨h3, -, hpr⟩ := hp
  have hpn : ((p.toNat : Nat) : Int) = p := Int.toNat_of_nonneg (by omega)
  have hpt : (p - 1).toNat = p.toNat - 1 := by omega
  have hf := fmod_nn (a := d) (b := p - 1) (by omega)
  refine ⟨hf.1, fun z => ?_, fun z => ?_⟩
  · obtain ⟨j, hj⟩ := fmod_div_eq (m := p - 1) (by omega) hd
    rw [hpt] at hj
    have h1 : 1 ≤ (d.fmod (p - 1)).toNat := by
      refine Nat.pos_of_ne_zero fun hz => ?_
      have hz' : d.fmod (p - 1) = 0 := by omega
      have h4 := fmod_dvd (a := d) (m := p - 1) (by omega)
      rw [hz'] at h4
      obtain ⟨u, hu⟩ := h4
      obtain ⟨v, hv⟩ := hm
      have h5 : (p - 1) * (-(u * e) - v) = 1 := by
        have : d = -((p - 1) * u) := by omega
        subst this
        grind
      have h6 : (p - 1) ∣ 1 := ⟨_, h5.symm⟩
      have := Int.le_of_dvd (by decide) h6
      omega
    have := hpr.powC z h1 hj
    rwa [hpn] at this
  · obtain ⟨v, hv⟩ := hm
    have hde : 0 ≤ d * e := Int.mul_nonneg hd he
    have hv0 : 0 ≤ v := by
      refine Int.not_lt.mp fun hc => ?_
      have h7 : (p - 1) * v ≤ (p - 1) * (-1) := Int.mul_le_mul_of_nonneg_left (by omega) (by omega)
      omega
    have h8 : e.toNat * d.toNat = 1 + v.toNat * (p.toNat - 1) := by
      have h9 : (((e.toNat * d.toNat : Nat)) : Int) = ((1 + v.toNat * (p.toNat - 1) : Nat) : Int) := by
        rw [Int.natCast_mul, Int.natCast_add, Int.natCast_mul, Int.toNat_of_nonneg hd, Int.toNat_of_nonneg he, Int.toNat_of_nonneg hv0, ← hpt, Int.toNat_of_nonneg (by omega)]
        have e1 : e * d = d * e := Int.mul_comm ..
        have e2 : v * (p - 1) = (p - 1) * v := Int.mul_comm ..
        rw [e1, e2]
        show d * e = 1 + _
        omega
      exact_mod_cast h9
    have := hpr.powI z v.toNat
    rw [← h8, hpn] at this
    exact this
theorem primes_gcd {p q : Int} (hp : PrOk p) (hq : PrOk q) (hne : p ≠ q) : Int.gcd q p = 1 := by
  obtain ⟨h3, -, hpr⟩ := hp
  obtain ⟨k3, -, hqr⟩ := hq
  have e1 : q.natAbs = q.toNat := by omega
  have e2 : p.natAbs = p.toNat := by omega
  show Nat.gcd q.natAbs p.natAbs = 1
  rw [e1, e2]
  refine hqr.coprime fun hd => ?_
  rcases hpr.2 _ hd with h | h <;> omega
theorem both_dvd {p q a : Int} (hg : Int.gcd q p = 1) (h1 : p ∣ a) (h2 : q ∣ a) : p * q ∣ a := by
  obtain ⟨u, rfl⟩ := h1
  have h3 : q ∣ u := by
    have h4 := Int.natAbs_dvd_natAbs.mpr h2
    rw [Int.natAbs_mul] at h4
    exact Int.natAbs_dvd_natAbs.mp (Nat.Coprime.dvd_of_dvd_mul_left hg h4)
  obtain ⟨v, rfl⟩ := h3
  exact ⟨v, by grind⟩
theorem KRsa.made {S : KeyS} {p q e d : Int} (hp : PrOk p) (hq : PrOk q) (hne : p ≠ q) (he : 0 ≤ e) (heB : Bd 470 e) (hd : 0 ≤ d) (hd1 : d < (p - 1) * (q - 1)) (hed : (p - 1) * (q - 1) ∣ d * e - 1)
    (en : S.n = p * q) (ee : S.e = e) (ed : S.d = d) (ep : S.p = p) (eq : S.q = q) (e1 : S.x1 = d.fmod (p - 1)) (e2 : S.x2 = d.fmod (q - 1)) (c0 : 0 ≤ S.cf) (c1 : S.cf ≤ p) (cd : p ∣ S.cf * q - 1) : KRsa S := by
  have hg := primes_gcd hp hq hne
  have sp := prime_share hp hd he (Int.dvd_trans ⟨q - 1, rfl⟩ hed)
  have sq := prime_share hq hd he (Int.dvd_trans ⟨p - 1, Int.mul_comm ..⟩ hed)
  have p3 := hp.1
  have q3 := hq.1
  have hpq := pq_lt p3 q3
  have hB : Bd 254 (p * q) := hp.2.1.mul hq.2.1
  have hb : ∀ a : Int, p ∣ a → q ∣ a → p * q ∣ a := fun a => both_dvd hg
  obtain ⟨n', e', d', p', q', x1', x2', cf', tn, te, td, tp, tq, tx1, tx2, tcf, k1, k2, k3, k4, k5, k6, k7, k8, k9, k10⟩ := S
  dsimp only at en ee ed ep eq e1 e2 c0 c1 cd
  subst en ee ed ep eq e1 e2
  exact ⟨⟨by dsimp only; omega, hB.mono (by decide), he, heB⟩, rfl, by dsimp only; omega, by dsimp only; omega, hp.2.1.mono (by decide), hq.2.1.mono (by decide), Bd.of_lt hd (by dsimp only at hd1 ⊢; omega) (hB.mono (by decide)), c0, c1, cd, sp.1, sq.1, hd, sp.2.1, sq.2.1, hb, fun z => hb _ (sp.2.2 z) (sq.2.2 z)⟩
theorem KRsa.back2 {n e d p q x1 x2 cf y : Int} {tn te td tp tq tx1 tx2 tcf k1 k2 k3 k4 k5 k6 k7 k8 k9 k10 : Tok} (K : KRsa ⟨n, e, d, p, q, x1, x2, cf, tn, te, td, tp, tq, tx1, tx2, tcf, k1, k2, k3, k4, k5, k6, k7, k8, k9, k10⟩) (h0 : 0 ≤ y) (h1 : y < n) : PM (PM y e n) d n = y := K.back h0 h1
theorem KRsa.forth2 {n e d p q x1 x2 cf y : Int} {tn te td tp tq tx1 tx2 tcf k1 k2 k3 k4 k5 k6 k7 k8 k9 k10 : Tok} (K : KRsa ⟨n, e, d, p, q, x1, x2, cf, tn, te, td, tp, tq, tx1, tx2, tcf, k1, k2, k3, k4, k5, k6, k7, k8, k9, k10⟩) (h0 : 0 ≤ y) (h1 : y < n) : PM (PM y d n) e n = y := K.forth h0 h1
theorem pq_bd {p q : Int} (hp : PrOk p) (hq : PrOk q) : Bd 470 (p * q) := (hp.2.1.mul hq.2.1).mono (by decide)
theorem dB_pq {p q : Int} (hp : PrOk p) (hq : PrOk q) : Bd 470 ((p - 1) * (q - 1)) := by
  have h1 := hp.1
  have h2 := hq.1
  have h3 := four_le h1 h2
  have h4 := pq_lt h1 h2
  exact Bd.of_lt (by omega) (by omega) ((hp.2.1.mul hq.2.1).mono (by decide))
end Mine

namespace Mine
theorem code_defCR {prog : Program} {w : World} {A₀ A : Around} {s : Shared} {K : Frag} {L : Addr} {h₀ base : Heap} {m mg mb : Str → Option Value} {news : List (Addr × Obj)} {p : Program} {loose : List Str} {mean : ExcName → Option Value}
    {env : Env} {outer : List Env} {R : Result → Shared → Prop} {name qual : Str} {params : Arguments} {body : List Stmt} {scope : Scope} {dV kV doc pm cdv ct oc : Value} {an od : Option Addr} {osl : Array (Option Value)} {f : Addr} {args : Args} {binds : List (Str × Value)}
    (B : Below A₀ base outer h₀) (F : Fr h₀ L s.heap m) (X₀ : K.In h₀) (N : News h₀ L s.heap news) (T : Top p loose mean mg mb h₀) (hA : A.frames = some (env :: outer)) (hf : env.frame = some L) (hke : env.scope.kind = .function)
    (ho : K.lookup f = some ⟨oc, od, .func (fnOf name qual params body scope dV kV doc pm an cdv ct), osl⟩) (hcd : codeIn K cdv qual = true) (hroom : A.depth < recursionLimit)
    (hbind : BindsTo s (fnOf name qual params body scope dV kV doc pm an cdv ct) args binds) (hkind : (binds.all fun y => scope.names.lookup y.1 == some .local || scope.names.lookup y.1 == some .cell) = true)
    (hnd : ((cellsFrom 0 scope.names []).map (·.1)).Nodup)
    (h : ∀ g L' h₁ tk cells, Fr h₀ L g m → Fr g L' h₁ (bindL (envOfC qual scope L' f cdv).kindOf binds fun _ => none) → News g L' h₁ (cells ++ news) →
      CellsAre (bindC (envOfC qual scope L' f cdv).kindOf binds fun _ => none) (cellsFrom (L' + 1) scope.names []) cells → Below A base (env :: outer) g → K.In g → Top p loose mean mg mb g →
      (∀ b o, s.heap.get? b = some o → b ∉ news.map (·.1) → g.get? b = some o) → (∀ b o, s.heap.get? b = some o → b < L') →
      wpAny (model prog w) (A.deeper (envOfC qual scope L' f cdv)) (execs body (envOfC qual scope L' f cdv))
        (fun fl s' => LeaveK h₀ L m g R (match fl with | .ret v => v | _ => .none) s')
        (fun e s' => wpAny (model prog w) (A.deeper (envOfC qual scope L' f cdv)) (leaving (envOfC qual scope L' f cdv) e) (fun _ s'' => R (.error e) s'') (fun e' s'' => R (.error e') s'') s')
        { s with heap := h₁, toks := tk })
    (hco : scope.isCoroutine = false) (hgen : scope.isGenerator = false) (hk : scope.kind = .function) : codeAny (model prog w) A (.call (.ref f) args) R s := by
  obtain ⟨FG, BG, st, lv⟩ := groundX (R := R) B F N hA hf hke
  refine codeAny_call_function hroom ((X₀.keeps F.keep) _ _ ho) rfl hco hgen rfl (codeRec_of (X₀.keeps F.keep) hcd) (hbind _ _ _ _ ?_)
  refine wpAny_newFunctionEnv_cells hk (kindsX hkind _) fun env' he s' x => ?_
  subst he
  refine ⟨(T.nolimit.keeps F.keep).keeps x.toInCall.keep, codeAny_func ?_⟩
  obtain ⟨h₁, tk, rfl, _⟩ := x.done
  have hk₁ := x.toInCall.keep
  obtain ⟨cells, NC, Y⟩ := Cl.news (h₀ := s.heap) (Nat.le_refl _) fun n c hm => ⟨x.cell n c (lookup_of_mem_nodup (cellsFrom_names scope.names 0 (s.heap.objs.size + 1) [] [] rfl ▸ hnd) hm), x.above n c hm⟩
  refine wpAny_mono (h _ s.heap.objs.size h₁ tk cells FG ⟨x.toInCall.ns, fun b o e => hk₁ b o (of_hideAll _ e), Nat.le_of_eq (hideAll_size _ _)⟩ (fun p hp => ?_) Y BG (X₀.keeps st) (T.keeps st) (fun b o e hb => hideAll_get _ e hb) (fun b o e => Heap.lt_size e)) (fun fl s' hl => lv _ _ hl) fun _ _ y => y
  rcases List.mem_append.mp hp with hp | hp
  · refine ⟨(NC p hp).1, (NC p hp).2.1, ?_⟩
    cases q : (hideAll s.heap (news.map (·.1))).get? p.1 with
    | none => rfl
    | some o => have := of_hideAll _ q; rw [(NC p hp).2.2] at this; cases this
  · exact ⟨hk₁ _ _ (N p hp).1, Nat.ne_of_lt (Heap.lt_size (N p hp).1), hideAll_none _ (List.mem_map_of_mem hp)⟩

section
variable {prog : Program} {w : World} {A : Around} {E : Value → Shared → Prop} {s : Shared} {env : Env} {h₀ : Heap} {target : Expr} {body : List Stmt} {Q : Flow → Shared → Prop}
theorem loop_invT {I : Addr} {fp wr : List Addr} {n : Nat} {P : Nat → Value → Prop} {St : Nat → Heap → Prop} {m₀ : Str → Option Value} {news : List (Addr × Obj)} (J : Nat → (Str → Option Value) → List (Addr × Obj) → Prop)
    (W : Walks prog w A I fp wr n P St) (hgo : ∀ i v (s : Shared) (Q : Unit → Shared → Prop) (E : Value → Shared → Prop), St i s.heap → Q () s → wpAny (model prog w) A (letOwnedTupleGo target (.ref I) v) Q E s)
    (hLf : env.locals ∉ fp) (hwr : ∀ b ∈ wr, h₀.get? b = none) (hnw : ∀ p ∈ news, p.1 ∉ wr) (hfp : ∀ q ∈ news, q.1 ∉ fp) (hst : St 0 s.heap) (F : Fr h₀ env.locals s.heap m₀) (N : News h₀ env.locals s.heap news) (hj : J 0 m₀ news)
    (turn : ∀ i v m₁ news₁ h tk own, i < n → P i v → news₁.map (·.1) = news.map (·.1) → OwnOff own (news.map (·.1)) → J i m₁ news₁ → Fr h₀ env.locals h m₁ → News h₀ env.locals h (news₁ ++ own) →
      wpAny (model prog w) A (assign target env v) (fun _ s₃ => wpAny (model prog w) A (execs body env) (InvPostN h₀ env.locals (J (i + 1)) own (news.map (·.1)) { s with heap := h, toks := tk } Q) E s₃) E { s with heap := h, toks := tk })
    (done : ∀ m₁ news₁ h tk, J n m₁ news₁ → Fr h₀ env.locals h m₁ → News h₀ env.locals h news₁ → Q .next { s with heap := h, toks := tk }) :
    TurnsAt prog w A h₀ env target body Q E (.ref I) s := by
  let J' : Nat → (Str → Option Value) → List (Addr × Obj) → Prop := fun i m₁ news₁ => news₁.map (·.1) = news.map (·.1) ∧ J i m₁ news₁
  refine ⟨I, fp, wr, n, _, _, St, m₀, news, J', rfl, KTurns.ofWalks W hgo, hLf, hwr, hnw, hst, F, N, ⟨rfl, hj⟩, ?_, ?_⟩
  · rintro i v m₁ news₁ hh' tk' own hin hP ⟨hadr, hJ⟩ hoff hown _ _ _ F₁ N₁
    have hsep : OwnOff own (news.map (·.1)) := by
      intro p hp b hb e
      obtain ⟨q, hq, rfl⟩ := List.mem_map.mp hb
      exact hfp q hq (e ▸ hown p hp)
    have N₂ : News h₀ env.locals hh' (news₁ ++ own) := fun p hp => N₁ p ((List.mem_append.mp hp).elim (fun h => List.mem_append.mpr (.inr h)) fun h => List.mem_append.mpr (.inl h))
    refine wpAny_mono (turn i v m₁ news₁ hh' tk' own hin hP hadr hsep hJ F₁ N₂) (fun _ s₃ p => wpAny_mono p (fun f s₂ p => ?_) fun _ _ e => e) fun _ _ e => e
    have fin : InvEndN h₀ env.locals (J (i + 1)) own (news.map (·.1)) { s with heap := hh', toks := tk' } s₂ → LoopStepU h₀ env.locals wr own (J' (i + 1)) { s with heap := hh', toks := tk' } .next s₂ := by
      rintro ⟨h', tk, m', news', nx, e, F', N', hn, ho, ha, hm⟩
      refine ⟨rfl, h', tk, m', nx, e, F', fun p hp => N' p ((List.mem_append.mp hp).elim (ho p) (hn p)), fun p hp hq => ?_, ha, hm⟩
      have h1 : p.1 ∈ nx.map (·.1) := List.mem_map.mpr ⟨p, hp, rfl⟩
      rw [ha, ← hadr] at h1
      obtain ⟨q, hq1, hq2⟩ := List.mem_map.mp h1
      exact hoff q hq1 (by rw [hq2]; exact hq)
    cases f with
    | ret v => exact .ret p
    | brk => exact .brk p
    | next => exact .next (fin p)
    | cont => exact .cont (fin p)
  · rintro h' tk m' news' F' N' _ ⟨_, hJ⟩
    exact done m' news' h' tk hJ F' N'

noncomputable def TurnS {σ : Type} (Led : σ → List (Addr × Obj)) (ps : σ → List (Str × Value)) (stored : List Str) (m₀ : Str → Option Value) (P : σ → Prop) (m : Str → Option Value) (nx : List (Addr × Obj)) : Prop :=
  ∃ c : σ, nx = Led c ∧ (∀ p ∈ ps c, m p.1 = some p.2) ∧ (∀ z, (∀ p ∈ ps c, z ≠ p.1) → stored.contains z = false → m z = m₀ z) ∧ P c
theorem m_rangeT {σ : Type} {r : Addr} {a₀ b₀ : Int} {t₀ u₀ v₀ : Tok} {n : Nat} {m₀ : Str → Option Value} {news : List (Addr × Obj)} (Led : σ → List (Addr × Obj)) (ps : σ → List (Str × Value)) (stored : List Str) (P : Nat → σ → Prop) (c₀ : σ)
    (hh : A.handled = none) (hr : IsRange s.heap r a₀ b₀ 1 t₀ u₀ v₀) (hsmall : Builtin.Range.small a₀ b₀ 1 = true) (hn : Builtin.Range.rangeSize a₀ b₀ 1 = (n : Int)) (F : Fr h₀ env.locals s.heap m₀) (N : News h₀ env.locals s.heap news) (hL : ∀ p ∈ Led c₀, p ∈ news)
    (hk : ∀ p ∈ ps c₀, m₀ p.1 = some p.2) (hp : P 0 c₀)
    (hgo : ∀ v (s : Shared) (Q : Unit → Shared → Prop) (E : Value → Shared → Prop), ∀ I, Q () s → wpAny (model prog w) A (letOwnedTupleGo target (.ref I) v) Q E s)
    (turn : ∀ (c : σ) (i : Nat) (k : Int) t (u : Str → Option Value) h tk own, k = a₀ + (i : Int) → i < n → OwnOff own ((Led c₀).map (·.1)) → P i c →
      Fr h₀ env.locals h (kstB (fun z => if stored.contains z then u z else m₀ z) (ps c)) → News h₀ env.locals h (Led c ++ own) →
      wpAny (model prog w) A (assign target env (.int k t)) (fun _ s₃ => wpAny (model prog w) A (execs body env) (InvPostN h₀ env.locals (TurnS Led ps stored m₀ (P (i + 1))) own ((Led c₀).map (·.1)) { s with heap := h, toks := tk } Q) E s₃) E { s with heap := h, toks := tk })
    (done : ∀ (c : σ) (u : Str → Option Value) h tk, P n c → Fr h₀ env.locals h (kstB (fun z => if stored.contains z then u z else m₀ z) (ps c)) → News h₀ env.locals h (Led c) → Q .next { s with heap := h, toks := tk }) :
    wpAny (model prog w) A (pyIter (.ref r)) (fun it s₂ => TurnsAt prog w A h₀ env target body Q E it s₂) E s := by
  have N0 : News h₀ env.locals s.heap (Led c₀) := fun p hp => N p (hL p hp)
  refine wpAny_pyIter_range hr hsmall ?_
  have W : Walks prog w A s.heap.objs.size [s.heap.objs.size] [s.heap.objs.size] n (fun i v => i < n ∧ ∃ t, v = .int (a₀ + i * 1) t)
      (fun i h => IsRangeIter h s.heap.objs.size (a₀ + (i : Nat) * 1) ((n : Int) - (i : Nat)) 1) := (Walks.range hh _ a₀ 1 n).bound
  refine loop_invT (fun i m nx => TurnS Led ps stored m₀ (P i) m nx) W (fun i v s Q E _ q => hgo v s Q E _ q) ?_ ?_ ?_ ?_ (by show IsRangeIter _ _ _ _ _; rw [hn]; simpa using Heap.get?_push_size _ rfl) (F.push _) (fun p hp => ⟨Heap.get?_push_of_some _ (N0 p hp).1, (N0 p hp).2⟩) ⟨c₀, rfl, hk, fun _ _ _ => rfl, hp⟩ ?_ ?_
  · intro hm
    exact absurd F.ns.lt ((List.mem_singleton.mp hm) ▸ Nat.lt_irrefl _)
  · intro b hb
    rw [List.mem_singleton.mp hb]
    exact next_is_new F
  · intro p hp hI
    exact absurd (Heap.lt_size (N0 p hp).1) ((List.mem_singleton.mp hI) ▸ Nat.lt_irrefl _)
  · intro p hp hI
    exact absurd (Heap.lt_size (N0 p hp).1) ((List.mem_singleton.mp hI) ▸ Nat.lt_irrefl _)
  · rintro i v m₁ nx h tk own hi ⟨_, t, rfl⟩ _ hoff ⟨c, rfl, h1, h2, hp'⟩ F₁ N₁
    have e1 : a₀ + (i : Int) * 1 = a₀ + (i : Int) := by omega
    rw [e1]
    exact turn c i _ t m₁ h tk own rfl hi hoff hp' (ksw_fr h1 h2 F₁) N₁
  · rintro m₁ nx h tk ⟨c, rfl, h1, h2, hp'⟩ F₁ N₁
    exact done c m₁ h tk hp' (ksw_fr h1 h2 F₁) N₁
theorem m_endT {σ : Type} {L : Addr} {Led : σ → List (Addr × Obj)} {ps : σ → List (Str × Value)} {stored : List Str} {m₀ : Str → Option Value} {P : σ → Prop} (c : σ) {m' : Str → Option Value} {own news' : List (Addr × Obj)} {adr : List Addr} {s₁ : Shared} {h' : Heap} {tk : Nat}
    (F : Fr h₀ L h' m') (N : News h₀ L h' news') (hn : ∀ p ∈ Led c, p ∈ news') (ho : ∀ p ∈ own, p ∈ news') (ha : (Led c).map (·.1) = adr) (hk : ∀ p ∈ ps c, m' p.1 = some p.2) (hr : ∀ z, (∀ p ∈ ps c, z ≠ p.1) → stored.contains z = false → m' z = m₀ z) (hp : P c) :
    InvEndN h₀ L (TurnS Led ps stored m₀ P) own adr s₁ { s₁ with heap := h', toks := tk } :=
  InvEndN.intro F N ⟨c, rfl, hk, hr, hp⟩ ha hn ho
end
section
 open PyProof.Rows.LCg PyProof.Rows.LCt
variable {prog : Program} {w : World} {A : Around} {s : Shared} {h₀ : Heap} {L : Addr} {m : Str → Option Value} {env : Env}
theorem compEnd_mono {s₁ s₂ : Shared} {I C D : Addr} {oI oC oD : Obj} {S : List (Addr × Obj) → Prop} {r r' : Value → List (Addr × Obj) → Prop} {y : Value} (h : CompEnd h₀ L m s₁ I oI C oC D oD S r y s₂) (k : ∀ n, r y n → r' y n) : CompEnd h₀ L m s₁ I oI C oC D oD S r' y s₂ := by
  obtain ⟨h', tk, n', a, b, c, d, e, f⟩ := h
  exact ⟨h', tk, n', a, b, c, d, e, k _ f⟩
theorem compT_ind {ct elt : Expr} {x : Str} {scope : Scope} {cl : List (Str × Addr)} {S : List (Addr × Obj) → Prop} {P : Nat → Value → Prop} {Fin : List Value → List (Addr × Obj) → Prop} {news : List (Addr × Obj)} {n : Nat} (J : Nat → List Value → Prop) (h0 : J 0 [])
    (turn : ∀ i ys (R' : List Value → Prop), i < n → J i ys → (∀ ys', J (i + 1) ys' → R' ys') → ∀ v I oI C oC D m₂ h tk (E' : Value → Shared → Prop), P i v → NsObj oC m₂ → m₂ x = some v → Fr h₀ L h m → News h₀ L h ((I, oI) :: (C, oC) :: (D, lst ys) :: news) → Off3 I C D news → ((@Ne Nat I C) ∧ (@Ne Nat I D) ∧ (@Ne Nat C D)) →
      wpAny (model prog w) A (isTrue ct (compEnvC scope cl C env) (eval ct (compEnvC scope cl C env))) (fun ok s' => if ok = true then
        wpAny (model prog w) A (eval elt (compEnvC scope cl C env)) (CompEnd h₀ L m { s with heap := h, toks := tk } I oI C oC D (lst ys) S (fun y news' => news' = news ∧ R' (ys ++ [y]))) E' s'
        else CompEnd h₀ L m { s with heap := h, toks := tk } I oI C oC D (lst ys) S (fun _ news' => news' = news ∧ R' ys) Value.none s') E' { s with heap := h, toks := tk })
    (fin : ∀ ys, J n ys → Fin ys news) : CompRestT prog w A h₀ L m env ct elt x scope cl s S P Fin n 0 [] news := by
  have key : ∀ k i ys, i + k = n → J i ys → CompRestT prog w A h₀ L m env ct elt x scope cl s S P Fin k i ys news := by
    intro k
    induction k with
    | zero => intro i ys hi hj; exact .zero (fin ys (by simpa using hi ▸ hj))
    | succ k ih =>
      intro i ys hi hj
      refine .succ fun v I oI C oC D m₂ h tk E' a b c d e f g => ?_
      refine wpAny_mono (turn i ys (fun ys' => CompRestT prog w A h₀ L m env ct elt x scope cl s S P Fin k (i + 1) ys' news) (by omega) hj (fun ys' hy => ih _ _ (by omega) hy) v I oI C oC D m₂ h tk E' a b c d e f g) (fun ok s' hq => ?_) fun _ _ z => z
      cases ok with
      | true =>
        simp only [if_true] at hq ⊢
        exact wpAny_mono hq (fun y s'' z => compEnd_mono z fun _ q => q.1 ▸ q.2) fun _ _ z => z
      | false =>
        simp only [Bool.false_eq_true, if_false] at hq ⊢
        exact compEnd_mono hq fun _ q => q.1 ▸ q.2
  exact key n 0 [] (by omega) h0
end
theorem tsB_ex : ∃ f : Int → Nat → List Bool, (∀ n, f n 0 = []) ∧ ∀ (n : Int) (i : Nat), f n (i + 1) = f n i ++ (if (2 + (i : Int)) * (2 + (i : Int)) ≤ n then [decide (n.fmod (2 + (i : Int)) > 0)] else []) :=
  ⟨fun n k => Nat.rec [] (fun (i : Nat) (l : List Bool) => l ++ (if (2 + (i : Int)) * (2 + (i : Int)) ≤ n then [decide (n.fmod (2 + (i : Int)) > 0)] else [])) k, fun _ => rfl, fun _ _ => rfl⟩
noncomputable def tsB : Int → Nat → List Bool := Classical.choose tsB_ex
theorem tsB_zero (n : Int) : tsB n 0 = [] := (Classical.choose_spec tsB_ex).1 n
theorem tsB_succ (n : Int) (i : Nat) : tsB n (i + 1) = tsB n i ++ (if (2 + (i : Int)) * (2 + (i : Int)) ≤ n then [decide (n.fmod (2 + (i : Int)) > 0)] else []) := (Classical.choose_spec tsB_ex).2 n i
theorem tsB_nil {n : Int} : LSm.BoolsAre [] (tsB n 0) := by rw [tsB_zero]; exact .nil
theorem tsB_all {n : Int} : ∀ {k : Nat}, (tsB n k).all id = true → ∀ i : Nat, i < k → (2 + (i : Int)) * (2 + (i : Int)) ≤ n → n.fmod (2 + (i : Int)) > 0
  | 0, _, i, hi, _ => absurd hi (Nat.not_lt_zero _)
  | k + 1, h, i, hi, hle => by
    rw [tsB_succ] at h
    rw [List.all_append, Bool.and_eq_true] at h
    by_cases q : i = k
    · subst q
      rw [if_pos hle] at h
      simpa using h.2
    · exact tsB_all h.1 i (by omega) hle
theorem tsB_yes {ys : List Value} {n : Int} {i : Nat} {b : Bool} (h : LSm.BoolsAre ys (tsB n i)) (hp : (2 + (i : Int)) * (2 + (i : Int)) ≤ n) (hb : b = decide (n.fmod (2 + (i : Int)) > 0)) : LSm.BoolsAre (ys ++ [.bool b]) (tsB n (i + 1)) := by
  rw [tsB_succ]
  rw [if_pos hp, ← hb]
  exact kbo_app h (.cons _ .nil)
theorem tsB_no {ys : List Value} {n : Int} {i : Nat} (h : LSm.BoolsAre ys (tsB n i)) (hp : ¬ (2 + (i : Int)) * (2 + (i : Int)) ≤ n) : LSm.BoolsAre ys (tsB n (i + 1)) := by
  rw [tsB_succ]
  rw [if_neg hp, List.append_nil]
  exact h
end Mine

namespace Mine
noncomputable abbrev PP : Program := PySem.Challenge.rw_ys0001_05.row.prog
noncomputable def V : Program := PySem.W.view PP [1, 2, 3, 5, 6, 7, 9, 10, 12, 13, 14, 15, 17, 18, 19, 20, 21, 22, 23, 24, 25, 26, 27]
noncomputable def o11 : Params → Obj := fun P => { cls := PySem.Value.type "tuple", data := PySem.Data.seq #[] }
noncomputable def o12 : Params → Obj := fun P => { cls := PySem.Value.none, data := PySem.Data.fields #[] }
noncomputable def o13 : Params → Obj := fun P => { cls := PySem.Value.type "code", data := PySem.Data.fields #[PySem.Value.str (PySem.Str.ofString "<module>") 182, PySem.Value.str (PySem.Str.ofString "<module>") 183, PySem.Value.str (PySem.Str.ofString "/claim/cut.py") 184, PySem.Value.int 1 0, PySem.Value.int 0 0, PySem.Value.int 0 0, PySem.Value.int 0 0, PySem.Value.int 0 0, PySem.Value.ref 11, PySem.Value.bool Bool.false, PySem.Value.int 181 0, PySem.Value.ref 12, PySem.Value.none, PySem.Value.none, PySem.Value.none, PySem.Value.none, PySem.Value.int 185 0, PySem.Value.int 1 0, PySem.Value.str (PySem.Str.ofString "/claim/cut.py") 186] }
noncomputable def o14 : Params → Obj := fun P => { cls := PySem.Value.type "frame", slots := #[Option.some (PySem.Value.ref 13), Option.some (PySem.Value.ref 3), Option.some (PySem.Value.ref 3), Option.none, Option.some (PySem.Value.str (PySem.Str.ofString "__main__") 164), Option.none, Option.some (PySem.Value.ref 0)] }
noncomputable def o15 : Params → Obj := fun P => { cls := PySem.Value.type "tuple", data := PySem.Data.seq #[PySem.Value.type "ValueError"] }
noncomputable def o16 : Params → Obj := fun P => { cls := PySem.Value.type "builtin_function_or_method", data := PySem.Data.fields #[PySem.Value.builtin "type.__prepare__", PySem.Value.type "type"] }
noncomputable def o17 : Params → Obj := fun P => { cls := PySem.Value.type "dict", data := PySem.Data.dict #[{ hash := PySem.PyData.keyHash P (PySem.Str.ofString "__module__"), key := PySem.Value.str (PySem.Str.ofString "__module__") 196, val := PySem.Value.str (PySem.Str.ofString "rsa.common") 187 }, { hash := PySem.PyData.keyHash P (PySem.Str.ofString "__qualname__"), key := PySem.Value.str (PySem.Str.ofString "__qualname__") 198, val := PySem.Value.str (PySem.Str.ofString "NotRelativePrimeError") 197 }, { hash := PySem.PyData.keyHash P (PySem.Str.ofString "__firstlineno__"), key := PySem.Value.str (PySem.Str.ofString "__firstlineno__") 200, val := PySem.Value.int 2 199 }, { hash := PySem.PyData.keyHash P (PySem.Str.ofString "__init__"), key := PySem.Value.str (PySem.Str.ofString "__init__") 212, val := PySem.Value.ref 29 }, { hash := PySem.PyData.keyHash P (PySem.Str.ofString "__static_attributes__"), key := PySem.Value.str (PySem.Str.ofString "__static_attributes__") 216, val := PySem.Value.ref 30 }] 5 }
noncomputable def o18 : Params → Obj := fun P => { cls := PySem.Value.type "tuple", data := PySem.Data.seq #[] }
noncomputable def o19 : Params → Obj := fun P => { cls := PySem.Value.none, data := PySem.Data.fields #[PySem.Value.int 4 0, PySem.Value.int 4 0, PySem.Value.ref 28] }
noncomputable def o20 : Params → Obj := fun P => { cls := PySem.Value.type "code", data := PySem.Data.fields #[PySem.Value.str (PySem.Str.ofString "NotRelativePrimeError") 191, PySem.Value.str (PySem.Str.ofString "NotRelativePrimeError") 192, PySem.Value.str (PySem.Str.ofString "/claim/cut.py") 193, PySem.Value.int 2 0, PySem.Value.int 0 0, PySem.Value.int 0 0, PySem.Value.int 0 0, PySem.Value.int 0 0, PySem.Value.ref 18, PySem.Value.bool Bool.false, PySem.Value.int 181 0, PySem.Value.ref 19, PySem.Value.none, PySem.Value.none, PySem.Value.none, PySem.Value.none, PySem.Value.int 194 0, PySem.Value.int 2 0, PySem.Value.str (PySem.Str.ofString "/claim/cut.py") 195] }
noncomputable def o21 : Params → Obj := fun P => { cls := PySem.Value.type "frame", slots := #[Option.some (PySem.Value.ref 20), Option.some (PySem.Value.ref 3), Option.some (PySem.Value.ref 17), Option.none, Option.some (PySem.Value.str (PySem.Str.ofString "rsa.common") 187), Option.none, Option.some (PySem.Value.ref 0)] }
noncomputable def o22 : Params → Obj := fun P => { cls := PySem.Value.type "tuple", data := PySem.Data.seq #[PySem.Value.str (PySem.Str.ofString "") 201] }
noncomputable def o23 : Params → Obj := fun P => { cls := PySem.Value.type "tuple", data := PySem.Data.seq #[] }
noncomputable def o24 : Params → Obj := fun P => { cls := PySem.Value.none, data := PySem.Data.fields #[] }
noncomputable def o25 : Params → Obj := fun P => { cls := PySem.Value.type "tuple", data := PySem.Data.seq #[PySem.Value.str (PySem.Str.ofString "self") 205, PySem.Value.str (PySem.Str.ofString "a") 206, PySem.Value.str (PySem.Str.ofString "b") 207, PySem.Value.str (PySem.Str.ofString "d") 208, PySem.Value.str (PySem.Str.ofString "msg") 209] }
noncomputable def o26 : Params → Obj := fun P => { cls := PySem.Value.type "tuple", data := PySem.Data.seq #[] }
noncomputable def o27 : Params → Obj := fun P => { cls := PySem.Value.none, data := PySem.Data.func { name := PySem.Str.ofString "__init__", qualname := PySem.Str.ofString "NotRelativePrimeError.__init__", params := (fdA (nthS (fdB (nthS PP.main.body 1)) 0)), body := PySem.FuncBody.stmts (fdB (nthS (fdB (nthS PP.main.body 1)) 0)), scope := (fdS (nthS (fdB (nthS PP.main.body 1)) 0)), globals := 0, closure := [], defaults := PySem.Value.none, kwdefaults := PySem.Value.none } }
noncomputable def o28 : Params → Obj := fun P => { cls := PySem.Value.type "code", data := PySem.Data.fields #[PySem.Value.str (PySem.Str.ofString "__init__") 202, PySem.Value.str (PySem.Str.ofString "NotRelativePrimeError.__init__") 203, PySem.Value.str (PySem.Str.ofString "/claim/cut.py") 204, PySem.Value.int 4 0, PySem.Value.int 5 0, PySem.Value.int 0 0, PySem.Value.int 0 0, PySem.Value.int 3 0, PySem.Value.ref 23, PySem.Value.bool Bool.true, PySem.Value.int 181 0, PySem.Value.ref 24, PySem.Value.none, PySem.Value.ref 25, PySem.Value.ref 26, PySem.Value.ref 27, PySem.Value.int 210 0, PySem.Value.int 4 0, PySem.Value.str (PySem.Str.ofString "/claim/cut.py") 211] }
noncomputable def o29 : Params → Obj := fun P => { cls := PySem.Value.type "function", data := PySem.Data.func { name := PySem.Str.ofString "__init__", qualname := PySem.Str.ofString "NotRelativePrimeError.__init__", params := (fdA (nthS (fdB (nthS PP.main.body 1)) 0)), body := PySem.FuncBody.stmts (fdB (nthS (fdB (nthS PP.main.body 1)) 0)), scope := (fdS (nthS (fdB (nthS PP.main.body 1)) 0)), globals := 3, closure := [], defaults := PySem.Value.ref 22, kwdefaults := PySem.Value.none, pyModule := PySem.Value.str (PySem.Str.ofString "rsa.common") 187, code := PySem.Value.ref 28 } }
noncomputable def o30 : Params → Obj := fun P => { cls := PySem.Value.type "tuple", data := PySem.Data.seq #[PySem.Value.str (PySem.Str.ofString "a") 213, PySem.Value.str (PySem.Str.ofString "b") 214, PySem.Value.str (PySem.Str.ofString "d") 215] }
noncomputable def o31 : Params → Obj := fun P => { cls := PySem.Value.type "dict", data := PySem.Data.dict #[{ hash := PySem.PyData.keyHash P (PySem.Str.ofString "__module__"), key := PySem.Value.str (PySem.Str.ofString "__module__") 196, val := PySem.Value.str (PySem.Str.ofString "rsa.common") 187 }, { hash := PySem.PyData.keyHash P (PySem.Str.ofString "__firstlineno__"), key := PySem.Value.str (PySem.Str.ofString "__firstlineno__") 200, val := PySem.Value.int 2 199 }, { hash := PySem.PyData.keyHash P (PySem.Str.ofString "__init__"), key := PySem.Value.str (PySem.Str.ofString "__init__") 212, val := PySem.Value.ref 29 }, { hash := PySem.PyData.keyHash P (PySem.Str.ofString "__static_attributes__"), key := PySem.Value.str (PySem.Str.ofString "__static_attributes__") 216, val := PySem.Value.ref 30 }, { hash := PySem.PyData.keyHash P (PySem.Str.ofString "__weakref__"), key := PySem.Value.str (PySem.Str.ofString "__weakref__") 218, val := PySem.Value.ref 33 }, { hash := PySem.PyData.keyHash P (PySem.Str.ofString "__doc__"), key := PySem.Value.str (PySem.Str.ofString "__doc__") 219, val := PySem.Value.none }] 3 }
noncomputable def o32 : Params → Obj := fun P => { cls := PySem.Value.type "type", data := PySem.Data.cls { name := PySem.Str.ofString "NotRelativePrimeError", bases := [PySem.Value.type "ValueError"], mro := [PySem.Value.ref 32, PySem.Value.type "ValueError", PySem.Value.type "Exception", PySem.Value.type "BaseException", PySem.Value.type "object"], ns := 31, qualname := PySem.Str.ofString "NotRelativePrimeError" }, slots := #[Option.some (PySem.Value.ref 15), Option.none, Option.some (PySem.Value.str (PySem.Str.ofString "NotRelativePrimeError") 189), Option.some (PySem.Value.str (PySem.Str.ofString "NotRelativePrimeError") 197), Option.some (PySem.Value.builtin "ValueError.__new__"), Option.some (PySem.Value.bool Bool.true)] }
noncomputable def o33 : Params → Obj := fun P => { cls := PySem.Value.type "getset_descriptor", data := PySem.Data.fields #[PySem.Value.str (PySem.Str.ofString "__weakref__") 217, PySem.Value.ref 32, PySem.Value.builtin "ExceptionGroup.__weakref__", PySem.Value.none] }
noncomputable def o34 : Params → Obj := fun P => { cls := PySem.Value.type "super", data := PySem.Data.fields #[PySem.Value.ref 32, PySem.Value.ref 32, PySem.Value.ref 32] }
noncomputable def o35 : Params → Obj := fun P => { cls := PySem.Value.type "builtin_function_or_method", data := PySem.Data.fields #[PySem.Value.builtin "object.__init_subclass__", PySem.Value.ref 32] }
noncomputable def o36 : Params → Obj := fun P => { cls := PySem.Value.type "tuple", data := PySem.Data.seq #[] }
noncomputable def o37 : Params → Obj := fun P => { cls := PySem.Value.none, data := PySem.Data.fields #[] }
noncomputable def o38 : Params → Obj := fun P => { cls := PySem.Value.type "tuple", data := PySem.Data.seq #[PySem.Value.str (PySem.Str.ofString "a") 225, PySem.Value.str (PySem.Str.ofString "b") 226, PySem.Value.str (PySem.Str.ofString "x") 227, PySem.Value.str (PySem.Str.ofString "y") 228, PySem.Value.str (PySem.Str.ofString "lx") 229, PySem.Value.str (PySem.Str.ofString "ly") 230, PySem.Value.str (PySem.Str.ofString "oa") 231, PySem.Value.str (PySem.Str.ofString "ob") 232, PySem.Value.str (PySem.Str.ofString "q") 233] }
noncomputable def o39 : Params → Obj := fun P => { cls := PySem.Value.type "tuple", data := PySem.Data.seq #[] }
noncomputable def o40 : Params → Obj := fun P => { cls := PySem.Value.none, data := PySem.Data.func { name := PySem.Str.ofString "extended_gcd", qualname := PySem.Str.ofString "extended_gcd", params := (fdA (nthS PP.main.body 2)), body := PySem.FuncBody.stmts (fdB (nthS PP.main.body 2)), scope := (fdS (nthS PP.main.body 2)), globals := 0, closure := [], defaults := PySem.Value.none, kwdefaults := PySem.Value.none } }
noncomputable def o41 : Params → Obj := fun P => { cls := PySem.Value.type "code", data := PySem.Data.fields #[PySem.Value.str (PySem.Str.ofString "extended_gcd") 222, PySem.Value.str (PySem.Str.ofString "extended_gcd") 223, PySem.Value.str (PySem.Str.ofString "/claim/cut.py") 224, PySem.Value.int 8 0, PySem.Value.int 2 0, PySem.Value.int 0 0, PySem.Value.int 0 0, PySem.Value.int 3 0, PySem.Value.ref 36, PySem.Value.bool Bool.true, PySem.Value.int 181 0, PySem.Value.ref 37, PySem.Value.none, PySem.Value.ref 38, PySem.Value.ref 39, PySem.Value.ref 40, PySem.Value.int 234 0, PySem.Value.int 8 0, PySem.Value.str (PySem.Str.ofString "/claim/cut.py") 235] }
noncomputable def o42 : Params → Obj := fun P => { cls := PySem.Value.type "function", data := PySem.Data.func { name := PySem.Str.ofString "extended_gcd", qualname := PySem.Str.ofString "extended_gcd", params := (fdA (nthS PP.main.body 2)), body := PySem.FuncBody.stmts (fdB (nthS PP.main.body 2)), scope := (fdS (nthS PP.main.body 2)), globals := 3, closure := [], defaults := PySem.Value.none, kwdefaults := PySem.Value.none, pyModule := PySem.Value.str (PySem.Str.ofString "rsa.common") 187, code := PySem.Value.ref 41 } }
noncomputable def o43 : Params → Obj := fun P => { cls := PySem.Value.type "tuple", data := PySem.Data.seq #[] }
noncomputable def o44 : Params → Obj := fun P => { cls := PySem.Value.none, data := PySem.Data.fields #[] }
noncomputable def o45 : Params → Obj := fun P => { cls := PySem.Value.type "tuple", data := PySem.Data.seq #[PySem.Value.str (PySem.Str.ofString "x") 240, PySem.Value.str (PySem.Str.ofString "n") 241, PySem.Value.str (PySem.Str.ofString "divider") 242, PySem.Value.str (PySem.Str.ofString "inv") 243, PySem.Value.str (PySem.Str.ofString "_") 244] }
noncomputable def o46 : Params → Obj := fun P => { cls := PySem.Value.type "tuple", data := PySem.Data.seq #[] }
noncomputable def o47 : Params → Obj := fun P => { cls := PySem.Value.none, data := PySem.Data.func { name := PySem.Str.ofString "inverse", qualname := PySem.Str.ofString "inverse", params := (fdA (nthS PP.main.body 3)), body := PySem.FuncBody.stmts (fdB (nthS PP.main.body 3)), scope := (fdS (nthS PP.main.body 3)), globals := 0, closure := [], defaults := PySem.Value.none, kwdefaults := PySem.Value.none } }
noncomputable def o48 : Params → Obj := fun P => { cls := PySem.Value.type "code", data := PySem.Data.fields #[PySem.Value.str (PySem.Str.ofString "inverse") 237, PySem.Value.str (PySem.Str.ofString "inverse") 238, PySem.Value.str (PySem.Str.ofString "/claim/cut.py") 239, PySem.Value.int 25 0, PySem.Value.int 2 0, PySem.Value.int 0 0, PySem.Value.int 0 0, PySem.Value.int 3 0, PySem.Value.ref 43, PySem.Value.bool Bool.true, PySem.Value.int 181 0, PySem.Value.ref 44, PySem.Value.none, PySem.Value.ref 45, PySem.Value.ref 46, PySem.Value.ref 47, PySem.Value.int 245 0, PySem.Value.int 25 0, PySem.Value.str (PySem.Str.ofString "/claim/cut.py") 246] }
noncomputable def o49 : Params → Obj := fun P => { cls := PySem.Value.type "function", data := PySem.Data.func { name := PySem.Str.ofString "inverse", qualname := PySem.Str.ofString "inverse", params := (fdA (nthS PP.main.body 3)), body := PySem.FuncBody.stmts (fdB (nthS PP.main.body 3)), scope := (fdS (nthS PP.main.body 3)), globals := 3, closure := [], defaults := PySem.Value.none, kwdefaults := PySem.Value.none, pyModule := PySem.Value.str (PySem.Str.ofString "rsa.common") 187, code := PySem.Value.ref 48 } }
noncomputable def o50 : Params → Obj := fun P => { cls := PySem.Value.type "tuple", data := PySem.Data.seq #[] }
noncomputable def o51 : Params → Obj := fun P => { cls := PySem.Value.none, data := PySem.Data.fields #[] }
noncomputable def o52 : Params → Obj := fun P => { cls := PySem.Value.type "tuple", data := PySem.Data.seq #[PySem.Value.str (PySem.Str.ofString "var") 253, PySem.Value.str (PySem.Str.ofString "name") 254] }
noncomputable def o53 : Params → Obj := fun P => { cls := PySem.Value.type "tuple", data := PySem.Data.seq #[] }
noncomputable def o54 : Params → Obj := fun P => { cls := PySem.Value.none, data := PySem.Data.func { name := PySem.Str.ofString "assert_int", qualname := PySem.Str.ofString "assert_int", params := (fdA (nthS PP.main.body 5)), body := PySem.FuncBody.stmts (fdB (nthS PP.main.body 5)), scope := (fdS (nthS PP.main.body 5)), globals := 0, closure := [], defaults := PySem.Value.none, kwdefaults := PySem.Value.none } }
noncomputable def o55 : Params → Obj := fun P => { cls := PySem.Value.type "code", data := PySem.Data.fields #[PySem.Value.str (PySem.Str.ofString "assert_int") 250, PySem.Value.str (PySem.Str.ofString "assert_int") 251, PySem.Value.str (PySem.Str.ofString "/claim/cut.py") 252, PySem.Value.int 31 0, PySem.Value.int 2 0, PySem.Value.int 0 0, PySem.Value.int 0 0, PySem.Value.int 3 0, PySem.Value.ref 50, PySem.Value.bool Bool.true, PySem.Value.int 181 0, PySem.Value.ref 51, PySem.Value.none, PySem.Value.ref 52, PySem.Value.ref 53, PySem.Value.ref 54, PySem.Value.int 255 0, PySem.Value.int 31 0, PySem.Value.str (PySem.Str.ofString "/claim/cut.py") 256] }
noncomputable def o56 : Params → Obj := fun P => { cls := PySem.Value.type "function", data := PySem.Data.func { name := PySem.Str.ofString "assert_int", qualname := PySem.Str.ofString "assert_int", params := (fdA (nthS PP.main.body 5)), body := PySem.FuncBody.stmts (fdB (nthS PP.main.body 5)), scope := (fdS (nthS PP.main.body 5)), globals := 3, closure := [], defaults := PySem.Value.none, kwdefaults := PySem.Value.none, pyModule := PySem.Value.str (PySem.Str.ofString "rsa.core") 248, code := PySem.Value.ref 55 } }
noncomputable def o57 : Params → Obj := fun P => { cls := PySem.Value.type "tuple", data := PySem.Data.seq #[] }
noncomputable def o58 : Params → Obj := fun P => { cls := PySem.Value.none, data := PySem.Data.fields #[] }
noncomputable def o59 : Params → Obj := fun P => { cls := PySem.Value.type "tuple", data := PySem.Data.seq #[PySem.Value.str (PySem.Str.ofString "message") 261, PySem.Value.str (PySem.Str.ofString "ekey") 262, PySem.Value.str (PySem.Str.ofString "n") 263] }
noncomputable def o60 : Params → Obj := fun P => { cls := PySem.Value.type "tuple", data := PySem.Data.seq #[] }
noncomputable def o61 : Params → Obj := fun P => { cls := PySem.Value.none, data := PySem.Data.func { name := PySem.Str.ofString "encrypt_int", qualname := PySem.Str.ofString "encrypt_int", params := (fdA (nthS PP.main.body 6)), body := PySem.FuncBody.stmts (fdB (nthS PP.main.body 6)), scope := (fdS (nthS PP.main.body 6)), globals := 0, closure := [], defaults := PySem.Value.none, kwdefaults := PySem.Value.none } }
noncomputable def o62 : Params → Obj := fun P => { cls := PySem.Value.type "code", data := PySem.Data.fields #[PySem.Value.str (PySem.Str.ofString "encrypt_int") 258, PySem.Value.str (PySem.Str.ofString "encrypt_int") 259, PySem.Value.str (PySem.Str.ofString "/claim/cut.py") 260, PySem.Value.int 35 0, PySem.Value.int 3 0, PySem.Value.int 0 0, PySem.Value.int 0 0, PySem.Value.int 3 0, PySem.Value.ref 57, PySem.Value.bool Bool.true, PySem.Value.int 181 0, PySem.Value.ref 58, PySem.Value.none, PySem.Value.ref 59, PySem.Value.ref 60, PySem.Value.ref 61, PySem.Value.int 264 0, PySem.Value.int 35 0, PySem.Value.str (PySem.Str.ofString "/claim/cut.py") 265] }
noncomputable def o63 : Params → Obj := fun P => { cls := PySem.Value.type "function", data := PySem.Data.func { name := PySem.Str.ofString "encrypt_int", qualname := PySem.Str.ofString "encrypt_int", params := (fdA (nthS PP.main.body 6)), body := PySem.FuncBody.stmts (fdB (nthS PP.main.body 6)), scope := (fdS (nthS PP.main.body 6)), globals := 3, closure := [], defaults := PySem.Value.none, kwdefaults := PySem.Value.none, pyModule := PySem.Value.str (PySem.Str.ofString "rsa.core") 248, code := PySem.Value.ref 62 } }
noncomputable def o64 : Params → Obj := fun P => { cls := PySem.Value.type "tuple", data := PySem.Data.seq #[] }
noncomputable def o65 : Params → Obj := fun P => { cls := PySem.Value.none, data := PySem.Data.fields #[] }
noncomputable def o66 : Params → Obj := fun P => { cls := PySem.Value.type "tuple", data := PySem.Data.seq #[PySem.Value.str (PySem.Str.ofString "cyphertext") 270, PySem.Value.str (PySem.Str.ofString "dkey") 271, PySem.Value.str (PySem.Str.ofString "n") 272, PySem.Value.str (PySem.Str.ofString "message") 273] }
noncomputable def o67 : Params → Obj := fun P => { cls := PySem.Value.type "tuple", data := PySem.Data.seq #[] }
noncomputable def o68 : Params → Obj := fun P => { cls := PySem.Value.none, data := PySem.Data.func { name := PySem.Str.ofString "decrypt_int", qualname := PySem.Str.ofString "decrypt_int", params := (fdA (nthS PP.main.body 7)), body := PySem.FuncBody.stmts (fdB (nthS PP.main.body 7)), scope := (fdS (nthS PP.main.body 7)), globals := 0, closure := [], defaults := PySem.Value.none, kwdefaults := PySem.Value.none } }
noncomputable def o69 : Params → Obj := fun P => { cls := PySem.Value.type "code", data := PySem.Data.fields #[PySem.Value.str (PySem.Str.ofString "decrypt_int") 267, PySem.Value.str (PySem.Str.ofString "decrypt_int") 268, PySem.Value.str (PySem.Str.ofString "/claim/cut.py") 269, PySem.Value.int 44 0, PySem.Value.int 3 0, PySem.Value.int 0 0, PySem.Value.int 0 0, PySem.Value.int 3 0, PySem.Value.ref 64, PySem.Value.bool Bool.true, PySem.Value.int 181 0, PySem.Value.ref 65, PySem.Value.none, PySem.Value.ref 66, PySem.Value.ref 67, PySem.Value.ref 68, PySem.Value.int 274 0, PySem.Value.int 44 0, PySem.Value.str (PySem.Str.ofString "/claim/cut.py") 275] }
noncomputable def o70 : Params → Obj := fun P => { cls := PySem.Value.type "function", data := PySem.Data.func { name := PySem.Str.ofString "decrypt_int", qualname := PySem.Str.ofString "decrypt_int", params := (fdA (nthS PP.main.body 7)), body := PySem.FuncBody.stmts (fdB (nthS PP.main.body 7)), scope := (fdS (nthS PP.main.body 7)), globals := 3, closure := [], defaults := PySem.Value.none, kwdefaults := PySem.Value.none, pyModule := PySem.Value.str (PySem.Str.ofString "rsa.core") 248, code := PySem.Value.ref 69 } }
noncomputable def o3p9 : Params → Obj := fun P => { cls := PySem.Value.type "dict", data := PySem.Data.dict #[{ hash := PySem.PyData.keyHash P (PySem.Str.ofString "__name__"), key := PySem.Value.str (PySem.Str.ofString "__name__") 165, val := PySem.Value.str (PySem.Str.ofString "rsa.prime") 277 }, { hash := PySem.PyData.keyHash P (PySem.Str.ofString "__doc__"), key := PySem.Value.str (PySem.Str.ofString "__doc__") 166, val := PySem.Value.none }, { hash := PySem.PyData.keyHash P (PySem.Str.ofString "__package__"), key := PySem.Value.str (PySem.Str.ofString "__package__") 167, val := PySem.Value.none }, { hash := PySem.PyData.keyHash P (PySem.Str.ofString "__loader__"), key := PySem.Value.str (PySem.Str.ofString "__loader__") 168, val := PySem.Value.builtin "__main__.__loader__#opaque" }, { hash := PySem.PyData.keyHash P (PySem.Str.ofString "__spec__"), key := PySem.Value.str (PySem.Str.ofString "__spec__") 169, val := PySem.Value.none }, { hash := PySem.PyData.keyHash P (PySem.Str.ofString "__annotations__"), key := PySem.Value.str (PySem.Str.ofString "__annotations__") 170, val := PySem.Value.ref 6 }, { hash := PySem.PyData.keyHash P (PySem.Str.ofString "__builtins__"), key := PySem.Value.str (PySem.Str.ofString "__builtins__") 171, val := PySem.Value.ref 4 }, { hash := PySem.PyData.keyHash P (PySem.Str.ofString "__file__"), key := PySem.Value.str (PySem.Str.ofString "__file__") 173, val := PySem.Value.str (PySem.Str.ofString "/claim/cut.py") 172 }, { hash := PySem.PyData.keyHash P (PySem.Str.ofString "__cached__"), key := PySem.Value.str (PySem.Str.ofString "__cached__") 174, val := PySem.Value.none }, { hash := PySem.PyData.keyHash P (PySem.Str.ofString "NotRelativePrimeError"), key := PySem.Value.str (PySem.Str.ofString "NotRelativePrimeError") 221, val := PySem.Value.ref 32 }, { hash := PySem.PyData.keyHash P (PySem.Str.ofString "extended_gcd"), key := PySem.Value.str (PySem.Str.ofString "extended_gcd") 236, val := PySem.Value.ref 42 }, { hash := PySem.PyData.keyHash P (PySem.Str.ofString "inverse"), key := PySem.Value.str (PySem.Str.ofString "inverse") 247, val := PySem.Value.ref 49 }, { hash := PySem.PyData.keyHash P (PySem.Str.ofString "assert_int"), key := PySem.Value.str (PySem.Str.ofString "assert_int") 257, val := PySem.Value.ref 56 }, { hash := PySem.PyData.keyHash P (PySem.Str.ofString "encrypt_int"), key := PySem.Value.str (PySem.Str.ofString "encrypt_int") 266, val := PySem.Value.ref 63 }, { hash := PySem.PyData.keyHash P (PySem.Str.ofString "decrypt_int"), key := PySem.Value.str (PySem.Str.ofString "decrypt_int") 276, val := PySem.Value.ref 70 }, { hash := PySem.PyData.keyHash P (PySem.Str.ofString "gcd"), key := PySem.Value.str (PySem.Str.ofString "gcd") 286, val := PySem.Value.ref 77 }] 16 }
noncomputable def o12p9 : Params → Obj := fun P => { cls := PySem.Value.none, data := PySem.Data.fields #[PySem.Value.int 2 0, PySem.Value.int 0 0, PySem.Value.ref 20, PySem.Value.int 8 0, PySem.Value.int 0 0, PySem.Value.ref 41, PySem.Value.int 25 0, PySem.Value.int 0 0, PySem.Value.ref 48, PySem.Value.int 31 0, PySem.Value.int 0 0, PySem.Value.ref 55, PySem.Value.int 35 0, PySem.Value.int 0 0, PySem.Value.ref 62, PySem.Value.int 44 0, PySem.Value.int 0 0, PySem.Value.ref 69, PySem.Value.int 51 0, PySem.Value.int 0 0, PySem.Value.ref 76] }
noncomputable def o71 : Params → Obj := fun P => { cls := PySem.Value.type "tuple", data := PySem.Data.seq #[] }
noncomputable def o72 : Params → Obj := fun P => { cls := PySem.Value.none, data := PySem.Data.fields #[] }
noncomputable def o73 : Params → Obj := fun P => { cls := PySem.Value.type "tuple", data := PySem.Data.seq #[PySem.Value.str (PySem.Str.ofString "p") 282, PySem.Value.str (PySem.Str.ofString "q") 283] }
noncomputable def o74 : Params → Obj := fun P => { cls := PySem.Value.type "tuple", data := PySem.Data.seq #[] }
noncomputable def o75 : Params → Obj := fun P => { cls := PySem.Value.none, data := PySem.Data.func { name := PySem.Str.ofString "gcd", qualname := PySem.Str.ofString "gcd", params := (fdA (nthS PP.main.body 9)), body := PySem.FuncBody.stmts (fdB (nthS PP.main.body 9)), scope := (fdS (nthS PP.main.body 9)), globals := 0, closure := [], defaults := PySem.Value.none, kwdefaults := PySem.Value.none } }
noncomputable def o76 : Params → Obj := fun P => { cls := PySem.Value.type "code", data := PySem.Data.fields #[PySem.Value.str (PySem.Str.ofString "gcd") 279, PySem.Value.str (PySem.Str.ofString "gcd") 280, PySem.Value.str (PySem.Str.ofString "/claim/cut.py") 281, PySem.Value.int 51 0, PySem.Value.int 2 0, PySem.Value.int 0 0, PySem.Value.int 0 0, PySem.Value.int 3 0, PySem.Value.ref 71, PySem.Value.bool Bool.true, PySem.Value.int 181 0, PySem.Value.ref 72, PySem.Value.none, PySem.Value.ref 73, PySem.Value.ref 74, PySem.Value.ref 75, PySem.Value.int 284 0, PySem.Value.int 51 0, PySem.Value.str (PySem.Str.ofString "/claim/cut.py") 285] }
noncomputable def o77 : Params → Obj := fun P => { cls := PySem.Value.type "function", data := PySem.Data.func { name := PySem.Str.ofString "gcd", qualname := PySem.Str.ofString "gcd", params := (fdA (nthS PP.main.body 9)), body := PySem.FuncBody.stmts (fdB (nthS PP.main.body 9)), scope := (fdS (nthS PP.main.body 9)), globals := 3, closure := [], defaults := PySem.Value.none, kwdefaults := PySem.Value.none, pyModule := PySem.Value.str (PySem.Str.ofString "rsa.prime") 277, code := PySem.Value.ref 76 } }
noncomputable def o78 : Params → Obj := fun P => { cls := PySem.Value.type "tuple", data := PySem.Data.seq #[] }
noncomputable def o79 : Params → Obj := fun P => { cls := PySem.Value.none, data := PySem.Data.fields #[] }
noncomputable def o80 : Params → Obj := fun P => { cls := PySem.Value.type "tuple", data := PySem.Data.seq #[PySem.Value.str (PySem.Str.ofString "a") 290, PySem.Value.str (PySem.Str.ofString "b") 291, PySem.Value.str (PySem.Str.ofString "d") 292] }
noncomputable def o81 : Params → Obj := fun P => { cls := PySem.Value.type "tuple", data := PySem.Data.seq #[] }
noncomputable def o82 : Params → Obj := fun P => { cls := PySem.Value.none, data := PySem.Data.func { name := PySem.Str.ofString "are_relatively_prime", qualname := PySem.Str.ofString "are_relatively_prime", params := (fdA (nthS PP.main.body 10)), body := PySem.FuncBody.stmts (fdB (nthS PP.main.body 10)), scope := (fdS (nthS PP.main.body 10)), globals := 0, closure := [], defaults := PySem.Value.none, kwdefaults := PySem.Value.none } }
noncomputable def o83 : Params → Obj := fun P => { cls := PySem.Value.type "code", data := PySem.Data.fields #[PySem.Value.str (PySem.Str.ofString "are_relatively_prime") 287, PySem.Value.str (PySem.Str.ofString "are_relatively_prime") 288, PySem.Value.str (PySem.Str.ofString "/claim/cut.py") 289, PySem.Value.int 55 0, PySem.Value.int 2 0, PySem.Value.int 0 0, PySem.Value.int 0 0, PySem.Value.int 3 0, PySem.Value.ref 78, PySem.Value.bool Bool.true, PySem.Value.int 181 0, PySem.Value.ref 79, PySem.Value.none, PySem.Value.ref 80, PySem.Value.ref 81, PySem.Value.ref 82, PySem.Value.int 293 0, PySem.Value.int 55 0, PySem.Value.str (PySem.Str.ofString "/claim/cut.py") 294] }
noncomputable def o84 : Params → Obj := fun P => { cls := PySem.Value.type "function", data := PySem.Data.func { name := PySem.Str.ofString "are_relatively_prime", qualname := PySem.Str.ofString "are_relatively_prime", params := (fdA (nthS PP.main.body 10)), body := PySem.FuncBody.stmts (fdB (nthS PP.main.body 10)), scope := (fdS (nthS PP.main.body 10)), globals := 3, closure := [], defaults := PySem.Value.none, kwdefaults := PySem.Value.none, pyModule := PySem.Value.str (PySem.Str.ofString "rsa.prime") 277, code := PySem.Value.ref 83 } }
noncomputable def o3p12 : Params → Obj := fun P => { cls := PySem.Value.type "dict", data := PySem.Data.dict #[{ hash := PySem.PyData.keyHash P (PySem.Str.ofString "__name__"), key := PySem.Value.str (PySem.Str.ofString "__name__") 165, val := PySem.Value.str (PySem.Str.ofString "rsa.key") 296 }, { hash := PySem.PyData.keyHash P (PySem.Str.ofString "__doc__"), key := PySem.Value.str (PySem.Str.ofString "__doc__") 166, val := PySem.Value.none }, { hash := PySem.PyData.keyHash P (PySem.Str.ofString "__package__"), key := PySem.Value.str (PySem.Str.ofString "__package__") 167, val := PySem.Value.none }, { hash := PySem.PyData.keyHash P (PySem.Str.ofString "__loader__"), key := PySem.Value.str (PySem.Str.ofString "__loader__") 168, val := PySem.Value.builtin "__main__.__loader__#opaque" }, { hash := PySem.PyData.keyHash P (PySem.Str.ofString "__spec__"), key := PySem.Value.str (PySem.Str.ofString "__spec__") 169, val := PySem.Value.none }, { hash := PySem.PyData.keyHash P (PySem.Str.ofString "__annotations__"), key := PySem.Value.str (PySem.Str.ofString "__annotations__") 170, val := PySem.Value.ref 6 }, { hash := PySem.PyData.keyHash P (PySem.Str.ofString "__builtins__"), key := PySem.Value.str (PySem.Str.ofString "__builtins__") 171, val := PySem.Value.ref 4 }, { hash := PySem.PyData.keyHash P (PySem.Str.ofString "__file__"), key := PySem.Value.str (PySem.Str.ofString "__file__") 173, val := PySem.Value.str (PySem.Str.ofString "/claim/cut.py") 172 }, { hash := PySem.PyData.keyHash P (PySem.Str.ofString "__cached__"), key := PySem.Value.str (PySem.Str.ofString "__cached__") 174, val := PySem.Value.none }, { hash := PySem.PyData.keyHash P (PySem.Str.ofString "NotRelativePrimeError"), key := PySem.Value.str (PySem.Str.ofString "NotRelativePrimeError") 221, val := PySem.Value.ref 32 }, { hash := PySem.PyData.keyHash P (PySem.Str.ofString "extended_gcd"), key := PySem.Value.str (PySem.Str.ofString "extended_gcd") 236, val := PySem.Value.ref 42 }, { hash := PySem.PyData.keyHash P (PySem.Str.ofString "inverse"), key := PySem.Value.str (PySem.Str.ofString "inverse") 247, val := PySem.Value.ref 49 }, { hash := PySem.PyData.keyHash P (PySem.Str.ofString "assert_int"), key := PySem.Value.str (PySem.Str.ofString "assert_int") 257, val := PySem.Value.ref 56 }, { hash := PySem.PyData.keyHash P (PySem.Str.ofString "encrypt_int"), key := PySem.Value.str (PySem.Str.ofString "encrypt_int") 266, val := PySem.Value.ref 63 }, { hash := PySem.PyData.keyHash P (PySem.Str.ofString "decrypt_int"), key := PySem.Value.str (PySem.Str.ofString "decrypt_int") 276, val := PySem.Value.ref 70 }, { hash := PySem.PyData.keyHash P (PySem.Str.ofString "gcd"), key := PySem.Value.str (PySem.Str.ofString "gcd") 286, val := PySem.Value.ref 77 }, { hash := PySem.PyData.keyHash P (PySem.Str.ofString "are_relatively_prime"), key := PySem.Value.str (PySem.Str.ofString "are_relatively_prime") 295, val := PySem.Value.ref 84 }, { hash := PySem.PyData.keyHash P (PySem.Str.ofString "AbstractKey"), key := PySem.Value.str (PySem.Str.ofString "AbstractKey") 365, val := PySem.Value.ref 129 }] 18 }
noncomputable def o12p12 : Params → Obj := fun P => { cls := PySem.Value.none, data := PySem.Data.fields #[PySem.Value.int 2 0, PySem.Value.int 0 0, PySem.Value.ref 20, PySem.Value.int 8 0, PySem.Value.int 0 0, PySem.Value.ref 41, PySem.Value.int 25 0, PySem.Value.int 0 0, PySem.Value.ref 48, PySem.Value.int 31 0, PySem.Value.int 0 0, PySem.Value.ref 55, PySem.Value.int 35 0, PySem.Value.int 0 0, PySem.Value.ref 62, PySem.Value.int 44 0, PySem.Value.int 0 0, PySem.Value.ref 69, PySem.Value.int 51 0, PySem.Value.int 0 0, PySem.Value.ref 76, PySem.Value.int 55 0, PySem.Value.int 0 0, PySem.Value.ref 83, PySem.Value.int 59 0, PySem.Value.int 0 0, PySem.Value.ref 90] }
noncomputable def o85 : Params → Obj := fun P => { cls := PySem.Value.type "tuple", data := PySem.Data.seq #[] }
noncomputable def o86 : Params → Obj := fun P => { cls := PySem.Value.type "builtin_function_or_method", data := PySem.Data.fields #[PySem.Value.builtin "type.__prepare__", PySem.Value.type "type"] }
noncomputable def o87 : Params → Obj := fun P => { cls := PySem.Value.type "dict", data := PySem.Data.dict #[{ hash := PySem.PyData.keyHash P (PySem.Str.ofString "__module__"), key := PySem.Value.str (PySem.Str.ofString "__module__") 305, val := PySem.Value.str (PySem.Str.ofString "rsa.key") 296 }, { hash := PySem.PyData.keyHash P (PySem.Str.ofString "__qualname__"), key := PySem.Value.str (PySem.Str.ofString "__qualname__") 307, val := PySem.Value.str (PySem.Str.ofString "AbstractKey") 306 }, { hash := PySem.PyData.keyHash P (PySem.Str.ofString "__firstlineno__"), key := PySem.Value.str (PySem.Str.ofString "__firstlineno__") 309, val := PySem.Value.int 59 308 }, { hash := PySem.PyData.keyHash P (PySem.Str.ofString "__init__"), key := PySem.Value.str (PySem.Str.ofString "__init__") 318, val := PySem.Value.ref 98 }, { hash := PySem.PyData.keyHash P (PySem.Str.ofString "blind"), key := PySem.Value.str (PySem.Str.ofString "blind") 329, val := PySem.Value.ref 105 }, { hash := PySem.PyData.keyHash P (PySem.Str.ofString "unblind"), key := PySem.Value.str (PySem.Str.ofString "unblind") 338, val := PySem.Value.ref 112 }, { hash := PySem.PyData.keyHash P (PySem.Str.ofString "_initial_blinding_factor"), key := PySem.Value.str (PySem.Str.ofString "_initial_blinding_factor") 346, val := PySem.Value.ref 119 }, { hash := PySem.PyData.keyHash P (PySem.Str.ofString "_update_blinding_factor"), key := PySem.Value.str (PySem.Str.ofString "_update_blinding_factor") 353, val := PySem.Value.ref 126 }, { hash := PySem.PyData.keyHash P (PySem.Str.ofString "__static_attributes__"), key := PySem.Value.str (PySem.Str.ofString "__static_attributes__") 358, val := PySem.Value.ref 127 }] 9 }
noncomputable def o88 : Params → Obj := fun P => { cls := PySem.Value.type "tuple", data := PySem.Data.seq #[] }
noncomputable def o89 : Params → Obj := fun P => { cls := PySem.Value.none, data := PySem.Data.fields #[PySem.Value.int 61 0, PySem.Value.int 4 0, PySem.Value.ref 97, PySem.Value.int 66 0, PySem.Value.int 4 0, PySem.Value.ref 104, PySem.Value.int 71 0, PySem.Value.int 4 0, PySem.Value.ref 111, PySem.Value.int 74 0, PySem.Value.int 4 0, PySem.Value.ref 118, PySem.Value.int 80 0, PySem.Value.int 4 0, PySem.Value.ref 125] }
noncomputable def o90 : Params → Obj := fun P => { cls := PySem.Value.type "code", data := PySem.Data.fields #[PySem.Value.str (PySem.Str.ofString "AbstractKey") 300, PySem.Value.str (PySem.Str.ofString "AbstractKey") 301, PySem.Value.str (PySem.Str.ofString "/claim/cut.py") 302, PySem.Value.int 59 0, PySem.Value.int 0 0, PySem.Value.int 0 0, PySem.Value.int 0 0, PySem.Value.int 0 0, PySem.Value.ref 88, PySem.Value.bool Bool.false, PySem.Value.int 181 0, PySem.Value.ref 89, PySem.Value.none, PySem.Value.none, PySem.Value.none, PySem.Value.none, PySem.Value.int 303 0, PySem.Value.int 59 0, PySem.Value.str (PySem.Str.ofString "/claim/cut.py") 304] }
noncomputable def o91 : Params → Obj := fun P => { cls := PySem.Value.type "frame", slots := #[Option.some (PySem.Value.ref 90), Option.some (PySem.Value.ref 3), Option.some (PySem.Value.ref 87), Option.none, Option.some (PySem.Value.str (PySem.Str.ofString "rsa.key") 296), Option.none, Option.some (PySem.Value.ref 0)] }
noncomputable def o92 : Params → Obj := fun P => { cls := PySem.Value.type "tuple", data := PySem.Data.seq #[] }
noncomputable def o93 : Params → Obj := fun P => { cls := PySem.Value.none, data := PySem.Data.fields #[] }
noncomputable def o94 : Params → Obj := fun P => { cls := PySem.Value.type "tuple", data := PySem.Data.seq #[PySem.Value.str (PySem.Str.ofString "self") 313, PySem.Value.str (PySem.Str.ofString "n") 314, PySem.Value.str (PySem.Str.ofString "e") 315] }
noncomputable def o95 : Params → Obj := fun P => { cls := PySem.Value.type "tuple", data := PySem.Data.seq #[] }
noncomputable def o96 : Params → Obj := fun P => { cls := PySem.Value.none, data := PySem.Data.func { name := PySem.Str.ofString "__init__", qualname := PySem.Str.ofString "AbstractKey.__init__", params := (fdA (nthS (fdB (nthS PP.main.body 12)) 0)), body := PySem.FuncBody.stmts (fdB (nthS (fdB (nthS PP.main.body 12)) 0)), scope := (fdS (nthS (fdB (nthS PP.main.body 12)) 0)), globals := 0, closure := [], defaults := PySem.Value.none, kwdefaults := PySem.Value.none } }
noncomputable def o97 : Params → Obj := fun P => { cls := PySem.Value.type "code", data := PySem.Data.fields #[PySem.Value.str (PySem.Str.ofString "__init__") 310, PySem.Value.str (PySem.Str.ofString "AbstractKey.__init__") 311, PySem.Value.str (PySem.Str.ofString "/claim/cut.py") 312, PySem.Value.int 61 0, PySem.Value.int 3 0, PySem.Value.int 0 0, PySem.Value.int 0 0, PySem.Value.int 3 0, PySem.Value.ref 92, PySem.Value.bool Bool.true, PySem.Value.int 181 0, PySem.Value.ref 93, PySem.Value.none, PySem.Value.ref 94, PySem.Value.ref 95, PySem.Value.ref 96, PySem.Value.int 316 0, PySem.Value.int 61 0, PySem.Value.str (PySem.Str.ofString "/claim/cut.py") 317] }
noncomputable def o98 : Params → Obj := fun P => { cls := PySem.Value.type "function", data := PySem.Data.func { name := PySem.Str.ofString "__init__", qualname := PySem.Str.ofString "AbstractKey.__init__", params := (fdA (nthS (fdB (nthS PP.main.body 12)) 0)), body := PySem.FuncBody.stmts (fdB (nthS (fdB (nthS PP.main.body 12)) 0)), scope := (fdS (nthS (fdB (nthS PP.main.body 12)) 0)), globals := 3, closure := [], defaults := PySem.Value.none, kwdefaults := PySem.Value.none, pyModule := PySem.Value.str (PySem.Str.ofString "rsa.key") 296, code := PySem.Value.ref 97 } }
noncomputable def o99 : Params → Obj := fun P => { cls := PySem.Value.type "tuple", data := PySem.Data.seq #[] }
noncomputable def o100 : Params → Obj := fun P => { cls := PySem.Value.none, data := PySem.Data.fields #[] }
noncomputable def o101 : Params → Obj := fun P => { cls := PySem.Value.type "tuple", data := PySem.Data.seq #[PySem.Value.str (PySem.Str.ofString "self") 322, PySem.Value.str (PySem.Str.ofString "message") 323, PySem.Value.str (PySem.Str.ofString "blindfac") 324, PySem.Value.str (PySem.Str.ofString "blindfac_inverse") 325, PySem.Value.str (PySem.Str.ofString "blinded") 326] }
noncomputable def o102 : Params → Obj := fun P => { cls := PySem.Value.type "tuple", data := PySem.Data.seq #[] }
noncomputable def o103 : Params → Obj := fun P => { cls := PySem.Value.none, data := PySem.Data.func { name := PySem.Str.ofString "blind", qualname := PySem.Str.ofString "AbstractKey.blind", params := (fdA (nthS (fdB (nthS PP.main.body 12)) 1)), body := PySem.FuncBody.stmts (fdB (nthS (fdB (nthS PP.main.body 12)) 1)), scope := (fdS (nthS (fdB (nthS PP.main.body 12)) 1)), globals := 0, closure := [], defaults := PySem.Value.none, kwdefaults := PySem.Value.none } }
noncomputable def o104 : Params → Obj := fun P => { cls := PySem.Value.type "code", data := PySem.Data.fields #[PySem.Value.str (PySem.Str.ofString "blind") 319, PySem.Value.str (PySem.Str.ofString "AbstractKey.blind") 320, PySem.Value.str (PySem.Str.ofString "/claim/cut.py") 321, PySem.Value.int 66 0, PySem.Value.int 2 0, PySem.Value.int 0 0, PySem.Value.int 0 0, PySem.Value.int 3 0, PySem.Value.ref 99, PySem.Value.bool Bool.true, PySem.Value.int 181 0, PySem.Value.ref 100, PySem.Value.none, PySem.Value.ref 101, PySem.Value.ref 102, PySem.Value.ref 103, PySem.Value.int 327 0, PySem.Value.int 66 0, PySem.Value.str (PySem.Str.ofString "/claim/cut.py") 328] }
noncomputable def o105 : Params → Obj := fun P => { cls := PySem.Value.type "function", data := PySem.Data.func { name := PySem.Str.ofString "blind", qualname := PySem.Str.ofString "AbstractKey.blind", params := (fdA (nthS (fdB (nthS PP.main.body 12)) 1)), body := PySem.FuncBody.stmts (fdB (nthS (fdB (nthS PP.main.body 12)) 1)), scope := (fdS (nthS (fdB (nthS PP.main.body 12)) 1)), globals := 3, closure := [], defaults := PySem.Value.none, kwdefaults := PySem.Value.none, pyModule := PySem.Value.str (PySem.Str.ofString "rsa.key") 296, code := PySem.Value.ref 104 } }
noncomputable def o106 : Params → Obj := fun P => { cls := PySem.Value.type "tuple", data := PySem.Data.seq #[] }
noncomputable def o107 : Params → Obj := fun P => { cls := PySem.Value.none, data := PySem.Data.fields #[] }
noncomputable def o108 : Params → Obj := fun P => { cls := PySem.Value.type "tuple", data := PySem.Data.seq #[PySem.Value.str (PySem.Str.ofString "self") 333, PySem.Value.str (PySem.Str.ofString "blinded") 334, PySem.Value.str (PySem.Str.ofString "blindfac_inverse") 335] }
noncomputable def o109 : Params → Obj := fun P => { cls := PySem.Value.type "tuple", data := PySem.Data.seq #[] }
noncomputable def o110 : Params → Obj := fun P => { cls := PySem.Value.none, data := PySem.Data.func { name := PySem.Str.ofString "unblind", qualname := PySem.Str.ofString "AbstractKey.unblind", params := (fdA (nthS (fdB (nthS PP.main.body 12)) 2)), body := PySem.FuncBody.stmts (fdB (nthS (fdB (nthS PP.main.body 12)) 2)), scope := (fdS (nthS (fdB (nthS PP.main.body 12)) 2)), globals := 0, closure := [], defaults := PySem.Value.none, kwdefaults := PySem.Value.none } }
noncomputable def o111 : Params → Obj := fun P => { cls := PySem.Value.type "code", data := PySem.Data.fields #[PySem.Value.str (PySem.Str.ofString "unblind") 330, PySem.Value.str (PySem.Str.ofString "AbstractKey.unblind") 331, PySem.Value.str (PySem.Str.ofString "/claim/cut.py") 332, PySem.Value.int 71 0, PySem.Value.int 3 0, PySem.Value.int 0 0, PySem.Value.int 0 0, PySem.Value.int 3 0, PySem.Value.ref 106, PySem.Value.bool Bool.true, PySem.Value.int 181 0, PySem.Value.ref 107, PySem.Value.none, PySem.Value.ref 108, PySem.Value.ref 109, PySem.Value.ref 110, PySem.Value.int 336 0, PySem.Value.int 71 0, PySem.Value.str (PySem.Str.ofString "/claim/cut.py") 337] }
noncomputable def o112 : Params → Obj := fun P => { cls := PySem.Value.type "function", data := PySem.Data.func { name := PySem.Str.ofString "unblind", qualname := PySem.Str.ofString "AbstractKey.unblind", params := (fdA (nthS (fdB (nthS PP.main.body 12)) 2)), body := PySem.FuncBody.stmts (fdB (nthS (fdB (nthS PP.main.body 12)) 2)), scope := (fdS (nthS (fdB (nthS PP.main.body 12)) 2)), globals := 3, closure := [], defaults := PySem.Value.none, kwdefaults := PySem.Value.none, pyModule := PySem.Value.str (PySem.Str.ofString "rsa.key") 296, code := PySem.Value.ref 111 } }
noncomputable def o113 : Params → Obj := fun P => { cls := PySem.Value.type "tuple", data := PySem.Data.seq #[] }
noncomputable def o114 : Params → Obj := fun P => { cls := PySem.Value.none, data := PySem.Data.fields #[] }
noncomputable def o115 : Params → Obj := fun P => { cls := PySem.Value.type "tuple", data := PySem.Data.seq #[PySem.Value.str (PySem.Str.ofString "self") 342, PySem.Value.str (PySem.Str.ofString "blind_r") 343] }
noncomputable def o116 : Params → Obj := fun P => { cls := PySem.Value.type "tuple", data := PySem.Data.seq #[] }
noncomputable def o117 : Params → Obj := fun P => { cls := PySem.Value.none, data := PySem.Data.func { name := PySem.Str.ofString "_initial_blinding_factor", qualname := PySem.Str.ofString "AbstractKey._initial_blinding_factor", params := (fdA (nthS (fdB (nthS PP.main.body 12)) 3)), body := PySem.FuncBody.stmts (fdB (nthS (fdB (nthS PP.main.body 12)) 3)), scope := (fdS (nthS (fdB (nthS PP.main.body 12)) 3)), globals := 0, closure := [], defaults := PySem.Value.none, kwdefaults := PySem.Value.none } }
noncomputable def o118 : Params → Obj := fun P => { cls := PySem.Value.type "code", data := PySem.Data.fields #[PySem.Value.str (PySem.Str.ofString "_initial_blinding_factor") 339, PySem.Value.str (PySem.Str.ofString "AbstractKey._initial_blinding_factor") 340, PySem.Value.str (PySem.Str.ofString "/claim/cut.py") 341, PySem.Value.int 74 0, PySem.Value.int 1 0, PySem.Value.int 0 0, PySem.Value.int 0 0, PySem.Value.int 3 0, PySem.Value.ref 113, PySem.Value.bool Bool.true, PySem.Value.int 181 0, PySem.Value.ref 114, PySem.Value.none, PySem.Value.ref 115, PySem.Value.ref 116, PySem.Value.ref 117, PySem.Value.int 344 0, PySem.Value.int 74 0, PySem.Value.str (PySem.Str.ofString "/claim/cut.py") 345] }
noncomputable def o119 : Params → Obj := fun P => { cls := PySem.Value.type "function", data := PySem.Data.func { name := PySem.Str.ofString "_initial_blinding_factor", qualname := PySem.Str.ofString "AbstractKey._initial_blinding_factor", params := (fdA (nthS (fdB (nthS PP.main.body 12)) 3)), body := PySem.FuncBody.stmts (fdB (nthS (fdB (nthS PP.main.body 12)) 3)), scope := (fdS (nthS (fdB (nthS PP.main.body 12)) 3)), globals := 3, closure := [], defaults := PySem.Value.none, kwdefaults := PySem.Value.none, pyModule := PySem.Value.str (PySem.Str.ofString "rsa.key") 296, code := PySem.Value.ref 118 } }
noncomputable def o120 : Params → Obj := fun P => { cls := PySem.Value.type "tuple", data := PySem.Data.seq #[] }
noncomputable def o121 : Params → Obj := fun P => { cls := PySem.Value.none, data := PySem.Data.fields #[] }
noncomputable def o122 : Params → Obj := fun P => { cls := PySem.Value.type "tuple", data := PySem.Data.seq #[PySem.Value.str (PySem.Str.ofString "self") 350] }
noncomputable def o123 : Params → Obj := fun P => { cls := PySem.Value.type "tuple", data := PySem.Data.seq #[] }
noncomputable def o124 : Params → Obj := fun P => { cls := PySem.Value.none, data := PySem.Data.func { name := PySem.Str.ofString "_update_blinding_factor", qualname := PySem.Str.ofString "AbstractKey._update_blinding_factor", params := (fdA (nthS (fdB (nthS PP.main.body 12)) 4)), body := PySem.FuncBody.stmts (fdB (nthS (fdB (nthS PP.main.body 12)) 4)), scope := (fdS (nthS (fdB (nthS PP.main.body 12)) 4)), globals := 0, closure := [], defaults := PySem.Value.none, kwdefaults := PySem.Value.none } }
noncomputable def o125 : Params → Obj := fun P => { cls := PySem.Value.type "code", data := PySem.Data.fields #[PySem.Value.str (PySem.Str.ofString "_update_blinding_factor") 347, PySem.Value.str (PySem.Str.ofString "AbstractKey._update_blinding_factor") 348, PySem.Value.str (PySem.Str.ofString "/claim/cut.py") 349, PySem.Value.int 80 0, PySem.Value.int 1 0, PySem.Value.int 0 0, PySem.Value.int 0 0, PySem.Value.int 3 0, PySem.Value.ref 120, PySem.Value.bool Bool.true, PySem.Value.int 181 0, PySem.Value.ref 121, PySem.Value.none, PySem.Value.ref 122, PySem.Value.ref 123, PySem.Value.ref 124, PySem.Value.int 351 0, PySem.Value.int 80 0, PySem.Value.str (PySem.Str.ofString "/claim/cut.py") 352] }
noncomputable def o126 : Params → Obj := fun P => { cls := PySem.Value.type "function", data := PySem.Data.func { name := PySem.Str.ofString "_update_blinding_factor", qualname := PySem.Str.ofString "AbstractKey._update_blinding_factor", params := (fdA (nthS (fdB (nthS PP.main.body 12)) 4)), body := PySem.FuncBody.stmts (fdB (nthS (fdB (nthS PP.main.body 12)) 4)), scope := (fdS (nthS (fdB (nthS PP.main.body 12)) 4)), globals := 3, closure := [], defaults := PySem.Value.none, kwdefaults := PySem.Value.none, pyModule := PySem.Value.str (PySem.Str.ofString "rsa.key") 296, code := PySem.Value.ref 125 } }
noncomputable def o127 : Params → Obj := fun P => { cls := PySem.Value.type "tuple", data := PySem.Data.seq #[PySem.Value.str (PySem.Str.ofString "blindfac") 354, PySem.Value.str (PySem.Str.ofString "blindfac_inverse") 355, PySem.Value.str (PySem.Str.ofString "e") 356, PySem.Value.str (PySem.Str.ofString "n") 357] }
noncomputable def o128 : Params → Obj := fun P => { cls := PySem.Value.type "dict", data := PySem.Data.dict #[{ hash := PySem.PyData.keyHash P (PySem.Str.ofString "__module__"), key := PySem.Value.str (PySem.Str.ofString "__module__") 305, val := PySem.Value.str (PySem.Str.ofString "rsa.key") 296 }, { hash := PySem.PyData.keyHash P (PySem.Str.ofString "__firstlineno__"), key := PySem.Value.str (PySem.Str.ofString "__firstlineno__") 309, val := PySem.Value.int 59 308 }, { hash := PySem.PyData.keyHash P (PySem.Str.ofString "__init__"), key := PySem.Value.str (PySem.Str.ofString "__init__") 318, val := PySem.Value.ref 98 }, { hash := PySem.PyData.keyHash P (PySem.Str.ofString "blind"), key := PySem.Value.str (PySem.Str.ofString "blind") 329, val := PySem.Value.ref 105 }, { hash := PySem.PyData.keyHash P (PySem.Str.ofString "unblind"), key := PySem.Value.str (PySem.Str.ofString "unblind") 338, val := PySem.Value.ref 112 }, { hash := PySem.PyData.keyHash P (PySem.Str.ofString "_initial_blinding_factor"), key := PySem.Value.str (PySem.Str.ofString "_initial_blinding_factor") 346, val := PySem.Value.ref 119 }, { hash := PySem.PyData.keyHash P (PySem.Str.ofString "_update_blinding_factor"), key := PySem.Value.str (PySem.Str.ofString "_update_blinding_factor") 353, val := PySem.Value.ref 126 }, { hash := PySem.PyData.keyHash P (PySem.Str.ofString "__static_attributes__"), key := PySem.Value.str (PySem.Str.ofString "__static_attributes__") 358, val := PySem.Value.ref 127 }, { hash := PySem.PyData.keyHash P (PySem.Str.ofString "__dict__"), key := PySem.Value.str (PySem.Str.ofString "__dict__") 360, val := PySem.Value.ref 130 }, { hash := PySem.PyData.keyHash P (PySem.Str.ofString "__weakref__"), key := PySem.Value.str (PySem.Str.ofString "__weakref__") 362, val := PySem.Value.ref 131 }, { hash := PySem.PyData.keyHash P (PySem.Str.ofString "__doc__"), key := PySem.Value.str (PySem.Str.ofString "__doc__") 363, val := PySem.Value.none }] 4 }
noncomputable def o129 : Params → Obj := fun P => { cls := PySem.Value.type "type", data := PySem.Data.cls { name := PySem.Str.ofString "AbstractKey", bases := [PySem.Value.type "object"], mro := [PySem.Value.ref 129, PySem.Value.type "object"], ns := 128, qualname := PySem.Str.ofString "AbstractKey" }, slots := #[Option.none, Option.none, Option.some (PySem.Value.str (PySem.Str.ofString "AbstractKey") 298), Option.some (PySem.Value.str (PySem.Str.ofString "AbstractKey") 306), Option.some (PySem.Value.builtin "object.__new__"), Option.some (PySem.Value.bool Bool.true)] }
noncomputable def o130 : Params → Obj := fun P => { cls := PySem.Value.type "getset_descriptor", data := PySem.Data.fields #[PySem.Value.str (PySem.Str.ofString "__dict__") 359, PySem.Value.ref 129, PySem.Value.builtin "function.__dict__", PySem.Value.builtin "function.__dict__#set"] }
noncomputable def o131 : Params → Obj := fun P => { cls := PySem.Value.type "getset_descriptor", data := PySem.Data.fields #[PySem.Value.str (PySem.Str.ofString "__weakref__") 361, PySem.Value.ref 129, PySem.Value.builtin "ExceptionGroup.__weakref__", PySem.Value.none] }
noncomputable def o132 : Params → Obj := fun P => { cls := PySem.Value.type "super", data := PySem.Data.fields #[PySem.Value.ref 129, PySem.Value.ref 129, PySem.Value.ref 129] }
noncomputable def o133 : Params → Obj := fun P => { cls := PySem.Value.type "builtin_function_or_method", data := PySem.Data.fields #[PySem.Value.builtin "object.__init_subclass__", PySem.Value.ref 129] }
noncomputable def o3p13 : Params → Obj := fun P => { cls := PySem.Value.type "dict", data := PySem.Data.dict #[{ hash := PySem.PyData.keyHash P (PySem.Str.ofString "__name__"), key := PySem.Value.str (PySem.Str.ofString "__name__") 165, val := PySem.Value.str (PySem.Str.ofString "rsa.key") 296 }, { hash := PySem.PyData.keyHash P (PySem.Str.ofString "__doc__"), key := PySem.Value.str (PySem.Str.ofString "__doc__") 166, val := PySem.Value.none }, { hash := PySem.PyData.keyHash P (PySem.Str.ofString "__package__"), key := PySem.Value.str (PySem.Str.ofString "__package__") 167, val := PySem.Value.none }, { hash := PySem.PyData.keyHash P (PySem.Str.ofString "__loader__"), key := PySem.Value.str (PySem.Str.ofString "__loader__") 168, val := PySem.Value.builtin "__main__.__loader__#opaque" }, { hash := PySem.PyData.keyHash P (PySem.Str.ofString "__spec__"), key := PySem.Value.str (PySem.Str.ofString "__spec__") 169, val := PySem.Value.none }, { hash := PySem.PyData.keyHash P (PySem.Str.ofString "__annotations__"), key := PySem.Value.str (PySem.Str.ofString "__annotations__") 170, val := PySem.Value.ref 6 }, { hash := PySem.PyData.keyHash P (PySem.Str.ofString "__builtins__"), key := PySem.Value.str (PySem.Str.ofString "__builtins__") 171, val := PySem.Value.ref 4 }, { hash := PySem.PyData.keyHash P (PySem.Str.ofString "__file__"), key := PySem.Value.str (PySem.Str.ofString "__file__") 173, val := PySem.Value.str (PySem.Str.ofString "/claim/cut.py") 172 }, { hash := PySem.PyData.keyHash P (PySem.Str.ofString "__cached__"), key := PySem.Value.str (PySem.Str.ofString "__cached__") 174, val := PySem.Value.none }, { hash := PySem.PyData.keyHash P (PySem.Str.ofString "NotRelativePrimeError"), key := PySem.Value.str (PySem.Str.ofString "NotRelativePrimeError") 221, val := PySem.Value.ref 32 }, { hash := PySem.PyData.keyHash P (PySem.Str.ofString "extended_gcd"), key := PySem.Value.str (PySem.Str.ofString "extended_gcd") 236, val := PySem.Value.ref 42 }, { hash := PySem.PyData.keyHash P (PySem.Str.ofString "inverse"), key := PySem.Value.str (PySem.Str.ofString "inverse") 247, val := PySem.Value.ref 49 }, { hash := PySem.PyData.keyHash P (PySem.Str.ofString "assert_int"), key := PySem.Value.str (PySem.Str.ofString "assert_int") 257, val := PySem.Value.ref 56 }, { hash := PySem.PyData.keyHash P (PySem.Str.ofString "encrypt_int"), key := PySem.Value.str (PySem.Str.ofString "encrypt_int") 266, val := PySem.Value.ref 63 }, { hash := PySem.PyData.keyHash P (PySem.Str.ofString "decrypt_int"), key := PySem.Value.str (PySem.Str.ofString "decrypt_int") 276, val := PySem.Value.ref 70 }, { hash := PySem.PyData.keyHash P (PySem.Str.ofString "gcd"), key := PySem.Value.str (PySem.Str.ofString "gcd") 286, val := PySem.Value.ref 77 }, { hash := PySem.PyData.keyHash P (PySem.Str.ofString "are_relatively_prime"), key := PySem.Value.str (PySem.Str.ofString "are_relatively_prime") 295, val := PySem.Value.ref 84 }, { hash := PySem.PyData.keyHash P (PySem.Str.ofString "AbstractKey"), key := PySem.Value.str (PySem.Str.ofString "AbstractKey") 365, val := PySem.Value.ref 129 }, { hash := PySem.PyData.keyHash P (PySem.Str.ofString "PublicKey"), key := PySem.Value.str (PySem.Str.ofString "PublicKey") 398, val := PySem.Value.ref 157 }] 19 }
noncomputable def o12p13 : Params → Obj := fun P => { cls := PySem.Value.none, data := PySem.Data.fields #[PySem.Value.int 2 0, PySem.Value.int 0 0, PySem.Value.ref 20, PySem.Value.int 8 0, PySem.Value.int 0 0, PySem.Value.ref 41, PySem.Value.int 25 0, PySem.Value.int 0 0, PySem.Value.ref 48, PySem.Value.int 31 0, PySem.Value.int 0 0, PySem.Value.ref 55, PySem.Value.int 35 0, PySem.Value.int 0 0, PySem.Value.ref 62, PySem.Value.int 44 0, PySem.Value.int 0 0, PySem.Value.ref 69, PySem.Value.int 51 0, PySem.Value.int 0 0, PySem.Value.ref 76, PySem.Value.int 55 0, PySem.Value.int 0 0, PySem.Value.ref 83, PySem.Value.int 59 0, PySem.Value.int 0 0, PySem.Value.ref 90, PySem.Value.int 88 0, PySem.Value.int 0 0, PySem.Value.ref 139] }
noncomputable def o129p13 : Params → Obj := fun P => { cls := PySem.Value.type "type", data := PySem.Data.cls { name := PySem.Str.ofString "AbstractKey", bases := [PySem.Value.type "object"], mro := [PySem.Value.ref 129, PySem.Value.type "object"], ns := 128, qualname := PySem.Str.ofString "AbstractKey", subclasses := [PySem.Value.ref 157] }, slots := #[Option.none, Option.none, Option.some (PySem.Value.str (PySem.Str.ofString "AbstractKey") 298), Option.some (PySem.Value.str (PySem.Str.ofString "AbstractKey") 306), Option.some (PySem.Value.builtin "object.__new__"), Option.some (PySem.Value.bool Bool.true)] }
noncomputable def o134 : Params → Obj := fun P => { cls := PySem.Value.type "tuple", data := PySem.Data.seq #[PySem.Value.ref 129] }
noncomputable def o135 : Params → Obj := fun P => { cls := PySem.Value.type "builtin_function_or_method", data := PySem.Data.fields #[PySem.Value.builtin "type.__prepare__", PySem.Value.type "type"] }
noncomputable def o136 : Params → Obj := fun P => { cls := PySem.Value.type "dict", data := PySem.Data.dict #[{ hash := PySem.PyData.keyHash P (PySem.Str.ofString "__module__"), key := PySem.Value.str (PySem.Str.ofString "__module__") 373, val := PySem.Value.str (PySem.Str.ofString "rsa.key") 296 }, { hash := PySem.PyData.keyHash P (PySem.Str.ofString "__qualname__"), key := PySem.Value.str (PySem.Str.ofString "__qualname__") 375, val := PySem.Value.str (PySem.Str.ofString "PublicKey") 374 }, { hash := PySem.PyData.keyHash P (PySem.Str.ofString "__firstlineno__"), key := PySem.Value.str (PySem.Str.ofString "__firstlineno__") 377, val := PySem.Value.int 88 376 }, { hash := PySem.PyData.keyHash P (PySem.Str.ofString "__eq__"), key := PySem.Value.str (PySem.Str.ofString "__eq__") 385, val := PySem.Value.ref 147 }, { hash := PySem.PyData.keyHash P (PySem.Str.ofString "__ne__"), key := PySem.Value.str (PySem.Str.ofString "__ne__") 393, val := PySem.Value.ref 154 }, { hash := PySem.PyData.keyHash P (PySem.Str.ofString "__static_attributes__"), key := PySem.Value.str (PySem.Str.ofString "__static_attributes__") 394, val := PySem.Value.ref 155 }] 6 }
noncomputable def o137 : Params → Obj := fun P => { cls := PySem.Value.type "tuple", data := PySem.Data.seq #[] }
noncomputable def o138 : Params → Obj := fun P => { cls := PySem.Value.none, data := PySem.Data.fields #[PySem.Value.int 90 0, PySem.Value.int 4 0, PySem.Value.ref 146, PySem.Value.int 97 0, PySem.Value.int 4 0, PySem.Value.ref 153] }
noncomputable def o139 : Params → Obj := fun P => { cls := PySem.Value.type "code", data := PySem.Data.fields #[PySem.Value.str (PySem.Str.ofString "PublicKey") 368, PySem.Value.str (PySem.Str.ofString "PublicKey") 369, PySem.Value.str (PySem.Str.ofString "/claim/cut.py") 370, PySem.Value.int 88 0, PySem.Value.int 0 0, PySem.Value.int 0 0, PySem.Value.int 0 0, PySem.Value.int 0 0, PySem.Value.ref 137, PySem.Value.bool Bool.false, PySem.Value.int 181 0, PySem.Value.ref 138, PySem.Value.none, PySem.Value.none, PySem.Value.none, PySem.Value.none, PySem.Value.int 371 0, PySem.Value.int 88 0, PySem.Value.str (PySem.Str.ofString "/claim/cut.py") 372] }
noncomputable def o140 : Params → Obj := fun P => { cls := PySem.Value.type "frame", slots := #[Option.some (PySem.Value.ref 139), Option.some (PySem.Value.ref 3), Option.some (PySem.Value.ref 136), Option.none, Option.some (PySem.Value.str (PySem.Str.ofString "rsa.key") 296), Option.none, Option.some (PySem.Value.ref 0)] }
noncomputable def o141 : Params → Obj := fun P => { cls := PySem.Value.type "tuple", data := PySem.Data.seq #[] }
noncomputable def o142 : Params → Obj := fun P => { cls := PySem.Value.none, data := PySem.Data.fields #[] }
noncomputable def o143 : Params → Obj := fun P => { cls := PySem.Value.type "tuple", data := PySem.Data.seq #[PySem.Value.str (PySem.Str.ofString "self") 381, PySem.Value.str (PySem.Str.ofString "other") 382] }
noncomputable def o144 : Params → Obj := fun P => { cls := PySem.Value.type "tuple", data := PySem.Data.seq #[] }
noncomputable def o145 : Params → Obj := fun P => { cls := PySem.Value.none, data := PySem.Data.func { name := PySem.Str.ofString "__eq__", qualname := PySem.Str.ofString "PublicKey.__eq__", params := (fdA (nthS (fdB (nthS PP.main.body 13)) 0)), body := PySem.FuncBody.stmts (fdB (nthS (fdB (nthS PP.main.body 13)) 0)), scope := (fdS (nthS (fdB (nthS PP.main.body 13)) 0)), globals := 0, closure := [], defaults := PySem.Value.none, kwdefaults := PySem.Value.none } }
noncomputable def o146 : Params → Obj := fun P => { cls := PySem.Value.type "code", data := PySem.Data.fields #[PySem.Value.str (PySem.Str.ofString "__eq__") 378, PySem.Value.str (PySem.Str.ofString "PublicKey.__eq__") 379, PySem.Value.str (PySem.Str.ofString "/claim/cut.py") 380, PySem.Value.int 90 0, PySem.Value.int 2 0, PySem.Value.int 0 0, PySem.Value.int 0 0, PySem.Value.int 3 0, PySem.Value.ref 141, PySem.Value.bool Bool.true, PySem.Value.int 181 0, PySem.Value.ref 142, PySem.Value.none, PySem.Value.ref 143, PySem.Value.ref 144, PySem.Value.ref 145, PySem.Value.int 383 0, PySem.Value.int 90 0, PySem.Value.str (PySem.Str.ofString "/claim/cut.py") 384] }
noncomputable def o147 : Params → Obj := fun P => { cls := PySem.Value.type "function", data := PySem.Data.func { name := PySem.Str.ofString "__eq__", qualname := PySem.Str.ofString "PublicKey.__eq__", params := (fdA (nthS (fdB (nthS PP.main.body 13)) 0)), body := PySem.FuncBody.stmts (fdB (nthS (fdB (nthS PP.main.body 13)) 0)), scope := (fdS (nthS (fdB (nthS PP.main.body 13)) 0)), globals := 3, closure := [], defaults := PySem.Value.none, kwdefaults := PySem.Value.none, pyModule := PySem.Value.str (PySem.Str.ofString "rsa.key") 296, code := PySem.Value.ref 146 } }
noncomputable def o148 : Params → Obj := fun P => { cls := PySem.Value.type "tuple", data := PySem.Data.seq #[] }
noncomputable def o149 : Params → Obj := fun P => { cls := PySem.Value.none, data := PySem.Data.fields #[] }
noncomputable def o150 : Params → Obj := fun P => { cls := PySem.Value.type "tuple", data := PySem.Data.seq #[PySem.Value.str (PySem.Str.ofString "self") 389, PySem.Value.str (PySem.Str.ofString "other") 390] }
noncomputable def o151 : Params → Obj := fun P => { cls := PySem.Value.type "tuple", data := PySem.Data.seq #[] }
noncomputable def o152 : Params → Obj := fun P => { cls := PySem.Value.none, data := PySem.Data.func { name := PySem.Str.ofString "__ne__", qualname := PySem.Str.ofString "PublicKey.__ne__", params := (fdA (nthS (fdB (nthS PP.main.body 13)) 1)), body := PySem.FuncBody.stmts (fdB (nthS (fdB (nthS PP.main.body 13)) 1)), scope := (fdS (nthS (fdB (nthS PP.main.body 13)) 1)), globals := 0, closure := [], defaults := PySem.Value.none, kwdefaults := PySem.Value.none } }
noncomputable def o153 : Params → Obj := fun P => { cls := PySem.Value.type "code", data := PySem.Data.fields #[PySem.Value.str (PySem.Str.ofString "__ne__") 386, PySem.Value.str (PySem.Str.ofString "PublicKey.__ne__") 387, PySem.Value.str (PySem.Str.ofString "/claim/cut.py") 388, PySem.Value.int 97 0, PySem.Value.int 2 0, PySem.Value.int 0 0, PySem.Value.int 0 0, PySem.Value.int 3 0, PySem.Value.ref 148, PySem.Value.bool Bool.true, PySem.Value.int 181 0, PySem.Value.ref 149, PySem.Value.none, PySem.Value.ref 150, PySem.Value.ref 151, PySem.Value.ref 152, PySem.Value.int 391 0, PySem.Value.int 97 0, PySem.Value.str (PySem.Str.ofString "/claim/cut.py") 392] }
noncomputable def o154 : Params → Obj := fun P => { cls := PySem.Value.type "function", data := PySem.Data.func { name := PySem.Str.ofString "__ne__", qualname := PySem.Str.ofString "PublicKey.__ne__", params := (fdA (nthS (fdB (nthS PP.main.body 13)) 1)), body := PySem.FuncBody.stmts (fdB (nthS (fdB (nthS PP.main.body 13)) 1)), scope := (fdS (nthS (fdB (nthS PP.main.body 13)) 1)), globals := 3, closure := [], defaults := PySem.Value.none, kwdefaults := PySem.Value.none, pyModule := PySem.Value.str (PySem.Str.ofString "rsa.key") 296, code := PySem.Value.ref 153 } }
noncomputable def o155 : Params → Obj := fun P => { cls := PySem.Value.type "tuple", data := PySem.Data.seq #[] }
noncomputable def o156 : Params → Obj := fun P => { cls := PySem.Value.type "dict", data := PySem.Data.dict #[{ hash := PySem.PyData.keyHash P (PySem.Str.ofString "__module__"), key := PySem.Value.str (PySem.Str.ofString "__module__") 373, val := PySem.Value.str (PySem.Str.ofString "rsa.key") 296 }, { hash := PySem.PyData.keyHash P (PySem.Str.ofString "__firstlineno__"), key := PySem.Value.str (PySem.Str.ofString "__firstlineno__") 377, val := PySem.Value.int 88 376 }, { hash := PySem.PyData.keyHash P (PySem.Str.ofString "__eq__"), key := PySem.Value.str (PySem.Str.ofString "__eq__") 385, val := PySem.Value.ref 147 }, { hash := PySem.PyData.keyHash P (PySem.Str.ofString "__ne__"), key := PySem.Value.str (PySem.Str.ofString "__ne__") 393, val := PySem.Value.ref 154 }, { hash := PySem.PyData.keyHash P (PySem.Str.ofString "__static_attributes__"), key := PySem.Value.str (PySem.Str.ofString "__static_attributes__") 394, val := PySem.Value.ref 155 }, { hash := PySem.PyData.keyHash P (PySem.Str.ofString "__doc__"), key := PySem.Value.str (PySem.Str.ofString "__doc__") 395, val := PySem.Value.none }, { hash := PySem.PyData.keyHash P (PySem.Str.ofString "__hash__"), key := PySem.Value.str (PySem.Str.ofString "__hash__") 396, val := PySem.Value.none }] 3 }
noncomputable def o157 : Params → Obj := fun P => { cls := PySem.Value.type "type", data := PySem.Data.cls { name := PySem.Str.ofString "PublicKey", bases := [PySem.Value.ref 129], mro := [PySem.Value.ref 157, PySem.Value.ref 129, PySem.Value.type "object"], ns := 156, qualname := PySem.Str.ofString "PublicKey" }, slots := #[Option.some (PySem.Value.ref 134), Option.none, Option.some (PySem.Value.str (PySem.Str.ofString "PublicKey") 366), Option.some (PySem.Value.str (PySem.Str.ofString "PublicKey") 374), Option.some (PySem.Value.builtin "object.__new__"), Option.some (PySem.Value.bool Bool.true)] }
noncomputable def o158 : Params → Obj := fun P => { cls := PySem.Value.type "super", data := PySem.Data.fields #[PySem.Value.ref 157, PySem.Value.ref 157, PySem.Value.ref 157] }
noncomputable def o159 : Params → Obj := fun P => { cls := PySem.Value.type "builtin_function_or_method", data := PySem.Data.fields #[PySem.Value.builtin "object.__init_subclass__", PySem.Value.ref 157] }
noncomputable def o129p14 : Params → Obj := fun P => { cls := PySem.Value.type "type", data := PySem.Data.cls { name := PySem.Str.ofString "AbstractKey", bases := [PySem.Value.type "object"], mro := [PySem.Value.ref 129, PySem.Value.type "object"], ns := 128, qualname := PySem.Str.ofString "AbstractKey", subclasses := [PySem.Value.ref 157, PySem.Value.ref 204] }, slots := #[Option.none, Option.none, Option.some (PySem.Value.str (PySem.Str.ofString "AbstractKey") 298), Option.some (PySem.Value.str (PySem.Str.ofString "AbstractKey") 306), Option.some (PySem.Value.builtin "object.__new__"), Option.some (PySem.Value.bool Bool.true)] }
noncomputable def o160 : Params → Obj := fun P => { cls := PySem.Value.type "tuple", data := PySem.Data.seq #[PySem.Value.ref 129] }
noncomputable def o161 : Params → Obj := fun P => { cls := PySem.Value.type "builtin_function_or_method", data := PySem.Data.fields #[PySem.Value.builtin "type.__prepare__", PySem.Value.type "type"] }
noncomputable def o162 : Params → Obj := fun P => { cls := PySem.Value.type "dict", data := PySem.Data.dict #[{ hash := PySem.PyData.keyHash P (PySem.Str.ofString "__module__"), key := PySem.Value.str (PySem.Str.ofString "__module__") 406, val := PySem.Value.str (PySem.Str.ofString "rsa.key") 296 }, { hash := PySem.PyData.keyHash P (PySem.Str.ofString "__qualname__"), key := PySem.Value.str (PySem.Str.ofString "__qualname__") 408, val := PySem.Value.str (PySem.Str.ofString "PrivateKey") 407 }, { hash := PySem.PyData.keyHash P (PySem.Str.ofString "__firstlineno__"), key := PySem.Value.str (PySem.Str.ofString "__firstlineno__") 410, val := PySem.Value.int 99 409 }, { hash := PySem.PyData.keyHash P (PySem.Str.ofString "__init__"), key := PySem.Value.str (PySem.Str.ofString "__init__") 422, val := PySem.Value.ref 173 }, { hash := PySem.PyData.keyHash P (PySem.Str.ofString "__eq__"), key := PySem.Value.str (PySem.Str.ofString "__eq__") 430, val := PySem.Value.ref 180 }, { hash := PySem.PyData.keyHash P (PySem.Str.ofString "__ne__"), key := PySem.Value.str (PySem.Str.ofString "__ne__") 438, val := PySem.Value.ref 187 }, { hash := PySem.PyData.keyHash P (PySem.Str.ofString "blinded_decrypt"), key := PySem.Value.str (PySem.Str.ofString "blinded_decrypt") 452, val := PySem.Value.ref 194 }, { hash := PySem.PyData.keyHash P (PySem.Str.ofString "blinded_encrypt"), key := PySem.Value.str (PySem.Str.ofString "blinded_encrypt") 463, val := PySem.Value.ref 201 }, { hash := PySem.PyData.keyHash P (PySem.Str.ofString "__static_attributes__"), key := PySem.Value.str (PySem.Str.ofString "__static_attributes__") 470, val := PySem.Value.ref 202 }] 9 }
noncomputable def o163 : Params → Obj := fun P => { cls := PySem.Value.type "tuple", data := PySem.Data.seq #[] }
noncomputable def o164 : Params → Obj := fun P => { cls := PySem.Value.none, data := PySem.Data.fields #[PySem.Value.int 101 0, PySem.Value.int 4 0, PySem.Value.ref 172, PySem.Value.int 110 0, PySem.Value.int 4 0, PySem.Value.ref 179, PySem.Value.int 117 0, PySem.Value.int 4 0, PySem.Value.ref 186, PySem.Value.int 120 0, PySem.Value.int 4 0, PySem.Value.ref 193, PySem.Value.int 128 0, PySem.Value.int 4 0, PySem.Value.ref 200] }
noncomputable def o165 : Params → Obj := fun P => { cls := PySem.Value.type "code", data := PySem.Data.fields #[PySem.Value.str (PySem.Str.ofString "PrivateKey") 401, PySem.Value.str (PySem.Str.ofString "PrivateKey") 402, PySem.Value.str (PySem.Str.ofString "/claim/cut.py") 403, PySem.Value.int 99 0, PySem.Value.int 0 0, PySem.Value.int 0 0, PySem.Value.int 0 0, PySem.Value.int 0 0, PySem.Value.ref 163, PySem.Value.bool Bool.false, PySem.Value.int 181 0, PySem.Value.ref 164, PySem.Value.none, PySem.Value.none, PySem.Value.none, PySem.Value.none, PySem.Value.int 404 0, PySem.Value.int 99 0, PySem.Value.str (PySem.Str.ofString "/claim/cut.py") 405] }
noncomputable def o166 : Params → Obj := fun P => { cls := PySem.Value.type "frame", slots := #[Option.some (PySem.Value.ref 165), Option.some (PySem.Value.ref 3), Option.some (PySem.Value.ref 162), Option.none, Option.some (PySem.Value.str (PySem.Str.ofString "rsa.key") 296), Option.none, Option.some (PySem.Value.ref 0)] }
noncomputable def o167 : Params → Obj := fun P => { cls := PySem.Value.type "tuple", data := PySem.Data.seq #[] }
noncomputable def o168 : Params → Obj := fun P => { cls := PySem.Value.none, data := PySem.Data.fields #[] }
noncomputable def o169 : Params → Obj := fun P => { cls := PySem.Value.type "tuple", data := PySem.Data.seq #[PySem.Value.str (PySem.Str.ofString "self") 414, PySem.Value.str (PySem.Str.ofString "n") 415, PySem.Value.str (PySem.Str.ofString "e") 416, PySem.Value.str (PySem.Str.ofString "d") 417, PySem.Value.str (PySem.Str.ofString "p") 418, PySem.Value.str (PySem.Str.ofString "q") 419] }
noncomputable def o170 : Params → Obj := fun P => { cls := PySem.Value.type "tuple", data := PySem.Data.seq #[] }
noncomputable def o171 : Params → Obj := fun P => { cls := PySem.Value.none, data := PySem.Data.func { name := PySem.Str.ofString "__init__", qualname := PySem.Str.ofString "PrivateKey.__init__", params := (fdA (nthS (fdB (nthS PP.main.body 14)) 0)), body := PySem.FuncBody.stmts (fdB (nthS (fdB (nthS PP.main.body 14)) 0)), scope := (fdS (nthS (fdB (nthS PP.main.body 14)) 0)), globals := 0, closure := [], defaults := PySem.Value.none, kwdefaults := PySem.Value.none } }
noncomputable def o172 : Params → Obj := fun P => { cls := PySem.Value.type "code", data := PySem.Data.fields #[PySem.Value.str (PySem.Str.ofString "__init__") 411, PySem.Value.str (PySem.Str.ofString "PrivateKey.__init__") 412, PySem.Value.str (PySem.Str.ofString "/claim/cut.py") 413, PySem.Value.int 101 0, PySem.Value.int 6 0, PySem.Value.int 0 0, PySem.Value.int 0 0, PySem.Value.int 3 0, PySem.Value.ref 167, PySem.Value.bool Bool.true, PySem.Value.int 181 0, PySem.Value.ref 168, PySem.Value.none, PySem.Value.ref 169, PySem.Value.ref 170, PySem.Value.ref 171, PySem.Value.int 420 0, PySem.Value.int 101 0, PySem.Value.str (PySem.Str.ofString "/claim/cut.py") 421] }
noncomputable def o173 : Params → Obj := fun P => { cls := PySem.Value.type "function", data := PySem.Data.func { name := PySem.Str.ofString "__init__", qualname := PySem.Str.ofString "PrivateKey.__init__", params := (fdA (nthS (fdB (nthS PP.main.body 14)) 0)), body := PySem.FuncBody.stmts (fdB (nthS (fdB (nthS PP.main.body 14)) 0)), scope := (fdS (nthS (fdB (nthS PP.main.body 14)) 0)), globals := 3, closure := [], defaults := PySem.Value.none, kwdefaults := PySem.Value.none, pyModule := PySem.Value.str (PySem.Str.ofString "rsa.key") 296, code := PySem.Value.ref 172 } }
noncomputable def o174 : Params → Obj := fun P => { cls := PySem.Value.type "tuple", data := PySem.Data.seq #[] }
noncomputable def o175 : Params → Obj := fun P => { cls := PySem.Value.none, data := PySem.Data.fields #[] }
noncomputable def o176 : Params → Obj := fun P => { cls := PySem.Value.type "tuple", data := PySem.Data.seq #[PySem.Value.str (PySem.Str.ofString "self") 426, PySem.Value.str (PySem.Str.ofString "other") 427] }
noncomputable def o177 : Params → Obj := fun P => { cls := PySem.Value.type "tuple", data := PySem.Data.seq #[] }
noncomputable def o178 : Params → Obj := fun P => { cls := PySem.Value.none, data := PySem.Data.func { name := PySem.Str.ofString "__eq__", qualname := PySem.Str.ofString "PrivateKey.__eq__", params := (fdA (nthS (fdB (nthS PP.main.body 14)) 1)), body := PySem.FuncBody.stmts (fdB (nthS (fdB (nthS PP.main.body 14)) 1)), scope := (fdS (nthS (fdB (nthS PP.main.body 14)) 1)), globals := 0, closure := [], defaults := PySem.Value.none, kwdefaults := PySem.Value.none } }
noncomputable def o179 : Params → Obj := fun P => { cls := PySem.Value.type "code", data := PySem.Data.fields #[PySem.Value.str (PySem.Str.ofString "__eq__") 423, PySem.Value.str (PySem.Str.ofString "PrivateKey.__eq__") 424, PySem.Value.str (PySem.Str.ofString "/claim/cut.py") 425, PySem.Value.int 110 0, PySem.Value.int 2 0, PySem.Value.int 0 0, PySem.Value.int 0 0, PySem.Value.int 3 0, PySem.Value.ref 174, PySem.Value.bool Bool.true, PySem.Value.int 181 0, PySem.Value.ref 175, PySem.Value.none, PySem.Value.ref 176, PySem.Value.ref 177, PySem.Value.ref 178, PySem.Value.int 428 0, PySem.Value.int 110 0, PySem.Value.str (PySem.Str.ofString "/claim/cut.py") 429] }
noncomputable def o180 : Params → Obj := fun P => { cls := PySem.Value.type "function", data := PySem.Data.func { name := PySem.Str.ofString "__eq__", qualname := PySem.Str.ofString "PrivateKey.__eq__", params := (fdA (nthS (fdB (nthS PP.main.body 14)) 1)), body := PySem.FuncBody.stmts (fdB (nthS (fdB (nthS PP.main.body 14)) 1)), scope := (fdS (nthS (fdB (nthS PP.main.body 14)) 1)), globals := 3, closure := [], defaults := PySem.Value.none, kwdefaults := PySem.Value.none, pyModule := PySem.Value.str (PySem.Str.ofString "rsa.key") 296, code := PySem.Value.ref 179 } }
noncomputable def o181 : Params → Obj := fun P => { cls := PySem.Value.type "tuple", data := PySem.Data.seq #[] }
noncomputable def o182 : Params → Obj := fun P => { cls := PySem.Value.none, data := PySem.Data.fields #[] }
noncomputable def o183 : Params → Obj := fun P => { cls := PySem.Value.type "tuple", data := PySem.Data.seq #[PySem.Value.str (PySem.Str.ofString "self") 434, PySem.Value.str (PySem.Str.ofString "other") 435] }
noncomputable def o184 : Params → Obj := fun P => { cls := PySem.Value.type "tuple", data := PySem.Data.seq #[] }
noncomputable def o185 : Params → Obj := fun P => { cls := PySem.Value.none, data := PySem.Data.func { name := PySem.Str.ofString "__ne__", qualname := PySem.Str.ofString "PrivateKey.__ne__", params := (fdA (nthS (fdB (nthS PP.main.body 14)) 2)), body := PySem.FuncBody.stmts (fdB (nthS (fdB (nthS PP.main.body 14)) 2)), scope := (fdS (nthS (fdB (nthS PP.main.body 14)) 2)), globals := 0, closure := [], defaults := PySem.Value.none, kwdefaults := PySem.Value.none } }
noncomputable def o186 : Params → Obj := fun P => { cls := PySem.Value.type "code", data := PySem.Data.fields #[PySem.Value.str (PySem.Str.ofString "__ne__") 431, PySem.Value.str (PySem.Str.ofString "PrivateKey.__ne__") 432, PySem.Value.str (PySem.Str.ofString "/claim/cut.py") 433, PySem.Value.int 117 0, PySem.Value.int 2 0, PySem.Value.int 0 0, PySem.Value.int 0 0, PySem.Value.int 3 0, PySem.Value.ref 181, PySem.Value.bool Bool.true, PySem.Value.int 181 0, PySem.Value.ref 182, PySem.Value.none, PySem.Value.ref 183, PySem.Value.ref 184, PySem.Value.ref 185, PySem.Value.int 436 0, PySem.Value.int 117 0, PySem.Value.str (PySem.Str.ofString "/claim/cut.py") 437] }
noncomputable def o187 : Params → Obj := fun P => { cls := PySem.Value.type "function", data := PySem.Data.func { name := PySem.Str.ofString "__ne__", qualname := PySem.Str.ofString "PrivateKey.__ne__", params := (fdA (nthS (fdB (nthS PP.main.body 14)) 2)), body := PySem.FuncBody.stmts (fdB (nthS (fdB (nthS PP.main.body 14)) 2)), scope := (fdS (nthS (fdB (nthS PP.main.body 14)) 2)), globals := 3, closure := [], defaults := PySem.Value.none, kwdefaults := PySem.Value.none, pyModule := PySem.Value.str (PySem.Str.ofString "rsa.key") 296, code := PySem.Value.ref 186 } }
noncomputable def o188 : Params → Obj := fun P => { cls := PySem.Value.type "tuple", data := PySem.Data.seq #[] }
noncomputable def o189 : Params → Obj := fun P => { cls := PySem.Value.none, data := PySem.Data.fields #[] }
noncomputable def o190 : Params → Obj := fun P => { cls := PySem.Value.type "tuple", data := PySem.Data.seq #[PySem.Value.str (PySem.Str.ofString "self") 442, PySem.Value.str (PySem.Str.ofString "encrypted") 443, PySem.Value.str (PySem.Str.ofString "blinded") 444, PySem.Value.str (PySem.Str.ofString "blindfac_inverse") 445, PySem.Value.str (PySem.Str.ofString "s1") 446, PySem.Value.str (PySem.Str.ofString "s2") 447, PySem.Value.str (PySem.Str.ofString "h") 448, PySem.Value.str (PySem.Str.ofString "decrypted") 449] }
noncomputable def o191 : Params → Obj := fun P => { cls := PySem.Value.type "tuple", data := PySem.Data.seq #[] }
noncomputable def o192 : Params → Obj := fun P => { cls := PySem.Value.none, data := PySem.Data.func { name := PySem.Str.ofString "blinded_decrypt", qualname := PySem.Str.ofString "PrivateKey.blinded_decrypt", params := (fdA (nthS (fdB (nthS PP.main.body 14)) 3)), body := PySem.FuncBody.stmts (fdB (nthS (fdB (nthS PP.main.body 14)) 3)), scope := (fdS (nthS (fdB (nthS PP.main.body 14)) 3)), globals := 0, closure := [], defaults := PySem.Value.none, kwdefaults := PySem.Value.none } }
noncomputable def o193 : Params → Obj := fun P => { cls := PySem.Value.type "code", data := PySem.Data.fields #[PySem.Value.str (PySem.Str.ofString "blinded_decrypt") 439, PySem.Value.str (PySem.Str.ofString "PrivateKey.blinded_decrypt") 440, PySem.Value.str (PySem.Str.ofString "/claim/cut.py") 441, PySem.Value.int 120 0, PySem.Value.int 2 0, PySem.Value.int 0 0, PySem.Value.int 0 0, PySem.Value.int 3 0, PySem.Value.ref 188, PySem.Value.bool Bool.true, PySem.Value.int 181 0, PySem.Value.ref 189, PySem.Value.none, PySem.Value.ref 190, PySem.Value.ref 191, PySem.Value.ref 192, PySem.Value.int 450 0, PySem.Value.int 120 0, PySem.Value.str (PySem.Str.ofString "/claim/cut.py") 451] }
noncomputable def o194 : Params → Obj := fun P => { cls := PySem.Value.type "function", data := PySem.Data.func { name := PySem.Str.ofString "blinded_decrypt", qualname := PySem.Str.ofString "PrivateKey.blinded_decrypt", params := (fdA (nthS (fdB (nthS PP.main.body 14)) 3)), body := PySem.FuncBody.stmts (fdB (nthS (fdB (nthS PP.main.body 14)) 3)), scope := (fdS (nthS (fdB (nthS PP.main.body 14)) 3)), globals := 3, closure := [], defaults := PySem.Value.none, kwdefaults := PySem.Value.none, pyModule := PySem.Value.str (PySem.Str.ofString "rsa.key") 296, code := PySem.Value.ref 193 } }
noncomputable def o195 : Params → Obj := fun P => { cls := PySem.Value.type "tuple", data := PySem.Data.seq #[] }
noncomputable def o196 : Params → Obj := fun P => { cls := PySem.Value.none, data := PySem.Data.fields #[] }
noncomputable def o197 : Params → Obj := fun P => { cls := PySem.Value.type "tuple", data := PySem.Data.seq #[PySem.Value.str (PySem.Str.ofString "self") 456, PySem.Value.str (PySem.Str.ofString "message") 457, PySem.Value.str (PySem.Str.ofString "blinded") 458, PySem.Value.str (PySem.Str.ofString "blindfac_inverse") 459, PySem.Value.str (PySem.Str.ofString "encrypted") 460] }
noncomputable def o198 : Params → Obj := fun P => { cls := PySem.Value.type "tuple", data := PySem.Data.seq #[] }
noncomputable def o199 : Params → Obj := fun P => { cls := PySem.Value.none, data := PySem.Data.func { name := PySem.Str.ofString "blinded_encrypt", qualname := PySem.Str.ofString "PrivateKey.blinded_encrypt", params := (fdA (nthS (fdB (nthS PP.main.body 14)) 4)), body := PySem.FuncBody.stmts (fdB (nthS (fdB (nthS PP.main.body 14)) 4)), scope := (fdS (nthS (fdB (nthS PP.main.body 14)) 4)), globals := 0, closure := [], defaults := PySem.Value.none, kwdefaults := PySem.Value.none } }
noncomputable def o200 : Params → Obj := fun P => { cls := PySem.Value.type "code", data := PySem.Data.fields #[PySem.Value.str (PySem.Str.ofString "blinded_encrypt") 453, PySem.Value.str (PySem.Str.ofString "PrivateKey.blinded_encrypt") 454, PySem.Value.str (PySem.Str.ofString "/claim/cut.py") 455, PySem.Value.int 128 0, PySem.Value.int 2 0, PySem.Value.int 0 0, PySem.Value.int 0 0, PySem.Value.int 3 0, PySem.Value.ref 195, PySem.Value.bool Bool.true, PySem.Value.int 181 0, PySem.Value.ref 196, PySem.Value.none, PySem.Value.ref 197, PySem.Value.ref 198, PySem.Value.ref 199, PySem.Value.int 461 0, PySem.Value.int 128 0, PySem.Value.str (PySem.Str.ofString "/claim/cut.py") 462] }
noncomputable def o201 : Params → Obj := fun P => { cls := PySem.Value.type "function", data := PySem.Data.func { name := PySem.Str.ofString "blinded_encrypt", qualname := PySem.Str.ofString "PrivateKey.blinded_encrypt", params := (fdA (nthS (fdB (nthS PP.main.body 14)) 4)), body := PySem.FuncBody.stmts (fdB (nthS (fdB (nthS PP.main.body 14)) 4)), scope := (fdS (nthS (fdB (nthS PP.main.body 14)) 4)), globals := 3, closure := [], defaults := PySem.Value.none, kwdefaults := PySem.Value.none, pyModule := PySem.Value.str (PySem.Str.ofString "rsa.key") 296, code := PySem.Value.ref 200 } }
noncomputable def o202 : Params → Obj := fun P => { cls := PySem.Value.type "tuple", data := PySem.Data.seq #[PySem.Value.str (PySem.Str.ofString "coef") 464, PySem.Value.str (PySem.Str.ofString "d") 465, PySem.Value.str (PySem.Str.ofString "exp1") 466, PySem.Value.str (PySem.Str.ofString "exp2") 467, PySem.Value.str (PySem.Str.ofString "p") 468, PySem.Value.str (PySem.Str.ofString "q") 469] }
noncomputable def o203 : Params → Obj := fun P => { cls := PySem.Value.type "dict", data := PySem.Data.dict #[{ hash := PySem.PyData.keyHash P (PySem.Str.ofString "__module__"), key := PySem.Value.str (PySem.Str.ofString "__module__") 406, val := PySem.Value.str (PySem.Str.ofString "rsa.key") 296 }, { hash := PySem.PyData.keyHash P (PySem.Str.ofString "__firstlineno__"), key := PySem.Value.str (PySem.Str.ofString "__firstlineno__") 410, val := PySem.Value.int 99 409 }, { hash := PySem.PyData.keyHash P (PySem.Str.ofString "__init__"), key := PySem.Value.str (PySem.Str.ofString "__init__") 422, val := PySem.Value.ref 173 }, { hash := PySem.PyData.keyHash P (PySem.Str.ofString "__eq__"), key := PySem.Value.str (PySem.Str.ofString "__eq__") 430, val := PySem.Value.ref 180 }, { hash := PySem.PyData.keyHash P (PySem.Str.ofString "__ne__"), key := PySem.Value.str (PySem.Str.ofString "__ne__") 438, val := PySem.Value.ref 187 }, { hash := PySem.PyData.keyHash P (PySem.Str.ofString "blinded_decrypt"), key := PySem.Value.str (PySem.Str.ofString "blinded_decrypt") 452, val := PySem.Value.ref 194 }, { hash := PySem.PyData.keyHash P (PySem.Str.ofString "blinded_encrypt"), key := PySem.Value.str (PySem.Str.ofString "blinded_encrypt") 463, val := PySem.Value.ref 201 }, { hash := PySem.PyData.keyHash P (PySem.Str.ofString "__static_attributes__"), key := PySem.Value.str (PySem.Str.ofString "__static_attributes__") 470, val := PySem.Value.ref 202 }, { hash := PySem.PyData.keyHash P (PySem.Str.ofString "__doc__"), key := PySem.Value.str (PySem.Str.ofString "__doc__") 471, val := PySem.Value.none }, { hash := PySem.PyData.keyHash P (PySem.Str.ofString "__hash__"), key := PySem.Value.str (PySem.Str.ofString "__hash__") 472, val := PySem.Value.none }] 3 }
noncomputable def o204 : Params → Obj := fun P => { cls := PySem.Value.type "type", data := PySem.Data.cls { name := PySem.Str.ofString "PrivateKey", bases := [PySem.Value.ref 129], mro := [PySem.Value.ref 204, PySem.Value.ref 129, PySem.Value.type "object"], ns := 203, qualname := PySem.Str.ofString "PrivateKey" }, slots := #[Option.some (PySem.Value.ref 160), Option.none, Option.some (PySem.Value.str (PySem.Str.ofString "PrivateKey") 399), Option.some (PySem.Value.str (PySem.Str.ofString "PrivateKey") 407), Option.some (PySem.Value.builtin "object.__new__"), Option.some (PySem.Value.bool Bool.true)] }
noncomputable def o205 : Params → Obj := fun P => { cls := PySem.Value.type "super", data := PySem.Data.fields #[PySem.Value.ref 204, PySem.Value.ref 204, PySem.Value.ref 204] }
noncomputable def o206 : Params → Obj := fun P => { cls := PySem.Value.type "builtin_function_or_method", data := PySem.Data.fields #[PySem.Value.builtin "object.__init_subclass__", PySem.Value.ref 204] }
noncomputable def o12p15 : Params → Obj := fun P => { cls := PySem.Value.none, data := PySem.Data.fields #[PySem.Value.int 2 0, PySem.Value.int 0 0, PySem.Value.ref 20, PySem.Value.int 8 0, PySem.Value.int 0 0, PySem.Value.ref 41, PySem.Value.int 25 0, PySem.Value.int 0 0, PySem.Value.ref 48, PySem.Value.int 31 0, PySem.Value.int 0 0, PySem.Value.ref 55, PySem.Value.int 35 0, PySem.Value.int 0 0, PySem.Value.ref 62, PySem.Value.int 44 0, PySem.Value.int 0 0, PySem.Value.ref 69, PySem.Value.int 51 0, PySem.Value.int 0 0, PySem.Value.ref 76, PySem.Value.int 55 0, PySem.Value.int 0 0, PySem.Value.ref 83, PySem.Value.int 59 0, PySem.Value.int 0 0, PySem.Value.ref 90, PySem.Value.int 88 0, PySem.Value.int 0 0, PySem.Value.ref 139, PySem.Value.int 99 0, PySem.Value.int 0 0, PySem.Value.ref 165, PySem.Value.int 132 0, PySem.Value.int 0 0, PySem.Value.ref 212] }
noncomputable def o207 : Params → Obj := fun P => { cls := PySem.Value.type "tuple", data := PySem.Data.seq #[] }
noncomputable def o208 : Params → Obj := fun P => { cls := PySem.Value.none, data := PySem.Data.fields #[] }
noncomputable def o209 : Params → Obj := fun P => { cls := PySem.Value.type "tuple", data := PySem.Data.seq #[PySem.Value.str (PySem.Str.ofString "p") 478, PySem.Value.str (PySem.Str.ofString "q") 479, PySem.Value.str (PySem.Str.ofString "exponent") 480, PySem.Value.str (PySem.Str.ofString "phi_n") 481, PySem.Value.str (PySem.Str.ofString "d") 482] }
noncomputable def o210 : Params → Obj := fun P => { cls := PySem.Value.type "tuple", data := PySem.Data.seq #[] }
noncomputable def o211 : Params → Obj := fun P => { cls := PySem.Value.none, data := PySem.Data.func { name := PySem.Str.ofString "calculate_keys_custom_exponent", qualname := PySem.Str.ofString "calculate_keys_custom_exponent", params := (fdA (nthS PP.main.body 15)), body := PySem.FuncBody.stmts (fdB (nthS PP.main.body 15)), scope := (fdS (nthS PP.main.body 15)), globals := 0, closure := [], defaults := PySem.Value.none, kwdefaults := PySem.Value.none } }
noncomputable def o212 : Params → Obj := fun P => { cls := PySem.Value.type "code", data := PySem.Data.fields #[PySem.Value.str (PySem.Str.ofString "calculate_keys_custom_exponent") 475, PySem.Value.str (PySem.Str.ofString "calculate_keys_custom_exponent") 476, PySem.Value.str (PySem.Str.ofString "/claim/cut.py") 477, PySem.Value.int 132 0, PySem.Value.int 3 0, PySem.Value.int 0 0, PySem.Value.int 0 0, PySem.Value.int 3 0, PySem.Value.ref 207, PySem.Value.bool Bool.true, PySem.Value.int 181 0, PySem.Value.ref 208, PySem.Value.none, PySem.Value.ref 209, PySem.Value.ref 210, PySem.Value.ref 211, PySem.Value.int 483 0, PySem.Value.int 132 0, PySem.Value.str (PySem.Str.ofString "/claim/cut.py") 484] }
noncomputable def o213 : Params → Obj := fun P => { cls := PySem.Value.type "function", data := PySem.Data.func { name := PySem.Str.ofString "calculate_keys_custom_exponent", qualname := PySem.Str.ofString "calculate_keys_custom_exponent", params := (fdA (nthS PP.main.body 15)), body := PySem.FuncBody.stmts (fdB (nthS PP.main.body 15)), scope := (fdS (nthS PP.main.body 15)), globals := 3, closure := [], defaults := PySem.Value.none, kwdefaults := PySem.Value.none, pyModule := PySem.Value.str (PySem.Str.ofString "rsa.key") 296, code := PySem.Value.ref 212 } }
noncomputable def o3p16 : Params → Obj := fun P => { cls := PySem.Value.type "dict", data := PySem.Data.dict #[{ hash := PySem.PyData.keyHash P (PySem.Str.ofString "__name__"), key := PySem.Value.str (PySem.Str.ofString "__name__") 165, val := PySem.Value.str (PySem.Str.ofString "law_ys0001_05") 486 }, { hash := PySem.PyData.keyHash P (PySem.Str.ofString "__doc__"), key := PySem.Value.str (PySem.Str.ofString "__doc__") 166, val := PySem.Value.none }, { hash := PySem.PyData.keyHash P (PySem.Str.ofString "__package__"), key := PySem.Value.str (PySem.Str.ofString "__package__") 167, val := PySem.Value.none }, { hash := PySem.PyData.keyHash P (PySem.Str.ofString "__loader__"), key := PySem.Value.str (PySem.Str.ofString "__loader__") 168, val := PySem.Value.builtin "__main__.__loader__#opaque" }, { hash := PySem.PyData.keyHash P (PySem.Str.ofString "__spec__"), key := PySem.Value.str (PySem.Str.ofString "__spec__") 169, val := PySem.Value.none }, { hash := PySem.PyData.keyHash P (PySem.Str.ofString "__annotations__"), key := PySem.Value.str (PySem.Str.ofString "__annotations__") 170, val := PySem.Value.ref 6 }, { hash := PySem.PyData.keyHash P (PySem.Str.ofString "__builtins__"), key := PySem.Value.str (PySem.Str.ofString "__builtins__") 171, val := PySem.Value.ref 4 }, { hash := PySem.PyData.keyHash P (PySem.Str.ofString "__file__"), key := PySem.Value.str (PySem.Str.ofString "__file__") 173, val := PySem.Value.str (PySem.Str.ofString "/claim/cut.py") 172 }, { hash := PySem.PyData.keyHash P (PySem.Str.ofString "__cached__"), key := PySem.Value.str (PySem.Str.ofString "__cached__") 174, val := PySem.Value.none }, { hash := PySem.PyData.keyHash P (PySem.Str.ofString "NotRelativePrimeError"), key := PySem.Value.str (PySem.Str.ofString "NotRelativePrimeError") 221, val := PySem.Value.ref 32 }, { hash := PySem.PyData.keyHash P (PySem.Str.ofString "extended_gcd"), key := PySem.Value.str (PySem.Str.ofString "extended_gcd") 236, val := PySem.Value.ref 42 }, { hash := PySem.PyData.keyHash P (PySem.Str.ofString "inverse"), key := PySem.Value.str (PySem.Str.ofString "inverse") 247, val := PySem.Value.ref 49 }, { hash := PySem.PyData.keyHash P (PySem.Str.ofString "assert_int"), key := PySem.Value.str (PySem.Str.ofString "assert_int") 257, val := PySem.Value.ref 56 }, { hash := PySem.PyData.keyHash P (PySem.Str.ofString "encrypt_int"), key := PySem.Value.str (PySem.Str.ofString "encrypt_int") 266, val := PySem.Value.ref 63 }, { hash := PySem.PyData.keyHash P (PySem.Str.ofString "decrypt_int"), key := PySem.Value.str (PySem.Str.ofString "decrypt_int") 276, val := PySem.Value.ref 70 }, { hash := PySem.PyData.keyHash P (PySem.Str.ofString "gcd"), key := PySem.Value.str (PySem.Str.ofString "gcd") 286, val := PySem.Value.ref 77 }, { hash := PySem.PyData.keyHash P (PySem.Str.ofString "are_relatively_prime"), key := PySem.Value.str (PySem.Str.ofString "are_relatively_prime") 295, val := PySem.Value.ref 84 }, { hash := PySem.PyData.keyHash P (PySem.Str.ofString "AbstractKey"), key := PySem.Value.str (PySem.Str.ofString "AbstractKey") 365, val := PySem.Value.ref 129 }, { hash := PySem.PyData.keyHash P (PySem.Str.ofString "PublicKey"), key := PySem.Value.str (PySem.Str.ofString "PublicKey") 398, val := PySem.Value.ref 157 }, { hash := PySem.PyData.keyHash P (PySem.Str.ofString "PrivateKey"), key := PySem.Value.str (PySem.Str.ofString "PrivateKey") 474, val := PySem.Value.ref 204 }, { hash := PySem.PyData.keyHash P (PySem.Str.ofString "calculate_keys_custom_exponent"), key := PySem.Value.str (PySem.Str.ofString "calculate_keys_custom_exponent") 485, val := PySem.Value.ref 213 }] 21 }
noncomputable def o214 : Params → Obj := fun P => { cls := PySem.Value.type "tuple", data := PySem.Data.seq #[] }
noncomputable def o215 : Params → Obj := fun P => { cls := PySem.Value.none, data := PySem.Data.fields #[] }
noncomputable def o216 : Params → Obj := fun P => { cls := PySem.Value.none, data := PySem.Data.func { name := PySem.Str.ofString "_law_state", qualname := PySem.Str.ofString "_law_state", params := (fdA (nthS PP.main.body 17)), body := PySem.FuncBody.stmts (fdB (nthS PP.main.body 17)), scope := (fdS (nthS PP.main.body 17)), globals := 0, closure := [], defaults := PySem.Value.none, kwdefaults := PySem.Value.none } }
noncomputable def o217 : Params → Obj := fun P => { cls := PySem.Value.type "code", data := PySem.Data.fields #[PySem.Value.str (PySem.Str.ofString "_law_state") 488, PySem.Value.str (PySem.Str.ofString "_law_state") 489, PySem.Value.str (PySem.Str.ofString "/claim/cut.py") 490, PySem.Value.int 139 0, PySem.Value.int 1 0, PySem.Value.int 0 0, PySem.Value.int 0 0, PySem.Value.int 3 0, PySem.Value.ref 214, PySem.Value.bool Bool.true, PySem.Value.int 181 0, PySem.Value.ref 215, PySem.Value.none, PySem.Value.none, PySem.Value.none, PySem.Value.ref 216, PySem.Value.int 491 0, PySem.Value.int 139 0, PySem.Value.str (PySem.Str.ofString "/claim/cut.py") 492] }
noncomputable def o218 : Params → Obj := fun P => { cls := PySem.Value.type "function", data := PySem.Data.func { name := PySem.Str.ofString "_law_state", qualname := PySem.Str.ofString "_law_state", params := (fdA (nthS PP.main.body 17)), body := PySem.FuncBody.stmts (fdB (nthS PP.main.body 17)), scope := (fdS (nthS PP.main.body 17)), globals := 3, closure := [], defaults := PySem.Value.none, kwdefaults := PySem.Value.none, pyModule := PySem.Value.str (PySem.Str.ofString "law_ys0001_05") 486, code := PySem.Value.ref 217 } }
noncomputable def o219 : Params → Obj := fun P => { cls := PySem.Value.type "tuple", data := PySem.Data.seq #[] }
noncomputable def o220 : Params → Obj := fun P => { cls := PySem.Value.none, data := PySem.Data.fields #[] }
noncomputable def o221 : Params → Obj := fun P => { cls := PySem.Value.type "tuple", data := PySem.Data.seq #[PySem.Value.str (PySem.Str.ofString "state") 497, PySem.Value.str (PySem.Str.ofString "most") 498, PySem.Value.str (PySem.Str.ofString "cells") 499, PySem.Value.str (PySem.Str.ofString "at") 500, PySem.Value.str (PySem.Str.ofString "cell") 501, PySem.Value.str (PySem.Str.ofString "mixed") 502] }
noncomputable def o222 : Params → Obj := fun P => { cls := PySem.Value.type "tuple", data := PySem.Data.seq #[] }
noncomputable def o223 : Params → Obj := fun P => { cls := PySem.Value.none, data := PySem.Data.func { name := PySem.Str.ofString "_law_take", qualname := PySem.Str.ofString "_law_take", params := (fdA (nthS PP.main.body 18)), body := PySem.FuncBody.stmts (fdB (nthS PP.main.body 18)), scope := (fdS (nthS PP.main.body 18)), globals := 0, closure := [], defaults := PySem.Value.none, kwdefaults := PySem.Value.none } }
noncomputable def o224 : Params → Obj := fun P => { cls := PySem.Value.type "code", data := PySem.Data.fields #[PySem.Value.str (PySem.Str.ofString "_law_take") 494, PySem.Value.str (PySem.Str.ofString "_law_take") 495, PySem.Value.str (PySem.Str.ofString "/claim/cut.py") 496, PySem.Value.int 144 0, PySem.Value.int 2 0, PySem.Value.int 0 0, PySem.Value.int 0 0, PySem.Value.int 3 0, PySem.Value.ref 219, PySem.Value.bool Bool.true, PySem.Value.int 181 0, PySem.Value.ref 220, PySem.Value.none, PySem.Value.ref 221, PySem.Value.ref 222, PySem.Value.ref 223, PySem.Value.int 503 0, PySem.Value.int 144 0, PySem.Value.str (PySem.Str.ofString "/claim/cut.py") 504] }
noncomputable def o225 : Params → Obj := fun P => { cls := PySem.Value.type "function", data := PySem.Data.func { name := PySem.Str.ofString "_law_take", qualname := PySem.Str.ofString "_law_take", params := (fdA (nthS PP.main.body 18)), body := PySem.FuncBody.stmts (fdB (nthS PP.main.body 18)), scope := (fdS (nthS PP.main.body 18)), globals := 3, closure := [], defaults := PySem.Value.none, kwdefaults := PySem.Value.none, pyModule := PySem.Value.str (PySem.Str.ofString "law_ys0001_05") 486, code := PySem.Value.ref 224 } }
noncomputable def o226 : Params → Obj := fun P => { cls := PySem.Value.type "tuple", data := PySem.Data.seq #[] }
noncomputable def o227 : Params → Obj := fun P => { cls := PySem.Value.none, data := PySem.Data.fields #[] }
noncomputable def o228 : Params → Obj := fun P => { cls := PySem.Value.type "tuple", data := PySem.Data.seq #[PySem.Value.str (PySem.Str.ofString "state") 509, PySem.Value.str (PySem.Str.ofString "words") 510, PySem.Value.str (PySem.Str.ofString "number") 511, PySem.Value.str (PySem.Str.ofString "turn") 512] }
noncomputable def o229 : Params → Obj := fun P => { cls := PySem.Value.type "tuple", data := PySem.Data.seq #[] }
noncomputable def o230 : Params → Obj := fun P => { cls := PySem.Value.none, data := PySem.Data.func { name := PySem.Str.ofString "_law_great", qualname := PySem.Str.ofString "_law_great", params := (fdA (nthS PP.main.body 19)), body := PySem.FuncBody.stmts (fdB (nthS PP.main.body 19)), scope := (fdS (nthS PP.main.body 19)), globals := 0, closure := [], defaults := PySem.Value.none, kwdefaults := PySem.Value.none } }
noncomputable def o231 : Params → Obj := fun P => { cls := PySem.Value.type "code", data := PySem.Data.fields #[PySem.Value.str (PySem.Str.ofString "_law_great") 506, PySem.Value.str (PySem.Str.ofString "_law_great") 507, PySem.Value.str (PySem.Str.ofString "/claim/cut.py") 508, PySem.Value.int 155 0, PySem.Value.int 2 0, PySem.Value.int 0 0, PySem.Value.int 0 0, PySem.Value.int 3 0, PySem.Value.ref 226, PySem.Value.bool Bool.true, PySem.Value.int 181 0, PySem.Value.ref 227, PySem.Value.none, PySem.Value.ref 228, PySem.Value.ref 229, PySem.Value.ref 230, PySem.Value.int 513 0, PySem.Value.int 155 0, PySem.Value.str (PySem.Str.ofString "/claim/cut.py") 514] }
noncomputable def o232 : Params → Obj := fun P => { cls := PySem.Value.type "function", data := PySem.Data.func { name := PySem.Str.ofString "_law_great", qualname := PySem.Str.ofString "_law_great", params := (fdA (nthS PP.main.body 19)), body := PySem.FuncBody.stmts (fdB (nthS PP.main.body 19)), scope := (fdS (nthS PP.main.body 19)), globals := 3, closure := [], defaults := PySem.Value.none, kwdefaults := PySem.Value.none, pyModule := PySem.Value.str (PySem.Str.ofString "law_ys0001_05") 486, code := PySem.Value.ref 231 } }
noncomputable def o233 : Params → Obj := fun P => { cls := PySem.Value.type "tuple", data := PySem.Data.seq #[] }
noncomputable def o234 : Params → Obj := fun P => { cls := PySem.Value.none, data := PySem.Data.fields #[] }
noncomputable def o235 : Params → Obj := fun P => { cls := PySem.Value.type "tuple", data := PySem.Data.seq #[PySem.Value.str (PySem.Str.ofString "state") 519, PySem.Value.str (PySem.Str.ofString "kind") 520] }
noncomputable def o236 : Params → Obj := fun P => { cls := PySem.Value.type "tuple", data := PySem.Data.seq #[] }
noncomputable def o237 : Params → Obj := fun P => { cls := PySem.Value.none, data := PySem.Data.func { name := PySem.Str.ofString "_law_number", qualname := PySem.Str.ofString "_law_number", params := (fdA (nthS PP.main.body 20)), body := PySem.FuncBody.stmts (fdB (nthS PP.main.body 20)), scope := (fdS (nthS PP.main.body 20)), globals := 0, closure := [], defaults := PySem.Value.none, kwdefaults := PySem.Value.none } }
noncomputable def o238 : Params → Obj := fun P => { cls := PySem.Value.type "code", data := PySem.Data.fields #[PySem.Value.str (PySem.Str.ofString "_law_number") 516, PySem.Value.str (PySem.Str.ofString "_law_number") 517, PySem.Value.str (PySem.Str.ofString "/claim/cut.py") 518, PySem.Value.int 160 0, PySem.Value.int 1 0, PySem.Value.int 0 0, PySem.Value.int 0 0, PySem.Value.int 3 0, PySem.Value.ref 233, PySem.Value.bool Bool.true, PySem.Value.int 181 0, PySem.Value.ref 234, PySem.Value.none, PySem.Value.ref 235, PySem.Value.ref 236, PySem.Value.ref 237, PySem.Value.int 521 0, PySem.Value.int 160 0, PySem.Value.str (PySem.Str.ofString "/claim/cut.py") 522] }
noncomputable def o239 : Params → Obj := fun P => { cls := PySem.Value.type "function", data := PySem.Data.func { name := PySem.Str.ofString "_law_number", qualname := PySem.Str.ofString "_law_number", params := (fdA (nthS PP.main.body 20)), body := PySem.FuncBody.stmts (fdB (nthS PP.main.body 20)), scope := (fdS (nthS PP.main.body 20)), globals := 3, closure := [], defaults := PySem.Value.none, kwdefaults := PySem.Value.none, pyModule := PySem.Value.str (PySem.Str.ofString "law_ys0001_05") 486, code := PySem.Value.ref 238 } }
noncomputable def o240 : Params → Obj := fun P => { cls := PySem.Value.type "tuple", data := PySem.Data.seq #[] }
noncomputable def o241 : Params → Obj := fun P => { cls := PySem.Value.none, data := PySem.Data.fields #[] }
noncomputable def o242 : Params → Obj := fun P => { cls := PySem.Value.type "tuple", data := PySem.Data.seq #[PySem.Value.str (PySem.Str.ofString "one") 527, PySem.Value.str (PySem.Str.ofString "two") 528, PySem.Value.str (PySem.Str.ofString "turn") 529] }
noncomputable def o243 : Params → Obj := fun P => { cls := PySem.Value.type "tuple", data := PySem.Data.seq #[] }
noncomputable def o244 : Params → Obj := fun P => { cls := PySem.Value.none, data := PySem.Data.func { name := PySem.Str.ofString "_law_gcd", qualname := PySem.Str.ofString "_law_gcd", params := (fdA (nthS PP.main.body 21)), body := PySem.FuncBody.stmts (fdB (nthS PP.main.body 21)), scope := (fdS (nthS PP.main.body 21)), globals := 0, closure := [], defaults := PySem.Value.none, kwdefaults := PySem.Value.none } }
noncomputable def o245 : Params → Obj := fun P => { cls := PySem.Value.type "code", data := PySem.Data.fields #[PySem.Value.str (PySem.Str.ofString "_law_gcd") 524, PySem.Value.str (PySem.Str.ofString "_law_gcd") 525, PySem.Value.str (PySem.Str.ofString "/claim/cut.py") 526, PySem.Value.int 167 0, PySem.Value.int 2 0, PySem.Value.int 0 0, PySem.Value.int 0 0, PySem.Value.int 3 0, PySem.Value.ref 240, PySem.Value.bool Bool.true, PySem.Value.int 181 0, PySem.Value.ref 241, PySem.Value.none, PySem.Value.ref 242, PySem.Value.ref 243, PySem.Value.ref 244, PySem.Value.int 530 0, PySem.Value.int 167 0, PySem.Value.str (PySem.Str.ofString "/claim/cut.py") 531] }
noncomputable def o246 : Params → Obj := fun P => { cls := PySem.Value.type "function", data := PySem.Data.func { name := PySem.Str.ofString "_law_gcd", qualname := PySem.Str.ofString "_law_gcd", params := (fdA (nthS PP.main.body 21)), body := PySem.FuncBody.stmts (fdB (nthS PP.main.body 21)), scope := (fdS (nthS PP.main.body 21)), globals := 3, closure := [], defaults := PySem.Value.none, kwdefaults := PySem.Value.none, pyModule := PySem.Value.str (PySem.Str.ofString "law_ys0001_05") 486, code := PySem.Value.ref 245 } }
noncomputable def o247 : Params → Obj := fun P => { cls := PySem.Value.type "tuple", data := PySem.Data.seq #[] }
noncomputable def o248 : Params → Obj := fun P => { cls := PySem.Value.none, data := PySem.Data.fields #[] }
noncomputable def o249 : Params → Obj := fun P => { cls := PySem.Value.none, data := PySem.Data.func { name := PySem.Str.ofString "_law_prime", qualname := PySem.Str.ofString "_law_prime", params := (fdA (nthS PP.main.body 22)), body := PySem.FuncBody.stmts (fdB (nthS PP.main.body 22)), scope := (fdS (nthS PP.main.body 22)), globals := 0, closure := [], defaults := PySem.Value.none, kwdefaults := PySem.Value.none } }
noncomputable def o250 : Params → Obj := fun P => { cls := PySem.Value.type "code", data := PySem.Data.fields #[PySem.Value.str (PySem.Str.ofString "_law_prime") 533, PySem.Value.str (PySem.Str.ofString "_law_prime") 534, PySem.Value.str (PySem.Str.ofString "/claim/cut.py") 535, PySem.Value.int 173 0, PySem.Value.int 1 0, PySem.Value.int 0 0, PySem.Value.int 0 0, PySem.Value.int 3 0, PySem.Value.ref 247, PySem.Value.bool Bool.true, PySem.Value.int 181 0, PySem.Value.ref 248, PySem.Value.none, PySem.Value.none, PySem.Value.none, PySem.Value.ref 249, PySem.Value.int 536 0, PySem.Value.int 173 0, PySem.Value.str (PySem.Str.ofString "/claim/cut.py") 537] }
noncomputable def o251 : Params → Obj := fun P => { cls := PySem.Value.type "function", data := PySem.Data.func { name := PySem.Str.ofString "_law_prime", qualname := PySem.Str.ofString "_law_prime", params := (fdA (nthS PP.main.body 22)), body := PySem.FuncBody.stmts (fdB (nthS PP.main.body 22)), scope := (fdS (nthS PP.main.body 22)), globals := 3, closure := [], defaults := PySem.Value.none, kwdefaults := PySem.Value.none, pyModule := PySem.Value.str (PySem.Str.ofString "law_ys0001_05") 486, code := PySem.Value.ref 250 } }
noncomputable def o252 : Params → Obj := fun P => { cls := PySem.Value.type "tuple", data := PySem.Data.seq #[] }
noncomputable def o253 : Params → Obj := fun P => { cls := PySem.Value.none, data := PySem.Data.fields #[] }
noncomputable def o254 : Params → Obj := fun P => { cls := PySem.Value.type "tuple", data := PySem.Data.seq #[PySem.Value.str (PySem.Str.ofString "state") 542, PySem.Value.str (PySem.Str.ofString "one") 543, PySem.Value.str (PySem.Str.ofString "two") 544] }
noncomputable def o255 : Params → Obj := fun P => { cls := PySem.Value.type "tuple", data := PySem.Data.seq #[] }
noncomputable def o256 : Params → Obj := fun P => { cls := PySem.Value.none, data := PySem.Data.func { name := PySem.Str.ofString "_law_primes", qualname := PySem.Str.ofString "_law_primes", params := (fdA (nthS PP.main.body 23)), body := PySem.FuncBody.stmts (fdB (nthS PP.main.body 23)), scope := (fdS (nthS PP.main.body 23)), globals := 0, closure := [], defaults := PySem.Value.none, kwdefaults := PySem.Value.none } }
noncomputable def o257 : Params → Obj := fun P => { cls := PySem.Value.type "code", data := PySem.Data.fields #[PySem.Value.str (PySem.Str.ofString "_law_primes") 539, PySem.Value.str (PySem.Str.ofString "_law_primes") 540, PySem.Value.str (PySem.Str.ofString "/claim/cut.py") 541, PySem.Value.int 181 0, PySem.Value.int 1 0, PySem.Value.int 0 0, PySem.Value.int 0 0, PySem.Value.int 3 0, PySem.Value.ref 252, PySem.Value.bool Bool.true, PySem.Value.int 181 0, PySem.Value.ref 253, PySem.Value.none, PySem.Value.ref 254, PySem.Value.ref 255, PySem.Value.ref 256, PySem.Value.int 545 0, PySem.Value.int 181 0, PySem.Value.str (PySem.Str.ofString "/claim/cut.py") 546] }
noncomputable def o258 : Params → Obj := fun P => { cls := PySem.Value.type "function", data := PySem.Data.func { name := PySem.Str.ofString "_law_primes", qualname := PySem.Str.ofString "_law_primes", params := (fdA (nthS PP.main.body 23)), body := PySem.FuncBody.stmts (fdB (nthS PP.main.body 23)), scope := (fdS (nthS PP.main.body 23)), globals := 3, closure := [], defaults := PySem.Value.none, kwdefaults := PySem.Value.none, pyModule := PySem.Value.str (PySem.Str.ofString "law_ys0001_05") 486, code := PySem.Value.ref 257 } }
noncomputable def o259 : Params → Obj := fun P => { cls := PySem.Value.type "tuple", data := PySem.Data.seq #[] }
noncomputable def o260 : Params → Obj := fun P => { cls := PySem.Value.none, data := PySem.Data.fields #[] }
noncomputable def o261 : Params → Obj := fun P => { cls := PySem.Value.type "tuple", data := PySem.Data.seq #[PySem.Value.str (PySem.Str.ofString "state") 551, PySem.Value.str (PySem.Str.ofString "phi") 552, PySem.Value.str (PySem.Str.ofString "start") 553, PySem.Value.str (PySem.Str.ofString "number") 554] }
noncomputable def o262 : Params → Obj := fun P => { cls := PySem.Value.type "tuple", data := PySem.Data.seq #[] }
noncomputable def o263 : Params → Obj := fun P => { cls := PySem.Value.none, data := PySem.Data.func { name := PySem.Str.ofString "_law_exponent", qualname := PySem.Str.ofString "_law_exponent", params := (fdA (nthS PP.main.body 24)), body := PySem.FuncBody.stmts (fdB (nthS PP.main.body 24)), scope := (fdS (nthS PP.main.body 24)), globals := 0, closure := [], defaults := PySem.Value.none, kwdefaults := PySem.Value.none } }
noncomputable def o264 : Params → Obj := fun P => { cls := PySem.Value.type "code", data := PySem.Data.fields #[PySem.Value.str (PySem.Str.ofString "_law_exponent") 548, PySem.Value.str (PySem.Str.ofString "_law_exponent") 549, PySem.Value.str (PySem.Str.ofString "/claim/cut.py") 550, PySem.Value.int 186 0, PySem.Value.int 2 0, PySem.Value.int 0 0, PySem.Value.int 0 0, PySem.Value.int 3 0, PySem.Value.ref 259, PySem.Value.bool Bool.true, PySem.Value.int 181 0, PySem.Value.ref 260, PySem.Value.none, PySem.Value.ref 261, PySem.Value.ref 262, PySem.Value.ref 263, PySem.Value.int 555 0, PySem.Value.int 186 0, PySem.Value.str (PySem.Str.ofString "/claim/cut.py") 556] }
noncomputable def o265 : Params → Obj := fun P => { cls := PySem.Value.type "function", data := PySem.Data.func { name := PySem.Str.ofString "_law_exponent", qualname := PySem.Str.ofString "_law_exponent", params := (fdA (nthS PP.main.body 24)), body := PySem.FuncBody.stmts (fdB (nthS PP.main.body 24)), scope := (fdS (nthS PP.main.body 24)), globals := 3, closure := [], defaults := PySem.Value.none, kwdefaults := PySem.Value.none, pyModule := PySem.Value.str (PySem.Str.ofString "law_ys0001_05") 486, code := PySem.Value.ref 264 } }
noncomputable def o266 : Params → Obj := fun P => { cls := PySem.Value.type "tuple", data := PySem.Data.seq #[] }
noncomputable def o267 : Params → Obj := fun P => { cls := PySem.Value.none, data := PySem.Data.fields #[] }
noncomputable def o268 : Params → Obj := fun P => { cls := PySem.Value.type "tuple", data := PySem.Data.seq #[PySem.Value.str (PySem.Str.ofString "base") 561, PySem.Value.str (PySem.Str.ofString "exponent") 562, PySem.Value.str (PySem.Str.ofString "n") 563, PySem.Value.str (PySem.Str.ofString "found") 564, PySem.Value.str (PySem.Str.ofString "turn") 565] }
noncomputable def o269 : Params → Obj := fun P => { cls := PySem.Value.type "tuple", data := PySem.Data.seq #[] }
noncomputable def o270 : Params → Obj := fun P => { cls := PySem.Value.none, data := PySem.Data.func { name := PySem.Str.ofString "_law_power", qualname := PySem.Str.ofString "_law_power", params := (fdA (nthS PP.main.body 25)), body := PySem.FuncBody.stmts (fdB (nthS PP.main.body 25)), scope := (fdS (nthS PP.main.body 25)), globals := 0, closure := [], defaults := PySem.Value.none, kwdefaults := PySem.Value.none } }
noncomputable def o271 : Params → Obj := fun P => { cls := PySem.Value.type "code", data := PySem.Data.fields #[PySem.Value.str (PySem.Str.ofString "_law_power") 558, PySem.Value.str (PySem.Str.ofString "_law_power") 559, PySem.Value.str (PySem.Str.ofString "/claim/cut.py") 560, PySem.Value.int 192 0, PySem.Value.int 3 0, PySem.Value.int 0 0, PySem.Value.int 0 0, PySem.Value.int 3 0, PySem.Value.ref 266, PySem.Value.bool Bool.true, PySem.Value.int 181 0, PySem.Value.ref 267, PySem.Value.none, PySem.Value.ref 268, PySem.Value.ref 269, PySem.Value.ref 270, PySem.Value.int 566 0, PySem.Value.int 192 0, PySem.Value.str (PySem.Str.ofString "/claim/cut.py") 567] }
noncomputable def o272 : Params → Obj := fun P => { cls := PySem.Value.type "function", data := PySem.Data.func { name := PySem.Str.ofString "_law_power", qualname := PySem.Str.ofString "_law_power", params := (fdA (nthS PP.main.body 25)), body := PySem.FuncBody.stmts (fdB (nthS PP.main.body 25)), scope := (fdS (nthS PP.main.body 25)), globals := 3, closure := [], defaults := PySem.Value.none, kwdefaults := PySem.Value.none, pyModule := PySem.Value.str (PySem.Str.ofString "law_ys0001_05") 486, code := PySem.Value.ref 271 } }
noncomputable def o273 : Params → Obj := fun P => { cls := PySem.Value.type "tuple", data := PySem.Data.seq #[] }
noncomputable def o274 : Params → Obj := fun P => { cls := PySem.Value.none, data := PySem.Data.fields #[] }
noncomputable def o275 : Params → Obj := fun P => { cls := PySem.Value.type "tuple", data := PySem.Data.seq #[PySem.Value.str (PySem.Str.ofString "state") 572, PySem.Value.str (PySem.Str.ofString "one") 573, PySem.Value.str (PySem.Str.ofString "two") 574, PySem.Value.str (PySem.Str.ofString "n") 575, PySem.Value.str (PySem.Str.ofString "drawn") 576] }
noncomputable def o276 : Params → Obj := fun P => { cls := PySem.Value.type "tuple", data := PySem.Data.seq #[] }
noncomputable def o277 : Params → Obj := fun P => { cls := PySem.Value.none, data := PySem.Data.func { name := PySem.Str.ofString "_law_message", qualname := PySem.Str.ofString "_law_message", params := (fdA (nthS PP.main.body 26)), body := PySem.FuncBody.stmts (fdB (nthS PP.main.body 26)), scope := (fdS (nthS PP.main.body 26)), globals := 0, closure := [], defaults := PySem.Value.none, kwdefaults := PySem.Value.none } }
noncomputable def o278 : Params → Obj := fun P => { cls := PySem.Value.type "code", data := PySem.Data.fields #[PySem.Value.str (PySem.Str.ofString "_law_message") 569, PySem.Value.str (PySem.Str.ofString "_law_message") 570, PySem.Value.str (PySem.Str.ofString "/claim/cut.py") 571, PySem.Value.int 202 0, PySem.Value.int 3 0, PySem.Value.int 0 0, PySem.Value.int 0 0, PySem.Value.int 3 0, PySem.Value.ref 273, PySem.Value.bool Bool.true, PySem.Value.int 181 0, PySem.Value.ref 274, PySem.Value.none, PySem.Value.ref 275, PySem.Value.ref 276, PySem.Value.ref 277, PySem.Value.int 577 0, PySem.Value.int 202 0, PySem.Value.str (PySem.Str.ofString "/claim/cut.py") 578] }
noncomputable def o279 : Params → Obj := fun P => { cls := PySem.Value.type "function", data := PySem.Data.func { name := PySem.Str.ofString "_law_message", qualname := PySem.Str.ofString "_law_message", params := (fdA (nthS PP.main.body 26)), body := PySem.FuncBody.stmts (fdB (nthS PP.main.body 26)), scope := (fdS (nthS PP.main.body 26)), globals := 3, closure := [], defaults := PySem.Value.none, kwdefaults := PySem.Value.none, pyModule := PySem.Value.str (PySem.Str.ofString "law_ys0001_05") 486, code := PySem.Value.ref 278 } }
noncomputable def o3p27 : Params → Obj := fun P => { cls := PySem.Value.type "dict", data := PySem.Data.dict #[{ hash := PySem.PyData.keyHash P (PySem.Str.ofString "__name__"), key := PySem.Value.str (PySem.Str.ofString "__name__") 165, val := PySem.Value.str (PySem.Str.ofString "law_ys0001_05") 486 }, { hash := PySem.PyData.keyHash P (PySem.Str.ofString "__doc__"), key := PySem.Value.str (PySem.Str.ofString "__doc__") 166, val := PySem.Value.none }, { hash := PySem.PyData.keyHash P (PySem.Str.ofString "__package__"), key := PySem.Value.str (PySem.Str.ofString "__package__") 167, val := PySem.Value.none }, { hash := PySem.PyData.keyHash P (PySem.Str.ofString "__loader__"), key := PySem.Value.str (PySem.Str.ofString "__loader__") 168, val := PySem.Value.builtin "__main__.__loader__#opaque" }, { hash := PySem.PyData.keyHash P (PySem.Str.ofString "__spec__"), key := PySem.Value.str (PySem.Str.ofString "__spec__") 169, val := PySem.Value.none }, { hash := PySem.PyData.keyHash P (PySem.Str.ofString "__annotations__"), key := PySem.Value.str (PySem.Str.ofString "__annotations__") 170, val := PySem.Value.ref 6 }, { hash := PySem.PyData.keyHash P (PySem.Str.ofString "__builtins__"), key := PySem.Value.str (PySem.Str.ofString "__builtins__") 171, val := PySem.Value.ref 4 }, { hash := PySem.PyData.keyHash P (PySem.Str.ofString "__file__"), key := PySem.Value.str (PySem.Str.ofString "__file__") 173, val := PySem.Value.str (PySem.Str.ofString "/claim/cut.py") 172 }, { hash := PySem.PyData.keyHash P (PySem.Str.ofString "__cached__"), key := PySem.Value.str (PySem.Str.ofString "__cached__") 174, val := PySem.Value.none }, { hash := PySem.PyData.keyHash P (PySem.Str.ofString "NotRelativePrimeError"), key := PySem.Value.str (PySem.Str.ofString "NotRelativePrimeError") 221, val := PySem.Value.ref 32 }, { hash := PySem.PyData.keyHash P (PySem.Str.ofString "extended_gcd"), key := PySem.Value.str (PySem.Str.ofString "extended_gcd") 236, val := PySem.Value.ref 42 }, { hash := PySem.PyData.keyHash P (PySem.Str.ofString "inverse"), key := PySem.Value.str (PySem.Str.ofString "inverse") 247, val := PySem.Value.ref 49 }, { hash := PySem.PyData.keyHash P (PySem.Str.ofString "assert_int"), key := PySem.Value.str (PySem.Str.ofString "assert_int") 257, val := PySem.Value.ref 56 }, { hash := PySem.PyData.keyHash P (PySem.Str.ofString "encrypt_int"), key := PySem.Value.str (PySem.Str.ofString "encrypt_int") 266, val := PySem.Value.ref 63 }, { hash := PySem.PyData.keyHash P (PySem.Str.ofString "decrypt_int"), key := PySem.Value.str (PySem.Str.ofString "decrypt_int") 276, val := PySem.Value.ref 70 }, { hash := PySem.PyData.keyHash P (PySem.Str.ofString "gcd"), key := PySem.Value.str (PySem.Str.ofString "gcd") 286, val := PySem.Value.ref 77 }, { hash := PySem.PyData.keyHash P (PySem.Str.ofString "are_relatively_prime"), key := PySem.Value.str (PySem.Str.ofString "are_relatively_prime") 295, val := PySem.Value.ref 84 }, { hash := PySem.PyData.keyHash P (PySem.Str.ofString "AbstractKey"), key := PySem.Value.str (PySem.Str.ofString "AbstractKey") 365, val := PySem.Value.ref 129 }, { hash := PySem.PyData.keyHash P (PySem.Str.ofString "PublicKey"), key := PySem.Value.str (PySem.Str.ofString "PublicKey") 398, val := PySem.Value.ref 157 }, { hash := PySem.PyData.keyHash P (PySem.Str.ofString "PrivateKey"), key := PySem.Value.str (PySem.Str.ofString "PrivateKey") 474, val := PySem.Value.ref 204 }, { hash := PySem.PyData.keyHash P (PySem.Str.ofString "calculate_keys_custom_exponent"), key := PySem.Value.str (PySem.Str.ofString "calculate_keys_custom_exponent") 485, val := PySem.Value.ref 213 }, { hash := PySem.PyData.keyHash P (PySem.Str.ofString "_law_state"), key := PySem.Value.str (PySem.Str.ofString "_law_state") 493, val := PySem.Value.ref 218 }, { hash := PySem.PyData.keyHash P (PySem.Str.ofString "_law_take"), key := PySem.Value.str (PySem.Str.ofString "_law_take") 505, val := PySem.Value.ref 225 }, { hash := PySem.PyData.keyHash P (PySem.Str.ofString "_law_great"), key := PySem.Value.str (PySem.Str.ofString "_law_great") 515, val := PySem.Value.ref 232 }, { hash := PySem.PyData.keyHash P (PySem.Str.ofString "_law_number"), key := PySem.Value.str (PySem.Str.ofString "_law_number") 523, val := PySem.Value.ref 239 }, { hash := PySem.PyData.keyHash P (PySem.Str.ofString "_law_gcd"), key := PySem.Value.str (PySem.Str.ofString "_law_gcd") 532, val := PySem.Value.ref 246 }, { hash := PySem.PyData.keyHash P (PySem.Str.ofString "_law_prime"), key := PySem.Value.str (PySem.Str.ofString "_law_prime") 538, val := PySem.Value.ref 251 }, { hash := PySem.PyData.keyHash P (PySem.Str.ofString "_law_primes"), key := PySem.Value.str (PySem.Str.ofString "_law_primes") 547, val := PySem.Value.ref 258 }, { hash := PySem.PyData.keyHash P (PySem.Str.ofString "_law_exponent"), key := PySem.Value.str (PySem.Str.ofString "_law_exponent") 557, val := PySem.Value.ref 265 }, { hash := PySem.PyData.keyHash P (PySem.Str.ofString "_law_power"), key := PySem.Value.str (PySem.Str.ofString "_law_power") 568, val := PySem.Value.ref 272 }, { hash := PySem.PyData.keyHash P (PySem.Str.ofString "_law_message"), key := PySem.Value.str (PySem.Str.ofString "_law_message") 579, val := PySem.Value.ref 279 }, { hash := PySem.PyData.keyHash P (PySem.Str.ofString "law"), key := PySem.Value.str (PySem.Str.ofString "law") 599, val := PySem.Value.ref 286 }] 32 }
noncomputable def o12p27 : Params → Obj := fun P => { cls := PySem.Value.none, data := PySem.Data.fields #[PySem.Value.int 2 0, PySem.Value.int 0 0, PySem.Value.ref 20, PySem.Value.int 8 0, PySem.Value.int 0 0, PySem.Value.ref 41, PySem.Value.int 25 0, PySem.Value.int 0 0, PySem.Value.ref 48, PySem.Value.int 31 0, PySem.Value.int 0 0, PySem.Value.ref 55, PySem.Value.int 35 0, PySem.Value.int 0 0, PySem.Value.ref 62, PySem.Value.int 44 0, PySem.Value.int 0 0, PySem.Value.ref 69, PySem.Value.int 51 0, PySem.Value.int 0 0, PySem.Value.ref 76, PySem.Value.int 55 0, PySem.Value.int 0 0, PySem.Value.ref 83, PySem.Value.int 59 0, PySem.Value.int 0 0, PySem.Value.ref 90, PySem.Value.int 88 0, PySem.Value.int 0 0, PySem.Value.ref 139, PySem.Value.int 99 0, PySem.Value.int 0 0, PySem.Value.ref 165, PySem.Value.int 132 0, PySem.Value.int 0 0, PySem.Value.ref 212, PySem.Value.int 139 0, PySem.Value.int 0 0, PySem.Value.ref 217, PySem.Value.int 144 0, PySem.Value.int 0 0, PySem.Value.ref 224, PySem.Value.int 155 0, PySem.Value.int 0 0, PySem.Value.ref 231, PySem.Value.int 160 0, PySem.Value.int 0 0, PySem.Value.ref 238, PySem.Value.int 167 0, PySem.Value.int 0 0, PySem.Value.ref 245, PySem.Value.int 173 0, PySem.Value.int 0 0, PySem.Value.ref 250, PySem.Value.int 181 0, PySem.Value.int 0 0, PySem.Value.ref 257, PySem.Value.int 186 0, PySem.Value.int 0 0, PySem.Value.ref 264, PySem.Value.int 192 0, PySem.Value.int 0 0, PySem.Value.ref 271, PySem.Value.int 202 0, PySem.Value.int 0 0, PySem.Value.ref 278, PySem.Value.int 206 0, PySem.Value.int 0 0, PySem.Value.ref 285] }
noncomputable def o280 : Params → Obj := fun P => { cls := PySem.Value.type "tuple", data := PySem.Data.seq #[] }
noncomputable def o281 : Params → Obj := fun P => { cls := PySem.Value.none, data := PySem.Data.fields #[] }
noncomputable def o282 : Params → Obj := fun P => { cls := PySem.Value.type "tuple", data := PySem.Data.seq #[PySem.Value.str (PySem.Str.ofString "script") 583, PySem.Value.str (PySem.Str.ofString "state") 584, PySem.Value.str (PySem.Str.ofString "one") 585, PySem.Value.str (PySem.Str.ofString "two") 586, PySem.Value.str (PySem.Str.ofString "n") 587, PySem.Value.str (PySem.Str.ofString "phi") 588, PySem.Value.str (PySem.Str.ofString "exponent") 589, PySem.Value.str (PySem.Str.ofString "e") 590, PySem.Value.str (PySem.Str.ofString "d") 591, PySem.Value.str (PySem.Str.ofString "public") 592, PySem.Value.str (PySem.Str.ofString "private") 593, PySem.Value.str (PySem.Str.ofString "message") 594, PySem.Value.str (PySem.Str.ofString "secret") 595, PySem.Value.str (PySem.Str.ofString "signed") 596] }
noncomputable def o283 : Params → Obj := fun P => { cls := PySem.Value.type "tuple", data := PySem.Data.seq #[] }
noncomputable def o284 : Params → Obj := fun P => { cls := PySem.Value.none, data := PySem.Data.func { name := PySem.Str.ofString "law", qualname := PySem.Str.ofString "law", params := (fdA (nthS PP.main.body 27)), body := PySem.FuncBody.stmts (fdB (nthS PP.main.body 27)), scope := (fdS (nthS PP.main.body 27)), globals := 0, closure := [], defaults := PySem.Value.none, kwdefaults := PySem.Value.none } }
noncomputable def o285 : Params → Obj := fun P => { cls := PySem.Value.type "code", data := PySem.Data.fields #[PySem.Value.str (PySem.Str.ofString "law") 580, PySem.Value.str (PySem.Str.ofString "law") 581, PySem.Value.str (PySem.Str.ofString "/claim/cut.py") 582, PySem.Value.int 206 0, PySem.Value.int 1 0, PySem.Value.int 0 0, PySem.Value.int 0 0, PySem.Value.int 3 0, PySem.Value.ref 280, PySem.Value.bool Bool.true, PySem.Value.int 181 0, PySem.Value.ref 281, PySem.Value.none, PySem.Value.ref 282, PySem.Value.ref 283, PySem.Value.ref 284, PySem.Value.int 597 0, PySem.Value.int 206 0, PySem.Value.str (PySem.Str.ofString "/claim/cut.py") 598] }
noncomputable def o286 : Params → Obj := fun P => { cls := PySem.Value.type "function", data := PySem.Data.func { name := PySem.Str.ofString "law", qualname := PySem.Str.ofString "law", params := (fdA (nthS PP.main.body 27)), body := PySem.FuncBody.stmts (fdB (nthS PP.main.body 27)), scope := (fdS (nthS PP.main.body 27)), globals := 3, closure := [], defaults := PySem.Value.none, kwdefaults := PySem.Value.none, pyModule := PySem.Value.str (PySem.Str.ofString "law_ys0001_05") 486, code := PySem.Value.ref 285 } }
noncomputable def h_a : Params → Heap := fun P => ⟨⟨[PySem.W.boot_o_0 P, PySem.W.boot_o_1 P, PySem.W.boot_o_2 P, PySem.W.boot_o_3 P, PySem.W.boot_o_4 P, PySem.W.boot_o_5 P, PySem.W.boot_o_6 P, PySem.W.boot_o_7 P, PySem.W.boot_o_8 P, PySem.W.boot_o_9 P, PySem.W.boot_o_10 P, o11 P, o12 P, o13 P, o14 P]⟩, { }⟩
noncomputable def h_f : Params → Heap := fun P => ⟨⟨[PySem.W.boot_o_0 P, PySem.W.boot_o_1 P, PySem.W.boot_o_2 P, o3p27 P, PySem.W.boot_o_4 P, PySem.W.boot_o_5 P, PySem.W.boot_o_6 P, PySem.W.boot_o_7 P, PySem.W.boot_o_8 P, PySem.W.boot_o_9 P, PySem.W.boot_o_10 P, o11 P, o12p27 P, o13 P, o14 P, o15 P, o16 P, o17 P, o18 P, o19 P, o20 P, o21 P, o22 P, o23 P, o24 P, o25 P, o26 P, o27 P, o28 P, o29 P, o30 P, o31 P, o32 P, o33 P, o34 P, o35 P, o36 P, o37 P, o38 P, o39 P, o40 P, o41 P, o42 P, o43 P, o44 P, o45 P, o46 P, o47 P, o48 P, o49 P, o50 P, o51 P, o52 P, o53 P, o54 P, o55 P, o56 P, o57 P, o58 P, o59 P, o60 P, o61 P, o62 P, o63 P, o64 P, o65 P, o66 P, o67 P, o68 P, o69 P, o70 P, o71 P, o72 P, o73 P, o74 P, o75 P, o76 P, o77 P, o78 P, o79 P, o80 P, o81 P, o82 P, o83 P, o84 P, o85 P, o86 P, o87 P, o88 P, o89 P, o90 P, o91 P, o92 P, o93 P, o94 P, o95 P, o96 P, o97 P, o98 P, o99 P, o100 P, o101 P, o102 P, o103 P, o104 P, o105 P, o106 P, o107 P, o108 P, o109 P, o110 P, o111 P, o112 P, o113 P, o114 P, o115 P, o116 P, o117 P, o118 P, o119 P, o120 P, o121 P, o122 P, o123 P, o124 P, o125 P, o126 P, o127 P, o128 P, o129p14 P, o130 P, o131 P, o132 P, o133 P, o134 P, o135 P, o136 P, o137 P, o138 P, o139 P, o140 P, o141 P, o142 P, o143 P, o144 P, o145 P, o146 P, o147 P, o148 P, o149 P, o150 P, o151 P, o152 P, o153 P, o154 P, o155 P, o156 P, o157 P, o158 P, o159 P, o160 P, o161 P, o162 P, o163 P, o164 P, o165 P, o166 P, o167 P, o168 P, o169 P, o170 P, o171 P, o172 P, o173 P, o174 P, o175 P, o176 P, o177 P, o178 P, o179 P, o180 P, o181 P, o182 P, o183 P, o184 P, o185 P, o186 P, o187 P, o188 P, o189 P, o190 P, o191 P, o192 P, o193 P, o194 P, o195 P, o196 P, o197 P, o198 P, o199 P, o200 P, o201 P, o202 P, o203 P, o204 P, o205 P, o206 P, o207 P, o208 P, o209 P, o210 P, o211 P, o212 P, o213 P, o214 P, o215 P, o216 P, o217 P, o218 P, o219 P, o220 P, o221 P, o222 P, o223 P, o224 P, o225 P, o226 P, o227 P, o228 P, o229 P, o230 P, o231 P, o232 P, o233 P, o234 P, o235 P, o236 P, o237 P, o238 P, o239 P, o240 P, o241 P, o242 P, o243 P, o244 P, o245 P, o246 P, o247 P, o248 P, o249 P, o250 P, o251 P, o252 P, o253 P, o254 P, o255 P, o256 P, o257 P, o258 P, o259 P, o260 P, o261 P, o262 P, o263 P, o264 P, o265 P, o266 P, o267 P, o268 P, o269 P, o270 P, o271 P, o272 P, o273 P, o274 P, o275 P, o276 P, o277 P, o278 P, o279 P, o280 P, o281 P, o282 P, o283 P, o284 P, o285 P, o286 P]⟩, { }⟩
noncomputable def t_b : Params → BT := fun P => (.node (PySem.W.boot_o_0 P) (.node (PySem.W.boot_o_1 P) (.node (PySem.W.boot_o_3 P) (.node (PySem.W.boot_o_7 P) .nil .nil) (.node (o11 P) .nil .nil)) (.node (PySem.W.boot_o_5 P) (.node (PySem.W.boot_o_9 P) .nil .nil) (.node (o13 P) .nil .nil))) (.node (PySem.W.boot_o_2 P) (.node (PySem.W.boot_o_4 P) (.node (PySem.W.boot_o_8 P) .nil .nil) (.node (o12 P) .nil .nil)) (.node (PySem.W.boot_o_6 P) (.node (PySem.W.boot_o_10 P) .nil .nil) (.node (o14 P) .nil .nil))))
noncomputable def S_b (w : World) (os : OsState) : SharedT := ⟨t_b w.params, 15, { }, ⟨[]⟩, { }, 187, os⟩
noncomputable def t_p9 : Params → BT := fun P => (.node (PySem.W.boot_o_0 P) (.node (PySem.W.boot_o_1 P) (.node (o3p9 P) (.node (PySem.W.boot_o_7 P) (.node (o15 P) (.node (o31 P) (.node (o63 P) .nil .nil) .nil) (.node (o47 P) .nil .nil)) (.node (o23 P) (.node (o39 P) (.node (o71 P) .nil .nil) .nil) (.node (o55 P) .nil .nil))) (.node (o11 P) (.node (o19 P) (.node (o35 P) (.node (o67 P) .nil .nil) .nil) (.node (o51 P) .nil .nil)) (.node (o27 P) (.node (o43 P) (.node (o75 P) .nil .nil) .nil) (.node (o59 P) .nil .nil)))) (.node (PySem.W.boot_o_5 P) (.node (PySem.W.boot_o_9 P) (.node (o17 P) (.node (o33 P) (.node (o65 P) .nil .nil) .nil) (.node (o49 P) .nil .nil)) (.node (o25 P) (.node (o41 P) (.node (o73 P) .nil .nil) .nil) (.node (o57 P) .nil .nil))) (.node (o13 P) (.node (o21 P) (.node (o37 P) (.node (o69 P) .nil .nil) .nil) (.node (o53 P) .nil .nil)) (.node (o29 P) (.node (o45 P) (.node (o77 P) .nil .nil) .nil) (.node (o61 P) .nil .nil))))) (.node (PySem.W.boot_o_2 P) (.node (PySem.W.boot_o_4 P) (.node (PySem.W.boot_o_8 P) (.node (o16 P) (.node (o32 P) (.node (o64 P) .nil .nil) .nil) (.node (o48 P) .nil .nil)) (.node (o24 P) (.node (o40 P) (.node (o72 P) .nil .nil) .nil) (.node (o56 P) .nil .nil))) (.node (o12p9 P) (.node (o20 P) (.node (o36 P) (.node (o68 P) .nil .nil) .nil) (.node (o52 P) .nil .nil)) (.node (o28 P) (.node (o44 P) (.node (o76 P) .nil .nil) .nil) (.node (o60 P) .nil .nil)))) (.node (PySem.W.boot_o_6 P) (.node (PySem.W.boot_o_10 P) (.node (o18 P) (.node (o34 P) (.node (o66 P) .nil .nil) .nil) (.node (o50 P) .nil .nil)) (.node (o26 P) (.node (o42 P) (.node (o74 P) .nil .nil) .nil) (.node (o58 P) .nil .nil))) (.node (o14 P) (.node (o22 P) (.node (o38 P) (.node (o70 P) .nil .nil) .nil) (.node (o54 P) .nil .nil)) (.node (o30 P) (.node (o46 P) .nil .nil) (.node (o62 P) .nil .nil))))))
noncomputable def S_p9 (w : World) (os : OsState) : SharedT := ⟨t_p9 w.params, 78, { }, ⟨[]⟩, { }, 287, os⟩
noncomputable def t_p12 : Params → BT := fun P => (.node (PySem.W.boot_o_0 P) (.node (PySem.W.boot_o_1 P) (.node (o3p12 P) (.node (PySem.W.boot_o_7 P) (.node (o15 P) (.node (o31 P) (.node (o63 P) (.node (o127 P) .nil .nil) .nil) (.node (o95 P) .nil .nil)) (.node (o47 P) (.node (o79 P) .nil .nil) (.node (o111 P) .nil .nil))) (.node (o23 P) (.node (o39 P) (.node (o71 P) .nil .nil) (.node (o103 P) .nil .nil)) (.node (o55 P) (.node (o87 P) .nil .nil) (.node (o119 P) .nil .nil)))) (.node (o11 P) (.node (o19 P) (.node (o35 P) (.node (o67 P) (.node (o131 P) .nil .nil) .nil) (.node (o99 P) .nil .nil)) (.node (o51 P) (.node (o83 P) .nil .nil) (.node (o115 P) .nil .nil))) (.node (o27 P) (.node (o43 P) (.node (o75 P) .nil .nil) (.node (o107 P) .nil .nil)) (.node (o59 P) (.node (o91 P) .nil .nil) (.node (o123 P) .nil .nil))))) (.node (PySem.W.boot_o_5 P) (.node (PySem.W.boot_o_9 P) (.node (o17 P) (.node (o33 P) (.node (o65 P) (.node (o129 P) .nil .nil) .nil) (.node (o97 P) .nil .nil)) (.node (o49 P) (.node (o81 P) .nil .nil) (.node (o113 P) .nil .nil))) (.node (o25 P) (.node (o41 P) (.node (o73 P) .nil .nil) (.node (o105 P) .nil .nil)) (.node (o57 P) (.node (o89 P) .nil .nil) (.node (o121 P) .nil .nil)))) (.node (o13 P) (.node (o21 P) (.node (o37 P) (.node (o69 P) (.node (o133 P) .nil .nil) .nil) (.node (o101 P) .nil .nil)) (.node (o53 P) (.node (o85 P) .nil .nil) (.node (o117 P) .nil .nil))) (.node (o29 P) (.node (o45 P) (.node (o77 P) .nil .nil) (.node (o109 P) .nil .nil)) (.node (o61 P) (.node (o93 P) .nil .nil) (.node (o125 P) .nil .nil)))))) (.node (PySem.W.boot_o_2 P) (.node (PySem.W.boot_o_4 P) (.node (PySem.W.boot_o_8 P) (.node (o16 P) (.node (o32 P) (.node (o64 P) (.node (o128 P) .nil .nil) .nil) (.node (o96 P) .nil .nil)) (.node (o48 P) (.node (o80 P) .nil .nil) (.node (o112 P) .nil .nil))) (.node (o24 P) (.node (o40 P) (.node (o72 P) .nil .nil) (.node (o104 P) .nil .nil)) (.node (o56 P) (.node (o88 P) .nil .nil) (.node (o120 P) .nil .nil)))) (.node (o12p12 P) (.node (o20 P) (.node (o36 P) (.node (o68 P) (.node (o132 P) .nil .nil) .nil) (.node (o100 P) .nil .nil)) (.node (o52 P) (.node (o84 P) .nil .nil) (.node (o116 P) .nil .nil))) (.node (o28 P) (.node (o44 P) (.node (o76 P) .nil .nil) (.node (o108 P) .nil .nil)) (.node (o60 P) (.node (o92 P) .nil .nil) (.node (o124 P) .nil .nil))))) (.node (PySem.W.boot_o_6 P) (.node (PySem.W.boot_o_10 P) (.node (o18 P) (.node (o34 P) (.node (o66 P) (.node (o130 P) .nil .nil) .nil) (.node (o98 P) .nil .nil)) (.node (o50 P) (.node (o82 P) .nil .nil) (.node (o114 P) .nil .nil))) (.node (o26 P) (.node (o42 P) (.node (o74 P) .nil .nil) (.node (o106 P) .nil .nil)) (.node (o58 P) (.node (o90 P) .nil .nil) (.node (o122 P) .nil .nil)))) (.node (o14 P) (.node (o22 P) (.node (o38 P) (.node (o70 P) .nil .nil) (.node (o102 P) .nil .nil)) (.node (o54 P) (.node (o86 P) .nil .nil) (.node (o118 P) .nil .nil))) (.node (o30 P) (.node (o46 P) (.node (o78 P) .nil .nil) (.node (o110 P) .nil .nil)) (.node (o62 P) (.node (o94 P) .nil .nil) (.node (o126 P) .nil .nil)))))))
noncomputable def S_p12 (w : World) (os : OsState) : SharedT := ⟨t_p12 w.params, 134, { }, ⟨[]⟩, { }, 366, os⟩
noncomputable def t_p13 : Params → BT := fun P => (.node (PySem.W.boot_o_0 P) (.node (PySem.W.boot_o_1 P) (.node (o3p13 P) (.node (PySem.W.boot_o_7 P) (.node (o15 P) (.node (o31 P) (.node (o63 P) (.node (o127 P) .nil .nil) .nil) (.node (o95 P) (.node (o159 P) .nil .nil) .nil)) (.node (o47 P) (.node (o79 P) (.node (o143 P) .nil .nil) .nil) (.node (o111 P) .nil .nil))) (.node (o23 P) (.node (o39 P) (.node (o71 P) (.node (o135 P) .nil .nil) .nil) (.node (o103 P) .nil .nil)) (.node (o55 P) (.node (o87 P) (.node (o151 P) .nil .nil) .nil) (.node (o119 P) .nil .nil)))) (.node (o11 P) (.node (o19 P) (.node (o35 P) (.node (o67 P) (.node (o131 P) .nil .nil) .nil) (.node (o99 P) .nil .nil)) (.node (o51 P) (.node (o83 P) (.node (o147 P) .nil .nil) .nil) (.node (o115 P) .nil .nil))) (.node (o27 P) (.node (o43 P) (.node (o75 P) (.node (o139 P) .nil .nil) .nil) (.node (o107 P) .nil .nil)) (.node (o59 P) (.node (o91 P) (.node (o155 P) .nil .nil) .nil) (.node (o123 P) .nil .nil))))) (.node (PySem.W.boot_o_5 P) (.node (PySem.W.boot_o_9 P) (.node (o17 P) (.node (o33 P) (.node (o65 P) (.node (o129p13 P) .nil .nil) .nil) (.node (o97 P) .nil .nil)) (.node (o49 P) (.node (o81 P) (.node (o145 P) .nil .nil) .nil) (.node (o113 P) .nil .nil))) (.node (o25 P) (.node (o41 P) (.node (o73 P) (.node (o137 P) .nil .nil) .nil) (.node (o105 P) .nil .nil)) (.node (o57 P) (.node (o89 P) (.node (o153 P) .nil .nil) .nil) (.node (o121 P) .nil .nil)))) (.node (o13 P) (.node (o21 P) (.node (o37 P) (.node (o69 P) (.node (o133 P) .nil .nil) .nil) (.node (o101 P) .nil .nil)) (.node (o53 P) (.node (o85 P) (.node (o149 P) .nil .nil) .nil) (.node (o117 P) .nil .nil))) (.node (o29 P) (.node (o45 P) (.node (o77 P) (.node (o141 P) .nil .nil) .nil) (.node (o109 P) .nil .nil)) (.node (o61 P) (.node (o93 P) (.node (o157 P) .nil .nil) .nil) (.node (o125 P) .nil .nil)))))) (.node (PySem.W.boot_o_2 P) (.node (PySem.W.boot_o_4 P) (.node (PySem.W.boot_o_8 P) (.node (o16 P) (.node (o32 P) (.node (o64 P) (.node (o128 P) .nil .nil) .nil) (.node (o96 P) .nil .nil)) (.node (o48 P) (.node (o80 P) (.node (o144 P) .nil .nil) .nil) (.node (o112 P) .nil .nil))) (.node (o24 P) (.node (o40 P) (.node (o72 P) (.node (o136 P) .nil .nil) .nil) (.node (o104 P) .nil .nil)) (.node (o56 P) (.node (o88 P) (.node (o152 P) .nil .nil) .nil) (.node (o120 P) .nil .nil)))) (.node (o12p13 P) (.node (o20 P) (.node (o36 P) (.node (o68 P) (.node (o132 P) .nil .nil) .nil) (.node (o100 P) .nil .nil)) (.node (o52 P) (.node (o84 P) (.node (o148 P) .nil .nil) .nil) (.node (o116 P) .nil .nil))) (.node (o28 P) (.node (o44 P) (.node (o76 P) (.node (o140 P) .nil .nil) .nil) (.node (o108 P) .nil .nil)) (.node (o60 P) (.node (o92 P) (.node (o156 P) .nil .nil) .nil) (.node (o124 P) .nil .nil))))) (.node (PySem.W.boot_o_6 P) (.node (PySem.W.boot_o_10 P) (.node (o18 P) (.node (o34 P) (.node (o66 P) (.node (o130 P) .nil .nil) .nil) (.node (o98 P) .nil .nil)) (.node (o50 P) (.node (o82 P) (.node (o146 P) .nil .nil) .nil) (.node (o114 P) .nil .nil))) (.node (o26 P) (.node (o42 P) (.node (o74 P) (.node (o138 P) .nil .nil) .nil) (.node (o106 P) .nil .nil)) (.node (o58 P) (.node (o90 P) (.node (o154 P) .nil .nil) .nil) (.node (o122 P) .nil .nil)))) (.node (o14 P) (.node (o22 P) (.node (o38 P) (.node (o70 P) (.node (o134 P) .nil .nil) .nil) (.node (o102 P) .nil .nil)) (.node (o54 P) (.node (o86 P) (.node (o150 P) .nil .nil) .nil) (.node (o118 P) .nil .nil))) (.node (o30 P) (.node (o46 P) (.node (o78 P) (.node (o142 P) .nil .nil) .nil) (.node (o110 P) .nil .nil)) (.node (o62 P) (.node (o94 P) (.node (o158 P) .nil .nil) .nil) (.node (o126 P) .nil .nil)))))))
noncomputable def S_p13 (w : World) (os : OsState) : SharedT := ⟨t_p13 w.params, 160, { }, ⟨[]⟩, { }, 399, os⟩
noncomputable def t_p16 : Params → BT := fun P => (.node (PySem.W.boot_o_0 P) (.node (PySem.W.boot_o_1 P) (.node (o3p16 P) (.node (PySem.W.boot_o_7 P) (.node (o15 P) (.node (o31 P) (.node (o63 P) (.node (o127 P) .nil .nil) (.node (o191 P) .nil .nil)) (.node (o95 P) (.node (o159 P) .nil .nil) .nil)) (.node (o47 P) (.node (o79 P) (.node (o143 P) .nil .nil) (.node (o207 P) .nil .nil)) (.node (o111 P) (.node (o175 P) .nil .nil) .nil))) (.node (o23 P) (.node (o39 P) (.node (o71 P) (.node (o135 P) .nil .nil) (.node (o199 P) .nil .nil)) (.node (o103 P) (.node (o167 P) .nil .nil) .nil)) (.node (o55 P) (.node (o87 P) (.node (o151 P) .nil .nil) .nil) (.node (o119 P) (.node (o183 P) .nil .nil) .nil)))) (.node (o11 P) (.node (o19 P) (.node (o35 P) (.node (o67 P) (.node (o131 P) .nil .nil) (.node (o195 P) .nil .nil)) (.node (o99 P) (.node (o163 P) .nil .nil) .nil)) (.node (o51 P) (.node (o83 P) (.node (o147 P) .nil .nil) (.node (o211 P) .nil .nil)) (.node (o115 P) (.node (o179 P) .nil .nil) .nil))) (.node (o27 P) (.node (o43 P) (.node (o75 P) (.node (o139 P) .nil .nil) (.node (o203 P) .nil .nil)) (.node (o107 P) (.node (o171 P) .nil .nil) .nil)) (.node (o59 P) (.node (o91 P) (.node (o155 P) .nil .nil) .nil) (.node (o123 P) (.node (o187 P) .nil .nil) .nil))))) (.node (PySem.W.boot_o_5 P) (.node (PySem.W.boot_o_9 P) (.node (o17 P) (.node (o33 P) (.node (o65 P) (.node (o129p14 P) .nil .nil) (.node (o193 P) .nil .nil)) (.node (o97 P) (.node (o161 P) .nil .nil) .nil)) (.node (o49 P) (.node (o81 P) (.node (o145 P) .nil .nil) (.node (o209 P) .nil .nil)) (.node (o113 P) (.node (o177 P) .nil .nil) .nil))) (.node (o25 P) (.node (o41 P) (.node (o73 P) (.node (o137 P) .nil .nil) (.node (o201 P) .nil .nil)) (.node (o105 P) (.node (o169 P) .nil .nil) .nil)) (.node (o57 P) (.node (o89 P) (.node (o153 P) .nil .nil) .nil) (.node (o121 P) (.node (o185 P) .nil .nil) .nil)))) (.node (o13 P) (.node (o21 P) (.node (o37 P) (.node (o69 P) (.node (o133 P) .nil .nil) (.node (o197 P) .nil .nil)) (.node (o101 P) (.node (o165 P) .nil .nil) .nil)) (.node (o53 P) (.node (o85 P) (.node (o149 P) .nil .nil) (.node (o213 P) .nil .nil)) (.node (o117 P) (.node (o181 P) .nil .nil) .nil))) (.node (o29 P) (.node (o45 P) (.node (o77 P) (.node (o141 P) .nil .nil) (.node (o205 P) .nil .nil)) (.node (o109 P) (.node (o173 P) .nil .nil) .nil)) (.node (o61 P) (.node (o93 P) (.node (o157 P) .nil .nil) .nil) (.node (o125 P) (.node (o189 P) .nil .nil) .nil)))))) (.node (PySem.W.boot_o_2 P) (.node (PySem.W.boot_o_4 P) (.node (PySem.W.boot_o_8 P) (.node (o16 P) (.node (o32 P) (.node (o64 P) (.node (o128 P) .nil .nil) (.node (o192 P) .nil .nil)) (.node (o96 P) (.node (o160 P) .nil .nil) .nil)) (.node (o48 P) (.node (o80 P) (.node (o144 P) .nil .nil) (.node (o208 P) .nil .nil)) (.node (o112 P) (.node (o176 P) .nil .nil) .nil))) (.node (o24 P) (.node (o40 P) (.node (o72 P) (.node (o136 P) .nil .nil) (.node (o200 P) .nil .nil)) (.node (o104 P) (.node (o168 P) .nil .nil) .nil)) (.node (o56 P) (.node (o88 P) (.node (o152 P) .nil .nil) .nil) (.node (o120 P) (.node (o184 P) .nil .nil) .nil)))) (.node (o12p15 P) (.node (o20 P) (.node (o36 P) (.node (o68 P) (.node (o132 P) .nil .nil) (.node (o196 P) .nil .nil)) (.node (o100 P) (.node (o164 P) .nil .nil) .nil)) (.node (o52 P) (.node (o84 P) (.node (o148 P) .nil .nil) (.node (o212 P) .nil .nil)) (.node (o116 P) (.node (o180 P) .nil .nil) .nil))) (.node (o28 P) (.node (o44 P) (.node (o76 P) (.node (o140 P) .nil .nil) (.node (o204 P) .nil .nil)) (.node (o108 P) (.node (o172 P) .nil .nil) .nil)) (.node (o60 P) (.node (o92 P) (.node (o156 P) .nil .nil) .nil) (.node (o124 P) (.node (o188 P) .nil .nil) .nil))))) (.node (PySem.W.boot_o_6 P) (.node (PySem.W.boot_o_10 P) (.node (o18 P) (.node (o34 P) (.node (o66 P) (.node (o130 P) .nil .nil) (.node (o194 P) .nil .nil)) (.node (o98 P) (.node (o162 P) .nil .nil) .nil)) (.node (o50 P) (.node (o82 P) (.node (o146 P) .nil .nil) (.node (o210 P) .nil .nil)) (.node (o114 P) (.node (o178 P) .nil .nil) .nil))) (.node (o26 P) (.node (o42 P) (.node (o74 P) (.node (o138 P) .nil .nil) (.node (o202 P) .nil .nil)) (.node (o106 P) (.node (o170 P) .nil .nil) .nil)) (.node (o58 P) (.node (o90 P) (.node (o154 P) .nil .nil) .nil) (.node (o122 P) (.node (o186 P) .nil .nil) .nil)))) (.node (o14 P) (.node (o22 P) (.node (o38 P) (.node (o70 P) (.node (o134 P) .nil .nil) (.node (o198 P) .nil .nil)) (.node (o102 P) (.node (o166 P) .nil .nil) .nil)) (.node (o54 P) (.node (o86 P) (.node (o150 P) .nil .nil) .nil) (.node (o118 P) (.node (o182 P) .nil .nil) .nil))) (.node (o30 P) (.node (o46 P) (.node (o78 P) (.node (o142 P) .nil .nil) (.node (o206 P) .nil .nil)) (.node (o110 P) (.node (o174 P) .nil .nil) .nil)) (.node (o62 P) (.node (o94 P) (.node (o158 P) .nil .nil) .nil) (.node (o126 P) (.node (o190 P) .nil .nil) .nil)))))))
noncomputable def S_p16 (w : World) (os : OsState) : SharedT := ⟨t_p16 w.params, 214, { }, ⟨[]⟩, { }, 488, os⟩
noncomputable def t_p27 : Params → BT := fun P => (.node (PySem.W.boot_o_0 P) (.node (PySem.W.boot_o_1 P) (.node (o3p27 P) (.node (PySem.W.boot_o_7 P) (.node (o15 P) (.node (o31 P) (.node (o63 P) (.node (o127 P) (.node (o255 P) .nil .nil) .nil) (.node (o191 P) .nil .nil)) (.node (o95 P) (.node (o159 P) .nil .nil) (.node (o223 P) .nil .nil))) (.node (o47 P) (.node (o79 P) (.node (o143 P) (.node (o271 P) .nil .nil) .nil) (.node (o207 P) .nil .nil)) (.node (o111 P) (.node (o175 P) .nil .nil) (.node (o239 P) .nil .nil)))) (.node (o23 P) (.node (o39 P) (.node (o71 P) (.node (o135 P) (.node (o263 P) .nil .nil) .nil) (.node (o199 P) .nil .nil)) (.node (o103 P) (.node (o167 P) .nil .nil) (.node (o231 P) .nil .nil))) (.node (o55 P) (.node (o87 P) (.node (o151 P) (.node (o279 P) .nil .nil) .nil) (.node (o215 P) .nil .nil)) (.node (o119 P) (.node (o183 P) .nil .nil) (.node (o247 P) .nil .nil))))) (.node (o11 P) (.node (o19 P) (.node (o35 P) (.node (o67 P) (.node (o131 P) (.node (o259 P) .nil .nil) .nil) (.node (o195 P) .nil .nil)) (.node (o99 P) (.node (o163 P) .nil .nil) (.node (o227 P) .nil .nil))) (.node (o51 P) (.node (o83 P) (.node (o147 P) (.node (o275 P) .nil .nil) .nil) (.node (o211 P) .nil .nil)) (.node (o115 P) (.node (o179 P) .nil .nil) (.node (o243 P) .nil .nil)))) (.node (o27 P) (.node (o43 P) (.node (o75 P) (.node (o139 P) (.node (o267 P) .nil .nil) .nil) (.node (o203 P) .nil .nil)) (.node (o107 P) (.node (o171 P) .nil .nil) (.node (o235 P) .nil .nil))) (.node (o59 P) (.node (o91 P) (.node (o155 P) (.node (o283 P) .nil .nil) .nil) (.node (o219 P) .nil .nil)) (.node (o123 P) (.node (o187 P) .nil .nil) (.node (o251 P) .nil .nil)))))) (.node (PySem.W.boot_o_5 P) (.node (PySem.W.boot_o_9 P) (.node (o17 P) (.node (o33 P) (.node (o65 P) (.node (o129p14 P) (.node (o257 P) .nil .nil) .nil) (.node (o193 P) .nil .nil)) (.node (o97 P) (.node (o161 P) .nil .nil) (.node (o225 P) .nil .nil))) (.node (o49 P) (.node (o81 P) (.node (o145 P) (.node (o273 P) .nil .nil) .nil) (.node (o209 P) .nil .nil)) (.node (o113 P) (.node (o177 P) .nil .nil) (.node (o241 P) .nil .nil)))) (.node (o25 P) (.node (o41 P) (.node (o73 P) (.node (o137 P) (.node (o265 P) .nil .nil) .nil) (.node (o201 P) .nil .nil)) (.node (o105 P) (.node (o169 P) .nil .nil) (.node (o233 P) .nil .nil))) (.node (o57 P) (.node (o89 P) (.node (o153 P) (.node (o281 P) .nil .nil) .nil) (.node (o217 P) .nil .nil)) (.node (o121 P) (.node (o185 P) .nil .nil) (.node (o249 P) .nil .nil))))) (.node (o13 P) (.node (o21 P) (.node (o37 P) (.node (o69 P) (.node (o133 P) (.node (o261 P) .nil .nil) .nil) (.node (o197 P) .nil .nil)) (.node (o101 P) (.node (o165 P) .nil .nil) (.node (o229 P) .nil .nil))) (.node (o53 P) (.node (o85 P) (.node (o149 P) (.node (o277 P) .nil .nil) .nil) (.node (o213 P) .nil .nil)) (.node (o117 P) (.node (o181 P) .nil .nil) (.node (o245 P) .nil .nil)))) (.node (o29 P) (.node (o45 P) (.node (o77 P) (.node (o141 P) (.node (o269 P) .nil .nil) .nil) (.node (o205 P) .nil .nil)) (.node (o109 P) (.node (o173 P) .nil .nil) (.node (o237 P) .nil .nil))) (.node (o61 P) (.node (o93 P) (.node (o157 P) (.node (o285 P) .nil .nil) .nil) (.node (o221 P) .nil .nil)) (.node (o125 P) (.node (o189 P) .nil .nil) (.node (o253 P) .nil .nil))))))) (.node (PySem.W.boot_o_2 P) (.node (PySem.W.boot_o_4 P) (.node (PySem.W.boot_o_8 P) (.node (o16 P) (.node (o32 P) (.node (o64 P) (.node (o128 P) (.node (o256 P) .nil .nil) .nil) (.node (o192 P) .nil .nil)) (.node (o96 P) (.node (o160 P) .nil .nil) (.node (o224 P) .nil .nil))) (.node (o48 P) (.node (o80 P) (.node (o144 P) (.node (o272 P) .nil .nil) .nil) (.node (o208 P) .nil .nil)) (.node (o112 P) (.node (o176 P) .nil .nil) (.node (o240 P) .nil .nil)))) (.node (o24 P) (.node (o40 P) (.node (o72 P) (.node (o136 P) (.node (o264 P) .nil .nil) .nil) (.node (o200 P) .nil .nil)) (.node (o104 P) (.node (o168 P) .nil .nil) (.node (o232 P) .nil .nil))) (.node (o56 P) (.node (o88 P) (.node (o152 P) (.node (o280 P) .nil .nil) .nil) (.node (o216 P) .nil .nil)) (.node (o120 P) (.node (o184 P) .nil .nil) (.node (o248 P) .nil .nil))))) (.node (o12p27 P) (.node (o20 P) (.node (o36 P) (.node (o68 P) (.node (o132 P) (.node (o260 P) .nil .nil) .nil) (.node (o196 P) .nil .nil)) (.node (o100 P) (.node (o164 P) .nil .nil) (.node (o228 P) .nil .nil))) (.node (o52 P) (.node (o84 P) (.node (o148 P) (.node (o276 P) .nil .nil) .nil) (.node (o212 P) .nil .nil)) (.node (o116 P) (.node (o180 P) .nil .nil) (.node (o244 P) .nil .nil)))) (.node (o28 P) (.node (o44 P) (.node (o76 P) (.node (o140 P) (.node (o268 P) .nil .nil) .nil) (.node (o204 P) .nil .nil)) (.node (o108 P) (.node (o172 P) .nil .nil) (.node (o236 P) .nil .nil))) (.node (o60 P) (.node (o92 P) (.node (o156 P) (.node (o284 P) .nil .nil) .nil) (.node (o220 P) .nil .nil)) (.node (o124 P) (.node (o188 P) .nil .nil) (.node (o252 P) .nil .nil)))))) (.node (PySem.W.boot_o_6 P) (.node (PySem.W.boot_o_10 P) (.node (o18 P) (.node (o34 P) (.node (o66 P) (.node (o130 P) (.node (o258 P) .nil .nil) .nil) (.node (o194 P) .nil .nil)) (.node (o98 P) (.node (o162 P) .nil .nil) (.node (o226 P) .nil .nil))) (.node (o50 P) (.node (o82 P) (.node (o146 P) (.node (o274 P) .nil .nil) .nil) (.node (o210 P) .nil .nil)) (.node (o114 P) (.node (o178 P) .nil .nil) (.node (o242 P) .nil .nil)))) (.node (o26 P) (.node (o42 P) (.node (o74 P) (.node (o138 P) (.node (o266 P) .nil .nil) .nil) (.node (o202 P) .nil .nil)) (.node (o106 P) (.node (o170 P) .nil .nil) (.node (o234 P) .nil .nil))) (.node (o58 P) (.node (o90 P) (.node (o154 P) (.node (o282 P) .nil .nil) .nil) (.node (o218 P) .nil .nil)) (.node (o122 P) (.node (o186 P) .nil .nil) (.node (o250 P) .nil .nil))))) (.node (o14 P) (.node (o22 P) (.node (o38 P) (.node (o70 P) (.node (o134 P) (.node (o262 P) .nil .nil) .nil) (.node (o198 P) .nil .nil)) (.node (o102 P) (.node (o166 P) .nil .nil) (.node (o230 P) .nil .nil))) (.node (o54 P) (.node (o86 P) (.node (o150 P) (.node (o278 P) .nil .nil) .nil) (.node (o214 P) .nil .nil)) (.node (o118 P) (.node (o182 P) .nil .nil) (.node (o246 P) .nil .nil)))) (.node (o30 P) (.node (o46 P) (.node (o78 P) (.node (o142 P) (.node (o270 P) .nil .nil) .nil) (.node (o206 P) .nil .nil)) (.node (o110 P) (.node (o174 P) .nil .nil) (.node (o238 P) .nil .nil))) (.node (o62 P) (.node (o94 P) (.node (o158 P) (.node (o286 P) .nil .nil) .nil) (.node (o222 P) .nil .nil)) (.node (o126 P) (.node (o190 P) .nil .nil) (.node (o254 P) .nil .nil))))))))
noncomputable def S_p27 (w : World) (os : OsState) : SharedT := ⟨t_p27 w.params, 287, { }, ⟨[]⟩, { }, 600, os⟩
noncomputable def eE : Env := { scope := PP.main.scope, locals := mainNs, globals := mainNs, cells := [], code := PySem.Value.ref 13, frame := some 14 }
noncomputable def g_0 : List Stmt := [nthS PP.main.body 0, nthS PP.main.body 1, nthS PP.main.body 2, nthS PP.main.body 3, nthS PP.main.body 4, nthS PP.main.body 5, nthS PP.main.body 6, nthS PP.main.body 7, nthS PP.main.body 8, nthS PP.main.body 9]
noncomputable def g_1 : List Stmt := [nthS PP.main.body 10, nthS PP.main.body 11, nthS PP.main.body 12]
noncomputable def g_2 : List Stmt := [nthS PP.main.body 13]
noncomputable def g_3 : List Stmt := [nthS PP.main.body 14, nthS PP.main.body 15, nthS PP.main.body 16]
noncomputable def g_4 : List Stmt := [nthS PP.main.body 17, nthS PP.main.body 18, nthS PP.main.body 19, nthS PP.main.body 20, nthS PP.main.body 21, nthS PP.main.body 22, nthS PP.main.body 23, nthS PP.main.body 24, nthS PP.main.body 25, nthS PP.main.body 26, nthS PP.main.body 27]
noncomputable abbrev bE : List Stmt := g_0 ++ (g_1 ++ (g_2 ++ (g_3 ++ (g_4 ++ ([])))))
noncomputable abbrev cE : Code := .body bE eE
theorem hOpen : ∀ w : World, (fencedOpening treeTable PP w 3952).map (fun s => (s.heap, s.gens, s.drawn, s.toks)) = some (PySem.W.boot_heap w.params, Array.mk [], PySem.W.boot_drawn, PySem.W.boot_toks) := boot_open (by kernel_rfl) (by decide) (fun s => by kernel_rfl)
theorem hSize : ∀ w : World, ((PySem.W.boot_heap w.params).isNs mainGlobals && (Array.mk [] : Array GenState).size == 0, (PySem.W.boot_heap w.params).objs.size, (PySem.W.boot_heap w.params).nsMap mainGlobals "__annotations__") = (true, 11, (Option.some (PySem.Value.ref 6) : Option Value)) := fun w => by kernel_rfl
theorem hPre (w : World) (os : OsState) : topGo treeTable PP w 11 (Option.some (PySem.Value.ref 6) : Option Value) 12 ⟨PySem.W.boot_heap w.params, Array.mk [], PySem.W.boot_drawn, PySem.W.boot_toks, os⟩ (topStub PP) = some (⟨h_a w.params, Array.mk [], { }, 187, os⟩, ⟨denote treeTable cE, cE, { line := 0, col := 0, endLine := 0, endCol := 0 }, [topFrame { line := 0, col := 0, endLine := 0, endCol := 0 }]⟩) := by kernel_rfl
theorem hBlock (w : World) (os : OsState) : segRun treeTable PP w 11 (Option.some (PySem.Value.ref 6) : Option Value) 1 1 ⟨h_a w.params, Array.mk [], { }, 187, os⟩ (blockOf bE eE cE { line := 0, col := 0, endLine := 0, endCol := 0 } [topFrame { line := 0, col := 0, endLine := 0, endCol := 0 }]) = some (.next, (S_b w os).abs, cE, { line := 0, col := 0, endLine := 0, endCol := 0 }) := by kernel_rfl
theorem hG_0 (w : World) (os : OsState) : segRunT treeTable PP w 11 (Option.some (PySem.Value.ref 6) : Option Value) 1 446 (S_b w os) (piecesOf g_0 eE cE { line := 0, col := 0, endLine := 0, endCol := 0 } [topFrame { line := 0, col := 0, endLine := 0, endCol := 0 }]) = some (.next, S_p9 w os, cE, { line := 51, col := 0, endLine := 54, endCol := 12 }) := by kernel_rfl
theorem hG_1 (w : World) (os : OsState) : segRunT treeTable PP w 11 (Option.some (PySem.Value.ref 6) : Option Value) 1 398 (S_p9 w os) (piecesOf g_1 eE cE { line := 51, col := 0, endLine := 54, endCol := 12 } [topFrame { line := 0, col := 0, endLine := 0, endCol := 0 }]) = some (.next, S_p12 w os, cE, { line := 59, col := 0, endLine := 87, endCol := 53 }) := by kernel_rfl
theorem hG_2 (w : World) (os : OsState) : segRunT treeTable PP w 11 (Option.some (PySem.Value.ref 6) : Option Value) 1 283 (S_p12 w os) (piecesOf g_2 eE cE { line := 59, col := 0, endLine := 87, endCol := 53 } [topFrame { line := 0, col := 0, endLine := 0, endCol := 0 }]) = some (.next, S_p13 w os, cE, { line := 88, col := 0, endLine := 98, endCol := 32 }) := by kernel_rfl
theorem hG_3 (w : World) (os : OsState) : segRunT treeTable PP w 11 (Option.some (PySem.Value.ref 6) : Option Value) 1 440 (S_p13 w os) (piecesOf g_3 eE cE { line := 88, col := 0, endLine := 98, endCol := 32 } [topFrame { line := 0, col := 0, endLine := 0, endCol := 0 }]) = some (.next, S_p16 w os, cE, { line := 138, col := 0, endLine := 138, endCol := 8 }) := by kernel_rfl
theorem hG_4 (w : World) (os : OsState) : segRunT treeTable PP w 11 (Option.some (PySem.Value.ref 6) : Option Value) 1 351 (S_p16 w os) (piecesOf g_4 eE cE { line := 138, col := 0, endLine := 138, endCol := 8 } [topFrame { line := 0, col := 0, endLine := 0, endCol := 0 }]) = some (.next, S_p27 w os, cE, { line := 206, col := 0, endLine := 223, endCol := 101 }) := by kernel_rfl
theorem hFin (w : World) (os : OsState) : topRun treeTable PP w 11 (Option.some (PySem.Value.ref 6) : Option Value) 2 (S_p27 w os).abs ⟨doneF .next, cE, { line := 206, col := 0, endLine := 223, endCol := 101 }, [topFrame { line := 0, col := 0, endLine := 0, endCol := 0 }]⟩ = some ⟨h_f w.params, Array.mk [], { }, 600, os⟩ := by kernel_rfl
theorem hRun : ∀ (w : World) (os : OsState), topRun treeTable PP w 11 (Option.some (PySem.Value.ref 6) : Option Value) (12 + (1 + (446 + (398 + (283 + (440 + (351 + 2))))))) ⟨PySem.W.boot_heap w.params, Array.mk [], PySem.W.boot_drawn, PySem.W.boot_toks, os⟩ (topStub PP) = some ⟨h_f w.params, Array.mk [], { }, 600, os⟩ := fun w os => go_top (hPre w os) (piece_block (hBlock w os) (piece_app (segRun_of (hG_0 w os)) (piece_app (segRun_of (hG_1 w os)) (piece_app (segRun_of (hG_2 w os)) (piece_app (segRun_of (hG_3 w os)) (piece_app (segRun_of (hG_4 w os)) (piece_nil (hFin w os))))))))
noncomputable def K : Params → Frag := (fun (n0 : Str) (a0 : Arguments) (b0 : List Stmt) (d0 : List Expr) (r0 : Option Expr) (t0 : List TypeParam) (s0 : PySem.Scope) (u0 : Option PySem.Scope) (m0 : Str) (p0 : Pos) (_ : (nthS (fdB (nthS PP.main.body 1)) 0) = .FunctionDef n0 a0 b0 d0 r0 t0 s0 u0 m0 p0) (n1 : Str) (a1 : Arguments) (b1 : List Stmt) (d1 : List Expr) (r1 : Option Expr) (t1 : List TypeParam) (s1 : PySem.Scope) (u1 : Option PySem.Scope) (m1 : Str) (p1 : Pos) (_ : (nthS PP.main.body 2) = .FunctionDef n1 a1 b1 d1 r1 t1 s1 u1 m1 p1) (n2 : Str) (a2 : Arguments) (b2 : List Stmt) (d2 : List Expr) (r2 : Option Expr) (t2 : List TypeParam) (s2 : PySem.Scope) (u2 : Option PySem.Scope) (m2 : Str) (p2 : Pos) (_ : (nthS PP.main.body 3) = .FunctionDef n2 a2 b2 d2 r2 t2 s2 u2 m2 p2) (n3 : Str) (a3 : Arguments) (b3 : List Stmt) (d3 : List Expr) (r3 : Option Expr) (t3 : List TypeParam) (s3 : PySem.Scope) (u3 : Option PySem.Scope) (m3 : Str) (p3 : Pos) (_ : (nthS PP.main.body 5) = .FunctionDef n3 a3 b3 d3 r3 t3 s3 u3 m3 p3) (n4 : Str) (a4 : Arguments) (b4 : List Stmt) (d4 : List Expr) (r4 : Option Expr) (t4 : List TypeParam) (s4 : PySem.Scope) (u4 : Option PySem.Scope) (m4 : Str) (p4 : Pos) (_ : (nthS PP.main.body 6) = .FunctionDef n4 a4 b4 d4 r4 t4 s4 u4 m4 p4) (n5 : Str) (a5 : Arguments) (b5 : List Stmt) (d5 : List Expr) (r5 : Option Expr) (t5 : List TypeParam) (s5 : PySem.Scope) (u5 : Option PySem.Scope) (m5 : Str) (p5 : Pos) (_ : (nthS PP.main.body 7) = .FunctionDef n5 a5 b5 d5 r5 t5 s5 u5 m5 p5) (n6 : Str) (a6 : Arguments) (b6 : List Stmt) (d6 : List Expr) (r6 : Option Expr) (t6 : List TypeParam) (s6 : PySem.Scope) (u6 : Option PySem.Scope) (m6 : Str) (p6 : Pos) (_ : (nthS PP.main.body 9) = .FunctionDef n6 a6 b6 d6 r6 t6 s6 u6 m6 p6) (n7 : Str) (a7 : Arguments) (b7 : List Stmt) (d7 : List Expr) (r7 : Option Expr) (t7 : List TypeParam) (s7 : PySem.Scope) (u7 : Option PySem.Scope) (m7 : Str) (p7 : Pos) (_ : (nthS PP.main.body 10) = .FunctionDef n7 a7 b7 d7 r7 t7 s7 u7 m7 p7) (n8 : Str) (a8 : Arguments) (b8 : List Stmt) (d8 : List Expr) (r8 : Option Expr) (t8 : List TypeParam) (s8 : PySem.Scope) (u8 : Option PySem.Scope) (m8 : Str) (p8 : Pos) (_ : (nthS (fdB (nthS PP.main.body 12)) 0) = .FunctionDef n8 a8 b8 d8 r8 t8 s8 u8 m8 p8) (n9 : Str) (a9 : Arguments) (b9 : List Stmt) (d9 : List Expr) (r9 : Option Expr) (t9 : List TypeParam) (s9 : PySem.Scope) (u9 : Option PySem.Scope) (m9 : Str) (p9 : Pos) (_ : (nthS (fdB (nthS PP.main.body 12)) 1) = .FunctionDef n9 a9 b9 d9 r9 t9 s9 u9 m9 p9) (n10 : Str) (a10 : Arguments) (b10 : List Stmt) (d10 : List Expr) (r10 : Option Expr) (t10 : List TypeParam) (s10 : PySem.Scope) (u10 : Option PySem.Scope) (m10 : Str) (p10 : Pos) (_ : (nthS (fdB (nthS PP.main.body 12)) 2) = .FunctionDef n10 a10 b10 d10 r10 t10 s10 u10 m10 p10) (n11 : Str) (a11 : Arguments) (b11 : List Stmt) (d11 : List Expr) (r11 : Option Expr) (t11 : List TypeParam) (s11 : PySem.Scope) (u11 : Option PySem.Scope) (m11 : Str) (p11 : Pos) (_ : (nthS (fdB (nthS PP.main.body 12)) 3) = .FunctionDef n11 a11 b11 d11 r11 t11 s11 u11 m11 p11) (n12 : Str) (a12 : Arguments) (b12 : List Stmt) (d12 : List Expr) (r12 : Option Expr) (t12 : List TypeParam) (s12 : PySem.Scope) (u12 : Option PySem.Scope) (m12 : Str) (p12 : Pos) (_ : (nthS (fdB (nthS PP.main.body 12)) 4) = .FunctionDef n12 a12 b12 d12 r12 t12 s12 u12 m12 p12) (n13 : Str) (a13 : Arguments) (b13 : List Stmt) (d13 : List Expr) (r13 : Option Expr) (t13 : List TypeParam) (s13 : PySem.Scope) (u13 : Option PySem.Scope) (m13 : Str) (p13 : Pos) (_ : (nthS (fdB (nthS PP.main.body 13)) 0) = .FunctionDef n13 a13 b13 d13 r13 t13 s13 u13 m13 p13) (n14 : Str) (a14 : Arguments) (b14 : List Stmt) (d14 : List Expr) (r14 : Option Expr) (t14 : List TypeParam) (s14 : PySem.Scope) (u14 : Option PySem.Scope) (m14 : Str) (p14 : Pos) (_ : (nthS (fdB (nthS PP.main.body 13)) 1) = .FunctionDef n14 a14 b14 d14 r14 t14 s14 u14 m14 p14) (n15 : Str) (a15 : Arguments) (b15 : List Stmt) (d15 : List Expr) (r15 : Option Expr) (t15 : List TypeParam) (s15 : PySem.Scope) (u15 : Option PySem.Scope) (m15 : Str) (p15 : Pos) (_ : (nthS (fdB (nthS PP.main.body 14)) 0) = .FunctionDef n15 a15 b15 d15 r15 t15 s15 u15 m15 p15) (n16 : Str) (a16 : Arguments) (b16 : List Stmt) (d16 : List Expr) (r16 : Option Expr) (t16 : List TypeParam) (s16 : PySem.Scope) (u16 : Option PySem.Scope) (m16 : Str) (p16 : Pos) (_ : (nthS (fdB (nthS PP.main.body 14)) 1) = .FunctionDef n16 a16 b16 d16 r16 t16 s16 u16 m16 p16) (n17 : Str) (a17 : Arguments) (b17 : List Stmt) (d17 : List Expr) (r17 : Option Expr) (t17 : List TypeParam) (s17 : PySem.Scope) (u17 : Option PySem.Scope) (m17 : Str) (p17 : Pos) (_ : (nthS (fdB (nthS PP.main.body 14)) 2) = .FunctionDef n17 a17 b17 d17 r17 t17 s17 u17 m17 p17) (n18 : Str) (a18 : Arguments) (b18 : List Stmt) (d18 : List Expr) (r18 : Option Expr) (t18 : List TypeParam) (s18 : PySem.Scope) (u18 : Option PySem.Scope) (m18 : Str) (p18 : Pos) (_ : (nthS (fdB (nthS PP.main.body 14)) 3) = .FunctionDef n18 a18 b18 d18 r18 t18 s18 u18 m18 p18) (n19 : Str) (a19 : Arguments) (b19 : List Stmt) (d19 : List Expr) (r19 : Option Expr) (t19 : List TypeParam) (s19 : PySem.Scope) (u19 : Option PySem.Scope) (m19 : Str) (p19 : Pos) (_ : (nthS (fdB (nthS PP.main.body 14)) 4) = .FunctionDef n19 a19 b19 d19 r19 t19 s19 u19 m19 p19) (n20 : Str) (a20 : Arguments) (b20 : List Stmt) (d20 : List Expr) (r20 : Option Expr) (t20 : List TypeParam) (s20 : PySem.Scope) (u20 : Option PySem.Scope) (m20 : Str) (p20 : Pos) (_ : (nthS PP.main.body 15) = .FunctionDef n20 a20 b20 d20 r20 t20 s20 u20 m20 p20) (n21 : Str) (a21 : Arguments) (b21 : List Stmt) (d21 : List Expr) (r21 : Option Expr) (t21 : List TypeParam) (s21 : PySem.Scope) (u21 : Option PySem.Scope) (m21 : Str) (p21 : Pos) (_ : (nthS PP.main.body 17) = .FunctionDef n21 a21 b21 d21 r21 t21 s21 u21 m21 p21) (n22 : Str) (a22 : Arguments) (b22 : List Stmt) (d22 : List Expr) (r22 : Option Expr) (t22 : List TypeParam) (s22 : PySem.Scope) (u22 : Option PySem.Scope) (m22 : Str) (p22 : Pos) (_ : (nthS PP.main.body 18) = .FunctionDef n22 a22 b22 d22 r22 t22 s22 u22 m22 p22) (n23 : Str) (a23 : Arguments) (b23 : List Stmt) (d23 : List Expr) (r23 : Option Expr) (t23 : List TypeParam) (s23 : PySem.Scope) (u23 : Option PySem.Scope) (m23 : Str) (p23 : Pos) (_ : (nthS PP.main.body 19) = .FunctionDef n23 a23 b23 d23 r23 t23 s23 u23 m23 p23) (n24 : Str) (a24 : Arguments) (b24 : List Stmt) (d24 : List Expr) (r24 : Option Expr) (t24 : List TypeParam) (s24 : PySem.Scope) (u24 : Option PySem.Scope) (m24 : Str) (p24 : Pos) (_ : (nthS PP.main.body 20) = .FunctionDef n24 a24 b24 d24 r24 t24 s24 u24 m24 p24) (n25 : Str) (a25 : Arguments) (b25 : List Stmt) (d25 : List Expr) (r25 : Option Expr) (t25 : List TypeParam) (s25 : PySem.Scope) (u25 : Option PySem.Scope) (m25 : Str) (p25 : Pos) (_ : (nthS PP.main.body 21) = .FunctionDef n25 a25 b25 d25 r25 t25 s25 u25 m25 p25) (n26 : Str) (a26 : Arguments) (b26 : List Stmt) (d26 : List Expr) (r26 : Option Expr) (t26 : List TypeParam) (s26 : PySem.Scope) (u26 : Option PySem.Scope) (m26 : Str) (p26 : Pos) (_ : (nthS PP.main.body 22) = .FunctionDef n26 a26 b26 d26 r26 t26 s26 u26 m26 p26) (n27 : Str) (a27 : Arguments) (b27 : List Stmt) (d27 : List Expr) (r27 : Option Expr) (t27 : List TypeParam) (s27 : PySem.Scope) (u27 : Option PySem.Scope) (m27 : Str) (p27 : Pos) (_ : (nthS PP.main.body 23) = .FunctionDef n27 a27 b27 d27 r27 t27 s27 u27 m27 p27) (n28 : Str) (a28 : Arguments) (b28 : List Stmt) (d28 : List Expr) (r28 : Option Expr) (t28 : List TypeParam) (s28 : PySem.Scope) (u28 : Option PySem.Scope) (m28 : Str) (p28 : Pos) (_ : (nthS PP.main.body 24) = .FunctionDef n28 a28 b28 d28 r28 t28 s28 u28 m28 p28) (n29 : Str) (a29 : Arguments) (b29 : List Stmt) (d29 : List Expr) (r29 : Option Expr) (t29 : List TypeParam) (s29 : PySem.Scope) (u29 : Option PySem.Scope) (m29 : Str) (p29 : Pos) (_ : (nthS PP.main.body 25) = .FunctionDef n29 a29 b29 d29 r29 t29 s29 u29 m29 p29) (n30 : Str) (a30 : Arguments) (b30 : List Stmt) (d30 : List Expr) (r30 : Option Expr) (t30 : List TypeParam) (s30 : PySem.Scope) (u30 : Option PySem.Scope) (m30 : Str) (p30 : Pos) (_ : (nthS PP.main.body 26) = .FunctionDef n30 a30 b30 d30 r30 t30 s30 u30 m30 p30) (n31 : Str) (a31 : Arguments) (b31 : List Stmt) (d31 : List Expr) (r31 : Option Expr) (t31 : List TypeParam) (s31 : PySem.Scope) (u31 : Option PySem.Scope) (m31 : Str) (p31 : Pos) (_ : (nthS PP.main.body 27) = .FunctionDef n31 a31 b31 d31 r31 t31 s31 u31 m31 p31) => fun P => ((nat_lit 2, { cls := PySem.Value.none, data := PySem.Data.dict #[] }) :: (nat_lit 3, { cls := PySem.Value.type "dict", data := PySem.Data.dict #[{ hash := PySem.PyData.keyHash P (PySem.Str.ofString "__name__"), key := PySem.Value.str (PySem.Str.ofString "__name__") 165, val := PySem.Value.str (PySem.Str.ofString "law_ys0001_05") 486 }, { hash := PySem.PyData.keyHash P (PySem.Str.ofString "__doc__"), key := PySem.Value.str (PySem.Str.ofString "__doc__") 166, val := PySem.Value.none }, { hash := PySem.PyData.keyHash P (PySem.Str.ofString "__package__"), key := PySem.Value.str (PySem.Str.ofString "__package__") 167, val := PySem.Value.none }, { hash := PySem.PyData.keyHash P (PySem.Str.ofString "__loader__"), key := PySem.Value.str (PySem.Str.ofString "__loader__") 168, val := PySem.Value.builtin "__main__.__loader__#opaque" }, { hash := PySem.PyData.keyHash P (PySem.Str.ofString "__spec__"), key := PySem.Value.str (PySem.Str.ofString "__spec__") 169, val := PySem.Value.none }, { hash := PySem.PyData.keyHash P (PySem.Str.ofString "__annotations__"), key := PySem.Value.str (PySem.Str.ofString "__annotations__") 170, val := PySem.Value.ref 6 }, { hash := PySem.PyData.keyHash P (PySem.Str.ofString "__builtins__"), key := PySem.Value.str (PySem.Str.ofString "__builtins__") 171, val := PySem.Value.ref 4 }, { hash := PySem.PyData.keyHash P (PySem.Str.ofString "__file__"), key := PySem.Value.str (PySem.Str.ofString "__file__") 173, val := PySem.Value.str (PySem.Str.ofString "/claim/cut.py") 172 }, { hash := PySem.PyData.keyHash P (PySem.Str.ofString "__cached__"), key := PySem.Value.str (PySem.Str.ofString "__cached__") 174, val := PySem.Value.none }, { hash := PySem.PyData.keyHash P (PySem.Str.ofString "NotRelativePrimeError"), key := PySem.Value.str (PySem.Str.ofString "NotRelativePrimeError") 221, val := PySem.Value.ref 32 }, { hash := PySem.PyData.keyHash P (PySem.Str.ofString "extended_gcd"), key := PySem.Value.str (PySem.Str.ofString "extended_gcd") 236, val := PySem.Value.ref 42 }, { hash := PySem.PyData.keyHash P (PySem.Str.ofString "inverse"), key := PySem.Value.str (PySem.Str.ofString "inverse") 247, val := PySem.Value.ref 49 }, { hash := PySem.PyData.keyHash P (PySem.Str.ofString "assert_int"), key := PySem.Value.str (PySem.Str.ofString "assert_int") 257, val := PySem.Value.ref 56 }, { hash := PySem.PyData.keyHash P (PySem.Str.ofString "encrypt_int"), key := PySem.Value.str (PySem.Str.ofString "encrypt_int") 266, val := PySem.Value.ref 63 }, { hash := PySem.PyData.keyHash P (PySem.Str.ofString "decrypt_int"), key := PySem.Value.str (PySem.Str.ofString "decrypt_int") 276, val := PySem.Value.ref 70 }, { hash := PySem.PyData.keyHash P (PySem.Str.ofString "gcd"), key := PySem.Value.str (PySem.Str.ofString "gcd") 286, val := PySem.Value.ref 77 }, { hash := PySem.PyData.keyHash P (PySem.Str.ofString "are_relatively_prime"), key := PySem.Value.str (PySem.Str.ofString "are_relatively_prime") 295, val := PySem.Value.ref 84 }, { hash := PySem.PyData.keyHash P (PySem.Str.ofString "AbstractKey"), key := PySem.Value.str (PySem.Str.ofString "AbstractKey") 365, val := PySem.Value.ref 129 }, { hash := PySem.PyData.keyHash P (PySem.Str.ofString "PublicKey"), key := PySem.Value.str (PySem.Str.ofString "PublicKey") 398, val := PySem.Value.ref 157 }, { hash := PySem.PyData.keyHash P (PySem.Str.ofString "PrivateKey"), key := PySem.Value.str (PySem.Str.ofString "PrivateKey") 474, val := PySem.Value.ref 204 }, { hash := PySem.PyData.keyHash P (PySem.Str.ofString "calculate_keys_custom_exponent"), key := PySem.Value.str (PySem.Str.ofString "calculate_keys_custom_exponent") 485, val := PySem.Value.ref 213 }, { hash := PySem.PyData.keyHash P (PySem.Str.ofString "_law_state"), key := PySem.Value.str (PySem.Str.ofString "_law_state") 493, val := PySem.Value.ref 218 }, { hash := PySem.PyData.keyHash P (PySem.Str.ofString "_law_take"), key := PySem.Value.str (PySem.Str.ofString "_law_take") 505, val := PySem.Value.ref 225 }, { hash := PySem.PyData.keyHash P (PySem.Str.ofString "_law_great"), key := PySem.Value.str (PySem.Str.ofString "_law_great") 515, val := PySem.Value.ref 232 }, { hash := PySem.PyData.keyHash P (PySem.Str.ofString "_law_number"), key := PySem.Value.str (PySem.Str.ofString "_law_number") 523, val := PySem.Value.ref 239 }, { hash := PySem.PyData.keyHash P (PySem.Str.ofString "_law_gcd"), key := PySem.Value.str (PySem.Str.ofString "_law_gcd") 532, val := PySem.Value.ref 246 }, { hash := PySem.PyData.keyHash P (PySem.Str.ofString "_law_prime"), key := PySem.Value.str (PySem.Str.ofString "_law_prime") 538, val := PySem.Value.ref 251 }, { hash := PySem.PyData.keyHash P (PySem.Str.ofString "_law_primes"), key := PySem.Value.str (PySem.Str.ofString "_law_primes") 547, val := PySem.Value.ref 258 }, { hash := PySem.PyData.keyHash P (PySem.Str.ofString "_law_exponent"), key := PySem.Value.str (PySem.Str.ofString "_law_exponent") 557, val := PySem.Value.ref 265 }, { hash := PySem.PyData.keyHash P (PySem.Str.ofString "_law_power"), key := PySem.Value.str (PySem.Str.ofString "_law_power") 568, val := PySem.Value.ref 272 }, { hash := PySem.PyData.keyHash P (PySem.Str.ofString "_law_message"), key := PySem.Value.str (PySem.Str.ofString "_law_message") 579, val := PySem.Value.ref 279 }, { hash := PySem.PyData.keyHash P (PySem.Str.ofString "law"), key := PySem.Value.str (PySem.Str.ofString "law") 599, val := PySem.Value.ref 286 }] 32 }) :: (nat_lit 15, { cls := PySem.Value.type "tuple", data := PySem.Data.seq #[PySem.Value.type "ValueError"] }) :: (nat_lit 22, { cls := PySem.Value.type "tuple", data := PySem.Data.seq #[PySem.Value.str (PySem.Str.ofString "") 201] }) :: (nat_lit 23, { cls := PySem.Value.type "tuple", data := PySem.Data.seq #[] }) :: (nat_lit 25, { cls := PySem.Value.type "tuple", data := PySem.Data.seq #[PySem.Value.str (PySem.Str.ofString "self") 205, PySem.Value.str (PySem.Str.ofString "a") 206, PySem.Value.str (PySem.Str.ofString "b") 207, PySem.Value.str (PySem.Str.ofString "d") 208, PySem.Value.str (PySem.Str.ofString "msg") 209] }) :: (nat_lit 26, { cls := PySem.Value.type "tuple", data := PySem.Data.seq #[] }) :: (nat_lit 28, { cls := PySem.Value.type "code", data := PySem.Data.fields #[PySem.Value.str (PySem.Str.ofString "__init__") 202, PySem.Value.str (PySem.Str.ofString "NotRelativePrimeError.__init__") 203, PySem.Value.str (PySem.Str.ofString "/claim/cut.py") 204, PySem.Value.int 4 0, PySem.Value.int 5 0, PySem.Value.int 0 0, PySem.Value.int 0 0, PySem.Value.int 3 0, PySem.Value.ref 23, PySem.Value.bool Bool.true, PySem.Value.int 181 0, PySem.Value.ref 24, PySem.Value.none, PySem.Value.ref 25, PySem.Value.ref 26, PySem.Value.ref 27, PySem.Value.int 210 0, PySem.Value.int 4 0, PySem.Value.str (PySem.Str.ofString "/claim/cut.py") 211] }) :: (nat_lit 29, { cls := PySem.Value.type "function", data := PySem.Data.func { name := PySem.Str.ofString "__init__", qualname := PySem.Str.ofString "NotRelativePrimeError.__init__", params := a0, body := PySem.FuncBody.stmts b0, scope := s0, globals := 3, closure := [], defaults := PySem.Value.ref 22, kwdefaults := PySem.Value.none, pyModule := PySem.Value.str (PySem.Str.ofString "rsa.common") 187, code := PySem.Value.ref 28 } }) :: (nat_lit 30, { cls := PySem.Value.type "tuple", data := PySem.Data.seq #[PySem.Value.str (PySem.Str.ofString "a") 213, PySem.Value.str (PySem.Str.ofString "b") 214, PySem.Value.str (PySem.Str.ofString "d") 215] }) :: (nat_lit 31, { cls := PySem.Value.type "dict", data := PySem.Data.dict #[{ hash := PySem.PyData.keyHash P (PySem.Str.ofString "__module__"), key := PySem.Value.str (PySem.Str.ofString "__module__") 196, val := PySem.Value.str (PySem.Str.ofString "rsa.common") 187 }, { hash := PySem.PyData.keyHash P (PySem.Str.ofString "__firstlineno__"), key := PySem.Value.str (PySem.Str.ofString "__firstlineno__") 200, val := PySem.Value.int 2 199 }, { hash := PySem.PyData.keyHash P (PySem.Str.ofString "__init__"), key := PySem.Value.str (PySem.Str.ofString "__init__") 212, val := PySem.Value.ref 29 }, { hash := PySem.PyData.keyHash P (PySem.Str.ofString "__static_attributes__"), key := PySem.Value.str (PySem.Str.ofString "__static_attributes__") 216, val := PySem.Value.ref 30 }, { hash := PySem.PyData.keyHash P (PySem.Str.ofString "__weakref__"), key := PySem.Value.str (PySem.Str.ofString "__weakref__") 218, val := PySem.Value.ref 33 }, { hash := PySem.PyData.keyHash P (PySem.Str.ofString "__doc__"), key := PySem.Value.str (PySem.Str.ofString "__doc__") 219, val := PySem.Value.none }] 3 }) :: (nat_lit 32, { cls := PySem.Value.type "type", data := PySem.Data.cls { name := PySem.Str.ofString "NotRelativePrimeError", bases := [PySem.Value.type "ValueError"], mro := [PySem.Value.ref 32, PySem.Value.type "ValueError", PySem.Value.type "Exception", PySem.Value.type "BaseException", PySem.Value.type "object"], ns := 31, qualname := PySem.Str.ofString "NotRelativePrimeError" }, slots := #[Option.some (PySem.Value.ref 15), Option.none, Option.some (PySem.Value.str (PySem.Str.ofString "NotRelativePrimeError") 189), Option.some (PySem.Value.str (PySem.Str.ofString "NotRelativePrimeError") 197), Option.some (PySem.Value.builtin "ValueError.__new__"), Option.some (PySem.Value.bool Bool.true)] }) :: (nat_lit 33, { cls := PySem.Value.type "getset_descriptor", data := PySem.Data.fields #[PySem.Value.str (PySem.Str.ofString "__weakref__") 217, PySem.Value.ref 32, PySem.Value.builtin "ExceptionGroup.__weakref__", PySem.Value.none] }) :: (nat_lit 36, { cls := PySem.Value.type "tuple", data := PySem.Data.seq #[] }) :: (nat_lit 38, { cls := PySem.Value.type "tuple", data := PySem.Data.seq #[PySem.Value.str (PySem.Str.ofString "a") 225, PySem.Value.str (PySem.Str.ofString "b") 226, PySem.Value.str (PySem.Str.ofString "x") 227, PySem.Value.str (PySem.Str.ofString "y") 228, PySem.Value.str (PySem.Str.ofString "lx") 229, PySem.Value.str (PySem.Str.ofString "ly") 230, PySem.Value.str (PySem.Str.ofString "oa") 231, PySem.Value.str (PySem.Str.ofString "ob") 232, PySem.Value.str (PySem.Str.ofString "q") 233] }) :: (nat_lit 39, { cls := PySem.Value.type "tuple", data := PySem.Data.seq #[] }) :: (nat_lit 41, { cls := PySem.Value.type "code", data := PySem.Data.fields #[PySem.Value.str (PySem.Str.ofString "extended_gcd") 222, PySem.Value.str (PySem.Str.ofString "extended_gcd") 223, PySem.Value.str (PySem.Str.ofString "/claim/cut.py") 224, PySem.Value.int 8 0, PySem.Value.int 2 0, PySem.Value.int 0 0, PySem.Value.int 0 0, PySem.Value.int 3 0, PySem.Value.ref 36, PySem.Value.bool Bool.true, PySem.Value.int 181 0, PySem.Value.ref 37, PySem.Value.none, PySem.Value.ref 38, PySem.Value.ref 39, PySem.Value.ref 40, PySem.Value.int 234 0, PySem.Value.int 8 0, PySem.Value.str (PySem.Str.ofString "/claim/cut.py") 235] }) :: (nat_lit 42, { cls := PySem.Value.type "function", data := PySem.Data.func { name := PySem.Str.ofString "extended_gcd", qualname := PySem.Str.ofString "extended_gcd", params := a1, body := PySem.FuncBody.stmts b1, scope := s1, globals := 3, closure := [], defaults := PySem.Value.none, kwdefaults := PySem.Value.none, pyModule := PySem.Value.str (PySem.Str.ofString "rsa.common") 187, code := PySem.Value.ref 41 } }) :: (nat_lit 43, { cls := PySem.Value.type "tuple", data := PySem.Data.seq #[] }) :: (nat_lit 45, { cls := PySem.Value.type "tuple", data := PySem.Data.seq #[PySem.Value.str (PySem.Str.ofString "x") 240, PySem.Value.str (PySem.Str.ofString "n") 241, PySem.Value.str (PySem.Str.ofString "divider") 242, PySem.Value.str (PySem.Str.ofString "inv") 243, PySem.Value.str (PySem.Str.ofString "_") 244] }) :: (nat_lit 46, { cls := PySem.Value.type "tuple", data := PySem.Data.seq #[] }) :: (nat_lit 48, { cls := PySem.Value.type "code", data := PySem.Data.fields #[PySem.Value.str (PySem.Str.ofString "inverse") 237, PySem.Value.str (PySem.Str.ofString "inverse") 238, PySem.Value.str (PySem.Str.ofString "/claim/cut.py") 239, PySem.Value.int 25 0, PySem.Value.int 2 0, PySem.Value.int 0 0, PySem.Value.int 0 0, PySem.Value.int 3 0, PySem.Value.ref 43, PySem.Value.bool Bool.true, PySem.Value.int 181 0, PySem.Value.ref 44, PySem.Value.none, PySem.Value.ref 45, PySem.Value.ref 46, PySem.Value.ref 47, PySem.Value.int 245 0, PySem.Value.int 25 0, PySem.Value.str (PySem.Str.ofString "/claim/cut.py") 246] }) :: (nat_lit 49, { cls := PySem.Value.type "function", data := PySem.Data.func { name := PySem.Str.ofString "inverse", qualname := PySem.Str.ofString "inverse", params := a2, body := PySem.FuncBody.stmts b2, scope := s2, globals := 3, closure := [], defaults := PySem.Value.none, kwdefaults := PySem.Value.none, pyModule := PySem.Value.str (PySem.Str.ofString "rsa.common") 187, code := PySem.Value.ref 48 } }) :: (nat_lit 50, { cls := PySem.Value.type "tuple", data := PySem.Data.seq #[] }) :: (nat_lit 52, { cls := PySem.Value.type "tuple", data := PySem.Data.seq #[PySem.Value.str (PySem.Str.ofString "var") 253, PySem.Value.str (PySem.Str.ofString "name") 254] }) :: (nat_lit 53, { cls := PySem.Value.type "tuple", data := PySem.Data.seq #[] }) :: (nat_lit 55, { cls := PySem.Value.type "code", data := PySem.Data.fields #[PySem.Value.str (PySem.Str.ofString "assert_int") 250, PySem.Value.str (PySem.Str.ofString "assert_int") 251, PySem.Value.str (PySem.Str.ofString "/claim/cut.py") 252, PySem.Value.int 31 0, PySem.Value.int 2 0, PySem.Value.int 0 0, PySem.Value.int 0 0, PySem.Value.int 3 0, PySem.Value.ref 50, PySem.Value.bool Bool.true, PySem.Value.int 181 0, PySem.Value.ref 51, PySem.Value.none, PySem.Value.ref 52, PySem.Value.ref 53, PySem.Value.ref 54, PySem.Value.int 255 0, PySem.Value.int 31 0, PySem.Value.str (PySem.Str.ofString "/claim/cut.py") 256] }) :: (nat_lit 56, { cls := PySem.Value.type "function", data := PySem.Data.func { name := PySem.Str.ofString "assert_int", qualname := PySem.Str.ofString "assert_int", params := a3, body := PySem.FuncBody.stmts b3, scope := s3, globals := 3, closure := [], defaults := PySem.Value.none, kwdefaults := PySem.Value.none, pyModule := PySem.Value.str (PySem.Str.ofString "rsa.core") 248, code := PySem.Value.ref 55 } }) :: (nat_lit 57, { cls := PySem.Value.type "tuple", data := PySem.Data.seq #[] }) :: (nat_lit 59, { cls := PySem.Value.type "tuple", data := PySem.Data.seq #[PySem.Value.str (PySem.Str.ofString "message") 261, PySem.Value.str (PySem.Str.ofString "ekey") 262, PySem.Value.str (PySem.Str.ofString "n") 263] }) :: (nat_lit 60, { cls := PySem.Value.type "tuple", data := PySem.Data.seq #[] }) :: (nat_lit 62, { cls := PySem.Value.type "code", data := PySem.Data.fields #[PySem.Value.str (PySem.Str.ofString "encrypt_int") 258, PySem.Value.str (PySem.Str.ofString "encrypt_int") 259, PySem.Value.str (PySem.Str.ofString "/claim/cut.py") 260, PySem.Value.int 35 0, PySem.Value.int 3 0, PySem.Value.int 0 0, PySem.Value.int 0 0, PySem.Value.int 3 0, PySem.Value.ref 57, PySem.Value.bool Bool.true, PySem.Value.int 181 0, PySem.Value.ref 58, PySem.Value.none, PySem.Value.ref 59, PySem.Value.ref 60, PySem.Value.ref 61, PySem.Value.int 264 0, PySem.Value.int 35 0, PySem.Value.str (PySem.Str.ofString "/claim/cut.py") 265] }) :: (nat_lit 63, { cls := PySem.Value.type "function", data := PySem.Data.func { name := PySem.Str.ofString "encrypt_int", qualname := PySem.Str.ofString "encrypt_int", params := a4, body := PySem.FuncBody.stmts b4, scope := s4, globals := 3, closure := [], defaults := PySem.Value.none, kwdefaults := PySem.Value.none, pyModule := PySem.Value.str (PySem.Str.ofString "rsa.core") 248, code := PySem.Value.ref 62 } }) :: (nat_lit 64, { cls := PySem.Value.type "tuple", data := PySem.Data.seq #[] }) :: (nat_lit 66, { cls := PySem.Value.type "tuple", data := PySem.Data.seq #[PySem.Value.str (PySem.Str.ofString "cyphertext") 270, PySem.Value.str (PySem.Str.ofString "dkey") 271, PySem.Value.str (PySem.Str.ofString "n") 272, PySem.Value.str (PySem.Str.ofString "message") 273] }) :: (nat_lit 67, { cls := PySem.Value.type "tuple", data := PySem.Data.seq #[] }) :: (nat_lit 69, { cls := PySem.Value.type "code", data := PySem.Data.fields #[PySem.Value.str (PySem.Str.ofString "decrypt_int") 267, PySem.Value.str (PySem.Str.ofString "decrypt_int") 268, PySem.Value.str (PySem.Str.ofString "/claim/cut.py") 269, PySem.Value.int 44 0, PySem.Value.int 3 0, PySem.Value.int 0 0, PySem.Value.int 0 0, PySem.Value.int 3 0, PySem.Value.ref 64, PySem.Value.bool Bool.true, PySem.Value.int 181 0, PySem.Value.ref 65, PySem.Value.none, PySem.Value.ref 66, PySem.Value.ref 67, PySem.Value.ref 68, PySem.Value.int 274 0, PySem.Value.int 44 0, PySem.Value.str (PySem.Str.ofString "/claim/cut.py") 275] }) :: (nat_lit 70, { cls := PySem.Value.type "function", data := PySem.Data.func { name := PySem.Str.ofString "decrypt_int", qualname := PySem.Str.ofString "decrypt_int", params := a5, body := PySem.FuncBody.stmts b5, scope := s5, globals := 3, closure := [], defaults := PySem.Value.none, kwdefaults := PySem.Value.none, pyModule := PySem.Value.str (PySem.Str.ofString "rsa.core") 248, code := PySem.Value.ref 69 } }) :: (nat_lit 71, { cls := PySem.Value.type "tuple", data := PySem.Data.seq #[] }) :: (nat_lit 73, { cls := PySem.Value.type "tuple", data := PySem.Data.seq #[PySem.Value.str (PySem.Str.ofString "p") 282, PySem.Value.str (PySem.Str.ofString "q") 283] }) :: (nat_lit 74, { cls := PySem.Value.type "tuple", data := PySem.Data.seq #[] }) :: (nat_lit 76, { cls := PySem.Value.type "code", data := PySem.Data.fields #[PySem.Value.str (PySem.Str.ofString "gcd") 279, PySem.Value.str (PySem.Str.ofString "gcd") 280, PySem.Value.str (PySem.Str.ofString "/claim/cut.py") 281, PySem.Value.int 51 0, PySem.Value.int 2 0, PySem.Value.int 0 0, PySem.Value.int 0 0, PySem.Value.int 3 0, PySem.Value.ref 71, PySem.Value.bool Bool.true, PySem.Value.int 181 0, PySem.Value.ref 72, PySem.Value.none, PySem.Value.ref 73, PySem.Value.ref 74, PySem.Value.ref 75, PySem.Value.int 284 0, PySem.Value.int 51 0, PySem.Value.str (PySem.Str.ofString "/claim/cut.py") 285] }) :: (nat_lit 77, { cls := PySem.Value.type "function", data := PySem.Data.func { name := PySem.Str.ofString "gcd", qualname := PySem.Str.ofString "gcd", params := a6, body := PySem.FuncBody.stmts b6, scope := s6, globals := 3, closure := [], defaults := PySem.Value.none, kwdefaults := PySem.Value.none, pyModule := PySem.Value.str (PySem.Str.ofString "rsa.prime") 277, code := PySem.Value.ref 76 } }) :: (nat_lit 78, { cls := PySem.Value.type "tuple", data := PySem.Data.seq #[] }) :: (nat_lit 80, { cls := PySem.Value.type "tuple", data := PySem.Data.seq #[PySem.Value.str (PySem.Str.ofString "a") 290, PySem.Value.str (PySem.Str.ofString "b") 291, PySem.Value.str (PySem.Str.ofString "d") 292] }) :: (nat_lit 81, { cls := PySem.Value.type "tuple", data := PySem.Data.seq #[] }) :: (nat_lit 83, { cls := PySem.Value.type "code", data := PySem.Data.fields #[PySem.Value.str (PySem.Str.ofString "are_relatively_prime") 287, PySem.Value.str (PySem.Str.ofString "are_relatively_prime") 288, PySem.Value.str (PySem.Str.ofString "/claim/cut.py") 289, PySem.Value.int 55 0, PySem.Value.int 2 0, PySem.Value.int 0 0, PySem.Value.int 0 0, PySem.Value.int 3 0, PySem.Value.ref 78, PySem.Value.bool Bool.true, PySem.Value.int 181 0, PySem.Value.ref 79, PySem.Value.none, PySem.Value.ref 80, PySem.Value.ref 81, PySem.Value.ref 82, PySem.Value.int 293 0, PySem.Value.int 55 0, PySem.Value.str (PySem.Str.ofString "/claim/cut.py") 294] }) :: (nat_lit 84, { cls := PySem.Value.type "function", data := PySem.Data.func { name := PySem.Str.ofString "are_relatively_prime", qualname := PySem.Str.ofString "are_relatively_prime", params := a7, body := PySem.FuncBody.stmts b7, scope := s7, globals := 3, closure := [], defaults := PySem.Value.none, kwdefaults := PySem.Value.none, pyModule := PySem.Value.str (PySem.Str.ofString "rsa.prime") 277, code := PySem.Value.ref 83 } }) :: (nat_lit 92, { cls := PySem.Value.type "tuple", data := PySem.Data.seq #[] }) :: (nat_lit 94, { cls := PySem.Value.type "tuple", data := PySem.Data.seq #[PySem.Value.str (PySem.Str.ofString "self") 313, PySem.Value.str (PySem.Str.ofString "n") 314, PySem.Value.str (PySem.Str.ofString "e") 315] }) :: (nat_lit 95, { cls := PySem.Value.type "tuple", data := PySem.Data.seq #[] }) :: (nat_lit 97, { cls := PySem.Value.type "code", data := PySem.Data.fields #[PySem.Value.str (PySem.Str.ofString "__init__") 310, PySem.Value.str (PySem.Str.ofString "AbstractKey.__init__") 311, PySem.Value.str (PySem.Str.ofString "/claim/cut.py") 312, PySem.Value.int 61 0, PySem.Value.int 3 0, PySem.Value.int 0 0, PySem.Value.int 0 0, PySem.Value.int 3 0, PySem.Value.ref 92, PySem.Value.bool Bool.true, PySem.Value.int 181 0, PySem.Value.ref 93, PySem.Value.none, PySem.Value.ref 94, PySem.Value.ref 95, PySem.Value.ref 96, PySem.Value.int 316 0, PySem.Value.int 61 0, PySem.Value.str (PySem.Str.ofString "/claim/cut.py") 317] }) :: (nat_lit 98, { cls := PySem.Value.type "function", data := PySem.Data.func { name := PySem.Str.ofString "__init__", qualname := PySem.Str.ofString "AbstractKey.__init__", params := a8, body := PySem.FuncBody.stmts b8, scope := s8, globals := 3, closure := [], defaults := PySem.Value.none, kwdefaults := PySem.Value.none, pyModule := PySem.Value.str (PySem.Str.ofString "rsa.key") 296, code := PySem.Value.ref 97 } }) :: (nat_lit 99, { cls := PySem.Value.type "tuple", data := PySem.Data.seq #[] }) :: (nat_lit 101, { cls := PySem.Value.type "tuple", data := PySem.Data.seq #[PySem.Value.str (PySem.Str.ofString "self") 322, PySem.Value.str (PySem.Str.ofString "message") 323, PySem.Value.str (PySem.Str.ofString "blindfac") 324, PySem.Value.str (PySem.Str.ofString "blindfac_inverse") 325, PySem.Value.str (PySem.Str.ofString "blinded") 326] }) :: (nat_lit 102, { cls := PySem.Value.type "tuple", data := PySem.Data.seq #[] }) :: (nat_lit 104, { cls := PySem.Value.type "code", data := PySem.Data.fields #[PySem.Value.str (PySem.Str.ofString "blind") 319, PySem.Value.str (PySem.Str.ofString "AbstractKey.blind") 320, PySem.Value.str (PySem.Str.ofString "/claim/cut.py") 321, PySem.Value.int 66 0, PySem.Value.int 2 0, PySem.Value.int 0 0, PySem.Value.int 0 0, PySem.Value.int 3 0, PySem.Value.ref 99, PySem.Value.bool Bool.true, PySem.Value.int 181 0, PySem.Value.ref 100, PySem.Value.none, PySem.Value.ref 101, PySem.Value.ref 102, PySem.Value.ref 103, PySem.Value.int 327 0, PySem.Value.int 66 0, PySem.Value.str (PySem.Str.ofString "/claim/cut.py") 328] }) :: (nat_lit 105, { cls := PySem.Value.type "function", data := PySem.Data.func { name := PySem.Str.ofString "blind", qualname := PySem.Str.ofString "AbstractKey.blind", params := a9, body := PySem.FuncBody.stmts b9, scope := s9, globals := 3, closure := [], defaults := PySem.Value.none, kwdefaults := PySem.Value.none, pyModule := PySem.Value.str (PySem.Str.ofString "rsa.key") 296, code := PySem.Value.ref 104 } }) :: (nat_lit 106, { cls := PySem.Value.type "tuple", data := PySem.Data.seq #[] }) :: (nat_lit 108, { cls := PySem.Value.type "tuple", data := PySem.Data.seq #[PySem.Value.str (PySem.Str.ofString "self") 333, PySem.Value.str (PySem.Str.ofString "blinded") 334, PySem.Value.str (PySem.Str.ofString "blindfac_inverse") 335] }) :: (nat_lit 109, { cls := PySem.Value.type "tuple", data := PySem.Data.seq #[] }) :: (nat_lit 111, { cls := PySem.Value.type "code", data := PySem.Data.fields #[PySem.Value.str (PySem.Str.ofString "unblind") 330, PySem.Value.str (PySem.Str.ofString "AbstractKey.unblind") 331, PySem.Value.str (PySem.Str.ofString "/claim/cut.py") 332, PySem.Value.int 71 0, PySem.Value.int 3 0, PySem.Value.int 0 0, PySem.Value.int 0 0, PySem.Value.int 3 0, PySem.Value.ref 106, PySem.Value.bool Bool.true, PySem.Value.int 181 0, PySem.Value.ref 107, PySem.Value.none, PySem.Value.ref 108, PySem.Value.ref 109, PySem.Value.ref 110, PySem.Value.int 336 0, PySem.Value.int 71 0, PySem.Value.str (PySem.Str.ofString "/claim/cut.py") 337] }) :: (nat_lit 112, { cls := PySem.Value.type "function", data := PySem.Data.func { name := PySem.Str.ofString "unblind", qualname := PySem.Str.ofString "AbstractKey.unblind", params := a10, body := PySem.FuncBody.stmts b10, scope := s10, globals := 3, closure := [], defaults := PySem.Value.none, kwdefaults := PySem.Value.none, pyModule := PySem.Value.str (PySem.Str.ofString "rsa.key") 296, code := PySem.Value.ref 111 } }) :: (nat_lit 113, { cls := PySem.Value.type "tuple", data := PySem.Data.seq #[] }) :: (nat_lit 115, { cls := PySem.Value.type "tuple", data := PySem.Data.seq #[PySem.Value.str (PySem.Str.ofString "self") 342, PySem.Value.str (PySem.Str.ofString "blind_r") 343] }) :: (nat_lit 116, { cls := PySem.Value.type "tuple", data := PySem.Data.seq #[] }) :: (nat_lit 118, { cls := PySem.Value.type "code", data := PySem.Data.fields #[PySem.Value.str (PySem.Str.ofString "_initial_blinding_factor") 339, PySem.Value.str (PySem.Str.ofString "AbstractKey._initial_blinding_factor") 340, PySem.Value.str (PySem.Str.ofString "/claim/cut.py") 341, PySem.Value.int 74 0, PySem.Value.int 1 0, PySem.Value.int 0 0, PySem.Value.int 0 0, PySem.Value.int 3 0, PySem.Value.ref 113, PySem.Value.bool Bool.true, PySem.Value.int 181 0, PySem.Value.ref 114, PySem.Value.none, PySem.Value.ref 115, PySem.Value.ref 116, PySem.Value.ref 117, PySem.Value.int 344 0, PySem.Value.int 74 0, PySem.Value.str (PySem.Str.ofString "/claim/cut.py") 345] }) :: (nat_lit 119, { cls := PySem.Value.type "function", data := PySem.Data.func { name := PySem.Str.ofString "_initial_blinding_factor", qualname := PySem.Str.ofString "AbstractKey._initial_blinding_factor", params := a11, body := PySem.FuncBody.stmts b11, scope := s11, globals := 3, closure := [], defaults := PySem.Value.none, kwdefaults := PySem.Value.none, pyModule := PySem.Value.str (PySem.Str.ofString "rsa.key") 296, code := PySem.Value.ref 118 } }) :: (nat_lit 120, { cls := PySem.Value.type "tuple", data := PySem.Data.seq #[] }) :: (nat_lit 122, { cls := PySem.Value.type "tuple", data := PySem.Data.seq #[PySem.Value.str (PySem.Str.ofString "self") 350] }) :: (nat_lit 123, { cls := PySem.Value.type "tuple", data := PySem.Data.seq #[] }) :: (nat_lit 125, { cls := PySem.Value.type "code", data := PySem.Data.fields #[PySem.Value.str (PySem.Str.ofString "_update_blinding_factor") 347, PySem.Value.str (PySem.Str.ofString "AbstractKey._update_blinding_factor") 348, PySem.Value.str (PySem.Str.ofString "/claim/cut.py") 349, PySem.Value.int 80 0, PySem.Value.int 1 0, PySem.Value.int 0 0, PySem.Value.int 0 0, PySem.Value.int 3 0, PySem.Value.ref 120, PySem.Value.bool Bool.true, PySem.Value.int 181 0, PySem.Value.ref 121, PySem.Value.none, PySem.Value.ref 122, PySem.Value.ref 123, PySem.Value.ref 124, PySem.Value.int 351 0, PySem.Value.int 80 0, PySem.Value.str (PySem.Str.ofString "/claim/cut.py") 352] }) :: (nat_lit 126, { cls := PySem.Value.type "function", data := PySem.Data.func { name := PySem.Str.ofString "_update_blinding_factor", qualname := PySem.Str.ofString "AbstractKey._update_blinding_factor", params := a12, body := PySem.FuncBody.stmts b12, scope := s12, globals := 3, closure := [], defaults := PySem.Value.none, kwdefaults := PySem.Value.none, pyModule := PySem.Value.str (PySem.Str.ofString "rsa.key") 296, code := PySem.Value.ref 125 } }) :: (nat_lit 127, { cls := PySem.Value.type "tuple", data := PySem.Data.seq #[PySem.Value.str (PySem.Str.ofString "blindfac") 354, PySem.Value.str (PySem.Str.ofString "blindfac_inverse") 355, PySem.Value.str (PySem.Str.ofString "e") 356, PySem.Value.str (PySem.Str.ofString "n") 357] }) :: (nat_lit 128, { cls := PySem.Value.type "dict", data := PySem.Data.dict #[{ hash := PySem.PyData.keyHash P (PySem.Str.ofString "__module__"), key := PySem.Value.str (PySem.Str.ofString "__module__") 305, val := PySem.Value.str (PySem.Str.ofString "rsa.key") 296 }, { hash := PySem.PyData.keyHash P (PySem.Str.ofString "__firstlineno__"), key := PySem.Value.str (PySem.Str.ofString "__firstlineno__") 309, val := PySem.Value.int 59 308 }, { hash := PySem.PyData.keyHash P (PySem.Str.ofString "__init__"), key := PySem.Value.str (PySem.Str.ofString "__init__") 318, val := PySem.Value.ref 98 }, { hash := PySem.PyData.keyHash P (PySem.Str.ofString "blind"), key := PySem.Value.str (PySem.Str.ofString "blind") 329, val := PySem.Value.ref 105 }, { hash := PySem.PyData.keyHash P (PySem.Str.ofString "unblind"), key := PySem.Value.str (PySem.Str.ofString "unblind") 338, val := PySem.Value.ref 112 }, { hash := PySem.PyData.keyHash P (PySem.Str.ofString "_initial_blinding_factor"), key := PySem.Value.str (PySem.Str.ofString "_initial_blinding_factor") 346, val := PySem.Value.ref 119 }, { hash := PySem.PyData.keyHash P (PySem.Str.ofString "_update_blinding_factor"), key := PySem.Value.str (PySem.Str.ofString "_update_blinding_factor") 353, val := PySem.Value.ref 126 }, { hash := PySem.PyData.keyHash P (PySem.Str.ofString "__static_attributes__"), key := PySem.Value.str (PySem.Str.ofString "__static_attributes__") 358, val := PySem.Value.ref 127 }, { hash := PySem.PyData.keyHash P (PySem.Str.ofString "__dict__"), key := PySem.Value.str (PySem.Str.ofString "__dict__") 360, val := PySem.Value.ref 130 }, { hash := PySem.PyData.keyHash P (PySem.Str.ofString "__weakref__"), key := PySem.Value.str (PySem.Str.ofString "__weakref__") 362, val := PySem.Value.ref 131 }, { hash := PySem.PyData.keyHash P (PySem.Str.ofString "__doc__"), key := PySem.Value.str (PySem.Str.ofString "__doc__") 363, val := PySem.Value.none }] 4 }) :: (nat_lit 129, { cls := PySem.Value.type "type", data := PySem.Data.cls { name := PySem.Str.ofString "AbstractKey", bases := [PySem.Value.type "object"], mro := [PySem.Value.ref 129, PySem.Value.type "object"], ns := 128, qualname := PySem.Str.ofString "AbstractKey", subclasses := [PySem.Value.ref 157, PySem.Value.ref 204] }, slots := #[Option.none, Option.none, Option.some (PySem.Value.str (PySem.Str.ofString "AbstractKey") 298), Option.some (PySem.Value.str (PySem.Str.ofString "AbstractKey") 306), Option.some (PySem.Value.builtin "object.__new__"), Option.some (PySem.Value.bool Bool.true)] }) :: (nat_lit 130, { cls := PySem.Value.type "getset_descriptor", data := PySem.Data.fields #[PySem.Value.str (PySem.Str.ofString "__dict__") 359, PySem.Value.ref 129, PySem.Value.builtin "function.__dict__", PySem.Value.builtin "function.__dict__#set"] }) :: (nat_lit 131, { cls := PySem.Value.type "getset_descriptor", data := PySem.Data.fields #[PySem.Value.str (PySem.Str.ofString "__weakref__") 361, PySem.Value.ref 129, PySem.Value.builtin "ExceptionGroup.__weakref__", PySem.Value.none] }) :: (nat_lit 134, { cls := PySem.Value.type "tuple", data := PySem.Data.seq #[PySem.Value.ref 129] }) :: (nat_lit 141, { cls := PySem.Value.type "tuple", data := PySem.Data.seq #[] }) :: (nat_lit 143, { cls := PySem.Value.type "tuple", data := PySem.Data.seq #[PySem.Value.str (PySem.Str.ofString "self") 381, PySem.Value.str (PySem.Str.ofString "other") 382] }) :: (nat_lit 144, { cls := PySem.Value.type "tuple", data := PySem.Data.seq #[] }) :: (nat_lit 146, { cls := PySem.Value.type "code", data := PySem.Data.fields #[PySem.Value.str (PySem.Str.ofString "__eq__") 378, PySem.Value.str (PySem.Str.ofString "PublicKey.__eq__") 379, PySem.Value.str (PySem.Str.ofString "/claim/cut.py") 380, PySem.Value.int 90 0, PySem.Value.int 2 0, PySem.Value.int 0 0, PySem.Value.int 0 0, PySem.Value.int 3 0, PySem.Value.ref 141, PySem.Value.bool Bool.true, PySem.Value.int 181 0, PySem.Value.ref 142, PySem.Value.none, PySem.Value.ref 143, PySem.Value.ref 144, PySem.Value.ref 145, PySem.Value.int 383 0, PySem.Value.int 90 0, PySem.Value.str (PySem.Str.ofString "/claim/cut.py") 384] }) :: (nat_lit 147, { cls := PySem.Value.type "function", data := PySem.Data.func { name := PySem.Str.ofString "__eq__", qualname := PySem.Str.ofString "PublicKey.__eq__", params := a13, body := PySem.FuncBody.stmts b13, scope := s13, globals := 3, closure := [], defaults := PySem.Value.none, kwdefaults := PySem.Value.none, pyModule := PySem.Value.str (PySem.Str.ofString "rsa.key") 296, code := PySem.Value.ref 146 } }) :: (nat_lit 148, { cls := PySem.Value.type "tuple", data := PySem.Data.seq #[] }) :: (nat_lit 150, { cls := PySem.Value.type "tuple", data := PySem.Data.seq #[PySem.Value.str (PySem.Str.ofString "self") 389, PySem.Value.str (PySem.Str.ofString "other") 390] }) :: (nat_lit 151, { cls := PySem.Value.type "tuple", data := PySem.Data.seq #[] }) :: (nat_lit 153, { cls := PySem.Value.type "code", data := PySem.Data.fields #[PySem.Value.str (PySem.Str.ofString "__ne__") 386, PySem.Value.str (PySem.Str.ofString "PublicKey.__ne__") 387, PySem.Value.str (PySem.Str.ofString "/claim/cut.py") 388, PySem.Value.int 97 0, PySem.Value.int 2 0, PySem.Value.int 0 0, PySem.Value.int 0 0, PySem.Value.int 3 0, PySem.Value.ref 148, PySem.Value.bool Bool.true, PySem.Value.int 181 0, PySem.Value.ref 149, PySem.Value.none, PySem.Value.ref 150, PySem.Value.ref 151, PySem.Value.ref 152, PySem.Value.int 391 0, PySem.Value.int 97 0, PySem.Value.str (PySem.Str.ofString "/claim/cut.py") 392] }) :: (nat_lit 154, { cls := PySem.Value.type "function", data := PySem.Data.func { name := PySem.Str.ofString "__ne__", qualname := PySem.Str.ofString "PublicKey.__ne__", params := a14, body := PySem.FuncBody.stmts b14, scope := s14, globals := 3, closure := [], defaults := PySem.Value.none, kwdefaults := PySem.Value.none, pyModule := PySem.Value.str (PySem.Str.ofString "rsa.key") 296, code := PySem.Value.ref 153 } }) :: (nat_lit 155, { cls := PySem.Value.type "tuple", data := PySem.Data.seq #[] }) :: (nat_lit 156, { cls := PySem.Value.type "dict", data := PySem.Data.dict #[{ hash := PySem.PyData.keyHash P (PySem.Str.ofString "__module__"), key := PySem.Value.str (PySem.Str.ofString "__module__") 373, val := PySem.Value.str (PySem.Str.ofString "rsa.key") 296 }, { hash := PySem.PyData.keyHash P (PySem.Str.ofString "__firstlineno__"), key := PySem.Value.str (PySem.Str.ofString "__firstlineno__") 377, val := PySem.Value.int 88 376 }, { hash := PySem.PyData.keyHash P (PySem.Str.ofString "__eq__"), key := PySem.Value.str (PySem.Str.ofString "__eq__") 385, val := PySem.Value.ref 147 }, { hash := PySem.PyData.keyHash P (PySem.Str.ofString "__ne__"), key := PySem.Value.str (PySem.Str.ofString "__ne__") 393, val := PySem.Value.ref 154 }, { hash := PySem.PyData.keyHash P (PySem.Str.ofString "__static_attributes__"), key := PySem.Value.str (PySem.Str.ofString "__static_attributes__") 394, val := PySem.Value.ref 155 }, { hash := PySem.PyData.keyHash P (PySem.Str.ofString "__doc__"), key := PySem.Value.str (PySem.Str.ofString "__doc__") 395, val := PySem.Value.none }, { hash := PySem.PyData.keyHash P (PySem.Str.ofString "__hash__"), key := PySem.Value.str (PySem.Str.ofString "__hash__") 396, val := PySem.Value.none }] 3 }) :: (nat_lit 157, { cls := PySem.Value.type "type", data := PySem.Data.cls { name := PySem.Str.ofString "PublicKey", bases := [PySem.Value.ref 129], mro := [PySem.Value.ref 157, PySem.Value.ref 129, PySem.Value.type "object"], ns := 156, qualname := PySem.Str.ofString "PublicKey" }, slots := #[Option.some (PySem.Value.ref 134), Option.none, Option.some (PySem.Value.str (PySem.Str.ofString "PublicKey") 366), Option.some (PySem.Value.str (PySem.Str.ofString "PublicKey") 374), Option.some (PySem.Value.builtin "object.__new__"), Option.some (PySem.Value.bool Bool.true)] }) :: (nat_lit 160, { cls := PySem.Value.type "tuple", data := PySem.Data.seq #[PySem.Value.ref 129] }) :: (nat_lit 167, { cls := PySem.Value.type "tuple", data := PySem.Data.seq #[] }) :: (nat_lit 169, { cls := PySem.Value.type "tuple", data := PySem.Data.seq #[PySem.Value.str (PySem.Str.ofString "self") 414, PySem.Value.str (PySem.Str.ofString "n") 415, PySem.Value.str (PySem.Str.ofString "e") 416, PySem.Value.str (PySem.Str.ofString "d") 417, PySem.Value.str (PySem.Str.ofString "p") 418, PySem.Value.str (PySem.Str.ofString "q") 419] }) :: (nat_lit 170, { cls := PySem.Value.type "tuple", data := PySem.Data.seq #[] }) :: (nat_lit 172, { cls := PySem.Value.type "code", data := PySem.Data.fields #[PySem.Value.str (PySem.Str.ofString "__init__") 411, PySem.Value.str (PySem.Str.ofString "PrivateKey.__init__") 412, PySem.Value.str (PySem.Str.ofString "/claim/cut.py") 413, PySem.Value.int 101 0, PySem.Value.int 6 0, PySem.Value.int 0 0, PySem.Value.int 0 0, PySem.Value.int 3 0, PySem.Value.ref 167, PySem.Value.bool Bool.true, PySem.Value.int 181 0, PySem.Value.ref 168, PySem.Value.none, PySem.Value.ref 169, PySem.Value.ref 170, PySem.Value.ref 171, PySem.Value.int 420 0, PySem.Value.int 101 0, PySem.Value.str (PySem.Str.ofString "/claim/cut.py") 421] }) :: (nat_lit 173, { cls := PySem.Value.type "function", data := PySem.Data.func { name := PySem.Str.ofString "__init__", qualname := PySem.Str.ofString "PrivateKey.__init__", params := a15, body := PySem.FuncBody.stmts b15, scope := s15, globals := 3, closure := [], defaults := PySem.Value.none, kwdefaults := PySem.Value.none, pyModule := PySem.Value.str (PySem.Str.ofString "rsa.key") 296, code := PySem.Value.ref 172 } }) :: (nat_lit 174, { cls := PySem.Value.type "tuple", data := PySem.Data.seq #[] }) :: (nat_lit 176, { cls := PySem.Value.type "tuple", data := PySem.Data.seq #[PySem.Value.str (PySem.Str.ofString "self") 426, PySem.Value.str (PySem.Str.ofString "other") 427] }) :: (nat_lit 177, { cls := PySem.Value.type "tuple", data := PySem.Data.seq #[] }) :: (nat_lit 179, { cls := PySem.Value.type "code", data := PySem.Data.fields #[PySem.Value.str (PySem.Str.ofString "__eq__") 423, PySem.Value.str (PySem.Str.ofString "PrivateKey.__eq__") 424, PySem.Value.str (PySem.Str.ofString "/claim/cut.py") 425, PySem.Value.int 110 0, PySem.Value.int 2 0, PySem.Value.int 0 0, PySem.Value.int 0 0, PySem.Value.int 3 0, PySem.Value.ref 174, PySem.Value.bool Bool.true, PySem.Value.int 181 0, PySem.Value.ref 175, PySem.Value.none, PySem.Value.ref 176, PySem.Value.ref 177, PySem.Value.ref 178, PySem.Value.int 428 0, PySem.Value.int 110 0, PySem.Value.str (PySem.Str.ofString "/claim/cut.py") 429] }) :: (nat_lit 180, { cls := PySem.Value.type "function", data := PySem.Data.func { name := PySem.Str.ofString "__eq__", qualname := PySem.Str.ofString "PrivateKey.__eq__", params := a16, body := PySem.FuncBody.stmts b16, scope := s16, globals := 3, closure := [], defaults := PySem.Value.none, kwdefaults := PySem.Value.none, pyModule := PySem.Value.str (PySem.Str.ofString "rsa.key") 296, code := PySem.Value.ref 179 } }) :: (nat_lit 181, { cls := PySem.Value.type "tuple", data := PySem.Data.seq #[] }) :: (nat_lit 183, { cls := PySem.Value.type "tuple", data := PySem.Data.seq #[PySem.Value.str (PySem.Str.ofString "self") 434, PySem.Value.str (PySem.Str.ofString "other") 435] }) :: (nat_lit 184, { cls := PySem.Value.type "tuple", data := PySem.Data.seq #[] }) :: (nat_lit 186, { cls := PySem.Value.type "code", data := PySem.Data.fields #[PySem.Value.str (PySem.Str.ofString "__ne__") 431, PySem.Value.str (PySem.Str.ofString "PrivateKey.__ne__") 432, PySem.Value.str (PySem.Str.ofString "/claim/cut.py") 433, PySem.Value.int 117 0, PySem.Value.int 2 0, PySem.Value.int 0 0, PySem.Value.int 0 0, PySem.Value.int 3 0, PySem.Value.ref 181, PySem.Value.bool Bool.true, PySem.Value.int 181 0, PySem.Value.ref 182, PySem.Value.none, PySem.Value.ref 183, PySem.Value.ref 184, PySem.Value.ref 185, PySem.Value.int 436 0, PySem.Value.int 117 0, PySem.Value.str (PySem.Str.ofString "/claim/cut.py") 437] }) :: (nat_lit 187, { cls := PySem.Value.type "function", data := PySem.Data.func { name := PySem.Str.ofString "__ne__", qualname := PySem.Str.ofString "PrivateKey.__ne__", params := a17, body := PySem.FuncBody.stmts b17, scope := s17, globals := 3, closure := [], defaults := PySem.Value.none, kwdefaults := PySem.Value.none, pyModule := PySem.Value.str (PySem.Str.ofString "rsa.key") 296, code := PySem.Value.ref 186 } }) :: (nat_lit 188, { cls := PySem.Value.type "tuple", data := PySem.Data.seq #[] }) :: (nat_lit 190, { cls := PySem.Value.type "tuple", data := PySem.Data.seq #[PySem.Value.str (PySem.Str.ofString "self") 442, PySem.Value.str (PySem.Str.ofString "encrypted") 443, PySem.Value.str (PySem.Str.ofString "blinded") 444, PySem.Value.str (PySem.Str.ofString "blindfac_inverse") 445, PySem.Value.str (PySem.Str.ofString "s1") 446, PySem.Value.str (PySem.Str.ofString "s2") 447, PySem.Value.str (PySem.Str.ofString "h") 448, PySem.Value.str (PySem.Str.ofString "decrypted") 449] }) :: (nat_lit 191, { cls := PySem.Value.type "tuple", data := PySem.Data.seq #[] }) :: (nat_lit 193, { cls := PySem.Value.type "code", data := PySem.Data.fields #[PySem.Value.str (PySem.Str.ofString "blinded_decrypt") 439, PySem.Value.str (PySem.Str.ofString "PrivateKey.blinded_decrypt") 440, PySem.Value.str (PySem.Str.ofString "/claim/cut.py") 441, PySem.Value.int 120 0, PySem.Value.int 2 0, PySem.Value.int 0 0, PySem.Value.int 0 0, PySem.Value.int 3 0, PySem.Value.ref 188, PySem.Value.bool Bool.true, PySem.Value.int 181 0, PySem.Value.ref 189, PySem.Value.none, PySem.Value.ref 190, PySem.Value.ref 191, PySem.Value.ref 192, PySem.Value.int 450 0, PySem.Value.int 120 0, PySem.Value.str (PySem.Str.ofString "/claim/cut.py") 451] }) :: (nat_lit 194, { cls := PySem.Value.type "function", data := PySem.Data.func { name := PySem.Str.ofString "blinded_decrypt", qualname := PySem.Str.ofString "PrivateKey.blinded_decrypt", params := a18, body := PySem.FuncBody.stmts b18, scope := s18, globals := 3, closure := [], defaults := PySem.Value.none, kwdefaults := PySem.Value.none, pyModule := PySem.Value.str (PySem.Str.ofString "rsa.key") 296, code := PySem.Value.ref 193 } }) :: (nat_lit 195, { cls := PySem.Value.type "tuple", data := PySem.Data.seq #[] }) :: (nat_lit 197, { cls := PySem.Value.type "tuple", data := PySem.Data.seq #[PySem.Value.str (PySem.Str.ofString "self") 456, PySem.Value.str (PySem.Str.ofString "message") 457, PySem.Value.str (PySem.Str.ofString "blinded") 458, PySem.Value.str (PySem.Str.ofString "blindfac_inverse") 459, PySem.Value.str (PySem.Str.ofString "encrypted") 460] }) :: (nat_lit 198, { cls := PySem.Value.type "tuple", data := PySem.Data.seq #[] }) :: (nat_lit 200, { cls := PySem.Value.type "code", data := PySem.Data.fields #[PySem.Value.str (PySem.Str.ofString "blinded_encrypt") 453, PySem.Value.str (PySem.Str.ofString "PrivateKey.blinded_encrypt") 454, PySem.Value.str (PySem.Str.ofString "/claim/cut.py") 455, PySem.Value.int 128 0, PySem.Value.int 2 0, PySem.Value.int 0 0, PySem.Value.int 0 0, PySem.Value.int 3 0, PySem.Value.ref 195, PySem.Value.bool Bool.true, PySem.Value.int 181 0, PySem.Value.ref 196, PySem.Value.none, PySem.Value.ref 197, PySem.Value.ref 198, PySem.Value.ref 199, PySem.Value.int 461 0, PySem.Value.int 128 0, PySem.Value.str (PySem.Str.ofString "/claim/cut.py") 462] }) :: (nat_lit 201, { cls := PySem.Value.type "function", data := PySem.Data.func { name := PySem.Str.ofString "blinded_encrypt", qualname := PySem.Str.ofString "PrivateKey.blinded_encrypt", params := a19, body := PySem.FuncBody.stmts b19, scope := s19, globals := 3, closure := [], defaults := PySem.Value.none, kwdefaults := PySem.Value.none, pyModule := PySem.Value.str (PySem.Str.ofString "rsa.key") 296, code := PySem.Value.ref 200 } }) :: (nat_lit 202, { cls := PySem.Value.type "tuple", data := PySem.Data.seq #[PySem.Value.str (PySem.Str.ofString "coef") 464, PySem.Value.str (PySem.Str.ofString "d") 465, PySem.Value.str (PySem.Str.ofString "exp1") 466, PySem.Value.str (PySem.Str.ofString "exp2") 467, PySem.Value.str (PySem.Str.ofString "p") 468, PySem.Value.str (PySem.Str.ofString "q") 469] }) :: (nat_lit 203, { cls := PySem.Value.type "dict", data := PySem.Data.dict #[{ hash := PySem.PyData.keyHash P (PySem.Str.ofString "__module__"), key := PySem.Value.str (PySem.Str.ofString "__module__") 406, val := PySem.Value.str (PySem.Str.ofString "rsa.key") 296 }, { hash := PySem.PyData.keyHash P (PySem.Str.ofString "__firstlineno__"), key := PySem.Value.str (PySem.Str.ofString "__firstlineno__") 410, val := PySem.Value.int 99 409 }, { hash := PySem.PyData.keyHash P (PySem.Str.ofString "__init__"), key := PySem.Value.str (PySem.Str.ofString "__init__") 422, val := PySem.Value.ref 173 }, { hash := PySem.PyData.keyHash P (PySem.Str.ofString "__eq__"), key := PySem.Value.str (PySem.Str.ofString "__eq__") 430, val := PySem.Value.ref 180 }, { hash := PySem.PyData.keyHash P (PySem.Str.ofString "__ne__"), key := PySem.Value.str (PySem.Str.ofString "__ne__") 438, val := PySem.Value.ref 187 }, { hash := PySem.PyData.keyHash P (PySem.Str.ofString "blinded_decrypt"), key := PySem.Value.str (PySem.Str.ofString "blinded_decrypt") 452, val := PySem.Value.ref 194 }, { hash := PySem.PyData.keyHash P (PySem.Str.ofString "blinded_encrypt"), key := PySem.Value.str (PySem.Str.ofString "blinded_encrypt") 463, val := PySem.Value.ref 201 }, { hash := PySem.PyData.keyHash P (PySem.Str.ofString "__static_attributes__"), key := PySem.Value.str (PySem.Str.ofString "__static_attributes__") 470, val := PySem.Value.ref 202 }, { hash := PySem.PyData.keyHash P (PySem.Str.ofString "__doc__"), key := PySem.Value.str (PySem.Str.ofString "__doc__") 471, val := PySem.Value.none }, { hash := PySem.PyData.keyHash P (PySem.Str.ofString "__hash__"), key := PySem.Value.str (PySem.Str.ofString "__hash__") 472, val := PySem.Value.none }] 3 }) :: (nat_lit 204, { cls := PySem.Value.type "type", data := PySem.Data.cls { name := PySem.Str.ofString "PrivateKey", bases := [PySem.Value.ref 129], mro := [PySem.Value.ref 204, PySem.Value.ref 129, PySem.Value.type "object"], ns := 203, qualname := PySem.Str.ofString "PrivateKey" }, slots := #[Option.some (PySem.Value.ref 160), Option.none, Option.some (PySem.Value.str (PySem.Str.ofString "PrivateKey") 399), Option.some (PySem.Value.str (PySem.Str.ofString "PrivateKey") 407), Option.some (PySem.Value.builtin "object.__new__"), Option.some (PySem.Value.bool Bool.true)] }) :: (nat_lit 207, { cls := PySem.Value.type "tuple", data := PySem.Data.seq #[] }) :: (nat_lit 209, { cls := PySem.Value.type "tuple", data := PySem.Data.seq #[PySem.Value.str (PySem.Str.ofString "p") 478, PySem.Value.str (PySem.Str.ofString "q") 479, PySem.Value.str (PySem.Str.ofString "exponent") 480, PySem.Value.str (PySem.Str.ofString "phi_n") 481, PySem.Value.str (PySem.Str.ofString "d") 482] }) :: (nat_lit 210, { cls := PySem.Value.type "tuple", data := PySem.Data.seq #[] }) :: (nat_lit 212, { cls := PySem.Value.type "code", data := PySem.Data.fields #[PySem.Value.str (PySem.Str.ofString "calculate_keys_custom_exponent") 475, PySem.Value.str (PySem.Str.ofString "calculate_keys_custom_exponent") 476, PySem.Value.str (PySem.Str.ofString "/claim/cut.py") 477, PySem.Value.int 132 0, PySem.Value.int 3 0, PySem.Value.int 0 0, PySem.Value.int 0 0, PySem.Value.int 3 0, PySem.Value.ref 207, PySem.Value.bool Bool.true, PySem.Value.int 181 0, PySem.Value.ref 208, PySem.Value.none, PySem.Value.ref 209, PySem.Value.ref 210, PySem.Value.ref 211, PySem.Value.int 483 0, PySem.Value.int 132 0, PySem.Value.str (PySem.Str.ofString "/claim/cut.py") 484] }) :: (nat_lit 213, { cls := PySem.Value.type "function", data := PySem.Data.func { name := PySem.Str.ofString "calculate_keys_custom_exponent", qualname := PySem.Str.ofString "calculate_keys_custom_exponent", params := a20, body := PySem.FuncBody.stmts b20, scope := s20, globals := 3, closure := [], defaults := PySem.Value.none, kwdefaults := PySem.Value.none, pyModule := PySem.Value.str (PySem.Str.ofString "rsa.key") 296, code := PySem.Value.ref 212 } }) :: (nat_lit 214, { cls := PySem.Value.type "tuple", data := PySem.Data.seq #[] }) :: (nat_lit 217, { cls := PySem.Value.type "code", data := PySem.Data.fields #[PySem.Value.str (PySem.Str.ofString "_law_state") 488, PySem.Value.str (PySem.Str.ofString "_law_state") 489, PySem.Value.str (PySem.Str.ofString "/claim/cut.py") 490, PySem.Value.int 139 0, PySem.Value.int 1 0, PySem.Value.int 0 0, PySem.Value.int 0 0, PySem.Value.int 3 0, PySem.Value.ref 214, PySem.Value.bool Bool.true, PySem.Value.int 181 0, PySem.Value.ref 215, PySem.Value.none, PySem.Value.none, PySem.Value.none, PySem.Value.ref 216, PySem.Value.int 491 0, PySem.Value.int 139 0, PySem.Value.str (PySem.Str.ofString "/claim/cut.py") 492] }) :: (nat_lit 218, { cls := PySem.Value.type "function", data := PySem.Data.func { name := PySem.Str.ofString "_law_state", qualname := PySem.Str.ofString "_law_state", params := a21, body := PySem.FuncBody.stmts b21, scope := s21, globals := 3, closure := [], defaults := PySem.Value.none, kwdefaults := PySem.Value.none, pyModule := PySem.Value.str (PySem.Str.ofString "law_ys0001_05") 486, code := PySem.Value.ref 217 } }) :: (nat_lit 219, { cls := PySem.Value.type "tuple", data := PySem.Data.seq #[] }) :: (nat_lit 221, { cls := PySem.Value.type "tuple", data := PySem.Data.seq #[PySem.Value.str (PySem.Str.ofString "state") 497, PySem.Value.str (PySem.Str.ofString "most") 498, PySem.Value.str (PySem.Str.ofString "cells") 499, PySem.Value.str (PySem.Str.ofString "at") 500, PySem.Value.str (PySem.Str.ofString "cell") 501, PySem.Value.str (PySem.Str.ofString "mixed") 502] }) :: (nat_lit 222, { cls := PySem.Value.type "tuple", data := PySem.Data.seq #[] }) :: (nat_lit 224, { cls := PySem.Value.type "code", data := PySem.Data.fields #[PySem.Value.str (PySem.Str.ofString "_law_take") 494, PySem.Value.str (PySem.Str.ofString "_law_take") 495, PySem.Value.str (PySem.Str.ofString "/claim/cut.py") 496, PySem.Value.int 144 0, PySem.Value.int 2 0, PySem.Value.int 0 0, PySem.Value.int 0 0, PySem.Value.int 3 0, PySem.Value.ref 219, PySem.Value.bool Bool.true, PySem.Value.int 181 0, PySem.Value.ref 220, PySem.Value.none, PySem.Value.ref 221, PySem.Value.ref 222, PySem.Value.ref 223, PySem.Value.int 503 0, PySem.Value.int 144 0, PySem.Value.str (PySem.Str.ofString "/claim/cut.py") 504] }) :: (nat_lit 225, { cls := PySem.Value.type "function", data := PySem.Data.func { name := PySem.Str.ofString "_law_take", qualname := PySem.Str.ofString "_law_take", params := a22, body := PySem.FuncBody.stmts b22, scope := s22, globals := 3, closure := [], defaults := PySem.Value.none, kwdefaults := PySem.Value.none, pyModule := PySem.Value.str (PySem.Str.ofString "law_ys0001_05") 486, code := PySem.Value.ref 224 } }) :: (nat_lit 226, { cls := PySem.Value.type "tuple", data := PySem.Data.seq #[] }) :: (nat_lit 228, { cls := PySem.Value.type "tuple", data := PySem.Data.seq #[PySem.Value.str (PySem.Str.ofString "state") 509, PySem.Value.str (PySem.Str.ofString "words") 510, PySem.Value.str (PySem.Str.ofString "number") 511, PySem.Value.str (PySem.Str.ofString "turn") 512] }) :: (nat_lit 229, { cls := PySem.Value.type "tuple", data := PySem.Data.seq #[] }) :: (nat_lit 231, { cls := PySem.Value.type "code", data := PySem.Data.fields #[PySem.Value.str (PySem.Str.ofString "_law_great") 506, PySem.Value.str (PySem.Str.ofString "_law_great") 507, PySem.Value.str (PySem.Str.ofString "/claim/cut.py") 508, PySem.Value.int 155 0, PySem.Value.int 2 0, PySem.Value.int 0 0, PySem.Value.int 0 0, PySem.Value.int 3 0, PySem.Value.ref 226, PySem.Value.bool Bool.true, PySem.Value.int 181 0, PySem.Value.ref 227, PySem.Value.none, PySem.Value.ref 228, PySem.Value.ref 229, PySem.Value.ref 230, PySem.Value.int 513 0, PySem.Value.int 155 0, PySem.Value.str (PySem.Str.ofString "/claim/cut.py") 514] }) :: (nat_lit 232, { cls := PySem.Value.type "function", data := PySem.Data.func { name := PySem.Str.ofString "_law_great", qualname := PySem.Str.ofString "_law_great", params := a23, body := PySem.FuncBody.stmts b23, scope := s23, globals := 3, closure := [], defaults := PySem.Value.none, kwdefaults := PySem.Value.none, pyModule := PySem.Value.str (PySem.Str.ofString "law_ys0001_05") 486, code := PySem.Value.ref 231 } }) :: (nat_lit 233, { cls := PySem.Value.type "tuple", data := PySem.Data.seq #[] }) :: (nat_lit 235, { cls := PySem.Value.type "tuple", data := PySem.Data.seq #[PySem.Value.str (PySem.Str.ofString "state") 519, PySem.Value.str (PySem.Str.ofString "kind") 520] }) :: (nat_lit 236, { cls := PySem.Value.type "tuple", data := PySem.Data.seq #[] }) :: (nat_lit 238, { cls := PySem.Value.type "code", data := PySem.Data.fields #[PySem.Value.str (PySem.Str.ofString "_law_number") 516, PySem.Value.str (PySem.Str.ofString "_law_number") 517, PySem.Value.str (PySem.Str.ofString "/claim/cut.py") 518, PySem.Value.int 160 0, PySem.Value.int 1 0, PySem.Value.int 0 0, PySem.Value.int 0 0, PySem.Value.int 3 0, PySem.Value.ref 233, PySem.Value.bool Bool.true, PySem.Value.int 181 0, PySem.Value.ref 234, PySem.Value.none, PySem.Value.ref 235, PySem.Value.ref 236, PySem.Value.ref 237, PySem.Value.int 521 0, PySem.Value.int 160 0, PySem.Value.str (PySem.Str.ofString "/claim/cut.py") 522] }) :: (nat_lit 239, { cls := PySem.Value.type "function", data := PySem.Data.func { name := PySem.Str.ofString "_law_number", qualname := PySem.Str.ofString "_law_number", params := a24, body := PySem.FuncBody.stmts b24, scope := s24, globals := 3, closure := [], defaults := PySem.Value.none, kwdefaults := PySem.Value.none, pyModule := PySem.Value.str (PySem.Str.ofString "law_ys0001_05") 486, code := PySem.Value.ref 238 } }) :: (nat_lit 240, { cls := PySem.Value.type "tuple", data := PySem.Data.seq #[] }) :: (nat_lit 242, { cls := PySem.Value.type "tuple", data := PySem.Data.seq #[PySem.Value.str (PySem.Str.ofString "one") 527, PySem.Value.str (PySem.Str.ofString "two") 528, PySem.Value.str (PySem.Str.ofString "turn") 529] }) :: (nat_lit 243, { cls := PySem.Value.type "tuple", data := PySem.Data.seq #[] }) :: (nat_lit 245, { cls := PySem.Value.type "code", data := PySem.Data.fields #[PySem.Value.str (PySem.Str.ofString "_law_gcd") 524, PySem.Value.str (PySem.Str.ofString "_law_gcd") 525, PySem.Value.str (PySem.Str.ofString "/claim/cut.py") 526, PySem.Value.int 167 0, PySem.Value.int 2 0, PySem.Value.int 0 0, PySem.Value.int 0 0, PySem.Value.int 3 0, PySem.Value.ref 240, PySem.Value.bool Bool.true, PySem.Value.int 181 0, PySem.Value.ref 241, PySem.Value.none, PySem.Value.ref 242, PySem.Value.ref 243, PySem.Value.ref 244, PySem.Value.int 530 0, PySem.Value.int 167 0, PySem.Value.str (PySem.Str.ofString "/claim/cut.py") 531] }) :: (nat_lit 246, { cls := PySem.Value.type "function", data := PySem.Data.func { name := PySem.Str.ofString "_law_gcd", qualname := PySem.Str.ofString "_law_gcd", params := a25, body := PySem.FuncBody.stmts b25, scope := s25, globals := 3, closure := [], defaults := PySem.Value.none, kwdefaults := PySem.Value.none, pyModule := PySem.Value.str (PySem.Str.ofString "law_ys0001_05") 486, code := PySem.Value.ref 245 } }) :: (nat_lit 247, { cls := PySem.Value.type "tuple", data := PySem.Data.seq #[] }) :: (nat_lit 250, { cls := PySem.Value.type "code", data := PySem.Data.fields #[PySem.Value.str (PySem.Str.ofString "_law_prime") 533, PySem.Value.str (PySem.Str.ofString "_law_prime") 534, PySem.Value.str (PySem.Str.ofString "/claim/cut.py") 535, PySem.Value.int 173 0, PySem.Value.int 1 0, PySem.Value.int 0 0, PySem.Value.int 0 0, PySem.Value.int 3 0, PySem.Value.ref 247, PySem.Value.bool Bool.true, PySem.Value.int 181 0, PySem.Value.ref 248, PySem.Value.none, PySem.Value.none, PySem.Value.none, PySem.Value.ref 249, PySem.Value.int 536 0, PySem.Value.int 173 0, PySem.Value.str (PySem.Str.ofString "/claim/cut.py") 537] }) :: (nat_lit 251, { cls := PySem.Value.type "function", data := PySem.Data.func { name := PySem.Str.ofString "_law_prime", qualname := PySem.Str.ofString "_law_prime", params := a26, body := PySem.FuncBody.stmts b26, scope := s26, globals := 3, closure := [], defaults := PySem.Value.none, kwdefaults := PySem.Value.none, pyModule := PySem.Value.str (PySem.Str.ofString "law_ys0001_05") 486, code := PySem.Value.ref 250 } }) :: (nat_lit 252, { cls := PySem.Value.type "tuple", data := PySem.Data.seq #[] }) :: (nat_lit 254, { cls := PySem.Value.type "tuple", data := PySem.Data.seq #[PySem.Value.str (PySem.Str.ofString "state") 542, PySem.Value.str (PySem.Str.ofString "one") 543, PySem.Value.str (PySem.Str.ofString "two") 544] }) :: (nat_lit 255, { cls := PySem.Value.type "tuple", data := PySem.Data.seq #[] }) :: (nat_lit 257, { cls := PySem.Value.type "code", data := PySem.Data.fields #[PySem.Value.str (PySem.Str.ofString "_law_primes") 539, PySem.Value.str (PySem.Str.ofString "_law_primes") 540, PySem.Value.str (PySem.Str.ofString "/claim/cut.py") 541, PySem.Value.int 181 0, PySem.Value.int 1 0, PySem.Value.int 0 0, PySem.Value.int 0 0, PySem.Value.int 3 0, PySem.Value.ref 252, PySem.Value.bool Bool.true, PySem.Value.int 181 0, PySem.Value.ref 253, PySem.Value.none, PySem.Value.ref 254, PySem.Value.ref 255, PySem.Value.ref 256, PySem.Value.int 545 0, PySem.Value.int 181 0, PySem.Value.str (PySem.Str.ofString "/claim/cut.py") 546] }) :: (nat_lit 258, { cls := PySem.Value.type "function", data := PySem.Data.func { name := PySem.Str.ofString "_law_primes", qualname := PySem.Str.ofString "_law_primes", params := a27, body := PySem.FuncBody.stmts b27, scope := s27, globals := 3, closure := [], defaults := PySem.Value.none, kwdefaults := PySem.Value.none, pyModule := PySem.Value.str (PySem.Str.ofString "law_ys0001_05") 486, code := PySem.Value.ref 257 } }) :: (nat_lit 259, { cls := PySem.Value.type "tuple", data := PySem.Data.seq #[] }) :: (nat_lit 261, { cls := PySem.Value.type "tuple", data := PySem.Data.seq #[PySem.Value.str (PySem.Str.ofString "state") 551, PySem.Value.str (PySem.Str.ofString "phi") 552, PySem.Value.str (PySem.Str.ofString "start") 553, PySem.Value.str (PySem.Str.ofString "number") 554] }) :: (nat_lit 262, { cls := PySem.Value.type "tuple", data := PySem.Data.seq #[] }) :: (nat_lit 264, { cls := PySem.Value.type "code", data := PySem.Data.fields #[PySem.Value.str (PySem.Str.ofString "_law_exponent") 548, PySem.Value.str (PySem.Str.ofString "_law_exponent") 549, PySem.Value.str (PySem.Str.ofString "/claim/cut.py") 550, PySem.Value.int 186 0, PySem.Value.int 2 0, PySem.Value.int 0 0, PySem.Value.int 0 0, PySem.Value.int 3 0, PySem.Value.ref 259, PySem.Value.bool Bool.true, PySem.Value.int 181 0, PySem.Value.ref 260, PySem.Value.none, PySem.Value.ref 261, PySem.Value.ref 262, PySem.Value.ref 263, PySem.Value.int 555 0, PySem.Value.int 186 0, PySem.Value.str (PySem.Str.ofString "/claim/cut.py") 556] }) :: (nat_lit 265, { cls := PySem.Value.type "function", data := PySem.Data.func { name := PySem.Str.ofString "_law_exponent", qualname := PySem.Str.ofString "_law_exponent", params := a28, body := PySem.FuncBody.stmts b28, scope := s28, globals := 3, closure := [], defaults := PySem.Value.none, kwdefaults := PySem.Value.none, pyModule := PySem.Value.str (PySem.Str.ofString "law_ys0001_05") 486, code := PySem.Value.ref 264 } }) :: (nat_lit 266, { cls := PySem.Value.type "tuple", data := PySem.Data.seq #[] }) :: (nat_lit 268, { cls := PySem.Value.type "tuple", data := PySem.Data.seq #[PySem.Value.str (PySem.Str.ofString "base") 561, PySem.Value.str (PySem.Str.ofString "exponent") 562, PySem.Value.str (PySem.Str.ofString "n") 563, PySem.Value.str (PySem.Str.ofString "found") 564, PySem.Value.str (PySem.Str.ofString "turn") 565] }) :: (nat_lit 269, { cls := PySem.Value.type "tuple", data := PySem.Data.seq #[] }) :: (nat_lit 271, { cls := PySem.Value.type "code", data := PySem.Data.fields #[PySem.Value.str (PySem.Str.ofString "_law_power") 558, PySem.Value.str (PySem.Str.ofString "_law_power") 559, PySem.Value.str (PySem.Str.ofString "/claim/cut.py") 560, PySem.Value.int 192 0, PySem.Value.int 3 0, PySem.Value.int 0 0, PySem.Value.int 0 0, PySem.Value.int 3 0, PySem.Value.ref 266, PySem.Value.bool Bool.true, PySem.Value.int 181 0, PySem.Value.ref 267, PySem.Value.none, PySem.Value.ref 268, PySem.Value.ref 269, PySem.Value.ref 270, PySem.Value.int 566 0, PySem.Value.int 192 0, PySem.Value.str (PySem.Str.ofString "/claim/cut.py") 567] }) :: (nat_lit 272, { cls := PySem.Value.type "function", data := PySem.Data.func { name := PySem.Str.ofString "_law_power", qualname := PySem.Str.ofString "_law_power", params := a29, body := PySem.FuncBody.stmts b29, scope := s29, globals := 3, closure := [], defaults := PySem.Value.none, kwdefaults := PySem.Value.none, pyModule := PySem.Value.str (PySem.Str.ofString "law_ys0001_05") 486, code := PySem.Value.ref 271 } }) :: (nat_lit 273, { cls := PySem.Value.type "tuple", data := PySem.Data.seq #[] }) :: (nat_lit 275, { cls := PySem.Value.type "tuple", data := PySem.Data.seq #[PySem.Value.str (PySem.Str.ofString "state") 572, PySem.Value.str (PySem.Str.ofString "one") 573, PySem.Value.str (PySem.Str.ofString "two") 574, PySem.Value.str (PySem.Str.ofString "n") 575, PySem.Value.str (PySem.Str.ofString "drawn") 576] }) :: (nat_lit 276, { cls := PySem.Value.type "tuple", data := PySem.Data.seq #[] }) :: (nat_lit 278, { cls := PySem.Value.type "code", data := PySem.Data.fields #[PySem.Value.str (PySem.Str.ofString "_law_message") 569, PySem.Value.str (PySem.Str.ofString "_law_message") 570, PySem.Value.str (PySem.Str.ofString "/claim/cut.py") 571, PySem.Value.int 202 0, PySem.Value.int 3 0, PySem.Value.int 0 0, PySem.Value.int 0 0, PySem.Value.int 3 0, PySem.Value.ref 273, PySem.Value.bool Bool.true, PySem.Value.int 181 0, PySem.Value.ref 274, PySem.Value.none, PySem.Value.ref 275, PySem.Value.ref 276, PySem.Value.ref 277, PySem.Value.int 577 0, PySem.Value.int 202 0, PySem.Value.str (PySem.Str.ofString "/claim/cut.py") 578] }) :: (nat_lit 279, { cls := PySem.Value.type "function", data := PySem.Data.func { name := PySem.Str.ofString "_law_message", qualname := PySem.Str.ofString "_law_message", params := a30, body := PySem.FuncBody.stmts b30, scope := s30, globals := 3, closure := [], defaults := PySem.Value.none, kwdefaults := PySem.Value.none, pyModule := PySem.Value.str (PySem.Str.ofString "law_ys0001_05") 486, code := PySem.Value.ref 278 } }) :: (nat_lit 280, { cls := PySem.Value.type "tuple", data := PySem.Data.seq #[] }) :: (nat_lit 282, { cls := PySem.Value.type "tuple", data := PySem.Data.seq #[PySem.Value.str (PySem.Str.ofString "script") 583, PySem.Value.str (PySem.Str.ofString "state") 584, PySem.Value.str (PySem.Str.ofString "one") 585, PySem.Value.str (PySem.Str.ofString "two") 586, PySem.Value.str (PySem.Str.ofString "n") 587, PySem.Value.str (PySem.Str.ofString "phi") 588, PySem.Value.str (PySem.Str.ofString "exponent") 589, PySem.Value.str (PySem.Str.ofString "e") 590, PySem.Value.str (PySem.Str.ofString "d") 591, PySem.Value.str (PySem.Str.ofString "public") 592, PySem.Value.str (PySem.Str.ofString "private") 593, PySem.Value.str (PySem.Str.ofString "message") 594, PySem.Value.str (PySem.Str.ofString "secret") 595, PySem.Value.str (PySem.Str.ofString "signed") 596] }) :: (nat_lit 283, { cls := PySem.Value.type "tuple", data := PySem.Data.seq #[] }) :: (nat_lit 285, { cls := PySem.Value.type "code", data := PySem.Data.fields #[PySem.Value.str (PySem.Str.ofString "law") 580, PySem.Value.str (PySem.Str.ofString "law") 581, PySem.Value.str (PySem.Str.ofString "/claim/cut.py") 582, PySem.Value.int 206 0, PySem.Value.int 1 0, PySem.Value.int 0 0, PySem.Value.int 0 0, PySem.Value.int 3 0, PySem.Value.ref 280, PySem.Value.bool Bool.true, PySem.Value.int 181 0, PySem.Value.ref 281, PySem.Value.none, PySem.Value.ref 282, PySem.Value.ref 283, PySem.Value.ref 284, PySem.Value.int 597 0, PySem.Value.int 206 0, PySem.Value.str (PySem.Str.ofString "/claim/cut.py") 598] }) :: (nat_lit 286, { cls := PySem.Value.type "function", data := PySem.Data.func { name := PySem.Str.ofString "law", qualname := PySem.Str.ofString "law", params := a31, body := PySem.FuncBody.stmts b31, scope := s31, globals := 3, closure := [], defaults := PySem.Value.none, kwdefaults := PySem.Value.none, pyModule := PySem.Value.str (PySem.Str.ofString "law_ys0001_05") 486, code := PySem.Value.ref 285 } }) :: [])) _ _ _ _ _ _ _ _ _ _ rfl _ _ _ _ _ _ _ _ _ _ rfl _ _ _ _ _ _ _ _ _ _ rfl _ _ _ _ _ _ _ _ _ _ rfl _ _ _ _ _ _ _ _ _ _ rfl _ _ _ _ _ _ _ _ _ _ rfl _ _ _ _ _ _ _ _ _ _ rfl _ _ _ _ _ _ _ _ _ _ rfl _ _ _ _ _ _ _ _ _ _ rfl _ _ _ _ _ _ _ _ _ _ rfl _ _ _ _ _ _ _ _ _ _ rfl _ _ _ _ _ _ _ _ _ _ rfl _ _ _ _ _ _ _ _ _ _ rfl _ _ _ _ _ _ _ _ _ _ rfl _ _ _ _ _ _ _ _ _ _ rfl _ _ _ _ _ _ _ _ _ _ rfl _ _ _ _ _ _ _ _ _ _ rfl _ _ _ _ _ _ _ _ _ _ rfl _ _ _ _ _ _ _ _ _ _ rfl _ _ _ _ _ _ _ _ _ _ rfl _ _ _ _ _ _ _ _ _ _ rfl _ _ _ _ _ _ _ _ _ _ rfl _ _ _ _ _ _ _ _ _ _ rfl _ _ _ _ _ _ _ _ _ _ rfl _ _ _ _ _ _ _ _ _ _ rfl _ _ _ _ _ _ _ _ _ _ rfl _ _ _ _ _ _ _ _ _ _ rfl _ _ _ _ _ _ _ _ _ _ rfl _ _ _ _ _ _ _ _ _ _ rfl _ _ _ _ _ _ _ _ _ _ rfl _ _ _ _ _ _ _ _ _ _ rfl _ _ _ _ _ _ _ _ _ _ rfl
theorem hKas : ∀ P, ((2 :: 3 :: 15 :: 22 :: 23 :: 25 :: 26 :: 28 :: 29 :: 30 :: 31 :: 32 :: 33 :: 36 :: 38 :: 39 :: 41 :: 42 :: 43 :: 45 :: 46 :: 48 :: 49 :: 50 :: 52 :: 53 :: 55 :: 56 :: 57 :: 59 :: 60 :: 62 :: 63 :: 64 :: 66 :: 67 :: 69 :: 70 :: 71 :: 73 :: 74 :: 76 :: 77 :: 78 :: 80 :: 81 :: 83 :: 84 :: 92 :: 94 :: 95 :: 97 :: 98 :: 99 :: 101 :: 102 :: 104 :: 105 :: 106 :: 108 :: 109 :: 111 :: 112 :: 113 :: 115 :: 116 :: 118 :: 119 :: 120 :: 122 :: 123 :: 125 :: 126 :: 127 :: 128 :: 129 :: 130 :: 131 :: 134 :: 141 :: 143 :: 144 :: 146 :: 147 :: 148 :: 150 :: 151 :: 153 :: 154 :: 155 :: 156 :: 157 :: 160 :: 167 :: 169 :: 170 :: 172 :: 173 :: 174 :: 176 :: 177 :: 179 :: 180 :: 181 :: 183 :: 184 :: 186 :: 187 :: 188 :: 190 :: 191 :: 193 :: 194 :: 195 :: 197 :: 198 :: 200 :: 201 :: 202 :: 203 :: 204 :: 207 :: 209 :: 210 :: 212 :: 213 :: 214 :: 217 :: 218 :: 219 :: 221 :: 222 :: 224 :: 225 :: 226 :: 228 :: 229 :: 231 :: 232 :: 233 :: 235 :: 236 :: 238 :: 239 :: 240 :: 242 :: 243 :: 245 :: 246 :: 247 :: 250 :: 251 :: 252 :: 254 :: 255 :: 257 :: 258 :: 259 :: 261 :: 262 :: 264 :: 265 :: 266 :: 268 :: 269 :: 271 :: 272 :: 273 :: 275 :: 276 :: 278 :: 279 :: 280 :: 282 :: 283 :: 285 :: 286 :: []) : List Addr) = (K P).map (·.1) := fun P => by kernel_rfl
theorem hLooks : ∀ w : World, (fun os => ((staticsOk (importedModules PP.main.body) (PySem.W.boot_heap w.params) (h_f w.params) && namesBound PP (h_f w.params) && gensDone ⟨h_f w.params, Array.mk [], { }, 600, os⟩ && laidKept (PySem.W.boot_heap w.params) (h_f w.params)), openSeen V [Str.ofString "NotRelativePrimeError"] (importedModules PP.main.body) (fun s => xlAt V [] s && recOk (RowW.records PySem.Challenge.rw_ys0001_05.row.toRowW) s) true ⟨h_f w.params, Array.mk [], { }, 600, os⟩, (Hook.obs (kHook K (2 :: 3 :: 15 :: 22 :: 23 :: 25 :: 26 :: 28 :: 29 :: 30 :: 31 :: 32 :: 33 :: 36 :: 38 :: 39 :: 41 :: 42 :: 43 :: 45 :: 46 :: 48 :: 49 :: 50 :: 52 :: 53 :: 55 :: 56 :: 57 :: 59 :: 60 :: 62 :: 63 :: 64 :: 66 :: 67 :: 69 :: 70 :: 71 :: 73 :: 74 :: 76 :: 77 :: 78 :: 80 :: 81 :: 83 :: 84 :: 92 :: 94 :: 95 :: 97 :: 98 :: 99 :: 101 :: 102 :: 104 :: 105 :: 106 :: 108 :: 109 :: 111 :: 112 :: 113 :: 115 :: 116 :: 118 :: 119 :: 120 :: 122 :: 123 :: 125 :: 126 :: 127 :: 128 :: 129 :: 130 :: 131 :: 134 :: 141 :: 143 :: 144 :: 146 :: 147 :: 148 :: 150 :: 151 :: 153 :: 154 :: 155 :: 156 :: 157 :: 160 :: 167 :: 169 :: 170 :: 172 :: 173 :: 174 :: 176 :: 177 :: 179 :: 180 :: 181 :: 183 :: 184 :: 186 :: 187 :: 188 :: 190 :: 191 :: 193 :: 194 :: 195 :: 197 :: 198 :: 200 :: 201 :: 202 :: 203 :: 204 :: 207 :: 209 :: 210 :: 212 :: 213 :: 214 :: 217 :: 218 :: 219 :: 221 :: 222 :: 224 :: 225 :: 226 :: 228 :: 229 :: 231 :: 232 :: 233 :: 235 :: 236 :: 238 :: 239 :: 240 :: 242 :: 243 :: 245 :: 246 :: 247 :: 250 :: 251 :: 252 :: 254 :: 255 :: 257 :: 258 :: 259 :: 261 :: 262 :: 264 :: 265 :: 266 :: 268 :: 269 :: 271 :: 272 :: 273 :: 275 :: 276 :: 278 :: 279 :: 280 :: 282 :: 283 :: 285 :: 286 :: []) hKas)) ⟨h_f w.params, Array.mk [], { }, 600, os⟩)) = fun _ => (true, openGood V [Str.ofString "NotRelativePrimeError"], (Hook.val (kHook K (2 :: 3 :: 15 :: 22 :: 23 :: 25 :: 26 :: 28 :: 29 :: 30 :: 31 :: 32 :: 33 :: 36 :: 38 :: 39 :: 41 :: 42 :: 43 :: 45 :: 46 :: 48 :: 49 :: 50 :: 52 :: 53 :: 55 :: 56 :: 57 :: 59 :: 60 :: 62 :: 63 :: 64 :: 66 :: 67 :: 69 :: 70 :: 71 :: 73 :: 74 :: 76 :: 77 :: 78 :: 80 :: 81 :: 83 :: 84 :: 92 :: 94 :: 95 :: 97 :: 98 :: 99 :: 101 :: 102 :: 104 :: 105 :: 106 :: 108 :: 109 :: 111 :: 112 :: 113 :: 115 :: 116 :: 118 :: 119 :: 120 :: 122 :: 123 :: 125 :: 126 :: 127 :: 128 :: 129 :: 130 :: 131 :: 134 :: 141 :: 143 :: 144 :: 146 :: 147 :: 148 :: 150 :: 151 :: 153 :: 154 :: 155 :: 156 :: 157 :: 160 :: 167 :: 169 :: 170 :: 172 :: 173 :: 174 :: 176 :: 177 :: 179 :: 180 :: 181 :: 183 :: 184 :: 186 :: 187 :: 188 :: 190 :: 191 :: 193 :: 194 :: 195 :: 197 :: 198 :: 200 :: 201 :: 202 :: 203 :: 204 :: 207 :: 209 :: 210 :: 212 :: 213 :: 214 :: 217 :: 218 :: 219 :: 221 :: 222 :: 224 :: 225 :: 226 :: 228 :: 229 :: 231 :: 232 :: 233 :: 235 :: 236 :: 238 :: 239 :: 240 :: 242 :: 243 :: 245 :: 246 :: 247 :: 250 :: 251 :: 252 :: 254 :: 255 :: 257 :: 258 :: 259 :: 261 :: 262 :: 264 :: 265 :: 266 :: 268 :: 269 :: 271 :: 272 :: 273 :: 275 :: 276 :: 278 :: 279 :: 280 :: 282 :: 283 :: 285 :: 286 :: []) hKas)) w) := fun w => by kernel_rfl
theorem hLeft : LeftO PP V [Str.ofString "NotRelativePrimeError"] (fun s => xlAt V [] s && recOk (RowW.records PySem.Challenge.rw_ys0001_05.row.toRowW) s) (Hook.obs (kHook K (2 :: 3 :: 15 :: 22 :: 23 :: 25 :: 26 :: 28 :: 29 :: 30 :: 31 :: 32 :: 33 :: 36 :: 38 :: 39 :: 41 :: 42 :: 43 :: 45 :: 46 :: 48 :: 49 :: 50 :: 52 :: 53 :: 55 :: 56 :: 57 :: 59 :: 60 :: 62 :: 63 :: 64 :: 66 :: 67 :: 69 :: 70 :: 71 :: 73 :: 74 :: 76 :: 77 :: 78 :: 80 :: 81 :: 83 :: 84 :: 92 :: 94 :: 95 :: 97 :: 98 :: 99 :: 101 :: 102 :: 104 :: 105 :: 106 :: 108 :: 109 :: 111 :: 112 :: 113 :: 115 :: 116 :: 118 :: 119 :: 120 :: 122 :: 123 :: 125 :: 126 :: 127 :: 128 :: 129 :: 130 :: 131 :: 134 :: 141 :: 143 :: 144 :: 146 :: 147 :: 148 :: 150 :: 151 :: 153 :: 154 :: 155 :: 156 :: 157 :: 160 :: 167 :: 169 :: 170 :: 172 :: 173 :: 174 :: 176 :: 177 :: 179 :: 180 :: 181 :: 183 :: 184 :: 186 :: 187 :: 188 :: 190 :: 191 :: 193 :: 194 :: 195 :: 197 :: 198 :: 200 :: 201 :: 202 :: 203 :: 204 :: 207 :: 209 :: 210 :: 212 :: 213 :: 214 :: 217 :: 218 :: 219 :: 221 :: 222 :: 224 :: 225 :: 226 :: 228 :: 229 :: 231 :: 232 :: 233 :: 235 :: 236 :: 238 :: 239 :: 240 :: 242 :: 243 :: 245 :: 246 :: 247 :: 250 :: 251 :: 252 :: 254 :: 255 :: 257 :: 258 :: 259 :: 261 :: 262 :: 264 :: 265 :: 266 :: 268 :: 269 :: 271 :: 272 :: 273 :: 275 :: 276 :: 278 :: 279 :: 280 :: 282 :: 283 :: 285 :: 286 :: []) hKas)) (Hook.val (kHook K (2 :: 3 :: 15 :: 22 :: 23 :: 25 :: 26 :: 28 :: 29 :: 30 :: 31 :: 32 :: 33 :: 36 :: 38 :: 39 :: 41 :: 42 :: 43 :: 45 :: 46 :: 48 :: 49 :: 50 :: 52 :: 53 :: 55 :: 56 :: 57 :: 59 :: 60 :: 62 :: 63 :: 64 :: 66 :: 67 :: 69 :: 70 :: 71 :: 73 :: 74 :: 76 :: 77 :: 78 :: 80 :: 81 :: 83 :: 84 :: 92 :: 94 :: 95 :: 97 :: 98 :: 99 :: 101 :: 102 :: 104 :: 105 :: 106 :: 108 :: 109 :: 111 :: 112 :: 113 :: 115 :: 116 :: 118 :: 119 :: 120 :: 122 :: 123 :: 125 :: 126 :: 127 :: 128 :: 129 :: 130 :: 131 :: 134 :: 141 :: 143 :: 144 :: 146 :: 147 :: 148 :: 150 :: 151 :: 153 :: 154 :: 155 :: 156 :: 157 :: 160 :: 167 :: 169 :: 170 :: 172 :: 173 :: 174 :: 176 :: 177 :: 179 :: 180 :: 181 :: 183 :: 184 :: 186 :: 187 :: 188 :: 190 :: 191 :: 193 :: 194 :: 195 :: 197 :: 198 :: 200 :: 201 :: 202 :: 203 :: 204 :: 207 :: 209 :: 210 :: 212 :: 213 :: 214 :: 217 :: 218 :: 219 :: 221 :: 222 :: 224 :: 225 :: 226 :: 228 :: 229 :: 231 :: 232 :: 233 :: 235 :: 236 :: 238 :: 239 :: 240 :: 242 :: 243 :: 245 :: 246 :: 247 :: 250 :: 251 :: 252 :: 254 :: 255 :: 257 :: 258 :: 259 :: 261 :: 262 :: 264 :: 265 :: 266 :: 268 :: 269 :: 271 :: 272 :: 273 :: 275 :: 276 :: 278 :: 279 :: 280 :: 282 :: 283 :: 285 :: 286 :: []) hKas)) 3952 := LeftO.of_pieces hOpen hSize hRun (by decide) hLooks
theorem hSaid : OpenLaw.wellSaid PySem.Challenge.rw_ys0001_05 = true := by kernel_rfl
local macro_rules | `(tactic| walk_at "call ref") => `(tactic| k_extra "m:call ref")
local macro_rules | `(tactic| walk_at "pyIter ref") => `(tactic| k_extra "m:pyIter ref")
local macro_rules | `(tactic| walk_at "binaryOp Mult int int") => `(tactic| k_extra "m:binaryOp Mult int int")
local macro_rules | `(tactic| walk_at "exec While") => `(tactic| k_extra "m:exec While")
local macro_rules | `(tactic| walk_at "exec While Compare") => `(tactic| k_extra "m:exec While Compare")
local macro_rules | `(tactic| walk_at "binaryOp FloorDiv int int") => `(tactic| k_extra "m:binaryOp FloorDiv int int")
local macro_rules | `(tactic| walk_at "m_bd") => `(tactic| k_extra "m_bd")
local macro_rules | `(tactic| walk_at "m_fact") => `(tactic| k_extra "m_fact")
local macro_rules | `(tactic| walk_at "m_rest") => `(tactic| k_extra "m_rest")
local macro_rules | `(tactic| k_ne) => `(tactic| first | (with_reducible assumption) | (with_reducible exact Ne.symm (by assumption)) | (refine neN ?_; (try dsimp only); first | (k_extra "m_conj") | (refine Ne.symm ?_; (k_extra "m_conj")) | ((repeat (rename (_ ≠ _) ∧ _ => q9; clear q9)); (repeat (rename ((_ ≠ _) ∧ _) ∧ _ => q9; clear q9)); (repeat (rename @Ne Nat _ _ => q9; clear q9)); omega) | omega))
local macro_rules | `(tactic| walk_at "m_inline") => `(tactic| (refine wpAny_call ?_; (refine' code_def ?k1 ?k2 ?k3 ?k4 ?k5 ?kA ?kF ?kK ?k6 ?k7 ?k8 ?k9 ?kB ?_ ?c2 ?c3 ?c4 ?c5; (case kA => exact rfl); (case kF => exact rfl); (case kK => first | exact rfl | assumption); (case k1 => k_asm); (case k2 => k_asm); (case k3 => k_asm); (case k4 => k_asm); (case k5 => k_asm); (case k6 => k_is); (case k7 => k_is); (case k8 => ktr_room); (case k9 => first | exact BindsTo.of_eq rfl | exact binds_K (by k_in) rfl (by k_is) rfl rfl rfl); (case c5 => decide); (case kB => exact locs rfl); (case c2 => exact rfl); (case c3 => exact rfl); (case c4 => exact rfl); k_whole; intro g' L' h' FG' F' N' B' X' T'; (try dsimp only); (try k_lift B'); (try k_fold))))

theorem c_gcd (w : World) (mean : ExcName → Option Value) (mg mb : Str → Option Value) {one two : Int} {t1 t2 : Tok} (h1 : 0 ≤ one) (h2 : 0 ≤ two) (h3 : Bd 990 one) (h4 : Bd 990 two) :
    Ctr PySem.Challenge.rw_ys0001_05.row.prog w (Mine.K w.params) Mine.V (looseW Mine.V [Str.ofString "NotRelativePrimeError"]) mean mg mb 246 5 20 [.int one t1, .int two t2] []
      (fun v l => (∃ tr, v = .int (Int.gcd one two) tr) ∧ l = []) := by
  k_with "m_conj" => ((with_reducible (first | exact (And.left ‹((_ ≠ _) ∧ _)›) | exact (And.right ‹(_ ∧ (_ ≠ _))›) | exact (And.left (And.left ‹(((_ ≠ _) ∧ _) ∧ _)›)) | exact (And.left (And.right ‹(_ ∧ ((_ ≠ _) ∧ _))›)) | exact (And.right (And.right ‹(_ ∧ (_ ∧ (_ ≠ _)))›)) | exact (And.left (And.right (And.left ‹((_ ∧ ((_ ≠ _) ∧ _)) ∧ _)›))) | exact (And.right (And.right (And.left ‹((_ ∧ (_ ∧ (_ ≠ _))) ∧ _)›))) | exact (And.left (And.left (And.right ‹(_ ∧ (((_ ≠ _) ∧ _) ∧ _))›))) | exact (And.left (And.right (And.right ‹(_ ∧ (_ ∧ ((_ ≠ _) ∧ _)))›))) | exact (And.right (And.right (And.right ‹(_ ∧ (_ ∧ (_ ∧ (_ ≠ _))))›))) | exact (And.left (And.right (And.left (And.right ‹(_ ∧ ((_ ∧ ((_ ≠ _) ∧ _)) ∧ _))›)))) | exact (And.right (And.right (And.left (And.right ‹(_ ∧ ((_ ∧ (_ ∧ (_ ≠ _))) ∧ _))›)))) | exact (And.left (And.left (And.right (And.right ‹(_ ∧ (_ ∧ (((_ ≠ _) ∧ _) ∧ _)))›)))) | exact (And.left (And.right (And.right (And.right ‹(_ ∧ (_ ∧ (_ ∧ ((_ ≠ _) ∧ _))))›)))) | exact (And.right (And.right (And.right (And.right ‹(_ ∧ (_ ∧ (_ ∧ (_ ∧ (_ ≠ _)))))›)))) | exact (And.left (And.right (And.left (And.right (And.right ‹(_ ∧ (_ ∧ ((_ ∧ ((_ ≠ _) ∧ _)) ∧ _)))›))))) | exact (And.right (And.right (And.left (And.right (And.right ‹(_ ∧ (_ ∧ ((_ ∧ (_ ∧ (_ ≠ _))) ∧ _)))›))))) | exact (And.left (And.left (And.right (And.right (And.right ‹(_ ∧ (_ ∧ (_ ∧ (((_ ≠ _) ∧ _) ∧ _))))›))))) | exact (And.left (And.right (And.right (And.right (And.right ‹(_ ∧ (_ ∧ (_ ∧ (_ ∧ ((_ ≠ _) ∧ _)))))›))))) | exact (And.right (And.right (And.right (And.right (And.right ‹(_ ∧ (_ ∧ (_ ∧ (_ ∧ (_ ∧ (_ ≠ _))))))›))))) | exact (And.left (And.right (And.left (And.right (And.right (And.right ‹(_ ∧ (_ ∧ (_ ∧ ((_ ∧ ((_ ≠ _) ∧ _)) ∧ _))))›)))))) | exact (And.right (And.right (And.left (And.right (And.right (And.right ‹(_ ∧ (_ ∧ (_ ∧ ((_ ∧ (_ ∧ (_ ≠ _))) ∧ _))))›)))))) | exact (And.left (And.left (And.right (And.right (And.right (And.right ‹(_ ∧ (_ ∧ (_ ∧ (_ ∧ (((_ ≠ _) ∧ _) ∧ _)))))›)))))) | exact (And.left (And.right (And.right (And.right (And.right (And.right ‹(_ ∧ (_ ∧ (_ ∧ (_ ∧ (_ ∧ ((_ ≠ _) ∧ _))))))›)))))) | exact (And.right (And.right (And.right (And.right (And.right (And.right ‹(_ ∧ (_ ∧ (_ ∧ (_ ∧ (_ ∧ (_ ∧ (_ ≠ _)))))))›)))))) | exact (And.left (And.right (And.left (And.right (And.right (And.right (And.right ‹(_ ∧ (_ ∧ (_ ∧ (_ ∧ ((_ ∧ ((_ ≠ _) ∧ _)) ∧ _)))))›))))))) | exact (And.right (And.right (And.left (And.right (And.right (And.right (And.right ‹(_ ∧ (_ ∧ (_ ∧ (_ ∧ ((_ ∧ (_ ∧ (_ ≠ _))) ∧ _)))))›))))))) | exact (And.left (And.left (And.right (And.right (And.right (And.right (And.right ‹(_ ∧ (_ ∧ (_ ∧ (_ ∧ (_ ∧ (((_ ≠ _) ∧ _) ∧ _))))))›))))))) | exact (And.left (And.right (And.right (And.right (And.right (And.right (And.right ‹(_ ∧ (_ ∧ (_ ∧ (_ ∧ (_ ∧ (_ ∧ ((_ ≠ _) ∧ _)))))))›))))))) | exact (And.right (And.right (And.right (And.right (And.right (And.right (And.right ‹(_ ∧ (_ ∧ (_ ∧ (_ ∧ (_ ∧ (_ ∧ (_ ∧ (_ ≠ _))))))))›))))))) | exact (And.left (And.right (And.left (And.right (And.right (And.right (And.right (And.right ‹(_ ∧ (_ ∧ (_ ∧ (_ ∧ (_ ∧ ((_ ∧ ((_ ≠ _) ∧ _)) ∧ _))))))›)))))))) | exact (And.right (And.right (And.left (And.right (And.right (And.right (And.right (And.right ‹(_ ∧ (_ ∧ (_ ∧ (_ ∧ (_ ∧ ((_ ∧ (_ ∧ (_ ≠ _))) ∧ _))))))›)))))))) | exact (And.left (And.left (And.right (And.right (And.right (And.right (And.right (And.right ‹(_ ∧ (_ ∧ (_ ∧ (_ ∧ (_ ∧ (_ ∧ (((_ ≠ _) ∧ _) ∧ _)))))))›)))))))) | exact (And.left (And.right (And.left (And.right (And.right (And.right (And.right (And.right (And.right ‹(_ ∧ (_ ∧ (_ ∧ (_ ∧ (_ ∧ (_ ∧ ((_ ∧ ((_ ≠ _) ∧ _)) ∧ _)))))))›))))))))) | exact (And.right (And.right (And.left (And.right (And.right (And.right (And.right (And.right (And.right ‹(_ ∧ (_ ∧ (_ ∧ (_ ∧ (_ ∧ (_ ∧ ((_ ∧ (_ ∧ (_ ≠ _))) ∧ _)))))))›))))))))))))
  k_with "m_enter2" => (((case kA => exact rfl); (case kF => exact rfl); (case kK => assumption); (case k6 => k_is); (case k7 => k_is); (case k8 => ktr_room); (case k9 => exact BindsTo.of_eq rfl); (case c5 => decide); (case kB => exact locs rfl); (case c2 => exact rfl); (case c3 => exact rfl); (case c4 => exact rfl); k_whole))
  k_with "m_enterC" => (((case kA => exact rfl); (case kF => exact rfl); (case kK => assumption); (case k1 => k_asm); (case k2 => k_asm); (case k3 => k_asm); (case k4 => k_asm); (case k5 => k_asm); (case k6 => k_is); (case k7 => k_is); (case k8 => ktr_room); (case k9 => exact BindsTo.of_eq rfl); (case kN => decide); (case kB => exact rfl); (case c2 => exact rfl); (case c3 => exact rfl); (case c4 => exact rfl); k_whole))
  k_with "m_enter" => (((case kA => exact rfl); (case kF => exact rfl); (case kK => assumption); (case k1 => k_asm); (case k2 => k_asm); (case k3 => k_asm); (case k4 => k_asm); (case k5 => k_asm); (case k6 => k_is); (case k7 => k_is); (case k8 => ktr_room); (case k9 => exact BindsTo.of_eq rfl); (case c5 => decide); (case kB => exact locs rfl); (case c2 => exact rfl); (case c3 => exact rfl); (case c4 => exact rfl); k_whole))
  k_with "m_same" => ((intro z h2 h3; (try simp only [List.forall_mem_cons, List.not_mem_nil, false_implies, implies_true, and_true, ne_eq] at h2); (try simp only [List.contains_cons, List.contains_nil, Bool.or_false, Bool.or_eq_false_iff, beq_eq_false_iff_ne, ne_eq] at h3); simp [kstB, h2, h3]))
  k_with "m_same3" => ((intro z h1 h2 h3; (try simp only [List.forall_mem_cons, List.not_mem_nil, false_implies, implies_true, and_true, ne_eq] at h2); (try simp only [List.contains_cons, List.contains_nil, Bool.or_false, Bool.or_eq_false_iff, beq_eq_false_iff_ne, ne_eq] at h3); simp [kstB, h1, h2, h3]))
  k_with "m_pre" => (first | exact List.forall_mem_nil _ | (refine List.forall_mem_cons.mpr ⟨by k_mem, ?_⟩; k_extra "m_pre") | (intro p hp; kst_mem))
  k_with "m_off" => (first | exact off0 | (refine off1 (by (try dsimp only); first | assumption | (apply Ne.symm; assumption) | k_ne) ?_; k_extra "m_off"))
  k_with "m_rest" => (first | exact Rest.nil | exact Rest.tail (fun _ _ => List.not_mem_nil) | exact Rest.drop (by k_mem) (by walk_at "m_rest") | exact Rest.keep (by k_extra "m_off") (by walk_at "m_rest") | exact Rest.tail (fun _ _ => List.not_mem_nil) | exact Rest.tail (own_off (by assumption) (by k_extra "m_subA")) | exact Rest.tail (own_off (by assumption) (by intro b hb; simp only [StL, List.map_cons, List.map_nil, List.mem_cons, List.not_mem_nil, or_false] at hb ⊢; omega)))
  k_with "m_subA" => (first | exact List.forall_mem_nil _ | (refine List.forall_mem_cons.mpr ⟨by k_mem, ?_⟩; k_extra "m_subA"))
  k_with "m_use" => (((case k1 => k_asm); (case k2 => k_asm); (case k3 => k_asm); (case k4 => k_asm); (case k5 => k_asm); (case kk => first | exact rfl | assumption); (case hp => k_extra "m_pre"); (case hR => walk_at "m_rest"); (case kd => ktr_room); (case ku => ktr_units)))
  k_with "m:pyIter ref" => (((first | (with_reducible show wpAny _ _ (pyIter (Value.ref _)) (fun it s₂ => LoopAtV _ _ _ _ _ _ _ _ _ it s₂) _ _) | (with_reducible show wpAny _ _ (pyIter (Value.ref _)) (fun it s₂ => TurnsAt _ _ _ _ _ _ _ _ _ it s₂) _ _)); refine hold ?_))
  k_with "m_bd" => (first | assumption | exact Bd.mono (by assumption) (by decide) | (refine Bd.small' ?_ ?_; decide; omega) | (refine Bd.mulS' ?_ ?_ ?_; decide; (first | assumption | (refine Bd.small' ?_ ?_; decide; omega)); walk_at "m_bd") | (refine Bd.mul2 ?_ ?_; (walk_at "m_bd"); (walk_at "m_bd")) | (refine Bd.add' ?_ ?_ ?_; decide; (walk_at "m_bd"); (walk_at "m_bd")) | (refine Bd.sub' ?_ ?_ ?_; decide; (walk_at "m_bd"); (walk_at "m_bd")) | (refine Bd.neg ?_; walk_at "m_bd"))
  k_with "m_fact" => (first | assumption | omega | (refine mul_nn0 ?_ ?_; (walk_at "m_fact"); (walk_at "m_fact")))
  k_with "m:binaryOp Mult int int" => ((refine mul_int ?_ ?_; rotate_left; (first | assumption | exact mulOkB 990 990 (by walk_at "m_bd") (by walk_at "m_bd") (by decide) | mul_fits)))
  k_with "m:exec While" => ((refine hold ?_))
  k_with "m:exec While Compare" => ((refine hold ?_))
  k_with "m:binaryOp FloorDiv int int" => ((refine floordiv_int ?_ ?_ (Or.inl (PyProof.noPylong_of_log2 ?_)); (first | assumption | omega); rotate_left; (first | assumption | decide +kernel)))
  w_top off
  k_fill
  intro dp un gd cn cs' a ccd cl outer A₀ base h₀ L m rest s Q E B F X N hdis T hk hd hu hret
  refine wpAny_call ?_
  have N0 := news_left N
  k_dflt refine' code_defR (binds := [(Str.ofString "one", .int one t1), (Str.ofString "two", .int two t2)]) ?k1 ?k2 ?k3 ?k4 ?k5 ?kA ?kF ?kK ?k6 ?k7 ?k8 ?k9 ?kB ?_ ?c2 ?c3 ?c4 ?c5
  k_dflt k_extra "m_enter"
  intro g' L' h' FG F' N' B' X' T' kept small
  (try dsimp only)
  (try k_fold)
  have hr := rest_kept N hdis kept
  k_steps
  unfold Hold
  (try k_gentoks)
  rename IsRange _ _ _ _ _ _ _ _ => hrng
  rename Fr _ _ _ _ => fr1
  rename News _ _ _ _ => ne1
  k_dflt refine m_range (σ := Int × Tok × Int × Tok) (n := 2000) (fun _ => []) (fun c => [(Str.ofString "one", .int c.1 c.2.1), (Str.ofString "two", .int c.2.2.1 c.2.2.2)]) (fun _ => True) [Str.ofString "one", Str.ofString "two"]
    (fun i c => GInv 2000 (Int.gcd one two) i c.1 c.2.2.1) (fun c => c.1 = (Int.gcd one two : Int)) (one, t1, two, t2) rfl hrng (by decide) (by rfl) fr1 ne1 ?_ trivial ?_ ?_ ?_ ?_ ?_
  · exact List.forall_mem_nil _
  · kst_all
  · exact GInv.startB h1 h2 h3 h4
  · rintro ⟨a, ta, b, tb⟩ hp
    have := hp.last (by decide)
    dsimp only at this hp ⊢
    subst this
    exact hp.out
  · clear fr1 ne1
    rintro ⟨a, ta, b, tb⟩ i k t u h tk own hk' hi hoff - hp fr1 ne1
    dsimp only at hp fr1 ne1 ⊢
    (try k_fold)
    k_steps
    · rename _ = _ => hb0
      (try dsimp only at hb0)
      subst hb0
      dsimp only [MPost]
      rename Fr _ _ _ _ => fr2
      rename News _ _ _ _ => ne2
      with_unfolding_all exact m_end (_, _, _, _) fr2 ne2 (List.forall_mem_nil _) (by intro p hp; kst_mem) rfl trivial (List.forall_mem_cons.mpr ⟨rfl, List.forall_mem_cons.mpr ⟨rfl, List.forall_mem_nil _⟩⟩) (by intro z h1 h2 h3; simp only [List.forall_mem_cons, List.not_mem_nil, false_implies, implies_true, and_true, ne_eq] at h2; simp [kstB, h1, h2]) (hp.out)
    · rename _ ≠ _ => hb0
      dsimp only [MPost]
      rename Fr _ _ _ _ => fr2
      rename News _ _ _ _ => ne2
      with_unfolding_all exact m_end (_, _, _, _) fr2 ne2 (List.forall_mem_nil _) (by intro p hp; kst_mem) rfl trivial (List.forall_mem_cons.mpr ⟨rfl, List.forall_mem_cons.mpr ⟨rfl, List.forall_mem_nil _⟩⟩) (by intro z h1 h2 h3; simp only [List.forall_mem_cons, List.not_mem_nil, false_implies, implies_true, and_true, ne_eq] at h2; simp [kstB, h1, h2]) (hp.step hb0)
  · clear fr1 ne1
    rintro ⟨a, ta, b, tb⟩ u h tk - hp fr1 ne1
    dsimp only at hp fr1 ne1 ⊢
    replace fr1 : Fr g' L' h _ := fr1
    replace ne1 : News g' L' h _ := ne1
    k_sweep
    k_steps
    subst hp
    (rename Fr g' _ _ _ => fr8); (rename News g' _ _ _ => ne8); exact m_ret hret fr8 ne8 (by assumption) (by assumption) hr N (by k_extra "m_pre") ⟨⟨_, rfl⟩, rfl⟩
theorem c_take (w : World) (mean : ExcName → Option Value) (mg mb : Str → Option Value) {st c : Nat} {S : StT} {most : Int} {tm : Tok} (hS : StOk S) (hm : 0 < most) (hlg : most.natAbs.log2 < 9000) (hne : @Ne Nat st c) :
    Ctr PySem.Challenge.rw_ys0001_05.row.prog w (Mine.K w.params) Mine.V (looseW Mine.V [Str.ofString "NotRelativePrimeError"]) mean mg mb 225 5 20 [.ref st, .int most tm] (StL st c S)
      (fun v l => ∃ r tr S', v = .int r tr ∧ 0 ≤ r ∧ r < most ∧ l = StL st c S' ∧ StOk S') := by
  k_with "m:call ref" => ((k_here; (with_reducible show wpAny _ _ (call (Value.ref 246) _) _ _ _); refine hold ?_))
  k_with "m:call ref" => ((k_here; (with_reducible show wpAny _ _ (call (Value.ref 246) _) _ _ _); k_dflt ((refine Ctr.use (c_gcd _ _ _ _ ?_ ?_ ?_ ?_) (by k_asm) (by k_asm) (by k_asm) (by k_asm) (by k_asm) (by first | exact rfl | assumption) (by k_extra "m_pre") (by walk_at "m_rest") (by ktr_room) (by ktr_units) ?_); (walk_at "m_fact"); (walk_at "m_fact"); (walk_at "m_bd"); (walk_at "m_bd")); rintro v9 l9 h9 tk9 ⟨⟨tr9, e1⟩, e2⟩ hlo9 F9 N9; subst e1; subst e2; clear hlo9; (try dsimp only [List.nil_append] at N9); k_sweep; (try k_fold)))
  obtain ⟨i, t, n, vs, ns, n2⟩ := S
  obtain ⟨hI, hl0, hl1⟩ := hS
  dsimp only at hI hl0 hl1
  w_top off
  k_fill
  intro dp un gd cn cs' a ccd cl outer A₀ base h₀ L m rest s Q E B F X N hdis T hk hd hu hret
  refine wpAny_call ?_
  have N0 := news_left N
  k_dflt refine' code_defR (binds := [(Str.ofString "state", .ref st), (Str.ofString "most", .int most tm)]) ?k1 ?k2 ?k3 ?k4 ?k5 ?kA ?kF ?kK ?k6 ?k7 ?k8 ?k9 ?kB ?_ ?c2 ?c3 ?c4 ?c5
  k_dflt k_extra "m_enter"
  intro g' L' h' FG F' N' B' X' T' kept small
  (try dsimp only)
  (try k_fold)
  have hr := rest_kept N hdis kept
  k_steps
  · rename IntsAre _ _ => hI2
    (rename Fr g' _ _ _ => fr8); (rename News g' _ _ _ => ne8); exact m_ret hret fr8 ne8 (by assumption) (by assumption) hr N (by k_extra "m_pre") ⟨_, _, ⟨_, _, _, _, _, _⟩, rfl, (fmod_nn hm).1, (fmod_nn hm).2, rfl, hI2, by simpa using hl0, by simpa using hl1⟩
  · (rename Fr g' _ _ _ => fr8); (rename News g' _ _ _ => ne8); exact m_ret hret fr8 ne8 (by assumption) (by assumption) hr N (by k_extra "m_pre") ⟨_, _, ⟨_, _, _, _, _, _⟩, rfl, (fmod_nn hm).1, (fmod_nn hm).2, rfl, hI, hl0, hl1⟩
theorem c_great (w : World) (mean : ExcName → Option Value) (mg mb : Str → Option Value) {st c : Nat} {S : StT} {words : Int} {tm : Tok} (hS : StOk S) (hm : 0 ≤ words) (hm1 : words ≤ 15) (hne : @Ne Nat st c) :
    Ctr PySem.Challenge.rw_ys0001_05.row.prog w (Mine.K w.params) Mine.V (looseW Mine.V [Str.ofString "NotRelativePrimeError"]) mean mg mb 232 7 40 [.ref st, .int words tm] (StL st c S)
      (fun v l => ∃ r tr S', v = .int r tr ∧ 0 ≤ r ∧ Bd 300 r ∧ l = StL st c S' ∧ StOk S') := by
  k_with "m:call ref" => ((k_here; (with_reducible show wpAny _ _ (call (Value.ref 225) _) _ _ _); refine hold ?_))
  k_with "m:call ref" => ((k_here; (with_reducible show wpAny _ _ (call (Value.ref 225) _) _ _ _); k_dflt ((refine Ctr.use (c_take _ _ _ _ ?_ ?_ ?_ ?_) (by k_asm) (by k_asm) (by k_asm) (by k_asm) (by k_asm) (by first | exact rfl | assumption) (by k_extra "m_pre") (by walk_at "m_rest") (by ktr_room) (by ktr_units) ?_); (assumption); (first | decide | omega); (first | decide | assumption | exact log2_small (by omega)); (first | assumption | omega)); rintro v9 l9 h9 tk9 ⟨r9, tr9, S9, e1, hr0, hr1, e2, hS9⟩ hlo9 F9 N9; subst e1; subst e2; clear hlo9; (try dsimp only [StL, List.cons_append, List.nil_append] at N9); k_sweep; (try k_fold)))
  w_top off
  k_fill
  intro dp un gd cn cs' a ccd cl outer A₀ base h₀ L m rest s Q E B F X N hdis T hk hd hu hret
  refine wpAny_call ?_
  have N0 := news_left N
  k_dflt refine' code_defR (binds := [(Str.ofString "state", .ref st), (Str.ofString "words", .int words tm)]) ?k1 ?k2 ?k3 ?k4 ?k5 ?kA ?kF ?kK ?k6 ?k7 ?k8 ?k9 ?kB ?_ ?c2 ?c3 ?c4 ?c5
  k_dflt k_extra "m_enter"
  intro g' L' h' FG F' N' B' X' T' kept small
  (try dsimp only)
  (try k_fold)
  have hr := rest_kept N hdis kept
  k_steps
  unfold Hold
  (try k_gentoks)
  rename IsRange _ _ _ _ _ _ _ _ => hrng
  rename Fr _ _ _ _ => fr1
  rename News _ _ _ _ => ne1
  with_unfolding_all refine m_range (σ := (Int × Tok) × StT) (n := words.toNat) (fun s => StL st c s.2) (fun s => [(Str.ofString "number", .int s.1.1 s.1.2)]) (fun s => StOk s.2) [Str.ofString "number"] (fun k s => 0 ≤ s.1.1 ∧ s.1.1 < 1000003 ^ k) (fun s => 0 ≤ s.1.1 ∧ s.1.1 < 1000003 ^ words.toNat) ((0, _), S) rfl hrng (small_one (by omega) (by omega) (by omega) (by omega)) (by rw [rangeSize_nat]; simp) fr1 ne1 (fun p hp => hp) hS (List.forall_mem_cons.mpr ⟨rfl, List.forall_mem_nil _⟩) (by constructor <;> simp) (fun _ h => h) ?_ ?_
  · clear fr1 ne1
    rintro ⟨⟨r, tr⟩, S1⟩ k kk t u h tk own hk' hi hoff hS1 ⟨hp1, hp2⟩ fr1 ne1
    dsimp only [StL, List.cons_append, List.nil_append] at hp1 hp2 hS1 fr1 ne1 ⊢
    replace fr1 : Fr g' L' h _ := fr1
    replace ne1 : News g' L' h _ := ne1
    k_sweep
    (try k_fold)
    k_steps
    dsimp only [MPost]
    rename Fr g' _ _ _ => fr2
    rename News g' _ _ _ => ne2
    rename StOk _ => hS2
    with_unfolding_all refine' m_end ((_, _), _) fr2 ne2 ?_ ?_ ?_ hS2 (List.forall_mem_cons.mpr ⟨rfl, List.forall_mem_nil _⟩) ?_ ?_
    · k_extra "m_pre"
    · intro p hp; kst_mem
    · rfl
    · intro z h1 h2 h3; simp only [List.forall_mem_cons, List.not_mem_nil, false_implies, implies_true, and_true, ne_eq] at h2; simp [kstB, h1, h2]
    · dsimp only
      rw [Int.pow_succ]
      constructor <;> omega
  · clear fr1 ne1
    rintro ⟨⟨r, tr⟩, S1⟩ u h tk hS1 ⟨hp1, hp2⟩ fr1 ne1
    dsimp only [StL] at hp1 hp2 hS1 fr1 ne1 ⊢
    replace fr1 : Fr g' L' h _ := fr1
    replace ne1 : News g' L' h _ := ne1
    k_sweep
    k_steps
    (rename Fr g' _ _ _ => fr8); (rename News g' _ _ _ => ne8); exact m_ret hret fr8 ne8 (by assumption) (by assumption) hr N (by k_extra "m_pre") ⟨_, _, _, rfl, hp1, great_bd hp1 hp2 (by omega), rfl, hS1⟩
theorem c_number (w : World) (mean : ExcName → Option Value) (mg mb : Str → Option Value) {st c : Nat} {S : StT} (hS : StOk S) (hne : @Ne Nat st c) :
    Ctr PySem.Challenge.rw_ys0001_05.row.prog w (Mine.K w.params) Mine.V (looseW Mine.V [Str.ofString "NotRelativePrimeError"]) mean mg mb 239 9 60 [.ref st] (StL st c S)
      (fun v l => ∃ r tr S', v = .int r tr ∧ 0 ≤ r ∧ Bd 300 r ∧ l = StL st c S' ∧ StOk S') := by
  k_with "m:call ref" => ((k_here; (with_reducible show wpAny _ _ (call (Value.ref 232) _) _ _ _); refine hold ?_))
  k_with "m:call ref" => ((k_here; (with_reducible show wpAny _ _ (call (Value.ref 232) _) _ _ _); k_dflt ((refine Ctr.use (c_great _ _ _ _ ?_ ?_ ?_ ?_) (by k_asm) (by k_asm) (by k_asm) (by k_asm) (by k_asm) (by first | exact rfl | assumption) (by k_extra "m_pre") (by walk_at "m_rest") (by ktr_room) (by ktr_units) ?_); (assumption); (omega); (omega); (first | assumption | omega)); rintro v9 l9 h9 tk9 ⟨r9, tr9, S9, e1, hr0, hr1, e2, hS9⟩ hlo9 F9 N9; subst e1; subst e2; clear hlo9; (try dsimp only [StL, List.cons_append, List.nil_append] at N9); k_sweep; (try k_fold)))
  w_top off
  k_fill
  intro dp un gd cn cs' a ccd cl outer A₀ base h₀ L m rest s Q E B F X N hdis T hk hd hu hret
  refine wpAny_call ?_
  have N0 := news_left N
  k_dflt refine' code_defR (binds := [(Str.ofString "state", .ref st)]) ?k1 ?k2 ?k3 ?k4 ?k5 ?kA ?kF ?kK ?k6 ?k7 ?k8 ?k9 ?kB ?_ ?c2 ?c3 ?c4 ?c5
  k_dflt k_extra "m_enter"
  intro g' L' h' FG F' N' B' X' T' kept small
  (try dsimp only)
  (try k_fold)
  have hr := rest_kept N hdis kept
  k_steps
  · rename StOk _ => hS2
    have hb := getD_all (l := [0, 1, 2, 255, 256, 65535, 65536]) (P := fun x => 0 ≤ x ∧ x.natAbs < 4294967296) (by decide) (by decide)
    (rename Fr g' _ _ _ => fr8); (rename News g' _ _ _ => ne8); exact m_ret hret fr8 ne8 (by assumption) (by assumption) hr N (by k_extra "m_pre") ⟨_, _, _, rfl, (hb _).1, (Bd.small (hb _).2 (by decide)), rfl, hS2⟩
  · rename StOk _ => hS2
    (rename Fr g' _ _ _ => fr8); (rename News g' _ _ _ => ne8); refine m_ret hret fr8 ne8 (by assumption) (by assumption) hr N (by k_extra "m_pre") ⟨_, _, _, rfl, ?_, ?_, rfl, hS2⟩
    · exact (number_pow (by assumption) (by assumption) (by assumption) (by assumption)).1
    · exact (number_pow (by assumption) (by assumption) (by assumption) (by assumption)).2
  · rename StOk _ => hS2
    (rename Fr g' _ _ _ => fr8); (rename News g' _ _ _ => ne8); exact m_ret hret fr8 ne8 (by assumption) (by assumption) hr N (by k_extra "m_pre") ⟨_, _, _, rfl, by assumption, by assumption, rfl, hS2⟩
theorem c_state (w : World) (mean : ExcName → Option Value) (mg mb : Str → Option Value) {sc : Nat} {vs : List Value} {ns : List Int} (hI : IntsAre vs ns) (hn : ns.length ≤ 100) :
    CtrB PySem.Challenge.rw_ys0001_05.row.prog w (Mine.K w.params) Mine.V (looseW Mine.V [Str.ofString "NotRelativePrimeError"]) mean mg mb 218 5 20 [.ref sc] [] (fun base => base.IsList sc vs.toArray)
      (fun v l => ∃ st c S, v = .ref st ∧ l = StL st c S ∧ StOk S ∧ @Ne Nat st c) := by
  k_with "m:call ref" => ((k_here; (with_reducible show wpAny _ _ (call (Value.ref 239) _) _ _ _); refine hold ?_))
  k_with "m:call ref" => ((k_here; (with_reducible show wpAny _ _ (call (Value.ref 239) _) _ _ _); k_dflt ((refine Ctr.use (c_number _ _ _ _ ?_ ?_) (by k_asm) (by k_asm) (by k_asm) (by k_asm) (by k_asm) (by first | exact rfl | assumption) (by k_extra "m_pre") (by walk_at "m_rest") (by ktr_room) (by ktr_units) ?_); (assumption); (first | assumption | omega)); rintro v9 l9 h9 tk9 ⟨r9, tr9, S9, e1, hr0, hr1, e2, hS9⟩ hlo9 F9 N9; subst e1; subst e2; clear hlo9; (try dsimp only [StL, List.cons_append, List.nil_append] at N9); k_sweep; (try k_fold)))
  w_top off
  k_fill
  intro dp un gd cn cs' a ccd cl outer A₀ base h₀ L m rest s Q E B hL0 F X N hdis T hk hd hu hret
  refine wpAny_call ?_
  have N0 := news_left N
  k_dflt refine' code_defR (binds := [(Str.ofString "script", .ref sc)]) ?k1 ?k2 ?k3 ?k4 ?k5 ?kA ?kF ?kK ?k6 ?k7 ?k8 ?k9 ?kB ?_ ?c2 ?c3 ?c4 ?c5
  k_dflt k_extra "m_enter"
  intro g' L' h' FG F' N' B' X' T' kept small
  have hL1 := stays_list B'.stays hL0
  (try dsimp only)
  (try k_fold)
  have hr := rest_kept N hdis kept
  k_steps
  · (rename Fr g' _ _ _ => fr8); (rename News g' _ _ _ => ne8); refine m_ret hret fr8 ne8 (by assumption) (by assumption) hr N (by k_extra "m_pre") ⟨_, _, ⟨0, _, 0, _, [0], _⟩, rfl, rfl, ⟨.cons 0 _ .nil, Nat.le_of_ble_eq_true rfl, Nat.le_of_ble_eq_true rfl⟩, ?_⟩
    refine neN ?_
    omega
  · rename ¬ _ = (0 : Int) => hz
    rename IntsAre _ (List.map _ _) => hI8
    (rename Fr g' _ _ _ => fr8); (rename News g' _ _ _ => ne8); refine m_ret hret fr8 ne8 (by assumption) (by assumption) hr N (by k_extra "m_pre") ⟨_, _, ⟨0, _, 0, _, _, _⟩, rfl, rfl, ⟨hI8, ?_, ?_⟩, ?_⟩
    · dsimp only; omega
    · dsimp only; rw [List.length_map, List.length_take]; omega
    · refine neN ?_
      omega
theorem c_egcd (w : World) (mean : ExcName → Option Value) (mg mb : Str → Option Value) {oa ob : Int} {t1 t2 : Tok} {B1 : Nat} (h1 : Bd B1 oa) (h2 : Bd B1 ob) (hB1 : B1 ≤ 8000) (hob : 0 ≤ ob) :
    Ctr PySem.Challenge.rw_ys0001_05.row.prog w (Mine.K w.params) Mine.V (looseW Mine.V [Str.ofString "NotRelativePrimeError"]) mean mg mb 42 5 20 [.int oa t1, .int ob t2] []
      (fun v l => ∃ q a fx fy lx ly x y u1 u2 u3, v = .ref q ∧ l = [(q, ({ cls := .type "tuple", data := .seq #[.int a u1, .int fx u2, .int fy u3] } : Obj))] ∧ EInv oa ob a 0 x lx y ly ∧ fx = (if lx < 0 then lx + ob else lx) ∧ fy = (if ly < 0 then ly + oa else ly)) := by
  k_with "m:call ref" => ((k_here; (with_reducible show wpAny _ _ (call (Value.ref 218) _) _ _ _); refine hold ?_))
  k_with "m:call ref" => ((k_here; (with_reducible show wpAny _ _ (call (Value.ref 218) _) _ _ _); k_dflt ((refine CtrB.use (c_state _ _ _ _ (by assumption) ?_) (by k_asm) (by assumption) (by k_asm) (by k_asm) (by k_asm) (by k_asm) (by first | exact rfl | assumption) (by k_extra "m_pre") (by walk_at "m_rest") (by ktr_room) (by ktr_units) ?_); (omega)); rintro v9 l9 h9 tk9 ⟨st9, c9, S9, e1, e2, hS9, hne9⟩ hlo9 F9 N9; subst e1; subst e2; clear hlo9; (try dsimp only [StL, List.cons_append, List.nil_append] at N9); k_sweep; (try k_fold)))
  w_top off
  k_fill
  intro dp un gd cn cs' a ccd cl outer A₀ base h₀ L m rest s Q E B F X N hdis T hk hd hu hret
  refine wpAny_call ?_
  have N0 := news_left N
  k_dflt refine' code_defR (binds := [(Str.ofString "a", .int oa t1), (Str.ofString "b", .int ob t2)]) ?k1 ?k2 ?k3 ?k4 ?k5 ?kA ?kF ?kK ?k6 ?k7 ?k8 ?k9 ?kB ?_ ?c2 ?c3 ?c4 ?c5
  k_dflt k_extra "m_enter"
  intro g' L' h' FG F' N' B' X' T' kept small
  (try dsimp only)
  (try k_fold)
  have hr := rest_kept N hdis kept
  k_steps
  unfold Hold
  (try k_gentoks)
  rename Fr _ _ _ _ => fr1
  rename News _ _ _ _ => ne1
  with_unfolding_all refine ksw_while (σ := (Int × Tok) × (Int × Tok) × (Int × Tok) × (Int × Tok) × (Int × Tok) × (Int × Tok)) (fun _ => []) (fun c => [(Str.ofString "a", .int c.1.1 c.1.2), (Str.ofString "b", .int c.2.1.1 c.2.1.2), (Str.ofString "x", .int c.2.2.1.1 c.2.2.1.2), (Str.ofString "lx", .int c.2.2.2.1.1 c.2.2.2.1.2), (Str.ofString "y", .int c.2.2.2.2.1.1 c.2.2.2.2.1.2), (Str.ofString "ly", .int c.2.2.2.2.2.1 c.2.2.2.2.2.2)]) (fun _ => True) [Str.ofString "q", Str.ofString "a", Str.ofString "b", Str.ofString "x", Str.ofString "lx", Str.ofString "y", Str.ofString "ly"] (fun c => EInv oa ob c.1.1 c.2.1.1 c.2.2.1.1 c.2.2.2.1.1 c.2.2.2.2.1.1 c.2.2.2.2.2.1) (fun c => c.2.1.1.toNat) ((oa, t1), (ob, t2), (0, _), (1, _), (1, _), (0, _)) fr1 ne1 trivial (List.forall_mem_cons.mpr ⟨rfl, List.forall_mem_cons.mpr ⟨rfl, List.forall_mem_cons.mpr ⟨rfl, List.forall_mem_cons.mpr ⟨rfl, List.forall_mem_cons.mpr ⟨rfl, List.forall_mem_cons.mpr ⟨rfl, List.forall_mem_nil _⟩⟩⟩⟩⟩⟩) (EInv.start hob) ?_ ?_
  · clear fr1 ne1
    rintro ⟨⟨a, ta⟩, ⟨b, tb⟩, ⟨x, tx⟩, ⟨lx, tlx⟩, ⟨y, ty⟩, ⟨ly, tly⟩⟩ u h tk - hp fr1 ne1
    dsimp only at hp fr1 ne1 ⊢
    replace fr1 : Fr g' L' h _ := fr1
    replace ne1 : News g' L' h _ := ne1
    k_sweep
    (try k_fold)
    have hlg := hp.lg h2 hB1
    k_steps
    · rename b ≠ 0 => hb0
      have hm1 := hp.mul1 h1 h2 (by omega) hb0
      have hm2 := hp.mul2 h1 h2 (by omega) hb0
      dsimp only
      k_steps
      rename Fr g' _ _ _ => fr2
      rename News g' _ _ _ => ne2
      with_unfolding_all refine' ksw_end ((_, _), (_, _), (_, _), (_, _), (_, _), (_, _)) fr2 ne2 (List.forall_mem_nil _) trivial (List.forall_mem_cons.mpr ⟨rfl, List.forall_mem_cons.mpr ⟨rfl, List.forall_mem_cons.mpr ⟨rfl, List.forall_mem_cons.mpr ⟨rfl, List.forall_mem_cons.mpr ⟨rfl, List.forall_mem_cons.mpr ⟨rfl, List.forall_mem_nil _⟩⟩⟩⟩⟩⟩) ?_ ?_ ?_
      · intro z h2 h3
        simp only [List.forall_mem_cons, List.not_mem_nil, false_implies, implies_true, and_true, ne_eq] at h2
        simp only [List.contains_cons, List.contains_nil, Bool.or_false, Bool.or_eq_false_iff, beq_eq_false_iff_ne, ne_eq] at h3
        simp [kstB, h2, h3]
      · exact hp.step hb0
      · have := hp.hb
        have := fmod_nn (a := a) (b := b) (by omega)
        show (a.fmod b).toNat < b.toNat
        omega
    all_goals (rename b = 0 => hb0; subst hb0; (rename Fr g' _ _ _ => fr8); (rename News g' _ _ _ => ne8); refine m_ret hret fr8 ne8 (by assumption) (by assumption) hr N (fun p hp => hp) ⟨_, _, _, _, lx, ly, x, y, _, _, _, rfl, rfl, hp, ?_, ?_⟩)
    · exact (if_pos (by assumption)).symm
    · exact (if_pos (by assumption)).symm
    · exact (if_pos (by assumption)).symm
    · exact (if_neg (by assumption)).symm
    · exact (if_neg (by assumption)).symm
    · exact (if_pos (by assumption)).symm
    · exact (if_neg (by assumption)).symm
    · exact (if_neg (by assumption)).symm
  · with_unfolding_all passes_own
theorem EInv.inv {oa ob a x lx y ly fx : Int} (h : EInv oa ob a 0 x lx y ly) (hb : 0 < ob) (h1 : a = 1) (hx : fx = if lx < 0 then lx + ob else lx) : 0 ≤ fx ∧ fx ≤ ob ∧ (fx < ob ∨ ob = 1) ∧ ob ∣ fx * oa - 1 := by
  k_with "m:call ref" => ((k_here; (with_reducible show wpAny _ _ (call (Value.ref 42) _) _ _ _); refine hold ?_))
  k_with "m:call ref" => ((k_here; (with_reducible show wpAny _ _ (call (Value.ref 42) _) _ _ _); k_dflt ((refine Ctr.use (c_egcd (B1 := 990) _ _ _ _ ?_ ?_ ?_ ?_) (by k_asm) (by k_asm) (by k_asm) (by k_asm) (by k_asm) (by first | exact rfl | assumption) (by k_extra "m_pre") (by walk_at "m_rest") (by ktr_room) (by ktr_units) ?_); (walk_at "m_bd"); (walk_at "m_bd"); (decide); (walk_at "m_fact")); rintro v9 l9 h9 tk9 ⟨q9, a9, fx9, fy9, lx9, ly9, x9, y9, u91, u92, u93, e1, e2, he9, hx9, hy9⟩ hlo9 F9 N9; subst e1; subst e2; (try (refine EInv.facts_k he9 ?fa ?fb ?fc ?fd hx9 hy9 ?_; (case fa => walk_at "m_fact"); (case fb => walk_at "m_fact"); (case fc => walk_at "m_bd"); (case fd => walk_at "m_bd"); intro hg9 hf1 hf2 hf3 hf4 hf5 hf6 hf7 hf8)); replace hlo9 := allNe_of hlo9; (try simp only [AllNe, and_true] at hlo9); (try dsimp only [List.cons_append, List.nil_append] at N9); k_sweep; (try k_fold)))
  obtain ⟨hb0, bz1, bz2, hg, st⟩ := h
  have hd : ob ∣ fx * oa - 1 := by
    subst hx
    split
    · exact ⟨oa - ly, by grind⟩
    · exact ⟨-ly, by grind⟩
  rcases st with ⟨k1, k2, _⟩ | R
  · omega
  · have l1 := R.lx1
    have l2 := R.lx2
    have hne : ob = 1 ∨ (lx ≠ ob ∧ lx ≠ -ob) := by
      by_cases q : ob = 1
      · exact .inl q
      · right
        constructor <;> intro e
        · rw [e] at bz1
          have : ob ∣ 1 := ⟨oa + ly, by grind⟩
          have := Int.le_of_dvd (by decide) this
          omega
        · rw [e] at bz1
          have : ob ∣ 1 := ⟨ly - oa, by grind⟩
          have := Int.le_of_dvd (by decide) this
          omega
    subst hx
    refine ⟨?_, ?_, ?_, hd⟩
    · split <;> omega
    · split <;> omega
    · split <;> omega
theorem c_inverse (w : World) (mean : ExcName → Option Value) (mg mb : Str → Option Value) {x n : Int} {t1 t2 : Tok} (h1 : Bd 480 x) (h2 : Bd 480 n) (hx : 0 ≤ x) (hn : 0 < n) (hg : Int.gcd x n = 1) :
    Ctr PySem.Challenge.rw_ys0001_05.row.prog w (Mine.K w.params) Mine.V (looseW Mine.V [Str.ofString "NotRelativePrimeError"]) mean mg mb 49 8 60 [.int x t1, .int n t2] []
      (fun v l => ∃ r tr, v = .int r tr ∧ l = [] ∧ 0 ≤ r ∧ r ≤ n ∧ (r < n ∨ n = 1) ∧ n ∣ r * x - 1 ∧ Bd 480 r) := by
  w_top off
  k_fill
  intro dp un gd cn cs' a ccd cl outer A₀ base h₀ L m rest s Q E B F X N hdis T hk hd hu hret
  refine wpAny_call ?_
  have N0 := news_left N
  k_dflt refine' code_defR (binds := [(Str.ofString "x", .int x t1), (Str.ofString "n", .int n t2)]) ?k1 ?k2 ?k3 ?k4 ?k5 ?kA ?kF ?kK ?k6 ?k7 ?k8 ?k9 ?kB ?_ ?c2 ?c3 ?c4 ?c5
  k_dflt k_extra "m_enter"
  intro g' L' h' FG F' N' B' X' T' kept small
  (try dsimp only)
  (try k_fold)
  have hr := rest_kept N hdis kept
  k_steps
  · exfalso
    rename EInv _ _ _ _ _ _ _ _ => he
    have := he.gcdIs (.inl hx)
    rw [hg] at this
    omega
  · rename EInv _ _ _ _ _ _ _ _ => he
    have hi := he.inv hn (by have := he.gcdIs (.inl hx); rw [hg] at this; exact this) (by assumption)
    (rename Fr g' _ _ _ => fr8); (rename News g' _ _ _ => ne8)
    exact m_ret hret fr8 ne8 (by assumption) (by assumption) hr N (List.forall_mem_nil _) ⟨_, _, rfl, rfl, hi.1, hi.2.1, hi.2.2.1, hi.2.2.2, Bd.of_lt hi.1 hi.2.1 h2⟩
local macro_rules | `(tactic| walk_at "call builtin:pow") => `(tactic| (refine pow3 ?hm ?hy ?_; (case hm => walk_at "m_fact"); (case hy => walk_at "m_fact")))
local macro_rules | `(tactic| walk_at "call ref") => `(tactic| (k_here; (with_reducible show wpAny _ _ (call (Value.ref 56) _) _ _ _); k_dflt (walk_at "m_inline")))
local macro_rules | `(tactic| walk_at "m_bd") => `(tactic| first | (refine PM_bd ?a ?b; (case a => first | assumption | omega); (case b => walk_at "m_bd")) | (refine fmod_bd ?a ?b; (case a => first | assumption | omega); (case b => walk_at "m_bd")))
theorem c_encrypt (w : World) (mean : ExcName → Option Value) (mg mb : Str → Option Value) {x e n : Int} {t1 t2 t3 : Tok} (hx : 0 ≤ x) (hxn : x ≤ n) (he : 0 ≤ e) (hn : 0 < n) :
    Ctr PySem.Challenge.rw_ys0001_05.row.prog w (Mine.K w.params) Mine.V (looseW Mine.V [Str.ofString "NotRelativePrimeError"]) mean mg mb 63 8 60 [.int x t1, .int e t2, .int n t3] []
      (fun v l => ∃ tr, v = .int (PM x e n) tr ∧ l = []) := by
  k_with "m:call ref" => ((k_here; (with_reducible show wpAny _ _ (call (Value.ref 49) _) _ _ _); refine hold ?_))
  k_with "m:call ref" => ((k_here; (with_reducible show wpAny _ _ (call (Value.ref 49) _) _ _ _); k_dflt ((refine Ctr.use (c_inverse _ _ _ _ ?_ ?_ ?_ ?_ ?_) (by k_asm) (by k_asm) (by k_asm) (by k_asm) (by k_asm) (by first | exact rfl | assumption) (by k_extra "m_pre") (by walk_at "m_rest") (by ktr_room) (by ktr_units) ?_); (walk_at "m_bd"); (walk_at "m_bd"); (walk_at "m_fact"); (walk_at "m_fact"); (first | assumption | rfl)); rintro v9 l9 h9 tk9 ⟨r9, tr9, e1, e2, hi1, hi0, hi2, hi3, hi4⟩ hlo9 F9 N9; subst e1; subst e2; clear hlo9; (try dsimp only [List.nil_append] at N9); k_sweep; (try k_fold)))
  k_with "m:call ref" => ((k_here; (with_reducible show wpAny _ _ (call (Value.ref 56) _) _ _ _); refine hold ?_))
  w_top off
  k_fill
  intro dp un gd cn cs' a ccd cl outer A₀ base h₀ L m rest s Q E B F X N hdis T hk hd hu hret
  refine wpAny_call ?_
  have N0 := news_left N
  k_dflt refine' code_defR (binds := [(Str.ofString "message", .int x t1), (Str.ofString "ekey", .int e t2), (Str.ofString "n", .int n t3)]) ?k1 ?k2 ?k3 ?k4 ?k5 ?kA ?kF ?kK ?k6 ?k7 ?k8 ?k9 ?kB ?_ ?c2 ?c3 ?c4 ?c5
  k_dflt k_extra "m_enter"
  intro g' L' h' FG F' N' B' X' T' kept small
  (try dsimp only)
  (try k_fold)
  have hr := rest_kept N hdis kept
  k_steps
  (rename Fr g' _ _ _ => fr8); (rename News g' _ _ _ => ne8); exact m_ret hret fr8 ne8 (by assumption) (by assumption) hr N (by k_extra "m_pre") ⟨_, rfl, rfl⟩
theorem c_decrypt (w : World) (mean : ExcName → Option Value) (mg mb : Str → Option Value) {x e n : Int} {t1 t2 t3 : Tok} (he : 0 ≤ e) (hn : 0 < n) :
    Ctr PySem.Challenge.rw_ys0001_05.row.prog w (Mine.K w.params) Mine.V (looseW Mine.V [Str.ofString "NotRelativePrimeError"]) mean mg mb 70 8 60 [.int x t1, .int e t2, .int n t3] []
      (fun v l => ∃ tr, v = .int (PM x e n) tr ∧ l = []) := by
  k_with "m:call ref" => ((k_here; (with_reducible show wpAny _ _ (call (Value.ref 63) _) _ _ _); refine hold ?_))
  k_with "m:call ref" => ((k_here; (with_reducible show wpAny _ _ (call (Value.ref 63) _) _ _ _); k_dflt ((refine Ctr.use (c_encrypt _ _ _ _ ?_ ?_ ?_ ?_) (by k_asm) (by k_asm) (by k_asm) (by k_asm) (by k_asm) (by first | exact rfl | assumption) (by k_extra "m_pre") (by walk_at "m_rest") (by ktr_room) (by ktr_units) ?_); (walk_at "m_fact"); (walk_at "m_fact"); (walk_at "m_fact"); (walk_at "m_fact")); rintro v9 l9 h9 tk9 ⟨tr9, e1, e2⟩ hlo9 F9 N9; subst e1; subst e2; clear hlo9; (try dsimp only [List.nil_append] at N9); k_sweep; (try k_fold)))
  w_top off
  k_fill
  intro dp un gd cn cs' a ccd cl outer A₀ base h₀ L m rest s Q E B F X N hdis T hk hd hu hret
  refine wpAny_call ?_
  have N0 := news_left N
  k_dflt refine' code_defR (binds := [(Str.ofString "cyphertext", .int x t1), (Str.ofString "dkey", .int e t2), (Str.ofString "n", .int n t3)]) ?k1 ?k2 ?k3 ?k4 ?k5 ?kA ?kF ?kK ?k6 ?k7 ?k8 ?k9 ?kB ?_ ?c2 ?c3 ?c4 ?c5
  k_dflt k_extra "m_enter"
  intro g' L' h' FG F' N' B' X' T' kept small
  (try dsimp only)
  (try k_fold)
  have hr := rest_kept N hdis kept
  k_steps
  (rename Fr g' _ _ _ => fr8); (rename News g' _ _ _ => ne8); exact m_ret hret fr8 ne8 (by assumption) (by assumption) hr N (by k_extra "m_pre") ⟨_, rfl, rfl⟩
theorem c_pgcd (w : World) (mean : ExcName → Option Value) (mg mb : Str → Option Value) {p q : Int} {t1 t2 : Tok} (hp0 : 0 ≤ p) (hq0 : 0 ≤ q) :
    Ctr PySem.Challenge.rw_ys0001_05.row.prog w (Mine.K w.params) Mine.V (looseW Mine.V [Str.ofString "NotRelativePrimeError"]) mean mg mb 77 5 20 [.int p t1, .int q t2] []
      (fun v l => ∃ tr, v = .int (Int.gcd p q) tr ∧ l = []) := by
  k_with "m:call ref" => ((k_here; (with_reducible show wpAny _ _ (call (Value.ref 70) _) _ _ _); refine hold ?_))
  k_with "m:call ref" => ((k_here; (with_reducible show wpAny _ _ (call (Value.ref 70) _) _ _ _); k_dflt ((refine Ctr.use (c_decrypt _ _ _ _ ?_ ?_) (by k_asm) (by k_asm) (by k_asm) (by k_asm) (by k_asm) (by first | exact rfl | assumption) (by k_extra "m_pre") (by walk_at "m_rest") (by ktr_room) (by ktr_units) ?_); (walk_at "m_fact"); (walk_at "m_fact")); rintro v9 l9 h9 tk9 ⟨tr9, e1, e2⟩ hlo9 F9 N9; subst e1; subst e2; clear hlo9; (try dsimp only [List.nil_append] at N9); k_sweep; (try k_fold)))
  w_top off
  k_fill
  intro dp un gd cn cs' a ccd cl outer A₀ base h₀ L m rest s Q E B F X N hdis T hk hd hu hret
  refine wpAny_call ?_
  have N0 := news_left N
  k_dflt refine' code_defR (binds := [(Str.ofString "p", .int p t1), (Str.ofString "q", .int q t2)]) ?k1 ?k2 ?k3 ?k4 ?k5 ?kA ?kF ?kK ?k6 ?k7 ?k8 ?k9 ?kB ?_ ?c2 ?c3 ?c4 ?c5
  k_dflt k_extra "m_enter"
  intro g' L' h' FG F' N' B' X' T' kept small
  (try dsimp only)
  (try k_fold)
  have hr := rest_kept N hdis kept
  k_steps
  unfold Hold
  (try k_gentoks)
  rename Fr _ _ _ _ => fr1
  rename News _ _ _ _ => ne1
  with_unfolding_all refine ksw_while (σ := (Int × Tok) × (Int × Tok)) (fun _ => []) (fun c => [(Str.ofString "p", .int c.1.1 c.1.2), (Str.ofString "q", .int c.2.1 c.2.2)]) (fun _ => True) [Str.ofString "p", Str.ofString "q"] (fun c => 0 ≤ c.1.1 ∧ 0 ≤ c.2.1 ∧ Int.gcd c.1.1 c.2.1 = Int.gcd p q) (fun c => c.2.1.toNat) ((p, t1), (q, t2)) fr1 ne1 trivial (List.forall_mem_cons.mpr ⟨rfl, List.forall_mem_cons.mpr ⟨rfl, List.forall_mem_nil _⟩⟩) ⟨hp0, hq0, rfl⟩ ?_ ?_
  · clear fr1 ne1
    rintro ⟨⟨a, ta⟩, ⟨b, tb⟩⟩ u h tk - ⟨ha, hb, hg⟩ fr1 ne1
    dsimp only at ha hb hg fr1 ne1 ⊢
    replace fr1 : Fr g' L' h _ := fr1
    replace ne1 : News g' L' h _ := ne1
    k_sweep
    (try k_fold)
    k_steps
    · rename b ≠ 0 => hb0
      rename Fr g' _ _ _ => fr2
      rename News g' _ _ _ => ne2
      have h5 := fmod_nn (a := a) (b := b) (by omega)
      with_unfolding_all refine' ksw_end ((_, _), (_, _)) fr2 ne2 (List.forall_mem_nil _) trivial (List.forall_mem_cons.mpr ⟨rfl, List.forall_mem_cons.mpr ⟨rfl, List.forall_mem_nil _⟩⟩) ?_ ?_ ?_
      · k_extra "m_same"
      · exact ⟨hb, h5.1, (gcd_fmod (a := a) (b := b) (by omega)).trans hg⟩
      · show (a.fmod b).toNat < b.toNat
        omega
    · rename b = 0 => hb0
      subst hb0
      have e : a = (Int.gcd p q : Int) := by rw [← hg, Int.gcd_zero_right]; omega
      subst e
      (rename Fr g' _ _ _ => fr8); (rename News g' _ _ _ => ne8); exact m_ret hret fr8 ne8 (by assumption) (by assumption) hr N (by k_extra "m_pre") ⟨_, rfl, rfl⟩
  · with_unfolding_all passes_own
theorem c_arp (w : World) (mean : ExcName → Option Value) (mg mb : Str → Option Value) {p q : Int} {t1 t2 : Tok} (hp0 : 0 ≤ p) (hq0 : 0 ≤ q) :
    Ctr PySem.Challenge.rw_ys0001_05.row.prog w (Mine.K w.params) Mine.V (looseW Mine.V [Str.ofString "NotRelativePrimeError"]) mean mg mb 84 8 40 [.int p t1, .int q t2] []
      (fun v l => ∃ b, v = .bool b ∧ (b = true ↔ Int.gcd p q = 1) ∧ l = []) := by
  k_with "m:call ref" => ((k_here; (with_reducible show wpAny _ _ (call (Value.ref 77) _) _ _ _); refine hold ?_))
  k_with "m:call ref" => ((k_here; (with_reducible show wpAny _ _ (call (Value.ref 77) _) _ _ _); k_dflt ((refine Ctr.use (c_pgcd _ _ _ _ ?_ ?_) (by k_asm) (by k_asm) (by k_asm) (by k_asm) (by k_asm) (by first | exact rfl | assumption) (by k_extra "m_pre") (by walk_at "m_rest") (by ktr_room) (by ktr_units) ?_); (walk_at "m_fact"); (walk_at "m_fact")); rintro v9 l9 h9 tk9 ⟨tr9, e1, e2⟩ hlo9 F9 N9; subst e1; subst e2; clear hlo9; (try dsimp only [List.nil_append] at N9); k_sweep; (try k_fold)))
  w_top off
  k_fill
  intro dp un gd cn cs' a ccd cl outer A₀ base h₀ L m rest s Q E B F X N hdis T hk hd hu hret
  refine wpAny_call ?_
  have N0 := news_left N
  k_dflt refine' code_defR (binds := [(Str.ofString "a", .int p t1), (Str.ofString "b", .int q t2)]) ?k1 ?k2 ?k3 ?k4 ?k5 ?kA ?kF ?kK ?k6 ?k7 ?k8 ?k9 ?kB ?_ ?c2 ?c3 ?c4 ?c5
  k_dflt k_extra "m_enter"
  intro g' L' h' FG F' N' B' X' T' kept small
  (try dsimp only)
  (try k_fold)
  have hr := rest_kept N hdis kept
  k_steps
  (rename Fr g' _ _ _ => fr8); (rename News g' _ _ _ => ne8); exact m_ret hret fr8 ne8 (by assumption) (by assumption) hr N (by k_extra "m_pre") ⟨_, rfl, by simp; omega, rfl⟩
theorem c_ibf_pv (w : World) (mean : ExcName → Option Value) (mg mb : Str → Option Value) {x dx : Nat} {S : KeyS} {bf bi : Int} {t1 t2 : Tok} (hne : @Ne Nat x dx) (hk0 : KOk S) :
    Ctr PySem.Challenge.rw_ys0001_05.row.prog w (Mine.K w.params) Mine.V (looseW Mine.V [Str.ofString "NotRelativePrimeError"]) mean mg mb 119 12 80 [.ref x] (KeyL w 204 x dx S bf t1 bi t2)
      (fun v l => ∃ r tr, v = .int r tr ∧ 2 ≤ r ∧ (∀ R, 2 ≤ R → Int.gcd S.n R = 1 → r ≤ R) ∧ Int.gcd r S.n = 1 ∧ Bd 471 r ∧ l = KeyL w 204 x dx S bf t1 bi t2) := by
  k_with "m:call ref" => ((k_here; (with_reducible show wpAny _ _ (call (Value.ref 84) _) _ _ _); refine hold ?_))
  k_with "m:call ref" => ((k_here; (with_reducible show wpAny _ _ (call (Value.ref 84) _) _ _ _); k_dflt ((refine Ctr.use (c_arp _ _ _ _ ?_ ?_) (by k_asm) (by k_asm) (by k_asm) (by k_asm) (by k_asm) (by first | exact rfl | assumption) (by k_extra "m_pre") (by walk_at "m_rest") (by ktr_room) (by ktr_units) ?_); (walk_at "m_fact"); (walk_at "m_fact")); rintro v9 l9 h9 tk9 ⟨tr9, e1, h9b, e2⟩ hlo9 F9 N9; subst e1; subst e2; clear hlo9; (try dsimp only [List.nil_append] at N9); k_sweep; (try k_fold)))
  have hn : 0 < S.n := hk0.1
  w_top off
  k_fill
  intro dp un gd cn cs' a ccd cl outer A₀ base h₀ L m rest s Q E B F X N hdis T hk hd hu hret
  refine wpAny_call ?_
  have N0 := news_left N
  k_dflt refine' code_defR (binds := [(Str.ofString "self", .ref x)]) ?k1 ?k2 ?k3 ?k4 ?k5 ?kA ?kF ?kK ?k6 ?k7 ?k8 ?k9 ?kB ?_ ?c2 ?c3 ?c4 ?c5
  k_dflt k_extra "m_enter"
  intro g' L' h' FG F' N' B' X' T' kept small
  (try dsimp only)
  (try k_fold)
  have hr := rest_kept N hdis kept
  k_steps
  unfold Hold
  (try k_gentoks)
  rename Fr _ _ _ _ => fr1
  rename News _ _ _ _ => ne1
  with_unfolding_all refine ksw_while (σ := Int × Tok) (fun _ => KeyL w 204 x dx S bf t1 bi t2) (fun c => [(Str.ofString "blind_r", .int c.1 c.2)]) (fun _ => True) [Str.ofString "blind_r"] (fun c => 2 ≤ c.1 ∧ ∀ k, 2 ≤ k → k < c.1 → Int.gcd S.n k ≠ 1) (fun c => (S.n + 2 - c.1).toNat) (2, _) fr1 ne1 trivial (List.forall_mem_cons.mpr ⟨rfl, List.forall_mem_nil _⟩) ⟨Int.le_refl 2, by intro k h1 h2; dsimp only at h2; omega⟩ ?_ ?_
  · clear fr1 ne1
    rintro ⟨r, tr⟩ u h tk - ⟨ha, hb⟩ fr1 ne1
    dsimp only at ha hb fr1 ne1 ⊢
    replace fr1 : Fr g' L' h _ := fr1
    replace ne1 : News g' L' h _ := ne1
    k_sweep
    (try k_fold)
    k_steps
    · rename _ ↔ _ => hiff
      have hmin : ∀ R, 2 ≤ R → Int.gcd S.n R = 1 → r ≤ R := fun R h1 h2 => Int.not_lt.mp fun hc => hb R h1 hc h2
      (rename Fr g' _ _ _ => fr8); (rename News g' _ _ _ => ne8); exact m_ret hret fr8 ne8 (by assumption) (by assumption) hr N (by k_extra "m_pre") ⟨_, _, rfl, ha, hmin, (Int.gcd_comm _ _).trans (hiff.mp (by assumption)), Bd.lt_succ hk0.2.1 (by omega) (hmin (S.n + 1) (by omega) (gcd_succ S.n)), rfl⟩
    · rename _ ↔ _ => hiff
      rename Fr g' _ _ _ => fr2
      rename News g' _ _ _ => ne2
      with_unfolding_all refine' ksw_end (_, _) fr2 ne2 ?_ trivial (List.forall_mem_cons.mpr ⟨rfl, List.forall_mem_nil _⟩) ?_ ?_ ?_
      · k_extra "m_pre"
      · k_extra "m_same"
      · refine ⟨by dsimp only; omega, fun k h1 h2 => ?_⟩
        dsimp only at h2
        by_cases hk2 : k = r
        · subst hk2
          intro e
          have := hiff.mpr e
          simp_all
        · exact hb k h1 (by omega)
      · have hle : r ≤ S.n + 1 := by
          refine Int.not_lt.mp fun hc => hb (S.n + 1) (by omega) hc ?_
          exact gcd_succ S.n
        dsimp only
        omega
  · with_unfolding_all passes_own
theorem c_upd_pv (w : World) (mean : ExcName → Option Value) (mg mb : Str → Option Value) {x dx : Nat} {S : KeyS} {bf bi : Int} {t1 t2 : Tok} (hne : @Ne Nat x dx) (hk : KOk S) (hb : BfOk S bf bi) :
    Ctr PySem.Challenge.rw_ys0001_05.row.prog w (Mine.K w.params) Mine.V (looseW Mine.V [Str.ofString "NotRelativePrimeError"]) mean mg mb 126 20 120 [.ref x] (KeyL w 204 x dx S bf t1 bi t2)
      (fun v l => ∃ tp b' s1 i' s2, v = .ref tp ∧ BfOk S b' i' ∧ 0 ≤ b' ∧ l = (tp, ({ cls := .type "tuple", data := .seq #[.int b' s1, .int i' s2] } : Obj)) :: KeyL w 204 x dx S b' s1 i' s2) := by
  k_with "m:call ref" => ((k_here; (with_reducible show wpAny _ _ (call (Value.ref 119) _) _ _ _); refine hold ?_))
  k_with "m:call ref" => ((k_here; (with_reducible show wpAny _ _ (call (Value.ref 119) _) _ _ _); k_dflt ((refine Ctr.use (c_ibf_pv _ _ _ _ (by assumption) (by assumption)) (by k_asm) (by k_asm) (by k_asm) (by k_asm) (by k_asm) (by first | exact rfl | assumption) (by k_extra "m_pre") (by walk_at "m_rest") (by ktr_room) (by ktr_units) ?_)); rintro v9 l9 h9 tk9 ⟨r9, tr9, e1, h9a, h9b, h9c, h9d, e2⟩ hlo9 F9 N9; subst e1; subst e2; clear hlo9; (try dsimp only [List.cons_append, List.nil_append] at N9); k_sweep; (try k_fold)))
  have hkk := hk
  obtain ⟨hk0, hk1, hk2, hk3⟩ := hk
  w_top off
  k_fill
  intro dp un gd cn cs' a ccd cl outer A₀ base h₀ L m rest s Q E B F X N hdis T hk hd hu hret
  refine wpAny_call ?_
  have N0 := news_left N
  k_dflt refine' code_defR (binds := [(Str.ofString "self", .ref x)]) ?k1 ?k2 ?k3 ?k4 ?k5 ?kA ?kF ?kK ?k6 ?k7 ?k8 ?k9 ?kB ?_ ?c2 ?c3 ?c4 ?c5
  k_dflt k_extra "m_enter"
  intro g' L' h' FG F' N' B' X' T' kept small
  (try dsimp only)
  (try k_fold)
  have hr := rest_kept N hdis kept
  k_steps
  · (rename Fr g' _ _ _ => fr8); (rename News g' _ _ _ => ne8); exact m_ret hret fr8 ne8 (by assumption) (by assumption) hr N (by k_extra "m_pre") ⟨_, _, _, _, _, rfl, BfOk.first hkk (by assumption) (by assumption) (by assumption) (by assumption) (by assumption), by omega, rfl⟩
  · (rename Fr g' _ _ _ => fr8); (rename News g' _ _ _ => ne8); exact m_ret hret fr8 ne8 (by assumption) (by assumption) hr N (by k_extra "m_pre") ⟨_, _, _, _, _, rfl, BfOk.next hkk hb (by assumption), PM_nn _ _ _, rfl⟩
theorem c_unblind_pv (w : World) (mean : ExcName → Option Value) (mg mb : Str → Option Value) {x dx : Nat} {S : KeyS} {bf bi y i : Int} {t1 t2 ty ti : Tok} (hne : @Ne Nat x dx) (hk : KOk S) (hy : Bd 480 y) (hi : Bd 480 i) :
    Ctr PySem.Challenge.rw_ys0001_05.row.prog w (Mine.K w.params) Mine.V (looseW Mine.V [Str.ofString "NotRelativePrimeError"]) mean mg mb 112 5 30 [.ref x, .int y ty, .int i ti] (KeyL w 204 x dx S bf t1 bi t2)
      (fun v l => ∃ r tr, v = .int r tr ∧ 0 ≤ r ∧ r < S.n ∧ S.n ∣ r - i * y ∧ l = KeyL w 204 x dx S bf t1 bi t2) := by
  k_with "m:call ref" => ((k_here; (with_reducible show wpAny _ _ (call (Value.ref 126) _) _ _ _); refine hold ?_))
  k_with "m:call ref" => ((k_here; (with_reducible show wpAny _ _ (call (Value.ref 126) _) _ _ _); k_dflt ((refine Ctr.use (c_upd_pv _ _ _ _ (by assumption) (by assumption) (by assumption)) (by k_asm) (by k_asm) (by k_asm) (by k_asm) (by k_asm) (by first | exact rfl | assumption) (by k_extra "m_pre") (by walk_at "m_rest") (by ktr_room) (by ktr_units) ?_)); rintro v9 l9 h9 tk9 ⟨tp9, b9, s9, i9, t9, e1, h9a, h9b, e2⟩ hlo9 F9 N9; subst e1; subst e2; clear hlo9; (try dsimp only [List.cons_append, List.nil_append] at N9); k_sweep; (try k_fold)))
  have hkk := hk
  obtain ⟨hk0, hk1, hk2, hk3⟩ := hk
  w_top off
  k_fill
  intro dp un gd cn cs' a ccd cl outer A₀ base h₀ L m rest s Q E B F X N hdis T hk hd hu hret
  refine wpAny_call ?_
  have N0 := news_left N
  k_dflt refine' code_defR (binds := [(Str.ofString "self", .ref x), (Str.ofString "blinded", .int y ty), (Str.ofString "blindfac_inverse", .int i ti)]) ?k1 ?k2 ?k3 ?k4 ?k5 ?kA ?kF ?kK ?k6 ?k7 ?k8 ?k9 ?kB ?_ ?c2 ?c3 ?c4 ?c5
  k_dflt k_extra "m_enter"
  intro g' L' h' FG F' N' B' X' T' kept small
  (try dsimp only)
  (try k_fold)
  have hr := rest_kept N hdis kept
  k_steps
  (rename Fr g' _ _ _ => fr8); (rename News g' _ _ _ => ne8); exact m_ret hret fr8 ne8 (by assumption) (by assumption) hr N (by k_extra "m_pre") ⟨_, _, rfl, (fmod_nn hk0).1, (fmod_nn hk0).2, fmod_dvd hk0, rfl⟩
theorem c_blind_pv (w : World) (mean : ExcName → Option Value) (mg mb : Str → Option Value) {x dx : Nat} {S : KeyS} {bf bi y : Int} {t1 t2 ty : Tok} (hne : @Ne Nat x dx) (hk : KOk S) (hb : BfOk S bf bi) (hy : Bd 480 y) :
    Ctr PySem.Challenge.rw_ys0001_05.row.prog w (Mine.K w.params) Mine.V (looseW Mine.V [Str.ofString "NotRelativePrimeError"]) mean mg mb 105 26 160 [.ref x, .int y ty] (KeyL w 204 x dx S bf t1 bi t2)
      (fun v l => ∃ tp b' s1 i' s2 r s3, v = .ref tp ∧ @Ne Nat tp x ∧ @Ne Nat tp dx ∧ BfOk S b' i' ∧ 0 ≤ b' ∧ Bd 471 i' ∧ 0 ≤ r ∧ r < S.n ∧ S.n ∣ r - y * b' ^ S.e.toNat ∧ l = (tp, ({ cls := .type "tuple", data := .seq #[.int r s3, .int i' s2] } : Obj)) :: KeyL w 204 x dx S b' s1 i' s2) := by
  k_with "m:call ref" => ((k_here; (with_reducible show wpAny _ _ (call (Value.ref 112) _) _ _ _); refine hold ?_))
  k_with "m:call ref" => ((k_here; (with_reducible show wpAny _ _ (call (Value.ref 112) _) _ _ _); k_dflt ((refine Ctr.use (c_unblind_pv _ _ _ _ (by assumption) (by assumption) (by walk_at "m_bd") (by walk_at "m_bd")) (by k_asm) (by k_asm) (by k_asm) (by k_asm) (by k_asm) (by first | exact rfl | assumption) (by k_extra "m_pre") (by walk_at "m_rest") (by ktr_room) (by ktr_units) ?_)); rintro v9 l9 h9 tk9 ⟨r9, tr9, e1, h9a, h9b, h9c, e2⟩ hlo9 F9 N9; subst e1; subst e2; clear hlo9; (try dsimp only [List.cons_append, List.nil_append] at N9); k_sweep; (try k_fold)))
  have hkk := hk
  obtain ⟨hk0, hk1, hk2, hk3⟩ := hk
  w_top off
  k_fill
  intro dp un gd cn cs' a ccd cl outer A₀ base h₀ L m rest s Q E B F X N hdis T hk hd hu hret
  refine wpAny_call ?_
  have N0 := news_left N
  k_dflt refine' code_defR (binds := [(Str.ofString "self", .ref x), (Str.ofString "message", .int y ty)]) ?k1 ?k2 ?k3 ?k4 ?k5 ?kA ?kF ?kK ?k6 ?k7 ?k8 ?k9 ?kB ?_ ?c2 ?c3 ?c4 ?c5
  k_dflt k_extra "m_enter"
  intro g' L' h' FG F' N' B' X' T' kept small
  (try dsimp only)
  (try k_fold)
  have hr := rest_kept N hdis kept
  k_steps
  (rename Fr g' _ _ _ => fr8); (rename News g' _ _ _ => ne8); exact m_ret hret fr8 ne8 (by assumption) (by assumption) hr N (by k_extra "m_pre") ⟨_, _, _, _, _, _, _, rfl, neN (by omega), neN (by omega), by assumption, by assumption, BfOk.bd hkk (by assumption) (by assumption), (fmod_nn hk0).1, (fmod_nn hk0).2, blinded_dvd hk0, rfl⟩
theorem c_bdec (w : World) (mean : ExcName → Option Value) (mg mb : Str → Option Value) {x dx : Nat} {S : KeyS} {bf bi y : Int} {t1 t2 ty : Tok} (hne : @Ne Nat x dx) (hk : KRsa S) (hb : BfOk S bf bi) (hy : Bd 480 y) :
    Ctr PySem.Challenge.rw_ys0001_05.row.prog w (Mine.K w.params) Mine.V (looseW Mine.V [Str.ofString "NotRelativePrimeError"]) mean mg mb 194 32 200 [.ref x, .int y ty] (KeyL w 204 x dx S bf t1 bi t2)
      (fun v l => ∃ b' s1 i' s2 tr, v = .int (PM y S.d S.n) tr ∧ BfOk S b' i' ∧ l = KeyL w 204 x dx S b' s1 i' s2) := by
  k_with "m:call ref" => ((k_here; (with_reducible show wpAny _ _ (call (Value.ref 105) _) _ _ _); refine hold ?_))
  k_with "m:call ref" => ((k_here; (with_reducible show wpAny _ _ (call (Value.ref 105) _) _ _ _); k_dflt ((refine Ctr.use (c_blind_pv _ _ _ _ (by assumption) (by assumption) (by assumption) (by walk_at "m_bd")) (by k_asm) (by k_asm) (by k_asm) (by k_asm) (by k_asm) (by first | exact rfl | assumption) (by k_extra "m_pre") (by walk_at "m_rest") (by ktr_room) (by ktr_units) ?_)); rintro v9 l9 h9 tk9 ⟨tp9, b9, s9, i9, t9, r9, u9, e1, h9n, h9m, h9a, h9b, h9f, h9c, h9d, h9e, e2⟩ hlo9 F9 N9; subst e1; subst e2; clear hlo9; (try dsimp only [List.cons_append, List.nil_append] at N9); k_sweep; (try k_fold)))
  have hkk := hk.ok
  obtain ⟨hk0, hk1, hk2, hk3⟩ := hk.ok
  have p0 := hk.p0
  have q0 := hk.q0
  have pB := hk.pB
  have qB := hk.qB
  have x10 := hk.x10
  have x20 := hk.x20
  have cB : Bd 130 S.cf := Bd.of_lt hk.c0 hk.c1 pB
  w_top off
  k_fill
  intro dp un gd cn cs' a ccd cl outer A₀ base h₀ L m rest s Q E B F X N hdis T hkf hd hu hret
  refine wpAny_call ?_
  have N0 := news_left N
  k_dflt refine' code_defR (binds := [(Str.ofString "self", .ref x), (Str.ofString "encrypted", .int y ty)]) ?k1 ?k2 ?k3 ?k4 ?k5 ?kA ?kF ?kK ?k6 ?k7 ?k8 ?k9 ?kB ?_ ?c2 ?c3 ?c4 ?c5
  k_dflt k_extra "m_enter"
  intro g' L' h' FG F' N' B' X' T' kept small
  (try dsimp only)
  (try k_fold)
  have hr := rest_kept N hdis kept
  k_steps
  · rename S.n ∣ _ - _ * (_ + _) => hu9
    (rename Fr g' _ _ _ => fr8); (rename News g' _ _ _ => ne8); exact m_ret hret fr8 ne8 (by assumption) (by assumption) hr N (by k_extra "m_pre") ⟨_, _, _, _, _, congrArg (fun z => Value.int z _) (hk.bdec (by assumption) (by assumption) (by assumption) (by assumption) (by assumption) hu9), by assumption, rfl⟩
theorem c_benc (w : World) (mean : ExcName → Option Value) (mg mb : Str → Option Value) {x dx : Nat} {S : KeyS} {bf bi y : Int} {t1 t2 ty : Tok} (hne : @Ne Nat x dx) (hk : KRsa S) (hb : BfOk S bf bi) (hy : Bd 480 y) :
    Ctr PySem.Challenge.rw_ys0001_05.row.prog w (Mine.K w.params) Mine.V (looseW Mine.V [Str.ofString "NotRelativePrimeError"]) mean mg mb 201 32 200 [.ref x, .int y ty] (KeyL w 204 x dx S bf t1 bi t2)
      (fun v l => ∃ b' s1 i' s2 tr, v = .int (PM y S.d S.n) tr ∧ BfOk S b' i' ∧ l = KeyL w 204 x dx S b' s1 i' s2) := by
  k_with "m:call ref" => ((k_here; (with_reducible show wpAny _ _ (call (Value.ref 194) _) _ _ _); refine hold ?_))
  k_with "m:call ref" => ((k_here; (with_reducible show wpAny _ _ (call (Value.ref 194) _) _ _ _); k_dflt ((refine Ctr.use (c_bdec _ _ _ _ (by assumption) (by assumption) (by assumption) (by walk_at "m_bd")) (by k_asm) (by k_asm) (by k_asm) (by k_asm) (by k_asm) (by first | exact rfl | assumption) (by k_extra "m_pre") (by walk_at "m_rest") (by ktr_room) (by ktr_units) ?_)); rintro v9 l9 h9 tk9 ⟨b9, s9, i9, t9, u9, e1, h9a, e2⟩ hlo9 F9 N9; subst e1; subst e2; clear hlo9; (try dsimp only [List.cons_append, List.nil_append] at N9); k_sweep; (try k_fold)))
  have hkk := hk.ok
  obtain ⟨hk0, hk1, hk2, hk3⟩ := hk.ok
  have d0 := hk.d0
  w_top off
  k_fill
  intro dp un gd cn cs' a ccd cl outer A₀ base h₀ L m rest s Q E B F X N hdis T hkf hd hu hret
  refine wpAny_call ?_
  have N0 := news_left N
  k_dflt refine' code_defR (binds := [(Str.ofString "self", .ref x), (Str.ofString "message", .int y ty)]) ?k1 ?k2 ?k3 ?k4 ?k5 ?kA ?kF ?kK ?k6 ?k7 ?k8 ?k9 ?kB ?_ ?c2 ?c3 ?c4 ?c5
  k_dflt k_extra "m_enter"
  intro g' L' h' FG F' N' B' X' T' kept small
  (try dsimp only)
  (try k_fold)
  have hr := rest_kept N hdis kept
  k_steps
  · rename S.n ∣ _ - _ * PM _ _ _ => hu9
    (rename Fr g' _ _ _ => fr8); (rename News g' _ _ _ => ne8); exact m_ret hret fr8 ne8 (by assumption) (by assumption) hr N (by k_extra "m_pre") ⟨_, _, _, _, _, congrArg (fun z => Value.int z _) (hk.benc (by assumption) (by assumption) (by assumption) (by assumption) (by assumption) hu9), by assumption, rfl⟩
theorem c_power (w : World) (mean : ExcName → Option Value) (mg mb : Str → Option Value) {x e n : Int} {t1 t2 t3 : Tok} (hx : 0 ≤ x) (hxB : Bd 470 x) (he : 0 ≤ e) (heB : Bd 470 e) (hn : 0 < n) (hnB : Bd 470 n) :
    Ctr PySem.Challenge.rw_ys0001_05.row.prog w (Mine.K w.params) Mine.V (looseW Mine.V [Str.ofString "NotRelativePrimeError"]) mean mg mb 272 6 40 [.int x t1, .int e t2, .int n t3] []
      (fun v l => ∃ tr, v = .int (PM x e n) tr ∧ l = []) := by
  k_with "m:call ref" => ((k_here; (with_reducible show wpAny _ _ (call (Value.ref 201) _) _ _ _); refine hold ?_))
  k_with "m:call ref" => ((k_here; (with_reducible show wpAny _ _ (call (Value.ref 201) _) _ _ _); k_dflt ((refine Ctr.use (c_benc _ _ _ _ (by assumption) (by assumption) (by assumption) (by walk_at "m_bd")) (by k_asm) (by k_asm) (by k_asm) (by k_asm) (by k_asm) (by first | exact rfl | assumption) (by k_extra "m_pre") (by walk_at "m_rest") (by ktr_room) (by ktr_units) ?_)); rintro v9 l9 h9 tk9 ⟨b9, s9, i9, t9, u9, e1, h9a, e2⟩ hlo9 F9 N9; subst e1; subst e2; clear hlo9; (try dsimp only [List.cons_append, List.nil_append] at N9); k_sweep; (try k_fold)))
  w_top off
  k_fill
  intro dp un gd cn cs' a ccd cl outer A₀ base h₀ L m rest s Q E B F X N hdis T hk hd hu hret
  refine wpAny_call ?_
  have N0 := news_left N
  k_dflt refine' code_defR (binds := [(Str.ofString "base", .int x t1), (Str.ofString "exponent", .int e t2), (Str.ofString "n", .int n t3)]) ?k1 ?k2 ?k3 ?k4 ?k5 ?kA ?kF ?kK ?k6 ?k7 ?k8 ?k9 ?kB ?_ ?c2 ?c3 ?c4 ?c5
  k_dflt k_extra "m_enter"
  intro g' L' h' FG F' N' B' X' T' kept small
  (try dsimp only)
  (try k_fold)
  have hr := rest_kept N hdis kept
  k_steps
  unfold Hold
  (try k_gentoks)
  rename IsRange _ _ _ _ _ _ _ _ => hrng
  rename Fr _ _ _ _ => fr1
  rename News _ _ _ _ => ne1
  with_unfolding_all refine m_range (σ := (Int × Tok) × (Int × Tok) × (Int × Tok)) (n := 1000) (fun _ => []) (fun c => [(Str.ofString "found", .int c.1.1 c.1.2), (Str.ofString "base", .int c.2.1.1 c.2.1.2), (Str.ofString "exponent", .int c.2.2.1 c.2.2.2)]) (fun _ => True) [Str.ofString "found", Str.ofString "base", Str.ofString "exponent"] (fun k c => 0 ≤ c.1.1 ∧ c.1.1 < n ∧ Bd 470 c.2.1.1 ∧ 0 ≤ c.2.2.1 ∧ Bd (1000 - k) c.2.2.1 ∧ n ∣ c.1.1 * c.2.1.1 ^ c.2.2.1.toNat - x ^ e.toNat) (fun c => 0 ≤ c.1.1 ∧ c.1.1 < n ∧ n ∣ c.1.1 - x ^ e.toNat) ((_, _), (x, t1), (e, t2)) rfl hrng (by decide) (by rfl) fr1 ne1 (by k_extra "m_pre") trivial (List.forall_mem_cons.mpr ⟨rfl, List.forall_mem_cons.mpr ⟨rfl, List.forall_mem_cons.mpr ⟨rfl, List.forall_mem_nil _⟩⟩⟩) ⟨(fmod_nn hn).1, (fmod_nn hn).2, hxB, he, heB.mono (by decide), ?_⟩ ?_ ?_ ?_
  · exact pw_start hn
  · rintro ⟨⟨f, tf⟩, ⟨b, tb⟩, ⟨ex, te⟩⟩ ⟨p1, p2, p3, p4, p5, p6⟩
    dsimp only at p1 p2 p3 p4 p5 p6 ⊢
    have := Bd.zero_of p5
    subst this
    exact ⟨p1, p2, pw_done p6⟩
  · clear fr1 ne1
    rintro ⟨⟨f, tf⟩, ⟨b, tb⟩, ⟨ex, te⟩⟩ k kk t u h tk own hk' hi hoff - ⟨p1, p2, p3, p4, p5, p6⟩ fr1 ne1
    dsimp only [List.cons_append, List.nil_append] at p1 p2 p3 p4 p5 p6 fr1 ne1 ⊢
    have hfB : Bd 470 f := Bd.of_lt p1 (Int.le_of_lt p2) hnB
    replace fr1 : Fr g' L' h _ := fr1
    replace ne1 : News g' L' h _ := ne1
    k_sweep
    (try k_fold)
    k_steps
    · rename ex = 0 => hb0
      subst hb0
      dsimp only [MPost]
      rename Fr _ _ _ _ => fr2
      rename News _ _ _ _ => ne2
      with_unfolding_all exact m_end ((_, _), (_, _), (_, _)) fr2 ne2 (List.forall_mem_nil _) (by intro p hp; kst_mem) rfl trivial (List.forall_mem_cons.mpr ⟨rfl, List.forall_mem_cons.mpr ⟨rfl, List.forall_mem_cons.mpr ⟨rfl, List.forall_mem_nil _⟩⟩⟩) (by intro z h1 h2 h3; simp only [List.forall_mem_cons, List.not_mem_nil, false_implies, implies_true, and_true, ne_eq] at h2; simp [kstB, h1, h2]) ⟨p1, p2, pw_done p6⟩
    · rename ex.fmod 2 = 1 => hb1
      dsimp only [MPost]
      rename Fr _ _ _ _ => fr2
      rename News _ _ _ _ => ne2
      with_unfolding_all exact m_end ((_, _), (_, _), (_, _)) fr2 ne2 (List.forall_mem_nil _) (by intro p hp; kst_mem) rfl trivial (List.forall_mem_cons.mpr ⟨rfl, List.forall_mem_cons.mpr ⟨rfl, List.forall_mem_cons.mpr ⟨rfl, List.forall_mem_nil _⟩⟩⟩) (by intro z h1 h2 h3; simp only [List.forall_mem_cons, List.not_mem_nil, false_implies, implies_true, and_true, ne_eq] at h2; simp [kstB, h1, h2]) ⟨(fmod_nn hn).1, (fmod_nn hn).2, fmod_bd hn hnB, (pw_half p4).1, pw_bd p4 p5 (by omega), pw_odd hn p4 hb1 p6⟩
    · have hb1 : ex.fmod 2 = 0 := by have := pw_half p4; omega
      dsimp only [MPost]
      rename Fr _ _ _ _ => fr2
      rename News _ _ _ _ => ne2
      with_unfolding_all exact m_end ((_, _), (_, _), (_, _)) fr2 ne2 (List.forall_mem_nil _) (by intro p hp; kst_mem) rfl trivial (List.forall_mem_cons.mpr ⟨rfl, List.forall_mem_cons.mpr ⟨rfl, List.forall_mem_cons.mpr ⟨rfl, List.forall_mem_nil _⟩⟩⟩) (by intro z h1 h2 h3; simp only [List.forall_mem_cons, List.not_mem_nil, false_implies, implies_true, and_true, ne_eq] at h2; simp [kstB, h1, h2]) ⟨p1, p2, fmod_bd hn hnB, (pw_half p4).1, pw_bd p4 p5 (by omega), pw_even hn p4 hb1 p6⟩
  · clear fr1 ne1
    rintro ⟨⟨f, tf⟩, ⟨b, tb⟩, ⟨ex, te⟩⟩ u h tk - ⟨p1, p2, p3⟩ fr1 ne1
    dsimp only at p1 p2 p3 fr1 ne1 ⊢
    replace fr1 : Fr g' L' h _ := fr1
    replace ne1 : News g' L' h _ := ne1
    k_sweep
    k_steps
    (rename Fr g' _ _ _ => fr8); (rename News g' _ _ _ => ne8); exact m_ret hret fr8 ne8 (by assumption) (by assumption) hr N (by k_extra "m_pre") ⟨_, congrArg (fun z => Value.int z _) (PM_of_dvd hn p3 p1 p2), rfl⟩
theorem c_expo (w : World) (mean : ExcName → Option Value) (mg mb : Str → Option Value) {st c : Nat} {S : StT} {phi : Int} {tm : Tok} (hS : StOk S) (hm : 0 ≤ phi) (hm1 : Bd 980 phi) (hne : @Ne Nat st c) :
    Ctr PySem.Challenge.rw_ys0001_05.row.prog w (Mine.K w.params) Mine.V (looseW Mine.V [Str.ofString "NotRelativePrimeError"]) mean mg mb 265 9 60 [.ref st, .int phi tm] (StL st c S)
      (fun v l => ∃ r tr S', v = .int r tr ∧ 1 ≤ r ∧ r < 70201 ∧ Int.gcd r phi = 1 ∧ l = StL st c S' ∧ StOk S') := by
  k_with "m:call ref" => ((k_here; (with_reducible show wpAny _ _ (call (Value.ref 272) _) _ _ _); refine hold ?_))
  k_with "m:call ref" => ((k_here; (with_reducible show wpAny _ _ (call (Value.ref 272) _) _ _ _); k_dflt ((refine Ctr.use (c_power _ _ _ _ (by walk_at "m_fact") (by walk_at "m_bd") (by walk_at "m_fact") (by walk_at "m_bd") (by walk_at "m_fact") (by walk_at "m_bd")) (by k_asm) (by k_asm) (by k_asm) (by k_asm) (by k_asm) (by first | exact rfl | assumption) (by k_extra "m_pre") (by walk_at "m_rest") (by ktr_room) (by ktr_units) ?_)); rintro v9 l9 h9 tk9 ⟨tr9, e1, e2⟩ hlo9 F9 N9; subst e1; subst e2; clear hlo9; (try dsimp only [List.nil_append] at N9); k_sweep; (try k_fold)))
  w_top off
  k_fill
  intro dp un gd cn cs' a ccd cl outer A₀ base h₀ L m rest s Q E B F X N hdis T hk hd hu hret
  refine wpAny_call ?_
  have N0 := news_left N
  k_dflt refine' code_defR (binds := [(Str.ofString "state", .ref st), (Str.ofString "phi", .int phi tm)]) ?k1 ?k2 ?k3 ?k4 ?k5 ?kA ?kF ?kK ?k6 ?k7 ?k8 ?k9 ?kB ?_ ?c2 ?c3 ?c4 ?c5
  k_dflt k_extra "m_enter"
  intro g' L' h' FG F' N' B' X' T' kept small
  (try dsimp only)
  (try k_fold)
  have hr := rest_kept N hdis kept
  k_steps
  unfold Hold
  (try k_gentoks)
  rename IsRange _ _ _ _ _ _ _ _ => hrng
  rename Fr _ _ _ _ => fr1
  rename News _ _ _ _ => ne1
  rename StOk _ => hS0
  rename _ < (70000 : Int) => hlt
  rename (0 : Int) ≤ _ => hge
  with_unfolding_all refine m_range (σ := StT) (n := 200) (fun s => StL st c s) (fun _ => []) StOk [] (fun _ _ => True) (fun _ => True) _ rfl hrng (small_one (by omega) (by omega) (by omega) (by omega)) (by rw [rangeSize_nat]; omega) fr1 ne1 (by k_extra "m_pre") hS0 (List.forall_mem_nil _) trivial (fun _ _ => trivial) ?_ ?_
  · clear fr1 ne1
    rintro S1 k kk t u h tk own hk' hi hoff hS1 - fr1 ne1
    dsimp only [StL, List.cons_append, List.nil_append] at hS1 fr1 ne1 ⊢
    replace fr1 : Fr g' L' h _ := fr1
    replace ne1 : News g' L' h _ := ne1
    k_sweep
    (try k_fold)
    k_steps
    · dsimp only [MPost]
      (try k_fold)
      k_steps
      rename ((Int.gcd _ _ : Nat) : Int) = 1 => hg1
      (rename Fr g' _ _ _ => fr8); (rename News g' _ _ _ => ne8); exact m_ret hret fr8 ne8 (by assumption) (by assumption) hr N (by k_extra "m_pre") ⟨_, _, _, rfl, by omega, by omega, by omega, rfl, hS1⟩
    · dsimp only [MPost]
      rename Fr g' _ _ _ => fr2
      rename News g' _ _ _ => ne2
      with_unfolding_all refine' m_end S1 fr2 ne2 ?_ ?_ ?_ hS1 (List.forall_mem_nil _) ?_ trivial
      · k_extra "m_pre"
      · intro p hp; kst_mem
      · rfl
      · k_extra "m_same3"
  · clear fr1 ne1
    rintro S1 u h tk hS1 - fr1 ne1
    dsimp only [StL] at hS1 fr1 ne1 ⊢
    replace fr1 : Fr g' L' h _ := fr1
    replace ne1 : News g' L' h _ := ne1
    k_sweep
    k_steps
    (rename Fr g' _ _ _ => fr8); (rename News g' _ _ _ => ne8); exact m_ret hret fr8 ne8 (by assumption) (by assumption) hr N (by k_extra "m_pre") ⟨_, _, _, rfl, by decide, by decide, Int.gcd_one_left _, rfl, hS1⟩
section
local macro_rules | `(tactic| walk_at "exec For Name Call cons nil") => `(tactic| (k_here; (rename Fr _ _ _ _ => lF'); (with_unfolding_all refine' For_turns lF' ?_; k_whole)))
local macro_rules | `(tactic| walk_at "eval ListComp") => `(tactic| (k_here; k_dflt (refine LCg.ListComp_U (F₀ := by k_asm) (by with_unfolding_all rfl) (by decide) (by rfl) (by decide) (by rfl) ?_); k_dflt lcg_toSrc))
local macro_rules | `(tactic| walk_at "eval ListComp") => `(tactic| (k_here; lct_look; k_dflt (refine LCt.ListComp_T (F₀ := by k_asm) (by with_unfolding_all rfl) (by decide) (by rfl) (by decide) (by rfl) ?_)))
local macro_rules | `(tactic| walk_at "CompSrcT") => `(tactic| (refine hold ?_))
local macro_rules | `(tactic| walk_at "call builtin:all") => `(tactic| (k_here; (with_reducible show wpAny _ _ (call (Value.builtin "all") [Value.ref _]) _ _ _); k_dflt (refine LSm.all_bools (by k_asm) (by k_asm) (by rfl) (by lsm_list) (by assumption) ?_); intro h' tk' F' N'))
theorem c_prime (w : World) (mean : ExcName → Option Value) (mg mb : Str → Option Value) {st c : Nat} {S : StT} (hS : StOk S) (hne : @Ne Nat st c) :
    Ctr PySem.Challenge.rw_ys0001_05.row.prog w (Mine.K w.params) Mine.V (looseW Mine.V [Str.ofString "NotRelativePrimeError"]) mean mg mb 251 9 80 [.ref st] (StL st c S)
      (fun v l => ∃ r tr S', v = .int r tr ∧ PrOk r ∧ l = StL st c S' ∧ StOk S') := by
  k_with "m:call ref" => ((k_here; (with_reducible show wpAny _ _ (call (Value.ref 265) _) _ _ _); refine hold ?_))
  k_with "m:call ref" => ((k_here; (with_reducible show wpAny _ _ (call (Value.ref 265) _) _ _ _); k_dflt ((refine Ctr.use (c_expo _ _ _ _ ?_ ?_ ?_ ?_) (by k_asm) (by k_asm) (by k_asm) (by k_asm) (by k_asm) (by first | exact rfl | assumption) (by k_extra "m_pre") (by walk_at "m_rest") (by ktr_room) (by ktr_units) ?_); (assumption); (walk_at "m_fact"); (walk_at "m_bd"); (first | assumption | omega)); rintro v9 l9 h9 tk9 ⟨r9, tr9, S9, e1, hr0, hr1, hr2, e2, hS9⟩ hlo9 F9 N9; subst e1; subst e2; clear hlo9; (try dsimp only [StL, List.cons_append, List.nil_append] at N9); k_sweep; (try k_fold)))
  w_top off
  k_fill
  intro dp un gd cn cs' a ccd cl outer A₀ base h₀ L m rest s Q E B F X N hdis T hk hd hu hret
  refine wpAny_call ?_
  have N0 := news_left N
  k_dflt refine' code_defCR (binds := [(Str.ofString "state", .ref st)]) ?k1 ?k2 ?k3 ?k4 ?k5 ?kA ?kF ?kK ?k6 ?k7 ?k8 ?k9 ?kB ?kN ?_ ?c2 ?c3 ?c4
  k_dflt k_extra "m_enterC"
  intro g' L' h' tkc cells FG F' N' Y B' X' T' kept small
  k_cells Y
  (try simp only [List.cons_append, List.nil_append] at N')
  have l1 : ∀ p ∈ StL st c S, p.1 < L' := fun p hp => small _ _ (N0 p hp).1
  k_lt l1
  (try dsimp only)
  (try k_fold)
  have hr := rest_kept N hdis kept
  k_steps
  · unfold Hold
    (try k_gentoks)
    rename IsRange _ _ _ _ _ _ _ _ => hrng
    rename Fr _ _ _ _ => fr1
    rename News _ _ _ _ => ne1
    rename StOk _ => hS0
    rename _ < (3000 : Int) => hlt
    rename (0 : Int) ≤ _ => hge
    rename Obj.data _ = _ => hd0
    with_unfolding_all refine m_rangeT (σ := StT × Obj) (n := 100) (fun s => [(st, listOf #[.int s.1.i s.1.t, .ref c] s.1.n), (c, listOf s.1.vs.toArray s.1.n2), (L' + 1, s.2)]) (fun _ => []) [] (fun _ s => StOk s.1 ∧ ∃ v, s.2.data = .cell v) (_, _) rfl hrng (small_one (by omega) (by omega) (by omega) (by omega)) (by rw [rangeSize_nat]; omega) fr1 ne1 (by k_extra "m_pre") (List.forall_mem_nil _) ⟨hS0, _, hd0⟩ (fun _ _ _ _ _ q => wpAny_pure q) ?_ ?_
    · clear fr1 ne1 hd0
      rintro ⟨S1, o1⟩ k kk t u h tk own hk' hi hoff ⟨hS1, v1, hd1⟩ fr1 ne1
      dsimp only [List.cons_append, List.nil_append] at hS1 hd1 fr1 ne1 ⊢
      replace fr1 : Fr g' L' h _ := fr1
      replace ne1 : News g' L' h _ := ne1
      k_sweep
      (try k_fold)
      k_steps
      unfold Hold
      rename Fr g' _ _ _ => fr2
      rename News g' _ _ _ => ne2
      rename IsRange _ _ 2 60 1 _ _ _ => hr2
      with_unfolding_all refine LCt.CompSrcT.range (n := 58) rfl fr2 ne2 hr2 (by decide) (by rfl) (by decide) (fun g9 => compT_ind (fun i ys => LSm.BoolsAre ys (tsB kk i)) tsB_nil ?_ ?_)
      · intro i ys R' hi9 hb hR v I oI C oC D m₂ h9 tk9 E' hP hC hx fr3 ne3 off ne9
        obtain ⟨t9, rfl⟩ := hP
        k_sweep
        (try k_fold)
        k_steps
        · with_unfolding_all exact LCg.CompEnd.intro fr3 ne3 _ (fun p hp => hp) off trivial ⟨rfl, hR _ (tsB_yes hb (by assumption) rfl)⟩
        · with_unfolding_all exact LCg.CompEnd.intro fr3 ne3 _ (fun p hp => hp) off trivial ⟨rfl, hR _ (tsB_no hb (by assumption))⟩
      · intro ys hb
        unfold LCg.FinE
        intro D h9 tk9 fr3 ne3 off
        k_sweep
        (try k_fold)
        k_steps
        · have hall : (tsB kk 58).all id = true := by assumption
          have hpr := prOk_trial (n := kk) (by omega) (by omega) (tsB_all hall)
          (rename Fr g' _ _ _ => fr8); (rename News g' _ _ _ => ne8); exact m_ret hret fr8 ne8 (by assumption) (by assumption) hr N (by k_extra "m_pre") ⟨_, _, _, rfl, hpr, rfl, hS1⟩
        · rename Obj.data _ = _ => hd2
          rename Fr g' _ _ _ => fr5
          rename News g' _ _ _ => ne5
          with_unfolding_all refine' m_endT (S1, _) fr5 ne5 ?_ ?_ ?_ (List.forall_mem_nil _) ?_ ⟨hS1, _, hd2⟩
          · k_extra "m_pre"
          · intro p hp; kst_mem
          · rfl
          · k_extra "m_same"
    · clear fr1 ne1 hd0
      rintro ⟨S1, o1⟩ u h tk ⟨hS1, v1, hd1⟩ fr1 ne1
      dsimp only at hS1 hd1 fr1 ne1 ⊢
      replace fr1 : Fr g' L' h _ := fr1
      replace ne1 : News g' L' h _ := ne1
      k_sweep
      k_steps
      rename StOk _ => hS2
      (rename Fr g' _ _ _ => fr8); (rename News g' _ _ _ => ne8); exact m_ret hret fr8 ne8 (by assumption) (by assumption) hr N (by k_extra "m_pre") ⟨_, _, _, rfl, prOk_great (by omega), rfl, hS2⟩
  · rename StOk _ => hS2
    (rename Fr g' _ _ _ => fr8); (rename News g' _ _ _ => ne8); exact m_ret hret fr8 ne8 (by assumption) (by assumption) hr N (by k_extra "m_pre") ⟨_, _, _, rfl, prOk_great (by omega), rfl, hS2⟩
end
theorem c_primes (w : World) (mean : ExcName → Option Value) (mg mb : Str → Option Value) {st c : Nat} {S : StT} (hS : StOk S) (hne : @Ne Nat st c) :
    Ctr PySem.Challenge.rw_ys0001_05.row.prog w (Mine.K w.params) Mine.V (looseW Mine.V [Str.ofString "NotRelativePrimeError"]) mean mg mb 258 12 120 [.ref st] (StL st c S)
      (fun v l => ∃ tp p q t1 t2 S', v = .ref tp ∧ @Ne Nat tp st ∧ @Ne Nat tp c ∧ PrOk p ∧ PrOk q ∧ p ≠ q ∧ l = (tp, ({ cls := .type "tuple", data := .seq #[.int p t1, .int q t2] } : Obj)) :: StL st c S' ∧ StOk S') := by
  k_with "m:call ref" => ((k_here; (with_reducible show wpAny _ _ (call (Value.ref 251) _) _ _ _); refine hold ?_))
  k_with "m:call ref" => ((k_here; (with_reducible show wpAny _ _ (call (Value.ref 251) _) _ _ _); k_dflt ((refine Ctr.use (c_prime _ _ _ _ ?_ ?_) (by k_asm) (by k_asm) (by k_asm) (by k_asm) (by k_asm) (by first | exact rfl | assumption) (by k_extra "m_pre") (by walk_at "m_rest") (by ktr_room) (by ktr_units) ?_); (assumption); (first | assumption | omega)); rintro v9 l9 h9 tk9 ⟨r9, tr9, S9, e1, hr0, e2, hS9⟩ hlo9 F9 N9; subst e1; subst e2; clear hlo9; (try dsimp only [StL, List.cons_append, List.nil_append] at N9); k_sweep; (try k_fold)))
  w_top off
  k_fill
  intro dp un gd cn cs' a ccd cl outer A₀ base h₀ L m rest s Q E B F X N hdis T hk hd hu hret
  refine wpAny_call ?_
  have N0 := news_left N
  k_dflt refine' code_defR (binds := [(Str.ofString "state", .ref st)]) ?k1 ?k2 ?k3 ?k4 ?k5 ?kA ?kF ?kK ?k6 ?k7 ?k8 ?k9 ?kB ?_ ?c2 ?c3 ?c4 ?c5
  k_dflt k_extra "m_enter"
  intro g' L' h' FG F' N' B' X' T' kept small
  (try dsimp only)
  (try k_fold)
  have hr := rest_kept N hdis kept
  k_steps
  · rename StOk _ => hS2
    (rename Fr g' _ _ _ => fr8); (rename News g' _ _ _ => ne8); exact m_ret hret fr8 ne8 (by assumption) (by assumption) hr N (by k_extra "m_pre") ⟨_, _, _, _, _, _, rfl, neN (by omega), neN (by omega), by assumption, (alt_prime _).1, (alt_prime _).2, rfl, hS2⟩
  · rename StOk _ => hS2
    (rename Fr g' _ _ _ => fr8); (rename News g' _ _ _ => ne8); exact m_ret hret fr8 ne8 (by assumption) (by assumption) hr N (by k_extra "m_pre") ⟨_, _, _, _, _, _, rfl, neN (by omega), neN (by omega), by assumption, by assumption, by assumption, rfl, hS2⟩
section
local macro_rules | `(tactic| walk_at "m_bd") => `(tactic| exact Bd.of_lt (by assumption) (Int.le_of_lt (by assumption)) (Bd.mono (by assumption) (by decide)))
theorem c_message (w : World) (mean : ExcName → Option Value) (mg mb : Str → Option Value) {st c : Nat} {S : StT} {p q : Int} {t1 t2 : Tok} (hS : StOk S) (hp : PrOk p) (hq : PrOk q) (hne : @Ne Nat st c) :
    Ctr PySem.Challenge.rw_ys0001_05.row.prog w (Mine.K w.params) Mine.V (looseW Mine.V [Str.ofString "NotRelativePrimeError"]) mean mg mb 279 12 120 [.ref st, .int p t1, .int q t2] (StL st c S)
      (fun v l => ∃ r tr S', v = .int r tr ∧ 0 ≤ r ∧ r < p * q ∧ l = StL st c S' ∧ StOk S') := by
  k_with "m:call ref" => ((k_here; (with_reducible show wpAny _ _ (call (Value.ref 258) _) _ _ _); refine hold ?_))
  k_with "m:call ref" => ((k_here; (with_reducible show wpAny _ _ (call (Value.ref 258) _) _ _ _); k_dflt ((refine Ctr.use (c_primes _ _ _ _ ?_ ?_) (by k_asm) (by k_asm) (by k_asm) (by k_asm) (by k_asm) (by first | exact rfl | assumption) (by k_extra "m_pre") (by walk_at "m_rest") (by ktr_room) (by ktr_units) ?_); (assumption); (first | assumption | omega)); rintro v9 l9 h9 tk9 ⟨tp9, p9, q9, t9, u9, S9, e1, hn1, hn2, hp9, hq9, hpq9, e2, hS9⟩ hlo9 F9 N9; subst e1; subst e2; replace hlo9 := allNeL_of hlo9; (try simp only [AllNeL, AllNe, StL, KeyL, PubL, and_true, true_and, and_assoc] at hlo9); (repeat (obtain ⟨hlx9, hlo9⟩ := hlo9)); have ha1 := PrOk.f1 hp9; have ha2 := PrOk.f2 hp9; have hb1 := PrOk.f1 hq9; have hb2 := PrOk.f2 hq9; have hc1 := four_le ha1 hb1; have hc2 := pq_pos ha1 hb1; have hc3 := pq_lt ha1 hb1; have hc4 := primes_gcd hp9 hq9 hpq9; have hc5 := pq_bd hp9 hq9; (try dsimp only [StL, List.cons_append, List.nil_append] at N9); k_sweep; (try k_fold)))
  obtain ⟨hp3, hpB, -⟩ := hp
  obtain ⟨hq3, hqB, -⟩ := hq
  have hpq : 0 < p * q := Int.mul_pos (by omega) (by omega)
  have hlgp : p.natAbs.log2 < 9000 := Bd.lg hpB (by decide)
  w_top off
  k_fill
  intro dp un gd cn cs' a ccd cl outer A₀ base h₀ L m rest s Q E B F X N hdis T hk hd hu hret
  refine wpAny_call ?_
  have N0 := news_left N
  k_dflt refine' code_defR (binds := [(Str.ofString "state", .ref st), (Str.ofString "one", .int p t1), (Str.ofString "two", .int q t2)]) ?k1 ?k2 ?k3 ?k4 ?k5 ?kA ?kF ?kK ?k6 ?k7 ?k8 ?k9 ?kB ?_ ?c2 ?c3 ?c4 ?c5
  k_dflt k_extra "m_enter"
  intro g' L' h' FG F' N' B' X' T' kept small
  (try dsimp only)
  (try k_fold)
  have hr := rest_kept N hdis kept
  k_steps
  rename StOk _ => hS2
  (rename Fr g' _ _ _ => fr8); (rename News g' _ _ _ => ne8); refine m_ret hret fr8 ne8 (by assumption) (by assumption) hr N (by k_extra "m_pre") ⟨_, _, _, rfl, ?_, ?_, rfl, hS2⟩
  · exact (msg_ok hp3 hq3 (by assumption) (by assumption) (by omega)).1
  · exact (msg_ok hp3 hq3 (by assumption) (by assumption) (by omega)).2
end
theorem c_calc (w : World) (mean : ExcName → Option Value) (mg mb : Str → Option Value) {p q e : Int} {t1 t2 t3 : Tok} (hp : PrOk p) (hq : PrOk q) (he : 0 ≤ e) (heB : Bd 470 e) (hg : Int.gcd e ((p - 1) * (q - 1)) = 1) :
    Ctr PySem.Challenge.rw_ys0001_05.row.prog w (Mine.K w.params) Mine.V (looseW Mine.V [Str.ofString "NotRelativePrimeError"]) mean mg mb 213 12 120 [.int p t1, .int q t2, .int e t3] []
      (fun v l => ∃ tp d t, v = .ref tp ∧ 0 ≤ d ∧ d < (p - 1) * (q - 1) ∧ (p - 1) * (q - 1) ∣ d * e - 1 ∧ l = [(tp, ({ cls := .type "tuple", data := .seq #[.int e t3, .int d t] } : Obj))]) := by
  k_with "m:call ref" => ((k_here; (with_reducible show wpAny _ _ (call (Value.ref 279) _) _ _ _); refine hold ?_))
  k_with "m:call ref" => ((k_here; (with_reducible show wpAny _ _ (call (Value.ref 279) _) _ _ _); k_dflt ((refine Ctr.use (c_message _ _ _ _ ?_ ?_ ?_ ?_) (by k_asm) (by k_asm) (by k_asm) (by k_asm) (by k_asm) (by first | exact rfl | assumption) (by k_extra "m_pre") (by walk_at "m_rest") (by ktr_room) (by ktr_units) ?_); (assumption); (assumption); (assumption); (first | assumption | omega)); rintro v9 l9 h9 tk9 ⟨r9, tr9, S9, e1, hr0, hr1, e2, hS9⟩ hlo9 F9 N9; subst e1; subst e2; clear hlo9; have hrB9 := Bd.of_lt hr0 (Int.le_of_lt hr1) (pq_bd (by assumption) (by assumption)); (try dsimp only [StL, List.cons_append, List.nil_append] at N9); k_sweep; (try k_fold)))
  obtain ⟨hp3, hpB, -⟩ := hp
  obtain ⟨hq3, hqB, -⟩ := hq
  have hpq := four_le hp3 hq3
  w_top off
  k_fill
  intro dp un gd cn cs' a ccd cl outer A₀ base h₀ L m rest s Q E B F X N hdis T hk hd hu hret
  refine wpAny_call ?_
  have N0 := news_left N
  k_dflt refine' code_defR (binds := [(Str.ofString "p", .int p t1), (Str.ofString "q", .int q t2), (Str.ofString "exponent", .int e t3)]) ?k1 ?k2 ?k3 ?k4 ?k5 ?kA ?kF ?kK ?k6 ?k7 ?k8 ?k9 ?kB ?_ ?c2 ?c3 ?c4 ?c5
  k_dflt k_extra "m_enter"
  intro g' L' h' FG F' N' B' X' T' kept small
  (try dsimp only)
  (try k_fold)
  have hr := rest_kept N hdis kept
  k_steps
  · exfalso
    have h1 := fmod_one (m := (p - 1) * (q - 1)) (x := e) (by omega) (by assumption)
    contradiction
  · (rename Fr g' _ _ _ => fr8); (rename News g' _ _ _ => ne8); exact m_ret hret fr8 ne8 (by assumption) (by assumption) hr N (by k_extra "m_pre") ⟨_, _, _, rfl, by assumption, by omega, by assumption, rfl⟩
section
local macro_rules | `(tactic| ktr_units) => `(tactic| (have hcL9 := cLine_is; (simp only [units_under_make, units_in1, units_deeper, Around.mark_units, units_caller]); (try dsimp only [ktrTop]); omega))
theorem c_mkpb (w : World) (mean : ExcName → Option Value) (mg mb : Str → Option Value) {n e : Int} {t1 t2 : Tok} :
    Ctr PySem.Challenge.rw_ys0001_05.row.prog w (Mine.K w.params) Mine.V (looseW Mine.V [Str.ofString "NotRelativePrimeError"]) mean mg mb 157 20 160 [.int n t1, .int e t2] []
      (fun v l => ∃ x dx S bf tb bi ti, v = .ref x ∧ @Ne Nat x dx ∧ bf < 0 ∧ S.n = n ∧ S.e = e ∧ l = PubL w 157 x dx S bf tb bi ti) := by
  k_with "m:call ref" => ((k_here; (with_reducible show wpAny _ _ (call (Value.ref 213) _) _ _ _); refine hold ?_))
  k_with "m:call ref" => ((k_here; (with_reducible show wpAny _ _ (call (Value.ref 213) _) _ _ _); k_dflt ((refine Ctr.use (c_calc _ _ _ _ (by assumption) (by assumption) (by walk_at "m_fact") (by walk_at "m_bd") (by assumption)) (by k_asm) (by k_asm) (by k_asm) (by k_asm) (by k_asm) (by first | exact rfl | assumption) (by k_extra "m_pre") (by walk_at "m_rest") (by ktr_room) (by ktr_units) ?_)); rintro v9 l9 h9 tk9 ⟨tp9, d9, t9, e1, hd0, hd1, hd2, e2⟩ hlo9 F9 N9; subst e1; subst e2; replace hlo9 := allNeL_of hlo9; (try simp only [AllNeL, AllNe, StL, KeyL, PubL, and_true, true_and, and_assoc] at hlo9); (repeat (obtain ⟨hlx9, hlo9⟩ := hlo9)); have hdB9 := Bd.of_lt hd0 (Int.le_of_lt hd1) (dB_pq (by assumption) (by assumption)); (try dsimp only [List.cons_append, List.nil_append] at N9); k_sweep; (try k_fold)))
  w_top off
  k_fill
  intro dp un gd cn cs' a ccd cl outer A₀ base h₀ L m rest s Q E B F X N hdis T hk hdd hu hret
  k_dflt refine' call_cls F X N ?h1 ?h2 ?h3 ?_
  case h1 => k_dflt k_is
  case h2 => k_dflt k_is
  case h3 => k_dflt k_is
  intro x dx h1 F1 N1 l1 l2
  have l2' := ltN l2
  have N2 : News h₀ L h1 ([(x, instObj 157 dx), (dx, dictOf [] 0)] ++ rest) := N1
  have hdis2 : ∀ q ∈ rest, ∀ r ∈ [(x, instObj 157 dx), (dx, dictOf [] 0)], q.1 ≠ r.1 := by
    intro q9 hq9 r9 hr9
    have h3 := ltN (l1 q9 hq9)
    simp only [List.mem_cons, List.not_mem_nil, or_false] at hr9
    rcases hr9 with rfl | rfl <;> (refine neN ?_; dsimp only; omega)
  have hne : @Ne Nat x dx := neN (by omega)
  have N0 := news_left N2
  k_dflt refine' code_defR (binds := [(Str.ofString "self", .ref x), (Str.ofString "n", .int n t1), (Str.ofString "e", .int e t2)]) B F1 X N0 T ?kA ?kF ?kK ?k6 ?k7 ?k8 ?k9 ?kB ?_ ?c2 ?c3 ?c4 ?c5
  k_dflt k_extra "m_enter2"
  intro g' L' h' FG F' N' B' X' T' kept small
  (try dsimp only)
  (try k_fold)
  have hr := rest_kept N2 hdis2 kept
  k_steps
  (rename Fr g' _ _ _ => fr8); (rename News g' _ _ _ => ne8); exact m_ret hret fr8 ne8 (by assumption) (by assumption) hr N (by k_extra "m_pre") ⟨x, dx, ⟨n, e, 0, 0, 0, 0, 0, 0, _, _, 0, 0, 0, 0, 0, 0, _, _, _, _, 0, 0, 0, 0, 0, 0⟩, _, _, _, _, rfl, hne, by decide, rfl, rfl, rfl⟩
end
section
local macro_rules | `(tactic| walk_at "call ref") => `(tactic| (k_here; (with_reducible show wpAny _ _ (call (Value.ref 98) _) _ _ _); k_dflt (walk_at "m_inline")))
local macro_rules | `(tactic| ktr_units) => `(tactic| (have hcL9 := cLine_is; (simp only [units_under_make, units_in1, units_deeper, Around.mark_units, units_caller]); (try dsimp only [ktrTop]); omega))
theorem c_mkpv (w : World) (mean : ExcName → Option Value) (mg mb : Str → Option Value) {n e d p q : Int} {t1 t2 t3 t4 t5 : Tok} (hp : PrOk p) (hq : PrOk q) (hd : 0 ≤ d) (hdB : Bd 470 d) (hg : Int.gcd q p = 1) :
    Ctr PySem.Challenge.rw_ys0001_05.row.prog w (Mine.K w.params) Mine.V (looseW Mine.V [Str.ofString "NotRelativePrimeError"]) mean mg mb 204 20 160 [.int n t1, .int e t2, .int d t3, .int p t4, .int q t5] []
      (fun v l => ∃ x dx S bf tb bi ti, v = .ref x ∧ @Ne Nat x dx ∧ bf < 0 ∧ S.n = n ∧ S.e = e ∧ S.d = d ∧ S.p = p ∧ S.q = q ∧ S.x1 = d.fmod (p - 1) ∧ S.x2 = d.fmod (q - 1) ∧ 0 ≤ S.cf ∧ S.cf ≤ p ∧ p ∣ S.cf * q - 1 ∧ l = KeyL w 204 x dx S bf tb bi ti) := by
  k_with "m:call ref" => ((k_here; (with_reducible show wpAny _ _ (call (Value.ref 157) _) _ _ _); refine hold ?_))
  k_with "m:call ref" => ((k_here; (with_reducible show wpAny _ _ (call (Value.ref 157) _) _ _ _); k_dflt ((refine Ctr.use (c_mkpb _ _ _ _) (by k_asm) (by k_asm) (by k_asm) (by k_asm) (by k_asm) (by first | exact rfl | assumption) (by k_extra "m_pre") (by walk_at "m_rest") (by ktr_room) (by ktr_units) ?_)); rintro v9 l9 h9 tk9 ⟨x9, dx9, S9, bf9, tb9, bi9, ti9, e1, hne9, hbf9, hSn, hSe, e2⟩ hlo9 F9 N9; subst e1; subst e2; replace hlo9 := allNeL_of hlo9; (try simp only [AllNeL, AllNe, StL, KeyL, PubL, and_true, true_and, and_assoc] at hlo9); (repeat (obtain ⟨hlx9, hlo9⟩ := hlo9)); (obtain ⟨n8, e8, d8, p8, q8, x18, x28, cf8, tn8, te8, td8, tp8, tq8, tx18, tx28, tcf8, k18, k28, k38, k48, k58, k68, k78, k88, k98, k108⟩ := S9); (dsimp only at hSn hSe); subst hSn; subst hSe; (try dsimp only [List.cons_append, List.nil_append] at N9); k_sweep; (try k_fold)))
  obtain ⟨hp3, hpB, -⟩ := hp
  obtain ⟨hq3, hqB, -⟩ := hq
  w_top off
  k_fill
  intro dp un gd cn cs' a ccd cl outer A₀ base h₀ L m rest s Q E B F X N hdis T hk hdd hu hret
  k_dflt refine' call_cls F X N ?h1 ?h2 ?h3 ?_
  case h1 => k_dflt k_is
  case h2 => k_dflt k_is
  case h3 => k_dflt k_is
  intro x dx h1 F1 N1 l1 l2
  have l2' := ltN l2
  have N2 : News h₀ L h1 ([(x, instObj 204 dx), (dx, dictOf [] 0)] ++ rest) := N1
  have hdis2 : ∀ q ∈ rest, ∀ r ∈ [(x, instObj 204 dx), (dx, dictOf [] 0)], q.1 ≠ r.1 := by
    intro q9 hq9 r9 hr9
    have h3 := ltN (l1 q9 hq9)
    simp only [List.mem_cons, List.not_mem_nil, or_false] at hr9
    rcases hr9 with rfl | rfl <;> (refine neN ?_; dsimp only; omega)
  have hne : @Ne Nat x dx := neN (by omega)
  have N0 := news_left N2
  k_dflt refine' code_defR (binds := [(Str.ofString "self", .ref x), (Str.ofString "n", .int n t1), (Str.ofString "e", .int e t2), (Str.ofString "d", .int d t3), (Str.ofString "p", .int p t4), (Str.ofString "q", .int q t5)]) B F1 X N0 T ?kA ?kF ?kK ?k6 ?k7 ?k8 ?k9 ?kB ?_ ?c2 ?c3 ?c4 ?c5
  k_dflt k_extra "m_enter2"
  intro g' L' h' FG F' N' B' X' T' kept small
  (try dsimp only)
  (try k_fold)
  have hr := rest_kept N2 hdis2 kept
  k_steps
  (rename Fr g' _ _ _ => fr8); (rename News g' _ _ _ => ne8); exact m_ret hret fr8 ne8 (by assumption) (by assumption) hr N (by k_extra "m_pre") ⟨x, dx, ⟨n, e, d, p, q, _, _, _, _, _, _, _, _, _, _, _, _, _, _, _, _, _, _, _, _, _⟩, _, _, _, _, rfl, hne, by decide, rfl, rfl, rfl, rfl, rfl, rfl, rfl, by assumption, by assumption, by assumption, rfl⟩
end
section
local macro_rules | `(tactic| walk_at "m_pad") => `(tactic| fail)
local macro_rules | `(tactic| walk_at "m_fact") => `(tactic| first | exact PM_nn _ _ _ | exact Int.le_of_lt (PM_lt (by omega)))
local macro_rules | `(tactic| walk_at "m_steps") => `(tactic| repeat' (first | (k_unfold; (try dsimp only)) | (kc_bool; (with_reducible show GoodW _ _ _ _ _ (Except.ok (Flow.ret (Value.bool true))) _); kc_close) | ((fail_if_success kc_bool); first | (k_end; kc_close) | walk1 | (dsimp only; walk1) | (leave1; walk_say "STEP leave1"; (try dsimp only)))))
theorem holds : PySem.Challenge.rw_ys0001_05.Holds := by
  k_with "m:call ref" => ((k_here; (with_reducible show wpAny _ _ (call (Value.ref 204) _) _ _ _); refine hold ?_))
  k_with "m:call ref" => ((k_here; (with_reducible show wpAny _ _ (call (Value.ref 204) _) _ _ _); k_dflt ((refine Ctr.use (c_mkpv _ _ _ _ ?_ ?_ ?_ ?_ ?_) (by k_asm) (by k_asm) (by k_asm) (by k_asm) (by k_asm) (by first | exact rfl | assumption) (by k_extra "m_pre") (by walk_at "m_rest") (by ktr_room) (by ktr_units) ?_); (assumption); (assumption); (walk_at "m_fact"); (walk_at "m_bd"); (assumption)); rintro v9 l9 h9 tk9 ⟨x9, dx9, S9, bf9, tb9, bi9, ti9, e1, hne9, hbf9, hSn, hSe, hSd, hSp, hSq, hS1, hS2, hSc0, hSc1, hSc2, e2⟩ hlo9 F9 N9; subst e1; subst e2; replace hlo9 := allNeL_of hlo9; (try simp only [AllNeL, AllNe, StL, KeyL, PubL, and_true, true_and, and_assoc] at hlo9); (repeat (obtain ⟨hlx9, hlo9⟩ := hlo9)); k_dflt (have hK9 : KRsa S9 := KRsa.made (by assumption) (by assumption) (by assumption) (by omega) (by walk_at "m_bd") (by assumption) (by assumption) (by assumption) hSn hSe hSd hSp hSq hS1 hS2 hSc0 hSc1 hSc2); k_dflt (have hB9 : BfOk S9 bf9 bi9 := Or.inl hbf9); (obtain ⟨n8, e8, d8, p8, q8, x18, x28, cf8, tn8, te8, td8, tp8, tq8, tx18, tx28, tcf8, k18, k28, k38, k48, k58, k68, k78, k88, k98, k108⟩ := S9); (dsimp only at hSn hSe hSd hSp hSq hS1 hS2 hSc0 hSc1 hSc2); subst hSn; subst hSe; subst hSd; subst hSp; subst hSq; subst hS1; subst hS2; (try dsimp only [List.cons_append, List.nil_append] at N9); k_sweep; (try k_fold)))
  w_on
  refine holds_law hSaid fun said => ?_
  refine holds_open (q := V) (loose := [Str.ofString "NotRelativePrimeError"]) (Xt := (fun s => xlAt V [] s && recOk (RowW.records PySem.Challenge.rw_ys0001_05.row.toRowW) s)) (XP := XL V []) (Yf := Hook.obs (kHook K (2 :: 3 :: 15 :: 22 :: 23 :: 25 :: 26 :: 28 :: 29 :: 30 :: 31 :: 32 :: 33 :: 36 :: 38 :: 39 :: 41 :: 42 :: 43 :: 45 :: 46 :: 48 :: 49 :: 50 :: 52 :: 53 :: 55 :: 56 :: 57 :: 59 :: 60 :: 62 :: 63 :: 64 :: 66 :: 67 :: 69 :: 70 :: 71 :: 73 :: 74 :: 76 :: 77 :: 78 :: 80 :: 81 :: 83 :: 84 :: 92 :: 94 :: 95 :: 97 :: 98 :: 99 :: 101 :: 102 :: 104 :: 105 :: 106 :: 108 :: 109 :: 111 :: 112 :: 113 :: 115 :: 116 :: 118 :: 119 :: 120 :: 122 :: 123 :: 125 :: 126 :: 127 :: 128 :: 129 :: 130 :: 131 :: 134 :: 141 :: 143 :: 144 :: 146 :: 147 :: 148 :: 150 :: 151 :: 153 :: 154 :: 155 :: 156 :: 157 :: 160 :: 167 :: 169 :: 170 :: 172 :: 173 :: 174 :: 176 :: 177 :: 179 :: 180 :: 181 :: 183 :: 184 :: 186 :: 187 :: 188 :: 190 :: 191 :: 193 :: 194 :: 195 :: 197 :: 198 :: 200 :: 201 :: 202 :: 203 :: 204 :: 207 :: 209 :: 210 :: 212 :: 213 :: 214 :: 217 :: 218 :: 219 :: 221 :: 222 :: 224 :: 225 :: 226 :: 228 :: 229 :: 231 :: 232 :: 233 :: 235 :: 236 :: 238 :: 239 :: 240 :: 242 :: 243 :: 245 :: 246 :: 247 :: 250 :: 251 :: 252 :: 254 :: 255 :: 257 :: 258 :: 259 :: 261 :: 262 :: 264 :: 265 :: 266 :: 268 :: 269 :: 271 :: 272 :: 273 :: 275 :: 276 :: 278 :: 279 :: 280 :: 282 :: 283 :: 285 :: 286 :: []) hKas)) (Ya := Hook.val (kHook K (2 :: 3 :: 15 :: 22 :: 23 :: 25 :: 26 :: 28 :: 29 :: 30 :: 31 :: 32 :: 33 :: 36 :: 38 :: 39 :: 41 :: 42 :: 43 :: 45 :: 46 :: 48 :: 49 :: 50 :: 52 :: 53 :: 55 :: 56 :: 57 :: 59 :: 60 :: 62 :: 63 :: 64 :: 66 :: 67 :: 69 :: 70 :: 71 :: 73 :: 74 :: 76 :: 77 :: 78 :: 80 :: 81 :: 83 :: 84 :: 92 :: 94 :: 95 :: 97 :: 98 :: 99 :: 101 :: 102 :: 104 :: 105 :: 106 :: 108 :: 109 :: 111 :: 112 :: 113 :: 115 :: 116 :: 118 :: 119 :: 120 :: 122 :: 123 :: 125 :: 126 :: 127 :: 128 :: 129 :: 130 :: 131 :: 134 :: 141 :: 143 :: 144 :: 146 :: 147 :: 148 :: 150 :: 151 :: 153 :: 154 :: 155 :: 156 :: 157 :: 160 :: 167 :: 169 :: 170 :: 172 :: 173 :: 174 :: 176 :: 177 :: 179 :: 180 :: 181 :: 183 :: 184 :: 186 :: 187 :: 188 :: 190 :: 191 :: 193 :: 194 :: 195 :: 197 :: 198 :: 200 :: 201 :: 202 :: 203 :: 204 :: 207 :: 209 :: 210 :: 212 :: 213 :: 214 :: 217 :: 218 :: 219 :: 221 :: 222 :: 224 :: 225 :: 226 :: 228 :: 229 :: 231 :: 232 :: 233 :: 235 :: 236 :: 238 :: 239 :: 240 :: 242 :: 243 :: 245 :: 246 :: 247 :: 250 :: 251 :: 252 :: 254 :: 255 :: 257 :: 258 :: 259 :: 261 :: 262 :: 264 :: 265 :: 266 :: 268 :: 269 :: 271 :: 272 :: 273 :: 275 :: 276 :: 278 :: 279 :: 280 :: 282 :: 283 :: 285 :: 286 :: []) hKas)) (YP := Hook.says (kHook K (2 :: 3 :: 15 :: 22 :: 23 :: 25 :: 26 :: 28 :: 29 :: 30 :: 31 :: 32 :: 33 :: 36 :: 38 :: 39 :: 41 :: 42 :: 43 :: 45 :: 46 :: 48 :: 49 :: 50 :: 52 :: 53 :: 55 :: 56 :: 57 :: 59 :: 60 :: 62 :: 63 :: 64 :: 66 :: 67 :: 69 :: 70 :: 71 :: 73 :: 74 :: 76 :: 77 :: 78 :: 80 :: 81 :: 83 :: 84 :: 92 :: 94 :: 95 :: 97 :: 98 :: 99 :: 101 :: 102 :: 104 :: 105 :: 106 :: 108 :: 109 :: 111 :: 112 :: 113 :: 115 :: 116 :: 118 :: 119 :: 120 :: 122 :: 123 :: 125 :: 126 :: 127 :: 128 :: 129 :: 130 :: 131 :: 134 :: 141 :: 143 :: 144 :: 146 :: 147 :: 148 :: 150 :: 151 :: 153 :: 154 :: 155 :: 156 :: 157 :: 160 :: 167 :: 169 :: 170 :: 172 :: 173 :: 174 :: 176 :: 177 :: 179 :: 180 :: 181 :: 183 :: 184 :: 186 :: 187 :: 188 :: 190 :: 191 :: 193 :: 194 :: 195 :: 197 :: 198 :: 200 :: 201 :: 202 :: 203 :: 204 :: 207 :: 209 :: 210 :: 212 :: 213 :: 214 :: 217 :: 218 :: 219 :: 221 :: 222 :: 224 :: 225 :: 226 :: 228 :: 229 :: 231 :: 232 :: 233 :: 235 :: 236 :: 238 :: 239 :: 240 :: 242 :: 243 :: 245 :: 246 :: 247 :: 250 :: 251 :: 252 :: 254 :: 255 :: 257 :: 258 :: 259 :: 261 :: 262 :: 264 :: 265 :: 266 :: 268 :: 269 :: 271 :: 272 :: 273 :: 275 :: 276 :: 278 :: 279 :: 280 :: 282 :: 283 :: 285 :: 286 :: []) hKas)) (N := 3952) ?hl (Hook.of (kHook K (2 :: 3 :: 15 :: 22 :: 23 :: 25 :: 26 :: 28 :: 29 :: 30 :: 31 :: 32 :: 33 :: 36 :: 38 :: 39 :: 41 :: 42 :: 43 :: 45 :: 46 :: 48 :: 49 :: 50 :: 52 :: 53 :: 55 :: 56 :: 57 :: 59 :: 60 :: 62 :: 63 :: 64 :: 66 :: 67 :: 69 :: 70 :: 71 :: 73 :: 74 :: 76 :: 77 :: 78 :: 80 :: 81 :: 83 :: 84 :: 92 :: 94 :: 95 :: 97 :: 98 :: 99 :: 101 :: 102 :: 104 :: 105 :: 106 :: 108 :: 109 :: 111 :: 112 :: 113 :: 115 :: 116 :: 118 :: 119 :: 120 :: 122 :: 123 :: 125 :: 126 :: 127 :: 128 :: 129 :: 130 :: 131 :: 134 :: 141 :: 143 :: 144 :: 146 :: 147 :: 148 :: 150 :: 151 :: 153 :: 154 :: 155 :: 156 :: 157 :: 160 :: 167 :: 169 :: 170 :: 172 :: 173 :: 174 :: 176 :: 177 :: 179 :: 180 :: 181 :: 183 :: 184 :: 186 :: 187 :: 188 :: 190 :: 191 :: 193 :: 194 :: 195 :: 197 :: 198 :: 200 :: 201 :: 202 :: 203 :: 204 :: 207 :: 209 :: 210 :: 212 :: 213 :: 214 :: 217 :: 218 :: 219 :: 221 :: 222 :: 224 :: 225 :: 226 :: 228 :: 229 :: 231 :: 232 :: 233 :: 235 :: 236 :: 238 :: 239 :: 240 :: 242 :: 243 :: 245 :: 246 :: 247 :: 250 :: 251 :: 252 :: 254 :: 255 :: 257 :: 258 :: 259 :: 261 :: 262 :: 264 :: 265 :: 266 :: 268 :: 269 :: 271 :: 272 :: 273 :: 275 :: 276 :: 278 :: 279 :: 280 :: 282 :: 283 :: 285 :: 286 :: []) hKas)) (Hook.keeps (kHook K (2 :: 3 :: 15 :: 22 :: 23 :: 25 :: 26 :: 28 :: 29 :: 30 :: 31 :: 32 :: 33 :: 36 :: 38 :: 39 :: 41 :: 42 :: 43 :: 45 :: 46 :: 48 :: 49 :: 50 :: 52 :: 53 :: 55 :: 56 :: 57 :: 59 :: 60 :: 62 :: 63 :: 64 :: 66 :: 67 :: 69 :: 70 :: 71 :: 73 :: 74 :: 76 :: 77 :: 78 :: 80 :: 81 :: 83 :: 84 :: 92 :: 94 :: 95 :: 97 :: 98 :: 99 :: 101 :: 102 :: 104 :: 105 :: 106 :: 108 :: 109 :: 111 :: 112 :: 113 :: 115 :: 116 :: 118 :: 119 :: 120 :: 122 :: 123 :: 125 :: 126 :: 127 :: 128 :: 129 :: 130 :: 131 :: 134 :: 141 :: 143 :: 144 :: 146 :: 147 :: 148 :: 150 :: 151 :: 153 :: 154 :: 155 :: 156 :: 157 :: 160 :: 167 :: 169 :: 170 :: 172 :: 173 :: 174 :: 176 :: 177 :: 179 :: 180 :: 181 :: 183 :: 184 :: 186 :: 187 :: 188 :: 190 :: 191 :: 193 :: 194 :: 195 :: 197 :: 198 :: 200 :: 201 :: 202 :: 203 :: 204 :: 207 :: 209 :: 210 :: 212 :: 213 :: 214 :: 217 :: 218 :: 219 :: 221 :: 222 :: 224 :: 225 :: 226 :: 228 :: 229 :: 231 :: 232 :: 233 :: 235 :: 236 :: 238 :: 239 :: 240 :: 242 :: 243 :: 245 :: 246 :: 247 :: 250 :: 251 :: 252 :: 254 :: 255 :: 257 :: 258 :: 259 :: 261 :: 262 :: 264 :: 265 :: 266 :: 268 :: 269 :: 271 :: 272 :: 273 :: 275 :: 276 :: 278 :: 279 :: 280 :: 282 :: 283 :: 285 :: 286 :: []) hKas)) (fun s e => xl_of s (Bool.and_eq_true_iff.mp e).1) XL.keeps (by rfl) (by rfl) (by rfl) (fun s e => recFacts_of (Bool.and_eq_true_iff.mp e).2) (by rfl) (by first | assumption | decide +kernel) (by decide +kernel) ⟨rfl, rfl, rfl, rfl, rfl, by decide +kernel⟩ ?hw ?hc
  case hl => exact hLeft
  case hw => w_witness2
  k_go0
  (all_goals try k_fold)
  walk_at "m_steps"
  all_goals try (exfalso; rename Int.fmod _ _ ≠ 1 => h8; exact h8 (fmod_one (by omega) (by assumption)))
  all_goals try (k_end; kc_close)
  unfold Hold
  (l_hasStore; k_listUnr)
  walk_at "m_steps"
  all_goals first
    | (exfalso; rename KRsa _ => hK; rename PM (PM _ _ _) _ _ ≠ _ => h8; first | exact h8 (hK.back2 (by omega) (by omega)) | exact h8 (hK.forth2 (by omega) (by omega)))
    | (exfalso; rename PM _ _ _ ≠ PM _ _ _ => h8; exact h8 rfl)
    | (rename KRsa _ => hK; have hb := fun y h0 h1 => beq_iff_eq.mpr (KRsa.forth2 (y := y) hK h0 h1); rw [hb _ (by omega) (by omega)]; kc_close)
end
end Mine
theorem PySem.Challenge.cw_ys0001_05_holds : PySem.Challenge.rw_ys0001_05.Holds :=
  Mine.holds
