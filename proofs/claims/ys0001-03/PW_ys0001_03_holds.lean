import PyProof.Rows.All
import Wide.All
import OpenK.AllK
import Wide.FinOn
import Lean
import PySem.Challenge.RW_ys0001_03
set_option compiler.extract_closed false
open PySem PySem.W PySem.Spec PySem.Calls PyProof.Rows
set_option Elab.async false
set_option maxRecDepth 100000
set_option maxHeartbeats 8000000
set_option linter.unusedVariables false
set_option linter.unusedSimpArgs false
set_option linter.all false
namespace Mine
noncomputable section
noncomputable def nthS : List Stmt → Nat → Stmt
  | [], _ => default
  | s :: _, 0 => s
  | _ :: r, n + 1 => nthS r n
noncomputable def fdA : Stmt → Arguments
  | .FunctionDef _ a _ _ _ _ _ _ _ _ => a
  | _ => default
noncomputable def fdB : Stmt → List Stmt
  | .FunctionDef _ _ b _ _ _ _ _ _ _ => b
  | .ClassDef _ _ _ b _ _ _ _ _ _ _ => b
  | _ => []
noncomputable def fdS : Stmt → Scope
  | .FunctionDef _ _ _ _ _ _ s _ _ _ => s
  | _ => default
noncomputable def fdT (s : Stmt) : Arguments × List Stmt × Scope := (fdA s, fdB s, fdS s)
end
end Mine

namespace Mine

theorem code_defR {prog : Program} {w : World} {A₀ A : Around} {s : Shared} {K : Frag} {L : Addr} {h₀ base : Heap} {m mg mb : Str → Option Value} {news : List (Addr × Obj)} {p : Program} {loose : List Str} {mean : ExcName → Option Value}
    {env : Env} {outer : List Env} {R : Result → Shared → Prop} {name qual : Str} {params : Arguments} {body : List Stmt} {scope : Scope} {dV kV doc pm cdv ct oc : Value} {an od : Option Addr} {osl : Array (Option Value)} {f : Addr} {args : Args} {binds : List (Str × Value)}
    (B : Below A₀ base outer h₀) (F : Fr h₀ L s.heap m) (X₀ : K.In h₀) (N : News h₀ L s.heap news) (T : Top p loose mean mg mb h₀) (hA : A.frames = some (env :: outer)) (hf : env.frame = some L) (hke : env.scope.kind = .function)
    (ho : K.lookup f = some ⟨oc, od, .func (fnOf name qual params body scope dV kV doc pm an cdv ct), osl⟩) (hcd : codeIn K cdv qual = true) (hroom : A.depth < recursionLimit)
    (hbind : BindsTo s (fnOf name qual params body scope dV kV doc pm an cdv ct) args binds) (hloc : ∀ y ∈ binds, scope.names.lookup y.1 = some .local)
    (h : ∀ g L' h₁, Fr h₀ L g m → Fr g L' h₁ (fun y => binds.reverse.lookup y) → News g L' h₁ news → Below A base (env :: outer) g → K.In g → Top p loose mean mg mb g →
      (∀ b o, s.heap.get? b = some o → b ∉ news.map (·.1) → g.get? b = some o) → (∀ b o, s.heap.get? b = some o → b < L') →
      wpAny (model prog w) (A.deeper (envOf qual scope L' f cdv)) (execs body (envOf qual scope L' f cdv))
        (fun fl s' => LeaveK h₀ L m g R (match fl with | .ret v => v | _ => .none) s')
        (fun e s' => wpAny (model prog w) (A.deeper (envOf qual scope L' f cdv)) (leaving (envOf qual scope L' f cdv) e) (fun _ s'' => R (.error e) s'') (fun e' s'' => R (.error e') s'') s')
        { s with heap := h₁, toks := s.toks + binds.length })
    (hco : scope.isCoroutine = false) (hgen : scope.isGenerator = false) (hk : scope.kind = .function)
    (hcell : ∀ x ∈ scope.names, x.2 ≠ .cell) : codeAny (model prog w) A (.call (.ref f) args) R s := by
  obtain ⟨FG, BG, st, lv⟩ := groundX (R := R) B F N hA hf hke
  refine codeAny_call_def (fd := fnOf name qual params body scope dV kV doc pm an cdv ct) (body := body) (binds := binds) hroom ((X₀.keeps F.keep) _ _ ho) rfl (T.nolimit.keeps F.keep) (codeRec_of (X₀.keeps F.keep) hcd) rfl hbind hcell hloc (fun h₁ hns hk₁ => ?_) hco hgen hk
  exact wpAny_mono (h _ s.heap.objs.size h₁ FG ⟨hns, fun b o e => hk₁ b o (of_hideAll _ e), Nat.le_of_eq (hideAll_size _ _)⟩
    (fun p hp => ⟨hk₁ _ _ (N p hp).1, Nat.ne_of_lt (Heap.lt_size (N p hp).1), hideAll_none _ (List.mem_map_of_mem hp)⟩) BG (X₀.keeps st) (T.keeps st)
    (fun b o e hb => hideAll_get _ e hb) (fun b o e => Heap.lt_size e)) (fun fl s' hl => lv _ _ hl) fun _ _ y => y


noncomputable def Ctr (prog : Program) (w : World) (K : Frag) (p : Program) (loose : List Str) (mean : ExcName → Option Value) (mg mb : Str → Option Value) (f : Addr) (D U : Nat) (vs : List Value) (pre : List (Addr × Obj)) (Post : Value → List (Addr × Obj) → Prop) : Prop :=
  ∀ (dp un : Nat) (gd : Option (List Code)) (cn : Str) (cs : Scope) (a : Addr) (ccd : Value) (cl : List (Str × Addr)) (outer : List Env) (A₀ : Around) (base h₀ : Heap) (L : Addr) (m : Str → Option Value) (rest : List (Addr × Obj)) (s : Shared)
    (Q E : Value → Shared → Prop),
    Below A₀ base outer h₀ → Fr h₀ L s.heap m → K.In h₀ → News h₀ L s.heap (pre ++ rest) → (∀ q ∈ rest, ∀ r ∈ pre, q.1 ≠ r.1) → Top p loose mean mg mb h₀ → cs.kind = .function → dp + D < recursionLimit → un + U < cLine →
    (∀ v pst h' tk', Post v pst → (∀ q ∈ rest, ∀ r ∈ pst, q.1 ≠ r.1) → Fr h₀ L h' m → News h₀ L h' (pst ++ rest) → Q v { s with heap := h', toks := tk' }) →
    wpAny (model prog w) (ktrTop dp un gd cn cs L a ccd cl outer) (call (.ref f) vs) Q E s

noncomputable def CtrB (prog : Program) (w : World) (K : Frag) (p : Program) (loose : List Str) (mean : ExcName → Option Value) (mg mb : Str → Option Value) (f : Addr) (D U : Nat) (vs : List Value) (pre : List (Addr × Obj)) (Pb : Heap → Prop) (Post : Value → List (Addr × Obj) → Prop) : Prop :=
  ∀ (dp un : Nat) (gd : Option (List Code)) (cn : Str) (cs : Scope) (a : Addr) (ccd : Value) (cl : List (Str × Addr)) (outer : List Env) (A₀ : Around) (base h₀ : Heap) (L : Addr) (m : Str → Option Value) (rest : List (Addr × Obj)) (s : Shared)
    (Q E : Value → Shared → Prop),
    Below A₀ base outer h₀ → Pb base → Fr h₀ L s.heap m → K.In h₀ → News h₀ L s.heap (pre ++ rest) → (∀ q ∈ rest, ∀ r ∈ pre, q.1 ≠ r.1) → Top p loose mean mg mb h₀ → cs.kind = .function → dp + D < recursionLimit → un + U < cLine →
    (∀ v pst h' tk', Post v pst → (∀ q ∈ rest, ∀ r ∈ pst, q.1 ≠ r.1) → Fr h₀ L h' m → News h₀ L h' (pst ++ rest) → Q v { s with heap := h', toks := tk' }) →
    wpAny (model prog w) (ktrTop dp un gd cn cs L a ccd cl outer) (call (.ref f) vs) Q E s

theorem ret_news {h₀ g h h' : Heap} {L L' : Addr} {m' : Str → Option Value} {pre pst rest : List (Addr × Obj)} (kN : News h₀ L h' pst) (Fg : Fr g L' h' m') (hr : ∀ p ∈ rest, g.get? p.1 = some p.2) (N : News h₀ L h (pre ++ rest)) : News h₀ L h' (pst ++ rest) := by
  intro p hp
  rcases List.mem_append.mp hp with hp | hp
  · exact kN p hp
  · exact ⟨Fg.keep _ _ (hr p hp), (N p (List.mem_append_right _ hp)).2⟩
theorem news_left {h₀ h : Heap} {L : Addr} {pre rest : List (Addr × Obj)} (N : News h₀ L h (pre ++ rest)) : News h₀ L h pre := fun p hp => N p (List.mem_append_left _ hp)
theorem rest_kept {h₀ h g : Heap} {L : Addr} {pre rest : List (Addr × Obj)} (N : News h₀ L h (pre ++ rest)) (hd : ∀ q ∈ rest, ∀ r ∈ pre, q.1 ≠ r.1) (k : ∀ b o, h.get? b = some o → b ∉ pre.map (·.1) → g.get? b = some o) : ∀ p ∈ rest, g.get? p.1 = some p.2 := by
  intro p hp
  refine k _ _ (N p (List.mem_append_right _ hp)).1 fun hm => ?_
  obtain ⟨r, hr, e⟩ := List.mem_map.mp hm
  exact hd p hp r hr e.symm


inductive Rest (ads : List Addr) : List (Addr × Obj) → List (Addr × Obj) → Prop
  | nil : Rest ads [] []
  | tail {own : List (Addr × Obj)} : (∀ p ∈ own, p.1 ∉ ads) → Rest ads own own
  | drop {p : Addr × Obj} {l r : List (Addr × Obj)} : p.1 ∈ ads → Rest ads l r → Rest ads (p :: l) r
  | keep {p : Addr × Obj} {l r : List (Addr × Obj)} : p.1 ∉ ads → Rest ads l r → Rest ads (p :: l) (p :: r)
theorem Rest.sub {ads : List Addr} {l r : List (Addr × Obj)} (h : Rest ads l r) : ∀ p ∈ r, p ∈ l := by
  induction h with
  | nil => exact fun _ h => h
  | tail _ => exact fun _ h => h
  | drop _ _ ih => exact fun p hp => .tail _ (ih p hp)
  | keep _ _ ih =>
    intro p hp
    rcases List.mem_cons.mp hp with rfl | hp
    · exact .head _
    · exact .tail _ (ih p hp)
theorem Rest.off {ads : List Addr} {l r : List (Addr × Obj)} (h : Rest ads l r) : ∀ p ∈ r, p.1 ∉ ads := by
  induction h with
  | nil => exact fun _ h => nomatch h
  | tail h => exact h
  | drop _ _ ih => exact ih
  | keep hn _ ih =>
    intro p hp
    rcases List.mem_cons.mp hp with rfl | hp
    · exact hn
    · exact ih p hp
theorem off0 {a : Nat} : a ∉ ([] : List Addr) := List.not_mem_nil
theorem off1 {a b : Nat} {l : List Addr} (h : @Ne Nat a b) (t : a ∉ l) : a ∉ b :: l := by
  intro hm
  rcases List.mem_cons.mp hm with e | hm
  · exact h e
  · exact t hm
theorem own_off {own : List (Addr × Obj)} {adr ads : List Addr} (h : OwnOff own adr) (hs : ∀ b ∈ ads, b ∈ adr) : ∀ p ∈ own, p.1 ∉ ads := fun p hp hm => h p hp _ (hs _ hm) rfl

theorem Ctr.use {prog : Program} {w : World} {K : Frag} {p : Program} {loose : List Str} {mean : ExcName → Option Value} {mg mb : Str → Option Value} {f : Addr} {D U : Nat} {vs : List Value} {pre : List (Addr × Obj)} {Post : Value → List (Addr × Obj) → Prop}
    {dp un : Nat} {gd : Option (List Code)} {cn : Str} {cs : Scope} {a : Addr} {ccd : Value} {cl : List (Str × Addr)} {outer : List Env} {A₀ : Around} {base h₀ : Heap} {L : Addr} {m : Str → Option Value} {news rest : List (Addr × Obj)} {s : Shared} {Q E : Value → Shared → Prop}
    (C : Ctr prog w K p loose mean mg mb f D U vs pre Post) (B : Below A₀ base outer h₀) (F : Fr h₀ L s.heap m) (X : K.In h₀) (N : News h₀ L s.heap news) (T : Top p loose mean mg mb h₀) (hk : cs.kind = .function)
    (hp : ∀ q ∈ pre, q ∈ news) (hR : Rest (pre.map (·.1)) news rest) (hd : dp + D < recursionLimit) (hu : un + U < cLine)
    (ret : ∀ v pst h' tk', Post v pst → (∀ q ∈ rest, ∀ r ∈ pst, q.1 ≠ r.1) → Fr h₀ L h' m → News h₀ L h' (pst ++ rest) → Q v { s with heap := h', toks := tk' }) :
    wpAny (model prog w) (ktrTop dp un gd cn cs L a ccd cl outer) (call (.ref f) vs) Q E s :=
  C _ _ _ _ _ _ _ _ _ _ _ _ _ _ rest _ _ _ B F X (fun q hq => (List.mem_append.mp hq).elim (fun h => N q (hp q h)) fun h => N q (hR.sub q h))
    (fun q hq r hr e => hR.off q hq (List.mem_map.mpr ⟨r, hr, e.symm⟩)) T hk hd hu ret
theorem CtrB.use {prog : Program} {w : World} {K : Frag} {p : Program} {loose : List Str} {mean : ExcName → Option Value} {mg mb : Str → Option Value} {f : Addr} {D U : Nat} {vs : List Value} {pre : List (Addr × Obj)} {Pb : Heap → Prop} {Post : Value → List (Addr × Obj) → Prop}
    {dp un : Nat} {gd : Option (List Code)} {cn : Str} {cs : Scope} {a : Addr} {ccd : Value} {cl : List (Str × Addr)} {outer : List Env} {A₀ : Around} {base h₀ : Heap} {L : Addr} {m : Str → Option Value} {news rest : List (Addr × Obj)} {s : Shared} {Q E : Value → Shared → Prop}
    (C : CtrB prog w K p loose mean mg mb f D U vs pre Pb Post) (B : Below A₀ base outer h₀) (hB : Pb base) (F : Fr h₀ L s.heap m) (X : K.In h₀) (N : News h₀ L s.heap news) (T : Top p loose mean mg mb h₀) (hk : cs.kind = .function)
    (hp : ∀ q ∈ pre, q ∈ news) (hR : Rest (pre.map (·.1)) news rest) (hd : dp + D < recursionLimit) (hu : un + U < cLine)
    (ret : ∀ v pst h' tk', Post v pst → (∀ q ∈ rest, ∀ r ∈ pst, q.1 ≠ r.1) → Fr h₀ L h' m → News h₀ L h' (pst ++ rest) → Q v { s with heap := h', toks := tk' }) :
    wpAny (model prog w) (ktrTop dp un gd cn cs L a ccd cl outer) (call (.ref f) vs) Q E s :=
  C _ _ _ _ _ _ _ _ _ _ _ _ _ _ rest _ _ _ B hB F X (fun q hq => (List.mem_append.mp hq).elim (fun h => N q (hp q h)) fun h => N q (hR.sub q h))
    (fun q hq r hr e => hR.off q hq (List.mem_map.mpr ⟨r, hr, e.symm⟩)) T hk hd hu ret
theorem m_ret {h₀ g h h' : Heap} {L L' : Addr} {m m' : Str → Option Value} {pre pst rest ng : List (Addr × Obj)} {s : Shared} {Q : Value → Shared → Prop} {Post : Value → List (Addr × Obj) → Prop} {v : Value} {tk' : Nat}
    (hret : ∀ v pst h' tk', Post v pst → (∀ q ∈ rest, ∀ r ∈ pst, q.1 ≠ r.1) → Fr h₀ L h' m → News h₀ L h' (pst ++ rest) → Q v { s with heap := h', toks := tk' })
    (Fg : Fr g L' h' m') (Ng : News g L' h' ng) (kF : Fr h₀ L h' m) (kN : News h₀ L h' ng) (hr : ∀ p ∈ rest, g.get? p.1 = some p.2) (N : News h₀ L h (pre ++ rest)) (hs : ∀ p ∈ pst, p ∈ ng) (hP : Post v pst) :
    Q v { s with heap := h', toks := tk' } := by
  refine hret v pst h' tk' hP (fun q hq r hr' e => ?_) kF (ret_news (fun p hp => kN p (hs p hp)) Fg hr N)
  have h1 := hr q hq
  have h2 := (Ng r (hs r hr')).2.2
  rw [e, h2] at h1
  cases h1
noncomputable def AllNe (d : Nat) : List (Addr × Obj) → Prop
  | [] => True
  | p :: r => @Ne Nat p.1 d ∧ AllNe d r
theorem allNe_of {d : Addr} {o : Obj} : ∀ {l : List (Addr × Obj)}, (∀ q ∈ l, ∀ r ∈ [(d, o)], q.1 ≠ r.1) → AllNe d l
  | [], _ => trivial
  | p :: _, h => ⟨h p (.head _) _ (.head _), allNe_of fun q hq => h q (.tail _ hq)⟩
noncomputable def AllNeL : List (Addr × Obj) → List (Addr × Obj) → Prop
  | [], _ => True
  | r :: rs, l => AllNe r.1 l ∧ AllNeL rs l
theorem allNe_one {d : Addr} : ∀ {l : List (Addr × Obj)}, (∀ q ∈ l, q.1 ≠ d) → AllNe d l
  | [], _ => trivial
  | p :: _, h => ⟨h p (.head _), allNe_one fun q hq => h q (.tail _ hq)⟩
theorem allNeL_of : ∀ {rs l : List (Addr × Obj)}, (∀ q ∈ l, ∀ r ∈ rs, q.1 ≠ r.1) → AllNeL rs l
  | [], _, _ => trivial
  | r :: _, _, h => ⟨allNe_one fun q hq => h q hq r (.head _), allNeL_of fun q hq s hs => h q hq s (.tail _ hs)⟩
theorem news_of {h₀ h : Heap} {L : Addr} {l l' : List (Addr × Obj)} (N : News h₀ L h l) (hs : ∀ p ∈ l', p ∈ l) : News h₀ L h l' := fun p hp => N p (hs p hp)

noncomputable def Hold (P : Prop) : Prop := P
theorem hold {P : Prop} (h : Hold P) : P := h

theorem bits_le {x : Int} {M : Nat} (h : x.natAbs < 2 ^ M) : Builtin.Int.intBits x ≤ M := by
  unfold Builtin.Int.intBits
  by_cases h0 : x = 0
  · simp [h0]
  · have hb : (x == 0) = false := by simpa using h0
    rw [hb]
    have hp : x.natAbs ≠ 0 := by omega
    have := (Nat.log2_lt hp).mpr h
    simp only [Bool.false_eq_true, if_false]
    omega
theorem mulOk {a b : Int} (M N : Nat) (ha : a.natAbs < 2 ^ M) (hb : b.natAbs < 2 ^ N) (h : M + N ≤ 134217728) : IntMulOk a b := by
  have h1 := bits_le ha
  have h2 := bits_le hb
  unfold IntMulOk
  intro hc
  simp only [Bool.and_eq_true] at hc
  have h3 := hc.2
  unfold Builtin.Int.intTooBig at h3
  rw [decide_eq_true_eq, bitsLine_eq] at h3
  omega
theorem log2_small {x : Int} (h : x.natAbs < 18446744073709551616) : x.natAbs.log2 < 9000 := by
  by_cases hz : x.natAbs = 0
  · rw [hz]; decide
  · have := (Nat.log2_lt (k := 64) hz).mpr h
    omega
theorem log2_of {x : Int} {M : Nat} (h : x.natAbs < 2 ^ M) (hM : M ≤ 9000) (h0 : 0 < M) : x.natAbs.log2 < 9000 := by
  by_cases hz : x.natAbs = 0
  · rw [hz]; decide
  · exact Nat.lt_of_lt_of_le ((Nat.log2_lt hz).mpr h) hM

section
variable {prog : Program} {w : World} {A : Around} {E : Value → Shared → Prop} {s : Shared} {env : Env} {h₀ : Heap} {x : Str} {body : List Stmt} {Q : Flow → Shared → Prop}
noncomputable def MPost {σ : Type} (h₀ : Heap) (L : Addr) (Led : σ → List (Addr × Obj)) (ps : σ → List (Str × Value)) (Facts : σ → Prop) (x : Str) (stored : List Str) (m₀ : Str → Option Value) (P Pe : σ → Prop) (own : List (Addr × Obj)) (adr : List Addr) (s₁ : Shared) (Q : Flow → Shared → Prop) (f : Flow) (s₂ : Shared) : Prop :=
  match f with
  | .ret v => Q (.ret v) s₂
  | .brk => InvEndN h₀ L (KstS Led ps Facts x stored m₀ (fun _ => Pe) []) own adr s₁ s₂
  | _ => InvEndN h₀ L (KstS Led ps Facts x stored m₀ (fun _ => P) []) own adr s₁ s₂
theorem m_range {σ : Type} {r : Addr} {a₀ b₀ : Int} {t₀ u₀ v₀ : Tok} {n : Nat} {m₀ : Str → Option Value} {news : List (Addr × Obj)} (Led : σ → List (Addr × Obj)) (ps : σ → List (Str × Value)) (Facts : σ → Prop) (stored : List Str) (P : Nat → σ → Prop) (Pe : σ → Prop) (c₀ : σ)
    (hh : A.handled = none) (hr : IsRange s.heap r a₀ b₀ 1 t₀ u₀ v₀) (hsmall : Builtin.Range.small a₀ b₀ 1 = true) (hn : Builtin.Range.rangeSize a₀ b₀ 1 = (n : Int)) (F : Fr h₀ env.locals s.heap m₀) (N : News h₀ env.locals s.heap news) (hL : ∀ p ∈ Led c₀, p ∈ news)
    (hf : Facts c₀) (hk : ∀ p ∈ ps c₀, m₀ p.1 = some p.2) (hp : P 0 c₀) (hend : ∀ c, P n c → Pe c)
    (turn : ∀ (c : σ) (i : Nat) (k : Int) t (u : Str → Option Value) h tk own, k = a₀ + (i : Int) → i < n → OwnOff own ((Led c₀).map (·.1)) → Facts c → P i c →
      Fr h₀ env.locals h (fun y => if y = x then some (.int k t) else kstB (fun z => if stored.contains z then u z else m₀ z) (ps c) y) → News h₀ env.locals h (Led c ++ own) →
      wpAny (model prog w) A (execs body env) (MPost h₀ env.locals Led ps Facts x stored m₀ (P (i + 1)) Pe own ((Led c₀).map (·.1)) { s with heap := h, toks := tk } Q) E { s with heap := h, toks := tk })
    (done : ∀ (c : σ) (u : Str → Option Value) h tk, Facts c → Pe c → Fr h₀ env.locals h (fun y => if y = x then u y else kstB (fun z => if stored.contains z then u z else m₀ z) (ps c) y) → News h₀ env.locals h (Led c) → Q .next { s with heap := h, toks := tk }) :
    wpAny (model prog w) A (pyIter (.ref r)) (fun it s₂ => LoopAtV prog w A h₀ env x body Q E it s₂) E s := by
  refine kst_range (n := n) Led ps Facts stored (fun pre c => P pre.length c) c₀ hh hr hsmall hn F (fun p hp => N p (hL p hp)) hf hk hp ?_ fun c u h tk hf' hp' F' N' => done c u h tk hf' (hend c (by simpa [rangeKs_length] using hp')) F' N'
  intro c pre k t u h tk own hk' hlt hoff hf' hp' F' N'
  refine wpAny_mono (turn c pre.length k t u h tk own hk' hlt hoff hf' hp' F' N') (fun f s₂ q => ?_) fun _ _ x => x
  have up : ∀ {P' : σ → Prop}, InvEndN h₀ env.locals (KstS Led ps Facts x stored m₀ (fun _ => P') []) own ((Led c₀).map (·.1)) { s with heap := h, toks := tk } s₂ →
      ∃ c h' tk' m' news', s₂ = { s with heap := h', toks := tk' } ∧ Fr h₀ env.locals h' m' ∧ News h₀ env.locals h' news' ∧ (∀ p ∈ Led c, p ∈ news') ∧ (∀ p ∈ own, p ∈ news') ∧ (Led c).map (·.1) = (Led c₀).map (·.1) ∧ Facts c ∧ (∀ p ∈ ps c, m' p.1 = some p.2) ∧ (∀ z, z ≠ x → (∀ p ∈ ps c, z ≠ p.1) → stored.contains z = false → m' z = m₀ z) ∧ P' c := by
    rintro P' ⟨h', tk', m', news', nx, e, F'', N'', hn', ho, ha, c', rfl, hfc, h1, h2, hpc⟩
    exact ⟨c', h', tk', m', news', e, F'', N'', hn', ho, ha, hfc, h1, h2, hpc⟩
  have nxt : InvEndN h₀ env.locals (KstS Led ps Facts x stored m₀ (fun _ => P (pre.length + 1)) []) own ((Led c₀).map (·.1)) { s with heap := h, toks := tk } s₂ → InvEndN h₀ env.locals (KstS Led ps Facts x stored m₀ (fun pre c => P pre.length c) (pre ++ [k])) own ((Led c₀).map (·.1)) { s with heap := h, toks := tk } s₂ := by
    intro q
    obtain ⟨c', h', tk', m', news', e, F'', N'', hn', ho, ha, hfc, h1, h2, hpc⟩ := up q
    exact ⟨h', tk', m', news', Led c', e, F'', N'', hn', ho, ha, c', rfl, hfc, h1, h2, by simpa using hpc⟩
  cases f with
  | ret v => exact q
  | brk =>
    obtain ⟨c', h', tk', m', news', rfl, F'', N'', hn', ho, ha, hfc, h1, h2, hpc⟩ := up q
    exact done c' m' h' tk' hfc hpc (kst_frOut h1 h2 F'') (fun p hp => N'' p (hn' p hp))
  | next => exact nxt q
  | cont => exact nxt q
theorem m_end {σ : Type} {Led : σ → List (Addr × Obj)} {ps : σ → List (Str × Value)} {Facts : σ → Prop} {stored : List Str} {m₀ : Str → Option Value} {P : σ → Prop} (c : σ) {L : Addr} {m' : Str → Option Value} {own news' : List (Addr × Obj)} {adr : List Addr} {s₁ : Shared} {h' : Heap} {tk : Nat}
    (F : Fr h₀ L h' m') (N : News h₀ L h' news') (hn : ∀ p ∈ Led c, p ∈ news') (ho : ∀ p ∈ own, p ∈ news') (ha : (Led c).map (·.1) = adr) (hf : Facts c) (hk : ∀ p ∈ ps c, m' p.1 = some p.2) (hr : ∀ z, z ≠ x → (∀ p ∈ ps c, z ≠ p.1) → stored.contains z = false → m' z = m₀ z) (hp : P c) :
    InvEndN h₀ L (KstS Led ps Facts x stored m₀ (fun _ => P) []) own adr s₁ { s₁ with heap := h', toks := tk } :=
  kst_end c F N hn ho ha hf hk hr hp
end

noncomputable def JEnd {σ : Type} (h₀ : Heap) (L : Addr) (Led : σ → List (Addr × Obj)) (ps : σ → List (Str × Value)) (stored : List Str) (m₀ : Str → Option Value) (P : σ → Prop) (s₁ s₂ : Shared) : Prop :=
  ∃ (c : σ) (h' : Heap) (tk : Nat) (m' : Str → Option Value) (news' : List (Addr × Obj)), s₂ = { s₁ with heap := h', toks := tk } ∧ Fr h₀ L h' m' ∧ News h₀ L h' news' ∧ (∀ p ∈ Led c, p ∈ news') ∧ (∀ p ∈ ps c, m' p.1 = some p.2) ∧ (∀ z, (∀ p ∈ ps c, z ≠ p.1) → stored.contains z = false → m' z = m₀ z) ∧ P c
noncomputable def JPost {σ : Type} (h₀ : Heap) (L : Addr) (Led : σ → List (Addr × Obj)) (ps : σ → List (Str × Value)) (stored : List Str) (m₀ : Str → Option Value) (P : σ → Prop) (s₁ : Shared) (Q : Flow → Shared → Prop) (f : Flow) (s₂ : Shared) : Prop :=
  match f with
  | .next => JEnd h₀ L Led ps stored m₀ P s₁ s₂
  | f => Q f s₂
theorem m_join {M : Model} {A : Around} {E : Value → Shared → Prop} {s : Shared} {h₀ : Heap} {L : Addr} {Q : Flow → Shared → Prop} {t : Sem Flow} {σ : Type} {m₀ : Str → Option Value} (Led : σ → List (Addr × Obj)) (ps : σ → List (Str × Value)) (stored : List Str) (P : σ → Prop)
    (F : Fr h₀ L s.heap m₀)
    (h1 : wpAny M A t (JPost h₀ L Led ps stored m₀ P s Q) E s)
    (h2 : ∀ c (u : Str → Option Value) h tk, P c → Fr h₀ L h (kstB (fun z => if stored.contains z then u z else m₀ z) (ps c)) → News h₀ L h (Led c) → Q .next { s with heap := h, toks := tk }) :
    wpAny M A t Q E s := by
  refine wpAny_mono h1 (fun f s' hj => ?_) fun _ _ x => x
  cases f with
  | next =>
    obtain ⟨c, h', tk, m', news', rfl, F', N', hn, hk, hr, hP⟩ := hj
    exact h2 c m' h' tk hP (ksw_fr hk hr F') (fun p hp => N' p (hn p hp))
  | brk => exact hj
  | cont => exact hj
  | ret v => exact hj
theorem m_jend {σ : Type} {h₀ : Heap} {L : Addr} {Led : σ → List (Addr × Obj)} {ps : σ → List (Str × Value)} {stored : List Str} {m₀ : Str → Option Value} {P : σ → Prop} {s₁ : Shared} (c : σ) {h' : Heap} {tk : Nat} {m' : Str → Option Value} {news' : List (Addr × Obj)}
    (F : Fr h₀ L h' m') (N : News h₀ L h' news') (hn : ∀ p ∈ Led c, p ∈ news') (hk : ∀ p ∈ ps c, m' p.1 = some p.2) (hr : ∀ z, (∀ p ∈ ps c, z ≠ p.1) → stored.contains z = false → m' z = m₀ z) (hP : P c) :
    JEnd h₀ L Led ps stored m₀ P s₁ { s₁ with heap := h', toks := tk } := ⟨c, h', tk, m', news', rfl, F, N, hn, hk, hr, hP⟩

noncomputable abbrev fstN {a b : Nat} (_ : @Ne Nat a b) : Nat := a
noncomputable abbrev sndN {a b : Nat} (_ : @Ne Nat a b) : Nat := b
structure StT where
  i : Int
  t : Tok
  n : Nat
  vs : List Value
  ns : List Int
  n2 : Nat
noncomputable def StOk (S : StT) : Prop := IntsAre S.vs S.ns ∧ 0 < S.ns.length ∧ S.ns.length ≤ 63
noncomputable abbrev StL (st c : Nat) (S : StT) : List (Addr × Obj) := [(st, listOf #[.int S.i S.t, .ref c] S.n), (c, listOf S.vs.toArray S.n2)]

end Mine

namespace Mine
noncomputable def Bd (k : Nat) (x : Int) : Prop := x.natAbs < 2 ^ k
theorem Bd.mono {j k : Nat} {x : Int} (h : Bd j x) (hk : j ≤ k) : Bd k x := Nat.lt_of_lt_of_le h (Nat.pow_le_pow_right (by decide) hk)
theorem Bd.small {k : Nat} {x : Int} (h : x.natAbs < 4294967296) (hk : 32 ≤ k) : Bd k x := Nat.lt_of_lt_of_le h (Nat.pow_le_pow_right (by decide) hk : 2 ^ 32 ≤ 2 ^ k)
theorem Bd.of_lt {k : Nat} {x y : Int} (h0 : 0 ≤ x) (h1 : x ≤ y) (h : Bd k y) : Bd k x := by
  unfold Bd at *; omega
theorem Bd.mul {j k : Nat} {a b : Int} (h1 : Bd j a) (h2 : Bd k b) : Bd (j + k) (a * b) := by
  unfold Bd at *
  rw [Int.natAbs_mul, Nat.pow_add]
  exact Nat.mul_lt_mul'' h1 h2
theorem Bd.mul2 {k : Nat} {a b : Int} (h1 : Bd (k / 2) a) (h2 : Bd (k / 2) b) : Bd k (a * b) := (h1.mul h2).mono (by omega)
theorem Bd.mulS {k : Nat} {a b : Int} (h1 : Bd (k - 32) a) (h2 : Bd 32 b) (hk : 32 ≤ k) : Bd k (a * b) := (h1.mul h2).mono (by omega)
theorem Bd.add {k : Nat} {a b : Int} (h1 : Bd (k - 1) a) (h2 : Bd (k - 1) b) (hk : 0 < k) : Bd k (a + b) := by
  unfold Bd at *
  have e : k = (k - 1) + 1 := by omega
  rw [e, Nat.pow_succ]
  omega
theorem Bd.sub {k : Nat} {a b : Int} (h1 : Bd (k - 1) a) (h2 : Bd (k - 1) b) (hk : 0 < k) : Bd k (a - b) := by
  unfold Bd at *
  have e : k = (k - 1) + 1 := by omega
  rw [e, Nat.pow_succ]
  omega
theorem Bd.neg {k : Nat} {a : Int} (h1 : Bd k a) : Bd k (-a) := by
  unfold Bd at *; omega
theorem Bd.lt {k : Nat} {x : Int} (h : Bd k x) : x < 2 ^ k := by
  unfold Bd at h
  have h5 : ((2 : Nat) ^ k : Nat) = (2 : Int) ^ k := by simp
  omega
theorem Bd.of_nn {k : Nat} {x : Int} (h0 : 0 ≤ x) (h : x < 2 ^ k) : Bd k x := by
  unfold Bd
  have h5 : ((2 : Nat) ^ k : Nat) = (2 : Int) ^ k := by simp
  omega
noncomputable def GInv (T : Nat) (g : Nat) (i : Nat) (a b : Int) : Prop :=
  0 ≤ a ∧ 0 ≤ b ∧ Int.gcd a b = g ∧ (0 < i → b ≤ a) ∧ (a * b) * 2 ^ (i - 1) < 2 ^ (T - 1)
theorem fmod_nn {a b : Int} (hb : 0 < b) : 0 ≤ a.fmod b ∧ a.fmod b < b := by
  rw [Int.fmod_eq_emod_of_nonneg _ (Int.le_of_lt hb)]
  exact ⟨Int.emod_nonneg _ (by omega), Int.emod_lt_of_pos _ hb⟩
theorem gcd_fmod {a b : Int} (hb : 0 < b) : Int.gcd b (a.fmod b) = Int.gcd a b := by
  rw [Int.fmod_eq_emod_of_nonneg _ (Int.le_of_lt hb), Int.gcd_comm, Int.emod_def, Int.gcd_sub_mul_left_left]
theorem GInv.start {T : Nat} {a b : Int} (ha : 0 ≤ a) (hb : 0 ≤ b) (h : a * b < 2 ^ (T - 1)) : GInv T (Int.gcd a b) 0 a b :=
  ⟨ha, hb, rfl, fun h => absurd h (Nat.lt_irrefl _), by simpa using h⟩
theorem GInv.step {T g i : Nat} {a b : Int} (h : GInv T g i a b) (hb0 : b ≠ 0) : GInv T g (i + 1) b (a.fmod b) := by
  obtain ⟨ha, hb, hg, hle, hp⟩ := h
  have hb' : 0 < b := by omega
  obtain ⟨h1, h2⟩ := fmod_nn (a := a) hb'
  refine ⟨hb, h1, (gcd_fmod hb').trans hg, fun _ => Int.le_of_lt h2, ?_⟩
  rw [Nat.add_sub_cancel]
  by_cases hi : i = 0
  · subst hi
    simp only [Nat.zero_sub, Int.pow_zero, Int.mul_one] at hp ⊢
    refine Int.lt_of_le_of_lt ?_ hp
    rw [Int.mul_comm a b]
    refine Int.mul_le_mul_of_nonneg_left ?_ hb
    rw [Int.fmod_eq_emod_of_nonneg _ hb]
    have hq := Int.emod_add_mul_ediv a b
    have : 0 ≤ b * (a / b) := Int.mul_nonneg hb (Int.ediv_nonneg ha hb)
    omega
  · have hle' := hle (by omega)
    have e : i = (i - 1) + 1 := by omega
    have h3 : 2 * a.fmod b ≤ a := by
      rw [Int.fmod_eq_emod_of_nonneg _ hb]
      rw [Int.fmod_eq_emod_of_nonneg _ hb] at h2
      have hq := Int.emod_add_mul_ediv a b
      have hq1 : 1 ≤ a / b := by
        rw [Int.le_ediv_iff_mul_le hb']; omega
      have : b * 1 ≤ b * (a / b) := Int.mul_le_mul_of_nonneg_left hq1 hb
      omega
    have h4 : (b * a.fmod b) * 2 ≤ a * b := by
      have := Int.mul_le_mul_of_nonneg_left h3 hb
      rw [Int.mul_comm a b]
      calc (b * a.fmod b) * 2 = b * (2 * a.fmod b) := by rw [Int.mul_assoc, Int.mul_comm (a.fmod b)]
        _ ≤ b * a := this
    have h5 : (b * a.fmod b) * 2 ^ i = ((b * a.fmod b) * 2) * 2 ^ (i - 1) := by
      conv => lhs; rw [e]
      rw [Int.pow_succ]; simp only [Int.mul_assoc, Int.mul_comm]
    rw [h5]
    refine Int.lt_of_le_of_lt (Int.mul_le_mul_of_nonneg_right h4 ?_) hp
    exact Int.le_of_lt (Int.pow_pos (by decide))
theorem GInv.last {T g : Nat} {a b : Int} (hT : 0 < T) (h : GInv T g T a b) : b = 0 := by
  obtain ⟨ha, hb, hg, hle, hp⟩ := h
  have hle' := hle hT
  false_or_by_contra
  have h1 : 1 ≤ b := by omega
  have h2 : 1 ≤ a := by omega
  have h3 : 1 ≤ a * b := by
    have := Int.mul_le_mul h2 h1 (by decide) ha
    simpa using this
  have h4 : (2 : Int) ^ (T - 1) ≤ a * b * 2 ^ (T - 1) := by
    have := Int.mul_le_mul_of_nonneg_right (c := (2 : Int) ^ (T - 1)) h3 (Int.le_of_lt (Int.pow_pos (by decide)))
    simpa using this
  omega
theorem GInv.out {T g i : Nat} {a : Int} (h : GInv T g i a 0) : a = (g : Int) := by
  obtain ⟨ha, _, hg, _, _⟩ := h
  rw [Int.gcd_zero_right] at hg
  omega
theorem getD_all {l : List Int} {P : Int → Prop} (h : ∀ x ∈ l, P x) (h0 : P 0) (k : Nat) : P (l.getD k 0) := by
  rw [List.getD_eq_getElem?_getD]
  cases e : l[k]? with
  | none => exact h0
  | some x => exact h x (List.mem_of_getElem? e)
theorem pow_lt_pow {a : Int} {m n : Nat} (h1 : 1 ≤ a) (h : m ≤ n) : a ^ m ≤ a ^ n := by
  obtain ⟨k, rfl⟩ := Nat.exists_eq_add_of_le h
  rw [Int.pow_add]
  have h2 : 1 ≤ a ^ k := by
    have : 0 < a ^ k := Int.pow_pos (show 0 < a by omega)
    omega
  have h3 : 0 ≤ a ^ m := Int.le_of_lt (Int.pow_pos (show 0 < a by omega))
  have := Int.mul_le_mul_of_nonneg_left h2 h3
  omega
theorem number_pow {e r : Int} (h0 : 0 ≤ e) (h1 : e < 300) (h2 : 0 ≤ r) (h3 : r < 3) : 0 ≤ (2 : Int) ^ e.toNat + r - 1 ∧ Bd 300 ((2 : Int) ^ e.toNat + r - 1) := by
  have h4 : (2 : Int) ^ e.toNat ≤ 2 ^ 299 := pow_lt_pow (by decide) (by omega)
  have h5 : 0 < (2 : Int) ^ e.toNat := Int.pow_pos (by decide)
  have h6 : (2 : Int) ^ 299 + 2 < 2 ^ 300 := by decide
  exact ⟨by omega, Bd.of_nn (by omega) (by omega)⟩
theorem great_bd {r : Int} {k : Nat} (h0 : 0 ≤ r) (h : r < 1000003 ^ k) (hk : k ≤ 15) : Bd 300 r := by
  have h4 : (1000003 : Int) ^ k ≤ 1000003 ^ 15 := pow_lt_pow (by decide) hk
  have h6 : (1000003 : Int) ^ 15 < 2 ^ 300 := by decide
  exact Bd.of_nn h0 (by omega)
theorem GInv.startB {a b : Int} (ha : 0 ≤ a) (hb : 0 ≤ b) (h1 : Bd 990 a) (h2 : Bd 990 b) : GInv 2000 (Int.gcd a b) 0 a b :=
  GInv.start ha hb (((h1.mul h2).mono (by decide) : Bd 1999 (a * b)).lt)
theorem Bd.small' {k : Nat} {x : Int} (hk : 32 ≤ k) (h : x.natAbs < 4294967296) : Bd k x := Bd.small h hk
theorem Bd.mulS' {k : Nat} {a b : Int} (hk : 32 ≤ k) (h2 : Bd 32 b) (h1 : Bd (k - 32) a) : Bd k (a * b) := Bd.mulS h1 h2 hk
theorem Bd.add' {k : Nat} {a b : Int} (hk : 0 < k) (h1 : Bd (k - 1) a) (h2 : Bd (k - 1) b) : Bd k (a + b) := Bd.add h1 h2 hk
theorem Bd.sub' {k : Nat} {a b : Int} (hk : 0 < k) (h1 : Bd (k - 1) a) (h2 : Bd (k - 1) b) : Bd k (a - b) := Bd.sub h1 h2 hk
end Mine

namespace Mine
structure ERun (oa ob a b x lx y ly : Int) : Prop where
  a0 : 0 < a
  ba : b < a
  aob : a ≤ ob
  altx : (0 ≤ x ∧ lx ≤ 0 ∧ a * x - b * lx = ob) ∨ (x ≤ 0 ∧ 0 ≤ lx ∧ b * lx - a * x = ob)
  alty : 0 ≤ oa → (0 ≤ y ∧ ly ≤ 0 ∧ a * y - b * ly = oa) ∨ (y ≤ 0 ∧ 0 ≤ ly ∧ b * ly - a * y = oa)
  lx1 : -ob ≤ lx
  lx2 : lx ≤ ob
  ly1 : 0 ≤ oa → -oa ≤ ly
  ly2 : 0 ≤ oa → ly ≤ oa ∨ ly ≤ 1
  lx3 : 2 * lx ≤ ob
  lx4 : -ob ≤ 2 * lx
structure EInv (oa ob a b x lx y ly : Int) : Prop where
  hb : 0 ≤ b
  bz1 : lx * oa + ly * ob = a
  bz2 : x * oa + y * ob = b
  g : Int.gcd a b = Int.gcd oa ob
  st : (a = oa ∧ b = ob ∧ x = 0 ∧ lx = 1 ∧ y = 1 ∧ ly = 0) ∨ ERun oa ob a b x lx y ly
theorem EInv.start {oa ob : Int} (hb : 0 ≤ ob) : EInv oa ob oa ob 0 1 1 0 :=
  ⟨hb, by omega, by omega, rfl, .inl ⟨rfl, rfl, rfl, rfl, rfl, rfl⟩⟩
theorem fdiv_fmod (a b : Int) : b * a.fdiv b + a.fmod b = a := by
  have := Int.mul_fdiv_add_fmod a b
  omega
theorem mul_nn_le {a x o : Int} (ha : 0 < a) (hx : 0 ≤ x) (h : a * x ≤ o) : x ≤ o := by
  have : 1 * x ≤ a * x := Int.mul_le_mul_of_nonneg_right (by omega) hx
  omega
theorem EInv.step {oa ob a b x lx y ly : Int} (h : EInv oa ob a b x lx y ly) (h0 : b ≠ 0) :
    EInv oa ob b (a.fmod b) (lx - a.fdiv b * x) x (ly - a.fdiv b * y) y := by
  obtain ⟨hb, bz1, bz2, hg, st⟩ := h
  have hb0 : 0 < b := by omega
  have hm : 0 ≤ a.fmod b ∧ a.fmod b < b := by
    rw [Int.fmod_eq_emod_of_nonneg _ hb]
    exact ⟨Int.emod_nonneg _ h0, Int.emod_lt_of_pos _ hb0⟩
  have hq := fdiv_fmod a b
  generalize hQ : a.fdiv b = q at hq ⊢
  generalize hR : a.fmod b = r at hq hm ⊢
  have hgr : Int.gcd b r = Int.gcd oa ob := by
    rw [← hg, ← hq, Int.add_comm (b * q) r]
    rw [Int.gcd_comm b r, Int.gcd_add_mul_left_left]
  refine ⟨hm.1, bz2, ?_, hgr, .inr ?_⟩
  · have e1 : (lx - q * x) * oa + (ly - q * y) * ob = (lx * oa + ly * ob) - q * (x * oa + y * ob) := by
      simp only [Int.sub_mul, Int.mul_add, Int.mul_assoc]; omega
    rw [e1, bz1, bz2, Int.mul_comm q b]; omega
  · have expand : ∀ u v : Int, b * (u - q * v) - r * v = b * u - (b * q + r) * v := by
      intro u v
      simp only [Int.mul_sub, Int.add_mul, Int.mul_assoc]; omega
    rcases st with ⟨rfl, rfl, rfl, rfl, rfl, rfl⟩ | R
    · refine ⟨hb0, hm.2, Int.le_refl _, .inl ⟨by omega, by omega, by omega⟩, fun ho => .inr ?_, by omega, by omega, fun ho => by omega, fun _ => .inr (Int.le_refl _), by omega, by omega⟩
      have hq0 : 0 ≤ q := by
        rw [← hQ, Int.fdiv_eq_ediv_of_nonneg _ hb]
        exact Int.ediv_nonneg ho hb
      refine ⟨by omega, by omega, ?_⟩
      simp only [Int.mul_one, Int.zero_sub, Int.mul_neg]; omega
    · have hq1 : 1 ≤ q := by
        rw [← hQ, Int.fdiv_eq_ediv_of_nonneg _ hb, Int.le_ediv_iff_mul_le hb0]
        have := R.ba; omega
      have sgn : ∀ {u v : Int}, (0 ≤ u ∧ v ≤ 0) → v - q * u ≤ 0 := by
        rintro u v ⟨h1, h2⟩
        have : 0 ≤ q * u := Int.mul_nonneg (by omega) h1
        omega
      have sgn' : ∀ {u v : Int}, (u ≤ 0 ∧ 0 ≤ v) → 0 ≤ v - q * u := by
        rintro u v ⟨h1, h2⟩
        have : 0 ≤ q * (-u) := Int.mul_nonneg (by omega) (by omega)
        rw [Int.mul_neg] at this
        omega
      have bdx : -ob ≤ x ∧ x ≤ ob := by
        rcases R.altx with ⟨h1, h2, h3⟩ | ⟨h1, h2, h3⟩
        · have h4 : 0 ≤ b * (-lx) := Int.mul_nonneg hb (by omega)
          rw [Int.mul_neg] at h4
          have := mul_nn_le R.a0 h1 (o := ob) (by omega)
          omega
        · have h4 : 0 ≤ b * lx := Int.mul_nonneg hb h2
          have := mul_nn_le R.a0 (x := -x) (o := ob) (by omega) (by rw [Int.mul_neg]; omega)
          omega
      have bdy : 0 ≤ oa → -oa ≤ y ∧ y ≤ oa := by
        intro ho
        rcases R.alty ho with ⟨h1, h2, h3⟩ | ⟨h1, h2, h3⟩
        · have h4 : 0 ≤ b * (-ly) := Int.mul_nonneg hb (by omega)
          rw [Int.mul_neg] at h4
          have := mul_nn_le R.a0 h1 (o := oa) (by omega)
          omega
        · have h4 : 0 ≤ b * ly := Int.mul_nonneg hb h2
          have := mul_nn_le R.a0 (x := -y) (o := oa) (by omega) (by rw [Int.mul_neg]; omega)
          omega
      have := R.ba
      have := R.aob
      have two : ∀ z : Int, 0 ≤ z → a * z ≤ ob → 2 * z ≤ ob := fun z hz h => by
        have : 2 * z ≤ a * z := Int.mul_le_mul_of_nonneg_right (by omega) hz
        omega
      have b2x : 2 * x ≤ ob ∧ -ob ≤ 2 * x := by
        rcases R.altx with ⟨h1, h2, h3⟩ | ⟨h1, h2, h3⟩
        · have h4 : 0 ≤ b * (-lx) := Int.mul_nonneg hb (by omega)
          rw [Int.mul_neg] at h4
          have := two x h1 (by omega)
          omega
        · have h4 : 0 ≤ b * lx := Int.mul_nonneg hb h2
          have := two (-x) (by omega) (by rw [Int.mul_neg]; omega)
          omega
      refine ⟨hb0, hm.2, by omega, ?_, ?_, bdx.1, bdx.2, fun ho => (bdy ho).1, fun ho => .inl (bdy ho).2, b2x.1, b2x.2⟩
      · rcases R.altx with ⟨h1, h2, h3⟩ | ⟨h1, h2, h3⟩
        · refine .inr ⟨sgn ⟨h1, h2⟩, h1, ?_⟩
          have := expand lx x
          rw [hq] at this
          omega
        · refine .inl ⟨sgn' ⟨h1, h2⟩, h1, ?_⟩
          have := expand lx x
          rw [hq] at this
          omega
      · intro ho
        rcases R.alty ho with ⟨h1, h2, h3⟩ | ⟨h1, h2, h3⟩
        · refine .inr ⟨sgn ⟨h1, h2⟩, h1, ?_⟩
          have := expand ly y
          rw [hq] at this
          omega
        · refine .inl ⟨sgn' ⟨h1, h2⟩, h1, ?_⟩
          have := expand ly y
          rw [hq] at this
          omega
theorem natAbs_mul_lt {a b : Int} {M N : Nat} (h1 : a.natAbs < 2 ^ M) (h2 : b.natAbs < 2 ^ N) : (a * b).natAbs < 2 ^ (M + N) := by
  rw [Int.natAbs_mul, Nat.pow_add]
  exact Nat.mul_lt_mul'' h1 h2
theorem EInv.bd {oa ob a b x lx y ly : Int} {N : Nat} (h : EInv oa ob a b x lx y ly) (h1 : Bd N oa) (h2 : Bd N ob) (h0 : b ≠ 0) :
    (a.fdiv b).natAbs < 2 ^ (N + 1) ∧ x.natAbs < 2 ^ N ∧ y.natAbs < 2 ^ (N + N + 1) := by
  unfold Bd at h1 h2
  obtain ⟨hb, bz1, bz2, hg, st⟩ := h
  have hp : 0 < 2 ^ N := Nat.pow_pos (by decide)
  have ha : a.natAbs < 2 ^ N := by
    rcases st with ⟨rfl, _⟩ | R
    · exact h1
    · have := R.a0; have := R.aob; omega
  have hx : x.natAbs < 2 ^ N := by
    rcases st with ⟨_, _, rfl, _⟩ | R
    · simpa using hp
    · have ho : 0 < ob := by have := R.a0; have := R.aob; omega
      rcases R.altx with ⟨k1, k2, k3⟩ | ⟨k1, k2, k3⟩
      · have h4 : 0 ≤ b * (-lx) := Int.mul_nonneg hb (by omega)
        rw [Int.mul_neg] at h4
        have := mul_nn_le R.a0 k1 (o := ob) (by omega)
        omega
      · have h4 : 0 ≤ b * lx := Int.mul_nonneg hb k2
        have := mul_nn_le R.a0 (x := -x) (o := ob) (by omega) (by rw [Int.mul_neg]; omega)
        omega
  refine ⟨?_, hx, ?_⟩
  · have hq := fdiv_fmod a b
    have hm : 0 ≤ a.fmod b ∧ a.fmod b < b := by
      rw [Int.fmod_eq_emod_of_nonneg _ hb]
      exact ⟨Int.emod_nonneg _ h0, Int.emod_lt_of_pos _ (by omega)⟩
    generalize a.fdiv b = q at hq ⊢
    generalize a.fmod b = r at hq hm
    have hbl : b ≤ ob ∧ 0 < b := by
      rcases st with ⟨_, rfl, _⟩ | R
      · exact ⟨Int.le_refl _, by omega⟩
      · have := R.ba; have := R.aob; omega
    have e : (b * q).natAbs = b.natAbs * q.natAbs := Int.natAbs_mul ..
    have h5 : 1 * q.natAbs ≤ b.natAbs * q.natAbs := Nat.mul_le_mul_right _ (by omega)
    have h6 : (b * q).natAbs < 2 ^ N + 2 ^ N := by omega
    rw [Nat.pow_succ]; omega
  · have ho : 0 < ob ∨ ob = 0 := by
      rcases st with ⟨_, rfl, _⟩ | R
      · omega
      · have := R.a0; have := R.aob; omega
    rcases ho with ho | ho
    · have hbl : b ≤ ob := by
        rcases st with ⟨_, rfl, _⟩ | R
        · exact Int.le_refl _
        · have := R.ba; have := R.aob; omega
      have e : (y * ob).natAbs = y.natAbs * ob.natAbs := Int.natAbs_mul ..
      have h5 : y.natAbs * 1 ≤ y.natAbs * ob.natAbs := Nat.mul_le_mul_left _ (by omega)
      have h6 := natAbs_mul_lt hx h1
      have h7 : 2 ^ N ≤ 2 ^ (N + N) := Nat.pow_le_pow_right (by decide) (by omega)
      rw [Nat.pow_succ]
      omega
    · rcases st with ⟨_, rfl, _⟩ | R
      · exact absurd ho h0
      · have := R.a0; have := R.aob; omega
theorem EInv.bdb {oa ob a b x lx y ly : Int} {N : Nat} (h : EInv oa ob a b x lx y ly) (h2 : Bd N ob) : Bd N b := by
  unfold Bd at h2 ⊢
  obtain ⟨hb, bz1, bz2, hg, st⟩ := h
  rcases st with ⟨_, rfl, _⟩ | R
  · exact h2
  · have := R.ba; have := R.aob; omega
theorem EInv.lg {oa ob a b x lx y ly : Int} {N : Nat} (h : EInv oa ob a b x lx y ly) (h2 : Bd N ob) (hN : N ≤ 8000) : b.natAbs.log2 < 9000 :=
  log2_of (M := N + 1) (Nat.lt_trans (h.bdb h2) (by rw [Nat.pow_succ]; have : 0 < 2 ^ N := Nat.pow_pos (by decide); omega)) (by omega) (by omega)
theorem EInv.mul1 {oa ob a b x lx y ly : Int} {N : Nat} (h : EInv oa ob a b x lx y ly) (h1 : Bd N oa) (h2 : Bd N ob) (hN : N ≤ 1000000) (h0 : b ≠ 0) : IntMulOk (a.fdiv b) x :=
  mulOk _ _ (h.bd h1 h2 h0).1 (h.bd h1 h2 h0).2.1 (by omega)
theorem EInv.mul2 {oa ob a b x lx y ly : Int} {N : Nat} (h : EInv oa ob a b x lx y ly) (h1 : Bd N oa) (h2 : Bd N ob) (hN : N ≤ 1000000) (h0 : b ≠ 0) : IntMulOk (a.fdiv b) y :=
  mulOk _ _ (h.bd h1 h2 h0).1 (h.bd h1 h2 h0).2.2 (by omega)
theorem EInv.seven {a x lx y ly fx fy : Int} (h : EInv 7 4 a 0 x lx y ly) (hx : fx = if lx < 0 then lx + 4 else lx) (hy : fy = if ly < 0 then ly + 7 else ly) : (a == 1 && (fx == 3 && fy == 2)) = true := by
  obtain ⟨hb, bz1, bz2, hg, st⟩ := h
  have ha : a = 1 := by
    rw [Int.gcd_zero_right] at hg
    have e : Int.gcd 7 4 = 1 := by decide
    rw [e] at hg
    rcases st with ⟨h1, h2, _⟩ | R
    · omega
    · have := R.a0; omega
  rcases st with ⟨h1, h2, _⟩ | R
  · omega
  · have h1 := R.lx1
    have h2 := R.lx2
    have h3 : fx = 3 ∧ fy = 2 := by
      subst hx; subst hy
      split <;> split <;> omega
    rw [ha, h3.1, h3.2]; rfl
theorem EInv.gcdIs {oa ob a x lx y ly : Int} (h : EInv oa ob a 0 x lx y ly) (h1 : 0 ≤ oa ∨ 0 < ob) : a = (Int.gcd oa ob : Int) := by
  obtain ⟨hb, bz1, bz2, hg, st⟩ := h
  rw [Int.gcd_zero_right] at hg
  rcases st with ⟨k1, k2, _⟩ | R
  · omega
  · have := R.a0; omega
theorem EInv.fst {oa ob a x lx y ly fx : Int} (h : EInv oa ob a 0 x lx y ly) (hx : fx = if lx < 0 then lx + ob else lx) : 0 ≤ fx ∧ (fx ≤ ob ∨ fx ≤ 1) := by
  obtain ⟨hb, bz1, bz2, hg, st⟩ := h
  subst hx
  rcases st with ⟨k1, k2, k3, k4, k5, k6⟩ | R
  · split <;> omega
  · have h1 := R.lx1
    have h2 := R.lx2
    split <;> omega
theorem EInv.snd {oa ob a x lx y ly fy : Int} (h : EInv oa ob a 0 x lx y ly) (h0 : 0 ≤ oa) (hy : fy = if ly < 0 then ly + oa else ly) : 0 ≤ fy ∧ (fy ≤ oa ∨ fy ≤ 1) := by
  obtain ⟨hb, bz1, bz2, hg, st⟩ := h
  subst hy
  rcases st with ⟨k1, k2, k3, k4, k5, k6⟩ | R
  · split <;> omega
  · have h1 := R.ly1 h0
    have h2 := R.ly2 h0
    split <;> omega
theorem EInv.sum {oa ob a x lx y ly fx fy : Int} (h : EInv oa ob a 0 x lx y ly) (h0 : 0 ≤ oa) (h1 : 0 ≤ ob) (hx : fx = if lx < 0 then lx + ob else lx) (hy : fy = if ly < 0 then ly + oa else ly) :
    fx * oa + fy * ob = a ∨ fx * oa + fy * ob = a + oa * ob := by
  have ha := h.gcdIs (.inl h0)
  obtain ⟨hb, bz1, bz2, hg, st⟩ := h
  subst hx; subst hy
  have e := Int.mul_comm oa ob
  split
  · split
    · rename_i k1 k2
      have : lx * oa ≤ 0 := Int.mul_nonpos_of_nonpos_of_nonneg (by omega) h0
      have h5 : ly * ob ≤ 0 := Int.mul_nonpos_of_nonpos_of_nonneg (by omega) h1
      have : 0 ≤ a := by omega
      have e1 : (lx + ob) * oa = lx * oa + ob * oa := Int.add_mul ..
      have e2 : (ly + oa) * ob = ly * ob + oa * ob := Int.add_mul ..
      have e3 : oa * ob = 0 ∨ 0 < oa * ob := by
        have := Int.mul_nonneg h0 h1; omega
      rcases e3 with e3 | e3
      · omega
      · have o1 : 0 < oa := by
          rcases Int.lt_or_eq_of_le h0 with q | q
          · exact q
          · rw [← q] at e3; simp at e3
        have : lx * oa < 0 := Int.mul_neg_of_neg_of_pos (by omega) o1
        omega
    · have e1 : (lx + ob) * oa = lx * oa + ob * oa := Int.add_mul ..
      right; omega
  · split
    · have e2 : (ly + oa) * ob = ly * ob + oa * ob := Int.add_mul ..
      right; omega
    · left; omega
theorem mul_nn0 {a b : Int} (h1 : 0 ≤ a) (h2 : 0 ≤ b) : 0 ≤ a * b := Int.mul_nonneg h1 h2
theorem mulOkB {a b : Int} (M N : Nat) (ha : Bd M a) (hb : Bd N b) (h : M + N ≤ 134217728) : IntMulOk a b := mulOk M N ha hb h
theorem EInv.facts {oa ob a x lx y ly fx fy : Int} (h : EInv oa ob a 0 x lx y ly) (h0 : 0 ≤ oa) (h1 : 0 ≤ ob) (b1 : Bd 490 oa) (b2 : Bd 490 ob) (hx : fx = if lx < 0 then lx + ob else lx) (hy : fy = if ly < 0 then ly + oa else ly) :
    a = (Int.gcd oa ob : Int) ∧ 0 ≤ fx ∧ (fx ≤ ob ∨ fx ≤ 1) ∧ 0 ≤ fy ∧ (fy ≤ oa ∨ fy ≤ 1) ∧ IntMulOk fx oa ∧ IntMulOk fy ob ∧ IntMulOk oa ob ∧ (fx * oa + fy * ob = a ∨ fx * oa + fy * ob = a + oa * ob) := by
  have p1 := h.fst hx
  have p2 := h.snd h0 hy
  have q1 : Bd 490 fx := by
    rcases p1.2 with q | q
    · exact .of_lt p1.1 q b2
    · exact .small (by omega) (by decide)
  have q2 : Bd 490 fy := by
    rcases p2.2 with q | q
    · exact .of_lt p2.1 q b1
    · exact .small (by omega) (by decide)
  exact ⟨h.gcdIs (.inl h0), p1.1, p1.2, p2.1, p2.2, mulOkB _ _ q1 b1 (by decide), mulOkB _ _ q2 b2 (by decide), mulOkB _ _ b1 b2 (by decide), h.sum h0 h1 hx hy⟩
theorem EInv.facts_k {P : Prop} {oa ob a x lx y ly fx fy : Int} (h : EInv oa ob a 0 x lx y ly) (h0 : 0 ≤ oa) (h1 : 0 ≤ ob) (b1 : Bd 490 oa) (b2 : Bd 490 ob) (hx : fx = if lx < 0 then lx + ob else lx) (hy : fy = if ly < 0 then ly + oa else ly)
    (k : a = (Int.gcd oa ob : Int) → 0 ≤ fx → (fx ≤ ob ∨ fx ≤ 1) → 0 ≤ fy → (fy ≤ oa ∨ fy ≤ 1) → IntMulOk fx oa → IntMulOk fy ob → IntMulOk oa ob → (fx * oa + fy * ob = a ∨ fx * oa + fy * ob = a + oa * ob) → P) : P :=
  have f := h.facts h0 h1 b1 b2 hx hy
  k f.1 f.2.1 f.2.2.1 f.2.2.2.1 f.2.2.2.2.1 f.2.2.2.2.2.1 f.2.2.2.2.2.2.1 f.2.2.2.2.2.2.2.1 f.2.2.2.2.2.2.2.2
theorem Bd.lg {k : Nat} {x : Int} (h : Bd k x) (hk : k < 9000) : x.natAbs.log2 < 9000 :=
  log2_of (M := k + 1) (h.mono (Nat.le_succ k)) (by omega) (by omega)
theorem EInv.inv1 {oa ob a x lx y ly fx : Int} (h : EInv oa ob a 0 x lx y ly) (hb : 0 < ob) (h1 : a = 1) (hx : fx = if lx < 0 then lx + ob else lx) : 0 ≤ fx ∧ fx < ob ∧ ob ∣ fx * oa - 1 := by
  obtain ⟨hb0, bz1, bz2, hg, st⟩ := h
  have hd : ob ∣ fx * oa - 1 := by
    subst hx
    split
    · exact ⟨oa - ly, by grind⟩
    · exact ⟨-ly, by grind⟩
  rcases st with ⟨k1, k2, _⟩ | R
  · omega
  · have l1 := R.lx3
    have l2 := R.lx4
    subst hx
    refine ⟨?_, ?_, hd⟩
    · split <;> omega
    · split <;> omega
end Mine

namespace Mine
theorem code_defCR {prog : Program} {w : World} {A₀ A : Around} {s : Shared} {K : Frag} {L : Addr} {h₀ base : Heap} {m mg mb : Str → Option Value} {news : List (Addr × Obj)} {p : Program} {loose : List Str} {mean : ExcName → Option Value}
    {env : Env} {outer : List Env} {R : Result → Shared → Prop} {name qual : Str} {params : Arguments} {body : List Stmt} {scope : Scope} {dV kV doc pm cdv ct oc : Value} {an od : Option Addr} {osl : Array (Option Value)} {f : Addr} {args : Args} {binds : List (Str × Value)}
    (B : Below A₀ base outer h₀) (F : Fr h₀ L s.heap m) (X₀ : K.In h₀) (N : News h₀ L s.heap news) (T : Top p loose mean mg mb h₀) (hA : A.frames = some (env :: outer)) (hf : env.frame = some L) (hke : env.scope.kind = .function)
    (ho : K.lookup f = some ⟨oc, od, .func (fnOf name qual params body scope dV kV doc pm an cdv ct), osl⟩) (hcd : codeIn K cdv qual = true) (hroom : A.depth < recursionLimit)
    (hbind : BindsTo s (fnOf name qual params body scope dV kV doc pm an cdv ct) args binds) (hkind : (binds.all fun y => scope.names.lookup y.1 == some .local || scope.names.lookup y.1 == some .cell) = true)
    (hnd : ((cellsFrom 0 scope.names []).map (·.1)).Nodup)
    (h : ∀ g L' h₁ tk cells, Fr h₀ L g m → Fr g L' h₁ (bindL (envOfC qual scope L' f cdv).kindOf binds fun _ => none) → News g L' h₁ (cells ++ news) →
      CellsAre (bindC (envOfC qual scope L' f cdv).kindOf binds fun _ => none) (cellsFrom (L' + 1) scope.names []) cells → Below A base (env :: outer) g → K.In g → Top p loose mean mg mb g →
      (∀ b o, s.heap.get? b = some o → b ∉ news.map (·.1) → g.get? b = some o) → (∀ b o, s.heap.get? b = some o → b < L') →
      wpAny (model prog w) (A.deeper (envOfC qual scope L' f cdv)) (execs body (envOfC qual scope L' f cdv))
        (fun fl s' => LeaveK h₀ L m g R (match fl with | .ret v => v | _ => .none) s')
        (fun e s' => wpAny (model prog w) (A.deeper (envOfC qual scope L' f cdv)) (leaving (envOfC qual scope L' f cdv) e) (fun _ s'' => R (.error e) s'') (fun e' s'' => R (.error e') s'') s')
        { s with heap := h₁, toks := tk })
    (hco : scope.isCoroutine = false) (hgen : scope.isGenerator = false) (hk : scope.kind = .function) : codeAny (model prog w) A (.call (.ref f) args) R s := by
  obtain ⟨FG, BG, st, lv⟩ := groundX (R := R) B F N hA hf hke
  refine codeAny_call_function hroom ((X₀.keeps F.keep) _ _ ho) rfl hco hgen rfl (codeRec_of (X₀.keeps F.keep) hcd) (hbind _ _ _ _ ?_)
  refine wpAny_newFunctionEnv_cells hk (kindsX hkind _) fun env' he s' x => ?_
  subst he
  refine ⟨(T.nolimit.keeps F.keep).keeps x.toInCall.keep, codeAny_func ?_⟩
  obtain ⟨h₁, tk, rfl, _⟩ := x.done
  have hk₁ := x.toInCall.keep
  obtain ⟨cells, NC, Y⟩ := Cl.news (h₀ := s.heap) (Nat.le_refl _) fun n c hm => ⟨x.cell n c (lookup_of_mem_nodup (cellsFrom_names scope.names 0 (s.heap.objs.size + 1) [] [] rfl ▸ hnd) hm), x.above n c hm⟩
  refine wpAny_mono (h _ s.heap.objs.size h₁ tk cells FG ⟨x.toInCall.ns, fun b o e => hk₁ b o (of_hideAll _ e), Nat.le_of_eq (hideAll_size _ _)⟩ (fun p hp => ?_) Y BG (X₀.keeps st) (T.keeps st) (fun b o e hb => hideAll_get _ e hb) (fun b o e => Heap.lt_size e)) (fun fl s' hl => lv _ _ hl) fun _ _ y => y
  rcases List.mem_append.mp hp with hp | hp
  · refine ⟨(NC p hp).1, (NC p hp).2.1, ?_⟩
    cases q : (hideAll s.heap (news.map (·.1))).get? p.1 with
    | none => rfl
    | some o => have := of_hideAll _ q; rw [(NC p hp).2.2] at this; cases this
  · exact ⟨hk₁ _ _ (N p hp).1, Nat.ne_of_lt (Heap.lt_size (N p hp).1), hideAll_none _ (List.mem_map_of_mem hp)⟩

section
variable {prog : Program} {w : World} {A : Around} {E : Value → Shared → Prop} {s : Shared} {env : Env} {h₀ : Heap} {target : Expr} {body : List Stmt} {Q : Flow → Shared → Prop}
theorem loop_invT {I : Addr} {fp wr : List Addr} {n : Nat} {P : Nat → Value → Prop} {St : Nat → Heap → Prop} {m₀ : Str → Option Value} {news : List (Addr × Obj)} (J : Nat → (Str → Option Value) → List (Addr × Obj) → Prop)
    (W : Walks prog w A I fp wr n P St) (hgo : ∀ i v (s : Shared) (Q : Unit → Shared → Prop) (E : Value → Shared → Prop), St i s.heap → Q () s → wpAny (model prog w) A (letOwnedTupleGo target (.ref I) v) Q E s)
    (hLf : env.locals ∉ fp) (hwr : ∀ b ∈ wr, h₀.get? b = none) (hnw : ∀ p ∈ news, p.1 ∉ wr) (hfp : ∀ q ∈ news, q.1 ∉ fp) (hst : St 0 s.heap) (F : Fr h₀ env.locals s.heap m₀) (N : News h₀ env.locals s.heap news) (hj : J 0 m₀ news)
    (turn : ∀ i v m₁ news₁ h tk own, i < n → P i v → news₁.map (·.1) = news.map (·.1) → OwnOff own (news.map (·.1)) → J i m₁ news₁ → Fr h₀ env.locals h m₁ → News h₀ env.locals h (news₁ ++ own) →
      wpAny (model prog w) A (assign target env v) (fun _ s₃ => wpAny (model prog w) A (execs body env) (InvPostN h₀ env.locals (J (i + 1)) own (news.map (·.1)) { s with heap := h, toks := tk } Q) E s₃) E { s with heap := h, toks := tk })
    (done : ∀ m₁ news₁ h tk, J n m₁ news₁ → Fr h₀ env.locals h m₁ → News h₀ env.locals h news₁ → Q .next { s with heap := h, toks := tk }) :
    TurnsAt prog w A h₀ env target body Q E (.ref I) s := by
  let J' : Nat → (Str → Option Value) → List (Addr × Obj) → Prop := fun i m₁ news₁ => news₁.map (·.1) = news.map (·.1) ∧ J i m₁ news₁
  refine ⟨I, fp, wr, n, _, _, St, m₀, news, J', rfl, KTurns.ofWalks W hgo, hLf, hwr, hnw, hst, F, N, ⟨rfl, hj⟩, ?_, ?_⟩
  · rintro i v m₁ news₁ hh' tk' own hin hP ⟨hadr, hJ⟩ hoff hown _ _ _ F₁ N₁
    have hsep : OwnOff own (news.map (·.1)) := by
      intro p hp b hb e
      obtain ⟨q, hq, rfl⟩ := List.mem_map.mp hb
      exact hfp q hq (e ▸ hown p hp)
    have N₂ : News h₀ env.locals hh' (news₁ ++ own) := fun p hp => N₁ p ((List.mem_append.mp hp).elim (fun h => List.mem_append.mpr (.inr h)) fun h => List.mem_append.mpr (.inl h))
    refine wpAny_mono (turn i v m₁ news₁ hh' tk' own hin hP hadr hsep hJ F₁ N₂) (fun _ s₃ p => wpAny_mono p (fun f s₂ p => ?_) fun _ _ e => e) fun _ _ e => e
    have fin : InvEndN h₀ env.locals (J (i + 1)) own (news.map (·.1)) { s with heap := hh', toks := tk' } s₂ → LoopStepU h₀ env.locals wr own (J' (i + 1)) { s with heap := hh', toks := tk' } .next s₂ := by
      rintro ⟨h', tk, m', news', nx, e, F', N', hn, ho, ha, hm⟩
      refine ⟨rfl, h', tk, m', nx, e, F', fun p hp => N' p ((List.mem_append.mp hp).elim (ho p) (hn p)), fun p hp hq => ?_, ha, hm⟩
      have h1 : p.1 ∈ nx.map (·.1) := List.mem_map.mpr ⟨p, hp, rfl⟩
      rw [ha, ← hadr] at h1
      obtain ⟨q, hq1, hq2⟩ := List.mem_map.mp h1
      exact hoff q hq1 (by rw [hq2]; exact hq)
    cases f with
    | ret v => exact .ret p
    | brk => exact .brk p
    | next => exact .next (fin p)
    | cont => exact .cont (fin p)
  · rintro h' tk m' news' F' N' _ ⟨_, hJ⟩
    exact done m' news' h' tk hJ F' N'

noncomputable def TurnS {σ : Type} (Led : σ → List (Addr × Obj)) (ps : σ → List (Str × Value)) (stored : List Str) (m₀ : Str → Option Value) (P : σ → Prop) (m : Str → Option Value) (nx : List (Addr × Obj)) : Prop :=
  ∃ c : σ, nx = Led c ∧ (∀ p ∈ ps c, m p.1 = some p.2) ∧ (∀ z, (∀ p ∈ ps c, z ≠ p.1) → stored.contains z = false → m z = m₀ z) ∧ P c
theorem m_rangeT {σ : Type} {r : Addr} {a₀ b₀ : Int} {t₀ u₀ v₀ : Tok} {n : Nat} {m₀ : Str → Option Value} {news : List (Addr × Obj)} (Led : σ → List (Addr × Obj)) (ps : σ → List (Str × Value)) (stored : List Str) (P : Nat → σ → Prop) (c₀ : σ)
    (hh : A.handled = none) (hr : IsRange s.heap r a₀ b₀ 1 t₀ u₀ v₀) (hsmall : Builtin.Range.small a₀ b₀ 1 = true) (hn : Builtin.Range.rangeSize a₀ b₀ 1 = (n : Int)) (F : Fr h₀ env.locals s.heap m₀) (N : News h₀ env.locals s.heap news) (hL : ∀ p ∈ Led c₀, p ∈ news)
    (hk : ∀ p ∈ ps c₀, m₀ p.1 = some p.2) (hp : P 0 c₀)
    (hgo : ∀ v (s : Shared) (Q : Unit → Shared → Prop) (E : Value → Shared → Prop), ∀ I, Q () s → wpAny (model prog w) A (letOwnedTupleGo target (.ref I) v) Q E s)
    (turn : ∀ (c : σ) (i : Nat) (k : Int) t (u : Str → Option Value) h tk own, k = a₀ + (i : Int) → i < n → OwnOff own ((Led c₀).map (·.1)) → P i c →
      Fr h₀ env.locals h (kstB (fun z => if stored.contains z then u z else m₀ z) (ps c)) → News h₀ env.locals h (Led c ++ own) →
      wpAny (model prog w) A (assign target env (.int k t)) (fun _ s₃ => wpAny (model prog w) A (execs body env) (InvPostN h₀ env.locals (TurnS Led ps stored m₀ (P (i + 1))) own ((Led c₀).map (·.1)) { s with heap := h, toks := tk } Q) E s₃) E { s with heap := h, toks := tk })
    (done : ∀ (c : σ) (u : Str → Option Value) h tk, P n c → Fr h₀ env.locals h (kstB (fun z => if stored.contains z then u z else m₀ z) (ps c)) → News h₀ env.locals h (Led c) → Q .next { s with heap := h, toks := tk }) :
    wpAny (model prog w) A (pyIter (.ref r)) (fun it s₂ => TurnsAt prog w A h₀ env target body Q E it s₂) E s := by
  have N0 : News h₀ env.locals s.heap (Led c₀) := fun p hp => N p (hL p hp)
  refine wpAny_pyIter_range hr hsmall ?_
  have W : Walks prog w A s.heap.objs.size [s.heap.objs.size] [s.heap.objs.size] n (fun i v => i < n ∧ ∃ t, v = .int (a₀ + i * 1) t)
      (fun i h => IsRangeIter h s.heap.objs.size (a₀ + (i : Nat) * 1) ((n : Int) - (i : Nat)) 1) := (Walks.range hh _ a₀ 1 n).bound
  refine loop_invT (fun i m nx => TurnS Led ps stored m₀ (P i) m nx) W (fun i v s Q E _ q => hgo v s Q E _ q) ?_ ?_ ?_ ?_ (by show IsRangeIter _ _ _ _ _; rw [hn]; simpa using Heap.get?_push_size _ rfl) (F.push _) (fun p hp => ⟨Heap.get?_push_of_some _ (N0 p hp).1, (N0 p hp).2⟩) ⟨c₀, rfl, hk, fun _ _ _ => rfl, hp⟩ ?_ ?_
  · intro hm
    exact absurd F.ns.lt ((List.mem_singleton.mp hm) ▸ Nat.lt_irrefl _)
  · intro b hb
    rw [List.mem_singleton.mp hb]
    exact next_is_new F
  · intro p hp hI
    exact absurd (Heap.lt_size (N0 p hp).1) ((List.mem_singleton.mp hI) ▸ Nat.lt_irrefl _)
  · intro p hp hI
    exact absurd (Heap.lt_size (N0 p hp).1) ((List.mem_singleton.mp hI) ▸ Nat.lt_irrefl _)
  · rintro i v m₁ nx h tk own hi ⟨_, t, rfl⟩ _ hoff ⟨c, rfl, h1, h2, hp'⟩ F₁ N₁
    have e1 : a₀ + (i : Int) * 1 = a₀ + (i : Int) := by omega
    rw [e1]
    exact turn c i _ t m₁ h tk own rfl hi hoff hp' (ksw_fr h1 h2 F₁) N₁
  · rintro m₁ nx h tk ⟨c, rfl, h1, h2, hp'⟩ F₁ N₁
    exact done c m₁ h tk hp' (ksw_fr h1 h2 F₁) N₁
theorem m_endT {σ : Type} {L : Addr} {Led : σ → List (Addr × Obj)} {ps : σ → List (Str × Value)} {stored : List Str} {m₀ : Str → Option Value} {P : σ → Prop} (c : σ) {m' : Str → Option Value} {own news' : List (Addr × Obj)} {adr : List Addr} {s₁ : Shared} {h' : Heap} {tk : Nat}
    (F : Fr h₀ L h' m') (N : News h₀ L h' news') (hn : ∀ p ∈ Led c, p ∈ news') (ho : ∀ p ∈ own, p ∈ news') (ha : (Led c).map (·.1) = adr) (hk : ∀ p ∈ ps c, m' p.1 = some p.2) (hr : ∀ z, (∀ p ∈ ps c, z ≠ p.1) → stored.contains z = false → m' z = m₀ z) (hp : P c) :
    InvEndN h₀ L (TurnS Led ps stored m₀ P) own adr s₁ { s₁ with heap := h', toks := tk } :=
  InvEndN.intro F N ⟨c, rfl, hk, hr, hp⟩ ha hn ho
end
section
 open PyProof.Rows.LCg PyProof.Rows.LCt
variable {prog : Program} {w : World} {A : Around} {s : Shared} {h₀ : Heap} {L : Addr} {m : Str → Option Value} {env : Env}
theorem compEnd_mono {s₁ s₂ : Shared} {I C D : Addr} {oI oC oD : Obj} {S : List (Addr × Obj) → Prop} {r r' : Value → List (Addr × Obj) → Prop} {y : Value} (h : CompEnd h₀ L m s₁ I oI C oC D oD S r y s₂) (k : ∀ n, r y n → r' y n) : CompEnd h₀ L m s₁ I oI C oC D oD S r' y s₂ := by
  obtain ⟨h', tk, n', a, b, c, d, e, f⟩ := h
  exact ⟨h', tk, n', a, b, c, d, e, k _ f⟩
theorem compT_ind {ct elt : Expr} {x : Str} {scope : Scope} {cl : List (Str × Addr)} {S : List (Addr × Obj) → Prop} {P : Nat → Value → Prop} {Fin : List Value → List (Addr × Obj) → Prop} {news : List (Addr × Obj)} {n : Nat} (J : Nat → List Value → Prop) (h0 : J 0 [])
    (turn : ∀ i ys (R' : List Value → Prop), i < n → J i ys → (∀ ys', J (i + 1) ys' → R' ys') → ∀ v I oI C oC D m₂ h tk (E' : Value → Shared → Prop), P i v → NsObj oC m₂ → m₂ x = some v → Fr h₀ L h m → News h₀ L h ((I, oI) :: (C, oC) :: (D, lst ys) :: news) → Off3 I C D news → ((@Ne Nat I C) ∧ (@Ne Nat I D) ∧ (@Ne Nat C D)) →
      wpAny (model prog w) A (isTrue ct (compEnvC scope cl C env) (eval ct (compEnvC scope cl C env))) (fun ok s' => if ok = true then
        wpAny (model prog w) A (eval elt (compEnvC scope cl C env)) (CompEnd h₀ L m { s with heap := h, toks := tk } I oI C oC D (lst ys) S (fun y news' => news' = news ∧ R' (ys ++ [y]))) E' s'
        else CompEnd h₀ L m { s with heap := h, toks := tk } I oI C oC D (lst ys) S (fun _ news' => news' = news ∧ R' ys) Value.none s') E' { s with heap := h, toks := tk })
    (fin : ∀ ys, J n ys → Fin ys news) : CompRestT prog w A h₀ L m env ct elt x scope cl s S P Fin n 0 [] news := by
  have key : ∀ k i ys, i + k = n → J i ys → CompRestT prog w A h₀ L m env ct elt x scope cl s S P Fin k i ys news := by
    intro k
    induction k with
    | zero => intro i ys hi hj; exact .zero (fin ys (by simpa using hi ▸ hj))
    | succ k ih =>
      intro i ys hi hj
      refine .succ fun v I oI C oC D m₂ h tk E' a b c d e f g => ?_
      refine wpAny_mono (turn i ys (fun ys' => CompRestT prog w A h₀ L m env ct elt x scope cl s S P Fin k (i + 1) ys' news) (by omega) hj (fun ys' hy => ih _ _ (by omega) hy) v I oI C oC D m₂ h tk E' a b c d e f g) (fun ok s' hq => ?_) fun _ _ z => z
      cases ok with
      | true =>
        simp only [if_true] at hq ⊢
        exact wpAny_mono hq (fun y s'' z => compEnd_mono z fun _ q => q.1 ▸ q.2) fun _ _ z => z
      | false =>
        simp only [Bool.false_eq_true, if_false] at hq ⊢
        exact compEnd_mono hq fun _ q => q.1 ▸ q.2
  exact key n 0 [] (by omega) h0
end
theorem tsB_ex : ∃ f : Int → Nat → List Bool, (∀ n, f n 0 = []) ∧ ∀ (n : Int) (i : Nat), f n (i + 1) = f n i ++ (if (2 + (i : Int)) * (2 + (i : Int)) ≤ n then [decide (n.fmod (2 + (i : Int)) > 0)] else []) :=
  ⟨fun n k => Nat.rec [] (fun (i : Nat) (l : List Bool) => l ++ (if (2 + (i : Int)) * (2 + (i : Int)) ≤ n then [decide (n.fmod (2 + (i : Int)) > 0)] else [])) k, fun _ => rfl, fun _ _ => rfl⟩
noncomputable def tsB : Int → Nat → List Bool := Classical.choose tsB_ex
theorem tsB_zero (n : Int) : tsB n 0 = [] := (Classical.choose_spec tsB_ex).1 n
theorem tsB_succ (n : Int) (i : Nat) : tsB n (i + 1) = tsB n i ++ (if (2 + (i : Int)) * (2 + (i : Int)) ≤ n then [decide (n.fmod (2 + (i : Int)) > 0)] else []) := (Classical.choose_spec tsB_ex).2 n i
theorem tsB_nil {n : Int} : LSm.BoolsAre [] (tsB n 0) := by rw [tsB_zero]; exact .nil
theorem tsB_all {n : Int} : ∀ {k : Nat}, (tsB n k).all id = true → ∀ i : Nat, i < k → (2 + (i : Int)) * (2 + (i : Int)) ≤ n → n.fmod (2 + (i : Int)) > 0
  | 0, _, i, hi, _ => absurd hi (Nat.not_lt_zero _)
  | k + 1, h, i, hi, hle => by
    rw [tsB_succ] at h
    rw [List.all_append, Bool.and_eq_true] at h
    by_cases q : i = k
    · subst q
      rw [if_pos hle] at h
      simpa using h.2
    · exact tsB_all h.1 i (by omega) hle
theorem tsB_yes {ys : List Value} {n : Int} {i : Nat} {b : Bool} (h : LSm.BoolsAre ys (tsB n i)) (hp : (2 + (i : Int)) * (2 + (i : Int)) ≤ n) (hb : b = decide (n.fmod (2 + (i : Int)) > 0)) : LSm.BoolsAre (ys ++ [.bool b]) (tsB n (i + 1)) := by
  rw [tsB_succ]
  rw [if_pos hp, ← hb]
  exact kbo_app h (.cons _ .nil)
theorem tsB_no {ys : List Value} {n : Int} {i : Nat} (h : LSm.BoolsAre ys (tsB n i)) (hp : ¬ (2 + (i : Int)) * (2 + (i : Int)) ≤ n) : LSm.BoolsAre ys (tsB n (i + 1)) := by
  rw [tsB_succ]
  rw [if_neg hp, List.append_nil]
  exact h
end Mine

namespace Mine
noncomputable def Fly (B : Heap) (l : List Env) (e : Addr) (cls : Value) (dd : Option Addr) (fl : Value) (h : Heap) : Prop :=
  B.StaysIn h ∧ B.get? e = none ∧ h.FunFrames B l ∧ ∃ oe vs T oT ts, h.get? e = some oe ∧ oe.cls = cls ∧ oe.dict = dd ∧ oe.data = .fields vs ∧ vs[1]? = some (.ref T) ∧ B.get? T = none ∧ T ≠ e ∧ h.get? T = some oT ∧ oT.data = .fields ts ∧ ts[3]? = some fl
theorem dict_mapFields (o : Obj) (f) : (o.mapFields f).dict = o.dict := by
  unfold Obj.mapFields; split <;> rfl
theorem Fly.weak {base B h : Heap} {l : List Env} {e : Addr} {cls fl : Value} {dd : Option Addr} (k : base.StaysIn B) (x : Fly B l e cls dd fl h) : Fly base l e cls dd fl h := by
  obtain ⟨f1, f2, f3, oe, vs, T, oT, ts, a1, a2, a3, a4, a5, a6, a7, a8⟩ := x
  exact ⟨fun b o q => f1 b o (k b o q), fresh_of_stays k f2, funFrames_base k f3, oe, vs, T, oT, ts, a1, a2, a3, a4, a5, fresh_of_stays k a6, a7, a8⟩
theorem Fly.tail {B h : Heap} {env : Env} {l : List Env} {e : Addr} {cls fl : Value} {dd : Option Addr} (x : Fly B (env :: l) e cls dd fl h) : Fly B l e cls dd fl h := by
  obtain ⟨f1, f2, ⟨_, _, f3⟩, r⟩ := x
  exact ⟨f1, f2, f3, r⟩
theorem Fly.there {B h : Heap} {l : List Env} {e : Addr} {cls fl : Value} {dd : Option Addr} (x : Fly B l e cls dd fl h) : ∃ ob, h.get? e = some ob ∧ ob.cls = cls := by
  obtain ⟨_, _, _, oe, _, _, _, _, a1, a2, _⟩ := x
  exact ⟨oe, a1, a2⟩
section
variable {M : Model} {A : Around} {E : Value → Shared → Prop} {s : Shared} {B : Heap} {env : Env} {outer l : List Env} {L e : Addr} {cls fl : Value} {dd : Option Addr}
theorem upd_other {h : Heap} {T : Addr} {oT : Obj} {ts : Array Value} (hT : h.get? T = some oT) (hd : oT.data = .fields ts) (f : Obj → Obj) :
    (∀ b, b ≠ T → (h.update T f).get? b = h.get? b) ∧ ∀ b o, h.get? b = some o → (∀ vs, o.data ≠ .fields vs) → b ≠ T :=
  ⟨fun _ hb => Heap.get?_update_other _ _ (Ne.symm hb), fun b o hb hn q => by subst q; rw [hT] at hb; cases hb; exact hn ts hd⟩
theorem fly_entry {oe : Obj} {vs : Array Value} {head : Value} {hadNext : Bool} {Q : Unit → Shared → Prop}
    (hfr : A.frames = some (env :: outer)) (hl : s.heap.FunFrames B (env :: outer)) (hf : env.frame = some L)
    (he : s.heap.get? e = some oe) (hkb : B.StaysIn s.heap) (hen : B.get? e = none) (hd : oe.data = .fields vs) (hsz : 1 < vs.size)
    (h : ∀ h', Fly B (env :: outer) e oe.cls oe.dict (rawInt L) h' → s.heap.UpToSlots h' → Q () { s with heap := h' }) :
    wpAny M A (do let a ← frameOf env; let pl ← entryPlaceOf L hadNext; let b ← EntryCells.newEntry head a .none (rawInt L) .none pl; setField (.ref e) 1 b) Q E s := by
  have hene : e ∉ (env :: outer).filterMap (·.frame) := fun hm => by
    obtain ⟨_, o, ho, hnf⟩ := hl.mem hm
    rw [he] at ho; cases ho; exact hnf vs hd
  refine wpAny_bind (wpAny_frameOf_fun hfr hl hf fun h₁ S => ?_)
  refine wpAny_bind (wpAny_entryPlaceOf fun pl hpl => ?_)
  unfold EntryCells.newEntry newFields
  refine wpAny_bind (wpAny_newObj_type ?_ (hpl.sizeOk5 _ _ _ _ _))
  generalize hts : ([head, Value.ref L, Value.none, rawInt L, Value.none] ++ (if pl.isEmpty then List.replicate 6 Value.none else pl)).toArray = ts
  have h3 : ts[3]? = some (rawInt L) := by rw [← hts]; simp
  have he₁ := (S.2.1 e hene).trans he
  have kb₁ : B.StaysIn h₁ := fun b o hb => (S.2.1 b fun hm => by rw [(hl.mem hm).1] at hb; cases hb).trans (hkb b o hb)
  have hlt := Heap.lt_size he₁
  have he₂ := Heap.get?_push_of_some (h := h₁) { cls := .type "traceback", dict := none, data := .fields ts } he₁
  obtain ⟨O, NR⟩ := upd_other he₂ hd (Obj.mapFields (·.setIfInBounds 1 (Value.ref h₁.objs.size)))
  have hne : h₁.objs.size ≠ e := Nat.ne_of_gt hlt
  refine wpAny_setField he₂ hd hsz (h _ ⟨fun b o hb => ?_, hen, hl.of_keeps fun b o hb hn => ?_, ?_⟩ fun b o hb hn => ?_)
  · have q := kb₁ b o hb
    rw [O b (fun z => by rw [z, hen] at hb; cases hb)]
    exact Heap.get?_push_of_some _ q
  · obtain ⟨sl, q⟩ := S.2.2 b o hb
    have q' := Heap.get?_push_of_some (h := h₁) { cls := .type "traceback", dict := none, data := .fields ts } q
    exact ⟨_, (O b (NR _ _ q' hn)).trans q', rfl⟩
  · have hd' := Obj.data_mapFields hd (·.setIfInBounds 1 (Value.ref h₁.objs.size))
    exact ⟨_, _, h₁.objs.size, _, ts, Heap.get?_update_self _ he₂ (Obj.isFreed_of_fields hd'), Obj.cls_mapFields _ _, dict_mapFields _ _, hd', by simp [hsz], kb₁.fresh, hne, (O _ hne).trans (Heap.get?_push_size h₁ rfl), rfl, h3⟩
  · obtain ⟨sl, q⟩ := S.2.2 b o hb
    have q' := Heap.get?_push_of_some (h := h₁) { cls := .type "traceback", dict := none, data := .fields ts } q
    exact ⟨sl, (O b (NR _ _ q' hn)).trans q'⟩
theorem fly_first {oe : Obj} {vs : Array Value} {Q : Unit → Shared → Prop} (hfr : A.frames = some (env :: outer)) (hl : s.heap.FunFrames B (env :: outer)) (hf : env.frame = some L)
    (he : s.heap.get? e = some oe) (hkb : B.StaysIn s.heap) (hen : B.get? e = none) (hd : oe.data = .fields vs) (h1 : vs[1]? = some .none)
    (h : ∀ h', Fly B (env :: outer) e oe.cls oe.dict (rawInt L) h' → s.heap.UpToSlots h' → Q () { s with heap := h' }) : wpAny M A (noteFrame (.ref e) env) Q E s := by
  unfold noteFrame
  simp only [hf]
  refine wpAny_bind (wpAny_field he hd h1 ?_)
  rw [if_neg (by decide)]
  exact fly_entry hfr hl hf he hkb hen hd (Array.getElem?_eq_some_iff.mp h1).1 h
theorem fly_mark {nf : Value} {oe : Obj} {vs : Array Value} {T : Addr} {oT : Obj} {ts : Array Value} {h : Heap} (f1 : B.StaysIn h) (f2 : B.get? e = none) (f3 : h.FunFrames B l)
    (a1 : h.get? e = some oe) (a2 : oe.cls = cls) (a3 : oe.dict = dd) (a4 : oe.data = .fields vs) (a5 : vs[1]? = some (.ref T)) (a6 : B.get? T = none) (a7 : T ≠ e) (a8 : h.get? T = some oT) (a9 : oT.data = .fields ts) (hs : 3 < ts.size) :
    Fly B l e cls dd nf (h.update T (Obj.mapFields (·.setIfInBounds 3 nf))) ∧ h.UpToSlots (h.update T (Obj.mapFields (·.setIfInBounds 3 nf))) := by
  obtain ⟨O, NR⟩ := upd_other a8 a9 (Obj.mapFields (·.setIfInBounds 3 nf))
  refine ⟨⟨fun b o q => (O b fun z => by rw [z, a6] at q; cases q).trans (f1 b o q), f2, f3.of_keeps fun b o hb hn => ⟨o, (O b (NR b o hb hn)).trans hb, rfl⟩, ?_⟩, fun b o hb hn => ⟨o.slots, (O b (NR b o hb hn)).trans hb⟩⟩
  have hd' := Obj.data_mapFields a9 (·.setIfInBounds 3 nf)
  exact ⟨oe, vs, T, _, _, (O e (Ne.symm a7)).trans a1, a2, a3, a4, a5, a6, a7, Heap.get?_update_self _ a8 (Obj.isFreed_of_fields hd'), hd', by simp [hs]⟩
theorem fly_next {Q : Unit → Shared → Prop} (hfr : A.frames = some (env :: outer)) (hf : env.frame = some L) (x : Fly B (env :: outer) e cls dd .none s.heap)
    (h : ∀ h', Fly B (env :: outer) e cls dd (rawInt L) h' → s.heap.UpToSlots h' → Q () { s with heap := h' }) : wpAny M A (noteFrame (.ref e) env) Q E s := by
  obtain ⟨f1, f2, f3, oe, vs, T, oT, ts, a1, a2, a3, a4, a5, a6, a7, a8, a9, a10⟩ := x
  unfold noteFrame
  simp only [hf]
  refine wpAny_bind (wpAny_field a1 a4 a5 ?_)
  rw [if_pos (show (Value.ref T != Value.none) = true from by simp)]
  refine wpAny_bind (wpAny_field a8 a9 a10 ?_)
  rw [if_neg (show ¬ ((Value.none == rawInt L) = true) from by simp [rawInt])]
  have hs := (Array.getElem?_eq_some_iff.mp a10).1
  refine wpAny_bind (wpAny_setField a8 a9 hs ?_)
  obtain ⟨⟨k1, k2, k3, oe', vs', T', oT', ts', b1, b2, b3, b4, b5, -⟩, u⟩ := fly_mark (nf := .none) f1 f2 f3 a1 a2 a3 a4 a5 a6 a7 a8 a9 hs
  subst b2; subst b3
  exact fly_entry hfr k3 hf b1 k1 k2 b4 (Array.getElem?_eq_some_iff.mp b5).1 fun h' y v => h h' y (u.trans v)
theorem fly_off {Q : Unit → Shared → Prop} (x : Fly B l e cls dd fl s.heap) (h : ∀ h', Fly B l e cls dd .none h' → s.heap.UpToSlots h' → Q () { s with heap := h' }) : wpAny M A (setFlight (.ref e) none) Q E s := by
  obtain ⟨f1, f2, f3, oe, vs, T, oT, ts, a1, a2, a3, a4, a5, a6, a7, a8, a9, a10⟩ := x
  have hs := (Array.getElem?_eq_some_iff.mp a10).1
  unfold setFlight
  refine wpAny_bind (wpAny_field a1 a4 a5 ?_)
  rw [if_pos (show (Value.ref T != Value.none) = true from by simp)]
  obtain ⟨k, u⟩ := fly_mark (nf := (none : Option Addr).elim Value.none fun f => rawInt f) f1 f2 f3 a1 a2 a3 a4 a5 a6 a7 a8 a9 hs
  exact wpAny_setField a8 a9 hs (h _ k u)
end
end Mine

namespace Mine
noncomputable def RaisedD (base G : Heap) (l : List Env) (e : Addr) (cls : Value) (dd : Option Addr) (news : List (Addr × Obj)) (h : Heap) : Prop :=
  ∃ B, base.StaysIn B ∧ (∀ b o, G.get? b = some o → b ∉ l.filterMap (·.frame) → B.get? b = some o) ∧ (∀ q ∈ news, B.get? q.1 = some q.2 ∧ G.get? q.1 = none ∧ base.get? q.1 = none) ∧ Fly B l e cls dd .none h
section
variable {M : Model} {A : Around} {E : Value → Shared → Prop} {s' : Shared} {base g g₂ : Heap} {outer : List Env} {L a e : Addr} {m : Str → Option Value} {name : Str} {scope : Scope} {cd : Value} {Q : Unit → Shared → Prop} {news : List (Addr × Obj)}
theorem leaving_eq {env : Env} {v : Value} (h : wpAny M A (noteFrame v env) (fun _ s₂ => wpAny M A (setFlight v none) Q E s₂) E s') : wpAny M A (leaving env v) Q E s' := by
  unfold leaving
  exact wpAny_bind h
theorem leave_raiseD {oe : Obj} {vs : Array Value} (K : Below A base outer g) (F : Fr g L s'.heap m) (N : News g L s'.heap ((e, oe) :: news)) (hd : oe.data = .fields vs) (h1 : vs[1]? = some .none) (hne : ∀ q ∈ news, @Ne Nat q.1 e)
    (hQ : ∀ h', RaisedD base g outer e oe.cls oe.dict news h' → g.UpToSlots h' → Q () { s' with heap := h' }) (hk : scope.kind = .function := by rfl) :
    wpAny M (A.deeper (envOf name scope L a cd)) (leaving (envOf name scope L a cd) (.ref e)) Q E s' := by
  have K' := K.push (name := name) (a := a) (cd := cd) F hk
  generalize hfs : (envOf name scope L a cd :: outer).filterMap (·.frame) = fs at *
  have hee := N (e, oe) (.head _)
  have heb : base.get? e = none := fresh_of_stays K.stays hee.2.2
  have hefs : e ∉ fs := fun hm => by
    subst hfs
    obtain ⟨_, o, ho, hnf⟩ := K'.frames.mem hm
    rw [hee.1] at ho; cases ho; exact hnf vs hd
  have st : base.StaysIn (hideAll s'.heap (e :: fs)) := fun b o q => hideAll_get _ (K'.stays b o q) fun hm => by
    rcases List.mem_cons.mp hm with z | z
    · subst z; rw [heb] at q; cases q
    · subst hfs; rw [(K'.frames.mem z).1] at q; cases q
  have hb : ∀ b ∈ (e :: fs), (hideAll s'.heap (e :: fs)).get? b = none := fun b hb => hideAll_none _ hb
  refine leaving_eq (fly_first K'.stack (B := hideAll s'.heap (e :: fs)) (funFrames_hide K'.frames fun env he b hf => .tail _ (hfs ▸ List.mem_filterMap.mpr ⟨env, he, hf⟩)) rfl hee.1 (fun b o q => of_hideAll _ q) (hb e (.head _)) hd h1 fun h₁ y₁ u₁ => ?_)
  refine fly_off y₁ fun h₂ y₂ u₂ => hQ h₂ ⟨_, st, fun b o q nm => ?_, fun q hq => ⟨?_, (N q (.tail _ hq)).2.2, fresh_of_stays K.stays (N q (.tail _ hq)).2.2⟩, y₂.tail⟩ ((Heap.UpToSlots.of_keeps F.keep).trans (u₁.trans u₂))
  · refine hideAll_get _ (F.keep b o q) fun hm => ?_
    rcases List.mem_cons.mp hm with z | z
    · subst z; rw [hee.2.2] at q; cases q
    · subst hfs
      rcases kts_mem z with z | z
      · rw [z, kts_self F] at q; cases q
      · exact nm z
  · refine hideAll_get _ (N q (.tail _ hq)).1 fun hm => ?_
    rcases List.mem_cons.mp hm with z | z
    · exact hne q hq z
    · subst hfs
      rcases kts_mem z with z | z
      · exact (N q (.tail _ hq)).2.1 z
      · obtain ⟨o, ho, _⟩ := (K.frames.mem z).2
        rw [(N q (.tail _ hq)).2.2] at ho; cases ho
theorem leave_onD {cls : Value} {dd : Option Addr} (K : Below A base outer g) (F : Fr g L g₂ m) (R : RaisedD base g₂ (envOf name scope L a cd :: outer) e cls dd news s'.heap) (hsm : g₂.UpToSlots s'.heap)
    (hQ : ∀ h', RaisedD base g outer e cls dd news h' → g.UpToSlots h' → Q () { s' with heap := h' }) :
    wpAny M (A.deeper (envOf name scope L a cd)) (leaving (envOf name scope L a cd) (.ref e)) Q E s' := by
  obtain ⟨B, hB, hBG, hl, x⟩ := R
  refine leaving_eq (fly_next (Around.frames_deeper K.stack) rfl x fun h₁ y₁ u₁ => fly_off y₁ fun h₂ y₂ u₂ => hQ h₂ ⟨B, hB, fun b o q nm => hBG b o (F.keep b o q) fun hm => ?_, fun q hq => ⟨(hl q hq).1, kts_none F.keep (hl q hq).2.1, (hl q hq).2.2⟩, y₂.tail⟩ ((Heap.UpToSlots.of_keeps F.keep).trans (hsm.trans (u₁.trans u₂))))
  rcases kts_mem hm with z | z
  · rw [z, kts_self F] at q; cases q
  · exact nm z
end
section
variable {prog : Program} {w : World} {A₀ : Around} {E : Value → Shared → Prop} {s' : Shared} {base g G : Heap} {outer : List Env} {L a e C : Addr} {m : Str → Option Value} {name : Str} {scope : Scope} {cd : Value}
  {n : Str} {b₀ : Stmt} {suite : List Stmt} {pos np : Pos} {rest : List ExceptHandler} {Q : Flow → Shared → Prop} {news : List (Addr × Obj)} {KF : Frag}
  {p : Program} {loose : List Str} {mean : ExcName → Option Value} {mg mb : Str → Option Value} {x : Str} {dd : Option Addr}
theorem caught_D (R : RaisedD base G (envOf name scope L a cd :: outer) e (.ref C) dd news s'.heap) (F : Fr g L G m) (K : Below A₀ base outer g) (hsm : G.UpToSlots s'.heap) (XB : KF.In base) (TB : Top p loose mean mg mb base)
    (ex : nsIn KF mainGlobals x = some (some (.ref C))) (q : ktsIn KF C "BaseException" = true)
    (k : ∀ h' g' tk oe vs, KtsTurn (outer.filterMap (·.frame)) g g' → oe.cls = .ref C → oe.dict = dd → oe.data = .fields vs → Fr g' L h' (fun y => if y = n then some (.ref e) else m y) → News g' L h' ((e, oe) :: news) → Below A₀ base outer g' → KF.In g' → Top p loose mean mg mb g' →
      wpAny (model prog w) ((A₀.deeper (envOf name scope L a cd)).mark (some (.ref e))) (execs (b₀ :: suite) (envOf name scope L a cd))
        (fun f s₄ => wpAny (model prog w) (A₀.deeper (envOf name scope L a cd)) (do bindName (envOf name scope L a cd) n .none; unbindBehindTheSuite (envOf name scope L a cd) n pos) (fun _ s₅ => Q f s₅) E s₄)
        (AsSuiteRaised (model prog w) ((A₀.deeper (envOf name scope L a cd)).mark (some (.ref e))) (envOf name scope L a cd) n pos (notedBy (model prog w) ((A₀.deeper (envOf name scope L a cd)).mark (some (.ref e))) (envOf name scope L a cd) (cameBackBy (model prog w) (A₀.deeper (envOf name scope L a cd)) (envOf name scope L a cd) E)))
        { s' with heap := h', toks := tk })
    (hk : scope.kind = .function := by rfl) (hlo : (envOf name scope L a cd).kindOf n = some .local := by rfl) (hx : (envOf name scope L a cd).kindOf x = some .globalImplicit := by rfl) (hd : (x == ("__debug__" : Str)) = false := by decide) :
    wpAny (model prog w) (A₀.deeper (envOf name scope L a cd)) (noteFrame (.ref e) (envOf name scope L a cd))
      (fun _ s₂ => wpAny (model prog w) (A₀.deeper (envOf name scope L a cd)) (setFlight (.ref e) none) (fun _ s₃ =>
        wpAny (model prog w) (A₀.deeper (envOf name scope L a cd)) (handleBy (.ref e) (envOf name scope L a cd) (.ExceptHandler (some (.Name x np)) (some n) (b₀ :: suite) pos :: rest)) Q E s₃) E s₂) E s' := by
  obtain ⟨B, hB, hBG, hl, hfl⟩ := R
  have hL : B.get? L = none := by
    obtain ⟨_, ⟨L', _, hf, hn', _⟩, _⟩ := hfl.2.2.1
    obtain rfl : L = L' := Option.some.inj hf
    exact hn'
  refine fly_next (Around.frames_deeper K.stack) rfl hfl fun h₄ y₄ u₄ => fly_off y₄ fun h₅ y₅ u₅ => ?_
  have v₅ := hsm.trans (u₄.trans u₅)
  obtain ⟨g₅, T₅, F₅, K₅⟩ := kts_ground K F hBG y₅.1 v₅
  have X₅ : KF.In g₅ := XB.keeps K₅.stays
  have P₅ : TopRead p loose mg mb g₅ := topRead_of (TB.keeps K₅.stays)
  obtain ⟨ob, hob, hobc⟩ := y₅.there
  obtain ⟨nm, q', N, bs, bm, hdct, sn, sub, ab, col, dd', k0, k1, k2, k3, k5, newId, hC, hbase, hbT⟩ := kts_cls X₅ q
  have hC₅ := F₅.keep _ _ hC
  refine wpAny_handleBy_cons (codeAny_handlers_test (name_K F₅ X₅ P₅ ex ?_ hk hx hd)) (by intro q; cases q)
  refine wpAny_excMatches_sub_self hC₅ hob hobc hbase (codeAny_handlers_suite_as ?_)
  refine fly_off y₅ fun h₆ y₆ u₆ => ?_
  have v₆ := v₅.trans u₆
  obtain ⟨g₆, T₆, F₆, K₆⟩ := kts_ground K F hBG y₆.1 v₆
  obtain ⟨f1, f2, f3, oe, vs, T, oT, ts, a1, a2, a3, a4, -⟩ := y₆
  have ne₆ : g₆.get? e = none := T₆.none_ _ (kts_fresh F hBG f2 fun o ho hm => by
    obtain ⟨_, o', ho', hnf⟩ := K.frames.mem hm
    rw [ho] at ho'
    cases ho'
    obtain ⟨sl, hs⟩ := v₆ _ _ (F.keep _ _ ho) hnf
    rw [a1] at hs
    cases hs
    exact hnf _ a4)
  have N₆ : News g₆ L h₆ ((e, oe) :: news) := fun q hq => by
    rcases List.mem_cons.mp hq with rfl | hq
    · refine ⟨a1, fun z => ?_, ne₆⟩
      obtain ⟨o, es, ep, ho, hd', _⟩ := F₆.ns
      rw [← (show e = L from z), a1] at ho
      cases ho
      rw [a4] at hd'; cases hd'
    · exact ⟨f1 _ _ (hl q hq).1, (fun z => by have := (hl q hq).1; rw [z, hL] at this; cases this), T₆.none_ _ (kts_none F.keep (hl q hq).2.1)⟩
  refine stN F₆ N₆ (fun h₇ F₇ N₇ => ?_) hk hlo
  exact k h₇ g₆ _ oe vs T₆ a2 a3 a4 F₇ N₇ K₆ (XB.keeps K₆.stays) (TB.keeps K₆.stays)
end
end Mine

set_option maxHeartbeats 4000000
namespace Mine
noncomputable abbrev veMro : List Value := [.type "ValueError", .type "Exception", .type "BaseException", .type "object"]
noncomputable abbrev excObj (C t : Addr) : Obj := { cls := .ref C, data := .fields #[.ref t, .none, .none, .none, .bool false, .none] }
noncomputable def excCls (K : Frag) (C fI : Addr) : Bool := match K.lookup C with
  | some ⟨.type "type", _, .cls cd, sl⟩ => (match sl.toList with
    | [_, _, _, _, some (.builtin nw), _] => nw == "ValueError.__new__" && cd.mro == .ref C :: veMro && !cd.hasDel && cd.hasDict && findIn K (.ref C) "__init__" == some (some (.ref fI)) && typeIn K (.ref fI) == some (.type "function")
        && findIn K (.ref C) "__setattr__" == some (some (.builtin "object.__setattr__")) && findIn K (.ref C) "__getattribute__" == some (some (.builtin "BaseException.__getattribute__")) && findIn K (.ref C) "__getattr__" == some none && nsOkIn K cd.ns
    | _ => false)
  | _ => false
structure ExcCls (K : Frag) (C fI : Addr) (h : Heap) : Prop where
  obj : ∃ nm q N bs sn sub ab col dd k0 k1 k2 k3 k5, h.get? C = some (excClassObj nm q C N bs veMro true sn sub ab col dd k0 k1 k2 k3 k5 "ValueError.__new__") ∧ clsIn K C = some { name := nm, bases := bs, mro := .ref C :: veMro, ns := N, qualname := q, hasDict := true, slotNames := sn, subclasses := sub, abstract := ab, collection := col, hasDel := false } ∧ nsOkIn K N = true
  init : findIn K (.ref C) "__init__" = some (some (.ref fI))
  fn : typeIn K (.ref fI) = some (.type "function")
  set : findIn K (.ref C) "__setattr__" = some (some (.builtin "object.__setattr__"))
  get : findIn K (.ref C) "__getattribute__" = some (some (.builtin "BaseException.__getattribute__"))
  nohook : findIn K (.ref C) "__getattr__" = some none
theorem excCls_of {K : Frag} {C fI : Addr} {h : Heap} (X : K.In h) (e : excCls K C fI = true) : ExcCls K C fI h := by
  unfold excCls at e
  split at e
  · rename_i dd cd sl ho
    split at e
    · rename_i k0 k1 k2 k3 nw k5 hs
      simp only [Bool.and_eq_true, beq_iff_eq, Bool.not_eq_true'] at e
      obtain ⟨⟨⟨⟨⟨⟨⟨⟨⟨e1, e2⟩, e3⟩, e4⟩, e5⟩, e6⟩, e7⟩, e8⟩, e9⟩, e10⟩ := e
      have hc : clsIn K C = some cd := by unfold clsIn; rw [ho]
      obtain ⟨nm, bs, mro, ns, qn, hd, sn, sub, ab, col, del⟩ := cd
      dsimp only at e2 e3 e4 e10
      subst e1 e2 e3 e4
      have hsl : sl = #[k0, k1, k2, k3, some (.builtin "ValueError.__new__"), k5] := by
        obtain ⟨l⟩ := sl
        simp only at hs
        rw [hs]
      subst hsl
      exact ⟨⟨nm, qn, ns, bs, sn, sub, ab, col, dd, k0, k1, k2, k3, k5, X _ _ ho, hc, e10⟩, e5, e6, e7, e8, e9⟩
    · cases e
  · cases e
section
variable {prog : Program} {w : World} {A : Around} {K : Frag} {C fI : Addr} {R : Result → Shared → Prop} {h : Heap} {g : Array GenState} {d : Drawn} {t : Nat} {os : OsState}
theorem exc_make {rest : List Value} (X : K.In h) (Y : excCls K C fI = true) (hrest : rest.length ≤ sizeLine)
    (hq : codeAny (model prog w) (A.under (.builtin "type.__call__" ⟨.ref C :: rest, []⟩)) (.call (.ref fI) ⟨.ref (h.objs.size + 1) :: rest, []⟩) (InitBack (h.objs.size + 1) R)
      ⟨(h.push { cls := .type "tuple", data := .seq rest.toArray }).push (excObj C h.objs.size), g, d, t, os⟩) :
    codeAny (model prog w) A (.call (.ref C) ⟨rest, []⟩) R ⟨h, g, d, t, os⟩ := by
  obtain ⟨⟨nm, q, N, bs, sn, sub, ab, col, dd, k0, k1, k2, k3, k5, hC, hcd, -⟩, hi, hf, -, -, -⟩ := excCls_of X Y
  have F := PySem.F.excBase_ValueError
  have f1 := tc_lookup
  have f2 := tc_bind (.ref C)
  have hT : (⟨h, g, d, t, os⟩ : Shared).TypeIs (.ref C) "type" := ⟨_, hC, rfl⟩
  refine codeAny_of_tree ?_
  show wpAny _ _ (callAny (.ref C) _) _ _ _
  repeat (any_goals (first | assumption | with_reducible refine wpAny_loadPart_at hC ?_ | wp_step))
  refine ⟨rfl, ?_⟩
  refine codeAny_call_builtin_at (Code.quiet_builtin _ (by decide +kernel)) entry_typeCall (wpAny_check_type_call_sub hC ?_)
  unfold Builtin.«type.__call__»
  repeat (first | with_reducible refine wpAny_loadPart_at hC ?_ | with_reducible refine wpAny_madeBy_exc hC ?_ | wp_step)
  refine codeAny_call_builtin_code (Code.quiet_builtin _ F.quiet) (wpAny_check_new_sub F hC ?_)
  refine codeAny_exc_new_sub F hC ?_ hrest
  show wpAny _ _ _ _ _ _
  have k : ∀ b o, h.get? b = some o → ((h.push { cls := .type "tuple", data := .seq rest.toArray }).push (excObj C h.objs.size)).get? b = some o := fun b o e => Heap.get?_push_of_some _ (Heap.get?_push_of_some _ e)
  have hget : ((h.push { cls := .type "tuple", data := .seq rest.toArray }).push (excObj C h.objs.size)).get? (h.objs.size + 1) = some (excObj C h.objs.size) := by heap_get
  have t1 : Looks (model prog w) ((h.push { cls := .type "tuple", data := .seq rest.toArray }).push (excObj C h.objs.size)) (typeOf (.ref (h.objs.size + 1))) (.ref C) := (Looks.ld hget).andThen .now
  have s1 : Looks (model prog w) ((h.push { cls := .type "tuple", data := .seq rest.toArray }).push (excObj C h.objs.size)) (isSubtype (.ref C) (.ref C)) true := looks_mroIn (X.keeps k) (by unfold mroIn; rw [hcd]; simp)
  have i1 : Looks (model prog w) ((h.push { cls := .type "tuple", data := .seq rest.toArray }).push (excObj C h.objs.size)) (typeLookup (.ref C) "__init__") (some (.ref fI)) := looks_findIn (X.keeps k) hi
  have b1 : Looks (model prog w) ((h.push { cls := .type "tuple", data := .seq rest.toArray }).push (excObj C h.objs.size)) (bindSpecial (.ref fI) (.ref (h.objs.size + 1))) (.ref fI, [.ref (h.objs.size + 1)]) := bind_fn (X.keeps k) _ hf
  unfold isInstance callSpecial? specialOf
  repeat (first | with_reducible refine wpAny_call ?_ | refine Looks.at t1 ?_ | refine Looks.at s1 ?_ | refine Looks.at i1 ?_ | refine Looks.at b1 ?_ | lk)
  refine codeAny_mono hq fun r s' z => ?_
  rcases r with e | (v | _ | _ | _) <;> first | exact z | exact z.elim | skip
  obtain ⟨rfl, z⟩ := z
  exact wpAny_pure (wpAny_pure z)
end
noncomputable def MapIs (o : Obj) (mA : Str → Option Value) : Prop := ∃ es ep, o.data = .dict es ep ∧ StrKeys es ∧ UniqKeys es ∧ ∀ n, nsFind es n = mA n
theorem MapIs.ns1 {h : Heap} {d : Addr} {o : Obj} {mA : Str → Option Value} (x : MapIs o mA) (e : h.get? d = some o) : h.Ns1 d mA := let ⟨es, ep, a, b, c, f⟩ := x; ⟨o, es, ep, e, a, b, c, f⟩
theorem ns1_obj {h : Heap} {d : Addr} {mA : Str → Option Value} (x : h.Ns1 d mA) : ∃ o, h.get? d = some o ∧ MapIs o mA := let ⟨o, es, ep, e, a, b, c, f⟩ := x; ⟨o, e, es, ep, a, b, c, f⟩
 open Builtin Builtin.ObjectAttr in
section
variable {prog : Program} {w : World} {A : Around} {K : Frag} {C fI e : Addr} {E : Value → Shared → Prop} {s : Shared} {oe : Obj} {name : Str} {v : Value} {Q : Unit → Shared → Prop} {h₀ : Heap} {L : Addr} {m : Str → Option Value} {news : List (Addr × Obj)}
noncomputable def SetBack (Q : Unit → Shared → Prop) (E : Value → Shared → Prop) (r : Result) (s' : Shared) : Prop := match r with | .ok (.ret _) => Q () s' | .ok _ => False | .error e => E e s'
theorem exc_set_open (X : K.In s.heap) (Y : excCls K C fI = true) (hx : s.heap.get? e = some oe) (hc : oe.cls = .ref C) (hf : findIn K (.ref C) name = some none)
    (h : wpAny (model prog w) A.in1 (storeInOwnDict (.ref e) (.ref C) (.str name s.toks) name v false)
      (fun fin s' => match fin with | .done f => SetBack Q E (.ok f) s' | .again c' => c'.quiet = true ∧ codeAny (model prog w) A c' (SetBack Q E) s') (fun e s' => SetBack Q E (.error e) s') { s with toks := s.toks + 1 }) :
    wpAny (model prog w) A (setAttr (.ref e) name v) Q E s := by
  obtain ⟨⟨nm, q, N, bs, sn, sub, ab, col, dd, k0, k1, k2, k3, k5, hC, hcd, -⟩, hi, hfn, hset, hget, hno⟩ := excCls_of X Y
  have SF := PySem.F.store_object
  have ty : ∀ tk, Looks (model prog w) ({ s with toks := tk } : Shared).heap (typeOf (.ref e)) (.ref C) := fun _ => hc ▸ (Looks.ld hx).andThen .now
  refine wpAny_bind (wpAny_mkText (wpAny_bind (wpAny_bind (wpAny_bind ((ty s.toks) _ _ _ _ (fun _ _ e => e) ((looks_findIn X hset) _ _ _ _ (fun _ _ e => e) (wpAny_holding ?_)))))))
  rw [SF.slot.bind]
  refine wpAny_bind (wpAny_pure (wpAny_bind (wpAny_call (codeAny_mono (R := SetBack Q E) ?_ fun r s' z => ?_))))
  · have sub : Looks (model prog w) s.heap (isInstance (.ref e) (.type "object")) true := (ty s.toks).andThen (looks_mroIn X (by unfold mroIn; rw [hcd]; simp [veMro]))
    refine codeAny_call_builtin SF.slot.plain SF.entry (@check_slot (model prog w) _ _ { s with toks := s.toks + 1 } "object.__setattr__" "object" "__setattr__" (.ref e) [.str name s.toks, v] [] _ SF.kind SF.split sub (SF.args (.ref e) (.str name s.toks) v) ?_)
    have hm : Looks (model prog w) s.heap (mroOf (.ref C)) (.ref C :: veMro) := (looks_clsIn X hcd).andThen .now
    show wpAny _ _ (Builtin.«object.__setattr__» ⟨[.ref e, .str name s.toks, v], []⟩) _ _ _
    rw [osa_eq, refuse_eq]
    refine wpAny_bind (wpAny_bind ((ty s.toks) _ _ _ _ (fun _ _ e => e) (wpAny_bind (hm _ _ _ _ (fun _ _ e => e) ?_))))
    rw [refuseLoop_ref, show refuseLoop (.ref e) "__setattr__" veMro = pure () from PySem.F.store_ValueError.passes _]
    exact wpAny_pure (wpAny_bind ((ty s.toks) _ _ _ _ (fun _ _ e => e) (wpAny_bind ((looks_findIn X hf) _ _ _ _ (fun _ _ e => e) (wpAny_bind (wpAny_pure h))))))
  · rcases r with e | (v | _ | _ | _) <;> first | exact z | exact wpAny_pure (wpAny_pure z)
theorem store_in_dict {M : Model} {A : Around} {E : Value → Shared → Prop} {d : Addr} {od : Obj} {post : List (Addr × Obj)} {mA : Str → Option Value} {ns : List Str} {tk : Tok} {Q' : Fin → Shared → Prop} (F : Fr h₀ L s.heap m) (N : News h₀ L s.heap ((d, od) :: post)) (hm : MapIs od mA) (hw : Within mA ns) (hsz : ns.length ≤ 900) (hp : ∀ p ∈ post, @Ne Nat p.1 d)
    (h : ∀ od' h' tk', MapIs od' (fun y => if y = name then some v else mA y) → Fr h₀ L h' m → News h₀ L h' ((d, od') :: post) → Q' (.done (.ret .none)) { s with heap := h', toks := tk' }) :
    wpAny M A (storeInDict d (.str name tk) name v) Q' E s := by
  have Nd := N (d, od) (.head _)
  unfold storeInDict newKeyGuard
  refine wpAny_bind (wpAny_pure (wpAny_bind (wpAny_nsSet1 (hm.ns1 Nd.1) fun h' hn' hs => ?_)))
  obtain ⟨oD, esD, epD, hoD, hdD, hcD⟩ := hn'.count (Within.cons name v hw)
  refine wpAny_bind (wpAny_lookBehind hoD (by rw [hdD]; exact pastItsLine_dict (Nat.le_trans hcD (by rw [List.length_cons, sizeLine_eq]; omega))) ?_)
  obtain ⟨od', ho', hm'⟩ := ns1_obj hn'
  refine wpAny_pure (h od' h' _ hm' ⟨?_, fun b o q => ?_, F.above⟩ fun p hq => ?_)
  · exact F.ns.sameBut hs (Ne.symm Nd.2.1)
  · exact (hs.2 b fun z => by rw [z, Nd.2.2] at q; cases q).trans (F.keep b o q)
  · rcases List.mem_cons.mp hq with rfl | hq
    · exact ⟨ho', Nd.2⟩
    · exact ⟨(hs.2 _ (hp p hq)).trans (N p (.tail _ hq)).1, (N p (.tail _ hq)).2⟩
theorem exc_set1 {vs : Array Value} (X : K.In h₀) (Y : excCls K C fI = true) (F : Fr h₀ L s.heap m) (N : News h₀ L s.heap ((e, oe) :: news)) (hc : oe.cls = .ref C) (hd : oe.dict = none) (hv : oe.data = .fields vs) (hf : findIn K (.ref C) name = some none) (hne : ∀ q ∈ news, @Ne Nat q.1 e)
    (h : ∀ d od h' tk', Fr h₀ L h' m → News h₀ L h' ((d, od) :: (e, { oe with dict := some d }) :: news) → MapIs od (fun y => if y = name then some v else none) → (∀ q ∈ ((e, oe) :: news), q.1 < d) → Q () { s with heap := h', toks := tk' }) :
    wpAny (model prog w) A (setAttr (.ref e) name v) Q E s := by
  have X' := X.keeps F.keep
  have hx := (N (e, oe) (.head _)).1
  obtain ⟨⟨nm, q, N', bs, sn, sub, ab, col, dd, k0, k1, k2, k3, k5, hC, hcd, -⟩, -⟩ := excCls_of X' Y
  refine exc_set_open X' Y hx hc hf ?_
  refine wpAny_bind (wpAny_pure (wpAny_bind (wpAny_bind (wpAny_loadPart hx ?_))))
  obtain ⟨oc, odt, odd, osl⟩ := oe
  dsimp only at hc hd hv
  subst hc hd hv
  refine wpAny_bind ((looks_clsIn X' hcd) _ _ _ _ (fun _ _ e => e) ?_)
  have lt := fun q hq => Heap.lt_size (N q hq).1
  have N1 := N.push F { cls := .type "dict", data := .dict #[] }
  have F1 := F.push { cls := .type "dict", data := .dict #[] }
  have U := news_upd (pre := [(s.heap.objs.size, { cls := .type "dict", data := .dict #[] })]) (f := fun o => { o with dict := some s.heap.objs.size }) F1 N1 (fun p hp => by
      rw [List.mem_singleton.mp hp]; exact Nat.ne_of_gt (lt _ (.head _))) hne rfl rfl
  refine wpAny_bind (wpAny_alloc' (wpAny_bind (wpAny_update' (N1 _ (.tail _ (.head _))).1 (wpAny_pure ?_))))
  refine store_in_dict (mA := fun _ => none) (ns := []) U.1 U.2 ⟨#[], _, rfl, fun e he => absurd he (by simp), ?_, fun _ => rfl⟩ (fun _ h => absurd rfl h) (by simp) (fun p hp => ?_) fun od' h' tk' hm' F' N' => ?_
  · exact .nil
  · refine Nat.ne_of_lt ?_
    rcases List.mem_cons.mp hp with rfl | hp
    · exact Heap.lt_size hx
    · exact lt _ (.tail _ hp)
  · exact h _ od' h' _ F' N' hm' lt
theorem exc_set2 {d : Addr} {od : Obj} {mA : Str → Option Value} {ns : List Str} (X : K.In h₀) (Y : excCls K C fI = true) (F : Fr h₀ L s.heap m) (N : News h₀ L s.heap ((d, od) :: (e, oe) :: news)) (hc : oe.cls = .ref C) (hd : oe.dict = some d) (hm : MapIs od mA) (hw : Within mA ns) (hsz : ns.length ≤ 900) (hf : findIn K (.ref C) name = some none) (hne : ∀ q ∈ ((e, oe) :: news), @Ne Nat q.1 d)
    (h : ∀ od' h' tk', Fr h₀ L h' m → News h₀ L h' ((d, od') :: (e, oe) :: news) → MapIs od' (fun y => if y = name then some v else mA y) → Q () { s with heap := h', toks := tk' }) :
    wpAny (model prog w) A (setAttr (.ref e) name v) Q E s := by
  have X' := X.keeps F.keep
  have hx := (N (e, oe) (.tail _ (.head _))).1
  obtain ⟨⟨nm, q, N', bs, sn, sub, ab, col, dd, k0, k1, k2, k3, k5, hC, hcd, -⟩, -⟩ := excCls_of X' Y
  refine exc_set_open X' Y hx hc hf ?_
  refine wpAny_bind (wpAny_pure (wpAny_bind (wpAny_bind (wpAny_loadPart hx ?_))))
  obtain ⟨oc, odt, odd, osl⟩ := oe
  dsimp only at hc hd
  subst hc hd
  refine wpAny_bind ((looks_clsIn X' hcd) _ _ _ _ (fun _ _ e => e) (wpAny_pure ?_))
  exact store_in_dict F N hm hw hsz hne fun od' h' tk' hm' F' N' => h od' h' _ F' N' hm'
end
theorem mapIs_look {o : Obj} {mA : Str → Option Value} {name : Str} {v : Value} (h : MapIs o mA) (hv : mA name = some v) : lookIn name o = some (some v) := by
  obtain ⟨es, ep, hd, -, -, hf⟩ := h
  have h1 := hf name
  rw [hv] at h1
  unfold lookIn
  rw [hd]
  dsimp only
  unfold nsFind findBy at h1
  rw [← Array.find?_toList] at h1
  cases q : es.toList.find? (fun x => x.key.isStr name) with
  | none => rw [q] at h1; cases h1
  | some en => rw [q] at h1; simpa using h1
section
variable {prog : Program} {w : World} {A : Around} {K : Frag} {C fI e : Addr} {E : Value → Shared → Prop} {s : Shared} {oe od : Obj} {name : Str} {v : Value} {h₀ : Heap} {L : Addr} {m : Str → Option Value} {news : List (Addr × Obj)}
theorem exc_get {vs : Array Value} {d : Addr} {expr : Bool} {Q : Value → Shared → Prop} (X : K.In s.heap) (Y : excCls K C fI = true) (hx : s.heap.get? e = some oe) (hc : oe.cls = .ref C) (hd : oe.dict = some d) (hv : oe.data = .fields vs) (ho : s.heap.get? d = some od) (hl : lookIn name od = some (some v))
    (hf : findIn K (.ref C) name = some none) (hh : handedIn v = true) (h : Q v { s with toks := s.toks + 1 }) : wpAny (model prog w) A (getAttr (.ref e) name expr) Q E s := by
  obtain ⟨⟨nm, q, N, bs, sn, sub, ab, col, dd, k0, k1, k2, k3, k5, hC, hcd, -⟩, hi, hfn, hset, hget, hno⟩ := excCls_of X Y
  have I : InstAt s.heap e oe C (some od) := ⟨hx, hc, by unfold notCls; rw [hv], by rw [hd]; exact ho⟩
  have fo : findObj K C (some od) name = some (.value v) := by
    unfold findObj
    rw [hcd, hf]
    simp only [Option.bind_some, W.ownOf, hl, if_true]
  obtain ⟨hp, g, dr, t, os⟩ := s
  have L0 := I.type (M := model prog w)
  have L1 := looks_findIn (M := model prog w) X hget
  have L2 := looks_findIn (M := model prog w) X hno
  have L3 := looks_find (M := model prog w) X I fo
  have f3 := PySem.F.excAttr_ValueError.ga.bind (.ref e)
  have hx0 : (expr && onTheHeap (Value.builtin "BaseException.__getattribute__")) = false := by cases expr <;> rfl
  have hx2 : (Value.builtin "BaseException.__getattribute__" == Value.builtin "object.__getattribute__") = false := by decide +kernel
  have hx1 : (onTheHeap (Value.ref C) && Value.builtin "BaseException.__getattribute__" == Value.builtin "object.__getattribute__") = false := by rw [hx2]; rfl
  unfold getAttr getAttrBy
  refine wpAny_bind (wpAny_mkText (wpAny_holding (wpAny_bind (L0.at (wpAny_bind (L1.at ?_))))))
  dsimp only
  rw [hx1]
  have hk : builtinKind "BaseException.__getattribute__" = some .slot := by decide +kernel
  have hsplit : splitId "BaseException.__getattribute__" = some ("BaseException", "__getattribute__") := by decide +kernel
  have sub : Looks (model prog w) hp (isInstance (.ref e) (.type "BaseException")) true := L0.andThen (looks_mroIn X (by unfold mroIn; rw [hcd]; simp [veMro]))
  have hB : boundAndCalled (.builtin "BaseException.__getattribute__") (.ref e) (.str name t) = call (.builtin "BaseException.__getattribute__") [.ref e, .str name t] := by
    unfold boundAndCalled
    rw [f3]
    rfl
  have hG : callGetattribute (.ref e) (.str name t) (.builtin "BaseException.__getattribute__") expr = call (.builtin "BaseException.__getattribute__") [.ref e, .str name t] := by
    unfold callGetattribute
    rw [hx0, hB]
    rfl
  show wpAny _ _ (getAttrByItsOwn (.ref e) (.str name t) (.ref C) (.builtin "BaseException.__getattribute__") true expr) _ _ _
  unfold getAttrByItsOwn
  rw [hG]
  refine wpAny_bind ?_
  show wpAny _ _ (typeLookup (.ref C) "__getattr__") _ _ _
  refine L2.at (wpAny_bind (wpAny_attempt (wpAny_holding (wpAny_call ?_))))
  refine codeAny_call_builtin PySem.F.excAttr_ValueError.ga.plain PySem.F.entry_bexc_ga (@check_slot (model prog w) _ _ _ "BaseException.__getattribute__" "BaseException" "__getattribute__" (.ref e) [.str name t] [] _ hk hsplit sub (PySem.F.args_bexc_ga _ _) ?_)
  show wpAny _ _ (Builtin.«object.__getattribute__» ⟨[.ref e, .str name t], []⟩) _ _ _
  refine wpAny_bind (wpAny_pure (wpAny_bind (wpAny_pure (wpAny_bind (L0.at (wpAny_bind (L3.at ?_)))))))
  refine wpAny_pure ?_
  show wpAny _ _ (handedOut v) _ _ _
  rw [handedOut_of hh]
  exact wpAny_pure h
end
section
variable {prog : Program} {w : World} {A : Around} {K : Frag} {C fI : Addr} {E : Value → Shared → Prop} {s : Shared} {h₀ : Heap} {L : Addr} {m : Str → Option Value} {news : List (Addr × Obj)}
theorem call_exc_own {pos : List Value} {Q : Value → Shared → Prop} (F : Fr h₀ L s.heap m) (X₀ : K.In h₀) (N : News h₀ L s.heap news) (Y : excCls K C fI = true) (hrest : pos.length ≤ sizeLine)
    (h : ∀ e t h', Fr h₀ L h' m → News h₀ L h' ((e, excObj C t) :: (t, { cls := .type "tuple", data := .seq pos.toArray }) :: news) → (∀ p ∈ news, p.1 < t) → t < e →
      codeAny (model prog w) (A.under (.builtin "type.__call__" ⟨.ref C :: pos, []⟩)) (.call (.ref fI) ⟨.ref e :: pos, []⟩) (InitBack e fun r s' => match r with | .ok (.ret v) => Q v s' | .ok _ => False | .error e => E e s') { s with heap := h' }) :
    wpAny (model prog w) A (call (.ref C) pos) Q E s := by
  obtain ⟨hp, g, d, t, os⟩ := s
  have N' := (N.push F { cls := .type "tuple", data := .seq pos.toArray }).push (F.push _) (excObj C hp.objs.size)
  rw [Heap.size_push] at N'
  exact wpAny_call (exc_make (X₀.keeps F.keep) Y hrest (h _ hp.objs.size _ ((F.push _).push _) N' (fun p hp => Heap.lt_size (N p hp).1) (Nat.lt_succ_self _)))
noncomputable def RaisableO (K : Frag) (E : Value → Shared → Prop) (v : Value) (s₁ : Shared) : Prop :=
  ∃ e oe vs C fI, v = .ref e ∧ K.In s₁.heap ∧ excCls K C fI = true ∧ s₁.heap.get? e = some oe ∧ oe.cls = .ref C ∧ oe.data = .fields vs ∧ vs[1]? = some .none ∧ E (.ref e) s₁
theorem Raise_exc {env : Env} {ex : Expr} {pos : Pos} {Q : Flow → Shared → Prop} (_X₀ : K.In h₀) (hh : A.handled = none) (h : wpAny (model prog w) A (eval ex env) (RaisableO K E) E s) :
    wpAny (model prog w) A (exec (.Raise (some ex) none pos) env) Q E s := by
  show wpAny (model prog w) A (do standAt pos; raiseStmt env (some (do let v ← eval ex env; standAt pos; pure v)) none) Q E s
  refine wpAny_bind (wpAny_standAt ?_)
  unfold raiseStmt
  dsimp only
  refine wpAny_bind (wpAny_bind (wpAny_mono h (fun v s₁ h₁ => wpAny_bind (wpAny_standAt (wpAny_pure ?_))) fun _ _ x => x))
  obtain ⟨e, oe, vs, C, fI, rfl, X, Y, hx, hc, hd, h1, hE⟩ := h₁
  obtain ⟨⟨nm, q, N, bs, sn, sub, ab, col, dd, k0, k1, k2, k3, k5, hC, hcd, -⟩, -⟩ := excCls_of X Y
  have hnt : ∀ {Q' : Bool → Shared → Prop}, Q' false s₁ → wpAny (model prog w) A (isType (.ref e)) Q' E s₁ := by
    intro Q' hq
    simp only [isType, loadHead]
    refine wpAny_bind (wpAny_loadPart hx ?_)
    rw [hd]; exact wpAny_pure hq
  have hinst : Looks (model prog w) s₁.heap (isInstance (.ref e) (.type "BaseException")) true := (hc ▸ (Looks.ld hx).andThen .now : Looks (model prog w) s₁.heap (typeOf (.ref e)) (.ref C)).andThen (looks_mroIn X (by unfold mroIn; rw [hcd]; simp [veMro]))
  refine wpAny_bind (wpAny_pure ?_)
  dsimp only
  refine wpAny_bind (wpAny_holding ?_)
  unfold excFromValue isExcClass
  refine wpAny_bind (wpAny_bind (hnt ?_))
  simp only [Bool.false_eq_true, if_false]
  refine wpAny_pure ?_
  simp only [Bool.false_eq_true, if_false]
  refine wpAny_bind (hinst.here ?_)
  simp only [if_true]
  refine wpAny_pure ?_
  refine wpAny_bind (hnt ?_)
  simp only [Bool.false_eq_true, if_false]
  have tO : Looks (model prog w) s₁.heap (typeOf (.ref e)) (.ref C) := hc ▸ (Looks.ld hx).andThen .now
  have tC : Looks (model prog w) s₁.heap (typeOf (.ref C)) (.type "type") := (Looks.ld hC).andThen .now
  unfold raisedInstance
  refine wpAny_bind (wpAny_bind (tO.here (wpAny_bind (tC.here ?_))))
  rw [if_pos (by rfl)]
  refine wpAny_pure ?_
  unfold setFlight raiseNew
  refine wpAny_bind (wpAny_bind (wpAny_field hx hd h1 ?_))
  rw [if_neg (by decide)]
  refine wpAny_pure (wpAny_bind (wpAny_handled ?_))
  rw [hh]
  first
    | exact wpAny_throw hE
    | exact wpAny_bind (wpAny_pure (wpAny_throw hE))
end
theorem turn_leave {h₀ g g' h' : Heap} {L L' : Addr} {m m' : Str → Option Value} {oL : Obj} {fs : List Addr} {news' : List (Addr × Obj)} (nL : h₀.get? L = none) (hfs : ∀ b ∈ fs, b = L) (hLg : g.get? L = some oL) (st : h₀.StaysIn g) (hab : h₀.objs.size ≤ L)
    (hNs : ∀ (sl : Array (Option Value)) h', h'.get? L = some { oL with slots := sl } → Heap.Ns h' L m) (T : KtsTurn fs g g') (F' : Fr g' L' h' m') (N' : News g' L' h' news') : Fr h₀ L h' m ∧ News h₀ L h' news' := by
  obtain ⟨sl, hs⟩ := T.up hLg
  refine ⟨⟨hNs sl _ (F'.keep _ _ hs), fun b o e => F'.keep b o (T.other b o (st b o e) fun q => by rw [hfs b q, nL] at e; cases e), hab⟩, fun p hp => ⟨(N' p hp).1, fun q => ?_, ?_⟩⟩
  · have := (N' p hp).2.2; rw [q, hs] at this; cases this
  · cases q : h₀.get? p.1 with
    | none => rfl
    | some o =>
      obtain ⟨sl', hs'⟩ := T.up (st _ _ q)
      have := (N' p hp).2.2
      rw [hs'] at this; cases this
theorem code_defSR {prog : Program} {w : World} {A₀ A : Around} {s : Shared} {base h₀ : Heap} {L a : Addr} {m : Str → Option Value} {cn : Str} {cs : Scope} {ccd : Value} {news : List (Addr × Obj)} {K : Frag} {p : Program} {loose : List Str} {mean : ExcName → Option Value} {mg mb : Str → Option Value}
    {R : Result → Shared → Prop} {name qual : Str} {params : Arguments} {body : List Stmt} {scope : Scope} {dV kV doc pm cdv ct oc : Value} {an od : Option Addr} {osl : Array (Option Value)} {f : Addr} {args : Args} {binds : List (Str × Value)}
    (B : Below A₀ base [] h₀) (F : Fr h₀ L s.heap m) (X₀ : K.In h₀) (N : News h₀ L s.heap news) (T : Top p loose mean mg mb h₀) (hA : A.frames = some [envOf cn cs L a ccd])
    (ho : K.lookup f = some ⟨oc, od, .func (fnOf name qual params body scope dV kV doc pm an cdv ct), osl⟩) (hcd : codeIn K cdv qual = true) (hroom : A.depth < recursionLimit)
    (hbind : BindsTo s (fnOf name qual params body scope dV kV doc pm an cdv ct) args binds) (hloc : ∀ y ∈ binds, scope.names.lookup y.1 = some .local)
    (h : ∀ g L' h₁, Fr h₀ L g m → Fr g L' h₁ (fun y => binds.reverse.lookup y) → News g L' h₁ news → Below A base [envOf cn cs L a ccd] g → K.In g → Top p loose mean mg mb g → KtsDicts ([envOf cn cs L a ccd].filterMap (·.frame)) g →
      (∀ b o, s.heap.get? b = some o → b ∉ news.map (·.1) → g.get? b = some o) → (∀ b o, s.heap.get? b = some o → b < L') →
      wpAny (model prog w) (A.deeper (envOf qual scope L' f cdv)) (execs body (envOf qual scope L' f cdv))
        (fun fl s' => LeaveS0 ([envOf cn cs L a ccd].filterMap (·.frame)) h₀ L m g R (match fl with | .ret v => v | _ => .none) s')
        (fun e s' => wpAny (model prog w) (A.deeper (envOf qual scope L' f cdv)) (leaving (envOf qual scope L' f cdv) e) (fun _ s'' => R (.error e) s'') (fun e' s'' => R (.error e') s'') s')
        { s with heap := h₁, toks := s.toks + binds.length })
    (hck : cs.kind = .function) (hco : scope.isCoroutine = false) (hgen : scope.isGenerator = false) (hk : scope.kind = .function)
    (hcell : ∀ x ∈ scope.names, x.2 ≠ .cell) : codeAny (model prog w) A (.call (.ref f) args) R s := by
  have X := X₀.keeps F.keep
  refine codeAny_call_def (fd := fnOf name qual params body scope dV kV doc pm an cdv ct) (body := body) (binds := binds) hroom (X _ _ ho) rfl (T.nolimit.keeps F.keep) (codeRec_of X hcd) rfl hbind hcell hloc (fun h₁ hns hk₁ => ?_) hco hgen hk
  obtain ⟨oL, es, ep, hLg, hLd, hN, hNs, st, B₂⟩ := kts_enter B F N hA hck
  refine wpAny_mono (h _ s.heap.objs.size h₁ ⟨hN _ hLg, st, F.above⟩ ⟨hns, fun b o e => hk₁ b o (of_hideAll _ e), Nat.le_of_eq (hideAll_size _ _)⟩
    (fun p hp => ⟨hk₁ _ _ (N p hp).1, Nat.ne_of_lt (Heap.lt_size (N p hp).1), hideAll_none _ (List.mem_map_of_mem hp)⟩) B₂ (X₀.keeps st) (T.keeps st) (fun b hb => by
      rcases kts_mem hb with rfl | z
      · exact ⟨oL, es, ep, hLg, hLd⟩
      · simp at z) (fun b o e hb => hideAll_get _ e hb) (fun b o e => Heap.lt_size e)) (fun fl s' hl => ?_) fun _ _ y => y
  obtain ⟨g', L', m', news', T', F', N', k⟩ := hl
  have z := turn_leave (kts_self F) (fun b q => by
    rcases kts_mem q with z | z
    · exact z
    · simp at z) hLg st F.above hNs T' F' N'
  exact k z.1 z.2
noncomputable def CtrO (prog : Program) (w : World) (K : Frag) (p : Program) (loose : List Str) (mean : ExcName → Option Value) (mg mb : Str → Option Value) (f : Addr) (D U : Nat) (vs : List Value) (pre : List (Addr × Obj)) (Post : Value → List (Addr × Obj) → Prop) : Prop :=
  ∀ (dp un : Nat) (gd : Option (List Code)) (cn : Str) (cs : Scope) (a : Addr) (ccd : Value) (A₀ : Around) (h₀ : Heap) (L : Addr) (m : Str → Option Value) (rest : List (Addr × Obj)) (s : Shared)
    (Q E : Value → Shared → Prop),
    Below A₀ h₀ [] h₀ → Fr h₀ L s.heap m → K.In h₀ → News h₀ L s.heap (pre ++ rest) → (∀ q ∈ rest, ∀ r ∈ pre, q.1 ≠ r.1) → Top p loose mean mg mb h₀ → cs.kind = .function → dp + D < recursionLimit → un + U < cLine →
    (∀ v pst h' tk', Post v pst → (∀ q ∈ rest, ∀ r ∈ pst, q.1 ≠ r.1) → Fr h₀ L h' m → News h₀ L h' (pst ++ rest) → Q v { s with heap := h', toks := tk' }) →
    wpAny (model prog w) (ktrTop dp un gd cn cs L a ccd [] []) (call (.ref f) vs) Q E s
theorem CtrO.use {prog : Program} {w : World} {K : Frag} {p : Program} {loose : List Str} {mean : ExcName → Option Value} {mg mb : Str → Option Value} {f : Addr} {D U : Nat} {vs : List Value} {pre : List (Addr × Obj)} {Post : Value → List (Addr × Obj) → Prop}
    {dp un : Nat} {gd : Option (List Code)} {cn : Str} {cs : Scope} {a : Addr} {ccd : Value} {A₀ : Around} {h₀ : Heap} {L : Addr} {m : Str → Option Value} {news rest : List (Addr × Obj)} {s : Shared} {Q E : Value → Shared → Prop}
    (C : CtrO prog w K p loose mean mg mb f D U vs pre Post) (B : Below A₀ h₀ [] h₀) (F : Fr h₀ L s.heap m) (X : K.In h₀) (N : News h₀ L s.heap news) (T : Top p loose mean mg mb h₀) (hk : cs.kind = .function)
    (hp : ∀ q ∈ pre, q ∈ news) (hR : Rest (pre.map (·.1)) news rest) (hd : dp + D < recursionLimit) (hu : un + U < cLine)
    (ret : ∀ v pst h' tk', Post v pst → (∀ q ∈ rest, ∀ r ∈ pst, q.1 ≠ r.1) → Fr h₀ L h' m → News h₀ L h' (pst ++ rest) → Q v { s with heap := h', toks := tk' }) :
    wpAny (model prog w) (ktrTop dp un gd cn cs L a ccd [] []) (call (.ref f) vs) Q E s :=
  C _ _ _ _ _ _ _ _ _ _ _ rest _ _ _ B F X (fun q hq => (List.mem_append.mp hq).elim (fun h => N q (hp q h)) fun h => N q (hR.sub q h))
    (fun q hq r hr e => hR.off q hq (List.mem_map.mpr ⟨r, hr, e.symm⟩)) T hk hd hu ret
theorem m_retO {h₀ g g' h h' : Heap} {L L' : Addr} {m m' : Str → Option Value} {fs : List Addr} {pre pst rest ng : List (Addr × Obj)} {s : Shared} {Q : Value → Shared → Prop} {Post : Value → List (Addr × Obj) → Prop} {v : Value} {tk' : Nat}
    (hret : ∀ v pst h' tk', Post v pst → (∀ q ∈ rest, ∀ r ∈ pst, q.1 ≠ r.1) → Fr h₀ L h' m → News h₀ L h' (pst ++ rest) → Q v { s with heap := h', toks := tk' })
    (hfs : ∀ b ∈ fs, b = L) (T : KtsTurn fs g g') (Fg : Fr g' L' h' m') (Ng : News g' L' h' ng) (kF : Fr h₀ L h' m) (kN : News h₀ L h' ng) (hr : ∀ p ∈ rest, g.get? p.1 = some p.2) (N : News h₀ L h (pre ++ rest)) (hs : ∀ p ∈ pst, p ∈ ng) (hP : Post v pst) :
    Q v { s with heap := h', toks := tk' } := by
  have hr' : ∀ p ∈ rest, g'.get? p.1 = some p.2 := fun p hp => T.other _ _ (hr p hp) fun q => (N p (List.mem_append_right _ hp)).2.1 (hfs _ q)
  exact m_ret hret Fg Ng kF kN hr' N hs hP
theorem in_of_fr {K : Frag} {h₀ h : Heap} {L : Addr} {m : Str → Option Value} (X : K.In h₀) (F : Fr h₀ L h m) : K.In h := X.keeps F.keep
theorem exc_isinst {prog : Program} {w : World} {A : Around} {K : Frag} {C fI e : Addr} {E : Value → Shared → Prop} {s : Shared} {oe : Obj} {Q : Value → Shared → Prop} (X : K.In s.heap) (Y : excCls K C fI = true) (hx : s.heap.get? e = some oe) (hc : oe.cls = .ref C) (h : Q (.bool true) s) :
    wpAny (model prog w) A (call (.builtin "isinstance") [.ref e, .type "ValueError"]) Q E s := by
  obtain ⟨⟨nm, q, N, bs, sn, sub, ab, col, dd, k0, k1, k2, k3, k5, hC, hcd, -⟩, -⟩ := excCls_of X Y
  have tO : Looks (model prog w) s.heap (typeOf (.ref e)) (.ref C) := hc ▸ (Looks.ld hx).andThen .now
  have hinst : Looks (model prog w) s.heap (isInstance (.ref e) (.type "ValueError")) true := tO.andThen (looks_mroIn X (by unfold mroIn; rw [hcd]; simp [veMro]))
  have hty : typeOf (.type "ValueError") = pure (.type "type") := by kernel_rfl
  refine PyProof.Rows.call_isinstance_of ?_ (by intro q; cases q)
  unfold Builtin.«isinstance.nested»
  refine wpAny_bind (m := typeOf (.ref e)) (tO.here ?_)
  rw [if_neg (by intro q; cases beq_iff_eq.mp q)]
  refine wpAny_bind (m := typeOf (.type "ValueError")) (wpAny_of_eq hty ?_)
  show wpAny _ _ (if (Value.type "type" == Value.type "type") = true then _ else _) _ _ s
  rw [if_pos (by decide)]
  refine wpAny_bind (wpAny_bind (m := isType (.type "ValueError")) (wpAny_pure (a := true) ?_))
  refine wpAny_bind (m := isInstance (.ref e) (.type "ValueError")) (hinst.here ?_)
  exact wpAny_pure (a := true) (wpAny_pure h)
theorem newsAt {h₀ h : Heap} {L d : Addr} {o : Obj} {news : List (Addr × Obj)} (N : News h₀ L h news) (hm : (d, o) ∈ news) : h.get? d = some o := (N _ hm).1
theorem mod30 {m : Int} : 0 < 1 + m.fmod 30 ∧ Bd 490 (1 + m.fmod 30) := by
  have h := fmod_nn (a := m) (b := 30) (by decide)
  exact ⟨by omega, .small (by omega) (by decide)⟩
theorem gcd_fmodE {x m : Int} (hm : 0 < m) : Int.gcd (x.fmod m) m = Int.gcd x m := by
  have hq := Int.mul_fdiv_add_fmod x m
  generalize x.fdiv m = q at hq
  generalize x.fmod m = r at hq ⊢
  rw [← hq, Int.add_comm (m * q) r, Int.gcd_add_mul_left_left]
theorem fmod_congr {n a b : Int} (hn : 0 < n) (h : n ∣ a - b) : a.fmod n = b.fmod n := by
  rw [Int.fmod_eq_emod_of_nonneg _ (by omega), Int.fmod_eq_emod_of_nonneg _ (by omega)]
  exact Int.emod_eq_emod_iff_emod_sub_eq_zero.mpr (Int.emod_eq_zero_of_dvd h)
theorem EInv.okE {oa ob a x lx y ly fx : Int} (h : EInv oa ob a 0 x lx y ly) (hx : fx = if lx < 0 then lx + ob else lx) (b1 : Bd 980 oa) (b2 : Bd 980 ob) : IntMulOk oa fx := by
  have p1 := h.fst hx
  have q1 : Bd 980 fx := by
    rcases p1.2 with q | q
    · exact .of_lt p1.1 q b2
    · exact .small (by omega) (by decide)
  exact mulOkB _ _ b1 q1 (by decide)
end Mine

set_option maxHeartbeats 4000000
namespace Mine
theorem code_defSX {prog : Program} {w : World} {A₀ A : Around} {s : Shared} {base h₀ : Heap} {L : Addr} {m : Str → Option Value} {env : Env} {news : List (Addr × Obj)} {K : Frag} {p : Program} {loose : List Str} {mean : ExcName → Option Value} {mg mb : Str → Option Value}
    {R : Result → Shared → Prop} {name qual : Str} {params : Arguments} {body : List Stmt} {scope : Scope} {dV kV doc pm cdv ct oc : Value} {an od : Option Addr} {osl : Array (Option Value)} {f : Addr} {args : Args} {binds : List (Str × Value)}
    (B : Below A₀ base [] h₀) (F : Fr h₀ L s.heap m) (X₀ : K.In h₀) (N : News h₀ L s.heap news) (T : Top p loose mean mg mb h₀) (hA : A.frames = some [env]) (hf : env.frame = some L) (hke : env.scope.kind = .function)
    (ho : K.lookup f = some ⟨oc, od, .func (fnOf name qual params body scope dV kV doc pm an cdv ct), osl⟩) (hcd : codeIn K cdv qual = true) (hroom : A.depth < recursionLimit)
    (hbind : BindsTo s (fnOf name qual params body scope dV kV doc pm an cdv ct) args binds) (hloc : ∀ y ∈ binds, scope.names.lookup y.1 = some .local)
    (h : ∀ g L' h₁, Fr h₀ L g m → Fr g L' h₁ (fun y => binds.reverse.lookup y) → News g L' h₁ news → Below A base [env] g → K.In g → Top p loose mean mg mb g → KtsDicts ([env].filterMap (·.frame)) g →
      (∀ b o, s.heap.get? b = some o → b ∉ news.map (·.1) → g.get? b = some o) → (∀ b o, s.heap.get? b = some o → b < L') →
      wpAny (model prog w) (A.deeper (envOf qual scope L' f cdv)) (execs body (envOf qual scope L' f cdv))
        (fun fl s' => LeaveS0 ([env].filterMap (·.frame)) h₀ L m g R (match fl with | .ret v => v | _ => .none) s')
        (fun e s' => wpAny (model prog w) (A.deeper (envOf qual scope L' f cdv)) (leaving (envOf qual scope L' f cdv) e) (fun _ s'' => R (.error e) s'') (fun e' s'' => R (.error e') s'') s')
        { s with heap := h₁, toks := s.toks + binds.length })
    (hco : scope.isCoroutine = false) (hgen : scope.isGenerator = false) (hk : scope.kind = .function)
    (hcell : ∀ x ∈ scope.names, x.2 ≠ .cell) : codeAny (model prog w) A (.call (.ref f) args) R s := by
  have X := X₀.keeps F.keep
  refine codeAny_call_def (fd := fnOf name qual params body scope dV kV doc pm an cdv ct) (body := body) (binds := binds) hroom (X _ _ ho) rfl (T.nolimit.keeps F.keep) (codeRec_of X hcd) rfl hbind hcell hloc (fun h₁ hns hk₁ => ?_) hco hgen hk
  obtain ⟨-, B₂, st, -⟩ := groundX (R := R) B F N hA hf hke
  obtain ⟨oL, es, ep, hL, hLd, hLk, hLf⟩ := F.ns
  have nL : L ∉ news.map (·.1) := fun q => by
    obtain ⟨p, hp, e⟩ := List.mem_map.mp q
    exact (N p hp).2.1 e
  have hLg := hideAll_get (news.map (·.1)) hL nL
  have hN : ∀ h', h'.get? L = some oL → Heap.Ns h' L m := fun h' e => ⟨oL, es, ep, e, hLd, hLk, hLf⟩
  have hNs : ∀ (sl : Array (Option Value)) h', h'.get? L = some { oL with slots := sl } → Heap.Ns h' L m := fun sl h' e => ⟨_, es, ep, e, hLd, hLk, hLf⟩
  have onlyL : ∀ b ∈ [env].filterMap (·.frame), b = L := fun b hb => by
    obtain ⟨e, he, hfe⟩ := List.mem_filterMap.mp hb
    rw [List.mem_singleton.mp he, hf] at hfe
    exact (Option.some.inj hfe).symm
  refine wpAny_mono (h _ s.heap.objs.size h₁ ⟨hN _ hLg, st, F.above⟩ ⟨hns, fun b o e => hk₁ b o (of_hideAll _ e), Nat.le_of_eq (hideAll_size _ _)⟩
    (fun p hp => ⟨hk₁ _ _ (N p hp).1, Nat.ne_of_lt (Heap.lt_size (N p hp).1), hideAll_none _ (List.mem_map_of_mem hp)⟩) B₂ (X₀.keeps st) (T.keeps st) (fun b hb => by
      rw [onlyL b hb]
      exact ⟨oL, es, ep, hLg, hLd⟩) (fun b o e hb => hideAll_get _ e hb) (fun b o e => Heap.lt_size e)) (fun fl s' hl => ?_) fun _ _ y => y
  obtain ⟨g', L', m', news', T', F', N', k⟩ := hl
  have z := turn_leave (kts_self F) onlyL hLg st F.above hNs T' F' N'
  exact k z.1 z.2
noncomputable def CtrOX (prog : Program) (w : World) (K : Frag) (p : Program) (loose : List Str) (mean : ExcName → Option Value) (mg mb : Str → Option Value) (f : Addr) (D U : Nat) (vs : List Value) (pre : List (Addr × Obj)) (Post : Value → List (Addr × Obj) → Prop) : Prop :=
  ∀ (dp un : Nat) (gd : Option (List Code)) (cn : Str) (cs : Scope) (a : Addr) (ccd : Value) (cl : List (Str × Addr)) (A₀ : Around) (h₀ : Heap) (L : Addr) (m : Str → Option Value) (rest : List (Addr × Obj)) (s : Shared)
    (Q E : Value → Shared → Prop),
    Below A₀ h₀ [] h₀ → Fr h₀ L s.heap m → K.In h₀ → News h₀ L s.heap (pre ++ rest) → (∀ q ∈ rest, ∀ r ∈ pre, q.1 ≠ r.1) → Top p loose mean mg mb h₀ → cs.kind = .function → dp + D < recursionLimit → un + U < cLine →
    (∀ v pst h' tk', Post v pst → (∀ q ∈ rest, ∀ r ∈ pst, q.1 ≠ r.1) → Fr h₀ L h' m → News h₀ L h' (pst ++ rest) → Q v { s with heap := h', toks := tk' }) →
    wpAny (model prog w) (ktrTop dp un gd cn cs L a ccd cl []) (call (.ref f) vs) Q E s
theorem CtrOX.use {prog : Program} {w : World} {K : Frag} {p : Program} {loose : List Str} {mean : ExcName → Option Value} {mg mb : Str → Option Value} {f : Addr} {D U : Nat} {vs : List Value} {pre : List (Addr × Obj)} {Post : Value → List (Addr × Obj) → Prop}
    {dp un : Nat} {gd : Option (List Code)} {cn : Str} {cs : Scope} {a : Addr} {ccd : Value} {cl : List (Str × Addr)} {A₀ : Around} {h₀ : Heap} {L : Addr} {m : Str → Option Value} {news rest : List (Addr × Obj)} {s : Shared} {Q E : Value → Shared → Prop}
    (C : CtrOX prog w K p loose mean mg mb f D U vs pre Post) (B : Below A₀ h₀ [] h₀) (F : Fr h₀ L s.heap m) (X : K.In h₀) (N : News h₀ L s.heap news) (T : Top p loose mean mg mb h₀) (hk : cs.kind = .function)
    (hp : ∀ q ∈ pre, q ∈ news) (hR : Rest (pre.map (·.1)) news rest) (hd : dp + D < recursionLimit) (hu : un + U < cLine)
    (ret : ∀ v pst h' tk', Post v pst → (∀ q ∈ rest, ∀ r ∈ pst, q.1 ≠ r.1) → Fr h₀ L h' m → News h₀ L h' (pst ++ rest) → Q v { s with heap := h', toks := tk' }) :
    wpAny (model prog w) (ktrTop dp un gd cn cs L a ccd cl []) (call (.ref f) vs) Q E s :=
  C _ _ _ _ _ _ _ _ _ _ _ _ rest _ _ _ B F X (fun q hq => (List.mem_append.mp hq).elim (fun h => N q (hp q h)) fun h => N q (hR.sub q h))
    (fun q hq r hr e => hR.off q hq (List.mem_map.mpr ⟨r, hr, e.symm⟩)) T hk hd hu ret
end Mine

namespace Mine
section
variable {prog : Program} {w : World} {A : Around} {E : Value → Shared → Prop} {s : Shared} {env : Env} {h₀ : Heap} {x : Str} {target : Expr} {body : List Stmt} {Q : Flow → Shared → Prop}
theorem m_listK {σ : Type} {l : Addr} {vs : List Value} {ns : List Int} {nn : Nat} {m₀ : Str → Option Value} {news : List (Addr × Obj)} (Led : σ → List (Addr × Obj)) (ps : σ → List (Str × Value)) (stored : List Str) (P : Nat → σ → Prop) (c₀ : σ)
    (hh : A.handled = none) (hl : ∀ c : σ, (l, listOf vs.toArray nn) ∈ Led c) (hi : IntsAre vs ns) (F : Fr h₀ env.locals s.heap m₀) (N : News h₀ env.locals s.heap news) (hL : ∀ p ∈ Led c₀, p ∈ news)
    (hk : ∀ p ∈ ps c₀, m₀ p.1 = some p.2) (hp : P 0 c₀)
    (turn : ∀ (c : σ) i n t (u : Str → Option Value) h tk own, ns[i]? = some n → OwnOff own ((Led c₀).map (·.1)) → P i c →
      Fr h₀ env.locals h (fun y => if y = x then some (.int n t) else kstB (fun z => if stored.contains z then u z else m₀ z) (ps c) y) → News h₀ env.locals h (Led c ++ own) →
      wpAny (model prog w) A (execs body env) (InvPostN h₀ env.locals (TurnS Led ps stored m₀ (P (i + 1))) own ((Led c₀).map (·.1)) { s with heap := h, toks := tk } Q) E { s with heap := h, toks := tk })
    (done : ∀ (c : σ) (u : Str → Option Value) h tk, P ns.length c → Fr h₀ env.locals h (kstB (fun z => if stored.contains z then u z else m₀ z) (ps c)) → News h₀ env.locals h (Led c) → Q .next { s with heap := h, toks := tk }) :
    wpAny (model prog w) A (pyIter (.ref l)) (fun it s₂ => LoopAtV prog w A h₀ env x body Q E it s₂) E s := by
  refine iter_invNL (fun i m nx => TurnS Led ps stored m₀ (P i) m nx) hh (hl c₀) hi F (fun p hp => N p (hL p hp)) ⟨c₀, rfl, hk, fun _ _ _ => rfl, hp⟩ ?_ ?_
  · rintro i n t m₁ nx h tk own hn _ hoff _ ⟨c, rfl, h1, h2, hp'⟩ F₁ N₁
    have em : m₁ = kstB (fun z => if stored.contains z then m₁ z else m₀ z) (ps c) := by
      funext y
      refine (kstB_eq h1 fun hn => ?_).symm
      show (if stored.contains y = true then m₁ y else m₀ y) = m₁ y
      cases h3 : stored.contains y with
      | true => rfl
      | false => exact (h2 y hn h3).symm
    have F₂ : Fr h₀ env.locals h (fun y => if y = x then some (.int n t) else kstB (fun z => if stored.contains z then m₁ z else m₀ z) (ps c) y) := by rw [← em]; exact F₁
    refine wpAny_mono (turn c i n t m₁ h tk own hn hoff hp' F₂ N₁) (fun f s₂ p => ?_) fun _ _ x => x
    have up : InvEndN h₀ env.locals (TurnS Led ps stored m₀ (P (i + 1))) own ((Led c₀).map (·.1)) { s with heap := h, toks := tk } s₂ →
        InvEndN h₀ env.locals (fun m' nx => (l, listOf vs.toArray nn) ∈ nx ∧ TurnS Led ps stored m₀ (P (i + 1)) m' nx) own ((Led c₀).map (·.1)) { s with heap := h, toks := tk } s₂ := by
      rintro ⟨h', tk', m', news', nx', e', F', N', hn', ho', ha, c', rfl, hr⟩
      exact ⟨h', tk', m', news', Led c', e', F', N', hn', ho', ha, hl c', c', rfl, hr⟩
    cases f with
    | ret v => exact p
    | brk => exact p
    | next => exact up p
    | cont => exact up p
  · rintro m₁ nx h tk _ ⟨c, rfl, h1, h2, hp'⟩ F₁ N₁
    exact done c m₁ h tk hp' (ksw_fr h1 h2 F₁) N₁

theorem loop_invK {I : Addr} {fp wr : List Addr} {n : Nat} {P Md : Nat → Value → Heap → Prop} {St : Nat → Heap → Prop} {m₀ : Str → Option Value} {news : List (Addr × Obj)} (J : Nat → (Str → Option Value) → List (Addr × Obj) → Prop) (keep : List (Addr × Obj))
    (W : KTurns prog w A target I fp wr n P Md St)
    (hLf : env.locals ∉ fp) (hwr : ∀ b ∈ wr, h₀.get? b = none) (hnw : ∀ p ∈ news, p.1 ∉ wr) (hfp : ∀ q ∈ news, q.1 ∈ fp → q ∈ keep) (hst : St 0 s.heap) (F : Fr h₀ env.locals s.heap m₀) (N : News h₀ env.locals s.heap news) (hj : J 0 m₀ news)
    (hJk : ∀ i m nx, J i m nx → ∀ q ∈ keep, q ∈ nx)
    (turn : ∀ i v m₁ news₁ h tk own, i < n → P i v h → news₁.map (·.1) = news.map (·.1) → OwnOff own (news.map (·.1)) → (∀ b ∈ fp, (∀ q ∈ keep, q.1 ≠ b) → h₀.get? b = none → ∀ o, h.get? b = some o → (b, o) ∈ own) → J i m₁ news₁ → Fr h₀ env.locals h m₁ → News h₀ env.locals h (news₁ ++ own) →
      wpAny (model prog w) A (assign target env v) (fun _ s₃ => wpAny (model prog w) A (execs body env) (InvPostN h₀ env.locals (J (i + 1)) own (news.map (·.1)) { s with heap := h, toks := tk } Q) E s₃) E { s with heap := h, toks := tk })
    (done : ∀ m₁ news₁ h tk, J n m₁ news₁ → Fr h₀ env.locals h m₁ → News h₀ env.locals h news₁ → Q .next { s with heap := h, toks := tk }) :
    TurnsAt prog w A h₀ env target body Q E (.ref I) s := by
  let J' : Nat → (Str → Option Value) → List (Addr × Obj) → Prop := fun i m₁ news₁ => news₁.map (·.1) = news.map (·.1) ∧ J i m₁ news₁
  refine ⟨I, fp, wr, n, _, _, St, m₀, news, J', rfl, W, hLf, hwr, hnw, hst, F, N, ⟨rfl, hj⟩, ?_, ?_⟩
  · rintro i v m₁ news₁ hh' tk' own hin hP ⟨hadr, hJ⟩ hoff hown hget hall _ F₁ N₁
    let own' := own.filter fun p => !(keep.any fun q => decide (q.1 = p.1))
    have hno : ∀ p ∈ own', ∀ q ∈ keep, q.1 ≠ p.1 := by
      intro p hp q hq e
      have h1 := (List.mem_filter.mp hp).2
      rw [Bool.not_eq_true'] at h1
      have h2 := List.any_eq_false.mp h1 q hq
      exact h2 (decide_eq_true e)
    have hsep : OwnOff own' (news.map (·.1)) := by
      intro p hp b hb e
      obtain ⟨q, hq, rfl⟩ := List.mem_map.mp hb
      have hpo := (List.mem_filter.mp hp).1
      exact hno p hp q (hfp q hq (e ▸ hown p hpo)) e.symm
    have N₂ : News h₀ env.locals hh' (news₁ ++ own') := fun p hp => N₁ p ((List.mem_append.mp hp).elim (fun h => List.mem_append.mpr (.inr h)) fun h => List.mem_append.mpr (.inl (List.mem_filter.mp h).1))
    refine wpAny_mono (turn i v m₁ news₁ hh' tk' own' hin hP hadr hsep (fun b hb hk hn o ho => List.mem_filter.mpr ⟨hall b hb hn o ho, ?_⟩) hJ F₁ N₂) (fun _ s₃ p => wpAny_mono p (fun f s₂ p => ?_) fun _ _ e => e) fun _ _ e => e
    · rw [Bool.not_eq_true']
      exact List.any_eq_false.mpr fun q hq e => hk q hq (of_decide_eq_true e)
    have fin : InvEndN h₀ env.locals (J (i + 1)) own' (news.map (·.1)) { s with heap := hh', toks := tk' } s₂ → LoopStepU h₀ env.locals wr own (J' (i + 1)) { s with heap := hh', toks := tk' } .next s₂ := by
      rintro ⟨h', tk, m', news', nx, e, F', N', hn, ho, ha, hm⟩
      refine ⟨rfl, h', tk, m', nx, e, F', fun p hp => ?_, fun p hp hq => ?_, ha, hm⟩
      · rcases List.mem_append.mp hp with hp | hp
        · by_cases hk : ∃ q ∈ keep, q.1 = p.1
          · obtain ⟨q, hq, he⟩ := hk
            have h1 := hget p hp
            have h2 := (N₁ q (List.mem_append.mpr (.inr (hJk _ _ _ hJ q hq)))).1
            have h3 : q = p := by
              obtain ⟨qa, qo⟩ := q
              obtain ⟨pa, po⟩ := p
              have he' : qa = pa := he
              subst he'
              have h4 : qo = po := Option.some.inj (h2.symm.trans h1)
              rw [h4]
            exact N' p (hn p (h3 ▸ hJk _ _ _ hm q hq))
          · refine N' p (ho p (List.mem_filter.mpr ⟨hp, ?_⟩))
            rw [Bool.not_eq_true']
            exact List.any_eq_false.mpr fun q hq e => hk ⟨q, hq, of_decide_eq_true e⟩
        · exact N' p (hn p hp)
      · have h1 : p.1 ∈ nx.map (·.1) := List.mem_map.mpr ⟨p, hp, rfl⟩
        rw [ha, ← hadr] at h1
        obtain ⟨q, hq1, hq2⟩ := List.mem_map.mp h1
        exact hoff q hq1 (by rw [hq2]; exact hq)
    cases f with
    | ret v => exact .ret p
    | brk => exact .brk p
    | next => exact .next (fin p)
    | cont => exact .cont (fin p)
  · rintro h' tk m' news' F' N' _ ⟨_, hJ⟩
    exact done m' news' h' tk hJ F' N'

theorem intsAre_at {vs : List Value} {ns : List Int} (h : IntsAre vs ns) {i : Nat} {v : Value} (e : vs[i]? = some v) : ∃ n t, v = .int n t ∧ ns[i]? = some n := h.at i v e
theorem m_zip {σ : Type} {elts : List Expr} {k : Nat} {pos : Pos} {l1 l2 : Addr} {xs ys : List Value} {ns ms : List Int} {n1 n2 : Nat} {m₀ : Str → Option Value} {news : List (Addr × Obj)} (Led : σ → List (Addr × Obj)) (ps : σ → List (Str × Value)) (stored : List Str) (P : Nat → σ → Prop) (c₀ : σ)
    (hh : A.handled = none) (hl1 : ∀ c : σ, (l1, listOf xs.toArray n1) ∈ Led c) (hl2 : ∀ c : σ, (l2, listOf ys.toArray n2) ∈ Led c) (hi1 : IntsAre xs ns) (hi2 : IntsAre ys ms) (F : Fr h₀ env.locals s.heap m₀) (N : News h₀ env.locals s.heap news) (hL : ∀ p ∈ Led c₀, p ∈ news)
    (hk : ∀ p ∈ ps c₀, m₀ p.1 = some p.2) (hp : P 0 c₀)
    (turn : ∀ (c : σ) i n m t1 t2 T (u : Str → Option Value) h tk own, ns[i]? = some n → ms[i]? = some m → OwnOff own ((Led c₀).map (·.1)) → P i c → IsTup h T #[.int n t1, .int m t2] →
      Fr h₀ env.locals h (kstB (fun z => if stored.contains z then u z else m₀ z) (ps c)) → News h₀ env.locals h (Led c ++ own) →
      wpAny (model prog w) A (assign (.Tuple elts k pos) env (.ref T)) (fun _ s₃ => wpAny (model prog w) A (execs body env) (InvPostN h₀ env.locals (TurnS Led ps stored m₀ (P (i + 1))) own ((Led c₀).map (·.1)) { s with heap := h, toks := tk } Q) E s₃) E { s with heap := h, toks := tk })
    (done : ∀ (c : σ) (u : Str → Option Value) h tk, P (min ns.length ms.length) c → Fr h₀ env.locals h (kstB (fun z => if stored.contains z then u z else m₀ z) (ps c)) → News h₀ env.locals h (Led c) → Q .next { s with heap := h, toks := tk }) :
    wpAny (model prog w) A (call (.type "zip") [.ref l1, .ref l2]) (fun xv s₁ => wpAny (model prog w) A (pyIter xv) (fun it s₂ => TurnsAt prog w A h₀ env (.Tuple elts k pos) body Q E it s₂) E s₁) E s := by
  have N0 : News h₀ env.locals s.heap (Led c₀) := fun p hp => N p (hL p hp)
  have hax1 := N0 _ (hl1 c₀)
  have hax2 := N0 _ (hl2 c₀)
  have hls1 : s.heap.IsList l1 xs.toArray := ⟨_, hax1.1, rfl, n1, rfl⟩
  have hls2 : s.heap.IsList l2 ys.toArray := ⟨_, hax2.1, rfl, n2, rfl⟩
  have hlt1 : l1 < s.heap.objs.size := Heap.lt_size hax1.1
  have hlt2 : l2 < s.heap.objs.size := Heap.lt_size hax2.1
  have hLs : env.locals < s.heap.objs.size := F.ns.lt
  have D : ZipApart (s.heap.objs.size + 4) (s.heap.objs.size + 2) (s.heap.objs.size + 3) s.heap.objs.size (s.heap.objs.size + 1) l1 l2 := ktu_apart _ _ _ hlt1 hlt2
  refine call_zip_2 hls1 hls2 fun h' hz hTI hTO hit1 hit2 hsz hkp => ?_
  refine wpAny_pyIter_zip hz ?_
  have W := KTurns.ofWalksU (elts := elts) (k := k) (pos := pos) (WalksT.zip2 (prog := prog) (w := w) hh _ _ _ _ _ _ _ D xs.toArray ys.toArray).toU
  have hmin : min xs.toArray.size ys.toArray.size = min ns.length ms.length := by
    have e1 := hi1.length
    have e2 := hi2.length
    simp only [List.size_toArray]
    omega
  rw [hmin] at W
  have memf : ∀ b : Addr, b ∈ [s.heap.objs.size + 4, s.heap.objs.size + 2, s.heap.objs.size + 3, s.heap.objs.size, s.heap.objs.size + 1, l1, l2] → b < s.heap.objs.size → b = l1 ∨ b = l2 := by
    intro b hb hlt
    simp only [List.mem_cons, List.not_mem_nil, or_false] at hb
    rcases hb with e | e | e | e | e | e | e
    · exact absurd hlt (Nat.not_lt.mpr (by rw [e]; exact Nat.le_add_right _ _))
    · exact absurd hlt (Nat.not_lt.mpr (by rw [e]; exact Nat.le_add_right _ _))
    · exact absurd hlt (Nat.not_lt.mpr (by rw [e]; exact Nat.le_add_right _ _))
    · exact absurd hlt (Nat.not_lt.mpr (by rw [e]; exact Nat.le_refl _))
    · exact absurd hlt (Nat.not_lt.mpr (by rw [e]; exact Nat.le_add_right _ _))
    · exact .inl e
    · exact .inr e
  have memw : ∀ b : Addr, b ∈ [s.heap.objs.size + 4, s.heap.objs.size + 3, s.heap.objs.size, s.heap.objs.size + 1] → s.heap.objs.size ≤ b := by
    intro b hb
    simp only [List.mem_cons, List.not_mem_nil, or_false] at hb
    rcases hb with e | e | e | e <;> (rw [e]; first | exact Nat.le_add_right _ _ | exact Nat.le_refl _)
  refine loop_invK (s := { s with heap := h', toks := s.toks }) (news := Led c₀) (m₀ := m₀) (fun i m nx => TurnS Led ps stored m₀ (P i) m nx) [(l1, listOf xs.toArray n1), (l2, listOf ys.toArray n2)] W ?_ ?_ ?_ ?_ ?_ (F.keeps hkp) (N0.grown hkp) ⟨c₀, rfl, hk, fun _ _ _ => rfl, hp⟩ ?_ ?_ ?_
  · intro hm
    rcases memf _ hm hLs with e | e
    · exact hax1.2.1 e.symm
    · exact hax2.2.1 e.symm
  · intro b hb
    exact ktu_new F (memw b hb)
  · intro p hp hb
    exact absurd (Heap.lt_size (N0 p hp).1) (Nat.not_lt.mpr (memw _ hb))
  · intro q hq hb
    have hlt := Heap.lt_size (N0 q hq).1
    obtain ⟨qa, qo⟩ := q
    have hq1 := (N0 _ hq).1
    rcases memf _ hb hlt with e | e
    · have e' : qa = l1 := e
      subst e'
      have h4 : listOf xs.toArray n1 = qo := Option.some.inj (hax1.1.symm.trans hq1)
      rw [← h4]
      exact .head _
    · have e' : qa = l2 := e
      subst e'
      have h4 : listOf ys.toArray n2 = qo := Option.some.inj (hax2.1.symm.trans hq1)
      rw [← h4]
      exact .tail _ (.head _)
  · exact ⟨hz, hTI, ⟨_, _, hTO⟩, hit1, hit2, hls1.at fun o e => hkp l1 o e, hls2.at fun o e => hkp l2 o e⟩
  · rintro i m nx ⟨c, rfl, -⟩ q hq
    simp only [List.mem_cons, List.not_mem_nil, or_false] at hq
    rcases hq with rfl | rfl
    · exact hl1 c
    · exact hl2 c
  · rintro i v m₁ nx h tk own hin ⟨T, vals, rfl, ⟨a, b, ha, hb, rfl⟩, hT⟩ _ hoff _ ⟨c, rfl, h1, h2, hp'⟩ F₁ N₁
    obtain ⟨n, t1, rfl, hn⟩ := intsAre_at hi1 (i := i) (v := a) (by simpa using ha)
    obtain ⟨m, t2, rfl, hm⟩ := intsAre_at hi2 (i := i) (v := b) (by simpa using hb)
    exact turn c i n m t1 t2 T m₁ h tk own hn hm hoff hp' hT (ksw_fr h1 h2 F₁) N₁
  · rintro m₁ nx h tk ⟨c, rfl, h1, h2, hp'⟩ F₁ N₁
    exact done c m₁ h tk hp' (ksw_fr h1 h2 F₁) N₁
end
section
 open PyProof.Rows.LCg PyProof.Rows.LCt
variable {prog : Program} {w : World} {A : Around} {s : Shared} {h₀ : Heap} {L : Addr} {m : Str → Option Value} {env : Env}
theorem comp_ind {σ : Type} (Led : σ → List (Addr × Obj)) {elt : Expr} {x : Str} {scope : Scope} {cl : List (Str × Addr)} {S : List (Addr × Obj) → Prop} {P : Nat → Value → Prop} {Fin : List Value → List (Addr × Obj) → Prop} {n : Nat} (J : Nat → List Value → σ → Prop) (c₀ : σ) {news : List (Addr × Obj)} (hnews : news = Led c₀) (h0 : J 0 [] c₀)
    (turn : ∀ i ys c (R' : List Value → σ → Prop), i < n → J i ys c → (∀ ys' c', J (i + 1) ys' c' → R' ys' c') → ∀ v I oI C oC D m₂ h tk (E' : Value → Shared → Prop), P i v → NsObj oC m₂ → m₂ x = some v → Fr h₀ L h m → News h₀ L h ((I, oI) :: (C, oC) :: (D, lst ys) :: Led c) → Off3 I C D (Led c) → ((@Ne Nat I C) ∧ (@Ne Nat I D) ∧ (@Ne Nat C D)) →
      wpAny (model prog w) A (eval elt (compEnvC scope cl C env)) (CompEnd h₀ L m { s with heap := h, toks := tk } I oI C oC D (lst ys) S (fun y news' => ∃ c', news' = Led c' ∧ R' (ys ++ [y]) c')) E' { s with heap := h, toks := tk })
    (fin : ∀ ys c, J n ys c → Fin ys (Led c)) : CompRest prog w A h₀ L m env elt x scope cl s S P Fin n 0 [] news := by
  subst hnews
  have key : ∀ k i ys c, i + k = n → J i ys c → CompRest prog w A h₀ L m env elt x scope cl s S P Fin k i ys (Led c) := by
    intro k
    induction k with
    | zero => intro i ys c hi hj; exact .zero (fin ys c (by simpa using hi ▸ hj))
    | succ k ih =>
      intro i ys c hi hj
      refine .succ fun v I oI C oC D m₂ h tk E' a b c1 d e f g => ?_
      refine wpAny_mono (turn i ys c (fun ys' c' => CompRest prog w A h₀ L m env elt x scope cl s S P Fin k (i + 1) ys' (Led c')) (by omega) hj (fun ys' c' hy => ih _ _ _ (by omega) hy) v I oI C oC D m₂ h tk E' a b c1 d e f g) (fun y s' z => compEnd_mono z ?_) fun _ _ z => z
      rintro n' ⟨c', rfl, r⟩
      exact r
  exact key n 0 [] c₀ (by omega) h0
end
theorem own_app {own own2 : List (Addr × Obj)} {a1 a2 adr : List Addr} (h1 : OwnOff own a1) (h2 : OwnOff own2 a2) (k1 : ∀ b ∈ adr, b ∈ a1) (k2 : ∀ b ∈ adr, b ∈ a2) : OwnOff (own ++ own2) adr := fun p hp b hb => (List.mem_append.mp hp).elim (fun h => h1 p h b (k1 b hb)) fun h => h2 p h b (k2 b hb)
theorem all_app {ns : List Int} {n : Int} {P : Int → Prop} (h : ∀ x ∈ ns, P x) (hn : P n) : ∀ x ∈ ns ++ [n], P x := fun x hx => (List.mem_append.mp hx).elim (h x) fun e => (List.mem_singleton.mp e) ▸ hn
theorem allNe_all {d : Addr} : ∀ {l : List (Addr × Obj)}, AllNe d l → ∀ q ∈ l, @Ne Nat q.1 d
  | [], _, q, hq => nomatch hq
  | p :: r, h, q, hq => by
    rcases List.mem_cons.mp hq with rfl | hq
    · exact h.1
    · exact allNe_all h.2 q hq
noncomputable abbrev tlN {h₀ h : Heap} {L : Addr} {l : List (Addr × Obj)} (_ : News h₀ L h l) (k : Nat) : List (Addr × Obj) := l.drop k
noncomputable abbrev hdN {h₀ h : Heap} {L : Addr} {l : List (Addr × Obj)} (_ : News h₀ L h l) (k : Nat) : List (Addr × Obj) := l.take k
noncomputable def adL : List (Addr × Obj) → Nat → Addr
  | [], _ => 0
  | p :: _, 0 => p.1
  | _ :: r, k + 1 => adL r k
noncomputable abbrev adN {h₀ h : Heap} {L : Addr} {l : List (Addr × Obj)} (_ : News h₀ L h l) (k : Nat) : Addr := adL l k
noncomputable abbrev sndL {a b : Nat} (_ : a < b) : Nat := b
theorem item_ints {prog : Program} {w : World} {A : Around} {E Q : Value → Shared → Prop} {s : Shared} {h₀ : Heap} {L : Addr} {news : List (Addr × Obj)} {value slice : PySem.Expr} {l : Addr} {vs : List Value} {ns : List Int} {nn : Nat} {k n : Int} {u : Tok} (i : Nat)
    (N : News h₀ L s.heap news) (hm : (l, listOf vs.toArray nn) ∈ news) (hi : IntsAre vs ns) (hk : k = (i : Int)) (hn : ns[i]? = some n) (hf : i < 2 ^ 63)
    (hs : subscripted slice false (.ref l) (.int k u) = operate [.ref l, .int k u] (getItem (.ref l) (.int k u)) := by with_unfolding_all rfl)
    (h : ∀ t, Q (.int n t) s) : wpAny (model prog w) A (subscriptTail value slice (.ref l) (.int k u)) Q E s := by
  have hl : s.heap.IsList l vs.toArray := ⟨_, (N _ hm).1, rfl, nn, rfl⟩
  have hv : ∃ t, vs[i]? = some (.int n t) := by
    have hlt : i < vs.length := by rw [hi.length]; exact (List.getElem?_eq_some_iff.mp hn).1
    obtain ⟨m, t, e, hm'⟩ := hi.at i vs[i] (List.getElem?_eq_getElem hlt)
    rw [hn] at hm'
    obtain rfl := Option.some.inj hm'
    exact ⟨t, by rw [List.getElem?_eq_getElem hlt, e]⟩
  obtain ⟨t, hv⟩ := hv
  subst hk
  refine tail_any hl.typeIs slot_list_getitem.lookup (wpAny_getItem_list hl (Int.natCast_nonneg i) (by omega) ?_ (h t)) hs
  rw [Int.toNat_natCast, List.getElem?_toArray]
  exact hv
theorem len_at {prog : Program} {w : World} {A : Around} {E Q : Value → Shared → Prop} {s : Shared} {h₀ : Heap} {L : Addr} {news : List (Addr × Obj)} {l : Addr} {vs : List Value} {nn : Nat} (n : Nat)
    (N : News h₀ L s.heap news) (hm : (l, listOf vs.toArray nn) ∈ news) (hn : vs.length = n) (hf : n < 2 ^ 63)
    (h : Q (.int (n : Int) (s.toks + 1)) { s with toks := s.toks + 1 + 1 }) : wpAny (model prog w) A (call (.builtin "len") [.ref l]) Q E s := by
  subst hn
  refine PyProof.Rows.len_list (items := vs.toArray) ⟨_, (N _ hm).1, rfl, nn, rfl⟩ ?_ ?_
  · rw [List.size_toArray]; omega
  · rw [List.size_toArray]; exact h
end Mine

namespace Mine
noncomputable def prodI : List Int → Int
  | [] => 1
  | n :: r => n * prodI r
noncomputable def coI (ms : List Int) (n : Int) : Int := (prodI ms).fdiv n
theorem prodI_app : ∀ (l r : List Int), prodI (l ++ r) = prodI l * prodI r
  | [], r => by simp [prodI]
  | n :: l, r => by
    show n * prodI (l ++ r) = n * prodI l * prodI r
    rw [prodI_app l r, Int.mul_assoc]
theorem prodI_take {ms : List Int} {i : Nat} {n : Int} (h : ms[i]? = some n) : prodI (ms.take (i + 1)) = prodI (ms.take i) * n := by
  rw [List.take_add_one, h, Option.toList_some, prodI_app]
  simp [prodI]
theorem prodI_pos : ∀ {ms : List Int}, (∀ n ∈ ms, 1 ≤ n ∧ n ≤ 400) → 0 < prodI ms
  | [], _ => by decide
  | n :: r, h => Int.mul_pos (by have := h n (.head _); omega) (prodI_pos fun k hk => h k (.tail _ hk))
theorem prodI_le : ∀ {ms : List Int}, (∀ n ∈ ms, 1 ≤ n ∧ n ≤ 400) → prodI ms ≤ 400 ^ ms.length
  | [], _ => by decide
  | n :: r, h => by
    have h1 := prodI_le (ms := r) fun k hk => h k (.tail _ hk)
    have h0 := prodI_pos (ms := r) fun k hk => h k (.tail _ hk)
    obtain ⟨a, b⟩ := h n (.head _)
    show n * prodI r ≤ 400 ^ (r.length + 1)
    rw [Int.pow_succ]
    calc n * prodI r ≤ 400 * prodI r := Int.mul_le_mul_of_nonneg_right b (Int.le_of_lt h0)
      _ ≤ 400 * 400 ^ r.length := Int.mul_le_mul_of_nonneg_left h1 (by decide)
      _ = 400 ^ r.length * 400 := Int.mul_comm _ _
theorem pow5 : ∀ {k : Nat}, k ≤ 5 → (400 : Int) ^ k ≤ 10240000000000
  | 0, _ => by decide
  | 1, _ => by decide
  | 2, _ => by decide
  | 3, _ => by decide
  | 4, _ => by decide
  | 5, _ => by decide
  | k + 6, h => absurd h (by omega)
theorem prodI_bd {ms : List Int} (h : ∀ n ∈ ms, 1 ≤ n ∧ n ≤ 400) (hl : ms.length ≤ 5) : 0 < prodI ms ∧ prodI ms ≤ 10240000000000 := ⟨prodI_pos h, Int.le_trans (prodI_le h) (pow5 hl)⟩
theorem prodI_bdT {ms : List Int} (h : ∀ n ∈ ms, 1 ≤ n ∧ n ≤ 400) (hl : ms.length ≤ 5) (i : Nat) : 0 < prodI (ms.take i) ∧ prodI (ms.take i) ≤ 10240000000000 :=
  prodI_bd (fun n hn => h n (List.mem_of_mem_take hn)) (by rw [List.length_take]; omega)
theorem prodI_dvd : ∀ {ms : List Int} {n : Int}, n ∈ ms → n ∣ prodI ms
  | m :: r, n, h => by
    rcases List.mem_cons.mp h with rfl | h
    · exact ⟨prodI r, rfl⟩
    · obtain ⟨q, hq⟩ := prodI_dvd h
      exact ⟨m * q, by show m * prodI r = _; rw [hq]; grind⟩
theorem prodI_two : ∀ {ms : List Int} {i j : Nat} {n k : Int}, i < j → ms[i]? = some n → ms[j]? = some k → ∃ q, prodI ms = n * (k * q)
  | [], _, _, _, _, _, h, _ => by simp at h
  | m :: r, 0, j + 1, n, k, _, h1, h2 => by
    obtain rfl : m = n := by simpa using h1
    obtain ⟨q, hq⟩ := prodI_dvd (List.mem_of_getElem? (by simpa using h2 : r[j]? = some k))
    exact ⟨q, by show m * prodI r = _; rw [hq]⟩
  | m :: r, i + 1, j + 1, n, k, hij, h1, h2 => by
    obtain ⟨q, hq⟩ := prodI_two (by omega : i < j) (by simpa using h1 : r[i]? = some n) (by simpa using h2 : r[j]? = some k)
    exact ⟨m * q, by show m * prodI r = _; rw [hq]; grind⟩
theorem coI_mul {ms : List Int} {n : Int} (h : n ∈ ms) (h0 : 1 ≤ n) : prodI ms = n * coI ms n := by
  obtain ⟨q, hq⟩ := prodI_dvd h
  unfold coI
  rw [hq, Int.mul_fdiv_cancel_left q (by omega)]
theorem coI_dvd {ms : List Int} {i j : Nat} {n k : Int} (hij : i ≠ j) (hi : ms[i]? = some n) (hj : ms[j]? = some k) (h0 : 1 ≤ n) : k ∣ coI ms n := by
  have e : ∃ q, prodI ms = n * (k * q) := by
    rcases Nat.lt_or_gt_of_ne hij with h | h
    · exact prodI_two h hi hj
    · obtain ⟨q, hq⟩ := prodI_two h hj hi
      exact ⟨q, by rw [hq]; grind⟩
  obtain ⟨q, hq⟩ := e
  unfold coI
  rw [hq, Int.mul_fdiv_cancel_left _ (by omega)]
  exact ⟨q, rfl⟩
theorem coI_bd {ms : List Int} {n : Int} (h : ∀ n ∈ ms, 1 ≤ n ∧ n ≤ 400) (hl : ms.length ≤ 5) (hn : n ∈ ms) : 0 < coI ms n ∧ coI ms n ≤ 10240000000000 := by
  obtain ⟨p0, p1⟩ := prodI_bd h hl
  obtain ⟨h0, -⟩ := h n hn
  have e := coI_mul hn h0
  have hc : 0 < coI ms n := by
    by_cases h : 0 < coI ms n
    · exact h
    · have : n * coI ms n ≤ 0 := Int.mul_nonpos_of_nonneg_of_nonpos (by omega) (by omega)
      omega
  refine ⟨hc, ?_⟩
  have : 1 * coI ms n ≤ n * coI ms n := Int.mul_le_mul_of_nonneg_right h0 (Int.le_of_lt hc)
  omega
noncomputable def AllC (ms : List Int) : Prop := ∀ (j : Nat) (k : Int), ms[j]? = some k → Int.gcd (coI ms k) k = 1
noncomputable def FirstC (ms : List Int) (i : Nat) : Prop := ∀ (j : Nat) (k : Int), j < i → ms[j]? = some k → Int.gcd (coI ms k) k = 1
theorem FirstC.zero {ms : List Int} : FirstC ms 0 := fun _ _ h => absurd h (Nat.not_lt_zero _)
theorem FirstC.succ {ms : List Int} {i : Nat} {n : Int} (h : FirstC ms i) (hi : ms[i]? = some n) (hg : Int.gcd (coI ms n) n = 1) : FirstC ms (i + 1) := fun j k hj hk => by
  by_cases e : j = i
  · subst e
    rw [hi] at hk
    exact Option.some.inj hk ▸ hg
  · exact h j k (by omega) hk
theorem FirstC.all {ms : List Int} (h : FirstC ms ms.length) : AllC ms := fun j k hk => h j k (List.getElem?_eq_some_iff.mp hk).1 hk
structure CInv (as ms : List Int) (i : Nat) (x : Int) : Prop where
  lo : 0 ≤ x
  hi : x < prodI ms
  done : ∀ (j : Nat) (a n : Int), j < i → as[j]? = some a → ms[j]? = some n → n ∣ x - a
  left : ∀ (j : Nat) (n : Int), i ≤ j → ms[j]? = some n → n ∣ x
theorem CInv.start {as ms : List Int} (h : ∀ n ∈ ms, 1 ≤ n ∧ n ≤ 400) : CInv as ms 0 0 := ⟨Int.le_refl _, prodI_pos h, fun _ _ _ h => absurd h (Nat.not_lt_zero _), fun _ _ _ _ => ⟨0, by simp⟩⟩
theorem dvd_fmod {m k x : Int} (h : k ∣ m) : k ∣ x.fmod m - x := by
  obtain ⟨q, hq⟩ := h
  rw [Int.fmod_def]
  exact ⟨-(q * x.fdiv m), by rw [hq]; grind⟩
theorem CInv.step {as ms : List Int} {i : Nat} {x a n v : Int} (hb : ∀ n ∈ ms, 1 ≤ n ∧ n ≤ 400) (I : CInv as ms i x) (ha : as[i]? = some a) (hn : ms[i]? = some n) (hv : n ∣ v * coI ms n - 1) : CInv as ms (i + 1) ((x + a * coI ms n * v).fmod (prodI ms)) := by
  have hm := prodI_pos hb
  have hn1 := (hb n (List.mem_of_getElem? hn)).1
  obtain ⟨f1, f2⟩ := fmod_nn (a := x + a * coI ms n * v) hm
  have dp : ∀ (j : Nat) (k : Int), ms[j]? = some k → k ∣ (x + a * coI ms n * v).fmod (prodI ms) - (x + a * coI ms n * v) := fun j k hk => dvd_fmod (prodI_dvd (List.mem_of_getElem? hk))
  refine ⟨f1, f2, fun j b k hj hb' hk => ?_, fun j k hj hk => ?_⟩
  · obtain ⟨u, hu⟩ := dp j k hk
    by_cases e : j = i
    · subst e
      rw [hn] at hk
      obtain rfl := Option.some.inj hk
      rw [ha] at hb'
      obtain rfl := Option.some.inj hb'
      obtain ⟨y, hy⟩ := I.left j n (Nat.le_refl _) hn
      obtain ⟨z, hz⟩ := hv
      exact ⟨u + y + a * z, by grind⟩
    · obtain ⟨y, hy⟩ := I.done j b k (by omega) hb' hk
      obtain ⟨z, hz⟩ := coI_dvd (Ne.symm e) hn hk hn1
      exact ⟨u + y + a * z * v, by grind⟩
  · obtain ⟨u, hu⟩ := dp j k hk
    obtain ⟨y, hy⟩ := I.left j k (by omega) hk
    obtain ⟨z, hz⟩ := coI_dvd (by omega : i ≠ j) hn hk hn1
    exact ⟨u + y + a * z * v, by grind⟩
theorem CInv.out {as ms : List Int} {x : Int} (hl : ms.length ≤ as.length) (I : CInv as ms (min ms.length as.length) x) : ∀ (k : Nat) (a n : Int), as[k]? = some a → ms[k]? = some n → n ∣ x - a := fun k a n ha hn =>
  I.done k a n (by have := (List.getElem?_eq_some_iff.mp hn).1; omega) ha hn
theorem mod35 : ∀ n ∈ ([3, 5] : List Int), 1 ≤ n ∧ n ≤ 400 := by
  intro n hn
  simp only [List.mem_cons, List.not_mem_nil, or_false] at hn
  rcases hn with rfl | rfl <;> decide
theorem num23 : ∀ x ∈ ([2, 3] : List Int), Bd 310 x := by
  intro x hx
  simp only [List.mem_cons, List.not_mem_nil, or_false] at hx
  rcases hx with rfl | rfl <;> exact Bd.small (by decide) (by decide)
theorem allC35 : AllC [3, 5] := by
  intro j k hj
  match j, hj with
  | 0, hj =>
    have e : (3 : Int) = k := by simpa using hj
    subst e
    decide
  | 1, hj =>
    have e : (5 : Int) = k := by simpa using hj
    subst e
    decide
  | j + 2, hj => simp at hj
theorem crt8 {r : Int} (h0 : 0 ≤ r) (h1 : r < prodI [3, 5]) (h2 : ∀ (k : Nat) (a n : Int), ([2, 3] : List Int)[k]? = some a → ([3, 5] : List Int)[k]? = some n → n ∣ r - a) : r = 8 := by
  have h3 : r < 15 := h1
  obtain ⟨x, hx⟩ := h2 0 2 3 rfl rfl
  obtain ⟨y, hy⟩ := h2 1 3 5 rfl rfl
  omega
theorem pick3 {r : Int} (h0 : 0 ≤ r) (h1 : r < 3) : ([1, 1, -1] : List Int).getD r.toNat 0 = 1 ∨ ([1, 1, -1] : List Int).getD r.toNat 0 = -1 := by
  have : r = 0 ∨ r = 1 ∨ r = 2 := by omega
  rcases this with rfl | rfl | rfl
  · exact .inl rfl
  · exact .inl rfl
  · exact .inr rfl
theorem pick3_bd {r : Int} {k : Nat} (h0 : 0 ≤ r) (h1 : r < 3) (hk : 32 ≤ k) : Bd k (([1, 1, -1] : List Int).getD r.toNat 0) := by
  rcases pick3 h0 h1 with e | e <;> (rw [e]; exact Bd.small (by decide) hk)
theorem pick3_mul {r x : Int} (h0 : 0 ≤ r) (h1 : r < 3) (hx : Bd 300 x) : Bd 310 (x * ([1, 1, -1] : List Int).getD r.toNat 0) := by
  rcases pick3 h0 h1 with e | e
  · rw [e, Int.mul_one]; exact hx.mono (by decide)
  · have e2 : x * (-1 : Int) = -x := by omega
    rw [e, e2]; exact (Bd.neg hx).mono (by decide)
noncomputable def partsI (ms : List Int) (i : Nat) : List Int := (ms.take i).map fun n => (Int.gcd (coI ms n) n : Int)
theorem partsI_succ {ms : List Int} {i : Nat} {n : Int} (h : ms[i]? = some n) : partsI ms (i + 1) = partsI ms i ++ [(Int.gcd (coI ms n) n : Int)] := by
  unfold partsI
  rw [List.take_add_one, h, Option.toList_some, List.map_append]
  rfl
theorem partsI_len (ms : List Int) : (partsI ms ms.length).length = ms.length := by
  unfold partsI
  rw [List.length_map, List.take_length]
theorem partsI_get {ms : List Int} {k : Nat} {n : Int} (h : ms[k]? = some n) : (partsI ms ms.length)[k]? = some (Int.gcd (coI ms n) n : Int) := by
  unfold partsI
  rw [List.take_length, List.getElem?_map, h]
  rfl
noncomputable def WInv (zs ws : List Int) (i : Nat) : Prop := (ws = [] ∧ ∀ j, j < i → zs.getD j 0 = 1) ∨ ∃ (k : Nat) (r : List Int), ws = (k : Int) :: r ∧ k < i ∧ zs.getD k 0 ≠ 1 ∧ ∀ j, j < k → zs.getD j 0 = 1
theorem WInv.zero {zs : List Int} : WInv zs [] 0 := .inl ⟨rfl, fun _ h => absurd h (Nat.not_lt_zero _)⟩
theorem WInv.no {zs ws : List Int} {i : Nat} (h : WInv zs ws i) (hz : zs.getD i 0 = 1) : WInv zs ws (i + 1) := by
  rcases h with ⟨e, h⟩ | ⟨k, r, e, hk, h1, h2⟩
  · refine .inl ⟨e, fun j hj => ?_⟩
    by_cases q : j = i
    · rw [q]; exact hz
    · exact h j (by omega)
  · exact .inr ⟨k, r, e, by omega, h1, h2⟩
theorem WInv.yes {zs ws : List Int} {i : Nat} (h : WInv zs ws i) (hz : zs.getD i 0 ≠ 1) : WInv zs (ws ++ [(i : Int)]) (i + 1) := by
  rcases h with ⟨e, h⟩ | ⟨k, r, e, hk, h1, h2⟩
  · exact .inr ⟨i, [], by rw [e]; rfl, by omega, hz, h⟩
  · exact .inr ⟨k, r ++ [(i : Int)], by rw [e]; rfl, by omega, h1, h2⟩
theorem parts_getD {ms : List Int} {k : Nat} {n : Int} (h : ms[k]? = some n) : (partsI ms ms.length).getD k 0 = (Int.gcd (coI ms n) n : Int) := by
  rw [List.getD_eq_getElem?_getD, partsI_get h]; rfl
theorem parts_allC {ms : List Int} (h : ∀ j, j < ms.length → (partsI ms ms.length).getD j 0 = 1) : AllC ms := fun j k hj => by
  have e := h j (List.getElem?_eq_some_iff.mp hj).1
  rw [parts_getD hj] at e
  omega
theorem parts_first {ms : List Int} {k i : Nat} {n : Int} (hk : k < ms.length) (h1 : (partsI ms ms.length).getD k 0 ≠ 1) (h2 : ∀ j, j < k → (partsI ms ms.length).getD j 0 = 1) (hF : FirstC ms i) (hn : ms[i]? = some n) (hg : Int.gcd (coI ms n) n ≠ 1) : k = i := by
  rcases Nat.lt_trichotomy k i with h | h | h
  · have hm := List.getElem?_eq_getElem hk
    rw [parts_getD hm, hF k _ h hm] at h1
    exact absurd rfl h1
  · exact h
  · have e := h2 i h
    rw [parts_getD hn] at e
    omega
end Mine

namespace Mine
noncomputable abbrev PP : Program := PySem.Challenge.rw_ys0001_03.row.prog
noncomputable def V : Program := PySem.W.view PP [1, 2, 3, 4, 6, 7, 8, 9, 10, 11, 12, 13]
noncomputable def o11 : Params → Obj := fun P => { cls := PySem.Value.type "tuple", data := PySem.Data.seq #[] }
noncomputable def o12 : Params → Obj := fun P => { cls := PySem.Value.none, data := PySem.Data.fields #[] }
noncomputable def o13 : Params → Obj := fun P => { cls := PySem.Value.type "code", data := PySem.Data.fields #[PySem.Value.str (PySem.Str.ofString "<module>") 182, PySem.Value.str (PySem.Str.ofString "<module>") 183, PySem.Value.str (PySem.Str.ofString "/claim/cut.py") 184, PySem.Value.int 1 0, PySem.Value.int 0 0, PySem.Value.int 0 0, PySem.Value.int 0 0, PySem.Value.int 0 0, PySem.Value.ref 11, PySem.Value.bool Bool.false, PySem.Value.int 181 0, PySem.Value.ref 12, PySem.Value.none, PySem.Value.none, PySem.Value.none, PySem.Value.none, PySem.Value.int 185 0, PySem.Value.int 1 0, PySem.Value.str (PySem.Str.ofString "/claim/cut.py") 186] }
noncomputable def o14 : Params → Obj := fun P => { cls := PySem.Value.type "frame", slots := #[Option.some (PySem.Value.ref 13), Option.some (PySem.Value.ref 3), Option.some (PySem.Value.ref 3), Option.none, Option.some (PySem.Value.str (PySem.Str.ofString "__main__") 164), Option.none, Option.some (PySem.Value.ref 0)] }
noncomputable def o15 : Params → Obj := fun P => { cls := PySem.Value.type "tuple", data := PySem.Data.seq #[PySem.Value.type "ValueError"] }
noncomputable def o16 : Params → Obj := fun P => { cls := PySem.Value.type "builtin_function_or_method", data := PySem.Data.fields #[PySem.Value.builtin "type.__prepare__", PySem.Value.type "type"] }
noncomputable def o17 : Params → Obj := fun P => { cls := PySem.Value.type "dict", data := PySem.Data.dict #[{ hash := PySem.PyData.keyHash P (PySem.Str.ofString "__module__"), key := PySem.Value.str (PySem.Str.ofString "__module__") 196, val := PySem.Value.str (PySem.Str.ofString "rsa.common") 187 }, { hash := PySem.PyData.keyHash P (PySem.Str.ofString "__qualname__"), key := PySem.Value.str (PySem.Str.ofString "__qualname__") 198, val := PySem.Value.str (PySem.Str.ofString "NotRelativePrimeError") 197 }, { hash := PySem.PyData.keyHash P (PySem.Str.ofString "__firstlineno__"), key := PySem.Value.str (PySem.Str.ofString "__firstlineno__") 200, val := PySem.Value.int 2 199 }, { hash := PySem.PyData.keyHash P (PySem.Str.ofString "__init__"), key := PySem.Value.str (PySem.Str.ofString "__init__") 212, val := PySem.Value.ref 29 }, { hash := PySem.PyData.keyHash P (PySem.Str.ofString "__static_attributes__"), key := PySem.Value.str (PySem.Str.ofString "__static_attributes__") 216, val := PySem.Value.ref 30 }] 5 }
noncomputable def o18 : Params → Obj := fun P => { cls := PySem.Value.type "tuple", data := PySem.Data.seq #[] }
noncomputable def o19 : Params → Obj := fun P => { cls := PySem.Value.none, data := PySem.Data.fields #[PySem.Value.int 4 0, PySem.Value.int 4 0, PySem.Value.ref 28] }
noncomputable def o20 : Params → Obj := fun P => { cls := PySem.Value.type "code", data := PySem.Data.fields #[PySem.Value.str (PySem.Str.ofString "NotRelativePrimeError") 191, PySem.Value.str (PySem.Str.ofString "NotRelativePrimeError") 192, PySem.Value.str (PySem.Str.ofString "/claim/cut.py") 193, PySem.Value.int 2 0, PySem.Value.int 0 0, PySem.Value.int 0 0, PySem.Value.int 0 0, PySem.Value.int 0 0, PySem.Value.ref 18, PySem.Value.bool Bool.false, PySem.Value.int 181 0, PySem.Value.ref 19, PySem.Value.none, PySem.Value.none, PySem.Value.none, PySem.Value.none, PySem.Value.int 194 0, PySem.Value.int 2 0, PySem.Value.str (PySem.Str.ofString "/claim/cut.py") 195] }
noncomputable def o21 : Params → Obj := fun P => { cls := PySem.Value.type "frame", slots := #[Option.some (PySem.Value.ref 20), Option.some (PySem.Value.ref 3), Option.some (PySem.Value.ref 17), Option.none, Option.some (PySem.Value.str (PySem.Str.ofString "rsa.common") 187), Option.none, Option.some (PySem.Value.ref 0)] }
noncomputable def o22 : Params → Obj := fun P => { cls := PySem.Value.type "tuple", data := PySem.Data.seq #[PySem.Value.str (PySem.Str.ofString "") 201] }
noncomputable def o23 : Params → Obj := fun P => { cls := PySem.Value.type "tuple", data := PySem.Data.seq #[] }
noncomputable def o24 : Params → Obj := fun P => { cls := PySem.Value.none, data := PySem.Data.fields #[] }
noncomputable def o25 : Params → Obj := fun P => { cls := PySem.Value.type "tuple", data := PySem.Data.seq #[PySem.Value.str (PySem.Str.ofString "self") 205, PySem.Value.str (PySem.Str.ofString "a") 206, PySem.Value.str (PySem.Str.ofString "b") 207, PySem.Value.str (PySem.Str.ofString "d") 208, PySem.Value.str (PySem.Str.ofString "msg") 209] }
noncomputable def o26 : Params → Obj := fun P => { cls := PySem.Value.type "tuple", data := PySem.Data.seq #[] }
noncomputable def o27 : Params → Obj := fun P => { cls := PySem.Value.none, data := PySem.Data.func { name := PySem.Str.ofString "__init__", qualname := PySem.Str.ofString "NotRelativePrimeError.__init__", params := (fdA (nthS (fdB (nthS PP.main.body 1)) 0)), body := PySem.FuncBody.stmts (fdB (nthS (fdB (nthS PP.main.body 1)) 0)), scope := (fdS (nthS (fdB (nthS PP.main.body 1)) 0)), globals := 0, closure := [], defaults := PySem.Value.none, kwdefaults := PySem.Value.none } }
noncomputable def o28 : Params → Obj := fun P => { cls := PySem.Value.type "code", data := PySem.Data.fields #[PySem.Value.str (PySem.Str.ofString "__init__") 202, PySem.Value.str (PySem.Str.ofString "NotRelativePrimeError.__init__") 203, PySem.Value.str (PySem.Str.ofString "/claim/cut.py") 204, PySem.Value.int 4 0, PySem.Value.int 5 0, PySem.Value.int 0 0, PySem.Value.int 0 0, PySem.Value.int 3 0, PySem.Value.ref 23, PySem.Value.bool Bool.true, PySem.Value.int 181 0, PySem.Value.ref 24, PySem.Value.none, PySem.Value.ref 25, PySem.Value.ref 26, PySem.Value.ref 27, PySem.Value.int 210 0, PySem.Value.int 4 0, PySem.Value.str (PySem.Str.ofString "/claim/cut.py") 211] }
noncomputable def o29 : Params → Obj := fun P => { cls := PySem.Value.type "function", data := PySem.Data.func { name := PySem.Str.ofString "__init__", qualname := PySem.Str.ofString "NotRelativePrimeError.__init__", params := (fdA (nthS (fdB (nthS PP.main.body 1)) 0)), body := PySem.FuncBody.stmts (fdB (nthS (fdB (nthS PP.main.body 1)) 0)), scope := (fdS (nthS (fdB (nthS PP.main.body 1)) 0)), globals := 3, closure := [], defaults := PySem.Value.ref 22, kwdefaults := PySem.Value.none, pyModule := PySem.Value.str (PySem.Str.ofString "rsa.common") 187, code := PySem.Value.ref 28 } }
noncomputable def o30 : Params → Obj := fun P => { cls := PySem.Value.type "tuple", data := PySem.Data.seq #[PySem.Value.str (PySem.Str.ofString "a") 213, PySem.Value.str (PySem.Str.ofString "b") 214, PySem.Value.str (PySem.Str.ofString "d") 215] }
noncomputable def o31 : Params → Obj := fun P => { cls := PySem.Value.type "dict", data := PySem.Data.dict #[{ hash := PySem.PyData.keyHash P (PySem.Str.ofString "__module__"), key := PySem.Value.str (PySem.Str.ofString "__module__") 196, val := PySem.Value.str (PySem.Str.ofString "rsa.common") 187 }, { hash := PySem.PyData.keyHash P (PySem.Str.ofString "__firstlineno__"), key := PySem.Value.str (PySem.Str.ofString "__firstlineno__") 200, val := PySem.Value.int 2 199 }, { hash := PySem.PyData.keyHash P (PySem.Str.ofString "__init__"), key := PySem.Value.str (PySem.Str.ofString "__init__") 212, val := PySem.Value.ref 29 }, { hash := PySem.PyData.keyHash P (PySem.Str.ofString "__static_attributes__"), key := PySem.Value.str (PySem.Str.ofString "__static_attributes__") 216, val := PySem.Value.ref 30 }, { hash := PySem.PyData.keyHash P (PySem.Str.ofString "__weakref__"), key := PySem.Value.str (PySem.Str.ofString "__weakref__") 218, val := PySem.Value.ref 33 }, { hash := PySem.PyData.keyHash P (PySem.Str.ofString "__doc__"), key := PySem.Value.str (PySem.Str.ofString "__doc__") 219, val := PySem.Value.none }] 3 }
noncomputable def o32 : Params → Obj := fun P => { cls := PySem.Value.type "type", data := PySem.Data.cls { name := PySem.Str.ofString "NotRelativePrimeError", bases := [PySem.Value.type "ValueError"], mro := [PySem.Value.ref 32, PySem.Value.type "ValueError", PySem.Value.type "Exception", PySem.Value.type "BaseException", PySem.Value.type "object"], ns := 31, qualname := PySem.Str.ofString "NotRelativePrimeError" }, slots := #[Option.some (PySem.Value.ref 15), Option.none, Option.some (PySem.Value.str (PySem.Str.ofString "NotRelativePrimeError") 189), Option.some (PySem.Value.str (PySem.Str.ofString "NotRelativePrimeError") 197), Option.some (PySem.Value.builtin "ValueError.__new__"), Option.some (PySem.Value.bool Bool.true)] }
noncomputable def o33 : Params → Obj := fun P => { cls := PySem.Value.type "getset_descriptor", data := PySem.Data.fields #[PySem.Value.str (PySem.Str.ofString "__weakref__") 217, PySem.Value.ref 32, PySem.Value.builtin "ExceptionGroup.__weakref__", PySem.Value.none] }
noncomputable def o34 : Params → Obj := fun P => { cls := PySem.Value.type "super", data := PySem.Data.fields #[PySem.Value.ref 32, PySem.Value.ref 32, PySem.Value.ref 32] }
noncomputable def o35 : Params → Obj := fun P => { cls := PySem.Value.type "builtin_function_or_method", data := PySem.Data.fields #[PySem.Value.builtin "object.__init_subclass__", PySem.Value.ref 32] }
noncomputable def o36 : Params → Obj := fun P => { cls := PySem.Value.type "tuple", data := PySem.Data.seq #[] }
noncomputable def o37 : Params → Obj := fun P => { cls := PySem.Value.none, data := PySem.Data.fields #[] }
noncomputable def o38 : Params → Obj := fun P => { cls := PySem.Value.type "tuple", data := PySem.Data.seq #[PySem.Value.str (PySem.Str.ofString "a") 225, PySem.Value.str (PySem.Str.ofString "b") 226, PySem.Value.str (PySem.Str.ofString "x") 227, PySem.Value.str (PySem.Str.ofString "y") 228, PySem.Value.str (PySem.Str.ofString "lx") 229, PySem.Value.str (PySem.Str.ofString "ly") 230, PySem.Value.str (PySem.Str.ofString "oa") 231, PySem.Value.str (PySem.Str.ofString "ob") 232, PySem.Value.str (PySem.Str.ofString "q") 233] }
noncomputable def o39 : Params → Obj := fun P => { cls := PySem.Value.type "tuple", data := PySem.Data.seq #[] }
noncomputable def o40 : Params → Obj := fun P => { cls := PySem.Value.none, data := PySem.Data.func { name := PySem.Str.ofString "extended_gcd", qualname := PySem.Str.ofString "extended_gcd", params := (fdA (nthS PP.main.body 2)), body := PySem.FuncBody.stmts (fdB (nthS PP.main.body 2)), scope := (fdS (nthS PP.main.body 2)), globals := 0, closure := [], defaults := PySem.Value.none, kwdefaults := PySem.Value.none } }
noncomputable def o41 : Params → Obj := fun P => { cls := PySem.Value.type "code", data := PySem.Data.fields #[PySem.Value.str (PySem.Str.ofString "extended_gcd") 222, PySem.Value.str (PySem.Str.ofString "extended_gcd") 223, PySem.Value.str (PySem.Str.ofString "/claim/cut.py") 224, PySem.Value.int 8 0, PySem.Value.int 2 0, PySem.Value.int 0 0, PySem.Value.int 0 0, PySem.Value.int 3 0, PySem.Value.ref 36, PySem.Value.bool Bool.true, PySem.Value.int 181 0, PySem.Value.ref 37, PySem.Value.none, PySem.Value.ref 38, PySem.Value.ref 39, PySem.Value.ref 40, PySem.Value.int 234 0, PySem.Value.int 8 0, PySem.Value.str (PySem.Str.ofString "/claim/cut.py") 235] }
noncomputable def o42 : Params → Obj := fun P => { cls := PySem.Value.type "function", data := PySem.Data.func { name := PySem.Str.ofString "extended_gcd", qualname := PySem.Str.ofString "extended_gcd", params := (fdA (nthS PP.main.body 2)), body := PySem.FuncBody.stmts (fdB (nthS PP.main.body 2)), scope := (fdS (nthS PP.main.body 2)), globals := 3, closure := [], defaults := PySem.Value.none, kwdefaults := PySem.Value.none, pyModule := PySem.Value.str (PySem.Str.ofString "rsa.common") 187, code := PySem.Value.ref 41 } }
noncomputable def o43 : Params → Obj := fun P => { cls := PySem.Value.type "tuple", data := PySem.Data.seq #[] }
noncomputable def o44 : Params → Obj := fun P => { cls := PySem.Value.none, data := PySem.Data.fields #[] }
noncomputable def o45 : Params → Obj := fun P => { cls := PySem.Value.type "tuple", data := PySem.Data.seq #[PySem.Value.str (PySem.Str.ofString "x") 240, PySem.Value.str (PySem.Str.ofString "n") 241, PySem.Value.str (PySem.Str.ofString "divider") 242, PySem.Value.str (PySem.Str.ofString "inv") 243, PySem.Value.str (PySem.Str.ofString "_") 244] }
noncomputable def o46 : Params → Obj := fun P => { cls := PySem.Value.type "tuple", data := PySem.Data.seq #[] }
noncomputable def o47 : Params → Obj := fun P => { cls := PySem.Value.none, data := PySem.Data.func { name := PySem.Str.ofString "inverse", qualname := PySem.Str.ofString "inverse", params := (fdA (nthS PP.main.body 3)), body := PySem.FuncBody.stmts (fdB (nthS PP.main.body 3)), scope := (fdS (nthS PP.main.body 3)), globals := 0, closure := [], defaults := PySem.Value.none, kwdefaults := PySem.Value.none } }
noncomputable def o48 : Params → Obj := fun P => { cls := PySem.Value.type "code", data := PySem.Data.fields #[PySem.Value.str (PySem.Str.ofString "inverse") 237, PySem.Value.str (PySem.Str.ofString "inverse") 238, PySem.Value.str (PySem.Str.ofString "/claim/cut.py") 239, PySem.Value.int 25 0, PySem.Value.int 2 0, PySem.Value.int 0 0, PySem.Value.int 0 0, PySem.Value.int 3 0, PySem.Value.ref 43, PySem.Value.bool Bool.true, PySem.Value.int 181 0, PySem.Value.ref 44, PySem.Value.none, PySem.Value.ref 45, PySem.Value.ref 46, PySem.Value.ref 47, PySem.Value.int 245 0, PySem.Value.int 25 0, PySem.Value.str (PySem.Str.ofString "/claim/cut.py") 246] }
noncomputable def o49 : Params → Obj := fun P => { cls := PySem.Value.type "function", data := PySem.Data.func { name := PySem.Str.ofString "inverse", qualname := PySem.Str.ofString "inverse", params := (fdA (nthS PP.main.body 3)), body := PySem.FuncBody.stmts (fdB (nthS PP.main.body 3)), scope := (fdS (nthS PP.main.body 3)), globals := 3, closure := [], defaults := PySem.Value.none, kwdefaults := PySem.Value.none, pyModule := PySem.Value.str (PySem.Str.ofString "rsa.common") 187, code := PySem.Value.ref 48 } }
noncomputable def o50 : Params → Obj := fun P => { cls := PySem.Value.type "tuple", data := PySem.Data.seq #[] }
noncomputable def o51 : Params → Obj := fun P => { cls := PySem.Value.none, data := PySem.Data.fields #[] }
noncomputable def o52 : Params → Obj := fun P => { cls := PySem.Value.type "tuple", data := PySem.Data.seq #[PySem.Value.str (PySem.Str.ofString "a_values") 251, PySem.Value.str (PySem.Str.ofString "modulo_values") 252, PySem.Value.str (PySem.Str.ofString "m") 253, PySem.Value.str (PySem.Str.ofString "x") 254, PySem.Value.str (PySem.Str.ofString "modulo") 255, PySem.Value.str (PySem.Str.ofString "m_i") 256, PySem.Value.str (PySem.Str.ofString "a_i") 257, PySem.Value.str (PySem.Str.ofString "M_i") 258, PySem.Value.str (PySem.Str.ofString "inv") 259] }
noncomputable def o53 : Params → Obj := fun P => { cls := PySem.Value.type "tuple", data := PySem.Data.seq #[] }
noncomputable def o54 : Params → Obj := fun P => { cls := PySem.Value.none, data := PySem.Data.func { name := PySem.Str.ofString "crt", qualname := PySem.Str.ofString "crt", params := (fdA (nthS PP.main.body 4)), body := PySem.FuncBody.stmts (fdB (nthS PP.main.body 4)), scope := (fdS (nthS PP.main.body 4)), globals := 0, closure := [], defaults := PySem.Value.none, kwdefaults := PySem.Value.none } }
noncomputable def o55 : Params → Obj := fun P => { cls := PySem.Value.type "code", data := PySem.Data.fields #[PySem.Value.str (PySem.Str.ofString "crt") 248, PySem.Value.str (PySem.Str.ofString "crt") 249, PySem.Value.str (PySem.Str.ofString "/claim/cut.py") 250, PySem.Value.int 30 0, PySem.Value.int 2 0, PySem.Value.int 0 0, PySem.Value.int 0 0, PySem.Value.int 3 0, PySem.Value.ref 50, PySem.Value.bool Bool.true, PySem.Value.int 181 0, PySem.Value.ref 51, PySem.Value.none, PySem.Value.ref 52, PySem.Value.ref 53, PySem.Value.ref 54, PySem.Value.int 260 0, PySem.Value.int 30 0, PySem.Value.str (PySem.Str.ofString "/claim/cut.py") 261] }
noncomputable def o56 : Params → Obj := fun P => { cls := PySem.Value.type "function", data := PySem.Data.func { name := PySem.Str.ofString "crt", qualname := PySem.Str.ofString "crt", params := (fdA (nthS PP.main.body 4)), body := PySem.FuncBody.stmts (fdB (nthS PP.main.body 4)), scope := (fdS (nthS PP.main.body 4)), globals := 3, closure := [], defaults := PySem.Value.none, kwdefaults := PySem.Value.none, pyModule := PySem.Value.str (PySem.Str.ofString "rsa.common") 187, code := PySem.Value.ref 55 } }
noncomputable def o57 : Params → Obj := fun P => { cls := PySem.Value.type "tuple", data := PySem.Data.seq #[] }
noncomputable def o58 : Params → Obj := fun P => { cls := PySem.Value.none, data := PySem.Data.fields #[] }
noncomputable def o59 : Params → Obj := fun P => { cls := PySem.Value.none, data := PySem.Data.func { name := PySem.Str.ofString "_law_state", qualname := PySem.Str.ofString "_law_state", params := (fdA (nthS PP.main.body 6)), body := PySem.FuncBody.stmts (fdB (nthS PP.main.body 6)), scope := (fdS (nthS PP.main.body 6)), globals := 0, closure := [], defaults := PySem.Value.none, kwdefaults := PySem.Value.none } }
noncomputable def o60 : Params → Obj := fun P => { cls := PySem.Value.type "code", data := PySem.Data.fields #[PySem.Value.str (PySem.Str.ofString "_law_state") 265, PySem.Value.str (PySem.Str.ofString "_law_state") 266, PySem.Value.str (PySem.Str.ofString "/claim/cut.py") 267, PySem.Value.int 41 0, PySem.Value.int 1 0, PySem.Value.int 0 0, PySem.Value.int 0 0, PySem.Value.int 3 0, PySem.Value.ref 57, PySem.Value.bool Bool.true, PySem.Value.int 181 0, PySem.Value.ref 58, PySem.Value.none, PySem.Value.none, PySem.Value.none, PySem.Value.ref 59, PySem.Value.int 268 0, PySem.Value.int 41 0, PySem.Value.str (PySem.Str.ofString "/claim/cut.py") 269] }
noncomputable def o61 : Params → Obj := fun P => { cls := PySem.Value.type "function", data := PySem.Data.func { name := PySem.Str.ofString "_law_state", qualname := PySem.Str.ofString "_law_state", params := (fdA (nthS PP.main.body 6)), body := PySem.FuncBody.stmts (fdB (nthS PP.main.body 6)), scope := (fdS (nthS PP.main.body 6)), globals := 3, closure := [], defaults := PySem.Value.none, kwdefaults := PySem.Value.none, pyModule := PySem.Value.str (PySem.Str.ofString "law_ys0001_03") 263, code := PySem.Value.ref 60 } }
noncomputable def o62 : Params → Obj := fun P => { cls := PySem.Value.type "tuple", data := PySem.Data.seq #[] }
noncomputable def o63 : Params → Obj := fun P => { cls := PySem.Value.none, data := PySem.Data.fields #[] }
noncomputable def o64 : Params → Obj := fun P => { cls := PySem.Value.type "tuple", data := PySem.Data.seq #[PySem.Value.str (PySem.Str.ofString "state") 274, PySem.Value.str (PySem.Str.ofString "most") 275, PySem.Value.str (PySem.Str.ofString "cells") 276, PySem.Value.str (PySem.Str.ofString "at") 277, PySem.Value.str (PySem.Str.ofString "cell") 278, PySem.Value.str (PySem.Str.ofString "mixed") 279] }
noncomputable def o65 : Params → Obj := fun P => { cls := PySem.Value.type "tuple", data := PySem.Data.seq #[] }
noncomputable def o66 : Params → Obj := fun P => { cls := PySem.Value.none, data := PySem.Data.func { name := PySem.Str.ofString "_law_take", qualname := PySem.Str.ofString "_law_take", params := (fdA (nthS PP.main.body 7)), body := PySem.FuncBody.stmts (fdB (nthS PP.main.body 7)), scope := (fdS (nthS PP.main.body 7)), globals := 0, closure := [], defaults := PySem.Value.none, kwdefaults := PySem.Value.none } }
noncomputable def o67 : Params → Obj := fun P => { cls := PySem.Value.type "code", data := PySem.Data.fields #[PySem.Value.str (PySem.Str.ofString "_law_take") 271, PySem.Value.str (PySem.Str.ofString "_law_take") 272, PySem.Value.str (PySem.Str.ofString "/claim/cut.py") 273, PySem.Value.int 46 0, PySem.Value.int 2 0, PySem.Value.int 0 0, PySem.Value.int 0 0, PySem.Value.int 3 0, PySem.Value.ref 62, PySem.Value.bool Bool.true, PySem.Value.int 181 0, PySem.Value.ref 63, PySem.Value.none, PySem.Value.ref 64, PySem.Value.ref 65, PySem.Value.ref 66, PySem.Value.int 280 0, PySem.Value.int 46 0, PySem.Value.str (PySem.Str.ofString "/claim/cut.py") 281] }
noncomputable def o68 : Params → Obj := fun P => { cls := PySem.Value.type "function", data := PySem.Data.func { name := PySem.Str.ofString "_law_take", qualname := PySem.Str.ofString "_law_take", params := (fdA (nthS PP.main.body 7)), body := PySem.FuncBody.stmts (fdB (nthS PP.main.body 7)), scope := (fdS (nthS PP.main.body 7)), globals := 3, closure := [], defaults := PySem.Value.none, kwdefaults := PySem.Value.none, pyModule := PySem.Value.str (PySem.Str.ofString "law_ys0001_03") 263, code := PySem.Value.ref 67 } }
noncomputable def o3p8 : Params → Obj := fun P => { cls := PySem.Value.type "dict", data := PySem.Data.dict #[{ hash := PySem.PyData.keyHash P (PySem.Str.ofString "__name__"), key := PySem.Value.str (PySem.Str.ofString "__name__") 165, val := PySem.Value.str (PySem.Str.ofString "law_ys0001_03") 263 }, { hash := PySem.PyData.keyHash P (PySem.Str.ofString "__doc__"), key := PySem.Value.str (PySem.Str.ofString "__doc__") 166, val := PySem.Value.none }, { hash := PySem.PyData.keyHash P (PySem.Str.ofString "__package__"), key := PySem.Value.str (PySem.Str.ofString "__package__") 167, val := PySem.Value.none }, { hash := PySem.PyData.keyHash P (PySem.Str.ofString "__loader__"), key := PySem.Value.str (PySem.Str.ofString "__loader__") 168, val := PySem.Value.builtin "__main__.__loader__#opaque" }, { hash := PySem.PyData.keyHash P (PySem.Str.ofString "__spec__"), key := PySem.Value.str (PySem.Str.ofString "__spec__") 169, val := PySem.Value.none }, { hash := PySem.PyData.keyHash P (PySem.Str.ofString "__annotations__"), key := PySem.Value.str (PySem.Str.ofString "__annotations__") 170, val := PySem.Value.ref 6 }, { hash := PySem.PyData.keyHash P (PySem.Str.ofString "__builtins__"), key := PySem.Value.str (PySem.Str.ofString "__builtins__") 171, val := PySem.Value.ref 4 }, { hash := PySem.PyData.keyHash P (PySem.Str.ofString "__file__"), key := PySem.Value.str (PySem.Str.ofString "__file__") 173, val := PySem.Value.str (PySem.Str.ofString "/claim/cut.py") 172 }, { hash := PySem.PyData.keyHash P (PySem.Str.ofString "__cached__"), key := PySem.Value.str (PySem.Str.ofString "__cached__") 174, val := PySem.Value.none }, { hash := PySem.PyData.keyHash P (PySem.Str.ofString "NotRelativePrimeError"), key := PySem.Value.str (PySem.Str.ofString "NotRelativePrimeError") 221, val := PySem.Value.ref 32 }, { hash := PySem.PyData.keyHash P (PySem.Str.ofString "extended_gcd"), key := PySem.Value.str (PySem.Str.ofString "extended_gcd") 236, val := PySem.Value.ref 42 }, { hash := PySem.PyData.keyHash P (PySem.Str.ofString "inverse"), key := PySem.Value.str (PySem.Str.ofString "inverse") 247, val := PySem.Value.ref 49 }, { hash := PySem.PyData.keyHash P (PySem.Str.ofString "crt"), key := PySem.Value.str (PySem.Str.ofString "crt") 262, val := PySem.Value.ref 56 }, { hash := PySem.PyData.keyHash P (PySem.Str.ofString "_law_state"), key := PySem.Value.str (PySem.Str.ofString "_law_state") 270, val := PySem.Value.ref 61 }, { hash := PySem.PyData.keyHash P (PySem.Str.ofString "_law_take"), key := PySem.Value.str (PySem.Str.ofString "_law_take") 282, val := PySem.Value.ref 68 }, { hash := PySem.PyData.keyHash P (PySem.Str.ofString "_law_great"), key := PySem.Value.str (PySem.Str.ofString "_law_great") 292, val := PySem.Value.ref 75 }] 16 }
noncomputable def o12p8 : Params → Obj := fun P => { cls := PySem.Value.none, data := PySem.Data.fields #[PySem.Value.int 2 0, PySem.Value.int 0 0, PySem.Value.ref 20, PySem.Value.int 8 0, PySem.Value.int 0 0, PySem.Value.ref 41, PySem.Value.int 25 0, PySem.Value.int 0 0, PySem.Value.ref 48, PySem.Value.int 30 0, PySem.Value.int 0 0, PySem.Value.ref 55, PySem.Value.int 41 0, PySem.Value.int 0 0, PySem.Value.ref 60, PySem.Value.int 46 0, PySem.Value.int 0 0, PySem.Value.ref 67, PySem.Value.int 57 0, PySem.Value.int 0 0, PySem.Value.ref 74] }
noncomputable def o69 : Params → Obj := fun P => { cls := PySem.Value.type "tuple", data := PySem.Data.seq #[] }
noncomputable def o70 : Params → Obj := fun P => { cls := PySem.Value.none, data := PySem.Data.fields #[] }
noncomputable def o71 : Params → Obj := fun P => { cls := PySem.Value.type "tuple", data := PySem.Data.seq #[PySem.Value.str (PySem.Str.ofString "state") 286, PySem.Value.str (PySem.Str.ofString "words") 287, PySem.Value.str (PySem.Str.ofString "number") 288, PySem.Value.str (PySem.Str.ofString "turn") 289] }
noncomputable def o72 : Params → Obj := fun P => { cls := PySem.Value.type "tuple", data := PySem.Data.seq #[] }
noncomputable def o73 : Params → Obj := fun P => { cls := PySem.Value.none, data := PySem.Data.func { name := PySem.Str.ofString "_law_great", qualname := PySem.Str.ofString "_law_great", params := (fdA (nthS PP.main.body 8)), body := PySem.FuncBody.stmts (fdB (nthS PP.main.body 8)), scope := (fdS (nthS PP.main.body 8)), globals := 0, closure := [], defaults := PySem.Value.none, kwdefaults := PySem.Value.none } }
noncomputable def o74 : Params → Obj := fun P => { cls := PySem.Value.type "code", data := PySem.Data.fields #[PySem.Value.str (PySem.Str.ofString "_law_great") 283, PySem.Value.str (PySem.Str.ofString "_law_great") 284, PySem.Value.str (PySem.Str.ofString "/claim/cut.py") 285, PySem.Value.int 57 0, PySem.Value.int 2 0, PySem.Value.int 0 0, PySem.Value.int 0 0, PySem.Value.int 3 0, PySem.Value.ref 69, PySem.Value.bool Bool.true, PySem.Value.int 181 0, PySem.Value.ref 70, PySem.Value.none, PySem.Value.ref 71, PySem.Value.ref 72, PySem.Value.ref 73, PySem.Value.int 290 0, PySem.Value.int 57 0, PySem.Value.str (PySem.Str.ofString "/claim/cut.py") 291] }
noncomputable def o75 : Params → Obj := fun P => { cls := PySem.Value.type "function", data := PySem.Data.func { name := PySem.Str.ofString "_law_great", qualname := PySem.Str.ofString "_law_great", params := (fdA (nthS PP.main.body 8)), body := PySem.FuncBody.stmts (fdB (nthS PP.main.body 8)), scope := (fdS (nthS PP.main.body 8)), globals := 3, closure := [], defaults := PySem.Value.none, kwdefaults := PySem.Value.none, pyModule := PySem.Value.str (PySem.Str.ofString "law_ys0001_03") 263, code := PySem.Value.ref 74 } }
noncomputable def o76 : Params → Obj := fun P => { cls := PySem.Value.type "tuple", data := PySem.Data.seq #[] }
noncomputable def o77 : Params → Obj := fun P => { cls := PySem.Value.none, data := PySem.Data.fields #[] }
noncomputable def o78 : Params → Obj := fun P => { cls := PySem.Value.type "tuple", data := PySem.Data.seq #[PySem.Value.str (PySem.Str.ofString "state") 296, PySem.Value.str (PySem.Str.ofString "kind") 297] }
noncomputable def o79 : Params → Obj := fun P => { cls := PySem.Value.type "tuple", data := PySem.Data.seq #[] }
noncomputable def o80 : Params → Obj := fun P => { cls := PySem.Value.none, data := PySem.Data.func { name := PySem.Str.ofString "_law_number", qualname := PySem.Str.ofString "_law_number", params := (fdA (nthS PP.main.body 9)), body := PySem.FuncBody.stmts (fdB (nthS PP.main.body 9)), scope := (fdS (nthS PP.main.body 9)), globals := 0, closure := [], defaults := PySem.Value.none, kwdefaults := PySem.Value.none } }
noncomputable def o81 : Params → Obj := fun P => { cls := PySem.Value.type "code", data := PySem.Data.fields #[PySem.Value.str (PySem.Str.ofString "_law_number") 293, PySem.Value.str (PySem.Str.ofString "_law_number") 294, PySem.Value.str (PySem.Str.ofString "/claim/cut.py") 295, PySem.Value.int 62 0, PySem.Value.int 1 0, PySem.Value.int 0 0, PySem.Value.int 0 0, PySem.Value.int 3 0, PySem.Value.ref 76, PySem.Value.bool Bool.true, PySem.Value.int 181 0, PySem.Value.ref 77, PySem.Value.none, PySem.Value.ref 78, PySem.Value.ref 79, PySem.Value.ref 80, PySem.Value.int 298 0, PySem.Value.int 62 0, PySem.Value.str (PySem.Str.ofString "/claim/cut.py") 299] }
noncomputable def o82 : Params → Obj := fun P => { cls := PySem.Value.type "function", data := PySem.Data.func { name := PySem.Str.ofString "_law_number", qualname := PySem.Str.ofString "_law_number", params := (fdA (nthS PP.main.body 9)), body := PySem.FuncBody.stmts (fdB (nthS PP.main.body 9)), scope := (fdS (nthS PP.main.body 9)), globals := 3, closure := [], defaults := PySem.Value.none, kwdefaults := PySem.Value.none, pyModule := PySem.Value.str (PySem.Str.ofString "law_ys0001_03") 263, code := PySem.Value.ref 81 } }
noncomputable def o83 : Params → Obj := fun P => { cls := PySem.Value.type "tuple", data := PySem.Data.seq #[] }
noncomputable def o84 : Params → Obj := fun P => { cls := PySem.Value.none, data := PySem.Data.fields #[] }
noncomputable def o85 : Params → Obj := fun P => { cls := PySem.Value.type "tuple", data := PySem.Data.seq #[PySem.Value.str (PySem.Str.ofString "one") 304, PySem.Value.str (PySem.Str.ofString "two") 305, PySem.Value.str (PySem.Str.ofString "turn") 306] }
noncomputable def o86 : Params → Obj := fun P => { cls := PySem.Value.type "tuple", data := PySem.Data.seq #[] }
noncomputable def o87 : Params → Obj := fun P => { cls := PySem.Value.none, data := PySem.Data.func { name := PySem.Str.ofString "_law_gcd", qualname := PySem.Str.ofString "_law_gcd", params := (fdA (nthS PP.main.body 10)), body := PySem.FuncBody.stmts (fdB (nthS PP.main.body 10)), scope := (fdS (nthS PP.main.body 10)), globals := 0, closure := [], defaults := PySem.Value.none, kwdefaults := PySem.Value.none } }
noncomputable def o88 : Params → Obj := fun P => { cls := PySem.Value.type "code", data := PySem.Data.fields #[PySem.Value.str (PySem.Str.ofString "_law_gcd") 301, PySem.Value.str (PySem.Str.ofString "_law_gcd") 302, PySem.Value.str (PySem.Str.ofString "/claim/cut.py") 303, PySem.Value.int 69 0, PySem.Value.int 2 0, PySem.Value.int 0 0, PySem.Value.int 0 0, PySem.Value.int 3 0, PySem.Value.ref 83, PySem.Value.bool Bool.true, PySem.Value.int 181 0, PySem.Value.ref 84, PySem.Value.none, PySem.Value.ref 85, PySem.Value.ref 86, PySem.Value.ref 87, PySem.Value.int 307 0, PySem.Value.int 69 0, PySem.Value.str (PySem.Str.ofString "/claim/cut.py") 308] }
noncomputable def o89 : Params → Obj := fun P => { cls := PySem.Value.type "function", data := PySem.Data.func { name := PySem.Str.ofString "_law_gcd", qualname := PySem.Str.ofString "_law_gcd", params := (fdA (nthS PP.main.body 10)), body := PySem.FuncBody.stmts (fdB (nthS PP.main.body 10)), scope := (fdS (nthS PP.main.body 10)), globals := 3, closure := [], defaults := PySem.Value.none, kwdefaults := PySem.Value.none, pyModule := PySem.Value.str (PySem.Str.ofString "law_ys0001_03") 263, code := PySem.Value.ref 88 } }
noncomputable def o90 : Params → Obj := fun P => { cls := PySem.Value.type "tuple", data := PySem.Data.seq #[] }
noncomputable def o91 : Params → Obj := fun P => { cls := PySem.Value.none, data := PySem.Data.fields #[] }
noncomputable def o92 : Params → Obj := fun P => { cls := PySem.Value.type "tuple", data := PySem.Data.seq #[PySem.Value.str (PySem.Str.ofString "numbers") 313, PySem.Value.str (PySem.Str.ofString "moduli") 314, PySem.Value.str (PySem.Str.ofString "e") 315] }
noncomputable def o93 : Params → Obj := fun P => { cls := PySem.Value.type "tuple", data := PySem.Data.seq #[] }
noncomputable def o94 : Params → Obj := fun P => { cls := PySem.Value.none, data := PySem.Data.func { name := PySem.Str.ofString "_law_told", qualname := PySem.Str.ofString "_law_told", params := (fdA (nthS PP.main.body 11)), body := PySem.FuncBody.stmts (fdB (nthS PP.main.body 11)), scope := (fdS (nthS PP.main.body 11)), globals := 0, closure := [], defaults := PySem.Value.none, kwdefaults := PySem.Value.none } }
noncomputable def o95 : Params → Obj := fun P => { cls := PySem.Value.type "code", data := PySem.Data.fields #[PySem.Value.str (PySem.Str.ofString "_law_told") 310, PySem.Value.str (PySem.Str.ofString "_law_told") 311, PySem.Value.str (PySem.Str.ofString "/claim/cut.py") 312, PySem.Value.int 75 0, PySem.Value.int 2 0, PySem.Value.int 0 0, PySem.Value.int 0 0, PySem.Value.int 3 0, PySem.Value.ref 90, PySem.Value.bool Bool.true, PySem.Value.int 181 0, PySem.Value.ref 91, PySem.Value.none, PySem.Value.ref 92, PySem.Value.ref 93, PySem.Value.ref 94, PySem.Value.int 316 0, PySem.Value.int 75 0, PySem.Value.str (PySem.Str.ofString "/claim/cut.py") 317] }
noncomputable def o96 : Params → Obj := fun P => { cls := PySem.Value.type "function", data := PySem.Data.func { name := PySem.Str.ofString "_law_told", qualname := PySem.Str.ofString "_law_told", params := (fdA (nthS PP.main.body 11)), body := PySem.FuncBody.stmts (fdB (nthS PP.main.body 11)), scope := (fdS (nthS PP.main.body 11)), globals := 3, closure := [], defaults := PySem.Value.none, kwdefaults := PySem.Value.none, pyModule := PySem.Value.str (PySem.Str.ofString "law_ys0001_03") 263, code := PySem.Value.ref 95 } }
noncomputable def o97 : Params → Obj := fun P => { cls := PySem.Value.type "tuple", data := PySem.Data.seq #[] }
noncomputable def o98 : Params → Obj := fun P => { cls := PySem.Value.none, data := PySem.Data.fields #[] }
noncomputable def o99 : Params → Obj := fun P => { cls := PySem.Value.none, data := PySem.Data.func { name := PySem.Str.ofString "_law_moduli", qualname := PySem.Str.ofString "_law_moduli", params := (fdA (nthS PP.main.body 12)), body := PySem.FuncBody.stmts (fdB (nthS PP.main.body 12)), scope := (fdS (nthS PP.main.body 12)), globals := 0, closure := [], defaults := PySem.Value.none, kwdefaults := PySem.Value.none } }
noncomputable def o100 : Params → Obj := fun P => { cls := PySem.Value.type "code", data := PySem.Data.fields #[PySem.Value.str (PySem.Str.ofString "_law_moduli") 319, PySem.Value.str (PySem.Str.ofString "_law_moduli") 320, PySem.Value.str (PySem.Str.ofString "/claim/cut.py") 321, PySem.Value.int 80 0, PySem.Value.int 1 0, PySem.Value.int 0 0, PySem.Value.int 0 0, PySem.Value.int 3 0, PySem.Value.ref 97, PySem.Value.bool Bool.true, PySem.Value.int 181 0, PySem.Value.ref 98, PySem.Value.none, PySem.Value.none, PySem.Value.none, PySem.Value.ref 99, PySem.Value.int 322 0, PySem.Value.int 80 0, PySem.Value.str (PySem.Str.ofString "/claim/cut.py") 323] }
noncomputable def o101 : Params → Obj := fun P => { cls := PySem.Value.type "function", data := PySem.Data.func { name := PySem.Str.ofString "_law_moduli", qualname := PySem.Str.ofString "_law_moduli", params := (fdA (nthS PP.main.body 12)), body := PySem.FuncBody.stmts (fdB (nthS PP.main.body 12)), scope := (fdS (nthS PP.main.body 12)), globals := 3, closure := [], defaults := PySem.Value.none, kwdefaults := PySem.Value.none, pyModule := PySem.Value.str (PySem.Str.ofString "law_ys0001_03") 263, code := PySem.Value.ref 100 } }
noncomputable def o3p13 : Params → Obj := fun P => { cls := PySem.Value.type "dict", data := PySem.Data.dict #[{ hash := PySem.PyData.keyHash P (PySem.Str.ofString "__name__"), key := PySem.Value.str (PySem.Str.ofString "__name__") 165, val := PySem.Value.str (PySem.Str.ofString "law_ys0001_03") 263 }, { hash := PySem.PyData.keyHash P (PySem.Str.ofString "__doc__"), key := PySem.Value.str (PySem.Str.ofString "__doc__") 166, val := PySem.Value.none }, { hash := PySem.PyData.keyHash P (PySem.Str.ofString "__package__"), key := PySem.Value.str (PySem.Str.ofString "__package__") 167, val := PySem.Value.none }, { hash := PySem.PyData.keyHash P (PySem.Str.ofString "__loader__"), key := PySem.Value.str (PySem.Str.ofString "__loader__") 168, val := PySem.Value.builtin "__main__.__loader__#opaque" }, { hash := PySem.PyData.keyHash P (PySem.Str.ofString "__spec__"), key := PySem.Value.str (PySem.Str.ofString "__spec__") 169, val := PySem.Value.none }, { hash := PySem.PyData.keyHash P (PySem.Str.ofString "__annotations__"), key := PySem.Value.str (PySem.Str.ofString "__annotations__") 170, val := PySem.Value.ref 6 }, { hash := PySem.PyData.keyHash P (PySem.Str.ofString "__builtins__"), key := PySem.Value.str (PySem.Str.ofString "__builtins__") 171, val := PySem.Value.ref 4 }, { hash := PySem.PyData.keyHash P (PySem.Str.ofString "__file__"), key := PySem.Value.str (PySem.Str.ofString "__file__") 173, val := PySem.Value.str (PySem.Str.ofString "/claim/cut.py") 172 }, { hash := PySem.PyData.keyHash P (PySem.Str.ofString "__cached__"), key := PySem.Value.str (PySem.Str.ofString "__cached__") 174, val := PySem.Value.none }, { hash := PySem.PyData.keyHash P (PySem.Str.ofString "NotRelativePrimeError"), key := PySem.Value.str (PySem.Str.ofString "NotRelativePrimeError") 221, val := PySem.Value.ref 32 }, { hash := PySem.PyData.keyHash P (PySem.Str.ofString "extended_gcd"), key := PySem.Value.str (PySem.Str.ofString "extended_gcd") 236, val := PySem.Value.ref 42 }, { hash := PySem.PyData.keyHash P (PySem.Str.ofString "inverse"), key := PySem.Value.str (PySem.Str.ofString "inverse") 247, val := PySem.Value.ref 49 }, { hash := PySem.PyData.keyHash P (PySem.Str.ofString "crt"), key := PySem.Value.str (PySem.Str.ofString "crt") 262, val := PySem.Value.ref 56 }, { hash := PySem.PyData.keyHash P (PySem.Str.ofString "_law_state"), key := PySem.Value.str (PySem.Str.ofString "_law_state") 270, val := PySem.Value.ref 61 }, { hash := PySem.PyData.keyHash P (PySem.Str.ofString "_law_take"), key := PySem.Value.str (PySem.Str.ofString "_law_take") 282, val := PySem.Value.ref 68 }, { hash := PySem.PyData.keyHash P (PySem.Str.ofString "_law_great"), key := PySem.Value.str (PySem.Str.ofString "_law_great") 292, val := PySem.Value.ref 75 }, { hash := PySem.PyData.keyHash P (PySem.Str.ofString "_law_number"), key := PySem.Value.str (PySem.Str.ofString "_law_number") 300, val := PySem.Value.ref 82 }, { hash := PySem.PyData.keyHash P (PySem.Str.ofString "_law_gcd"), key := PySem.Value.str (PySem.Str.ofString "_law_gcd") 309, val := PySem.Value.ref 89 }, { hash := PySem.PyData.keyHash P (PySem.Str.ofString "_law_told"), key := PySem.Value.str (PySem.Str.ofString "_law_told") 318, val := PySem.Value.ref 96 }, { hash := PySem.PyData.keyHash P (PySem.Str.ofString "_law_moduli"), key := PySem.Value.str (PySem.Str.ofString "_law_moduli") 324, val := PySem.Value.ref 101 }, { hash := PySem.PyData.keyHash P (PySem.Str.ofString "law"), key := PySem.Value.str (PySem.Str.ofString "law") 330, val := PySem.Value.ref 106 }] 21 }
noncomputable def o12p13 : Params → Obj := fun P => { cls := PySem.Value.none, data := PySem.Data.fields #[PySem.Value.int 2 0, PySem.Value.int 0 0, PySem.Value.ref 20, PySem.Value.int 8 0, PySem.Value.int 0 0, PySem.Value.ref 41, PySem.Value.int 25 0, PySem.Value.int 0 0, PySem.Value.ref 48, PySem.Value.int 30 0, PySem.Value.int 0 0, PySem.Value.ref 55, PySem.Value.int 41 0, PySem.Value.int 0 0, PySem.Value.ref 60, PySem.Value.int 46 0, PySem.Value.int 0 0, PySem.Value.ref 67, PySem.Value.int 57 0, PySem.Value.int 0 0, PySem.Value.ref 74, PySem.Value.int 62 0, PySem.Value.int 0 0, PySem.Value.ref 81, PySem.Value.int 69 0, PySem.Value.int 0 0, PySem.Value.ref 88, PySem.Value.int 75 0, PySem.Value.int 0 0, PySem.Value.ref 95, PySem.Value.int 80 0, PySem.Value.int 0 0, PySem.Value.ref 100, PySem.Value.int 90 0, PySem.Value.int 0 0, PySem.Value.ref 105] }
noncomputable def o102 : Params → Obj := fun P => { cls := PySem.Value.type "tuple", data := PySem.Data.seq #[] }
noncomputable def o103 : Params → Obj := fun P => { cls := PySem.Value.none, data := PySem.Data.fields #[] }
noncomputable def o104 : Params → Obj := fun P => { cls := PySem.Value.none, data := PySem.Data.func { name := PySem.Str.ofString "law", qualname := PySem.Str.ofString "law", params := (fdA (nthS PP.main.body 13)), body := PySem.FuncBody.stmts (fdB (nthS PP.main.body 13)), scope := (fdS (nthS PP.main.body 13)), globals := 0, closure := [], defaults := PySem.Value.none, kwdefaults := PySem.Value.none } }
noncomputable def o105 : Params → Obj := fun P => { cls := PySem.Value.type "code", data := PySem.Data.fields #[PySem.Value.str (PySem.Str.ofString "law") 325, PySem.Value.str (PySem.Str.ofString "law") 326, PySem.Value.str (PySem.Str.ofString "/claim/cut.py") 327, PySem.Value.int 90 0, PySem.Value.int 1 0, PySem.Value.int 0 0, PySem.Value.int 0 0, PySem.Value.int 3 0, PySem.Value.ref 102, PySem.Value.bool Bool.true, PySem.Value.int 181 0, PySem.Value.ref 103, PySem.Value.none, PySem.Value.none, PySem.Value.none, PySem.Value.ref 104, PySem.Value.int 328 0, PySem.Value.int 90 0, PySem.Value.str (PySem.Str.ofString "/claim/cut.py") 329] }
noncomputable def o106 : Params → Obj := fun P => { cls := PySem.Value.type "function", data := PySem.Data.func { name := PySem.Str.ofString "law", qualname := PySem.Str.ofString "law", params := (fdA (nthS PP.main.body 13)), body := PySem.FuncBody.stmts (fdB (nthS PP.main.body 13)), scope := (fdS (nthS PP.main.body 13)), globals := 3, closure := [], defaults := PySem.Value.none, kwdefaults := PySem.Value.none, pyModule := PySem.Value.str (PySem.Str.ofString "law_ys0001_03") 263, code := PySem.Value.ref 105 } }
noncomputable def h_a : Params → Heap := fun P => ⟨⟨[PySem.W.boot_o_0 P, PySem.W.boot_o_1 P, PySem.W.boot_o_2 P, PySem.W.boot_o_3 P, PySem.W.boot_o_4 P, PySem.W.boot_o_5 P, PySem.W.boot_o_6 P, PySem.W.boot_o_7 P, PySem.W.boot_o_8 P, PySem.W.boot_o_9 P, PySem.W.boot_o_10 P, o11 P, o12 P, o13 P, o14 P]⟩, { }⟩
noncomputable def h_f : Params → Heap := fun P => ⟨⟨[PySem.W.boot_o_0 P, PySem.W.boot_o_1 P, PySem.W.boot_o_2 P, o3p13 P, PySem.W.boot_o_4 P, PySem.W.boot_o_5 P, PySem.W.boot_o_6 P, PySem.W.boot_o_7 P, PySem.W.boot_o_8 P, PySem.W.boot_o_9 P, PySem.W.boot_o_10 P, o11 P, o12p13 P, o13 P, o14 P, o15 P, o16 P, o17 P, o18 P, o19 P, o20 P, o21 P, o22 P, o23 P, o24 P, o25 P, o26 P, o27 P, o28 P, o29 P, o30 P, o31 P, o32 P, o33 P, o34 P, o35 P, o36 P, o37 P, o38 P, o39 P, o40 P, o41 P, o42 P, o43 P, o44 P, o45 P, o46 P, o47 P, o48 P, o49 P, o50 P, o51 P, o52 P, o53 P, o54 P, o55 P, o56 P, o57 P, o58 P, o59 P, o60 P, o61 P, o62 P, o63 P, o64 P, o65 P, o66 P, o67 P, o68 P, o69 P, o70 P, o71 P, o72 P, o73 P, o74 P, o75 P, o76 P, o77 P, o78 P, o79 P, o80 P, o81 P, o82 P, o83 P, o84 P, o85 P, o86 P, o87 P, o88 P, o89 P, o90 P, o91 P, o92 P, o93 P, o94 P, o95 P, o96 P, o97 P, o98 P, o99 P, o100 P, o101 P, o102 P, o103 P, o104 P, o105 P, o106 P]⟩, { }⟩
noncomputable def t_b : Params → BT := fun P => (.node (PySem.W.boot_o_0 P) (.node (PySem.W.boot_o_1 P) (.node (PySem.W.boot_o_3 P) (.node (PySem.W.boot_o_7 P) .nil .nil) (.node (o11 P) .nil .nil)) (.node (PySem.W.boot_o_5 P) (.node (PySem.W.boot_o_9 P) .nil .nil) (.node (o13 P) .nil .nil))) (.node (PySem.W.boot_o_2 P) (.node (PySem.W.boot_o_4 P) (.node (PySem.W.boot_o_8 P) .nil .nil) (.node (o12 P) .nil .nil)) (.node (PySem.W.boot_o_6 P) (.node (PySem.W.boot_o_10 P) .nil .nil) (.node (o14 P) .nil .nil))))
noncomputable def S_b (w : World) (os : OsState) : SharedT := ⟨t_b w.params, 15, { }, ⟨[]⟩, { }, 187, os⟩
noncomputable def t_p8 : Params → BT := fun P => (.node (PySem.W.boot_o_0 P) (.node (PySem.W.boot_o_1 P) (.node (o3p8 P) (.node (PySem.W.boot_o_7 P) (.node (o15 P) (.node (o31 P) (.node (o63 P) .nil .nil) .nil) (.node (o47 P) .nil .nil)) (.node (o23 P) (.node (o39 P) (.node (o71 P) .nil .nil) .nil) (.node (o55 P) .nil .nil))) (.node (o11 P) (.node (o19 P) (.node (o35 P) (.node (o67 P) .nil .nil) .nil) (.node (o51 P) .nil .nil)) (.node (o27 P) (.node (o43 P) (.node (o75 P) .nil .nil) .nil) (.node (o59 P) .nil .nil)))) (.node (PySem.W.boot_o_5 P) (.node (PySem.W.boot_o_9 P) (.node (o17 P) (.node (o33 P) (.node (o65 P) .nil .nil) .nil) (.node (o49 P) .nil .nil)) (.node (o25 P) (.node (o41 P) (.node (o73 P) .nil .nil) .nil) (.node (o57 P) .nil .nil))) (.node (o13 P) (.node (o21 P) (.node (o37 P) (.node (o69 P) .nil .nil) .nil) (.node (o53 P) .nil .nil)) (.node (o29 P) (.node (o45 P) .nil .nil) (.node (o61 P) .nil .nil))))) (.node (PySem.W.boot_o_2 P) (.node (PySem.W.boot_o_4 P) (.node (PySem.W.boot_o_8 P) (.node (o16 P) (.node (o32 P) (.node (o64 P) .nil .nil) .nil) (.node (o48 P) .nil .nil)) (.node (o24 P) (.node (o40 P) (.node (o72 P) .nil .nil) .nil) (.node (o56 P) .nil .nil))) (.node (o12p8 P) (.node (o20 P) (.node (o36 P) (.node (o68 P) .nil .nil) .nil) (.node (o52 P) .nil .nil)) (.node (o28 P) (.node (o44 P) .nil .nil) (.node (o60 P) .nil .nil)))) (.node (PySem.W.boot_o_6 P) (.node (PySem.W.boot_o_10 P) (.node (o18 P) (.node (o34 P) (.node (o66 P) .nil .nil) .nil) (.node (o50 P) .nil .nil)) (.node (o26 P) (.node (o42 P) (.node (o74 P) .nil .nil) .nil) (.node (o58 P) .nil .nil))) (.node (o14 P) (.node (o22 P) (.node (o38 P) (.node (o70 P) .nil .nil) .nil) (.node (o54 P) .nil .nil)) (.node (o30 P) (.node (o46 P) .nil .nil) (.node (o62 P) .nil .nil))))))
noncomputable def S_p8 (w : World) (os : OsState) : SharedT := ⟨t_p8 w.params, 76, { }, ⟨[]⟩, { }, 293, os⟩
noncomputable def t_p13 : Params → BT := fun P => (.node (PySem.W.boot_o_0 P) (.node (PySem.W.boot_o_1 P) (.node (o3p13 P) (.node (PySem.W.boot_o_7 P) (.node (o15 P) (.node (o31 P) (.node (o63 P) .nil .nil) (.node (o95 P) .nil .nil)) (.node (o47 P) (.node (o79 P) .nil .nil) .nil)) (.node (o23 P) (.node (o39 P) (.node (o71 P) .nil .nil) (.node (o103 P) .nil .nil)) (.node (o55 P) (.node (o87 P) .nil .nil) .nil))) (.node (o11 P) (.node (o19 P) (.node (o35 P) (.node (o67 P) .nil .nil) (.node (o99 P) .nil .nil)) (.node (o51 P) (.node (o83 P) .nil .nil) .nil)) (.node (o27 P) (.node (o43 P) (.node (o75 P) .nil .nil) .nil) (.node (o59 P) (.node (o91 P) .nil .nil) .nil)))) (.node (PySem.W.boot_o_5 P) (.node (PySem.W.boot_o_9 P) (.node (o17 P) (.node (o33 P) (.node (o65 P) .nil .nil) (.node (o97 P) .nil .nil)) (.node (o49 P) (.node (o81 P) .nil .nil) .nil)) (.node (o25 P) (.node (o41 P) (.node (o73 P) .nil .nil) (.node (o105 P) .nil .nil)) (.node (o57 P) (.node (o89 P) .nil .nil) .nil))) (.node (o13 P) (.node (o21 P) (.node (o37 P) (.node (o69 P) .nil .nil) (.node (o101 P) .nil .nil)) (.node (o53 P) (.node (o85 P) .nil .nil) .nil)) (.node (o29 P) (.node (o45 P) (.node (o77 P) .nil .nil) .nil) (.node (o61 P) (.node (o93 P) .nil .nil) .nil))))) (.node (PySem.W.boot_o_2 P) (.node (PySem.W.boot_o_4 P) (.node (PySem.W.boot_o_8 P) (.node (o16 P) (.node (o32 P) (.node (o64 P) .nil .nil) (.node (o96 P) .nil .nil)) (.node (o48 P) (.node (o80 P) .nil .nil) .nil)) (.node (o24 P) (.node (o40 P) (.node (o72 P) .nil .nil) (.node (o104 P) .nil .nil)) (.node (o56 P) (.node (o88 P) .nil .nil) .nil))) (.node (o12p13 P) (.node (o20 P) (.node (o36 P) (.node (o68 P) .nil .nil) (.node (o100 P) .nil .nil)) (.node (o52 P) (.node (o84 P) .nil .nil) .nil)) (.node (o28 P) (.node (o44 P) (.node (o76 P) .nil .nil) .nil) (.node (o60 P) (.node (o92 P) .nil .nil) .nil)))) (.node (PySem.W.boot_o_6 P) (.node (PySem.W.boot_o_10 P) (.node (o18 P) (.node (o34 P) (.node (o66 P) .nil .nil) (.node (o98 P) .nil .nil)) (.node (o50 P) (.node (o82 P) .nil .nil) .nil)) (.node (o26 P) (.node (o42 P) (.node (o74 P) .nil .nil) (.node (o106 P) .nil .nil)) (.node (o58 P) (.node (o90 P) .nil .nil) .nil))) (.node (o14 P) (.node (o22 P) (.node (o38 P) (.node (o70 P) .nil .nil) (.node (o102 P) .nil .nil)) (.node (o54 P) (.node (o86 P) .nil .nil) .nil)) (.node (o30 P) (.node (o46 P) (.node (o78 P) .nil .nil) .nil) (.node (o62 P) (.node (o94 P) .nil .nil) .nil))))))
noncomputable def S_p13 (w : World) (os : OsState) : SharedT := ⟨t_p13 w.params, 107, { }, ⟨[]⟩, { }, 331, os⟩
noncomputable def eE : Env := { scope := PP.main.scope, locals := mainNs, globals := mainNs, cells := [], code := PySem.Value.ref 13, frame := some 14 }
noncomputable def g_0 : List Stmt := [nthS PP.main.body 0, nthS PP.main.body 1, nthS PP.main.body 2, nthS PP.main.body 3, nthS PP.main.body 4, nthS PP.main.body 5, nthS PP.main.body 6, nthS PP.main.body 7, nthS PP.main.body 8]
noncomputable def g_1 : List Stmt := [nthS PP.main.body 9, nthS PP.main.body 10, nthS PP.main.body 11, nthS PP.main.body 12, nthS PP.main.body 13]
noncomputable abbrev bE : List Stmt := g_0 ++ (g_1 ++ ([]))
noncomputable abbrev cE : Code := .body bE eE
theorem hOpen : ∀ w : World, (fencedOpening treeTable PP w 1298).map (fun s => (s.heap, s.gens, s.drawn, s.toks)) = some (PySem.W.boot_heap w.params, Array.mk [], PySem.W.boot_drawn, PySem.W.boot_toks) := boot_open (by kernel_rfl) (by decide) (fun s => by kernel_rfl)
theorem hSize : ∀ w : World, ((PySem.W.boot_heap w.params).isNs mainGlobals && (Array.mk [] : Array GenState).size == 0, (PySem.W.boot_heap w.params).objs.size, (PySem.W.boot_heap w.params).nsMap mainGlobals "__annotations__") = (true, 11, (Option.some (PySem.Value.ref 6) : Option Value)) := fun w => by kernel_rfl
theorem hPre (w : World) (os : OsState) : topGo treeTable PP w 11 (Option.some (PySem.Value.ref 6) : Option Value) 12 ⟨PySem.W.boot_heap w.params, Array.mk [], PySem.W.boot_drawn, PySem.W.boot_toks, os⟩ (topStub PP) = some (⟨h_a w.params, Array.mk [], { }, 187, os⟩, ⟨denote treeTable cE, cE, { line := 0, col := 0, endLine := 0, endCol := 0 }, [topFrame { line := 0, col := 0, endLine := 0, endCol := 0 }]⟩) := by kernel_rfl
theorem hBlock (w : World) (os : OsState) : segRun treeTable PP w 11 (Option.some (PySem.Value.ref 6) : Option Value) 1 1 ⟨h_a w.params, Array.mk [], { }, 187, os⟩ (blockOf bE eE cE { line := 0, col := 0, endLine := 0, endCol := 0 } [topFrame { line := 0, col := 0, endLine := 0, endCol := 0 }]) = some (.next, (S_b w os).abs, cE, { line := 0, col := 0, endLine := 0, endCol := 0 }) := by kernel_rfl
theorem hG_0 (w : World) (os : OsState) : segRunT treeTable PP w 11 (Option.some (PySem.Value.ref 6) : Option Value) 1 443 (S_b w os) (piecesOf g_0 eE cE { line := 0, col := 0, endLine := 0, endCol := 0 } [topFrame { line := 0, col := 0, endLine := 0, endCol := 0 }]) = some (.next, S_p8 w os, cE, { line := 57, col := 0, endLine := 61, endCol := 17 }) := by kernel_rfl
theorem hG_1 (w : World) (os : OsState) : segRunT treeTable PP w 11 (Option.some (PySem.Value.ref 6) : Option Value) 1 145 (S_p8 w os) (piecesOf g_1 eE cE { line := 57, col := 0, endLine := 61, endCol := 17 } [topFrame { line := 0, col := 0, endLine := 0, endCol := 0 }]) = some (.next, S_p13 w os, cE, { line := 90, col := 0, endLine := 109, endCol := 85 }) := by kernel_rfl
theorem hFin (w : World) (os : OsState) : topRun treeTable PP w 11 (Option.some (PySem.Value.ref 6) : Option Value) 2 (S_p13 w os).abs ⟨doneF .next, cE, { line := 90, col := 0, endLine := 109, endCol := 85 }, [topFrame { line := 0, col := 0, endLine := 0, endCol := 0 }]⟩ = some ⟨h_f w.params, Array.mk [], { }, 331, os⟩ := by kernel_rfl
theorem hRun : ∀ (w : World) (os : OsState), topRun treeTable PP w 11 (Option.some (PySem.Value.ref 6) : Option Value) (12 + (1 + (443 + (145 + 2)))) ⟨PySem.W.boot_heap w.params, Array.mk [], PySem.W.boot_drawn, PySem.W.boot_toks, os⟩ (topStub PP) = some ⟨h_f w.params, Array.mk [], { }, 331, os⟩ := fun w os => go_top (hPre w os) (piece_block (hBlock w os) (piece_app (segRun_of (hG_0 w os)) (piece_app (segRun_of (hG_1 w os)) (piece_nil (hFin w os)))))
noncomputable def K : Params → Frag := (fun (n0 : Str) (a0 : Arguments) (b0 : List Stmt) (d0 : List Expr) (r0 : Option Expr) (t0 : List TypeParam) (s0 : PySem.Scope) (u0 : Option PySem.Scope) (m0 : Str) (p0 : Pos) (_ : (nthS (fdB (nthS PP.main.body 1)) 0) = .FunctionDef n0 a0 b0 d0 r0 t0 s0 u0 m0 p0) (n1 : Str) (a1 : Arguments) (b1 : List Stmt) (d1 : List Expr) (r1 : Option Expr) (t1 : List TypeParam) (s1 : PySem.Scope) (u1 : Option PySem.Scope) (m1 : Str) (p1 : Pos) (_ : (nthS PP.main.body 2) = .FunctionDef n1 a1 b1 d1 r1 t1 s1 u1 m1 p1) (n2 : Str) (a2 : Arguments) (b2 : List Stmt) (d2 : List Expr) (r2 : Option Expr) (t2 : List TypeParam) (s2 : PySem.Scope) (u2 : Option PySem.Scope) (m2 : Str) (p2 : Pos) (_ : (nthS PP.main.body 3) = .FunctionDef n2 a2 b2 d2 r2 t2 s2 u2 m2 p2) (n3 : Str) (a3 : Arguments) (b3 : List Stmt) (d3 : List Expr) (r3 : Option Expr) (t3 : List TypeParam) (s3 : PySem.Scope) (u3 : Option PySem.Scope) (m3 : Str) (p3 : Pos) (_ : (nthS PP.main.body 4) = .FunctionDef n3 a3 b3 d3 r3 t3 s3 u3 m3 p3) (n4 : Str) (a4 : Arguments) (b4 : List Stmt) (d4 : List Expr) (r4 : Option Expr) (t4 : List TypeParam) (s4 : PySem.Scope) (u4 : Option PySem.Scope) (m4 : Str) (p4 : Pos) (_ : (nthS PP.main.body 6) = .FunctionDef n4 a4 b4 d4 r4 t4 s4 u4 m4 p4) (n5 : Str) (a5 : Arguments) (b5 : List Stmt) (d5 : List Expr) (r5 : Option Expr) (t5 : List TypeParam) (s5 : PySem.Scope) (u5 : Option PySem.Scope) (m5 : Str) (p5 : Pos) (_ : (nthS PP.main.body 7) = .FunctionDef n5 a5 b5 d5 r5 t5 s5 u5 m5 p5) (n6 : Str) (a6 : Arguments) (b6 : List Stmt) (d6 : List Expr) (r6 : Option Expr) (t6 : List TypeParam) (s6 : PySem.Scope) (u6 : Option PySem.Scope) (m6 : Str) (p6 : Pos) (_ : (nthS PP.main.body 8) = .FunctionDef n6 a6 b6 d6 r6 t6 s6 u6 m6 p6) (n7 : Str) (a7 : Arguments) (b7 : List Stmt) (d7 : List Expr) (r7 : Option Expr) (t7 : List TypeParam) (s7 : PySem.Scope) (u7 : Option PySem.Scope) (m7 : Str) (p7 : Pos) (_ : (nthS PP.main.body 9) = .FunctionDef n7 a7 b7 d7 r7 t7 s7 u7 m7 p7) (n8 : Str) (a8 : Arguments) (b8 : List Stmt) (d8 : List Expr) (r8 : Option Expr) (t8 : List TypeParam) (s8 : PySem.Scope) (u8 : Option PySem.Scope) (m8 : Str) (p8 : Pos) (_ : (nthS PP.main.body 10) = .FunctionDef n8 a8 b8 d8 r8 t8 s8 u8 m8 p8) (n9 : Str) (a9 : Arguments) (b9 : List Stmt) (d9 : List Expr) (r9 : Option Expr) (t9 : List TypeParam) (s9 : PySem.Scope) (u9 : Option PySem.Scope) (m9 : Str) (p9 : Pos) (_ : (nthS PP.main.body 11) = .FunctionDef n9 a9 b9 d9 r9 t9 s9 u9 m9 p9) (n10 : Str) (a10 : Arguments) (b10 : List Stmt) (d10 : List Expr) (r10 : Option Expr) (t10 : List TypeParam) (s10 : PySem.Scope) (u10 : Option PySem.Scope) (m10 : Str) (p10 : Pos) (_ : (nthS PP.main.body 12) = .FunctionDef n10 a10 b10 d10 r10 t10 s10 u10 m10 p10) (n11 : Str) (a11 : Arguments) (b11 : List Stmt) (d11 : List Expr) (r11 : Option Expr) (t11 : List TypeParam) (s11 : PySem.Scope) (u11 : Option PySem.Scope) (m11 : Str) (p11 : Pos) (_ : (nthS PP.main.body 13) = .FunctionDef n11 a11 b11 d11 r11 t11 s11 u11 m11 p11) => fun P => ((nat_lit 2, { cls := PySem.Value.none, data := PySem.Data.dict #[] }) :: (nat_lit 3, { cls := PySem.Value.type "dict", data := PySem.Data.dict #[{ hash := PySem.PyData.keyHash P (PySem.Str.ofString "__name__"), key := PySem.Value.str (PySem.Str.ofString "__name__") 165, val := PySem.Value.str (PySem.Str.ofString "law_ys0001_03") 263 }, { hash := PySem.PyData.keyHash P (PySem.Str.ofString "__doc__"), key := PySem.Value.str (PySem.Str.ofString "__doc__") 166, val := PySem.Value.none }, { hash := PySem.PyData.keyHash P (PySem.Str.ofString "__package__"), key := PySem.Value.str (PySem.Str.ofString "__package__") 167, val := PySem.Value.none }, { hash := PySem.PyData.keyHash P (PySem.Str.ofString "__loader__"), key := PySem.Value.str (PySem.Str.ofString "__loader__") 168, val := PySem.Value.builtin "__main__.__loader__#opaque" }, { hash := PySem.PyData.keyHash P (PySem.Str.ofString "__spec__"), key := PySem.Value.str (PySem.Str.ofString "__spec__") 169, val := PySem.Value.none }, { hash := PySem.PyData.keyHash P (PySem.Str.ofString "__annotations__"), key := PySem.Value.str (PySem.Str.ofString "__annotations__") 170, val := PySem.Value.ref 6 }, { hash := PySem.PyData.keyHash P (PySem.Str.ofString "__builtins__"), key := PySem.Value.str (PySem.Str.ofString "__builtins__") 171, val := PySem.Value.ref 4 }, { hash := PySem.PyData.keyHash P (PySem.Str.ofString "__file__"), key := PySem.Value.str (PySem.Str.ofString "__file__") 173, val := PySem.Value.str (PySem.Str.ofString "/claim/cut.py") 172 }, { hash := PySem.PyData.keyHash P (PySem.Str.ofString "__cached__"), key := PySem.Value.str (PySem.Str.ofString "__cached__") 174, val := PySem.Value.none }, { hash := PySem.PyData.keyHash P (PySem.Str.ofString "NotRelativePrimeError"), key := PySem.Value.str (PySem.Str.ofString "NotRelativePrimeError") 221, val := PySem.Value.ref 32 }, { hash := PySem.PyData.keyHash P (PySem.Str.ofString "extended_gcd"), key := PySem.Value.str (PySem.Str.ofString "extended_gcd") 236, val := PySem.Value.ref 42 }, { hash := PySem.PyData.keyHash P (PySem.Str.ofString "inverse"), key := PySem.Value.str (PySem.Str.ofString "inverse") 247, val := PySem.Value.ref 49 }, { hash := PySem.PyData.keyHash P (PySem.Str.ofString "crt"), key := PySem.Value.str (PySem.Str.ofString "crt") 262, val := PySem.Value.ref 56 }, { hash := PySem.PyData.keyHash P (PySem.Str.ofString "_law_state"), key := PySem.Value.str (PySem.Str.ofString "_law_state") 270, val := PySem.Value.ref 61 }, { hash := PySem.PyData.keyHash P (PySem.Str.ofString "_law_take"), key := PySem.Value.str (PySem.Str.ofString "_law_take") 282, val := PySem.Value.ref 68 }, { hash := PySem.PyData.keyHash P (PySem.Str.ofString "_law_great"), key := PySem.Value.str (PySem.Str.ofString "_law_great") 292, val := PySem.Value.ref 75 }, { hash := PySem.PyData.keyHash P (PySem.Str.ofString "_law_number"), key := PySem.Value.str (PySem.Str.ofString "_law_number") 300, val := PySem.Value.ref 82 }, { hash := PySem.PyData.keyHash P (PySem.Str.ofString "_law_gcd"), key := PySem.Value.str (PySem.Str.ofString "_law_gcd") 309, val := PySem.Value.ref 89 }, { hash := PySem.PyData.keyHash P (PySem.Str.ofString "_law_told"), key := PySem.Value.str (PySem.Str.ofString "_law_told") 318, val := PySem.Value.ref 96 }, { hash := PySem.PyData.keyHash P (PySem.Str.ofString "_law_moduli"), key := PySem.Value.str (PySem.Str.ofString "_law_moduli") 324, val := PySem.Value.ref 101 }, { hash := PySem.PyData.keyHash P (PySem.Str.ofString "law"), key := PySem.Value.str (PySem.Str.ofString "law") 330, val := PySem.Value.ref 106 }] 21 }) :: (nat_lit 6, { cls := PySem.Value.type "dict", data := PySem.Data.dict #[] }) :: (nat_lit 15, { cls := PySem.Value.type "tuple", data := PySem.Data.seq #[PySem.Value.type "ValueError"] }) :: (nat_lit 22, { cls := PySem.Value.type "tuple", data := PySem.Data.seq #[PySem.Value.str (PySem.Str.ofString "") 201] }) :: (nat_lit 23, { cls := PySem.Value.type "tuple", data := PySem.Data.seq #[] }) :: (nat_lit 25, { cls := PySem.Value.type "tuple", data := PySem.Data.seq #[PySem.Value.str (PySem.Str.ofString "self") 205, PySem.Value.str (PySem.Str.ofString "a") 206, PySem.Value.str (PySem.Str.ofString "b") 207, PySem.Value.str (PySem.Str.ofString "d") 208, PySem.Value.str (PySem.Str.ofString "msg") 209] }) :: (nat_lit 26, { cls := PySem.Value.type "tuple", data := PySem.Data.seq #[] }) :: (nat_lit 28, { cls := PySem.Value.type "code", data := PySem.Data.fields #[PySem.Value.str (PySem.Str.ofString "__init__") 202, PySem.Value.str (PySem.Str.ofString "NotRelativePrimeError.__init__") 203, PySem.Value.str (PySem.Str.ofString "/claim/cut.py") 204, PySem.Value.int 4 0, PySem.Value.int 5 0, PySem.Value.int 0 0, PySem.Value.int 0 0, PySem.Value.int 3 0, PySem.Value.ref 23, PySem.Value.bool Bool.true, PySem.Value.int 181 0, PySem.Value.ref 24, PySem.Value.none, PySem.Value.ref 25, PySem.Value.ref 26, PySem.Value.ref 27, PySem.Value.int 210 0, PySem.Value.int 4 0, PySem.Value.str (PySem.Str.ofString "/claim/cut.py") 211] }) :: (nat_lit 29, { cls := PySem.Value.type "function", data := PySem.Data.func { name := PySem.Str.ofString "__init__", qualname := PySem.Str.ofString "NotRelativePrimeError.__init__", params := a0, body := PySem.FuncBody.stmts b0, scope := s0, globals := 3, closure := [], defaults := PySem.Value.ref 22, kwdefaults := PySem.Value.none, pyModule := PySem.Value.str (PySem.Str.ofString "rsa.common") 187, code := PySem.Value.ref 28 } }) :: (nat_lit 30, { cls := PySem.Value.type "tuple", data := PySem.Data.seq #[PySem.Value.str (PySem.Str.ofString "a") 213, PySem.Value.str (PySem.Str.ofString "b") 214, PySem.Value.str (PySem.Str.ofString "d") 215] }) :: (nat_lit 31, { cls := PySem.Value.type "dict", data := PySem.Data.dict #[{ hash := PySem.PyData.keyHash P (PySem.Str.ofString "__module__"), key := PySem.Value.str (PySem.Str.ofString "__module__") 196, val := PySem.Value.str (PySem.Str.ofString "rsa.common") 187 }, { hash := PySem.PyData.keyHash P (PySem.Str.ofString "__firstlineno__"), key := PySem.Value.str (PySem.Str.ofString "__firstlineno__") 200, val := PySem.Value.int 2 199 }, { hash := PySem.PyData.keyHash P (PySem.Str.ofString "__init__"), key := PySem.Value.str (PySem.Str.ofString "__init__") 212, val := PySem.Value.ref 29 }, { hash := PySem.PyData.keyHash P (PySem.Str.ofString "__static_attributes__"), key := PySem.Value.str (PySem.Str.ofString "__static_attributes__") 216, val := PySem.Value.ref 30 }, { hash := PySem.PyData.keyHash P (PySem.Str.ofString "__weakref__"), key := PySem.Value.str (PySem.Str.ofString "__weakref__") 218, val := PySem.Value.ref 33 }, { hash := PySem.PyData.keyHash P (PySem.Str.ofString "__doc__"), key := PySem.Value.str (PySem.Str.ofString "__doc__") 219, val := PySem.Value.none }] 3 }) :: (nat_lit 32, { cls := PySem.Value.type "type", data := PySem.Data.cls { name := PySem.Str.ofString "NotRelativePrimeError", bases := [PySem.Value.type "ValueError"], mro := [PySem.Value.ref 32, PySem.Value.type "ValueError", PySem.Value.type "Exception", PySem.Value.type "BaseException", PySem.Value.type "object"], ns := 31, qualname := PySem.Str.ofString "NotRelativePrimeError" }, slots := #[Option.some (PySem.Value.ref 15), Option.none, Option.some (PySem.Value.str (PySem.Str.ofString "NotRelativePrimeError") 189), Option.some (PySem.Value.str (PySem.Str.ofString "NotRelativePrimeError") 197), Option.some (PySem.Value.builtin "ValueError.__new__"), Option.some (PySem.Value.bool Bool.true)] }) :: (nat_lit 33, { cls := PySem.Value.type "getset_descriptor", data := PySem.Data.fields #[PySem.Value.str (PySem.Str.ofString "__weakref__") 217, PySem.Value.ref 32, PySem.Value.builtin "ExceptionGroup.__weakref__", PySem.Value.none] }) :: (nat_lit 36, { cls := PySem.Value.type "tuple", data := PySem.Data.seq #[] }) :: (nat_lit 38, { cls := PySem.Value.type "tuple", data := PySem.Data.seq #[PySem.Value.str (PySem.Str.ofString "a") 225, PySem.Value.str (PySem.Str.ofString "b") 226, PySem.Value.str (PySem.Str.ofString "x") 227, PySem.Value.str (PySem.Str.ofString "y") 228, PySem.Value.str (PySem.Str.ofString "lx") 229, PySem.Value.str (PySem.Str.ofString "ly") 230, PySem.Value.str (PySem.Str.ofString "oa") 231, PySem.Value.str (PySem.Str.ofString "ob") 232, PySem.Value.str (PySem.Str.ofString "q") 233] }) :: (nat_lit 39, { cls := PySem.Value.type "tuple", data := PySem.Data.seq #[] }) :: (nat_lit 41, { cls := PySem.Value.type "code", data := PySem.Data.fields #[PySem.Value.str (PySem.Str.ofString "extended_gcd") 222, PySem.Value.str (PySem.Str.ofString "extended_gcd") 223, PySem.Value.str (PySem.Str.ofString "/claim/cut.py") 224, PySem.Value.int 8 0, PySem.Value.int 2 0, PySem.Value.int 0 0, PySem.Value.int 0 0, PySem.Value.int 3 0, PySem.Value.ref 36, PySem.Value.bool Bool.true, PySem.Value.int 181 0, PySem.Value.ref 37, PySem.Value.none, PySem.Value.ref 38, PySem.Value.ref 39, PySem.Value.ref 40, PySem.Value.int 234 0, PySem.Value.int 8 0, PySem.Value.str (PySem.Str.ofString "/claim/cut.py") 235] }) :: (nat_lit 42, { cls := PySem.Value.type "function", data := PySem.Data.func { name := PySem.Str.ofString "extended_gcd", qualname := PySem.Str.ofString "extended_gcd", params := a1, body := PySem.FuncBody.stmts b1, scope := s1, globals := 3, closure := [], defaults := PySem.Value.none, kwdefaults := PySem.Value.none, pyModule := PySem.Value.str (PySem.Str.ofString "rsa.common") 187, code := PySem.Value.ref 41 } }) :: (nat_lit 43, { cls := PySem.Value.type "tuple", data := PySem.Data.seq #[] }) :: (nat_lit 45, { cls := PySem.Value.type "tuple", data := PySem.Data.seq #[PySem.Value.str (PySem.Str.ofString "x") 240, PySem.Value.str (PySem.Str.ofString "n") 241, PySem.Value.str (PySem.Str.ofString "divider") 242, PySem.Value.str (PySem.Str.ofString "inv") 243, PySem.Value.str (PySem.Str.ofString "_") 244] }) :: (nat_lit 46, { cls := PySem.Value.type "tuple", data := PySem.Data.seq #[] }) :: (nat_lit 48, { cls := PySem.Value.type "code", data := PySem.Data.fields #[PySem.Value.str (PySem.Str.ofString "inverse") 237, PySem.Value.str (PySem.Str.ofString "inverse") 238, PySem.Value.str (PySem.Str.ofString "/claim/cut.py") 239, PySem.Value.int 25 0, PySem.Value.int 2 0, PySem.Value.int 0 0, PySem.Value.int 0 0, PySem.Value.int 3 0, PySem.Value.ref 43, PySem.Value.bool Bool.true, PySem.Value.int 181 0, PySem.Value.ref 44, PySem.Value.none, PySem.Value.ref 45, PySem.Value.ref 46, PySem.Value.ref 47, PySem.Value.int 245 0, PySem.Value.int 25 0, PySem.Value.str (PySem.Str.ofString "/claim/cut.py") 246] }) :: (nat_lit 49, { cls := PySem.Value.type "function", data := PySem.Data.func { name := PySem.Str.ofString "inverse", qualname := PySem.Str.ofString "inverse", params := a2, body := PySem.FuncBody.stmts b2, scope := s2, globals := 3, closure := [], defaults := PySem.Value.none, kwdefaults := PySem.Value.none, pyModule := PySem.Value.str (PySem.Str.ofString "rsa.common") 187, code := PySem.Value.ref 48 } }) :: (nat_lit 50, { cls := PySem.Value.type "tuple", data := PySem.Data.seq #[] }) :: (nat_lit 52, { cls := PySem.Value.type "tuple", data := PySem.Data.seq #[PySem.Value.str (PySem.Str.ofString "a_values") 251, PySem.Value.str (PySem.Str.ofString "modulo_values") 252, PySem.Value.str (PySem.Str.ofString "m") 253, PySem.Value.str (PySem.Str.ofString "x") 254, PySem.Value.str (PySem.Str.ofString "modulo") 255, PySem.Value.str (PySem.Str.ofString "m_i") 256, PySem.Value.str (PySem.Str.ofString "a_i") 257, PySem.Value.str (PySem.Str.ofString "M_i") 258, PySem.Value.str (PySem.Str.ofString "inv") 259] }) :: (nat_lit 53, { cls := PySem.Value.type "tuple", data := PySem.Data.seq #[] }) :: (nat_lit 55, { cls := PySem.Value.type "code", data := PySem.Data.fields #[PySem.Value.str (PySem.Str.ofString "crt") 248, PySem.Value.str (PySem.Str.ofString "crt") 249, PySem.Value.str (PySem.Str.ofString "/claim/cut.py") 250, PySem.Value.int 30 0, PySem.Value.int 2 0, PySem.Value.int 0 0, PySem.Value.int 0 0, PySem.Value.int 3 0, PySem.Value.ref 50, PySem.Value.bool Bool.true, PySem.Value.int 181 0, PySem.Value.ref 51, PySem.Value.none, PySem.Value.ref 52, PySem.Value.ref 53, PySem.Value.ref 54, PySem.Value.int 260 0, PySem.Value.int 30 0, PySem.Value.str (PySem.Str.ofString "/claim/cut.py") 261] }) :: (nat_lit 56, { cls := PySem.Value.type "function", data := PySem.Data.func { name := PySem.Str.ofString "crt", qualname := PySem.Str.ofString "crt", params := a3, body := PySem.FuncBody.stmts b3, scope := s3, globals := 3, closure := [], defaults := PySem.Value.none, kwdefaults := PySem.Value.none, pyModule := PySem.Value.str (PySem.Str.ofString "rsa.common") 187, code := PySem.Value.ref 55 } }) :: (nat_lit 57, { cls := PySem.Value.type "tuple", data := PySem.Data.seq #[] }) :: (nat_lit 60, { cls := PySem.Value.type "code", data := PySem.Data.fields #[PySem.Value.str (PySem.Str.ofString "_law_state") 265, PySem.Value.str (PySem.Str.ofString "_law_state") 266, PySem.Value.str (PySem.Str.ofString "/claim/cut.py") 267, PySem.Value.int 41 0, PySem.Value.int 1 0, PySem.Value.int 0 0, PySem.Value.int 0 0, PySem.Value.int 3 0, PySem.Value.ref 57, PySem.Value.bool Bool.true, PySem.Value.int 181 0, PySem.Value.ref 58, PySem.Value.none, PySem.Value.none, PySem.Value.none, PySem.Value.ref 59, PySem.Value.int 268 0, PySem.Value.int 41 0, PySem.Value.str (PySem.Str.ofString "/claim/cut.py") 269] }) :: (nat_lit 61, { cls := PySem.Value.type "function", data := PySem.Data.func { name := PySem.Str.ofString "_law_state", qualname := PySem.Str.ofString "_law_state", params := a4, body := PySem.FuncBody.stmts b4, scope := s4, globals := 3, closure := [], defaults := PySem.Value.none, kwdefaults := PySem.Value.none, pyModule := PySem.Value.str (PySem.Str.ofString "law_ys0001_03") 263, code := PySem.Value.ref 60 } }) :: (nat_lit 62, { cls := PySem.Value.type "tuple", data := PySem.Data.seq #[] }) :: (nat_lit 64, { cls := PySem.Value.type "tuple", data := PySem.Data.seq #[PySem.Value.str (PySem.Str.ofString "state") 274, PySem.Value.str (PySem.Str.ofString "most") 275, PySem.Value.str (PySem.Str.ofString "cells") 276, PySem.Value.str (PySem.Str.ofString "at") 277, PySem.Value.str (PySem.Str.ofString "cell") 278, PySem.Value.str (PySem.Str.ofString "mixed") 279] }) :: (nat_lit 65, { cls := PySem.Value.type "tuple", data := PySem.Data.seq #[] }) :: (nat_lit 67, { cls := PySem.Value.type "code", data := PySem.Data.fields #[PySem.Value.str (PySem.Str.ofString "_law_take") 271, PySem.Value.str (PySem.Str.ofString "_law_take") 272, PySem.Value.str (PySem.Str.ofString "/claim/cut.py") 273, PySem.Value.int 46 0, PySem.Value.int 2 0, PySem.Value.int 0 0, PySem.Value.int 0 0, PySem.Value.int 3 0, PySem.Value.ref 62, PySem.Value.bool Bool.true, PySem.Value.int 181 0, PySem.Value.ref 63, PySem.Value.none, PySem.Value.ref 64, PySem.Value.ref 65, PySem.Value.ref 66, PySem.Value.int 280 0, PySem.Value.int 46 0, PySem.Value.str (PySem.Str.ofString "/claim/cut.py") 281] }) :: (nat_lit 68, { cls := PySem.Value.type "function", data := PySem.Data.func { name := PySem.Str.ofString "_law_take", qualname := PySem.Str.ofString "_law_take", params := a5, body := PySem.FuncBody.stmts b5, scope := s5, globals := 3, closure := [], defaults := PySem.Value.none, kwdefaults := PySem.Value.none, pyModule := PySem.Value.str (PySem.Str.ofString "law_ys0001_03") 263, code := PySem.Value.ref 67 } }) :: (nat_lit 69, { cls := PySem.Value.type "tuple", data := PySem.Data.seq #[] }) :: (nat_lit 71, { cls := PySem.Value.type "tuple", data := PySem.Data.seq #[PySem.Value.str (PySem.Str.ofString "state") 286, PySem.Value.str (PySem.Str.ofString "words") 287, PySem.Value.str (PySem.Str.ofString "number") 288, PySem.Value.str (PySem.Str.ofString "turn") 289] }) :: (nat_lit 72, { cls := PySem.Value.type "tuple", data := PySem.Data.seq #[] }) :: (nat_lit 74, { cls := PySem.Value.type "code", data := PySem.Data.fields #[PySem.Value.str (PySem.Str.ofString "_law_great") 283, PySem.Value.str (PySem.Str.ofString "_law_great") 284, PySem.Value.str (PySem.Str.ofString "/claim/cut.py") 285, PySem.Value.int 57 0, PySem.Value.int 2 0, PySem.Value.int 0 0, PySem.Value.int 0 0, PySem.Value.int 3 0, PySem.Value.ref 69, PySem.Value.bool Bool.true, PySem.Value.int 181 0, PySem.Value.ref 70, PySem.Value.none, PySem.Value.ref 71, PySem.Value.ref 72, PySem.Value.ref 73, PySem.Value.int 290 0, PySem.Value.int 57 0, PySem.Value.str (PySem.Str.ofString "/claim/cut.py") 291] }) :: (nat_lit 75, { cls := PySem.Value.type "function", data := PySem.Data.func { name := PySem.Str.ofString "_law_great", qualname := PySem.Str.ofString "_law_great", params := a6, body := PySem.FuncBody.stmts b6, scope := s6, globals := 3, closure := [], defaults := PySem.Value.none, kwdefaults := PySem.Value.none, pyModule := PySem.Value.str (PySem.Str.ofString "law_ys0001_03") 263, code := PySem.Value.ref 74 } }) :: (nat_lit 76, { cls := PySem.Value.type "tuple", data := PySem.Data.seq #[] }) :: (nat_lit 78, { cls := PySem.Value.type "tuple", data := PySem.Data.seq #[PySem.Value.str (PySem.Str.ofString "state") 296, PySem.Value.str (PySem.Str.ofString "kind") 297] }) :: (nat_lit 79, { cls := PySem.Value.type "tuple", data := PySem.Data.seq #[] }) :: (nat_lit 81, { cls := PySem.Value.type "code", data := PySem.Data.fields #[PySem.Value.str (PySem.Str.ofString "_law_number") 293, PySem.Value.str (PySem.Str.ofString "_law_number") 294, PySem.Value.str (PySem.Str.ofString "/claim/cut.py") 295, PySem.Value.int 62 0, PySem.Value.int 1 0, PySem.Value.int 0 0, PySem.Value.int 0 0, PySem.Value.int 3 0, PySem.Value.ref 76, PySem.Value.bool Bool.true, PySem.Value.int 181 0, PySem.Value.ref 77, PySem.Value.none, PySem.Value.ref 78, PySem.Value.ref 79, PySem.Value.ref 80, PySem.Value.int 298 0, PySem.Value.int 62 0, PySem.Value.str (PySem.Str.ofString "/claim/cut.py") 299] }) :: (nat_lit 82, { cls := PySem.Value.type "function", data := PySem.Data.func { name := PySem.Str.ofString "_law_number", qualname := PySem.Str.ofString "_law_number", params := a7, body := PySem.FuncBody.stmts b7, scope := s7, globals := 3, closure := [], defaults := PySem.Value.none, kwdefaults := PySem.Value.none, pyModule := PySem.Value.str (PySem.Str.ofString "law_ys0001_03") 263, code := PySem.Value.ref 81 } }) :: (nat_lit 83, { cls := PySem.Value.type "tuple", data := PySem.Data.seq #[] }) :: (nat_lit 85, { cls := PySem.Value.type "tuple", data := PySem.Data.seq #[PySem.Value.str (PySem.Str.ofString "one") 304, PySem.Value.str (PySem.Str.ofString "two") 305, PySem.Value.str (PySem.Str.ofString "turn") 306] }) :: (nat_lit 86, { cls := PySem.Value.type "tuple", data := PySem.Data.seq #[] }) :: (nat_lit 88, { cls := PySem.Value.type "code", data := PySem.Data.fields #[PySem.Value.str (PySem.Str.ofString "_law_gcd") 301, PySem.Value.str (PySem.Str.ofString "_law_gcd") 302, PySem.Value.str (PySem.Str.ofString "/claim/cut.py") 303, PySem.Value.int 69 0, PySem.Value.int 2 0, PySem.Value.int 0 0, PySem.Value.int 0 0, PySem.Value.int 3 0, PySem.Value.ref 83, PySem.Value.bool Bool.true, PySem.Value.int 181 0, PySem.Value.ref 84, PySem.Value.none, PySem.Value.ref 85, PySem.Value.ref 86, PySem.Value.ref 87, PySem.Value.int 307 0, PySem.Value.int 69 0, PySem.Value.str (PySem.Str.ofString "/claim/cut.py") 308] }) :: (nat_lit 89, { cls := PySem.Value.type "function", data := PySem.Data.func { name := PySem.Str.ofString "_law_gcd", qualname := PySem.Str.ofString "_law_gcd", params := a8, body := PySem.FuncBody.stmts b8, scope := s8, globals := 3, closure := [], defaults := PySem.Value.none, kwdefaults := PySem.Value.none, pyModule := PySem.Value.str (PySem.Str.ofString "law_ys0001_03") 263, code := PySem.Value.ref 88 } }) :: (nat_lit 90, { cls := PySem.Value.type "tuple", data := PySem.Data.seq #[] }) :: (nat_lit 92, { cls := PySem.Value.type "tuple", data := PySem.Data.seq #[PySem.Value.str (PySem.Str.ofString "numbers") 313, PySem.Value.str (PySem.Str.ofString "moduli") 314, PySem.Value.str (PySem.Str.ofString "e") 315] }) :: (nat_lit 93, { cls := PySem.Value.type "tuple", data := PySem.Data.seq #[] }) :: (nat_lit 95, { cls := PySem.Value.type "code", data := PySem.Data.fields #[PySem.Value.str (PySem.Str.ofString "_law_told") 310, PySem.Value.str (PySem.Str.ofString "_law_told") 311, PySem.Value.str (PySem.Str.ofString "/claim/cut.py") 312, PySem.Value.int 75 0, PySem.Value.int 2 0, PySem.Value.int 0 0, PySem.Value.int 0 0, PySem.Value.int 3 0, PySem.Value.ref 90, PySem.Value.bool Bool.true, PySem.Value.int 181 0, PySem.Value.ref 91, PySem.Value.none, PySem.Value.ref 92, PySem.Value.ref 93, PySem.Value.ref 94, PySem.Value.int 316 0, PySem.Value.int 75 0, PySem.Value.str (PySem.Str.ofString "/claim/cut.py") 317] }) :: (nat_lit 96, { cls := PySem.Value.type "function", data := PySem.Data.func { name := PySem.Str.ofString "_law_told", qualname := PySem.Str.ofString "_law_told", params := a9, body := PySem.FuncBody.stmts b9, scope := s9, globals := 3, closure := [], defaults := PySem.Value.none, kwdefaults := PySem.Value.none, pyModule := PySem.Value.str (PySem.Str.ofString "law_ys0001_03") 263, code := PySem.Value.ref 95 } }) :: (nat_lit 97, { cls := PySem.Value.type "tuple", data := PySem.Data.seq #[] }) :: (nat_lit 100, { cls := PySem.Value.type "code", data := PySem.Data.fields #[PySem.Value.str (PySem.Str.ofString "_law_moduli") 319, PySem.Value.str (PySem.Str.ofString "_law_moduli") 320, PySem.Value.str (PySem.Str.ofString "/claim/cut.py") 321, PySem.Value.int 80 0, PySem.Value.int 1 0, PySem.Value.int 0 0, PySem.Value.int 0 0, PySem.Value.int 3 0, PySem.Value.ref 97, PySem.Value.bool Bool.true, PySem.Value.int 181 0, PySem.Value.ref 98, PySem.Value.none, PySem.Value.none, PySem.Value.none, PySem.Value.ref 99, PySem.Value.int 322 0, PySem.Value.int 80 0, PySem.Value.str (PySem.Str.ofString "/claim/cut.py") 323] }) :: (nat_lit 101, { cls := PySem.Value.type "function", data := PySem.Data.func { name := PySem.Str.ofString "_law_moduli", qualname := PySem.Str.ofString "_law_moduli", params := a10, body := PySem.FuncBody.stmts b10, scope := s10, globals := 3, closure := [], defaults := PySem.Value.none, kwdefaults := PySem.Value.none, pyModule := PySem.Value.str (PySem.Str.ofString "law_ys0001_03") 263, code := PySem.Value.ref 100 } }) :: (nat_lit 102, { cls := PySem.Value.type "tuple", data := PySem.Data.seq #[] }) :: (nat_lit 105, { cls := PySem.Value.type "code", data := PySem.Data.fields #[PySem.Value.str (PySem.Str.ofString "law") 325, PySem.Value.str (PySem.Str.ofString "law") 326, PySem.Value.str (PySem.Str.ofString "/claim/cut.py") 327, PySem.Value.int 90 0, PySem.Value.int 1 0, PySem.Value.int 0 0, PySem.Value.int 0 0, PySem.Value.int 3 0, PySem.Value.ref 102, PySem.Value.bool Bool.true, PySem.Value.int 181 0, PySem.Value.ref 103, PySem.Value.none, PySem.Value.none, PySem.Value.none, PySem.Value.ref 104, PySem.Value.int 328 0, PySem.Value.int 90 0, PySem.Value.str (PySem.Str.ofString "/claim/cut.py") 329] }) :: (nat_lit 106, { cls := PySem.Value.type "function", data := PySem.Data.func { name := PySem.Str.ofString "law", qualname := PySem.Str.ofString "law", params := a11, body := PySem.FuncBody.stmts b11, scope := s11, globals := 3, closure := [], defaults := PySem.Value.none, kwdefaults := PySem.Value.none, pyModule := PySem.Value.str (PySem.Str.ofString "law_ys0001_03") 263, code := PySem.Value.ref 105 } }) :: [])) _ _ _ _ _ _ _ _ _ _ rfl _ _ _ _ _ _ _ _ _ _ rfl _ _ _ _ _ _ _ _ _ _ rfl _ _ _ _ _ _ _ _ _ _ rfl _ _ _ _ _ _ _ _ _ _ rfl _ _ _ _ _ _ _ _ _ _ rfl _ _ _ _ _ _ _ _ _ _ rfl _ _ _ _ _ _ _ _ _ _ rfl _ _ _ _ _ _ _ _ _ _ rfl _ _ _ _ _ _ _ _ _ _ rfl _ _ _ _ _ _ _ _ _ _ rfl _ _ _ _ _ _ _ _ _ _ rfl
theorem hKas : ∀ P, ([2, 3, 6, 15, 22, 23, 25, 26, 28, 29, 30, 31, 32, 33, 36, 38, 39, 41, 42, 43, 45, 46, 48, 49, 50, 52, 53, 55, 56, 57, 60, 61, 62, 64, 65, 67, 68, 69, 71, 72, 74, 75, 76, 78, 79, 81, 82, 83, 85, 86, 88, 89, 90, 92, 93, 95, 96, 97, 100, 101, 102, 105, 106] : List Addr) = (K P).map (·.1) := fun P => by kernel_rfl
theorem hLooks : ∀ w : World, (fun os => ((staticsOk (importedModules PP.main.body) (PySem.W.boot_heap w.params) (h_f w.params) && namesBound PP (h_f w.params) && gensDone ⟨h_f w.params, Array.mk [], { }, 331, os⟩ && laidKept (PySem.W.boot_heap w.params) (h_f w.params)), openSeen V [Str.ofString "NotRelativePrimeError"] (importedModules PP.main.body) (fun s => xlAt V [] s && recOk (RowW.records PySem.Challenge.rw_ys0001_03.row.toRowW) s) true ⟨h_f w.params, Array.mk [], { }, 331, os⟩, (Hook.obs (kHook K [2, 3, 6, 15, 22, 23, 25, 26, 28, 29, 30, 31, 32, 33, 36, 38, 39, 41, 42, 43, 45, 46, 48, 49, 50, 52, 53, 55, 56, 57, 60, 61, 62, 64, 65, 67, 68, 69, 71, 72, 74, 75, 76, 78, 79, 81, 82, 83, 85, 86, 88, 89, 90, 92, 93, 95, 96, 97, 100, 101, 102, 105, 106] hKas)) ⟨h_f w.params, Array.mk [], { }, 331, os⟩)) = fun _ => (true, openGood V [Str.ofString "NotRelativePrimeError"], (Hook.val (kHook K [2, 3, 6, 15, 22, 23, 25, 26, 28, 29, 30, 31, 32, 33, 36, 38, 39, 41, 42, 43, 45, 46, 48, 49, 50, 52, 53, 55, 56, 57, 60, 61, 62, 64, 65, 67, 68, 69, 71, 72, 74, 75, 76, 78, 79, 81, 82, 83, 85, 86, 88, 89, 90, 92, 93, 95, 96, 97, 100, 101, 102, 105, 106] hKas)) w) := fun w => by kernel_rfl
theorem hLeft : LeftO PP V [Str.ofString "NotRelativePrimeError"] (fun s => xlAt V [] s && recOk (RowW.records PySem.Challenge.rw_ys0001_03.row.toRowW) s) (Hook.obs (kHook K [2, 3, 6, 15, 22, 23, 25, 26, 28, 29, 30, 31, 32, 33, 36, 38, 39, 41, 42, 43, 45, 46, 48, 49, 50, 52, 53, 55, 56, 57, 60, 61, 62, 64, 65, 67, 68, 69, 71, 72, 74, 75, 76, 78, 79, 81, 82, 83, 85, 86, 88, 89, 90, 92, 93, 95, 96, 97, 100, 101, 102, 105, 106] hKas)) (Hook.val (kHook K [2, 3, 6, 15, 22, 23, 25, 26, 28, 29, 30, 31, 32, 33, 36, 38, 39, 41, 42, 43, 45, 46, 48, 49, 50, 52, 53, 55, 56, 57, 60, 61, 62, 64, 65, 67, 68, 69, 71, 72, 74, 75, 76, 78, 79, 81, 82, 83, 85, 86, 88, 89, 90, 92, 93, 95, 96, 97, 100, 101, 102, 105, 106] hKas)) 1298 := LeftO.of_pieces hOpen hSize hRun (by decide) hLooks
theorem hSaid : OpenLaw.wellSaid PySem.Challenge.rw_ys0001_03 = true := by kernel_rfl
local macro_rules | `(tactic| walk_at "call ref") => `(tactic| k_extra "m:call ref")
local macro_rules | `(tactic| walk_at "pyIter ref") => `(tactic| k_extra "m:pyIter ref")
local macro_rules | `(tactic| walk_at "binaryOp Mult int int") => `(tactic| k_extra "m:binaryOp Mult int int")
local macro_rules | `(tactic| walk_at "exec While") => `(tactic| k_extra "m:exec While")
local macro_rules | `(tactic| walk_at "exec While Compare") => `(tactic| k_extra "m:exec While Compare")
local macro_rules | `(tactic| walk_at "binaryOp FloorDiv int int") => `(tactic| k_extra "m:binaryOp FloorDiv int int")
local macro_rules | `(tactic| walk_at "m_bd") => `(tactic| k_extra "m_bd")
local macro_rules | `(tactic| walk_at "m_fact") => `(tactic| k_extra "m_fact")
local macro_rules | `(tactic| walk_at "m_rest") => `(tactic| k_extra "m_rest")
local macro_rules | `(tactic| k_ne) => `(tactic| first | (with_reducible assumption) | (with_reducible exact Ne.symm (by assumption)) | (refine neN ?_; (try dsimp only); first | (k_extra "m_conj") | (refine Ne.symm ?_; (k_extra "m_conj")) | ((repeat (rename (_ ≠ _) ∧ _ => q9; clear q9)); (repeat (rename ((_ ≠ _) ∧ _) ∧ _ => q9; clear q9)); (repeat (rename @Ne Nat _ _ => q9; clear q9)); omega) | omega))
local macro_rules | `(tactic| walk_at "m_inline") => `(tactic| (refine wpAny_call ?_; (refine' code_def ?k1 ?k2 ?k3 ?k4 ?k5 ?kA ?kF ?kK ?k6 ?k7 ?k8 ?k9 ?kB ?_ ?c2 ?c3 ?c4 ?c5; (case kA => exact rfl); (case kF => exact rfl); (case kK => first | exact rfl | assumption); (case k1 => k_asm); (case k2 => k_asm); (case k3 => k_asm); (case k4 => k_asm); (case k5 => k_asm); (case k6 => k_is); (case k7 => k_is); (case k8 => ktr_room); (case k9 => first | exact BindsTo.of_eq rfl | exact binds_K (by k_in) rfl (by k_is) rfl rfl rfl); (case c5 => decide); (case kB => exact locs rfl); (case c2 => exact rfl); (case c3 => exact rfl); (case c4 => exact rfl); k_whole; intro g' L' h' FG' F' N' B' X' T'; (try dsimp only); (try k_lift B'); (try k_fold))))

theorem c_gcd (w : World) (mean : ExcName → Option Value) (mg mb : Str → Option Value) {one two : Int} {t1 t2 : Tok} (h1 : 0 ≤ one) (h2 : 0 ≤ two) (h3 : Bd 990 one) (h4 : Bd 990 two) :
    Ctr PySem.Challenge.rw_ys0001_03.row.prog w (Mine.K w.params) Mine.V (looseW Mine.V [Str.ofString "NotRelativePrimeError"]) mean mg mb 89 5 20 [.int one t1, .int two t2] []
      (fun v l => (∃ tr, v = .int (Int.gcd one two) tr) ∧ l = []) := by
  k_with "m_conj" => ((with_reducible (first | exact (And.left ‹((_ ≠ _) ∧ _)›) | exact (And.right ‹(_ ∧ (_ ≠ _))›) | exact (And.left (And.left ‹(((_ ≠ _) ∧ _) ∧ _)›)) | exact (And.left (And.right ‹(_ ∧ ((_ ≠ _) ∧ _))›)) | exact (And.right (And.right ‹(_ ∧ (_ ∧ (_ ≠ _)))›)) | exact (And.left (And.right (And.left ‹((_ ∧ ((_ ≠ _) ∧ _)) ∧ _)›))) | exact (And.right (And.right (And.left ‹((_ ∧ (_ ∧ (_ ≠ _))) ∧ _)›))) | exact (And.left (And.left (And.right ‹(_ ∧ (((_ ≠ _) ∧ _) ∧ _))›))) | exact (And.left (And.right (And.right ‹(_ ∧ (_ ∧ ((_ ≠ _) ∧ _)))›))) | exact (And.right (And.right (And.right ‹(_ ∧ (_ ∧ (_ ∧ (_ ≠ _))))›))) | exact (And.left (And.right (And.left (And.right ‹(_ ∧ ((_ ∧ ((_ ≠ _) ∧ _)) ∧ _))›)))) | exact (And.right (And.right (And.left (And.right ‹(_ ∧ ((_ ∧ (_ ∧ (_ ≠ _))) ∧ _))›)))) | exact (And.left (And.left (And.right (And.right ‹(_ ∧ (_ ∧ (((_ ≠ _) ∧ _) ∧ _)))›)))) | exact (And.left (And.right (And.right (And.right ‹(_ ∧ (_ ∧ (_ ∧ ((_ ≠ _) ∧ _))))›)))) | exact (And.right (And.right (And.right (And.right ‹(_ ∧ (_ ∧ (_ ∧ (_ ∧ (_ ≠ _)))))›)))) | exact (And.left (And.right (And.left (And.right (And.right ‹(_ ∧ (_ ∧ ((_ ∧ ((_ ≠ _) ∧ _)) ∧ _)))›))))) | exact (And.right (And.right (And.left (And.right (And.right ‹(_ ∧ (_ ∧ ((_ ∧ (_ ∧ (_ ≠ _))) ∧ _)))›))))) | exact (And.left (And.left (And.right (And.right (And.right ‹(_ ∧ (_ ∧ (_ ∧ (((_ ≠ _) ∧ _) ∧ _))))›))))) | exact (And.left (And.right (And.right (And.right (And.right ‹(_ ∧ (_ ∧ (_ ∧ (_ ∧ ((_ ≠ _) ∧ _)))))›))))) | exact (And.right (And.right (And.right (And.right (And.right ‹(_ ∧ (_ ∧ (_ ∧ (_ ∧ (_ ∧ (_ ≠ _))))))›))))) | exact (And.left (And.right (And.left (And.right (And.right (And.right ‹(_ ∧ (_ ∧ (_ ∧ ((_ ∧ ((_ ≠ _) ∧ _)) ∧ _))))›)))))) | exact (And.right (And.right (And.left (And.right (And.right (And.right ‹(_ ∧ (_ ∧ (_ ∧ ((_ ∧ (_ ∧ (_ ≠ _))) ∧ _))))›)))))) | exact (And.left (And.left (And.right (And.right (And.right (And.right ‹(_ ∧ (_ ∧ (_ ∧ (_ ∧ (((_ ≠ _) ∧ _) ∧ _)))))›)))))) | exact (And.left (And.right (And.right (And.right (And.right (And.right ‹(_ ∧ (_ ∧ (_ ∧ (_ ∧ (_ ∧ ((_ ≠ _) ∧ _))))))›)))))) | exact (And.right (And.right (And.right (And.right (And.right (And.right ‹(_ ∧ (_ ∧ (_ ∧ (_ ∧ (_ ∧ (_ ∧ (_ ≠ _)))))))›)))))) | exact (And.left (And.right (And.left (And.right (And.right (And.right (And.right ‹(_ ∧ (_ ∧ (_ ∧ (_ ∧ ((_ ∧ ((_ ≠ _) ∧ _)) ∧ _)))))›))))))) | exact (And.right (And.right (And.left (And.right (And.right (And.right (And.right ‹(_ ∧ (_ ∧ (_ ∧ (_ ∧ ((_ ∧ (_ ∧ (_ ≠ _))) ∧ _)))))›))))))) | exact (And.left (And.left (And.right (And.right (And.right (And.right (And.right ‹(_ ∧ (_ ∧ (_ ∧ (_ ∧ (_ ∧ (((_ ≠ _) ∧ _) ∧ _))))))›))))))) | exact (And.left (And.right (And.right (And.right (And.right (And.right (And.right ‹(_ ∧ (_ ∧ (_ ∧ (_ ∧ (_ ∧ (_ ∧ ((_ ≠ _) ∧ _)))))))›))))))) | exact (And.right (And.right (And.right (And.right (And.right (And.right (And.right ‹(_ ∧ (_ ∧ (_ ∧ (_ ∧ (_ ∧ (_ ∧ (_ ∧ (_ ≠ _))))))))›))))))) | exact (And.left (And.right (And.left (And.right (And.right (And.right (And.right (And.right ‹(_ ∧ (_ ∧ (_ ∧ (_ ∧ (_ ∧ ((_ ∧ ((_ ≠ _) ∧ _)) ∧ _))))))›)))))))) | exact (And.right (And.right (And.left (And.right (And.right (And.right (And.right (And.right ‹(_ ∧ (_ ∧ (_ ∧ (_ ∧ (_ ∧ ((_ ∧ (_ ∧ (_ ≠ _))) ∧ _))))))›)))))))) | exact (And.left (And.left (And.right (And.right (And.right (And.right (And.right (And.right ‹(_ ∧ (_ ∧ (_ ∧ (_ ∧ (_ ∧ (_ ∧ (((_ ≠ _) ∧ _) ∧ _)))))))›)))))))) | exact (And.left (And.right (And.left (And.right (And.right (And.right (And.right (And.right (And.right ‹(_ ∧ (_ ∧ (_ ∧ (_ ∧ (_ ∧ (_ ∧ ((_ ∧ ((_ ≠ _) ∧ _)) ∧ _)))))))›))))))))) | exact (And.right (And.right (And.left (And.right (And.right (And.right (And.right (And.right (And.right ‹(_ ∧ (_ ∧ (_ ∧ (_ ∧ (_ ∧ (_ ∧ ((_ ∧ (_ ∧ (_ ≠ _))) ∧ _)))))))›))))))))))))
  k_with "m_enter2" => (((case kA => exact rfl); (case kF => exact rfl); (case kK => assumption); (case k6 => k_is); (case k7 => k_is); (case k8 => ktr_room); (case k9 => exact BindsTo.of_eq rfl); (case c5 => decide); (case kB => exact locs rfl); (case c2 => exact rfl); (case c3 => exact rfl); (case c4 => exact rfl); k_whole))
  k_with "m_enterC" => (((case kA => exact rfl); (case kF => exact rfl); (case kK => assumption); (case k1 => k_asm); (case k2 => k_asm); (case k3 => k_asm); (case k4 => k_asm); (case k5 => k_asm); (case k6 => k_is); (case k7 => k_is); (case k8 => ktr_room); (case k9 => exact BindsTo.of_eq rfl); (case kN => decide); (case kB => exact rfl); (case c2 => exact rfl); (case c3 => exact rfl); (case c4 => exact rfl); k_whole))
  k_with "m_enter" => (((case kA => exact rfl); (case kF => exact rfl); (case kK => assumption); (case k1 => k_asm); (case k2 => k_asm); (case k3 => k_asm); (case k4 => k_asm); (case k5 => k_asm); (case k6 => k_is); (case k7 => k_is); (case k8 => ktr_room); (case k9 => exact BindsTo.of_eq rfl); (case c5 => decide); (case kB => exact locs rfl); (case c2 => exact rfl); (case c3 => exact rfl); (case c4 => exact rfl); k_whole))
  k_with "m_same" => ((intro z h2 h3; (try simp only [List.forall_mem_cons, List.not_mem_nil, false_implies, implies_true, and_true, ne_eq] at h2); (try simp only [List.contains_cons, List.contains_nil, Bool.or_false, Bool.or_eq_false_iff, beq_eq_false_iff_ne, ne_eq] at h3); simp [kstB, h2, h3]))
  k_with "m_same3" => ((intro z h1 h2 h3; (try simp only [List.forall_mem_cons, List.not_mem_nil, false_implies, implies_true, and_true, ne_eq] at h2); (try simp only [List.contains_cons, List.contains_nil, Bool.or_false, Bool.or_eq_false_iff, beq_eq_false_iff_ne, ne_eq] at h3); simp [kstB, h1, h2, h3]))
  k_with "m_pre" => (first | exact List.forall_mem_nil _ | (refine List.forall_mem_cons.mpr ⟨by k_mem, ?_⟩; k_extra "m_pre") | (intro p hp; kst_mem))
  k_with "m_off" => (first | exact off0 | (refine off1 (by (try dsimp only); first | assumption | (apply Ne.symm; assumption) | k_ne) ?_; k_extra "m_off"))
  k_with "m_rest" => (first | exact Rest.nil | exact Rest.tail (fun _ _ => List.not_mem_nil) | exact Rest.drop (by k_mem) (by walk_at "m_rest") | exact Rest.keep (by k_extra "m_off") (by walk_at "m_rest") | exact Rest.tail (fun _ _ => List.not_mem_nil) | exact Rest.tail (own_off (by assumption) (by k_extra "m_subA")) | exact Rest.tail (own_off (by assumption) (by intro b hb; simp only [StL, List.map_cons, List.map_nil, List.mem_cons, List.not_mem_nil, or_false] at hb ⊢; omega)))
  k_with "m_subA" => (first | exact List.forall_mem_nil _ | (refine List.forall_mem_cons.mpr ⟨by k_mem, ?_⟩; k_extra "m_subA"))
  k_with "m_use" => (((case k1 => k_asm); (case k2 => k_asm); (case k3 => k_asm); (case k4 => k_asm); (case k5 => k_asm); (case kk => first | exact rfl | assumption); (case hp => k_extra "m_pre"); (case hR => walk_at "m_rest"); (case kd => ktr_room); (case ku => ktr_units)))
  k_with "m:pyIter ref" => (((first | (with_reducible show wpAny _ _ (pyIter (Value.ref _)) (fun it s₂ => LoopAtV _ _ _ _ _ _ _ _ _ it s₂) _ _) | (with_reducible show wpAny _ _ (pyIter (Value.ref _)) (fun it s₂ => TurnsAt _ _ _ _ _ _ _ _ _ it s₂) _ _)); refine hold ?_))
  k_with "m_bd" => (first | assumption | exact Bd.mono (by assumption) (by decide) | (refine Bd.small' ?_ ?_; decide; omega) | (refine Bd.mulS' ?_ ?_ ?_; decide; (first | assumption | (refine Bd.small' ?_ ?_; decide; omega)); walk_at "m_bd") | (refine Bd.mul2 ?_ ?_; (walk_at "m_bd"); (walk_at "m_bd")) | (refine Bd.add' ?_ ?_ ?_; decide; (walk_at "m_bd"); (walk_at "m_bd")) | (refine Bd.sub' ?_ ?_ ?_; decide; (walk_at "m_bd"); (walk_at "m_bd")) | (refine Bd.neg ?_; walk_at "m_bd"))
  k_with "m_fact" => (first | assumption | omega | (refine mul_nn0 ?_ ?_; (walk_at "m_fact"); (walk_at "m_fact")))
  k_with "m:binaryOp Mult int int" => ((refine mul_int ?_ ?_; rotate_left; (first | assumption | exact mulOkB 990 990 (by walk_at "m_bd") (by walk_at "m_bd") (by decide) | mul_fits)))
  k_with "m:exec While" => ((refine hold ?_))
  k_with "m:exec While Compare" => ((refine hold ?_))
  k_with "m:binaryOp FloorDiv int int" => ((refine floordiv_int ?_ ?_ (Or.inl (PyProof.noPylong_of_log2 ?_)); (first | assumption | omega); rotate_left; (first | assumption | decide +kernel)))
  w_top off
  k_fill
  intro dp un gd cn cs' a ccd cl outer A₀ base h₀ L m rest s Q E B F X N hdis T hk hd hu hret
  refine wpAny_call ?_
  have N0 := news_left N
  k_dflt refine' code_defR (binds := [(Str.ofString "one", .int one t1), (Str.ofString "two", .int two t2)]) ?k1 ?k2 ?k3 ?k4 ?k5 ?kA ?kF ?kK ?k6 ?k7 ?k8 ?k9 ?kB ?_ ?c2 ?c3 ?c4 ?c5
  k_dflt k_extra "m_enter"
  intro g' L' h' FG F' N' B' X' T' kept small
  (try dsimp only)
  (try k_fold)
  have hr := rest_kept N hdis kept
  k_steps
  unfold Hold
  (try k_gentoks)
  rename IsRange _ _ _ _ _ _ _ _ => hrng
  rename Fr _ _ _ _ => fr1
  rename News _ _ _ _ => ne1
  k_dflt refine m_range (σ := Int × Tok × Int × Tok) (n := 2000) (fun _ => []) (fun c => [(Str.ofString "one", .int c.1 c.2.1), (Str.ofString "two", .int c.2.2.1 c.2.2.2)]) (fun _ => True) [Str.ofString "one", Str.ofString "two"]
    (fun i c => GInv 2000 (Int.gcd one two) i c.1 c.2.2.1) (fun c => c.1 = (Int.gcd one two : Int)) (one, t1, two, t2) rfl hrng (by decide) (by rfl) fr1 ne1 ?_ trivial ?_ ?_ ?_ ?_ ?_
  · exact List.forall_mem_nil _
  · kst_all
  · exact GInv.startB h1 h2 h3 h4
  · rintro ⟨a, ta, b, tb⟩ hp
    have := hp.last (by decide)
    dsimp only at this hp ⊢
    subst this
    exact hp.out
  · clear fr1 ne1
    rintro ⟨a, ta, b, tb⟩ i k t u h tk own hk' hi hoff - hp fr1 ne1
    dsimp only at hp fr1 ne1 ⊢
    (try k_fold)
    k_steps
    · rename _ = _ => hb0
      (try dsimp only at hb0)
      subst hb0
      dsimp only [MPost]
      rename Fr _ _ _ _ => fr2
      rename News _ _ _ _ => ne2
      with_unfolding_all exact m_end (_, _, _, _) fr2 ne2 (List.forall_mem_nil _) (by intro p hp; kst_mem) rfl trivial (List.forall_mem_cons.mpr ⟨rfl, List.forall_mem_cons.mpr ⟨rfl, List.forall_mem_nil _⟩⟩) (by intro z h1 h2 h3; simp only [List.forall_mem_cons, List.not_mem_nil, false_implies, implies_true, and_true, ne_eq] at h2; simp [kstB, h1, h2]) (hp.out)
    · rename _ ≠ _ => hb0
      dsimp only [MPost]
      rename Fr _ _ _ _ => fr2
      rename News _ _ _ _ => ne2
      with_unfolding_all exact m_end (_, _, _, _) fr2 ne2 (List.forall_mem_nil _) (by intro p hp; kst_mem) rfl trivial (List.forall_mem_cons.mpr ⟨rfl, List.forall_mem_cons.mpr ⟨rfl, List.forall_mem_nil _⟩⟩) (by intro z h1 h2 h3; simp only [List.forall_mem_cons, List.not_mem_nil, false_implies, implies_true, and_true, ne_eq] at h2; simp [kstB, h1, h2]) (hp.step hb0)
  · clear fr1 ne1
    rintro ⟨a, ta, b, tb⟩ u h tk - hp fr1 ne1
    dsimp only at hp fr1 ne1 ⊢
    replace fr1 : Fr g' L' h _ := fr1
    replace ne1 : News g' L' h _ := ne1
    k_sweep
    k_steps
    subst hp
    (rename Fr g' _ _ _ => fr8); (rename News g' _ _ _ => ne8); exact m_ret hret fr8 ne8 (by assumption) (by assumption) hr N (by k_extra "m_pre") ⟨⟨_, rfl⟩, rfl⟩
theorem c_take (w : World) (mean : ExcName → Option Value) (mg mb : Str → Option Value) {st c : Nat} {S : StT} {most : Int} {tm : Tok} (hS : StOk S) (hm : 0 < most) (hlg : most.natAbs.log2 < 9000) (hne : @Ne Nat st c) :
    Ctr PySem.Challenge.rw_ys0001_03.row.prog w (Mine.K w.params) Mine.V (looseW Mine.V [Str.ofString "NotRelativePrimeError"]) mean mg mb 68 5 20 [.ref st, .int most tm] (StL st c S)
      (fun v l => ∃ r tr S', v = .int r tr ∧ 0 ≤ r ∧ r < most ∧ l = StL st c S' ∧ StOk S') := by
  k_with "m:call ref" => ((k_here; (with_reducible show wpAny _ _ (call (Value.ref 89) _) _ _ _); refine hold ?_))
  k_with "m:call ref" => ((k_here; (with_reducible show wpAny _ _ (call (Value.ref 89) _) _ _ _); k_dflt ((refine Ctr.use (c_gcd _ _ _ _ ?_ ?_ ?_ ?_) (by k_asm) (by k_asm) (by k_asm) (by k_asm) (by k_asm) (by first | exact rfl | assumption) (by k_extra "m_pre") (by walk_at "m_rest") (by ktr_room) (by ktr_units) ?_); (walk_at "m_fact"); (walk_at "m_fact"); (walk_at "m_bd"); (walk_at "m_bd")); rintro v9 l9 h9 tk9 ⟨⟨tr9, e1⟩, e2⟩ hlo9 F9 N9; subst e1; subst e2; clear hlo9; (try dsimp only [List.nil_append] at N9); k_sweep; (try k_fold)))
  obtain ⟨i, t, n, vs, ns, n2⟩ := S
  obtain ⟨hI, hl0, hl1⟩ := hS
  dsimp only at hI hl0 hl1
  w_top off
  k_fill
  intro dp un gd cn cs' a ccd cl outer A₀ base h₀ L m rest s Q E B F X N hdis T hk hd hu hret
  refine wpAny_call ?_
  have N0 := news_left N
  k_dflt refine' code_defR (binds := [(Str.ofString "state", .ref st), (Str.ofString "most", .int most tm)]) ?k1 ?k2 ?k3 ?k4 ?k5 ?kA ?kF ?kK ?k6 ?k7 ?k8 ?k9 ?kB ?_ ?c2 ?c3 ?c4 ?c5
  k_dflt k_extra "m_enter"
  intro g' L' h' FG F' N' B' X' T' kept small
  (try dsimp only)
  (try k_fold)
  have hr := rest_kept N hdis kept
  k_steps
  · rename IntsAre _ _ => hI2
    (rename Fr g' _ _ _ => fr8); (rename News g' _ _ _ => ne8); exact m_ret hret fr8 ne8 (by assumption) (by assumption) hr N (by k_extra "m_pre") ⟨_, _, ⟨_, _, _, _, _, _⟩, rfl, (fmod_nn hm).1, (fmod_nn hm).2, rfl, hI2, by simpa using hl0, by simpa using hl1⟩
  · (rename Fr g' _ _ _ => fr8); (rename News g' _ _ _ => ne8); exact m_ret hret fr8 ne8 (by assumption) (by assumption) hr N (by k_extra "m_pre") ⟨_, _, ⟨_, _, _, _, _, _⟩, rfl, (fmod_nn hm).1, (fmod_nn hm).2, rfl, hI, hl0, hl1⟩
theorem c_great (w : World) (mean : ExcName → Option Value) (mg mb : Str → Option Value) {st c : Nat} {S : StT} {words : Int} {tm : Tok} (hS : StOk S) (hm : 0 ≤ words) (hm1 : words ≤ 15) (hne : @Ne Nat st c) :
    Ctr PySem.Challenge.rw_ys0001_03.row.prog w (Mine.K w.params) Mine.V (looseW Mine.V [Str.ofString "NotRelativePrimeError"]) mean mg mb 75 7 40 [.ref st, .int words tm] (StL st c S)
      (fun v l => ∃ r tr S', v = .int r tr ∧ 0 ≤ r ∧ Bd 300 r ∧ l = StL st c S' ∧ StOk S') := by
  k_with "m:call ref" => ((k_here; (with_reducible show wpAny _ _ (call (Value.ref 68) _) _ _ _); refine hold ?_))
  k_with "m:call ref" => ((k_here; (with_reducible show wpAny _ _ (call (Value.ref 68) _) _ _ _); k_dflt ((refine Ctr.use (c_take _ _ _ _ ?_ ?_ ?_ ?_) (by k_asm) (by k_asm) (by k_asm) (by k_asm) (by k_asm) (by first | exact rfl | assumption) (by k_extra "m_pre") (by walk_at "m_rest") (by ktr_room) (by ktr_units) ?_); (assumption); (first | decide | omega); (first | decide | assumption | exact log2_small (by omega)); (first | assumption | omega)); rintro v9 l9 h9 tk9 ⟨r9, tr9, S9, e1, hr0, hr1, e2, hS9⟩ hlo9 F9 N9; subst e1; subst e2; clear hlo9; (try dsimp only [StL, List.cons_append, List.nil_append] at N9); k_sweep; (try k_fold)))
  w_top off
  k_fill
  intro dp un gd cn cs' a ccd cl outer A₀ base h₀ L m rest s Q E B F X N hdis T hk hd hu hret
  refine wpAny_call ?_
  have N0 := news_left N
  k_dflt refine' code_defR (binds := [(Str.ofString "state", .ref st), (Str.ofString "words", .int words tm)]) ?k1 ?k2 ?k3 ?k4 ?k5 ?kA ?kF ?kK ?k6 ?k7 ?k8 ?k9 ?kB ?_ ?c2 ?c3 ?c4 ?c5
  k_dflt k_extra "m_enter"
  intro g' L' h' FG F' N' B' X' T' kept small
  (try dsimp only)
  (try k_fold)
  have hr := rest_kept N hdis kept
  k_steps
  unfold Hold
  (try k_gentoks)
  rename IsRange _ _ _ _ _ _ _ _ => hrng
  rename Fr _ _ _ _ => fr1
  rename News _ _ _ _ => ne1
  with_unfolding_all refine m_range (σ := (Int × Tok) × StT) (n := words.toNat) (fun s => StL st c s.2) (fun s => [(Str.ofString "number", .int s.1.1 s.1.2)]) (fun s => StOk s.2) [Str.ofString "number"] (fun k s => 0 ≤ s.1.1 ∧ s.1.1 < 1000003 ^ k) (fun s => 0 ≤ s.1.1 ∧ s.1.1 < 1000003 ^ words.toNat) ((0, _), S) rfl hrng (small_one (by omega) (by omega) (by omega) (by omega)) (by rw [rangeSize_nat]; simp) fr1 ne1 (fun p hp => hp) hS (List.forall_mem_cons.mpr ⟨rfl, List.forall_mem_nil _⟩) (by constructor <;> simp) (fun _ h => h) ?_ ?_
  · clear fr1 ne1
    rintro ⟨⟨r, tr⟩, S1⟩ k kk t u h tk own hk' hi hoff hS1 ⟨hp1, hp2⟩ fr1 ne1
    dsimp only [StL, List.cons_append, List.nil_append] at hp1 hp2 hS1 fr1 ne1 ⊢
    replace fr1 : Fr g' L' h _ := fr1
    replace ne1 : News g' L' h _ := ne1
    k_sweep
    (try k_fold)
    k_steps
    dsimp only [MPost]
    rename Fr g' _ _ _ => fr2
    rename News g' _ _ _ => ne2
    rename StOk _ => hS2
    with_unfolding_all refine' m_end ((_, _), _) fr2 ne2 ?_ ?_ ?_ hS2 (List.forall_mem_cons.mpr ⟨rfl, List.forall_mem_nil _⟩) ?_ ?_
    · k_extra "m_pre"
    · intro p hp; kst_mem
    · rfl
    · intro z h1 h2 h3; simp only [List.forall_mem_cons, List.not_mem_nil, false_implies, implies_true, and_true, ne_eq] at h2; simp [kstB, h1, h2]
    · dsimp only
      rw [Int.pow_succ]
      constructor <;> omega
  · clear fr1 ne1
    rintro ⟨⟨r, tr⟩, S1⟩ u h tk hS1 ⟨hp1, hp2⟩ fr1 ne1
    dsimp only [StL] at hp1 hp2 hS1 fr1 ne1 ⊢
    replace fr1 : Fr g' L' h _ := fr1
    replace ne1 : News g' L' h _ := ne1
    k_sweep
    k_steps
    (rename Fr g' _ _ _ => fr8); (rename News g' _ _ _ => ne8); exact m_ret hret fr8 ne8 (by assumption) (by assumption) hr N (by k_extra "m_pre") ⟨_, _, _, rfl, hp1, great_bd hp1 hp2 (by omega), rfl, hS1⟩
theorem c_number (w : World) (mean : ExcName → Option Value) (mg mb : Str → Option Value) {st c : Nat} {S : StT} (hS : StOk S) (hne : @Ne Nat st c) :
    Ctr PySem.Challenge.rw_ys0001_03.row.prog w (Mine.K w.params) Mine.V (looseW Mine.V [Str.ofString "NotRelativePrimeError"]) mean mg mb 82 9 60 [.ref st] (StL st c S)
      (fun v l => ∃ r tr S', v = .int r tr ∧ 0 ≤ r ∧ Bd 300 r ∧ l = StL st c S' ∧ StOk S') := by
  k_with "m:call ref" => ((k_here; (with_reducible show wpAny _ _ (call (Value.ref 75) _) _ _ _); refine hold ?_))
  k_with "m:call ref" => ((k_here; (with_reducible show wpAny _ _ (call (Value.ref 75) _) _ _ _); k_dflt ((refine Ctr.use (c_great _ _ _ _ ?_ ?_ ?_ ?_) (by k_asm) (by k_asm) (by k_asm) (by k_asm) (by k_asm) (by first | exact rfl | assumption) (by k_extra "m_pre") (by walk_at "m_rest") (by ktr_room) (by ktr_units) ?_); (assumption); (omega); (omega); (first | assumption | omega)); rintro v9 l9 h9 tk9 ⟨r9, tr9, S9, e1, hr0, hr1, e2, hS9⟩ hlo9 F9 N9; subst e1; subst e2; clear hlo9; (try dsimp only [StL, List.cons_append, List.nil_append] at N9); k_sweep; (try k_fold)))
  w_top off
  k_fill
  intro dp un gd cn cs' a ccd cl outer A₀ base h₀ L m rest s Q E B F X N hdis T hk hd hu hret
  refine wpAny_call ?_
  have N0 := news_left N
  k_dflt refine' code_defR (binds := [(Str.ofString "state", .ref st)]) ?k1 ?k2 ?k3 ?k4 ?k5 ?kA ?kF ?kK ?k6 ?k7 ?k8 ?k9 ?kB ?_ ?c2 ?c3 ?c4 ?c5
  k_dflt k_extra "m_enter"
  intro g' L' h' FG F' N' B' X' T' kept small
  (try dsimp only)
  (try k_fold)
  have hr := rest_kept N hdis kept
  k_steps
  · rename StOk _ => hS2
    have hb := getD_all (l := [0, 1, 2, 255, 256, 65535, 65536]) (P := fun x => 0 ≤ x ∧ x.natAbs < 4294967296) (by decide) (by decide)
    (rename Fr g' _ _ _ => fr8); (rename News g' _ _ _ => ne8); exact m_ret hret fr8 ne8 (by assumption) (by assumption) hr N (by k_extra "m_pre") ⟨_, _, _, rfl, (hb _).1, (Bd.small (hb _).2 (by decide)), rfl, hS2⟩
  · rename StOk _ => hS2
    (rename Fr g' _ _ _ => fr8); (rename News g' _ _ _ => ne8); refine m_ret hret fr8 ne8 (by assumption) (by assumption) hr N (by k_extra "m_pre") ⟨_, _, _, rfl, ?_, ?_, rfl, hS2⟩
    · exact (number_pow (by assumption) (by assumption) (by assumption) (by assumption)).1
    · exact (number_pow (by assumption) (by assumption) (by assumption) (by assumption)).2
  · rename StOk _ => hS2
    (rename Fr g' _ _ _ => fr8); (rename News g' _ _ _ => ne8); exact m_ret hret fr8 ne8 (by assumption) (by assumption) hr N (by k_extra "m_pre") ⟨_, _, _, rfl, by assumption, by assumption, rfl, hS2⟩
theorem c_state (w : World) (mean : ExcName → Option Value) (mg mb : Str → Option Value) {sc : Nat} {vs : List Value} {ns : List Int} (hI : IntsAre vs ns) (hn : ns.length ≤ 100) :
    CtrB PySem.Challenge.rw_ys0001_03.row.prog w (Mine.K w.params) Mine.V (looseW Mine.V [Str.ofString "NotRelativePrimeError"]) mean mg mb 61 5 20 [.ref sc] [] (fun base => base.IsList sc vs.toArray)
      (fun v l => ∃ st c S, v = .ref st ∧ l = StL st c S ∧ StOk S ∧ @Ne Nat st c) := by
  k_with "m:call ref" => ((k_here; (with_reducible show wpAny _ _ (call (Value.ref 82) _) _ _ _); refine hold ?_))
  k_with "m:call ref" => ((k_here; (with_reducible show wpAny _ _ (call (Value.ref 82) _) _ _ _); k_dflt ((refine Ctr.use (c_number _ _ _ _ ?_ ?_) (by k_asm) (by k_asm) (by k_asm) (by k_asm) (by k_asm) (by first | exact rfl | assumption) (by k_extra "m_pre") (by walk_at "m_rest") (by ktr_room) (by ktr_units) ?_); (assumption); (first | assumption | omega)); rintro v9 l9 h9 tk9 ⟨r9, tr9, S9, e1, hr0, hr1, e2, hS9⟩ hlo9 F9 N9; subst e1; subst e2; clear hlo9; (try dsimp only [StL, List.cons_append, List.nil_append] at N9); k_sweep; (try k_fold)))
  w_top off
  k_fill
  intro dp un gd cn cs' a ccd cl outer A₀ base h₀ L m rest s Q E B hL0 F X N hdis T hk hd hu hret
  refine wpAny_call ?_
  have N0 := news_left N
  k_dflt refine' code_defR (binds := [(Str.ofString "script", .ref sc)]) ?k1 ?k2 ?k3 ?k4 ?k5 ?kA ?kF ?kK ?k6 ?k7 ?k8 ?k9 ?kB ?_ ?c2 ?c3 ?c4 ?c5
  k_dflt k_extra "m_enter"
  intro g' L' h' FG F' N' B' X' T' kept small
  have hL1 := stays_list B'.stays hL0
  (try dsimp only)
  (try k_fold)
  have hr := rest_kept N hdis kept
  k_steps
  · (rename Fr g' _ _ _ => fr8); (rename News g' _ _ _ => ne8); refine m_ret hret fr8 ne8 (by assumption) (by assumption) hr N (by k_extra "m_pre") ⟨_, _, ⟨0, _, 0, _, [0], _⟩, rfl, rfl, ⟨.cons 0 _ .nil, Nat.le_of_ble_eq_true rfl, Nat.le_of_ble_eq_true rfl⟩, ?_⟩
    refine neN ?_
    omega
  · rename ¬ _ = (0 : Int) => hz
    rename IntsAre _ (List.map _ _) => hI8
    (rename Fr g' _ _ _ => fr8); (rename News g' _ _ _ => ne8); refine m_ret hret fr8 ne8 (by assumption) (by assumption) hr N (by k_extra "m_pre") ⟨_, _, ⟨0, _, 0, _, _, _⟩, rfl, rfl, ⟨hI8, ?_, ?_⟩, ?_⟩
    · dsimp only; omega
    · dsimp only; rw [List.length_map, List.length_take]; omega
    · refine neN ?_
      omega
theorem c_egcd (w : World) (mean : ExcName → Option Value) (mg mb : Str → Option Value) {oa ob : Int} {t1 t2 : Tok} {B1 : Nat} (h1 : Bd B1 oa) (h2 : Bd B1 ob) (hB1 : B1 ≤ 8000) (hob : 0 ≤ ob) :
    Ctr PySem.Challenge.rw_ys0001_03.row.prog w (Mine.K w.params) Mine.V (looseW Mine.V [Str.ofString "NotRelativePrimeError"]) mean mg mb 42 5 20 [.int oa t1, .int ob t2] []
      (fun v l => ∃ q a fx fy lx ly x y u1 u2 u3, v = .ref q ∧ l = [(q, ({ cls := .type "tuple", data := .seq #[.int a u1, .int fx u2, .int fy u3] } : Obj))] ∧ EInv oa ob a 0 x lx y ly ∧ fx = (if lx < 0 then lx + ob else lx) ∧ fy = (if ly < 0 then ly + oa else ly)) := by
  k_with "m:call ref" => ((k_here; (with_reducible show wpAny _ _ (call (Value.ref 61) _) _ _ _); refine hold ?_))
  k_with "m:call ref" => ((k_here; (with_reducible show wpAny _ _ (call (Value.ref 61) _) _ _ _); k_dflt ((refine CtrB.use (c_state _ _ _ _ (by assumption) ?_) (by k_asm) (by assumption) (by k_asm) (by k_asm) (by k_asm) (by k_asm) (by first | exact rfl | assumption) (by k_extra "m_pre") (by walk_at "m_rest") (by ktr_room) (by ktr_units) ?_); (omega)); rintro v9 l9 h9 tk9 ⟨st9, c9, S9, e1, e2, hS9, hne9⟩ hlo9 F9 N9; subst e1; subst e2; clear hlo9; (try dsimp only [StL, List.cons_append, List.nil_append] at N9); k_sweep; (try k_fold)))
  w_top off
  k_fill
  intro dp un gd cn cs' a ccd cl outer A₀ base h₀ L m rest s Q E B F X N hdis T hk hd hu hret
  refine wpAny_call ?_
  have N0 := news_left N
  k_dflt refine' code_defR (binds := [(Str.ofString "a", .int oa t1), (Str.ofString "b", .int ob t2)]) ?k1 ?k2 ?k3 ?k4 ?k5 ?kA ?kF ?kK ?k6 ?k7 ?k8 ?k9 ?kB ?_ ?c2 ?c3 ?c4 ?c5
  k_dflt k_extra "m_enter"
  intro g' L' h' FG F' N' B' X' T' kept small
  (try dsimp only)
  (try k_fold)
  have hr := rest_kept N hdis kept
  k_steps
  unfold Hold
  (try k_gentoks)
  rename Fr _ _ _ _ => fr1
  rename News _ _ _ _ => ne1
  with_unfolding_all refine ksw_while (σ := (Int × Tok) × (Int × Tok) × (Int × Tok) × (Int × Tok) × (Int × Tok) × (Int × Tok)) (fun _ => []) (fun c => [(Str.ofString "a", .int c.1.1 c.1.2), (Str.ofString "b", .int c.2.1.1 c.2.1.2), (Str.ofString "x", .int c.2.2.1.1 c.2.2.1.2), (Str.ofString "lx", .int c.2.2.2.1.1 c.2.2.2.1.2), (Str.ofString "y", .int c.2.2.2.2.1.1 c.2.2.2.2.1.2), (Str.ofString "ly", .int c.2.2.2.2.2.1 c.2.2.2.2.2.2)]) (fun _ => True) [Str.ofString "q", Str.ofString "a", Str.ofString "b", Str.ofString "x", Str.ofString "lx", Str.ofString "y", Str.ofString "ly"] (fun c => EInv oa ob c.1.1 c.2.1.1 c.2.2.1.1 c.2.2.2.1.1 c.2.2.2.2.1.1 c.2.2.2.2.2.1) (fun c => c.2.1.1.toNat) ((oa, t1), (ob, t2), (0, _), (1, _), (1, _), (0, _)) fr1 ne1 trivial (List.forall_mem_cons.mpr ⟨rfl, List.forall_mem_cons.mpr ⟨rfl, List.forall_mem_cons.mpr ⟨rfl, List.forall_mem_cons.mpr ⟨rfl, List.forall_mem_cons.mpr ⟨rfl, List.forall_mem_cons.mpr ⟨rfl, List.forall_mem_nil _⟩⟩⟩⟩⟩⟩) (EInv.start hob) ?_ ?_
  · clear fr1 ne1
    rintro ⟨⟨a, ta⟩, ⟨b, tb⟩, ⟨x, tx⟩, ⟨lx, tlx⟩, ⟨y, ty⟩, ⟨ly, tly⟩⟩ u h tk - hp fr1 ne1
    dsimp only at hp fr1 ne1 ⊢
    replace fr1 : Fr g' L' h _ := fr1
    replace ne1 : News g' L' h _ := ne1
    k_sweep
    (try k_fold)
    have hlg := hp.lg h2 hB1
    k_steps
    · rename b ≠ 0 => hb0
      have hm1 := hp.mul1 h1 h2 (by omega) hb0
      have hm2 := hp.mul2 h1 h2 (by omega) hb0
      dsimp only
      k_steps
      rename Fr g' _ _ _ => fr2
      rename News g' _ _ _ => ne2
      with_unfolding_all refine' ksw_end ((_, _), (_, _), (_, _), (_, _), (_, _), (_, _)) fr2 ne2 (List.forall_mem_nil _) trivial (List.forall_mem_cons.mpr ⟨rfl, List.forall_mem_cons.mpr ⟨rfl, List.forall_mem_cons.mpr ⟨rfl, List.forall_mem_cons.mpr ⟨rfl, List.forall_mem_cons.mpr ⟨rfl, List.forall_mem_cons.mpr ⟨rfl, List.forall_mem_nil _⟩⟩⟩⟩⟩⟩) ?_ ?_ ?_
      · intro z h2 h3
        simp only [List.forall_mem_cons, List.not_mem_nil, false_implies, implies_true, and_true, ne_eq] at h2
        simp only [List.contains_cons, List.contains_nil, Bool.or_false, Bool.or_eq_false_iff, beq_eq_false_iff_ne, ne_eq] at h3
        simp [kstB, h2, h3]
      · exact hp.step hb0
      · have := hp.hb
        have := fmod_nn (a := a) (b := b) (by omega)
        show (a.fmod b).toNat < b.toNat
        omega
    all_goals (rename b = 0 => hb0; subst hb0; (rename Fr g' _ _ _ => fr8); (rename News g' _ _ _ => ne8); refine m_ret hret fr8 ne8 (by assumption) (by assumption) hr N (fun p hp => hp) ⟨_, _, _, _, lx, ly, x, y, _, _, _, rfl, rfl, hp, ?_, ?_⟩)
    · exact (if_pos (by assumption)).symm
    · exact (if_pos (by assumption)).symm
    · exact (if_pos (by assumption)).symm
    · exact (if_neg (by assumption)).symm
    · exact (if_neg (by assumption)).symm
    · exact (if_pos (by assumption)).symm
    · exact (if_neg (by assumption)).symm
    · exact (if_neg (by assumption)).symm
  · with_unfolding_all passes_own
theorem EInv.inv {oa ob a x lx y ly fx : Int} (h : EInv oa ob a 0 x lx y ly) (hb : 0 < ob) (h1 : a = 1) (hx : fx = if lx < 0 then lx + ob else lx) : 0 ≤ fx ∧ fx ≤ ob ∧ (fx < ob ∨ ob = 1) ∧ ob ∣ fx * oa - 1 := by
  k_with "m:call ref" => ((k_here; (with_reducible show wpAny _ _ (call (Value.ref 42) _) _ _ _); refine hold ?_))
  k_with "m:call ref" => ((k_here; (with_reducible show wpAny _ _ (call (Value.ref 42) _) _ _ _); k_dflt ((refine Ctr.use (c_egcd (B1 := 990) _ _ _ _ ?_ ?_ ?_ ?_) (by k_asm) (by k_asm) (by k_asm) (by k_asm) (by k_asm) (by first | exact rfl | assumption) (by k_extra "m_pre") (by walk_at "m_rest") (by ktr_room) (by ktr_units) ?_); (walk_at "m_bd"); (walk_at "m_bd"); (decide); (walk_at "m_fact")); rintro v9 l9 h9 tk9 ⟨q9, a9, fx9, fy9, lx9, ly9, x9, y9, u91, u92, u93, e1, e2, he9, hx9, hy9⟩ hlo9 F9 N9; subst e1; subst e2; (try (refine EInv.facts_k he9 ?fa ?fb ?fc ?fd hx9 hy9 ?_; (case fa => walk_at "m_fact"); (case fb => walk_at "m_fact"); (case fc => walk_at "m_bd"); (case fd => walk_at "m_bd"); intro hg9 hf1 hf2 hf3 hf4 hf5 hf6 hf7 hf8)); replace hlo9 := allNe_of hlo9; (try simp only [AllNe, and_true] at hlo9); (try dsimp only [List.cons_append, List.nil_append] at N9); k_sweep; (try k_fold)))
  obtain ⟨hb0, bz1, bz2, hg, st⟩ := h
  have hd : ob ∣ fx * oa - 1 := by
    subst hx
    split
    · exact ⟨oa - ly, by grind⟩
    · exact ⟨-ly, by grind⟩
  rcases st with ⟨k1, k2, _⟩ | R
  · omega
  · have l1 := R.lx1
    have l2 := R.lx2
    have hne : ob = 1 ∨ (lx ≠ ob ∧ lx ≠ -ob) := by
      by_cases q : ob = 1
      · exact .inl q
      · right
        constructor <;> intro e
        · rw [e] at bz1
          have : ob ∣ 1 := ⟨oa + ly, by grind⟩
          have := Int.le_of_dvd (by decide) this
          omega
        · rw [e] at bz1
          have : ob ∣ 1 := ⟨ly - oa, by grind⟩
          have := Int.le_of_dvd (by decide) this
          omega
    subst hx
    refine ⟨?_, ?_, ?_, hd⟩
    · split <;> omega
    · split <;> omega
    · split <;> omega
theorem c_inverse (w : World) (mean : ExcName → Option Value) (mg mb : Str → Option Value) {x n : Int} {t1 t2 : Tok} (h1 : Bd 480 x) (h2 : Bd 480 n) (hx : 0 ≤ x) (hn : 0 < n) (hg : Int.gcd x n = 1) :
    Ctr PySem.Challenge.rw_ys0001_03.row.prog w (Mine.K w.params) Mine.V (looseW Mine.V [Str.ofString "NotRelativePrimeError"]) mean mg mb 49 8 60 [.int x t1, .int n t2] []
      (fun v l => ∃ r tr, v = .int r tr ∧ l = [] ∧ 0 ≤ r ∧ r ≤ n ∧ (r < n ∨ n = 1) ∧ n ∣ r * x - 1 ∧ Bd 480 r) := by
  w_top off
  k_fill
  intro dp un gd cn cs' a ccd cl outer A₀ base h₀ L m rest s Q E B F X N hdis T hk hd hu hret
  refine wpAny_call ?_
  have N0 := news_left N
  k_dflt refine' code_defR (binds := [(Str.ofString "x", .int x t1), (Str.ofString "n", .int n t2)]) ?k1 ?k2 ?k3 ?k4 ?k5 ?kA ?kF ?kK ?k6 ?k7 ?k8 ?k9 ?kB ?_ ?c2 ?c3 ?c4 ?c5
  k_dflt k_extra "m_enter"
  intro g' L' h' FG F' N' B' X' T' kept small
  (try dsimp only)
  (try k_fold)
  have hr := rest_kept N hdis kept
  k_steps
  · exfalso
    rename EInv _ _ _ _ _ _ _ _ => he
    have := he.gcdIs (.inl hx)
    rw [hg] at this
    omega
  · rename EInv _ _ _ _ _ _ _ _ => he
    have hi := he.inv hn (by have := he.gcdIs (.inl hx); rw [hg] at this; exact this) (by assumption)
    (rename Fr g' _ _ _ => fr8); (rename News g' _ _ _ => ne8)
    exact m_ret hret fr8 ne8 (by assumption) (by assumption) hr N (List.forall_mem_nil _) ⟨_, _, rfl, rfl, hi.1, hi.2.1, hi.2.2.1, hi.2.2.2, Bd.of_lt hi.1 hi.2.1 h2⟩
section
local macro_rules | `(tactic| ktr_units) => `(tactic| (have hcL9 := cLine_is; (simp only [units_under_make, units_in1, units_deeper, Around.mark_units, units_caller]); (try dsimp only [ktrTop]); omega))
local macro_rules | `(tactic| walk_at "m_ne") => `(tactic| first | exact List.forall_mem_nil _ | (refine List.forall_mem_cons.mpr ⟨?a, ?b⟩; (case a => (dsimp only; first | assumption | (apply Ne.symm; assumption) | (refine neN ?_; omega) | (refine Ne.symm (neN ?_); omega))); (case b => walk_at "m_ne")))
local macro_rules | `(tactic| walk_at "setAttr ref") => `(tactic| (k_here; k_dflt (refine' exc_set1 (C := 32) (fI := 29) ?x1 ?x2 ?x3 ?x4 ?x5 ?x6 ?x7 ?x8 ?x9 ?_; (case x4 => assumption); (case x3 => assumption); (case x1 => assumption); (case x5 => exact rfl); (case x6 => exact rfl); (case x7 => exact rfl); (case x2 => kernel_rfl); (case x8 => first | k_is | kernel_rfl); (case x9 => walk_at "m_ne"); k_whole); intro dx8 od8 h8 tk8 F8 N8 hm8 hlt8; (have hl8 := ltN (hlt8 _ (.head _))); (try dsimp only at hl8); (have hl7 := ltN (hlt8 _ (.tail _ (.head _)))); (try dsimp only at hl7); clear hlt8; k_sweep; (try k_fold)))
local macro_rules | `(tactic| walk_at "setAttr ref") => `(tactic| (k_here; (rename MapIs _ _ => hmX); k_dflt (refine' exc_set2 (C := 32) (fI := 29) (ns := [Str.ofString "a", Str.ofString "b"]) ?x1 ?x2 ?x3 ?x4 ?x5 ?x6 hmX ?x7 ?y7 ?x8 ?x9 ?_; (case x4 => assumption); (case x3 => assumption); (case x1 => assumption); (case x5 => exact rfl); (case x6 => exact rfl); (case x7 => walk_at "m_within"); (case y7 => decide); (case x2 => kernel_rfl); (case x8 => first | k_is | kernel_rfl); (case x9 => walk_at "m_ne"); k_whole); clear hmX; intro od8 h8 tk8 F8 N8 hm8; k_sweep; (try k_fold)))
local macro_rules | `(tactic| walk_at "m_within") => `(tactic| (intro y hy; dsimp only at hy; simp only [List.mem_cons, List.not_mem_nil, or_false]; (repeat' split at hy) <;> simp_all))
theorem c_exc (w : World) (mean : ExcName → Option Value) (mg mb : Str → Option Value) {x n d : Int} {t1 t2 t3 : Tok} :
    Ctr PySem.Challenge.rw_ys0001_03.row.prog w (Mine.K w.params) Mine.V (looseW Mine.V [Str.ofString "NotRelativePrimeError"]) mean mg mb 32 20 160 [.int x t1, .int n t2, .int d t3] []
      (fun v l => ∃ e t dx od, v = .ref e ∧ @Ne Nat t e ∧ @Ne Nat e dx ∧ @Ne Nat t dx ∧ MapIs od (fun y => if y = Str.ofString "d" then some (.int d t3) else if y = Str.ofString "b" then some (.int n t2) else if y = Str.ofString "a" then some (.int x t1) else none) ∧
        l = [(e, { excObj 32 t with dict := some dx }), (dx, od), (t, { cls := .type "tuple", data := .seq #[.int x t1, .int n t2, .int d t3] })]) := by
  k_with "m:call ref" => ((k_here; (with_reducible show wpAny _ _ (call (Value.ref 49) _) _ _ _); refine hold ?_))
  k_with "m:call ref" => ((k_here; (with_reducible show wpAny _ _ (call (Value.ref 49) _) _ _ _); k_dflt ((refine Ctr.use (c_inverse _ _ _ _ ?_ ?_ ?_ ?_ ?_) (by k_asm) (by k_asm) (by k_asm) (by k_asm) (by k_asm) (by first | exact rfl | assumption) (by k_extra "m_pre") (by walk_at "m_rest") (by ktr_room) (by ktr_units) ?_); (walk_at "m_bd"); (walk_at "m_bd"); (walk_at "m_fact"); (walk_at "m_fact"); (first | assumption | rfl)); rintro v9 l9 h9 tk9 ⟨r9, tr9, e1, e2, hi1, hi0, hi2, hi3, hi4⟩ hlo9 F9 N9; subst e1; subst e2; clear hlo9; (try dsimp only [List.nil_append] at N9); k_sweep; (try k_fold)))
  w_top off
  k_fill
  intro dp un gd cn cs' a ccd cl outer A₀ base h₀ L m rest s Q E B F X N hdis T hk hdd hu hret
  k_dflt refine' call_exc_own (C := 32) (fI := 29) F X N ?h1 ?h2 ?_
  case h1 => kernel_rfl
  case h2 => size_fits
  intro e t h1 F1 N1 l1 l2
  have l2' := ltN l2
  have hne : @Ne Nat t e := neN (by omega)
  have N2 : News h₀ L h1 ([(e, excObj 32 t), (t, ({ cls := .type "tuple", data := .seq [.int x t1, .int n t2, .int d t3].toArray } : Obj))] ++ rest) := N1
  have hdis2 : ∀ q ∈ rest, ∀ r ∈ [(e, excObj 32 t), (t, ({ cls := .type "tuple", data := .seq [.int x t1, .int n t2, .int d t3].toArray } : Obj))], q.1 ≠ r.1 := by
    intro q9 hq9 r9 hr9
    have h3 := ltN (l1 q9 hq9)
    simp only [List.mem_cons, List.not_mem_nil, or_false] at hr9
    rcases hr9 with rfl | rfl <;> (refine neN ?_; dsimp only; omega)
  have N0 := news_left N2
  k_dflt refine' code_defR B F1 X N0 T ?kA ?kF ?kK ?k6 ?k7 ?k8 ?k9 ?kB ?_ ?c2 ?c3 ?c4 ?c5
  k_dflt ((case kA => exact rfl); (case kF => exact rfl); (case kK => assumption); (case k6 => k_is); (case k7 => k_is); (case k8 => ktr_room); (case k9 => first | exact BindsTo.of_eq rfl | exact binds_K (by k_in) rfl (by k_is) rfl rfl rfl); (case c5 => decide); (case kB => exact locs rfl); (case c2 => exact rfl); (case c3 => exact rfl); (case c4 => exact rfl); k_whole)
  intro g' L' h' FG F' N' B' X' T' kept small
  (try dsimp only)
  (try k_fold)
  have hr := rest_kept N2 hdis2 kept
  k_steps
  (rename Fr g' _ _ _ => fr8); (rename News g' _ _ _ => ne8); exact m_ret hret fr8 ne8 (by assumption) (by assumption) hr N (by k_extra "m_pre") ⟨_, _, _, _, rfl, hne, neN (by omega), neN (by omega), by assumption, rfl⟩
end
local macro_rules | `(tactic| walk_at "m_ne") => `(tactic| first | exact List.forall_mem_nil _ | (refine List.forall_mem_cons.mpr ⟨?a, ?b⟩; (case a => (dsimp only; first | assumption | (apply Ne.symm; assumption) | (refine neN ?_; omega) | (refine Ne.symm (neN ?_); omega))); (case b => walk_at "m_ne")))
local macro_rules | `(tactic| walk_at "exec Raise some none") => `(tactic| (refine Raise_exc (by assumption) rfl ?_))
local macro_rules | `(tactic| walk_at "leaving ref") => `(tactic| (k_here; k_dflt (refine' leave_raiseD ?r1 ?r2 ?r3 ?r4 ?r5 ?r6 ?_; (case r1 => k_asm); (case r2 => k_asm); (case r3 => k_asm); (case r4 => exact rfl); (case r5 => exact rfl); (case r6 => walk_at "m_ne"); k_whole); intro h9 R9 U9; (try dsimp only at R9 U9 ⊢)))
local macro_rules | `(tactic| walk_at "leaving ref") => `(tactic| (k_here; (rename RaisedD _ _ _ _ _ _ _ _ => rkD); k_dflt (refine' leave_onD ?r1 ?r2 rkD ?r4 ?_; (case r1 => assumption); (case r2 => assumption); (case r4 => assumption); k_whole); clear rkD; intro h9 R9 U9; (try dsimp only at R9 U9 ⊢)))
local macro_rules | `(tactic| walk_at "getAttr ref") => `(tactic| (k_here; (rename MapIs _ _ => hmX); (rename News _ _ _ _ => nwX); k_dflt (refine' exc_get (C := 32) (fI := 29) ?x1 ?x2 ?x3 ?y1 ?y2 ?y3 ?x4 (mapIs_look hmX ?x5) ?x6 ?x7 ?_; (case x1 => exact in_of_fr (by assumption) (by assumption)); (case x2 => kernel_rfl); (case x3 => exact (nwX _ (by k_mem)).1); (case y1 => exact rfl); (case y2 => exact rfl); (case y3 => exact rfl); (case x4 => exact newsAt nwX (by k_mem)); (case x5 => first | exact if_pos rfl | exact (if_neg (by decide)).trans (if_pos rfl) | exact (if_neg (by decide)).trans ((if_neg (by decide)).trans (if_pos rfl))); (case x6 => first | k_is | kernel_rfl); (case x7 => rfl); k_whole)))
local macro_rules | `(tactic| walk_at "noteFrame ref") => `(tactic| (k_here; (rename RaisedD _ _ _ _ _ _ _ _ => rkD); k_dflt (refine' caught_D rkD ?r1 ?r2 ?r3 ?r4 ?r5 ?r6 ?r7 ?_; (case r1 => assumption); (case r2 => assumption); (case r3 => assumption); (case r4 => assumption); (case r5 => assumption); (case r6 => first | k_is | kernel_rfl); (case r7 => first | k_is | kernel_rfl); k_whole); clear rkD; rintro h9 g9 tk9 ⟨oc9, od9, odt9, osl9⟩ vs9 T9 hc9 hd9 hv9 F9 N9 K9 X9 P9; dsimp only at hc9 hd9 hv9; subst hc9; subst hd9; subst hv9; k_sweep))
local macro_rules | `(tactic| walk_at "call builtin:isinstance") => `(tactic| (k_here; (with_reducible show wpAny _ _ (call (Value.builtin "isinstance") [Value.ref _, Value.type "ValueError"]) _ _ _); (rename News _ _ _ _ => nwX); k_dflt (refine' exc_isinst (C := 32) (fI := 29) ?x1 ?x2 ?x3 ?x4 ?_; (case x1 => exact in_of_fr (by assumption) (by assumption)); (case x2 => kernel_rfl); (case x3 => exact (nwX _ (by k_mem)).1); (case x4 => exact rfl); k_whole)))
section
local macro_rules | `(tactic| walk_at "exec For Name Call cons nil") => `(tactic| (k_here; (rename Fr _ _ _ _ => lF'); (with_unfolding_all refine' For_turns lF' ?_; k_whole)))
local macro_rules | `(tactic| walk_at "eval ListComp") => `(tactic| (k_here; k_dflt (refine LCg.ListComp_U (F₀ := by k_asm) (by with_unfolding_all rfl) (by decide) (by rfl) (by decide) (by rfl) ?_)))
local macro_rules | `(tactic| walk_at "CompSrc") => `(tactic| (refine hold ?_))
theorem c_moduli (w : World) (mean : ExcName → Option Value) (mg mb : Str → Option Value) {st c : Nat} {S : StT} (hS : StOk S) (hne : @Ne Nat st c) :
    Ctr PySem.Challenge.rw_ys0001_03.row.prog w (Mine.K w.params) Mine.V (looseW Mine.V [Str.ofString "NotRelativePrimeError"]) mean mg mb 101 12 120 [.ref st] (StL st c S)
      (fun v l => ∃ a vs ns nn S', v = .ref a ∧ @Ne Nat a st ∧ @Ne Nat a c ∧ IntsAre vs ns ∧ ns.length ≤ 5 ∧ (∀ n ∈ ns, 1 ≤ n ∧ n ≤ 400) ∧ l = (a, listOf vs.toArray nn) :: StL st c S' ∧ StOk S') := by
  k_with "m:call ref" => ((k_here; (with_reducible show wpAny _ _ (call (Value.ref 32) _) _ _ _); refine hold ?_))
  k_with "m:call ref" => ((k_here; (with_reducible show wpAny _ _ (call (Value.ref 32) _) _ _ _); k_dflt ((refine Ctr.use (c_exc _ _ _ _) (by k_asm) (by k_asm) (by k_asm) (by k_asm) (by k_asm) (by first | exact rfl | assumption) (by k_extra "m_pre") (by walk_at "m_rest") (by ktr_room) (by ktr_units) ?_)); rintro v9 l9 h9 tk9 ⟨e9, t9, dx9, od9, e1, hne1, hne2, hne3, hm9, e2⟩ hlo9 F9 N9; subst e1; subst e2; replace hlo9 := allNeL_of hlo9; (try simp only [AllNeL, AllNe, and_true, true_and, and_assoc] at hlo9); (repeat (obtain ⟨hlx9, hlo9⟩ := hlo9)); (try dsimp only [List.cons_append, List.nil_append] at N9); k_sweep; k_dflt (refine' ⟨_, _, _, 32, 29, rfl, ?r1, ?r2, ?r3, ?r4, ?r5, ?r6, ?_⟩; (case r1 => exact in_of_fr (by assumption) F9); (case r2 => kernel_rfl); (case r3 => exact (N9 _ (.head _)).1); (case r4 => exact rfl); (case r5 => exact rfl); (case r6 => exact rfl)); (try k_fold)))
  w_top off
  k_fill
  intro dp un gd cn cs' a ccd cl outer A₀ base h₀ L m rest s Q E B F X N hdis T hk hd hu hret
  refine wpAny_call ?_
  have N0 := news_left N
  k_dflt refine' code_defCR (binds := [(Str.ofString "state", .ref st)]) ?k1 ?k2 ?k3 ?k4 ?k5 ?kA ?kF ?kK ?k6 ?k7 ?k8 ?k9 ?kB ?kN ?_ ?c2 ?c3 ?c4
  k_dflt k_extra "m_enterC"
  intro g' L' h' tkc cells FG F' N' Y B' X' T' kept small
  k_cells Y
  (try simp only [List.cons_append, List.nil_append] at N')
  have l1 : ∀ p ∈ StL st c S, p.1 < L' := fun p hp => small _ _ (N0 p hp).1
  k_lt l1
  (try dsimp only)
  (try k_fold)
  have hr := rest_kept N hdis kept
  k_steps
  unfold Hold
  (try k_gentoks)
  rename IsRange _ _ _ _ _ _ _ _ => hrng
  rename Fr g' _ _ _ => fr1
  rename News g' _ _ _ => ne1
  rename StOk _ => hS0
  rename _ < (6 : Int) => hlt
  rename (0 : Int) ≤ _ => hge
  rename Obj.data _ = _ => hd0
  rename L' + 1 < _ ∧ _ => hlA
  with_unfolding_all refine m_rangeT (σ := StT × Obj × List Value × List Int × Nat) (n := Int.toNat _) (fun s => [(st, listOf #[.int s.1.i s.1.t, .ref c] s.1.n), (c, listOf s.1.vs.toArray s.1.n2), (sndL hlA.1, listOf s.2.2.1.toArray s.2.2.2.2), (L' + 1, s.2.1)]) (fun _ => []) [Str.ofString "turn", Str.ofString "k"] (fun i s => StOk s.1 ∧ (∃ v, s.2.1.data = .cell v) ∧ IntsAre s.2.2.1 s.2.2.2.1 ∧ s.2.2.2.1.length = i ∧ ∀ n ∈ s.2.2.2.1, 1 ≤ n ∧ n ≤ 400) (_, _, [], [], 0) rfl hrng (small_one (by omega) (by omega) (by omega) (by omega)) (by rw [rangeSize_nat]) fr1 ne1 (by k_extra "m_pre") (List.forall_mem_nil _) ⟨hS0, ⟨_, hd0⟩, .nil, rfl, List.forall_mem_nil _⟩ (fun _ _ _ _ _ q => wpAny_pure q) ?_ ?_
  · clear fr1 ne1 hd0
    rintro ⟨S1, o1, vs, ns, nn⟩ i kk t u h tk own hk' hi hoff ⟨hS1, ⟨v1, hd1⟩, hI, hlen, hall⟩ fr1 ne1
    dsimp only [sndL, List.cons_append, List.nil_append] at hS1 hd1 hI hlen hall fr1 ne1 ⊢
    replace fr1 : Fr g' L' h _ := fr1
    replace ne1 : News g' L' h _ := ne1
    k_sweep
    (try k_fold)
    k_steps
    unfold Hold
    rename Fr g' _ _ _ => fr2
    rename News g' _ _ _ => ne2
    rename IsRange _ _ 0 60 1 _ _ _ => hr2
    rename StOk _ => hS2
    rename Obj.data _ = _ => hd2
    rename _ < (400 : Int) => hlt2
    rename (0 : Int) ≤ _ => hge2
    with_unfolding_all refine m_rangeT (σ := StT × Obj) (n := 60) (fun s => (st, listOf #[.int s.1.i s.1.t, .ref c] s.1.n) :: (c, listOf s.1.vs.toArray s.1.n2) :: (sndL hlA.1, listOf vs.toArray nn) :: (L' + 1, s.2) :: own) (fun _ => []) [Str.ofString "k"] (fun _ s => StOk s.1 ∧ ∃ mo t, s.2.data = .cell (some (.int mo t)) ∧ 1 ≤ mo ∧ mo ≤ 400) (_, _) rfl hr2 (by decide) (by rfl) fr2 ne2 (fun p hp => hp) (List.forall_mem_nil _) ⟨hS2, _, _, hd2, by omega, by omega⟩ (fun _ _ _ _ _ q => wpAny_pure q) ?_ ?_
    · clear fr2 ne2 hd2 hlt2 hge2
      rintro ⟨S3, o3⟩ i2 kk2 t2 u2 h2 tk2 own2 hk2 hi2 hoff2 ⟨hS3, mo, tmo, hd3, hm1, hm2⟩ fr3 ne3
      dsimp only [sndL, List.cons_append, List.nil_append] at hS3 hd3 fr3 ne3 ⊢
      replace fr3 : Fr g' L' h2 _ := fr3
      replace ne3 : News g' L' h2 _ := ne3
      have hoff3 : OwnOff (own ++ own2) [st, c, sndL hlA.1, L' + 1] := own_app hoff hoff2 (by intro b hb; exact hb) (by k_extra "m_subA")
      k_sweep
      (try k_fold)
      k_steps
      · (rename Fr g' _ _ _ => fr8); (rename News g' _ _ _ => ne8); (rename StOk _ => hS8); (simp only [List.push_toArray] at ne8); (with_unfolding_all refine' m_endT (_, _, _, ns ++ [mo], _) fr8 ne8 ?hn ?ho ?ha (List.forall_mem_nil _) ?hr ⟨hS8, ⟨_, hd3⟩, intsAre_append hI (.cons _ _ .nil), by simp [hlen], ?hx⟩; (case hn => k_extra "m_pre"); (case ho => intro p hp; kst_mem); (case ha => rfl); (case hr => k_extra "m_same"); (case hx => exact all_app hall ⟨hm1, hm2⟩))
      unfold Hold
      rename Fr g' _ _ _ => fr4
      rename News g' _ _ _ => ne4
      have hsz : vs.toArray.size ≤ sizeLine := by rw [sizeLine_eq, List.size_toArray, hI.length]; omega
      with_unfolding_all refine LCg.CompSrc.ledger (its := vs.toArray) rfl fr4 ne4 (by k_mem) hsz (fun g9 => comp_ind (σ := Unit) (fun _ => _) (fun i9 ys _ => ∃ zs, IntsAre ys zs ∧ zs.length = i9) () rfl ⟨[], .nil, rfl⟩ ?_ ?_)
      · intro i9 ys u9 R' hi9 hj hR v I oI C oC D m₂ h9 tk9 E' hP hC hx fr5 ne5 off ne9
        obtain ⟨zs, hz, hzl⟩ := hj
        obtain ⟨n9, t9, rfl, hn9⟩ := intsAre_at hI (i := i9) (v := v) (by simpa using hP)
        obtain ⟨hn1, hn2⟩ := hall n9 (List.mem_of_getElem? hn9)
        k_sweep
        (try k_fold)
        k_steps
        rename Fr g' _ _ _ => fr6
        rename News g' _ _ _ => ne6
        with_unfolding_all exact LCg.CompEnd.intro fr6 ne6 _ (fun p hp => hp) off (.inr ⟨_, by k_mem, rfl, _, rfl⟩) ⟨(), rfl, hR _ _ ⟨_, intsAre_append hz (.cons _ _ .nil), by simp [hzl]⟩⟩
      · intro ys u9 hb
        obtain ⟨zs, hz, hzl⟩ := hb
        have hzl2 : zs.length ≤ 5 := by rw [List.size_toArray, hI.length] at hzl; omega
        unfold LCg.FinE
        intro D h9 tk9 fr5 ne5 off
        (try simp only [LCg.Off1, and_true] at off)
        k_sweep
        (try k_fold)
        k_steps
        · (rename Fr g' _ _ _ => fr8); (rename News g' _ _ _ => ne8); (rename StOk _ => hS8); (simp only [List.push_toArray] at ne8); (with_unfolding_all refine' m_endT (_, _, _, ns ++ [mo], _) fr8 ne8 ?hn ?ho ?ha (List.forall_mem_nil _) ?hr ⟨hS8, ⟨_, hd3⟩, intsAre_append hI (.cons _ _ .nil), by simp [hlen], ?hx⟩; (case hn => k_extra "m_pre"); (case ho => intro p hp; kst_mem); (case ha => rfl); (case hr => k_extra "m_same"); (case hx => exact all_app hall ⟨hm1, hm2⟩))
        · rename Obj.data _ = Data.cell (some (Value.int _ _)) => hd8
          have hb := fmod_nn (a := mo) (b := 400) (by decide)
          (rename Fr g' _ _ _ => fr8); (rename News g' _ _ _ => ne8); (rename StOk _ => hS8)
          with_unfolding_all refine' m_endT (_, _) fr8 ne8 ?hn ?ho ?ha (List.forall_mem_nil _) ?hr ⟨hS8, _, _, hd8, by omega, by omega⟩
          case hn => k_extra "m_pre"
          case ho => intro p hp; kst_mem
          case ha => rfl
          case hr => k_extra "m_same"
    · clear fr2 ne2 hd2 hlt2 hge2
      rintro ⟨S3, o3⟩ u2 h2 tk2 ⟨hS3, mo, tmo, hd3, hm1, hm2⟩ fr3 ne3
      dsimp only [sndL, List.cons_append, List.nil_append] at hS3 hd3 fr3 ne3 ⊢
      replace fr3 : Fr g' L' h2 _ := fr3
      replace ne3 : News g' L' h2 _ := ne3
      k_sweep
      (try k_fold)
      k_steps
      (rename Fr g' _ _ _ => fr8); (rename News g' _ _ _ => ne8); (rename StOk _ => hS8); (simp only [List.push_toArray] at ne8); (with_unfolding_all refine' m_endT (_, _, _, ns ++ [mo], _) fr8 ne8 ?hn ?ho ?ha (List.forall_mem_nil _) ?hr ⟨hS8, ⟨_, hd3⟩, intsAre_append hI (.cons _ _ .nil), by simp [hlen], ?hx⟩; (case hn => k_extra "m_pre"); (case ho => intro p hp; kst_mem); (case ha => rfl); (case hr => k_extra "m_same"); (case hx => exact all_app hall ⟨hm1, hm2⟩))
  · clear fr1 ne1 hd0
    rintro ⟨S1, o1, vs, ns, nn⟩ u h tk ⟨hS1, ⟨v1, hd1⟩, hI, hlen, hall⟩ fr1 ne1
    dsimp only [sndL] at hS1 hd1 hI hlen hall fr1 ne1 ⊢
    replace fr1 : Fr g' L' h _ := fr1
    replace ne1 : News g' L' h _ := ne1
    k_sweep
    k_steps
    (rename Fr g' _ _ _ => fr8); (rename News g' _ _ _ => ne8); exact m_ret hret fr8 ne8 (by assumption) (by assumption) hr N (by k_extra "m_pre") ⟨_, _, _, _, _, rfl, neN (by omega), neN (by omega), hI, by omega, hall, rfl, hS1⟩
end
section
local macro_rules | `(tactic| walk_at "m_pad") => `(tactic| fail)
local macro_rules | `(tactic| walk_at "exec For Tuple Call cons nil") => `(tactic| (k_here; (rename Fr _ _ _ _ => lF'); (with_unfolding_all refine' For_turns lF' ?_; k_whole)))
local macro_rules | `(tactic| walk_at "call type:zip") => `(tactic| (refine hold ?_))
local macro_rules | `(tactic| walk_at "inplaceOp Mult int int") => `(tactic| (refine imul_int ?_ ?_; rotate_left; (exact mulOkB 990 990 (by walk_at "m_bd") (by walk_at "m_bd") (by decide))))
theorem c_crt (w : World) (mean : ExcName → Option Value) (mg mb : Str → Option Value) {na mo : Nat} {va vm : List Value} {as ms : List Int} {n1 n2 : Nat} (hIa : IntsAre va as) (hIm : IntsAre vm ms) (hl : ms.length ≤ as.length) (h5 : ms.length ≤ 5) (hm : ∀ n ∈ ms, 1 ≤ n ∧ n ≤ 400) (ha : ∀ x ∈ as, Bd 310 x) (hc : AllC ms) :
    Ctr PySem.Challenge.rw_ys0001_03.row.prog w (Mine.K w.params) Mine.V (looseW Mine.V [Str.ofString "NotRelativePrimeError"]) mean mg mb 56 12 100 [.ref na, .ref mo] [(na, listOf va.toArray n1), (mo, listOf vm.toArray n2)]
      (fun v l => ∃ r tr, v = .int r tr ∧ 0 ≤ r ∧ r < prodI ms ∧ (∀ (k : Nat) (a n : Int), as[k]? = some a → ms[k]? = some n → n ∣ r - a) ∧ l = [(na, listOf va.toArray n1), (mo, listOf vm.toArray n2)]) := by
  k_with "m:call ref" => ((k_here; (with_reducible show wpAny _ _ (call (Value.ref 101) _) _ _ _); refine hold ?_))
  k_with "m:call ref" => ((k_here; (with_reducible show wpAny _ _ (call (Value.ref 101) _) _ _ _); k_dflt ((refine Ctr.use (c_moduli _ _ _ _ ?_ ?_) (by k_asm) (by k_asm) (by k_asm) (by k_asm) (by k_asm) (by first | exact rfl | assumption) (by k_extra "m_pre") (by walk_at "m_rest") (by ktr_room) (by ktr_units) ?_); (assumption); (assumption)); rintro v9 l9 h9 tk9 ⟨a9, vs9, ns9, nn9, S9, e1, hne8, hne9, hI9, hl9, hb9, e2, hS9⟩ hlo9 F9 N9; subst e1; subst e2; replace hlo9 := allNeL_of hlo9; (try simp only [AllNeL, AllNe, StL, and_true, true_and, and_assoc] at hlo9); (repeat (obtain ⟨hlx9, hlo9⟩ := hlo9)); (try dsimp only [StL, List.cons_append, List.nil_append] at N9); k_sweep; (try k_fold)))
  obtain ⟨hpr0, hpr1⟩ := prodI_bd hm h5
  have hprB : Bd 50 (prodI ms) := Bd.of_nn (Int.le_of_lt hpr0) (by omega)
  have hlgp : (prodI ms).natAbs.log2 < 9000 := Bd.lg hprB (by decide)
  w_top off
  k_fill
  intro dp un gd cn cs' a ccd cl outer A₀ base h₀ L m rest s Q E B F X N hdis T hk hd hu hret
  refine wpAny_call ?_
  have N0 := news_left N
  k_dflt refine' code_defR (binds := [(Str.ofString "a_values", .ref na), (Str.ofString "modulo_values", .ref mo)]) ?k1 ?k2 ?k3 ?k4 ?k5 ?kA ?kF ?kK ?k6 ?k7 ?k8 ?k9 ?kB ?_ ?c2 ?c3 ?c4 ?c5
  k_dflt k_extra "m_enter"
  intro g' L' h' FG F' N' B' X' T' kept small
  (try dsimp only)
  (try k_fold)
  have hr := rest_kept N hdis kept
  k_steps
  unfold Hold
  rename Fr g' _ _ _ => fr1
  rename News g' _ _ _ => ne1
  with_unfolding_all refine m_listK (σ := Int × Tok) (fun _ => [(na, listOf va.toArray n1), (mo, listOf vm.toArray n2)]) (fun c => [(Str.ofString "m", .int c.1 c.2)]) [Str.ofString "modulo"] (fun i c => c.1 = prodI (ms.take i)) (1, _) rfl (fun _ => by k_mem) hIm fr1 ne1 (by k_extra "m_pre") (List.forall_mem_cons.mpr ⟨rfl, List.forall_mem_nil _⟩) rfl ?_ ?_
  · clear fr1 ne1
    rintro ⟨p, tp⟩ i n t u h tk own hn hoff hp fr1 ne1
    dsimp only [List.cons_append, List.nil_append] at hp fr1 ne1 ⊢
    replace fr1 : Fr g' L' h _ := fr1
    replace ne1 : News g' L' h _ := ne1
    obtain ⟨hn1, hn2⟩ := hm n (List.mem_of_getElem? hn)
    have hpB : Bd 50 p := by
      have hb := prodI_bdT hm h5 i
      rw [← hp] at hb
      exact Bd.of_nn (Int.le_of_lt hb.1) (by omega)
    k_sweep
    (try k_fold)
    k_steps
    (try dsimp only [InvPostN])
    rename Fr g' _ _ _ => fr2
    rename News g' _ _ _ => ne2
    with_unfolding_all refine' m_endT (_, _) fr2 ne2 ?hn ?ho ?ha (List.forall_mem_cons.mpr ⟨rfl, List.forall_mem_nil _⟩) ?hr ?hq
    case hn => k_extra "m_pre"
    case ho => intro p hp; kst_mem
    case ha => rfl
    case hr => k_extra "m_same"
    case hq => exact (prodI_take hn).symm ▸ hp ▸ rfl
  · clear fr1 ne1
    rintro ⟨p, tp⟩ u h tk hp fr1 ne1
    dsimp only at hp fr1 ne1 ⊢
    rw [List.take_length] at hp
    subst hp
    replace fr1 : Fr g' L' h _ := fr1
    replace ne1 : News g' L' h _ := ne1
    k_sweep
    k_steps
    unfold Hold
    rename Fr g' _ _ _ => fr1
    rename News g' _ _ _ => ne1
    with_unfolding_all refine m_zip (σ := Int × Tok) (xs := vm) (ys := va) (fun _ => [(na, listOf va.toArray n1), (mo, listOf vm.toArray n2)]) (fun c => [(Str.ofString "x", .int c.1 c.2)]) [Str.ofString "m_i", Str.ofString "a_i", Str.ofString "M_i", Str.ofString "inv"] (fun i c => CInv as ms i c.1) (0, _) rfl (fun _ => by k_mem) (fun _ => by k_mem) hIm hIa fr1 ne1 (by k_extra "m_pre") (List.forall_mem_cons.mpr ⟨rfl, List.forall_mem_nil _⟩) (CInv.start hm) ?_ ?_
    · clear fr1 ne1
      rintro ⟨x, tx⟩ i n b t1 t2 T u h tk own hn hb hoff hI hT fr1 ne1
      dsimp only [List.cons_append, List.nil_append] at hI fr1 ne1 ⊢
      replace fr1 : Fr g' L' h _ := fr1
      replace ne1 : News g' L' h _ := ne1
      have hnm := List.mem_of_getElem? hn
      obtain ⟨hn1, hn2⟩ := hm n hnm
      have hn0 : n ≠ 0 := by omega
      have hbB := ha b (List.mem_of_getElem? hb)
      have hlgn : n.natAbs.log2 < 9000 := log2_small (by omega)
      obtain ⟨hc0, hc1⟩ := coI_bd hm h5 hnm
      have hcB : Bd 50 (coI ms n) := Bd.of_nn (Int.le_of_lt hc0) (by omega)
      have hcn : 0 ≤ coI ms n := Int.le_of_lt hc0
      have hcg := hc i n hn
      have hxB : Bd 50 x := Bd.of_nn hI.lo (by have := hI.hi; omega)
      unfold coI at hcB hcg hcn
      have hlx := hI.lo
      k_sweep
      (try k_fold)
      k_steps
      (try dsimp only [InvPostN])
      rename Fr g' _ _ _ => fr2
      rename News g' _ _ _ => ne2
      with_unfolding_all refine' m_endT (_, _) fr2 ne2 ?hn ?ho ?ha (List.forall_mem_cons.mpr ⟨rfl, List.forall_mem_nil _⟩) ?hr ?hq
      case hn => k_extra "m_pre"
      case ho => intro p hp; kst_mem
      case ha => rfl
      case hr => k_extra "m_same"
      case hq => exact hI.step hm hb hn (by assumption)
    · clear fr1 ne1
      rintro ⟨x, tx⟩ u h tk hI fr1 ne1
      dsimp only at hI fr1 ne1 ⊢
      replace fr1 : Fr g' L' h _ := fr1
      replace ne1 : News g' L' h _ := ne1
      k_sweep
      k_steps
      (rename Fr g' _ _ _ => fr8); (rename News g' _ _ _ => ne8); exact m_ret hret fr8 ne8 (by assumption) (by assumption) hr N (by k_extra "m_pre") ⟨_, _, rfl, hI.lo, hI.hi, hI.out hl, rfl⟩
end
section
local macro_rules | `(tactic| walk_at "exec For Tuple Call cons nil") => `(tactic| (k_here; (rename Fr _ _ _ _ => lF'); (with_unfolding_all refine' For_turns lF' ?_; k_whole)))
local macro_rules | `(tactic| walk_at "call type:zip") => `(tactic| (refine hold ?_))
local macro_rules | `(tactic| walk_at "inplaceOp Mult int int") => `(tactic| (refine imul_int ?_ ?_; rotate_left; (exact mulOkB 990 990 (by walk_at "m_bd") (by walk_at "m_bd") (by decide))))
local macro_rules | `(tactic| walk_at "call ref") => `(tactic| (k_here; (with_reducible show wpAny _ _ (call (Value.ref 49) _) _ _ _); k_dflt (walk_at "m_inline")))
local macro_rules | `(tactic| walk_at "call ref") => `(tactic| (k_here; (with_reducible show wpAny _ _ (call (Value.ref 56) _) _ _ _); refine hold ?_))
local macro_rules | `(tactic| walk_at "m_ne") => `(tactic| exact allNe_all (by assumption))
theorem c_told (w : World) (mean : ExcName → Option Value) (mg mb : Str → Option Value) {na mo : Nat} {va vm : List Value} {as ms : List Int} {n1 n2 : Nat} (hIa : IntsAre va as) (hIm : IntsAre vm ms) (hl : ms.length ≤ as.length) (h5 : ms.length ≤ 5) (hm : ∀ n ∈ ms, 1 ≤ n ∧ n ≤ 400) (ha : ∀ x ∈ as, Bd 310 x) :
    CtrOX PySem.Challenge.rw_ys0001_03.row.prog w (Mine.K w.params) Mine.V (looseW Mine.V [Str.ofString "NotRelativePrimeError"]) mean mg mb 96 40 300 [.ref na, .ref mo] [(na, listOf va.toArray n1), (mo, listOf vm.toArray n2)]
      (fun v l => ∃ tp o, v = .ref tp ∧ l = [(tp, o), (na, listOf va.toArray n1), (mo, listOf vm.toArray n2)] ∧ ((AllC ms ∧ ∃ r tk t3, 0 ≤ r ∧ r < prodI ms ∧ (∀ (k : Nat) (a n : Int), as[k]? = some a → ms[k]? = some n → n ∣ r - a) ∧ o = ({ cls := .type "tuple", data := .seq #[.str (Str.ofString "ok") tk, .int r t3] } : Obj)) ∨
        (∃ (i : Nat) (n : Int), ms[i]? = some n ∧ FirstC ms i ∧ Int.gcd (coI ms n) n ≠ 1 ∧ ∃ (g : Int) (tk t1 t2 t3 : Tok), g = (Int.gcd (coI ms n) n : Int) ∧ o = ({ cls := .type "tuple", data := .seq #[.str (Str.ofString "part") tk, .int (coI ms n) t1, .int n t2, .int g t3] } : Obj)))) := by
  k_with "m:call ref" => ((k_here; (with_reducible show wpAny _ _ (call (Value.ref 56) _) _ _ _); refine hold ?_))
  k_with "m:call ref" => ((k_here; (with_reducible show wpAny _ _ (call (Value.ref 56) _) _ _ _); k_dflt ((refine Ctr.use (c_crt _ _ _ _ ?_ ?_ ?_ ?_ ?_ ?_ ?_) (by k_asm) (by k_asm) (by k_asm) (by k_asm) (by k_asm) (by first | exact rfl | assumption) (by k_extra "m_pre") (by walk_at "m_rest") (by ktr_room) (by ktr_units) ?_); (walk_at "m_ints"); (walk_at "m_ints"); (walk_at "m_crt3"); (walk_at "m_crt4"); (walk_at "m_crt5"); (walk_at "m_crt6"); (walk_at "m_crt7")); rintro v9 l9 h9 tk9 ⟨r9, tr9, e1, hr0, hr1, hr2, e2⟩ hlo9 F9 N9; subst e1; subst e2; clear hlo9; (try dsimp only [List.cons_append, List.nil_append] at N9); k_sweep; (try k_fold)))
  obtain ⟨hpr0, hpr1⟩ := prodI_bd hm h5
  have hprB : Bd 50 (prodI ms) := Bd.of_nn (Int.le_of_lt hpr0) (by omega)
  have hlgp : (prodI ms).natAbs.log2 < 9000 := Bd.lg hprB (by decide)
  w_top off
  k_fill
  intro dp un gd cn cs' a ccd cl A₀ h₀ L m rest s Q E B F X N hdis T hk hd hu hret
  refine wpAny_call ?_
  have N0 := news_left N
  k_dflt refine' code_defSX (binds := [(Str.ofString "numbers", .ref na), (Str.ofString "moduli", .ref mo)]) B F X N0 T ?kA ?kF ?kK ?k6 ?k7 ?k8 ?k9 ?kB ?_ ?c2 ?c3 ?c4 ?c5
  k_dflt ((case kA => exact rfl); (case kF => exact rfl); (case kK => assumption); (case k6 => k_is); (case k7 => k_is); (case k8 => ktr_room); (case k9 => exact BindsTo.of_eq rfl); (case c5 => decide); (case kB => exact locs rfl); (case c2 => exact rfl); (case c3 => exact rfl); (case c4 => exact rfl); k_whole)
  intro g' L' h' FG F' N' B' X' T' D' kept small
  (try dsimp only)
  (try k_fold)
  have hr := rest_kept N hdis kept
  k_steps
  unfold Hold
  refine wpAny_call ?_
  k_dflt (refine' code_def ?k1 ?k2 ?k3 ?k4 ?k5 ?kA ?kF ?kK ?k6 ?k7 ?k8 ?k9 ?kB ?_ ?c2 ?c3 ?c4 ?c5; (case kA => exact rfl); (case kF => exact rfl); (case kK => first | exact rfl | assumption); (case k1 => k_asm); (case k2 => k_asm); (case k3 => k_asm); (case k4 => k_asm); (case k5 => k_asm); (case k6 => k_is); (case k7 => k_is); (case k8 => ktr_room); (case k9 => exact BindsTo.of_eq rfl); (case c5 => decide); (case kB => exact locs rfl); (case c2 => exact rfl); (case c3 => exact rfl); (case c4 => exact rfl); k_whole)
  intro g2 L2 h2 FG2 F2 N2 B2 X2 T2
  (try dsimp only)
  (try k_lift B2)
  (try k_fold)
  k_steps
  unfold Hold
  rename Fr g2 _ _ _ => fr1
  rename News g2 _ _ _ => ne1
  with_unfolding_all refine m_listK (σ := Int × Tok) (fun _ => [(na, listOf va.toArray n1), (mo, listOf vm.toArray n2)]) (fun c => [(Str.ofString "m", .int c.1 c.2)]) [Str.ofString "modulo"] (fun i c => c.1 = prodI (ms.take i)) (1, _) rfl (fun _ => by k_mem) hIm fr1 ne1 (by k_extra "m_pre") (List.forall_mem_cons.mpr ⟨rfl, List.forall_mem_nil _⟩) rfl ?_ ?_
  · clear fr1 ne1
    rintro ⟨p, tp⟩ i n t u h tk own hn hoff hp fr1 ne1
    dsimp only [List.cons_append, List.nil_append] at hp fr1 ne1 ⊢
    replace fr1 : Fr g2 L2 h _ := fr1
    replace ne1 : News g2 L2 h _ := ne1
    obtain ⟨hn1, hn2⟩ := hm n (List.mem_of_getElem? hn)
    have hpB : Bd 50 p := by
      have hb := prodI_bdT hm h5 i
      rw [← hp] at hb
      exact Bd.of_nn (Int.le_of_lt hb.1) (by omega)
    k_sweep
    (try k_fold)
    k_steps
    (try dsimp only [InvPostN])
    rename Fr g2 _ _ _ => fr2
    rename News g2 _ _ _ => ne2
    with_unfolding_all refine' m_endT (_, _) fr2 ne2 ?hn ?ho ?ha (List.forall_mem_cons.mpr ⟨rfl, List.forall_mem_nil _⟩) ?hr ?hq
    case hn => k_extra "m_pre"
    case ho => intro p hp; kst_mem
    case ha => rfl
    case hr => k_extra "m_same"
    case hq => exact (prodI_take hn).symm ▸ hp ▸ rfl
  · clear fr1 ne1
    rintro ⟨p, tp⟩ u h tk hp fr1 ne1
    dsimp only at hp fr1 ne1 ⊢
    rw [List.take_length] at hp
    subst hp
    replace fr1 : Fr g2 L2 h _ := fr1
    replace ne1 : News g2 L2 h _ := ne1
    k_sweep
    k_steps
    unfold Hold
    rename Fr g2 _ _ _ => fr1
    rename News g2 _ _ _ => ne1
    with_unfolding_all refine m_zip (σ := Int × Tok) (xs := vm) (ys := va) (fun _ => [(na, listOf va.toArray n1), (mo, listOf vm.toArray n2)]) (fun c => [(Str.ofString "x", .int c.1 c.2)]) [Str.ofString "m_i", Str.ofString "a_i", Str.ofString "M_i", Str.ofString "inv"] (fun i c => CInv as ms i c.1 ∧ FirstC ms i) (0, _) rfl (fun _ => by k_mem) (fun _ => by k_mem) hIm hIa fr1 ne1 (by k_extra "m_pre") (List.forall_mem_cons.mpr ⟨rfl, List.forall_mem_nil _⟩) ⟨CInv.start hm, FirstC.zero⟩ ?_ ?_
    · clear fr1 ne1
      rintro ⟨x, tx⟩ i n b t1 t2 T u h tk own hn hb hoff ⟨hI, hF⟩ hT fr1 ne1
      dsimp only [List.cons_append, List.nil_append] at hI fr1 ne1 ⊢
      replace fr1 : Fr g2 L2 h _ := fr1
      replace ne1 : News g2 L2 h _ := ne1
      have hnm := List.mem_of_getElem? hn
      obtain ⟨hn1, hn2⟩ := hm n hnm
      have hn0 : n ≠ 0 := by omega
      have hbB := ha b (List.mem_of_getElem? hb)
      have hlgn : n.natAbs.log2 < 9000 := log2_small (by omega)
      obtain ⟨hc0, hc1⟩ := coI_bd hm h5 hnm
      have hcB : Bd 50 (coI ms n) := Bd.of_nn (Int.le_of_lt hc0) (by omega)
      have hcn : 0 ≤ coI ms n := Int.le_of_lt hc0
      have hxB : Bd 50 x := Bd.of_nn hI.lo (by have := hI.hi; omega)
      unfold coI at hcB hcn
      have hlx := hI.lo
      k_sweep
      (try k_fold)
      k_steps
      · rename EInv _ _ _ _ _ _ _ _ => he
        have hg := he.gcdIs (.inr (by omega))
        rename KtsTurn _ _ _ => tn8
        exact m_retO hret (by intro b hb; exact List.mem_singleton.mp hb) tn8 (by assumption) (by assumption) (by assumption) (by assumption) hr N (by k_extra "m_pre") ⟨_, _, rfl, rfl, .inr ⟨i, n, hn, hF, fun e => by unfold coI at e; omega, _, _, _, _, _, hg, rfl⟩⟩
      · (try dsimp only [InvPostN])
        rename Fr g2 _ _ _ => fr2
        rename News g2 _ _ _ => ne2
        rename EInv _ _ _ _ _ _ _ _ => he
        have hi := he.inv1 (by omega) (by assumption) (by assumption)
        have hgc : Int.gcd (coI ms n) n = 1 := by
          have hg := he.gcdIs (.inr (by omega))
          unfold coI
          omega
        with_unfolding_all refine' m_endT (_, _) fr2 ne2 ?hn ?ho ?ha (List.forall_mem_cons.mpr ⟨rfl, List.forall_mem_nil _⟩) ?hr ?hq
        case hn => k_extra "m_pre"
        case ho => intro p hp; kst_mem
        case ha => rfl
        case hr => k_extra "m_same"
        case hq => exact ⟨hI.step hm hb hn hi.2.2, hF.succ hn hgc⟩
    · clear fr1 ne1
      rintro ⟨x, tx⟩ u h tk ⟨hI, hF⟩ fr1 ne1
      dsimp only at hI fr1 ne1 ⊢
      replace fr1 : Fr g2 L2 h _ := fr1
      replace ne1 : News g2 L2 h _ := ne1
      k_sweep
      k_steps
      have hmin : min ms.length as.length = ms.length := by omega
      rename Fr g' _ _ _ => fr8
      rename News g' _ _ _ => ne8
      exact m_ret hret fr8 ne8 (by assumption) (by assumption) hr N (by k_extra "m_pre") ⟨_, _, rfl, rfl, .inl ⟨FirstC.all (hmin ▸ hF), _, _, _, hI.lo, hI.hi, hI.out hl, rfl⟩⟩
end
section
local macro_rules | `(tactic| walk_at "eval ListComp") => `(tactic| (k_here; k_dflt (refine LCg.ListComp_U (F₀ := by k_asm) (by with_unfolding_all rfl) (by decide) (by rfl) (by decide) (by rfl) ?_)))
local macro_rules | `(tactic| walk_at "eval ListComp") => `(tactic| (k_here; lct_look; k_dflt (refine LCt.ListComp_T (F₀ := by k_asm) (by with_unfolding_all rfl) (by decide) (by rfl) (by decide) (by rfl) ?_)))
local macro_rules | `(tactic| walk_at "exec Assign cons ListComp") => `(tactic| ((with_reducible show wpAny _ _ (exec (Stmt.Assign [Expr.Name (Str.ofString "wrong") _] _ _) _) _ _ _); refine hold ?_))
local macro_rules | `(tactic| walk_at "CompSrcT") => `(tactic| (refine hold ?_))
local macro_rules | `(tactic| walk_at "CompSrc") => `(tactic| (refine hold ?_))
local macro_rules | `(tactic| walk_at "CompEnd") => `(tactic| (refine hold ?_))
local macro_rules | `(tactic| walk_at "call ref") => `(tactic| (k_here; (with_reducible show wpAny _ _ (call (Value.ref 56) _) _ _ _); k_dflt (refine' Ctr.use (c_crt (as := [2, 3]) (ms := [3, 5]) _ _ _ _ (.cons _ _ (.cons _ _ .nil)) (.cons _ _ (.cons _ _ .nil)) (by decide) (by decide) mod35 num23 allC35) ?k1 ?k2 ?k3 ?k4 ?k5 ?kk ?hp ?hR ?kd ?ku ?_; (k_extra "m_use"); k_whole); rintro v9 l9 h9 tk9 ⟨r9, tr9, e1, hr0, hr1, hr2, e2⟩ hlo9 F9 N9; subst e1; subst e2; obtain rfl := crt8 hr0 hr1 hr2; clear hlo9 hr0 hr1 hr2; (try dsimp only [List.cons_append, List.nil_append] at N9); k_sweep; (try k_fold)))
local macro_rules | `(tactic| walk_at "call ref") => `(tactic| (k_here; (with_reducible show wpAny _ _ (call (Value.ref 61) _) _ _ _); k_dflt (refine' CtrB.use (c_state _ _ _ _ ?h1 ?h2) ?k1 ?hB ?k2 ?k3 ?k4 ?k5 ?kk ?hp ?hR ?kd ?ku ?_; (case h1 => assumption); (k_extra "m_use"); (case hB => assumption); (case h2 => omega); k_whole); rintro v9 l9 h9 tk9 ⟨st9, c9, S9, e1, e2, hS9, hne9⟩ hlo9 F9 N9; subst e1; subst e2; replace hlo9 := allNeL_of hlo9; (try simp only [AllNeL, AllNe, StL, and_true, true_and, and_assoc] at hlo9); (repeat (obtain ⟨hlx9, hlo9⟩ := hlo9)); (try dsimp only [StL, List.cons_append, List.nil_append] at N9); k_sweep; (try k_fold)))
local macro_rules | `(tactic| walk_at "m_bd") => `(tactic| exact pick3_bd (by assumption) (by assumption) (by decide))
local macro_rules | `(tactic| walk_at "exec If") => `(tactic| ((with_reducible show wpAny _ _ (exec (Stmt.If (Expr.Compare (Expr.Call (Expr.Name (Str.ofString "_law_take") _) _ _ _) _ _ _) _ _ _) _) _ _ _); refine hold ?_))
local macro_rules | `(tactic| walk_at "exec For Name Name cons nil") => `(tactic| (k_here; (rename Fr _ _ _ _ => lF'); (with_unfolding_all refine' For_invVF lF' ?k1 ?k2 ?_; (case k1 => exact rfl); (case k2 => exact rfl); k_whole)))
local macro_rules | `(tactic| walk_at "subscriptTail Name Name ref int") => `(tactic| ((with_reducible show wpAny _ _ (subscriptTail (Expr.Name (Str.ofString "parts") _) _ (Value.ref _) (Value.int _ _)) _ _ _); refine hold ?_))
local macro_rules | `(tactic| walk_at "subscriptTail Name Name ref int") => `(tactic| ((with_reducible show wpAny _ _ (subscriptTail (Expr.Name (Str.ofString "moduli") _) _ (Value.ref _) (Value.int _ _)) _ _ _); refine hold ?_))
local macro_rules | `(tactic| walk_at "subscriptTail Name Name ref int") => `(tactic| ((with_reducible show wpAny _ _ (subscriptTail (Expr.Name (Str.ofString "numbers") _) _ (Value.ref _) (Value.int _ _)) _ _ _); refine hold ?_))
local macro_rules | `(tactic| walk_at "subscriptTail Name Subscript ref int") => `(tactic| ((with_reducible show wpAny _ _ (subscriptTail (Expr.Name (Str.ofString "parts") _) _ (Value.ref _) (Value.int _ _)) _ _ _); refine hold ?_))
local macro_rules | `(tactic| walk_at "subscriptTail Name Subscript ref int") => `(tactic| ((with_reducible show wpAny _ _ (subscriptTail (Expr.Name (Str.ofString "moduli") _) _ (Value.ref _) (Value.int _ _)) _ _ _); refine hold ?_))
local macro_rules | `(tactic| walk_at "call builtin:all") => `(tactic| (k_here; (with_reducible show wpAny _ _ (call (Value.builtin "all") [Value.ref _]) _ _ _); k_dflt (refine LSm.all_bools (by k_asm) (by k_asm) (by rfl) (by lsm_list) (by assumption) ?_); intro h' tk' F' N'))
theorem holds : PySem.Challenge.rw_ys0001_03.Holds := by
  k_with "m:call ref" => ((k_here; (with_reducible show wpAny _ _ (call (Value.ref 96) _) _ _ _); refine hold ?_))
  w_on
  refine holds_law hSaid fun said => ?_
  refine holds_open (q := V) (loose := [Str.ofString "NotRelativePrimeError"]) (Xt := (fun s => xlAt V [] s && recOk (RowW.records PySem.Challenge.rw_ys0001_03.row.toRowW) s)) (XP := XL V []) (Yf := Hook.obs (kHook K [2, 3, 6, 15, 22, 23, 25, 26, 28, 29, 30, 31, 32, 33, 36, 38, 39, 41, 42, 43, 45, 46, 48, 49, 50, 52, 53, 55, 56, 57, 60, 61, 62, 64, 65, 67, 68, 69, 71, 72, 74, 75, 76, 78, 79, 81, 82, 83, 85, 86, 88, 89, 90, 92, 93, 95, 96, 97, 100, 101, 102, 105, 106] hKas)) (Ya := Hook.val (kHook K [2, 3, 6, 15, 22, 23, 25, 26, 28, 29, 30, 31, 32, 33, 36, 38, 39, 41, 42, 43, 45, 46, 48, 49, 50, 52, 53, 55, 56, 57, 60, 61, 62, 64, 65, 67, 68, 69, 71, 72, 74, 75, 76, 78, 79, 81, 82, 83, 85, 86, 88, 89, 90, 92, 93, 95, 96, 97, 100, 101, 102, 105, 106] hKas)) (YP := Hook.says (kHook K [2, 3, 6, 15, 22, 23, 25, 26, 28, 29, 30, 31, 32, 33, 36, 38, 39, 41, 42, 43, 45, 46, 48, 49, 50, 52, 53, 55, 56, 57, 60, 61, 62, 64, 65, 67, 68, 69, 71, 72, 74, 75, 76, 78, 79, 81, 82, 83, 85, 86, 88, 89, 90, 92, 93, 95, 96, 97, 100, 101, 102, 105, 106] hKas)) (N := 1298) ?hl (Hook.of (kHook K [2, 3, 6, 15, 22, 23, 25, 26, 28, 29, 30, 31, 32, 33, 36, 38, 39, 41, 42, 43, 45, 46, 48, 49, 50, 52, 53, 55, 56, 57, 60, 61, 62, 64, 65, 67, 68, 69, 71, 72, 74, 75, 76, 78, 79, 81, 82, 83, 85, 86, 88, 89, 90, 92, 93, 95, 96, 97, 100, 101, 102, 105, 106] hKas)) (Hook.keeps (kHook K [2, 3, 6, 15, 22, 23, 25, 26, 28, 29, 30, 31, 32, 33, 36, 38, 39, 41, 42, 43, 45, 46, 48, 49, 50, 52, 53, 55, 56, 57, 60, 61, 62, 64, 65, 67, 68, 69, 71, 72, 74, 75, 76, 78, 79, 81, 82, 83, 85, 86, 88, 89, 90, 92, 93, 95, 96, 97, 100, 101, 102, 105, 106] hKas)) (fun s e => xl_of s (Bool.and_eq_true_iff.mp e).1) XL.keeps (by rfl) (by rfl) (by rfl) (fun s e => recFacts_of (Bool.and_eq_true_iff.mp e).2) (by rfl) (by first | assumption | decide +kernel) (by decide +kernel) ⟨rfl, rfl, rfl, rfl, rfl, by decide +kernel⟩ ?hw ?hc
  case hl => exact hLeft
  case hw => w_witness2
  k_go0
  (all_goals try k_fold)
  clear said
  k_steps
  unfold Hold
  rename Fr _ _ _ _ => fr1
  rename News _ _ _ _ => ne1
  rename StOk _ => hS1
  have hsz : vs9.toArray.size ≤ sizeLine := by rw [sizeLine_eq, List.size_toArray, hI9.length]; omega
  with_unfolding_all refine LCg.CompSrc.ledger (its := vs9.toArray) rfl fr1 ne1 (by k_mem) hsz (fun g9 => comp_ind (σ := StT) (fun s => (a9, listOf vs9.toArray nn9) :: (sndN hne8, listOf #[.int s.i s.t, .ref (sndN hne9)] s.n) :: (sndN hne9, listOf s.vs.toArray s.n2) :: _) (fun i ys s => ∃ xs, IntsAre ys xs ∧ xs.length = i ∧ (∀ x ∈ xs, Bd 310 x) ∧ StOk s) S9 rfl ⟨[], .nil, rfl, List.forall_mem_nil _, hS1⟩ ?_ ?_)
  · intro i ys s R' hi hj hR v I oI C oC D m₂ h9 tk9 E' hP hC hx fr5 ne5 off neI
    clear fr1 ne1
    obtain ⟨xs, hx1, hx2, hx3, hS3⟩ := hj
    obtain ⟨n8, t8, rfl, hn8⟩ := intsAre_at hI9 (i := i) (v := v) (by simpa using hP)
    dsimp only [sndN] at fr5 ne5 off
    (try simp only [LCg.Off3, and_true] at off)
    k_sweep
    (try k_fold)
    k_steps
    unfold Hold
    rename Fr _ _ _ _ => fr6
    rename News _ _ _ _ => ne6
    rename StOk _ => hS6
    rename _ < (3 : Int) => h3b
    rename (0 : Int) ≤ _ => h3a
    have hpm := fun x hx => pick3_mul (x := x) h3a h3b hx
    with_unfolding_all refine' LCg.CompEnd.intro fr6 ne6 _ ?hsub ?hoff ?hsrc ⟨_, rfl, hR _ _ ⟨_, intsAre_append hx1 (.cons _ _ .nil), by simp [hx2], all_app hx3 (hpm _ (by assumption)), hS6⟩⟩
    case hsub => k_extra "m_pre"
    case hoff => simpa only [LCg.Off3, and_true] using off
    case hsrc => exact .inr ⟨_, by k_mem, rfl, _, rfl⟩
  · intro ys s hb
    clear fr1 ne1
    obtain ⟨xs, hx1, hx2, hx3, hS3⟩ := hb
    rw [List.size_toArray, hI9.length] at hx2
    have hxl : ns9.length ≤ xs.length := Nat.le_of_eq hx2.symm
    unfold LCg.FinE
    intro D h9 tk9 fr5 ne5 off
    dsimp only [sndN] at fr5 ne5 off
    (try simp only [LCg.Off1, and_true] at off)
    (repeat (obtain ⟨hof9, off⟩ := off))
    k_sweep
    (try k_fold)
    k_steps
    unfold Hold
    rename Fr _ _ _ _ => fr1
    rename News _ _ _ _ => ne1
    with_unfolding_all refine m_join (σ := (List Value × List Int × Nat) × StT) (fun s => (D, listOf s.1.1.toArray s.1.2.2) :: (a9, listOf vs9.toArray nn9) :: (sndN hne8, listOf #[.int s.2.i s.2.t, .ref (sndN hne9)] s.2.n) :: (sndN hne9, listOf s.2.vs.toArray s.2.n2) :: tlN ne1 4) (fun _ => []) [] (fun s => IntsAre s.1.1 s.1.2.1 ∧ ns9.length ≤ s.1.2.1.length ∧ (∀ x ∈ s.1.2.1, Bd 310 x) ∧ StOk s.2) fr1 ?_ ?_
    · refine wpAny_If ?_
      (try k_fold)
      k_steps
      all_goals (dsimp only [JPost]; (rename Fr _ _ _ _ => fr8); (rename News _ _ _ _ => ne8); (rename StOk _ => hS8); (try simp only [List.push_toArray] at ne8))
      · with_unfolding_all refine' m_jend ((_, _, _), _) fr8 ne8 ?hn (List.forall_mem_nil _) ?hr ⟨intsAre_append hx1 (.cons _ _ .nil), ?hl, all_app hx3 ?hb, hS8⟩
        case hn => dsimp only [sndN, tlN, List.drop]; k_extra "m_pre"
        case hr => k_extra "m_same"
        case hl => exact Nat.le_trans hxl (by rw [List.length_append]; exact Nat.le_add_right _ _)
        case hb => exact Bd.mono (by assumption) (by decide)
      · with_unfolding_all refine' m_jend ((_, _, _), _) fr8 ne8 ?hn (List.forall_mem_nil _) ?hr ⟨hx1, ?hl, hx3, hS8⟩
        case hn => dsimp only [sndN, tlN, List.drop]; k_extra "m_pre"
        case hr => k_extra "m_same"
        case hl => exact hxl
    · rintro ⟨⟨va, as, n1⟩, S2⟩ u h tk ⟨hIa, hla, hba, hS2⟩ fr6 ne6
      dsimp only [sndN, tlN, List.drop] at hIa hla hba hS2 fr6 ne6 ⊢
      clear fr1 ne1
      (try k_fold)
      k_steps
      unfold Hold
      rename Fr _ _ _ _ => fr1
      rename News _ _ _ _ => ne1
      rename Obj.data _ = Data.cell (some (Value.int 1 _)) => hd0
      with_unfolding_all refine m_listK (σ := Int × Tok × Obj) (fun s => (adN ne1 8, s.2.2) :: hdN ne1 8 ++ tlN ne1 9) (fun _ => []) [Str.ofString "modulus"] (fun i s => s.1 = prodI (ns9.take i) ∧ s.2.2.data = .cell (some (.int s.1 s.2.1))) (_, _, _) rfl (fun _ => by k_mem) hI9 fr1 ne1 (by k_extra "m_pre") (List.forall_mem_nil _) ⟨rfl, hd0⟩ ?_ ?_
      · rintro ⟨p, tp, o⟩ i n t u h tk own hn hoff ⟨hp, hd⟩ fr7 ne7
        dsimp only [adN, adL, hdN, tlN, List.drop, List.take, List.cons_append, List.nil_append] at hp hd hoff fr7 ne7 ⊢
        clear fr1 ne1
        obtain ⟨hn1, hn2⟩ := hb9 n (List.mem_of_getElem? hn)
        have hpB : Bd 50 p := by
          have hb := prodI_bdT hb9 hl9 i
          rw [← hp] at hb
          exact Bd.of_nn (Int.le_of_lt hb.1) (by omega)
        k_sweep
        (try k_fold)
        k_steps
        rename Fr _ _ _ _ => fr8
        rename News _ _ _ _ => ne8
        rename Obj.data _ = Data.cell (some (Value.int (_ * _) _)) => hd8
        with_unfolding_all refine' m_endT (_, _, _) fr8 ne8 ?hn ?ho ?ha (List.forall_mem_nil _) ?hr ⟨?hq, hd8⟩
        case hn => k_extra "m_pre"
        case ho => intro p hp; kst_mem
        case ha => rfl
        case hr => k_extra "m_same"
        case hq => rw [prodI_take hn, hp]
      · rintro ⟨p, tp, o⟩ u h tk ⟨hp, hd⟩ fr7 ne7
        dsimp only [adN, adL, hdN, tlN, List.drop, List.take, List.cons_append, List.nil_append] at hp hd fr7 ne7 ⊢
        clear fr1 ne1
        rw [List.take_length] at hp
        subst hp
        k_sweep
        (try k_fold)
        k_steps
        unfold Hold
        rename Fr _ _ _ _ => fr1
        rename News _ _ _ _ => ne1
        obtain ⟨hpr0, hpr1⟩ := prodI_bd hb9 hl9
        have hprB : Bd 50 (prodI ns9) := Bd.of_nn (Int.le_of_lt hpr0) (by omega)
        have hlgp : (prodI ns9).natAbs.log2 < 9000 := Bd.lg hprB (by decide)
        with_unfolding_all refine LCg.CompSrc.ledger (its := vs9.toArray) rfl fr1 ne1 (by k_mem) hsz (fun g9 => comp_ind (σ := Unit) (fun _ => _) (fun i ys _ => IntsAre ys (partsI ns9 i)) () rfl .nil ?_ ?_)
        · intro i ys _u R' hi hj hR v I oI C oC D2 m₂ h9 tk9 E' hP hC hx fr8 ne8 off neI
          obtain ⟨n, t8, rfl, hn8⟩ := intsAre_at hI9 (i := i) (v := v) (by simpa using hP)
          have hnm := List.mem_of_getElem? hn8
          obtain ⟨hn1, hn2⟩ := hb9 n hnm
          have hn0 : n ≠ 0 := by omega
          have hn00 : 0 ≤ n := by omega
          have hlgn : n.natAbs.log2 < 9000 := log2_small (by omega)
          obtain ⟨hc0, hc1⟩ := coI_bd hb9 hl9 hnm
          have hcB : Bd 50 (coI ns9 n) := Bd.of_nn (Int.le_of_lt hc0) (by omega)
          have hcn : 0 ≤ coI ns9 n := Int.le_of_lt hc0
          unfold coI at hcB hcn
          (try dsimp only at fr8 ne8 off)
          (try simp only [LCg.Off3, and_true] at off)
          clear fr1 ne1
          k_sweep
          (try k_fold)
          k_steps
          unfold Hold
          rename Fr _ _ _ _ => fr6
          rename News _ _ _ _ => ne6
          with_unfolding_all refine' LCg.CompEnd.intro fr6 ne6 _ ?hsub ?hoff ?hsrc ⟨(), rfl, hR _ _ ?hj⟩
          case hsub => exact fun p hp => hp
          case hoff => simpa only [LCg.Off3, and_true] using off
          case hsrc => exact .inr ⟨_, by k_mem, rfl, _, rfl⟩
          case hj => rw [partsI_succ hn8]; exact intsAre_append hj (.cons _ _ .nil)
        · intro ys _u hb
          clear fr1 ne1
          rw [List.size_toArray, hI9.length] at hb
          unfold LCg.FinE
          intro D2 h9 tk9 fr8 ne8 off
          (try dsimp only at fr8 ne8 off)
          (try simp only [LCg.Off1, and_true] at off)
          (repeat (obtain ⟨hof9, off⟩ := off))
          k_sweep
          (try k_fold)
          k_steps
          unfold Hold
          k_dflt (refine' CtrOX.use (c_told _ _ _ _ hIa hI9 hla hl9 hb9 hba) ?k1 ?k2 ?k3 ?k4 ?k5 ?kk ?hp ?hR ?kd ?ku ?_; (k_extra "m_use"); k_whole)
          rintro v9 l9 h9 tk9 ⟨tp9, o9, e1, e2, hcase⟩ hlo9 F9 N9
          subst e1
          subst e2
          replace hlo9 := allNeL_of hlo9
          (try simp only [AllNeL, AllNe, StL, and_true, true_and, and_assoc] at hlo9)
          (repeat (obtain ⟨hlx9, hlo9⟩ := hlo9))
          (try dsimp only [List.cons_append, List.nil_append] at N9)
          k_sweep
          (try k_fold)
          k_steps
          unfold Hold
          rename Fr _ _ _ _ => fr1
          rename News _ _ _ _ => ne1
          rename Obj.data _ = Data.cell (some (Value.ref tp9)) => hdt
          (repeat (rename @Ne Nat _ _ => q9; clear q9))
          (repeat (rename (@Ne Nat _ _) ∧ _ => q9; clear q9))
          (repeat (rename ((@Ne Nat _ _) ∧ _) ∧ _ => q9; clear q9))
          (repeat (rename (@LT.lt Nat _ _ _) ∧ _ => q9; clear q9))
          clear fr8 ne8
          simp only [show ∀ zs : List Value, LCg.lst zs = listOf (List.toArray zs) zs.length from fun _ => rfl] at ne1
          have hyl : ys.length = ns9.length := by rw [hb.length, partsI_len]
          have hpl : (partsI ns9 ns9.length).length ≤ 5 := by rw [partsI_len]; exact hl9
          k_dflt (refine LCt.Assign_ListComp_T (F₀ := by k_asm) (by rfl) (by with_unfolding_all rfl) (by with_unfolding_all rfl) (by decide) (by rfl) (by decide) (by rfl) (by rfl) (by rfl) ?_)
          k_steps
          unfold Hold
          rename Fr _ _ _ _ => fr3
          rename News _ _ _ _ => ne3
          rename IsRange _ _ 0 _ 1 _ _ _ => hr3
          have e3 : vs9.toArray.size = ns9.length := by rw [List.size_toArray, hI9.length]
          with_unfolding_all refine LCt.CompSrcT.range (n := ns9.length) rfl fr3 ne3 hr3 (small_one (by omega) (by omega) (by omega) (by omega)) (by rw [rangeSize_nat, partsI_len]; omega) (by rw [e3] at hsz; exact hsz) (fun g9 => compT_ind (fun i ws => ∃ zs, IntsAre ws zs ∧ WInv (partsI ns9 ns9.length) zs i ∧ zs.length ≤ i) ⟨[], .nil, WInv.zero, Nat.le_refl _⟩ ?_ ?_)
          · intro i ws R' hi9 hj hR v I oI C oC D3 m₂ h9 tk9 E' hP hC hx fr4 ne4 off neI
            obtain ⟨t9, rfl⟩ := hP
            obtain ⟨zs, hz1, hz2, hz3⟩ := hj
            k_sweep
            (try k_fold)
            k_steps
            unfold Hold
            have hil : i < (partsI ns9 ns9.length).length := by rw [partsI_len]; exact hi9
            have hig : (partsI ns9 ns9.length).getD i 0 = (partsI ns9 ns9.length)[i] := by rw [List.getD_eq_getElem?_getD, List.getElem?_eq_getElem hil]; rfl
            refine item_ints i ne4 (by k_mem) hb (by omega) (List.getElem?_eq_getElem hil) (by omega) rfl ?_
            intro tz9
            k_steps
            · with_unfolding_all exact LCg.CompEnd.intro fr4 ne4 _ (fun p hp => hp) off trivial ⟨rfl, hR _ ⟨_, intsAre_append hz1 (.cons _ _ .nil), by rw [show (0 : Int) + (i : Int) = (i : Int) by omega]; exact ⟨hz2.yes (by rw [hig]; assumption), by rw [List.length_append]; exact Nat.succ_le_succ hz3⟩⟩⟩
            · with_unfolding_all exact LCg.CompEnd.intro fr4 ne4 _ (fun p hp => hp) off trivial ⟨rfl, hR _ ⟨_, hz1, hz2.no (by rw [hig]; assumption), Nat.le_succ_of_le hz3⟩⟩
          · intro ws hj
            obtain ⟨zs, hz1, hz2, hz3⟩ := hj
            unfold LCg.FinA
            intro D3 h9 tk9 fr4 ne4 off
            (try simp only [LCg.Off1, and_true] at off)
            (repeat (obtain ⟨hof9, off⟩ := off))
            (try clear fr3 ne3); (try clear fr1 ne1)
            k_sweep
            (try k_fold)
            simp only [show ∀ zs : List Value, LCg.lst zs = listOf (List.toArray zs) zs.length from fun _ => rfl] at ne4
            rcases hz2 with ⟨rfl, hall⟩ | ⟨k, r, rfl, hk, hk1, hk2⟩
            · have hA := parts_allC hall
              obtain ⟨-, rr, tk3, t3, hr0, hr1, hr2, rfl⟩ | ⟨i, n, hn, hF, hg, -⟩ := hcase
              rotate_left
              · exact absurd (hA i n hn) hg
              cases hz1
              k_steps
              unfold Hold
              rename Fr _ _ _ _ => fr5
              rename News _ _ _ _ => ne5
              rename IsRange _ _ 0 _ 1 _ _ _ => hr5
              with_unfolding_all refine LCg.CompSrc.range (n := ns9.length) rfl fr5 ne5 hr5 (small_one (by omega) (by omega) (by omega) (by omega)) (by rw [rangeSize_nat]; omega) (by rw [e3] at hsz; exact hsz) (fun g9 => comp_ind (σ := Unit) (fun _ => _) (fun i ws _ => LSm.BoolsAre ws (List.replicate i true)) () rfl .nil ?_ ?_)
              · intro i ws _u R' hi9 hj hR v I oI C oC D4 m₂ h9 tk9 E' hP hC hx fr6 ne6 off neI
                obtain ⟨t9, rfl⟩ := hP
                obtain ⟨ni, hni⟩ : ∃ n, ns9[i]? = some n := ⟨_, List.getElem?_eq_getElem hi9⟩
                obtain ⟨ai, hai⟩ : ∃ a, as[i]? = some a := ⟨_, List.getElem?_eq_getElem (Nat.lt_of_lt_of_le hi9 hla)⟩
                have hdv := hr2 i ai ni hai hni
                obtain ⟨hn1, hn2⟩ := hb9 ni (List.mem_of_getElem? hni)
                have hn0 : ni ≠ 0 := by omega
                have hlgn : ni.natAbs.log2 < 9000 := log2_small (by omega)
                have hfm : (rr - ai).fmod ni = 0 := Int.fmod_eq_zero_of_dvd hdv
                (try clear fr5 ne5)
                k_sweep
                (try k_fold)
                k_steps
                unfold Hold
                refine item_ints i ne6 (by k_mem) hIa (by omega) hai (by omega) rfl ?_
                intro tz9
                k_steps
                unfold Hold
                rename Fr _ _ _ _ => fr7
                rename News _ _ _ _ => ne7
                refine item_ints i ne7 (by k_mem) hI9 (by omega) hni (by omega) rfl ?_
                intro tz8
                k_steps
                unfold Hold
                with_unfolding_all refine LCg.CompEnd.intro fr7 ne7 _ (fun p hp => hp) off trivial ⟨(), rfl, hR _ _ ?_⟩
                rw [List.replicate_succ', hfm]
                exact kbo_app hj (.cons _ .nil)
              · intro ws _u hb3
                unfold LCg.FinE
                intro D4 h9 tk9 fr6 ne6 off
                (try simp only [LCg.Off1, and_true] at off)
                (repeat (obtain ⟨hof9, off⟩ := off))
                k_sweep
                (try k_fold)
                k_steps
            · obtain ⟨hA, -⟩ | ⟨i, n, hn, hF, hg, g, tk3, t1, t2, t3, e9, rfl⟩ := hcase
              · exact absurd (by have hm := List.getElem?_eq_getElem hk; rw [parts_getD hm, hA k _ hm]; rfl) hk1
              obtain rfl := parts_first hk hk1 hk2 hF hn hg
              k_steps
              refine len_at (r.length + 1) ne4 (by k_mem) hz1.length (by rw [List.length_cons] at hz3; omega) ?_
              k_steps
              unfold Hold
              rename Fr _ _ _ _ => fr5
              rename News _ _ _ _ => ne5
              obtain ⟨hn1, hn2⟩ := hb9 n (List.mem_of_getElem? hn)
              have hn0 : n ≠ 0 := by omega
              have hlgn : n.natAbs.log2 < 9000 := log2_small (by omega)
              refine item_ints k ne5 (by k_mem) hI9 (by first | rfl | simp) hn (by omega) rfl ?_
              intro tz9
              k_steps
              unfold Hold
              rename Fr _ _ _ _ => fr6
              rename News _ _ _ _ => ne6
              refine item_ints k ne6 (by k_mem) hb (by first | rfl | simp) (partsI_get hn) (by omega) rfl ?_
              intro tz8
              k_steps
end
end Mine
theorem PySem.Challenge.cw_ys0001_03_holds : PySem.Challenge.rw_ys0001_03.Holds :=
  Mine.holds
