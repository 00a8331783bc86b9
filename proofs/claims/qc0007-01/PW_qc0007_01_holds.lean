import PyProof.Rows.All
import Wide.All
import OpenK.AllK
import Wide.FinOn
import PySem.Challenge.RW_qc0007_01
open PySem PySem.W PyProof.Rows
set_option Elab.async false
set_option linter.unusedVariables false
set_option maxRecDepth 100000
set_option maxHeartbeats 8000000
section Q0
open PySem PySem.W PyProof.Rows
namespace Mine
open_top hd for PySem.Challenge.rw_qc0007_01
end Mine

end Q0
theorem Mine.start_QI : True := by
  w_top off
  trivial
section QI
open PySem PySem.W PySem.Calls PyProof.Rows
namespace Mine

abbrev topA (dp un : Nat) (gd : Option (List Code)) (outer : List Env) : Around :=
  { handled := none, depth := dp, frames := some outer, guards := gd, units := un }

theorem enter {prog : Program} {w : World} {A : Around} {s : Shared} {g : Heap} {news : List (Addr × Obj)} {K : Frag}
    {p : Program} {loose : List Str} {mean : ExcName → Option Value} {mg mb : Str → Option Value}
    {R : Result → Shared → Prop} {name qual : Str} {params : Arguments} {body : List Stmt} {scope : Scope} {dV kV doc pm cdv ct oc : Value} {an od : Option Addr} {osl : Array (Option Value)} {f : Addr} {args : Args} {binds : List (Str × Value)}
    (hg : ∀ b o, g.get? b = some o → s.heap.get? b = some o) (hsz : g.objs.size ≤ s.heap.objs.size)
    (hn : ∀ q ∈ news, s.heap.get? q.1 = some q.2 ∧ g.get? q.1 = none)
    (X : K.In g) (T : Top p loose mean mg mb g)
    (ho : K.lookup f = some ⟨oc, od, .func (fnOf name qual params body scope dV kV doc pm an cdv ct), osl⟩) (hcd : codeIn K cdv qual = true) (hroom : A.depth < recursionLimit)
    (hbind : BindsTo s (fnOf name qual params body scope dV kV doc pm an cdv ct) args binds) (hloc : ∀ y ∈ binds, scope.names.lookup y.1 = some .local)
    (h : ∀ L' h₁, Fr g L' h₁ (fun y => binds.reverse.lookup y) → News g L' h₁ news → (∀ q ∈ news, q.1 < L') →
      wpAny (model prog w) (A.deeper (envOf qual scope L' f cdv)) (execs body (envOf qual scope L' f cdv))
        (fun fl s' => R (.ok (.ret (match fl with | .ret v => v | _ => .none))) s')
        (fun e s' => wpAny (model prog w) (A.deeper (envOf qual scope L' f cdv)) (leaving (envOf qual scope L' f cdv) e) (fun _ s'' => R (.error e) s'') (fun e' s'' => R (.error e') s'') s')
        { s with heap := h₁, toks := s.toks + binds.length })
    (hco : scope.isCoroutine = false) (hgen : scope.isGenerator = false) (hk : scope.kind = .function)
    (hcell : ∀ x ∈ scope.names, x.2 ≠ .cell) : codeAny (model prog w) A (.call (.ref f) args) R s := by
  have Xs := X.keeps hg
  refine codeAny_call_def (fd := fnOf name qual params body scope dV kV doc pm an cdv ct) (body := body) (binds := binds) hroom (Xs _ _ ho) rfl (T.nolimit.keeps hg) (codeRec_of Xs hcd) rfl hbind hcell hloc (fun h₁ hns hk₁ => ?_) hco hgen hk
  exact h s.heap.objs.size h₁ ⟨hns, fun b o e => hk₁ b o (hg b o e), hsz⟩
    (fun q hq => ⟨hk₁ _ _ (hn q hq).1, Nat.ne_of_lt (Heap.lt_size (hn q hq).1), (hn q hq).2⟩)
    (fun q hq => Heap.lt_size (hn q hq).1)

end Mine
namespace Mine
open PySem PySem.W PySem.Calls PyProof.Rows

/-- a turn's end, for loops of both kinds -/
def TEnd {σ : Type} (h₀ : Heap) (L : Addr) (s : Shared) (Led : σ → List (Addr × Obj)) (ps : σ → List (Str × Value)) (stored : List Str) (m₀ : Str → Option Value) (own : List (Addr × Obj)) (P : σ → Prop) (s₂ : Shared) : Prop :=
  ∃ (c' : σ) (h' : Heap) (tk : Nat) (m' : Str → Option Value) (news' : List (Addr × Obj)), s₂ = { s with heap := h', toks := tk } ∧ Fr h₀ L h' m' ∧ News h₀ L h' news' ∧ (∀ p ∈ Led c', p ∈ news') ∧ (∀ p ∈ own, p ∈ news') ∧ (∀ p ∈ ps c', m' p.1 = some p.2) ∧ (∀ z, (∀ p ∈ ps c', z ≠ p.1) → stored.contains z = false → m' z = m₀ z) ∧ P c'
def TPost {σ : Type} (h₀ : Heap) (L : Addr) (s : Shared) (Led : σ → List (Addr × Obj)) (ps : σ → List (Str × Value)) (stored : List Str) (m₀ : Str → Option Value) (own : List (Addr × Obj)) (P : σ → Prop) (Q : Flow → Shared → Prop) (f : Flow) (s₂ : Shared) : Prop :=
  match f with
  | .ret v => Q (.ret v) s₂
  | .brk => Q .next s₂
  | _ => TEnd h₀ L s Led ps stored m₀ own P s₂
theorem tend {σ : Type} {h₀ : Heap} {L : Addr} {s : Shared} {Led : σ → List (Addr × Obj)} {ps : σ → List (Str × Value)} {stored : List Str} {m₀ m' : Str → Option Value} {own : List (Addr × Obj)} {P : σ → Prop} {h' : Heap} {tk : Nat} {news' : List (Addr × Obj)} (c' : σ)
    (F : Fr h₀ L h' m') (N : News h₀ L h' news') (hn : ∀ p ∈ Led c', p ∈ news') (ho : ∀ p ∈ own, p ∈ news') (hk : ∀ p ∈ ps c', m' p.1 = some p.2) (hr : ∀ z, (∀ p ∈ ps c', z ≠ p.1) → stored.contains z = false → m' z = m₀ z) (hp : P c') :
    TEnd h₀ L s Led ps stored m₀ own P { s with heap := h', toks := tk } := ⟨c', h', tk, m', news', rfl, F, N, hn, ho, hk, hr, hp⟩

section
variable {prog : Program} {w : World} {A : Around} {E : Value → Shared → Prop} {Q : Flow → Shared → Prop} {s : Shared} {env : Env} {h₀ : Heap} {L : Addr}
theorem loopW {σ : Type} {test : Expr} {body : List Stmt} {pos : Pos} {m₀ : Str → Option Value} (Led : σ → List (Addr × Obj)) (ps : σ → List (Str × Value)) (stored : List Str) (P : Nat → σ → Prop) (n₀ : Nat) (c₀ : σ)
    (F : Fr h₀ L s.heap m₀) (N : News h₀ L s.heap (Led c₀)) (hk : ∀ p ∈ ps c₀, m₀ p.1 = some p.2) (hp : P n₀ c₀)
    (turn : ∀ (n : Nat) (c : σ) (u : Str → Option Value) h tk, P n c → Fr h₀ L h (kstB (fun z => if stored.contains z then u z else m₀ z) (ps c)) → News h₀ L h (Led c) →
      wpAny (model prog w) A (isTrue test env (eval test env)) (fun b s₂ =>
        if b = true then wpAny (model prog w) A (execs body env) (TPost h₀ L s Led ps stored m₀ [] (fun c' => ∃ n', n' < n ∧ P n' c') Q) E s₂ else Q .next s₂) E { s with heap := h, toks := tk })
    (hE : PassesOwn (model prog w) A env E := by passes_own) :
    wpAny (model prog w) A (exec (.While test body [] pos) env) Q E s := by
  refine While_inv2 (fun n m nx => ∃ c : σ, nx = Led c ∧ (∀ p ∈ ps c, m p.1 = some p.2) ∧ (∀ z, (∀ p ∈ ps c, z ≠ p.1) → stored.contains z = false → m z = m₀ z) ∧ P n c) F N ⟨c₀, rfl, hk, fun _ _ _ => rfl, hp⟩ ?_ hE
  rintro n m₁ nx h tk F₁ N₁ ⟨c, hnx, h1, h2, hp'⟩
  rw [hnx] at N₁
  refine wpAny_mono (turn n c m₁ h tk hp' (ksw_fr h1 h2 F₁) N₁) (fun b s₂ p => ?_) fun _ _ x => x
  cases b with
  | false => simpa using p
  | true =>
    simp only [if_true] at p ⊢
    refine wpAny_mono p (fun f s₃ q => ?_) fun _ _ x => x
    cases f with
    | ret v => exact q
    | brk => exact q
    | next =>
      obtain ⟨c', h', tk', m', news', rfl, F', N', hn, _, hk9, hr9, n', hlt, hp9⟩ := q
      exact ⟨h', tk', m', Led c', n', rfl, F', fun p hp => N' p (hn p hp), hlt, c', rfl, hk9, hr9, hp9⟩
    | cont =>
      obtain ⟨c', h', tk', m', news', rfl, F', N', hn, _, hk9, hr9, n', hlt, hp9⟩ := q
      exact ⟨h', tk', m', Led c', n', rfl, F', fun p hp => N' p (hn p hp), hlt, c', rfl, hk9, hr9, hp9⟩
end
end Mine
namespace Mine
open PySem PySem.W PySem.Calls PyProof.Rows

def isIter : Value → Bool
  | .type n => n == "list_iterator" || n == "range_iterator" || n == "str_ascii_iterator" || n == "str_iterator" || n == "dict_itemiterator"
  | _ => false
def AllCls (adr : List Addr) : List (Addr × Obj) → Prop
  | [] => True
  | p :: r => (isIter p.2.cls = false ∨ p.1 ∈ adr) ∧ AllCls adr r
theorem AllCls.get {adr : List Addr} {l : List (Addr × Obj)} (h : AllCls adr l) : ∀ p ∈ l, isIter p.2.cls = false ∨ p.1 ∈ adr := by
  induction l with
  | nil => intro p hp; cases hp
  | cons q r ih =>
    intro p hp
    rcases List.mem_cons.mp hp with e | hp
    · rw [e]; exact h.1
    · exact ih h.2 p hp
def AllNe (d : Nat) : List (Addr × Obj) → Prop
  | [] => True
  | p :: r => @Ne Nat p.1 d ∧ AllNe d r
theorem allNe_of {d : Addr} {l : List (Addr × Obj)} (h : ∀ p ∈ l, p.1 ≠ d) : AllNe d l := by
  induction l with
  | nil => trivial
  | cons q r ih => exact ⟨h q (.head _), ih fun p hp => h p (.tail _ hp)⟩

section
variable {prog : Program} {w : World} {A : Around} {E : Value → Shared → Prop} {Q : Flow → Shared → Prop} {s s₂ : Shared} {env : Env} {h₀ : Heap} {x : Str} {body : List Stmt}
theorem forW {σ : Type} {I : Addr} {fp : List Addr} {n : Nat} {Pv : Nat → Value → Prop} {St : Nat → Heap → Prop} {m₀ : Str → Option Value} (Led : σ → List (Addr × Obj)) (ps : σ → List (Str × Value)) (stored : List Str) (P : Nat → σ → Prop) (c₀ : σ)
    (W : Walks prog w A I fp [I] n Pv St) (hLf : env.locals ∉ fp) (hIn : h₀.get? I = none)
    (hfp : ∀ b ∈ fp, b ≠ I → (∃ o, h₀.get? b = some o) ∨ (∃ o, ∀ c, (b, o) ∈ Led c))
    (hI : ∀ i h, St i h → ∃ o, h.get? I = some o ∧ isIter o.cls = true) (hap : ∀ p ∈ Led c₀, p.1 ≠ I) (hC : ∀ i c, P i c → ∀ p ∈ Led c, isIter p.2.cls = false ∨ p.1 ∈ (Led c₀).map (·.1) ∨ I < p.1)
    (hst : St 0 s₂.heap) (F : Fr h₀ env.locals s₂.heap m₀) (N : News h₀ env.locals s₂.heap (Led c₀)) (hk : ∀ p ∈ ps c₀, m₀ p.1 = some p.2) (hp0 : P 0 c₀)
    (turn : ∀ (i : Nat) (v : Value) (c : σ) (u : Str → Option Value) h tk oI, i < n → Pv i v → P i c → isIter oI.cls = true → AllNe I (Led c) →
      Fr h₀ env.locals h (fun y => if y = x then some v else kstB (fun z => if (x :: stored).contains z then u z else m₀ z) (ps c) y) → News h₀ env.locals h ((I, oI) :: Led c) →
      wpAny (model prog w) A (execs body env) (TPost h₀ env.locals { s₂ with heap := h, toks := tk } Led ps (x :: stored) m₀ [(I, oI)] (P (i + 1)) Q) E { s₂ with heap := h, toks := tk })
    (done : ∀ (c : σ) (u : Str → Option Value) h tk, P n c → Fr h₀ env.locals h (kstB (fun z => if (x :: stored).contains z then u z else m₀ z) (ps c)) → News h₀ env.locals h (Led c) → Q .next { s₂ with heap := h, toks := tk }) :
    LoopAtV prog w A h₀ env x body Q E (.ref I) s₂ := by
  have apart : ∀ {h : Heap} {i : Nat} {nw : List (Addr × Obj)} {c : σ}, St i h → News h₀ env.locals h nw → (∀ p ∈ Led c, p ∈ nw) → (∀ p ∈ Led c, isIter p.2.cls = false ∨ p.1 ∈ (Led c₀).map (·.1) ∨ I < p.1) → ∀ p ∈ Led c, p.1 ≠ I := by
    intro h i nw c hs hN hsub hcl p hp e
    obtain ⟨o, ho, hoc⟩ := hI i h hs
    have h1 := (hN p (hsub p hp)).1
    rw [e, ho] at h1
    rcases hcl p hp with h2 | h2 | h2
    · rw [← Option.some.inj h1, hoc] at h2
      cases h2
    · obtain ⟨q, hq, e2⟩ := List.mem_map.mp h2
      exact hap q hq (e2.trans e)
    · exact absurd e (Nat.ne_of_gt h2)
  refine ⟨I, fp, [I], n, Pv, St, m₀, Led c₀, fun i m nx => ∃ c : σ, nx = Led c ∧ (∀ p ∈ ps c, m p.1 = some p.2) ∧ (∀ z, (∀ p ∈ ps c, z ≠ p.1) → (x :: stored).contains z = false → m z = m₀ z) ∧ P i c, rfl, W, hLf, ?_, ?_, hst, F, N, ⟨c₀, rfl, hk, fun _ _ _ => rfl, hp0⟩, ?_, ?_⟩
  · intro b hb; rw [List.mem_singleton.mp hb]; exact hIn
  · intro p hp hb; exact apart hst N (fun _ h => h) (hC _ _ hp0) p hp (List.mem_singleton.mp hb)
  · rintro i v m₁ news₁ s₁ own ⟨h, tk, rfl⟩ hlt hPv ⟨c, rfl, h1, h2, hp'⟩ hoff hown hgot hcov hst₁ F₁ N₁
    have hIfp : I ∈ fp := W.sub I (by simp)
    obtain ⟨oI, hoI, hoc⟩ := hI (i + 1) h hst₁
    have hIown : (I, oI) ∈ own := hcov I hIfp hIn oI hoI
    have Nt : News h₀ env.locals h ((I, oI) :: Led c) := fun p hp => by
      rcases List.mem_cons.mp hp with rfl | hp
      · exact N₁ _ (List.mem_append_left _ hIown)
      · exact N₁ _ (List.mem_append_right _ hp)
    have Ft : Fr h₀ env.locals h (fun y => if y = x then some v else kstB (fun z => if (x :: stored).contains z then m₁ z else m₀ z) (ps c) y) := by
      have em : (fun y => if y = x then some v else kstB (fun z => if (x :: stored).contains z then m₁ z else m₀ z) (ps c) y) = fun y => if y = x then some v else m₁ y := by
        funext y
        by_cases hy : y = x
        · simp [hy]
        · simp only [if_neg hy]
          refine kstB_eq h1 fun hn => ?_
          cases h3 : (x :: stored).contains y with
          | true => simp
          | false => simp only [Bool.false_eq_true, if_false]; exact (h2 y hn h3).symm
      rw [em]; exact F₁
    have hne := apart hst₁ Nt (fun p hp => List.mem_cons_of_mem _ hp) (hC _ _ hp')
    refine wpAny_mono (turn i v c m₁ h tk oI hlt hPv hp' hoc (allNe_of hne) Ft Nt) (fun f s₃ q => ?_) fun _ _ e => e
    have fin : TEnd h₀ env.locals { s₂ with heap := h, toks := tk } Led ps (x :: stored) m₀ [(I, oI)] (P (i + 1)) s₃ → LoopStepU h₀ env.locals [I] own (fun m nx => ∃ c : σ, nx = Led c ∧ (∀ p ∈ ps c, m p.1 = some p.2) ∧ (∀ z, (∀ p ∈ ps c, z ≠ p.1) → (x :: stored).contains z = false → m z = m₀ z) ∧ P (i + 1) c) { s₂ with heap := h, toks := tk } .next s₃ := by
      rintro ⟨c', h', tk', m', news', rfl, F', N', hn, ho, hk9, hr9, hp9⟩
      have hIin := N' _ (ho _ (.head _))
      refine ⟨rfl, h', tk', m', Led c', rfl, F', ?_, ?_, c', rfl, hk9, hr9, hp9⟩
      · intro p hp
        rcases List.mem_append.mp hp with hp | hp
        · have hpf := hown p hp
          have hpn := N₁ p (List.mem_append_left _ hp)
          by_cases e : p.1 = I
          · have : p = (I, oI) := by
              obtain ⟨a, o⟩ := p
              simp only at e
              subst e
              have := hgot _ hp
              simp only at this hoI
              rw [hoI] at this
              rw [Option.some.inj this]
            rw [this]; exact hIin
          · rcases hfp p.1 hpf e with ⟨o, ho'⟩ | ⟨o, ho'⟩
            · rw [hpn.2.2] at ho'; cases ho'
            · have e1 := (Nt _ (List.mem_cons_of_mem _ (ho' c))).1
              have e2 := hgot p hp
              simp only at e1 e2
              rw [e1] at e2
              have e3 : p = (p.1, o) := by rw [Option.some.inj e2]
              rw [e3]
              exact N' _ (hn _ (ho' c'))
        · exact N' p (hn p hp)
      · intro p hp hb
        have e := List.mem_singleton.mp hb
        have h1 := (N' p (hn p hp)).1
        have h2' := hIin.1
        simp only at h2'
        rw [e, h2'] at h1
        rcases hC _ _ hp9 p hp with h3 | h3 | h3
        · rw [← Option.some.inj h1, hoc] at h3
          cases h3
        · obtain ⟨q, hq, e2⟩ := List.mem_map.mp h3
          exact hap q hq (e2.trans e)
        · exact absurd e (Nat.ne_of_gt h3)
    cases f with
    | ret v => exact .ret q
    | brk => exact .brk q
    | next => exact .next (fin q)
    | cont => exact .cont (fin q)
  · rintro h' tk m' news' F' N' _ ⟨c, rfl, h1, h2, hp'⟩
    exact done c m' h' tk hp' (ksw_fr h1 h2 F') N'
end
end Mine
namespace Mine
open PySem PySem.W PySem.Calls PyProof.Rows
section
variable {prog : Program} {w : World} {A : Around} {E : Value → Shared → Prop} {Q : Flow → Shared → Prop} {s : Shared} {env : Env} {h₀ : Heap} {x : Str} {body : List Stmt}

/-- a for over a list: of the base, or of the ledger (not changed by the loop) -/
theorem forListI {σ : Type} {l : Addr} {vs : List Value} {m₀ : Str → Option Value} (Led : σ → List (Addr × Obj)) (ps : σ → List (Str × Value)) (stored : List Str) (P : Nat → σ → Prop) (c₀ : σ)
    (hh : A.handled = none) (hl : h₀.IsList l vs.toArray ∨ ∃ k, ∀ c, (l, listOf vs.toArray k) ∈ Led c)
    (F : Fr h₀ env.locals s.heap m₀) (N : News h₀ env.locals s.heap (Led c₀)) (hk : ∀ p ∈ ps c₀, m₀ p.1 = some p.2) (hp : P 0 c₀) (hC : ∀ i c, P i c → ∀ p ∈ Led c, isIter p.2.cls = false ∨ p.1 ∈ (Led c₀).map (·.1) ∨ s.heap.objs.size < p.1)
    (turn : ∀ (I : Addr) (i : Nat) (v : Value) (c : σ) (u : Str → Option Value) h tk oI, I = s.heap.objs.size → vs[i]? = some v → P i c → isIter oI.cls = true → AllNe I (Led c) →
      Fr h₀ env.locals h (fun y => if y = x then some v else kstB (fun z => if (x :: stored).contains z then u z else m₀ z) (ps c) y) → News h₀ env.locals h ((I, oI) :: Led c) →
      wpAny (model prog w) A (execs body env) (TPost h₀ env.locals { s with heap := h, toks := tk } Led ps (x :: stored) m₀ [(I, oI)] (P (i + 1)) Q) E { s with heap := h, toks := tk })
    (done : ∀ (c : σ) (u : Str → Option Value) h tk, P vs.length c → Fr h₀ env.locals h (kstB (fun z => if (x :: stored).contains z then u z else m₀ z) (ps c)) → News h₀ env.locals h (Led c) → Q .next { s with heap := h, toks := tk }) :
    wpAny (model prog w) A (pyIter (.ref l)) (fun it s₂ => LoopAtV prog w A h₀ env x body Q E it s₂) E s := by
  have hls : s.heap.IsList l vs.toArray := by
    rcases hl with hl | ⟨k, hl⟩
    · exact hl.at fun o e => F.keep l o e
    · exact ⟨_, (N _ (hl c₀)).1, rfl, k, rfl⟩
  obtain ⟨ol, hol, _⟩ := id hls
  have hlt : l < s.heap.objs.size := Heap.lt_size hol
  have hne : l ≠ s.heap.objs.size := Nat.ne_of_lt hlt
  have hlL : env.locals ≠ l := by
    rcases hl with hl | ⟨k, hl⟩
    · obtain ⟨o, ho, _⟩ := hl
      exact Nat.ne_of_gt (Nat.lt_of_lt_of_le (Heap.lt_size ho) F.above)
    · exact fun e => (N _ (hl c₀)).2.1 e.symm
  refine wpAny_pyIter_list hls ?_
  have W := Walks.list (prog := prog) (w := w) hh s.heap.objs.size l hne vs.toArray
  have hnew : h₀.get? s.heap.objs.size = none := by
    cases hq : h₀.get? s.heap.objs.size with
    | none => rfl
    | some o' => exact absurd (Heap.lt_size (F.keep _ _ hq)) (Nat.lt_irrefl _)
  refine forW Led ps stored P c₀ W ?_ hnew ?_ ?_ (fun p hp => Nat.ne_of_lt (Heap.lt_size (N p hp).1)) hC ⟨⟨_, Heap.get?_push_size _ rfl, rfl, rfl⟩, hls.at fun o e => Heap.get?_push_of_some _ e⟩ (F.push _) (fun p hp => ⟨Heap.get?_push_of_some _ (N p hp).1, (N p hp).2⟩) hk hp ?_ ?_
  · intro hm
    rcases List.mem_cons.mp hm with e | hm
    · exact absurd F.ns.lt (e ▸ Nat.lt_irrefl _)
    · exact hlL (List.mem_singleton.mp hm)
  · intro b hb hbI
    rcases List.mem_cons.mp hb with e | hb
    · exact absurd e hbI
    · rw [List.mem_singleton.mp hb]
      rcases hl with ⟨o, ho, _⟩ | ⟨k, hl⟩
      · exact .inl ⟨o, ho⟩
      · exact .inr ⟨_, hl⟩
  · rintro i h ⟨⟨o, ho, hc, _⟩, _⟩
    exact ⟨o, ho, by rw [hc]; rfl⟩
  · intro i v c u h tk oI hi hv hP hoc hne' F' N'
    exact turn _ i v c u h tk oI rfl (by simpa using hv) hP hoc hne' F' N'
  · intro c u h tk hP F' N'
    exact done c u h tk (by simpa using hP) F' N'

theorem forList {σ : Type} {l : Addr} {vs : List Value} {m₀ : Str → Option Value} (Led : σ → List (Addr × Obj)) (ps : σ → List (Str × Value)) (stored : List Str) (P : Nat → σ → Prop) (c₀ : σ)
    (hh : A.handled = none) (hl : h₀.IsList l vs.toArray ∨ ∃ k, ∀ c, (l, listOf vs.toArray k) ∈ Led c)
    (F : Fr h₀ env.locals s.heap m₀) (N : News h₀ env.locals s.heap (Led c₀)) (hk : ∀ p ∈ ps c₀, m₀ p.1 = some p.2) (hp : P 0 c₀) (hC : ∀ i c, P i c → AllCls ((Led c₀).map (·.1)) (Led c))
    (turn : ∀ (I : Addr) (i : Nat) (v : Value) (c : σ) (u : Str → Option Value) h tk oI, vs[i]? = some v → P i c → isIter oI.cls = true → AllNe I (Led c) →
      Fr h₀ env.locals h (fun y => if y = x then some v else kstB (fun z => if (x :: stored).contains z then u z else m₀ z) (ps c) y) → News h₀ env.locals h ((I, oI) :: Led c) →
      wpAny (model prog w) A (execs body env) (TPost h₀ env.locals { s with heap := h, toks := tk } Led ps (x :: stored) m₀ [(I, oI)] (P (i + 1)) Q) E { s with heap := h, toks := tk })
    (done : ∀ (c : σ) (u : Str → Option Value) h tk, P vs.length c → Fr h₀ env.locals h (kstB (fun z => if (x :: stored).contains z then u z else m₀ z) (ps c)) → News h₀ env.locals h (Led c) → Q .next { s with heap := h, toks := tk }) :
    wpAny (model prog w) A (pyIter (.ref l)) (fun it s₂ => LoopAtV prog w A h₀ env x body Q E it s₂) E s := forListI Led ps stored P c₀ hh hl F N hk hp (fun i c h p hp => ((hC i c h).get p hp).elim .inl fun q => .inr (.inl q)) (fun I i v c u h tk oI _ => turn I i v c u h tk oI) done

/-- a for over a text -/
theorem forStr {σ : Type} {t : Str} {tt : Tok} {m₀ : Str → Option Value} (Led : σ → List (Addr × Obj)) (ps : σ → List (Str × Value)) (stored : List Str) (P : Nat → σ → Prop) (c₀ : σ)
    (hh : A.handled = none) (F : Fr h₀ env.locals s.heap m₀) (N : News h₀ env.locals s.heap (Led c₀)) (hk : ∀ p ∈ ps c₀, m₀ p.1 = some p.2) (hp : P 0 c₀) (hC : ∀ i c, P i c → AllCls ((Led c₀).map (·.1)) (Led c))
    (turn : ∀ (I : Addr) (i : Nat) (a : Nat) (ta : Tok) (c : σ) (u : Str → Option Value) h tk oI, t.cps[i]? = some a → P i c → isIter oI.cls = true → AllNe I (Led c) →
      Fr h₀ env.locals h (fun y => if y = x then some (.str ⟨#[a]⟩ ta) else kstB (fun z => if (x :: stored).contains z then u z else m₀ z) (ps c) y) → News h₀ env.locals h ((I, oI) :: Led c) →
      wpAny (model prog w) A (execs body env) (TPost h₀ env.locals { s with heap := h, toks := tk } Led ps (x :: stored) m₀ [(I, oI)] (P (i + 1)) Q) E { s with heap := h, toks := tk })
    (done : ∀ (c : σ) (u : Str → Option Value) h tk, P t.cps.size c → Fr h₀ env.locals h (kstB (fun z => if (x :: stored).contains z then u z else m₀ z) (ps c)) → News h₀ env.locals h (Led c) → Q .next { s with heap := h, toks := tk }) :
    wpAny (model prog w) A (pyIter (.str t tt)) (fun it s₂ => LoopAtV prog w A h₀ env x body Q E it s₂) E s := by
  have hnew : h₀.get? s.heap.objs.size = none := by
    cases hq : h₀.get? s.heap.objs.size with
    | none => rfl
    | some o' => exact absurd (Heap.lt_size (F.keep _ _ hq)) (Nat.lt_irrefl _)
  have go : ∀ (St : Nat → Heap → Prop) (o : Obj), Walks prog w A s.heap.objs.size [s.heap.objs.size] [s.heap.objs.size] t.cps.size (SignAt t) St → St 0 (s.heap.push o) →
      (∀ i h, St i h → ∃ o, h.get? s.heap.objs.size = some o ∧ isIter o.cls = true) → LoopAtV prog w A h₀ env x body Q E (.ref s.heap.objs.size) { s with heap := s.heap.push o } := by
    intro St o W h0 hI
    refine forW Led ps stored P c₀ W ?_ hnew ?_ hI (fun p hp => Nat.ne_of_lt (Heap.lt_size (N p hp).1)) (fun i c h p hp => ((hC i c h).get p hp).elim .inl fun q => .inr (.inl q)) h0 (F.push _) (fun p hp => ⟨Heap.get?_push_of_some _ (N p hp).1, (N p hp).2⟩) hk hp ?_ ?_
    · intro hm; exact absurd F.ns.lt ((List.mem_singleton.mp hm) ▸ Nat.lt_irrefl _)
    · intro b hb hbI; exact absurd (List.mem_singleton.mp hb) hbI
    · intro i v c u h tk oI hi hv hP hoc hne' F' N'
      obtain ⟨a, ta, ha, rfl⟩ := hv
      exact turn _ i a ta c u h tk oI ha hP hoc hne' F' N'
    · intro c u h tk hP F' N'
      exact done c u h tk hP F' N'
  cases ha : t.cps.all (· < 128)
  · exact wpAny_pyIter_wide ha (go _ _ (Walks.strWide hh _ t tt) ⟨_, Heap.get?_push_size _ rfl, rfl, rfl⟩ (by rintro i h ⟨o, ho, hc, _⟩; exact ⟨o, ho, by rw [hc]; rfl⟩))
  · exact wpAny_pyIter_ascii ha (go _ _ (Walks.strAscii hh _ t tt) ⟨_, Heap.get?_push_size _ rfl, rfl, rfl⟩ (by rintro i h ⟨o, ho, hc, _⟩; exact ⟨o, ho, by rw [hc]; rfl⟩))

/-- a for over a range by ones -/
theorem forRange {σ : Type} {r : Addr} {a b : Int} {t1 t2 t3 : Tok} {n : Nat} {m₀ : Str → Option Value} (Led : σ → List (Addr × Obj)) (ps : σ → List (Str × Value)) (stored : List Str) (P : Nat → σ → Prop) (c₀ : σ)
    (hh : A.handled = none) (hr : IsRange s.heap r a b 1 t1 t2 t3) (hsm : Builtin.Range.small a b 1 = true) (hn : Builtin.Range.rangeSize a b 1 = ((n : Nat) : Int))
    (F : Fr h₀ env.locals s.heap m₀) (N : News h₀ env.locals s.heap (Led c₀)) (hk : ∀ p ∈ ps c₀, m₀ p.1 = some p.2) (hp : P 0 c₀) (hC : ∀ i c, P i c → AllCls ((Led c₀).map (·.1)) (Led c))
    (turn : ∀ (I : Addr) (i : Nat) (ta : Tok) (c : σ) (u : Str → Option Value) h tk oI, i < n → P i c → isIter oI.cls = true → AllNe I (Led c) →
      Fr h₀ env.locals h (fun y => if y = x then some (.int (a + (i : Int)) ta) else kstB (fun z => if (x :: stored).contains z then u z else m₀ z) (ps c) y) → News h₀ env.locals h ((I, oI) :: Led c) →
      wpAny (model prog w) A (execs body env) (TPost h₀ env.locals { s with heap := h, toks := tk } Led ps (x :: stored) m₀ [(I, oI)] (P (i + 1)) Q) E { s with heap := h, toks := tk })
    (done : ∀ (c : σ) (u : Str → Option Value) h tk, P n c → Fr h₀ env.locals h (kstB (fun z => if (x :: stored).contains z then u z else m₀ z) (ps c)) → News h₀ env.locals h (Led c) → Q .next { s with heap := h, toks := tk }) :
    wpAny (model prog w) A (pyIter (.ref r)) (fun it s₂ => LoopAtV prog w A h₀ env x body Q E it s₂) E s := by
  have hnew : h₀.get? s.heap.objs.size = none := by
    cases hq : h₀.get? s.heap.objs.size with
    | none => rfl
    | some o' => exact absurd (Heap.lt_size (F.keep _ _ hq)) (Nat.lt_irrefl _)
  refine wpAny_pyIter_range hr hsm ?_
  refine forW Led ps stored P c₀ (LCg.range_walks (I := s.heap.objs.size) hh a n) ?_ hnew ?_ ?_ (fun p hp => Nat.ne_of_lt (Heap.lt_size (N p hp).1)) (fun i c h p hp => ((hC i c h).get p hp).elim .inl fun q => .inr (.inl q)) ?_ (F.push _) (fun p hp => ⟨Heap.get?_push_of_some _ (N p hp).1, (N p hp).2⟩) hk hp ?_ ?_
  · intro hm; exact absurd F.ns.lt ((List.mem_singleton.mp hm) ▸ Nat.lt_irrefl _)
  · intro b hb hbI; exact absurd (List.mem_singleton.mp hb) hbI
  · intro i h hs
    exact ⟨_, hs, rfl⟩
  · show Heap.get? _ _ = some _
    rw [hn]
    simp only [Int.natCast_zero, Int.zero_mul, Int.add_zero, Int.sub_zero]
    exact Heap.get?_push_size _ rfl
  · intro i v c u h tk oI hi hv hP hoc hne' F' N'
    obtain ⟨ta, rfl⟩ := hv
    exact turn _ i ta c u h tk oI hi hP hoc hne' F' N'
  · intro c u h tk hP F' N'
    exact done c u h tk hP F' N'
end
end Mine

namespace Mine
open PySem PySem.W PySem.Calls PyProof.Rows PyProof.V PySem.Spec

abbrev encT (T : List (Int × Int)) : List (PyData × PyData) := T.map fun p => (PyData.int p.1, PyData.int p.2)

theorem flat_at {kvs : List (Int × Value)} {T : List (Int × Int)} (h : FlatPairs PyData.int kvs (encT T)) : ∀ {i : Nat} {k : Int} {v : Value}, kvs[i]? = some (k, v) → ∃ c t, T[i]? = some (k, c) ∧ v = .int c t := by
  induction T generalizing kvs with
  | nil => intro i k v e; cases h; simp at e
  | cons p r ih =>
    intro i k v e
    obtain ⟨k₀, c₀⟩ := p
    generalize hq : encT ((k₀, c₀) :: r) = D at h
    cases h with
    | nil => cases hq
    | cons hf hr =>
      simp only [encT, List.map_cons, List.cons.injEq, Prod.mk.injEq, PyData.int.injEq] at hq
      obtain ⟨⟨h1, h2⟩, h3⟩ := hq
      subst h1 h2 h3
      cases i with
      | zero =>
        simp at e
        obtain ⟨rfl, rfl⟩ := e
        obtain ⟨t, rfl⟩ := Flat.int_inv hf
        exact ⟨c₀, t, rfl, rfl⟩
      | succ i => simpa using ih hr (by simpa using e)

def TNext {σ : Type} (h₀ : Heap) (L : Addr) (s : Shared) (Led : σ → List (Addr × Obj)) (ps : σ → List (Str × Value)) (stored : List Str) (m₀ : Str → Option Value) (own : List (Addr × Obj)) (P : σ → Prop) (f : Flow) (s₂ : Shared) : Prop :=
  match f with
  | .next => TEnd h₀ L s Led ps stored m₀ own P s₂
  | _ => False

section
variable {prog : Program} {w : World} {A : Around} {E : Value → Shared → Prop} {Q : Flow → Shared → Prop} {s : Shared} {env : Env} {h₀ : Heap} {xk xv : Str} {body : List Stmt}

/-- a for over the items of a dict of ints in the base -/
theorem forItems {σ : Type} {vw d : Addr} {T : List (Int × Int)} {m₀ : Str → Option Value} (Led : σ → List (Addr × Obj)) (ps : σ → List (Str × Value)) (stored : List Str) (P : Nat → σ → Prop) (c₀ : σ)
    (hh : A.handled = none) (hxk : env.kindOf xk = some .local) (hxv : env.kindOf xv = some .local) (hp : (env.scope.kind == .class || (env.scope.kind == .module && env.locals != env.globals)) = false)
    (hvw : ∃ ov, s.heap.get? vw = some ov ∧ ov.cls = .type "dict_items" ∧ ov.data = .fields #[.ref d]) (hT : IntTab prog w h₀ d (encT T))
    (F : Fr h₀ env.locals s.heap m₀) (N : News h₀ env.locals s.heap (Led c₀)) (hk : ∀ p ∈ ps c₀, m₀ p.1 = some p.2) (hp0 : P 0 c₀) (hadr : ∀ c, (Led c).map (·.1) = (Led c₀).map (·.1))
    (turn : ∀ (I : Addr) (i : Nat) (k c : Int) (tk tc : Tok) (st : σ) (u : Str → Option Value) (s₁ : Shared) own, T[i]? = some (k, c) → P i st → (own = [] ∨ ∃ oI, own = [(I, oI)]) → AllNe I (Led st) →
      Fr h₀ env.locals s₁.heap (fun y => if y = xv then some (.int c tc) else if y = xk then some (.int k tk) else kstB (fun z => if (xk :: xv :: stored).contains z then u z else m₀ z) (ps st) y) → News h₀ env.locals s₁.heap (own ++ Led st) →
      wpAny (model prog w) A (execs body env) (TNext h₀ env.locals s₁ Led ps (xk :: xv :: stored) m₀ own (P (i + 1))) E s₁)
    (done : ∀ (st : σ) (u : Str → Option Value) h tkn, P T.length st → Fr h₀ env.locals h (kstB (fun z => if (xk :: xv :: stored).contains z then u z else m₀ z) (ps st)) → News h₀ env.locals h (Led st) → Q .next { s with heap := h, toks := tkn })
    (hE : PassesOwn (model prog w) A env E := by passes_own) :
    wpAny (model prog w) A (pyIter (.ref vw)) (fun it s₂ => PairLoopAt prog w A h₀ env xk xv body Q E it s₂) E s := by
  obtain ⟨lo, kvs, hdo, hf⟩ := id (hT.keep F.keep)
  obtain ⟨ep, hat⟩ := hdo.dictAt
  have hold : ∃ o, h₀.get? d = some o := hT.old
  obtain ⟨od, hod⟩ := hold
  have hdL : d ≠ env.locals := Nat.ne_of_lt (Nat.lt_of_lt_of_le (Heap.lt_size hod) F.above)
  have hnew : h₀.get? s.heap.objs.size = none := by
    cases hq : h₀.get? s.heap.objs.size with
    | none => rfl
    | some o' => exact absurd (Heap.lt_size (F.keep _ _ hq)) (Nat.lt_irrefl _)
  have hlen : kvs.length = T.length := by have := hf.length; simp [encT] at this; omega
  refine wpAny_pyIter_items hvw hat ?_
  intro pk pv pt x1
  have apart : ∀ p ∈ Led c₀, p.1 ≠ s.heap.objs.size := fun p hp => Nat.ne_of_lt (Heap.lt_size (N p hp).1)
  refine codeAny_forLoop_items_frU (knd := intKind prog w) (h₀ := h₀) (m := m₀) (news := Led c₀) hh hxk hxv hp (Ne.symm (Nat.ne_of_lt F.ns.lt)) hdL (Nat.ne_of_lt hat.lt_size) hnew (fun p hp hb => apart p hp (List.mem_singleton.mp hb))
    (Heap.get?_push_size _ rfl) (hat.push _) (F.push _) (fun p hp => ⟨Heap.get?_push_of_some _ (N p hp).1, (N p hp).2⟩)
    (fun i m nx => ∃ st : σ, nx = Led st ∧ (∀ p ∈ ps st, m p.1 = some p.2) ∧ (∀ z, (∀ p ∈ ps st, z ≠ p.1) → (xk :: xv :: stored).contains z = false → m z = m₀ z) ∧ P i st ∧ (∀ p ∈ Led st, p.1 ≠ s.heap.objs.size))
    ⟨c₀, rfl, hk, fun _ _ _ => rfl, hp0, apart⟩ ?_ ?_
  · rintro i k v key m₁ news₁ s₁ own hkv hkey ⟨st, rfl, h1, h2, hPi, hap⟩ hoff hown hda F₁ N₁
    obtain ⟨c, tc, hTi, rfl⟩ := flat_at hf hkv
    obtain ⟨tk, rfl⟩ := Value.isInt_shape hkey
    have Ft : Fr h₀ env.locals s₁.heap (fun y => if y = xv then some (.int c tc) else if y = xk then some (.int k tk) else kstB (fun z => if (xk :: xv :: stored).contains z then m₁ z else m₀ z) (ps st) y) := by
      have em : (fun y => if y = xv then some (Value.int c tc) else if y = xk then some (Value.int k tk) else kstB (fun z => if (xk :: xv :: stored).contains z then m₁ z else m₀ z) (ps st) y) = fun y => if y = xv then some (.int c tc) else if y = xk then some (.int k tk) else m₁ y := by
        funext y
        by_cases hy : y = xv
        · simp [hy]
        · by_cases hy2 : y = xk
          · simp [hy2]
          · simp only [if_neg hy, if_neg hy2]
            refine kstB_eq h1 fun hn => ?_
            cases h3 : (xk :: xv :: stored).contains y with
            | true => simp
            | false => simp only [Bool.false_eq_true, if_false]; exact (h2 y hn h3).symm
      rw [em]; exact F₁
    have onlyI : ∀ p ∈ own, p.1 = s.heap.objs.size := fun p hp => by
      rcases List.mem_cons.mp (hown p hp) with e | e
      · exact e
      · have e1 := List.mem_singleton.mp e
        have e2 := (N₁ p (List.mem_append_left _ hp)).2.2
        rw [e1, hod] at e2; cases e2
    obtain ⟨own', hsub, hsup, hform⟩ : ∃ own', (∀ p ∈ own', p ∈ own) ∧ (∀ p ∈ own, p ∈ own') ∧ (own' = [] ∨ ∃ oI, own' = [(s.heap.objs.size, oI)]) := by
      cases own with
      | nil => exact ⟨[], fun _ h => h, fun _ h => h, .inl rfl⟩
      | cons q r =>
        obtain ⟨qa, qo⟩ := q
        have e0 : qa = s.heap.objs.size := onlyI _ (.head _)
        subst e0
        refine ⟨[(s.heap.objs.size, qo)], fun p hp => by rw [List.mem_singleton.mp hp]; exact .head _, fun p hp => ?_, .inr ⟨qo, rfl⟩⟩
        have e1 := onlyI p hp
        have e2 := (N₁ p (List.mem_append_left _ hp)).1
        have e3 := (N₁ (s.heap.objs.size, qo) (List.mem_append_left _ (.head _))).1
        simp only at e3
        rw [e1, e3] at e2
        obtain ⟨pa, po⟩ := p
        simp only at e1 e2
        rw [e1, ← Option.some.inj e2]; exact .head _
    have Nt : News h₀ env.locals s₁.heap (own' ++ Led st) := fun p hp => N₁ p ((List.mem_append.mp hp).elim (fun h => List.mem_append_left _ (hsub p h)) fun h => List.mem_append_right _ h)
    refine wpAny_mono (turn s.heap.objs.size i k c tk tc st m₁ s₁ own' hTi hPi hform (allNe_of hap) Ft Nt) (fun f s₃ q => ?_) hE
    cases f with
    | next =>
      obtain ⟨c', h', tk', m', news', rfl, F', N', hn, ho, hk9, hr9, hp9⟩ := q
      have hap' : ∀ p ∈ Led c', p.1 ≠ s.heap.objs.size := fun p hp => by
        have h5 : p.1 ∈ (Led c₀).map (·.1) := by rw [← hadr c']; exact List.mem_map_of_mem hp
        obtain ⟨q, hq, e⟩ := List.mem_map.mp h5
        rw [← e]; exact apart q hq
      refine ⟨rfl, h', tk', m', Led c', rfl, F', ?_, ?_, c', rfl, hk9, hr9, hp9, hap'⟩
      · intro p hp
        rcases List.mem_append.mp hp with hp | hp
        · exact N' p (ho p (hsup p hp))
        · exact N' p (hn p hp)
      · intro p hp hb; exact hap' p hp (List.mem_singleton.mp hb)
    | _ => exact q.elim
  · rintro h' tk m' news' F' N' _ ⟨st, rfl, h1, h2, hPi, _⟩
    exact done st m' h' tk (hlen ▸ hPi) (ksw_fr h1 h2 F') N'
end
end Mine

namespace Mine
open PySem PySem.W PySem.Calls PyProof.Rows
section
variable {prog : Program} {w : World} {A : Around} {h₀ : Heap} {L : Addr} {m : Str → Option Value} {env : Env} {elt : Expr} {x : Str} {scope : Scope} {cl : List (Str × Addr)} {s : Shared} {S : List (Addr × Obj) → Prop} {P : Nat → Value → Prop} {Fin : List Value → List (Addr × Obj) → Prop} {news : List (Addr × Obj)}
/-- a comprehension whose elements leave the ledger as it stands -/
theorem compAll {n : Nat} (Fv : Nat → Value → Prop)
    (turn : ∀ i v I oI C oC D m₂ ys h tk (E' : Value → Shared → Prop), i < n → P i v → LCg.NsObj oC m₂ → m₂ x = some v → Fr h₀ L h m → News h₀ L h ((I, oI) :: (C, oC) :: (D, LCg.lst ys) :: news) → LCg.Off3 I C D news → ((@Ne Nat I C) ∧ (@Ne Nat I D) ∧ (@Ne Nat C D)) →
      wpAny (model prog w) A (eval elt (compEnvC scope cl C env)) (LCg.CompEnd h₀ L m { s with heap := h, toks := tk } I oI C oC D (LCg.lst ys) S (fun y news' => news' = news ∧ Fv i y)) E' { s with heap := h, toks := tk })
    (fin : ∀ ys : List Value, ys.length = n → (∀ i y, ys[i]? = some y → Fv i y) → Fin ys news) : LCg.CompRest prog w A h₀ L m env elt x scope cl s S P Fin n 0 [] news := by
  have key : ∀ (j i : Nat) (ys : List Value), i + j = n → ys.length = i → (∀ i y, ys[i]? = some y → Fv i y) → LCg.CompRest prog w A h₀ L m env elt x scope cl s S P Fin j i ys news := by
    intro j
    induction j with
    | zero =>
      intro i ys hi hl hy
      exact LCg.CompRest.zero (fin ys (by omega) hy)
    | succ j ih =>
      intro i ys hi hl hy
      refine LCg.CompRest.succ ?_
      intro v I oI C oC D m₂ h tk E' hv hC hx F N off ne
      refine wpAny_mono (turn i v I oI C oC D m₂ ys h tk E' (by omega) hv hC hx F N off ne) (fun y s₂ hq => ?_) fun _ _ e => e
      obtain ⟨h', tk', nw, e, F', N', off', hS, hn, hf⟩ := hq
      rw [hn] at N' off' hS
      refine ⟨h', tk', news, e, F', N', off', hS, ?_⟩
      refine ih (i + 1) _ (by omega) (by simp [hl]) ?_
      intro i' y' hy'
      by_cases hlt : i' < ys.length
      · rw [List.getElem?_append_left hlt] at hy'; exact hy i' y' hy'
      · rw [List.getElem?_append_right (by omega)] at hy'
        have h0 : i' - ys.length = 0 := by
          cases hq : i' - ys.length with
          | zero => rfl
          | succ q => rw [hq] at hy'; simp at hy'
        rw [h0] at hy'
        simp at hy'
        subst hy'
        have : i' = i := by omega
        rw [this]; exact hf
  exact key n 0 [] (by omega) rfl (by intro i y h; simp at h)
end
end Mine

namespace Mine
open PySem PySem.W PySem.Calls PyProof.Rows
abbrev rng (a b : Int) (t u v : Tok) : Obj := { cls := .type "range", data := .fields #[.int a t, .int b u, .int 1 v] }
section
variable {prog : Program} {w : World} {A : Around} {E : Value → Shared → Prop} {s : Shared} {h₀ : Heap} {L : Addr} {m : Str → Option Value} {news : List (Addr × Obj)}
theorem range_L1 {n : Int} {t : Tok} {Q : Value → Shared → Prop} (F : Fr h₀ L s.heap m) (N : News h₀ L s.heap news)
    (h : ∀ r h' t1 t2 tk', Fr h₀ L h' m → News h₀ L h' ((r, rng 0 n t1 t t2) :: news) → (∀ p ∈ news, p.1 < r) → Q (.ref r) { s with heap := h', toks := tk' }) :
    wpAny (model prog w) A (call (.type "range") [.int n t]) Q E s :=
  call_range_1 (h _ _ _ _ _ (F.push _) (News.push F N _) fun p hp => Heap.lt_size (N p hp).1)
theorem range_L2 {a n : Int} {t u : Tok} {Q : Value → Shared → Prop} (F : Fr h₀ L s.heap m) (N : News h₀ L s.heap news)
    (h : ∀ r h' t2 tk', Fr h₀ L h' m → News h₀ L h' ((r, rng a n t u t2) :: news) → (∀ p ∈ news, p.1 < r) → Q (.ref r) { s with heap := h', toks := tk' }) :
    wpAny (model prog w) A (call (.type "range") [.int a t, .int n u]) Q E s :=
  call_range_2 (h _ _ _ _ (F.push _) (News.push F N _) fun p hp => Heap.lt_size (N p hp).1)
end
end Mine

end QI
open PySem PySem.W PySem.Calls PyProof.Rows
namespace Mine
local macro_rules | `(tactic| k_ne) => `(tactic| (refine neN ?_; (try dsimp only); first | (with_reducible assumption) | (refine Ne.symm ?_; with_reducible assumption) | ((show @Ne Nat _ ?b9); (rename (@Ne Nat _ ?b9 ∧ _) => z9); (repeat obtain ⟨_, z9⟩ := z9); with_reducible assumption) | ((refine Ne.symm ?_); (show @Ne Nat _ ?c9); (rename (@Ne Nat _ ?c9 ∧ _) => z9); (repeat obtain ⟨_, z9⟩ := z9); with_reducible assumption) | omega))
local macro_rules | `(tactic| walk_at $s:str) => `(tactic| k_extra $s)
local macro_rules | `(tactic| walk_at "mine enter") => `(tactic| (refine wpAny_call ?_; k_dflt ((first | refine' enter (by k_asm) (by k_asm) (by k_asm) ?k4 ?k5 ?k6 ?k7 ?k8 ?k9 ?kB ?_ ?c2 ?c3 ?c4 ?c5 | refine' enter (news := []) (fun _ _ e => e) (Nat.le_refl _) (fun _ hq => nomatch hq) ?k4 ?k5 ?k6 ?k7 ?k8 ?k9 ?kB ?_ ?c2 ?c3 ?c4 ?c5); (case k4 => k_asm); (case k5 => k_asm); (case k6 => k_is); (case k7 => k_is); (case k8 => ktr_room); (case k9 => first | exact BindsTo.of_eq rfl | (refine' kp_binds ?kx ?ke; (case kx => first | k_asm | exact Frag.In.keeps (by k_asm) (by k_asm)); (case ke => exact fun _ => rfl))); (case c5 => decide); (case kB => exact locs rfl); (case c2 => exact rfl); (case c3 => exact rfl); (case c4 => exact rfl); k_whole; intro L' h' F' N' l0'; (try dsimp only); (try k_fold))))
local macro_rules | `(tactic| walk_at "mine n") => `(tactic| ((rename News _ _ _ _ => nE); (try simp only [List.push_toArray] at nE); exact nE))
local macro_rules | `(tactic| walk_at "mine same") => `(tactic| (intro z h2 h3; (try simp only [List.forall_mem_cons, List.not_mem_nil, false_implies, implies_true, and_true, ne_eq] at h2); (try simp only [List.contains_cons, List.contains_nil, Bool.or_false, Bool.or_eq_false_iff, beq_eq_false_iff_ne, ne_eq] at h3); first | rfl | (simp [kstB, h2, h3]; done) | (simp [kstB, h3]; done)))
theorem start_QB : True := by
  w_top off
  trivial
section QB
open PySem PySem.W PySem.Calls PyProof.Rows
example : PySem.Challenge.rw_qc0007_01 = PySem.Challenge.rw_qc0007_01 ∧ hd.heap_39 = hd.heap_39 := by k_fill; exact ⟨rfl, rfl⟩

def bounceF : Nat → List Int → List Int → Option (List Int)
  | 0, _, _ => none
  | n+1, ah, pl =>
    if pl.length = 0 ∨ ah.length = 0 then none else
    let p := pl.getD (-1 + (pl.length : Int)).toNat 0
    let a := ah.getD (-1 + (ah.length : Int)).toNat 0
    if p < a then (if 0 ≤ p ∧ p < ah.length then bounceF n ah (pl ++ [ah.getD p.toNat 0]) else none) else some pl

theorem bounceF_some {i : Nat} {ah pl r : List Int} (h : bounceF i ah pl = some r) : ∃ j, i = j + 1 ∧ 0 < pl.length ∧ 0 < ah.length ∧
    (¬ pl.getD (-1 + (pl.length : Int)).toNat 0 < ah.getD (-1 + (ah.length : Int)).toNat 0 → pl = r) ∧
    (pl.getD (-1 + (pl.length : Int)).toNat 0 < ah.getD (-1 + (ah.length : Int)).toNat 0 → 0 ≤ pl.getD (-1 + (pl.length : Int)).toNat 0 ∧ pl.getD (-1 + (pl.length : Int)).toNat 0 < (ah.length : Int)) ∧
    (pl.getD (-1 + (pl.length : Int)).toNat 0 < ah.getD (-1 + (ah.length : Int)).toNat 0 → bounceF j ah (pl ++ [ah.getD (pl.getD (-1 + (pl.length : Int)).toNat 0).toNat 0]) = some r) := by
  cases i with
  | zero => simp [bounceF] at h
  | succ j =>
    refine ⟨j, rfl, ?_⟩
    unfold bounceF at h
    split at h
    · cases h
    · rename_i hne
      dsimp only at h
      refine ⟨by omega, by omega, ?_, ?_, ?_⟩
      · intro hc; rw [if_neg hc] at h; exact Option.some.inj h
      · intro hc; rw [if_pos hc] at h; split at h
        · assumption
        · cases h
      · intro hc; rw [if_pos hc] at h; split at h
        · assumption
        · cases h

theorem bounced_spec {prog : Program} {w : World} {loose : List Str} {mean : ExcName → Option Value} {mg mb : Str → Option Value} {dp un : Nat} {gd : Option (List Code)} {outer : List Env} {s : Shared}
    {Q : Value → Shared → Prop} {E : Value → Shared → Prop} {l : Addr} {vs : List Value} {ah r : List Int} {n : Nat}
    (X : (hd.heap_39 w.params).In s.heap) (T : Top topProg loose mean mg mb s.heap)
    (hl : s.heap.IsList l vs.toArray) (hi : IntsAre vs ah) (hlen : ah.length < 1000) (hn : n < 1000) (hr : bounceF n ah [0] = some r)
    (hdp : dp + 1 < recursionLimit)
    (ret : ∀ l' vs' k h' tk', (∀ b o, s.heap.get? b = some o → h'.get? b = some o) → s.heap.get? l' = none → h'.get? l' = some (listOf vs' k) → IntsAre vs'.toList r → Q (.ref l') { s with heap := h', toks := tk' }) :
    wpAny (model prog w) (topA dp un gd outer) (call (.ref 100) [.ref l]) Q E s := by
  k_with_none
  k_with "exec While" => (refine' loopW (fun c : List Value × List Int × Nat => [(_, listOf c.1.toArray c.2.2)]) (fun _ => []) [] (fun i c => IntsAre c.1 c.2.1 ∧ c.2.1.length + i < 2000 ∧ bounceF i ah c.2.1 = some r) n (_, [0], _) ?k1 ?k2 ?k3 ?k4 ?_; (case k1 => k_asm); (case k2 => k_asm); (case k3 => exact fun _ h => nomatch h); (case k4 => exact ⟨by l_ints, by simp; omega, hr⟩); rintro i ⟨vp, pl, kp⟩ u hh tkk ⟨hI, hS, hB⟩ hFr hNw; dsimp only at hI hS hB hNw; obtain ⟨j, hj, hb1, hb2, hb3, hb4, hb5⟩ := bounceF_some hB)
  walk_at "mine enter"
  k_steps
  · dsimp only [TPost]
    rename News _ _ _ _ => nE
    simp only [List.push_toArray] at nE
    refine tend (_, pl ++ [_], _) (by k_asm) nE (fun _ h => h) (fun _ h => nomatch h) (fun _ h => nomatch h) (fun _ _ _ => rfl) ⟨j, by omega, by l_ints, ?_, hb5 (by assumption)⟩
    simp only [List.length_append, List.length_cons, List.length_nil]; omega
  · dsimp only
    rename Fr _ _ _ _ => fE
    rename News _ _ _ _ => nE
    have e := hb3 (by assumption)
    subst e
    exact ret _ _ _ _ _ fE.keep (nE _ (.head _)).2.2 (nE _ (.head _)).1 hI

end QB
theorem start_QA : True := by
  w_top off
  trivial
section QA
open PySem PySem.W PySem.Calls PyProof.Rows
example : PySem.Challenge.rw_qc0007_01 = PySem.Challenge.rw_qc0007_01 ∧ hd.heap_39 = hd.heap_39 := by k_fill; exact ⟨rfl, rfl⟩
def aheadStep (st : List Int × Int) (c : Nat) : List Int × Int := if c = 117 then (st.1, st.2 + 1) else (st.1 ++ [st.2], st.2)
def aheadF (cs : List Nat) : List Int := (cs.foldl aheadStep ([], 0)).1 ++ [(cs.foldl aheadStep ([], 0)).2]

theorem take_cps {t : Str} {i a : Nat} (h : t.cps[i]? = some a) : t.cps.toList.take (i + 1) = t.cps.toList.take i ++ [a] := by
  rw [List.take_add_one, show t.cps.toList[i]? = some a by simpa using h]; rfl

theorem sign_u : Str.ofString "u" = ⟨#[117]⟩ := by decide +kernel
theorem ahead_spec {prog : Program} {w : World} {loose : List Str} {mean : ExcName → Option Value} {mg mb : Str → Option Value} {dp un : Nat} {gd : Option (List Code)} {outer : List Env} {s : Shared}
    {Q : Value → Shared → Prop} {E : Value → Shared → Prop} {t : Str} {tt : Tok}
    (X : (hd.heap_39 w.params).In s.heap) (T : Top topProg loose mean mg mb s.heap)
    (hlen : t.cps.size < 1000) (hdp : dp + 1 < recursionLimit)
    (ret : ∀ l' vs' k h' tk', (∀ b o, s.heap.get? b = some o → h'.get? b = some o) → s.heap.get? l' = none → h'.get? l' = some (listOf vs' k) → IntsAre vs'.toList (aheadF t.cps.toList) → Q (.ref l') { s with heap := h', toks := tk' }) :
    wpAny (model prog w) (topA dp un gd outer) (call (.ref 93) [.str t tt]) Q E s := by
  k_with_none
  k_with "pyIter str" =>
    refine' forStr (fun c : List Value × List Int × Nat × Int × Tok => [(_, listOf c.1.toArray c.2.2.1)]) (fun c => [(Str.ofString "up", .int c.2.2.2.1 c.2.2.2.2)]) [] (fun i c => IntsAre c.1 c.2.1 ∧ c.2.1.length ≤ i ∧ 0 ≤ c.2.2.2.1 ∧ c.2.2.2.1 ≤ (i : Int) ∧ (c.2.1, c.2.2.2.1) = (t.cps.toList.take i).foldl aheadStep ([], 0)) ([], [], _, 0, _) ?k0 ?k1 ?k2 ?k3 ?k4 ?k5 ?tn ?dn
    (case k0 => rfl)
    (case k1 => k_asm)
    (case k2 => k_asm)
    (case k3 => kst_all)
    (case k4 => exact ⟨.nil, Nat.le_refl _, Int.le_refl _, Int.le_refl _, rfl⟩)
    (case k5 => exact fun _ _ _ => ⟨.inl rfl, trivial⟩)
    (case' tn => rintro I i a ta ⟨va, al, ka, up, tu⟩ u hh tkk oI hai ⟨hI, hS, hU0, hU1, hB⟩ hoc hne hFr hNw; dsimp only at hI hS hU0 hU1 hB hNw hne; simp only [AllNe, and_true] at hne; have hi9 := (Array.getElem?_eq_some_iff.mp hai).1)
    (case' dn => rintro ⟨va, al, ka, up, tu⟩ u hh tkk ⟨hI, hS, hU0, hU1, hB⟩ hFr hNw; dsimp only at hI hS hU0 hU1 hB hNw)
  walk_at "mine enter"
  k_steps
  · rename Fr _ _ _ _ => fE
    rename News _ _ _ _ => nE
    refine ret _ _ _ _ _ fE.keep (nE _ (.head _)).2.2 (nE _ (.head _)).1 ?_
    have e : aheadF t.cps.toList = al ++ [up] := by
      unfold aheadF
      rw [show t.cps.size = t.cps.toList.length from rfl, List.take_length] at hB
      rw [← hB]
    rw [e]; assumption
  · dsimp only [TPost]
    refine tend (_, al, _, up + 1, _) (by k_asm) (by walk_at "mine n") (by kst_in) (by kst_in) (by kst_all) (by walk_at "mine same") ⟨hI, by show al.length ≤ i + 1; omega, by show 0 ≤ up + 1; omega, by show up + 1 ≤ ((i + 1 : Nat) : Int); omega, ?_⟩
    show (al, up + 1) = _
    rw [take_cps hai, List.foldl_append, ← hB]
    have : a = 117 := by
      rename (_ == _) = true => hx
      rw [sign_u] at hx
      simpa using hx
    simp [aheadStep, this]
  · dsimp only [TPost]
    refine tend (_, al ++ [up], _, up, _) (by k_asm) (by walk_at "mine n") (by kst_in) (by kst_in) (by kst_all) (by walk_at "mine same") ⟨by l_ints, by show (al ++ [up]).length ≤ i + 1; simp; omega, by show 0 ≤ up; omega, by show up ≤ ((i + 1 : Nat) : Int); omega, ?_⟩
    show (al ++ [up], up) = _
    rw [take_cps hai, List.foldl_append, ← hB]
    have : a ≠ 117 := by
      rename (_ == _) = false => hx
      rw [sign_u] at hx
      simpa using hx
    simp [aheadStep, this]

end QA
theorem start_QR : True := by
  w_top off
  trivial
section QR
open PySem PySem.W PySem.Calls PyProof.Rows
example : PySem.Challenge.rw_qc0007_01 = PySem.Challenge.rw_qc0007_01 ∧ hd.heap_39 = hd.heap_39 := by k_fill; exact ⟨rfl, rfl⟩
theorem mid_facts {lo hi : Int} (h : lo < hi) : lo ≤ Int.fdiv (lo + hi) 2 ∧ Int.fdiv (lo + hi) 2 < hi := by
  rw [Int.fdiv_eq_ediv_of_nonneg _ (by decide)]; omega

def bisRF : Nat → List Int → Int → Int → Int → Int
  | 0, _, _, lo, _ => lo
  | n+1, xs, x, lo, hi => if lo < hi then (if x < xs.getD (Int.fdiv (lo + hi) 2).toNat 0 then bisRF n xs x lo (Int.fdiv (lo + hi) 2) else bisRF n xs x (Int.fdiv (lo + hi) 2 + 1) hi) else lo
def bisR (xs : List Int) (x : Int) : Int := bisRF xs.length xs x 0 xs.length
theorem bisRF_dn {i : Nat} {xs : List Int} {x lo hi r : Int} (h : bisRF i xs x lo hi = r) (hlt : lo < hi) (hd : hi - lo ≤ (i : Int)) (hx : x < xs.getD (Int.fdiv (lo + hi) 2).toNat 0) :
    ∃ j, j < i ∧ Int.fdiv (lo + hi) 2 - lo ≤ (j : Int) ∧ bisRF j xs x lo (Int.fdiv (lo + hi) 2) = r := by
  have hm := mid_facts hlt
  cases i with
  | zero => omega
  | succ j => refine ⟨j, by omega, by omega, ?_⟩; unfold bisRF at h; rw [if_pos hlt, if_pos hx] at h; exact h
theorem bisRF_up {i : Nat} {xs : List Int} {x lo hi r : Int} (h : bisRF i xs x lo hi = r) (hlt : lo < hi) (hd : hi - lo ≤ (i : Int)) (hx : ¬ x < xs.getD (Int.fdiv (lo + hi) 2).toNat 0) :
    ∃ j, j < i ∧ hi - (Int.fdiv (lo + hi) 2 + 1) ≤ (j : Int) ∧ bisRF j xs x (Int.fdiv (lo + hi) 2 + 1) hi = r := by
  have hm := mid_facts hlt
  cases i with
  | zero => omega
  | succ j => refine ⟨j, by omega, by omega, ?_⟩; unfold bisRF at h; rw [if_pos hlt, if_neg hx] at h; exact h
theorem bisRF_end {i : Nat} {xs : List Int} {x lo hi r : Int} (h : bisRF i xs x lo hi = r) (hlt : ¬ lo < hi) : lo = r := by
  cases i with
  | zero => exact h
  | succ j => unfold bisRF at h; rw [if_neg hlt] at h; exact h
theorem bisRF_range : ∀ (i : Nat) {xs : List Int} {x lo hi : Int}, lo ≤ hi → lo ≤ bisRF i xs x lo hi ∧ bisRF i xs x lo hi ≤ hi
  | 0, xs, x, lo, hi, h => ⟨Int.le_refl _, h⟩
  | i + 1, xs, x, lo, hi, h => by
    unfold bisRF
    split
    · rename_i hlt
      have hm := mid_facts hlt
      split
      · have := bisRF_range i (xs := xs) (x := x) (show lo ≤ Int.fdiv (lo + hi) 2 by omega)
        omega
      · have := bisRF_range i (xs := xs) (x := x) (show Int.fdiv (lo + hi) 2 + 1 ≤ hi by omega)
        omega
    · omega
theorem bisR_range (xs : List Int) (x : Int) : 0 ≤ bisR xs x ∧ bisR xs x ≤ (xs.length : Int) := bisRF_range _ (Int.natCast_nonneg _)

def bisLF : Nat → List Int → Int → Int → Int → Int
  | 0, _, _, lo, _ => lo
  | n+1, xs, x, lo, hi => if lo < hi then (if xs.getD (Int.fdiv (lo + hi) 2).toNat 0 < x then bisLF n xs x (Int.fdiv (lo + hi) 2 + 1) hi else bisLF n xs x lo (Int.fdiv (lo + hi) 2)) else lo
def bisL (xs : List Int) (x : Int) : Int := bisLF xs.length xs x 0 xs.length
theorem bisLF_dn {i : Nat} {xs : List Int} {x lo hi r : Int} (h : bisLF i xs x lo hi = r) (hlt : lo < hi) (hd : hi - lo ≤ (i : Int)) (hx : ¬ xs.getD (Int.fdiv (lo + hi) 2).toNat 0 < x) :
    ∃ j, j < i ∧ Int.fdiv (lo + hi) 2 - lo ≤ (j : Int) ∧ bisLF j xs x lo (Int.fdiv (lo + hi) 2) = r := by
  have hm := mid_facts hlt
  cases i with
  | zero => omega
  | succ j => refine ⟨j, by omega, by omega, ?_⟩; unfold bisLF at h; rw [if_pos hlt, if_neg hx] at h; exact h
theorem bisLF_up {i : Nat} {xs : List Int} {x lo hi r : Int} (h : bisLF i xs x lo hi = r) (hlt : lo < hi) (hd : hi - lo ≤ (i : Int)) (hx : xs.getD (Int.fdiv (lo + hi) 2).toNat 0 < x) :
    ∃ j, j < i ∧ hi - (Int.fdiv (lo + hi) 2 + 1) ≤ (j : Int) ∧ bisLF j xs x (Int.fdiv (lo + hi) 2 + 1) hi = r := by
  have hm := mid_facts hlt
  cases i with
  | zero => omega
  | succ j => refine ⟨j, by omega, by omega, ?_⟩; unfold bisLF at h; rw [if_pos hlt, if_pos hx] at h; exact h
theorem bisLF_end {i : Nat} {xs : List Int} {x lo hi r : Int} (h : bisLF i xs x lo hi = r) (hlt : ¬ lo < hi) : lo = r := by
  cases i with
  | zero => exact h
  | succ j => unfold bisLF at h; rw [if_neg hlt] at h; exact h
theorem bisLF_range : ∀ (i : Nat) {xs : List Int} {x lo hi : Int}, lo ≤ hi → lo ≤ bisLF i xs x lo hi ∧ bisLF i xs x lo hi ≤ hi
  | 0, xs, x, lo, hi, h => ⟨Int.le_refl _, h⟩
  | i + 1, xs, x, lo, hi, h => by
    unfold bisLF
    split
    · rename_i hlt
      have hm := mid_facts hlt
      split
      · have := bisLF_range i (xs := xs) (x := x) (show Int.fdiv (lo + hi) 2 + 1 ≤ hi by omega)
        omega
      · have := bisLF_range i (xs := xs) (x := x) (show lo ≤ Int.fdiv (lo + hi) 2 by omega)
        omega
    · omega
theorem bisL_range (xs : List Int) (x : Int) : 0 ≤ bisL xs x ∧ bisL xs x ≤ (xs.length : Int) := bisLF_range _ (Int.natCast_nonneg _)

theorem bisR_spec {prog : Program} {w : World} {loose : List Str} {mean : ExcName → Option Value} {mg mb : Str → Option Value} {dp un : Nat} {gd : Option (List Code)} {outer : List Env} {s : Shared}
    {Q : Value → Shared → Prop} {E : Value → Shared → Prop} {l : Addr} {vs : List Value} {xs : List Int} {x : Int} {tx : Tok}
    (X : (hd.heap_39 w.params).In s.heap) (T : Top topProg loose mean mg mb s.heap)
    (hl : s.heap.IsList l vs.toArray) (hi : IntsAre vs xs) (hlen : xs.length < 1000) (hdp : dp + 1 < recursionLimit)
    (ret : ∀ t h' tk', (∀ b o, s.heap.get? b = some o → h'.get? b = some o) → Q (.int (bisR xs x) t) { s with heap := h', toks := tk' }) :
    wpAny (model prog w) (topA dp un gd outer) (call (.ref 39) [.ref l, .int x tx]) Q E s := by
  k_with_none
  k_with "exec While Compare cons nil" =>
    refine' loopW (fun _ : Int × Tok × Int × Tok => []) (fun c => [(Str.ofString "lo", .int c.1 c.2.1), (Str.ofString "hi", .int c.2.2.1 c.2.2.2)]) [Str.ofString "mid"] (fun i c => 0 ≤ c.1 ∧ c.1 ≤ c.2.2.1 ∧ c.2.2.1 ≤ (xs.length : Int) ∧ c.2.2.1 - c.1 ≤ (i : Int) ∧ bisRF i xs x c.1 c.2.2.1 = bisR xs x) xs.length (0, _, (xs.length : Int), _) ?k1 ?k2 ?k3 ?k4 ?tn
    (case k1 => k_asm)
    (case k2 => exact News.nil)
    (case k3 => kst_all)
    (case k4 => exact ⟨Int.le_refl _, Int.natCast_nonneg _, Int.le_refl _, by dsimp only; omega, rfl⟩)
    (case' tn => rintro i ⟨lo, tlo, hi', thi⟩ u hh tkk ⟨hA, hB, hC, hD, hE⟩ hFr hNw; dsimp only at hA hB hC hD hE hNw hFr)
  walk_at "mine enter"
  k_steps
  · dsimp only [TPost]
    have hm := mid_facts (by assumption : lo < hi')
    obtain ⟨j, hj, hj1, hj2⟩ := bisRF_dn hE (by assumption) hD (by assumption)
    exact tend (lo, _, Int.fdiv (lo + hi') 2, _) (by k_asm) News.nil (fun _ h => nomatch h) (fun _ h => nomatch h) (by kst_all) (by walk_at "mine same") ⟨j, hj, hA, hm.1, by dsimp only; omega, hj1, hj2⟩
  · dsimp only [TPost]
    have hm := mid_facts (by assumption : lo < hi')
    obtain ⟨j, hj, hj1, hj2⟩ := bisRF_up hE (by assumption) hD (by assumption)
    exact tend (Int.fdiv (lo + hi') 2 + 1, _, hi', _) (by k_asm) News.nil (fun _ h => nomatch h) (fun _ h => nomatch h) (by kst_all) (by walk_at "mine same") ⟨j, hj, by dsimp only; omega, by dsimp only; omega, hC, hj1, hj2⟩
  · rename Fr _ _ _ _ => fE
    have e := bisRF_end hE (by assumption)
    rw [← e] at ret
    exact ret _ _ _ fE.keep

theorem bisR4_spec {prog : Program} {w : World} {loose : List Str} {mean : ExcName → Option Value} {mg mb : Str → Option Value} {dp un : Nat} {gd : Option (List Code)} {outer : List Env} {s : Shared}
    {Q : Value → Shared → Prop} {E : Value → Shared → Prop} {l : Addr} {vs : List Value} {xs : List Int} {x : Int} {tx t0 : Tok}
    (X : (hd.heap_39 w.params).In s.heap) (T : Top topProg loose mean mg mb s.heap)
    (hl : s.heap.IsList l vs.toArray) (hi : IntsAre vs xs) (hlen : xs.length < 1000) (hdp : dp + 1 < recursionLimit)
    (ret : ∀ t h' tk', (∀ b o, s.heap.get? b = some o → h'.get? b = some o) → Q (.int (bisR xs x) t) { s with heap := h', toks := tk' }) :
    wpAny (model prog w) (topA dp un gd outer) (call (.ref 39) [.ref l, .int x tx, .int 0 t0, .none]) Q E s := by
  k_with_none
  k_with "exec While Compare cons nil" =>
    refine' loopW (fun _ : Int × Tok × Int × Tok => []) (fun c => [(Str.ofString "lo", .int c.1 c.2.1), (Str.ofString "hi", .int c.2.2.1 c.2.2.2)]) [Str.ofString "mid"] (fun i c => 0 ≤ c.1 ∧ c.1 ≤ c.2.2.1 ∧ c.2.2.1 ≤ (xs.length : Int) ∧ c.2.2.1 - c.1 ≤ (i : Int) ∧ bisRF i xs x c.1 c.2.2.1 = bisR xs x) xs.length (0, _, (xs.length : Int), _) ?k1 ?k2 ?k3 ?k4 ?tn
    (case k1 => k_asm)
    (case k2 => exact News.nil)
    (case k3 => kst_all)
    (case k4 => exact ⟨Int.le_refl _, Int.natCast_nonneg _, Int.le_refl _, by dsimp only; omega, rfl⟩)
    (case' tn => rintro i ⟨lo, tlo, hi', thi⟩ u hh tkk ⟨hA, hB, hC, hD, hE⟩ hFr hNw; dsimp only at hA hB hC hD hE hNw hFr)
  walk_at "mine enter"
  k_steps
  · dsimp only [TPost]
    have hm := mid_facts (by assumption : lo < hi')
    obtain ⟨j, hj, hj1, hj2⟩ := bisRF_dn hE (by assumption) hD (by assumption)
    exact tend (lo, _, Int.fdiv (lo + hi') 2, _) (by k_asm) News.nil (fun _ h => nomatch h) (fun _ h => nomatch h) (by kst_all) (by walk_at "mine same") ⟨j, hj, hA, hm.1, by dsimp only; omega, hj1, hj2⟩
  · dsimp only [TPost]
    have hm := mid_facts (by assumption : lo < hi')
    obtain ⟨j, hj, hj1, hj2⟩ := bisRF_up hE (by assumption) hD (by assumption)
    exact tend (Int.fdiv (lo + hi') 2 + 1, _, hi', _) (by k_asm) News.nil (fun _ h => nomatch h) (fun _ h => nomatch h) (by kst_all) (by walk_at "mine same") ⟨j, hj, by dsimp only; omega, by dsimp only; omega, hC, hj1, hj2⟩
  · rename Fr _ _ _ _ => fE
    have e := bisRF_end hE (by assumption)
    rw [← e] at ret
    exact ret _ _ _ fE.keep

theorem bisL_spec {prog : Program} {w : World} {loose : List Str} {mean : ExcName → Option Value} {mg mb : Str → Option Value} {dp un : Nat} {gd : Option (List Code)} {outer : List Env} {s : Shared}
    {Q : Value → Shared → Prop} {E : Value → Shared → Prop} {l : Addr} {vs : List Value} {xs : List Int} {x : Int} {tx : Tok}
    (X : (hd.heap_39 w.params).In s.heap) (T : Top topProg loose mean mg mb s.heap)
    (hl : s.heap.IsList l vs.toArray) (hi : IntsAre vs xs) (hlen : xs.length < 1000) (hdp : dp + 1 < recursionLimit)
    (ret : ∀ t h' tk', (∀ b o, s.heap.get? b = some o → h'.get? b = some o) → Q (.int (bisL xs x) t) { s with heap := h', toks := tk' }) :
    wpAny (model prog w) (topA dp un gd outer) (call (.ref 48) [.ref l, .int x tx]) Q E s := by
  k_with_none
  k_with "exec While Compare cons nil" =>
    refine' loopW (fun _ : Int × Tok × Int × Tok => []) (fun c => [(Str.ofString "lo", .int c.1 c.2.1), (Str.ofString "hi", .int c.2.2.1 c.2.2.2)]) [Str.ofString "mid"] (fun i c => 0 ≤ c.1 ∧ c.1 ≤ c.2.2.1 ∧ c.2.2.1 ≤ (xs.length : Int) ∧ c.2.2.1 - c.1 ≤ (i : Int) ∧ bisLF i xs x c.1 c.2.2.1 = bisL xs x) xs.length (0, _, (xs.length : Int), _) ?k1 ?k2 ?k3 ?k4 ?tn
    (case k1 => k_asm)
    (case k2 => exact News.nil)
    (case k3 => kst_all)
    (case k4 => exact ⟨Int.le_refl _, Int.natCast_nonneg _, Int.le_refl _, by dsimp only; omega, rfl⟩)
    (case' tn => rintro i ⟨lo, tlo, hi', thi⟩ u hh tkk ⟨hA, hB, hC, hD, hE⟩ hFr hNw; dsimp only at hA hB hC hD hE hNw hFr)
  walk_at "mine enter"
  k_steps
  · dsimp only [TPost]
    have hm := mid_facts (by assumption : lo < hi')
    obtain ⟨j, hj, hj1, hj2⟩ := bisLF_up hE (by assumption) hD (by assumption)
    exact tend (Int.fdiv (lo + hi') 2 + 1, _, hi', _) (by k_asm) News.nil (fun _ h => nomatch h) (fun _ h => nomatch h) (by kst_all) (by walk_at "mine same") ⟨j, hj, by dsimp only; omega, by dsimp only; omega, hC, hj1, hj2⟩
  · dsimp only [TPost]
    have hm := mid_facts (by assumption : lo < hi')
    obtain ⟨j, hj, hj1, hj2⟩ := bisLF_dn hE (by assumption) hD (by assumption)
    exact tend (lo, _, Int.fdiv (lo + hi') 2, _) (by k_asm) News.nil (fun _ h => nomatch h) (fun _ h => nomatch h) (by kst_all) (by walk_at "mine same") ⟨j, hj, hA, hm.1, by dsimp only; omega, hj1, hj2⟩
  · rename Fr _ _ _ _ => fE
    have e := bisLF_end hE (by assumption)
    rw [← e] at ret
    exact ret _ _ _ fE.keep

end QR
theorem start_QN : True := by
  w_top off
  trivial
section QN
open PySem PySem.W PySem.Calls PyProof.Rows
example : PySem.Challenge.rw_qc0007_01 = PySem.Challenge.rw_qc0007_01 ∧ hd.heap_39 = hd.heap_39 := by k_fill; exact ⟨rfl, rfl⟩

def insF (xs : List Int) (x : Int) : List Int := xs.take (bisR xs x).toNat ++ x :: xs.drop (bisR xs x).toNat

theorem fits_of {x : Int} (h0 : 0 ≤ x) (h1 : x < 100000) : Builtin.List.listFitsIndex x = true := by
  unfold Builtin.List.listFitsIndex
  simp
  omega

theorem ints_take {vs : List Value} {xs : List Int} (h : IntsAre vs xs) : ∀ n, IntsAre (vs.take n) (xs.take n) := by
  induction h with
  | nil => intro n; simp; exact .nil
  | cons a t h ih => intro n; cases n with
    | zero => simp; exact .nil
    | succ n => simp only [List.take_succ_cons]; exact .cons a t (ih n)
theorem ints_drop {vs : List Value} {xs : List Int} (h : IntsAre vs xs) : ∀ n, IntsAre (vs.drop n) (xs.drop n) := by
  induction h with
  | nil => intro n; simp; exact .nil
  | cons a t h ih => intro n; cases n with
    | zero => simp; exact .cons a t h
    | succ n => simp only [List.drop_succ_cons]; exact ih n
theorem ints_ins {vs : List Value} {xs : List Int} {p x : Int} {t : Tok} (hi : IntsAre vs xs) (h0 : 0 ≤ p) (h1 : p ≤ (xs.length : Int)) :
    IntsAre (kl_ins vs p (.int x t)) (xs.take p.toNat ++ x :: xs.drop p.toNat) := by
  have hl := hi.length
  unfold kl_ins
  rw [if_neg (by omega), Nat.min_eq_left (by omega)]
  exact IntsAre.append (ints_take hi _) (.cons x t (ints_drop hi _))

theorem insI_spec {prog : Program} {w : World} {loose : List Str} {mean : ExcName → Option Value} {mg mb : Str → Option Value} {dp un : Nat} {gd : Option (List Code)} {outer : List Env} {s : Shared} {g : Heap}
    {Q : Value → Shared → Prop} {E : Value → Shared → Prop} {l : Addr} {vs : List Value} {xs : List Int} {k : Nat} {x : Int} {tx : Tok}
    (hg : ∀ b o, g.get? b = some o → s.heap.get? b = some o) (hsz : g.objs.size ≤ s.heap.objs.size)
    (hn : ∀ q ∈ [(l, listOf vs.toArray k)], s.heap.get? q.1 = some q.2 ∧ g.get? q.1 = none)
    (X : (hd.heap_39 w.params).In g) (T : Top topProg loose mean mg mb g)
    (hi : IntsAre vs xs) (hlen : xs.length < 1000) (hdp : dp + 2 < recursionLimit)
    (ret : ∀ vs' k' h' tk', (∀ b o, g.get? b = some o → h'.get? b = some o) → h'.get? l = some (listOf vs'.toArray k') → IntsAre vs' (insF xs x) → Q .none { s with heap := h', toks := tk' }) :
    wpAny (model prog w) (topA dp un gd outer) (call (.ref 30) [.ref l, .int x tx]) Q E s := by
  k_with_none
  k_with "call ref" =>
    refine' bisR4_spec ?x ?t ?l ?i ?n ?d ?_
    (case x => exact Frag.In.keeps (by k_asm) (Fr.keep (by k_asm)))
    (case t => exact Top.keeps (by k_asm) (Fr.keep (by k_asm)))
    (case l => is_list)
    (case i => l_ints)
    (case n => omega)
    (case d => ktr_room)
    intro t9 h9 tk9 hk9
    (rename Fr _ _ _ _ => lF)
    (rename News _ _ _ _ => lN)
    have F9 := Fr.keeps lF hk9
    have N9 := News.grown lN hk9
    clear lF lN hk9
    have hb9 := bisR_range xs x
    (try dsimp only)
  k_with "call builtin:list.insert" =>
    refine' kl_insert ?F ?N ?f rfl ?U ?z ?_
    (case F => k_asm)
    (case N => k_asm)
    (case U => k_upd)
    (case f => exact fits_of (by omega) (by omega))
    (case z => (have hb8 := IntsAre.length hi; simp only [sizeLine_eq]; omega))
    intro h8 F8 N8
    (try dsimp only)
  walk_at "mine enter"
  k_steps
  exact ret _ _ _ _ F8.keep (N8 _ (.head _)).1 (ints_ins hi hb9.1 hb9.2)

end QN
theorem start_QC : True := by
  w_top off
  trivial
section QC
open PySem PySem.W PySem.Calls PyProof.Rows PyProof.V PySem.Spec
example : PySem.Challenge.rw_qc0007_01 = PySem.Challenge.rw_qc0007_01 ∧ hd.heap_39 = hd.heap_39 := by k_fill; exact ⟨rfl, rfl⟩
def lookT (k : Int) : List (Int × Int) → Option Int
  | [] => none
  | p :: r => if p.1 = k then some p.2 else lookT k r
def putT (k v : Int) (T : List (Int × Int)) : List (Int × Int) := if T.any (fun p => p.1 = k) then T.map (fun p => if p.1 = k then (p.1, v) else p) else T ++ [(k, v)]
def copyT (T : List (Int × Int)) : List (Int × Int) := T.foldl (fun acc p => putT p.1 p.2 acc) []
def mergeStep (acc : List (Int × Int)) (p : Int × Int) : List (Int × Int) := match lookT p.1 acc with
  | some v => putT p.1 (v + p.2) acc
  | none => putT p.1 p.2 acc
def mergeT (T S : List (Int × Int)) : List (Int × Int) := S.foldl mergeStep (copyT T)

theorem same_ii (a b : Int) : same (PyData.int a) (PyData.int b) = decide (a = b) := same_int a b
theorem putD_encT (k v : Int) (T : List (Int × Int)) : putD (.int k) (.int v) (encT T) = encT (putT k v T) := by
  have e1 : (encT T).any (fun p => same p.1 (PyData.int k)) = T.any (fun p => decide (p.1 = k)) := by
    induction T with
    | nil => rfl
    | cons p r ih => simp only [encT, List.map_cons, List.any_cons, same_ii] at ih ⊢; rw [ih]
  have e2 : (encT T).map (fun p => if same p.1 (PyData.int k) then (p.1, PyData.int v) else p) = encT (T.map (fun p => if p.1 = k then (p.1, v) else p)) := by
    induction T with
    | nil => rfl
    | cons p r ih =>
      simp only [encT, List.map_cons, List.map_map, same_ii, List.cons.injEq] at ih ⊢
      refine ⟨by by_cases h : p.1 = k <;> simp [h], ?_⟩
      apply List.map_congr_left
      intro q _
      by_cases h : q.1 = k <;> simp [h, same_ii]
  unfold putD putT
  rw [e1, e2]
  by_cases h : T.any (fun p => decide (p.1 = k)) = true
  · rw [if_pos h, if_pos h]
  · rw [if_neg h, if_neg h]; simp [encT]
theorem lookup_encT (k : Int) (T : List (Int × Int)) : Spec.lookup (.int k) (encT T) = (lookT k T).map PyData.int := by
  induction T with
  | nil => rfl
  | cons p r ih =>
    simp only [encT, List.map_cons, Spec.lookup, lookT] at ih ⊢
    by_cases h : p.1 = k
    · simp [h, same_ii]
    · have h' : ¬ k = p.1 := fun e => h e.symm
      simp [h, h', same_ii, ih]
theorem putT_length (k v : Int) (T : List (Int × Int)) : (putT k v T).length ≤ T.length + 1 := by
  unfold putT; split <;> simp

theorem some_of_map {x : Option Int} (h : (x.map PyData.int).isSome = true) : ∃ v, x = some v := by
  cases x with
  | none => cases h
  | some v => exact ⟨v, rfl⟩
theorem none_of_map {x : Option Int} (h : (x.map PyData.int).isSome = false) : x = none := by
  cases x with
  | none => rfl
  | some v => cases h
theorem take_T {T : List (Int × Int)} {i : Nat} {p : Int × Int} (h : T[i]? = some p) : T.take (i + 1) = T.take i ++ [p] := by rw [List.take_add_one, h]; rfl
theorem news_tl {h₀ h : Heap} {L : Addr} {p : Addr × Obj} {r : List (Addr × Obj)} (N : News h₀ L h (p :: r)) : News h₀ L h r := fun q hq => N q (.tail _ hq)

theorem addC_spec {prog : Program} {w : World} {loose : List Str} {mean : ExcName → Option Value} {mg mb : Str → Option Value} {dp un : Nat} {gd : Option (List Code)} {outer : List Env} {s : Shared}
    {Q : Value → Shared → Prop} {E : Value → Shared → Prop} {d1 d2 : Addr} {T1 T2 : List (Int × Int)}
    (X : (hd.heap_39 w.params).In s.heap) (T : Top topProg loose mean mg mb s.heap)
    (h1 : IntTab prog w s.heap d1 (encT T1)) (h2 : IntTab prog w s.heap d2 (encT T2)) (hl1 : T1.length < 1000) (hl2 : T2.length < 1000)
    (hdp : dp + 1 < recursionLimit)
    (ret : ∀ d' o kvs h' tk', (∀ b o, s.heap.get? b = some o → h'.get? b = some o) → s.heap.get? d' = none → h'.get? d' = some o → (d' == sysModules) = false → o.IsDictOf (intKind prog w) kvs → FlatPairs PyData.int kvs (encT (mergeT T1 T2)) → Q (.ref d') { s with heap := h', toks := tk' }) :
    wpAny (model prog w) (topA dp un gd outer) (call (.ref 62) [.ref d1, .ref d2]) Q E s := by
  k_with_none
  k_with "exec For Tuple Call cons nil" =>
    (with_unfolding_all refine' For_pair_inv s.heap ?_ ?hs)
    (case hs => (intro _; rfl))
  k_with "call builtin:dict.items" =>
    dsimp only
    (k_dflt refine' call_items_tab (knd := intKind prog w) (enc := PyData.int) (D := encT _) ?k1 ?k2 ?k3 ?_)
    (case k1 => exact TabAt.ofFr (by assumption) (by assumption))
    (case k2 => k_asm)
    (case k3 => k_asm)
    intro h8 o8 hv8 F8 N8
    replace N8 := news_tl N8
    (try dsimp only)
  k_with "pyIter ref" =>
    refine' forItems (T := T2) (d := d2) (fun st : Obj × List (Int × Value) × List (Int × Int) => [(_, st.1)]) (fun _ => []) [] (fun i st => st.1.IsDictOf (intKind prog w) st.2.1 ∧ FlatPairs PyData.int st.2.1 (encT st.2.2) ∧ st.2.2.length ≤ T1.length + i ∧ st.2.2 = (T2.take i).foldl mergeStep (copyT T1)) (od, kv, Tc) ?k0b ?k1b ?k2b ?k3b ?k4b ?k5b ?k6b ?k7b ?k8b ?k9b ?kab ?tnb ?dnb
    (case k0b => rfl)
    (case k1b => rfl)
    (case k2b => rfl)
    (case k3b => rfl)
    (case k4b => exact hv8)
    (case k5b => assumption)
    (case k6b => k_asm)
    (case k7b => k_asm)
    (case k8b => exact fun _ h => nomatch h)
    (case k9b => exact ⟨hP1, hP2, by dsimp only; omega, hP5⟩)
    (case kab => exact fun _ => rfl)
    (case' tnb => rintro I i k c tk9 tc9 ⟨od, kv, Tc⟩ u s9 own hTi ⟨hP1, hP2, hP3, hP4⟩ hown hne hFr hNw; have hi9 := (List.getElem?_eq_some_iff.mp hTi).1; dsimp only at hP1 hP2 hP3 hP4 hne hFr hNw; simp only [AllNe, and_true] at hne; rcases hown with rfl | ⟨oI, rfl⟩ <;> simp only [List.nil_append, List.cons_append] at hNw)
    (case' dnb => rintro ⟨od, kv, Tc⟩ u h9 tkn ⟨hP1, hP2, hP3, hP4⟩ hFr hNw; dsimp only at hP1 hP2 hP3 hP4 hFr hNw; rw [List.take_length] at hP4)
  k_with "pyIter ref" =>
    refine' forItems (T := T1) (d := d1) (fun st : Obj × List (Int × Value) × List (Int × Int) => [(_, st.1)]) (fun _ => []) [] (fun i st => st.1.IsDictOf (intKind prog w) st.2.1 ∧ FlatPairs PyData.int st.2.1 (encT st.2.2) ∧ st.2.2.length ≤ i ∧ st.2.2 = (T1.take i).foldl (fun acc p => putT p.1 p.2 acc) []) (_, [], []) ?k0 ?k1 ?k2 ?k3 ?k4 ?k5 ?k6 ?k7 ?k8 ?k9 ?ka ?tn ?dn
    (case k0 => rfl)
    (case k1 => rfl)
    (case k2 => rfl)
    (case k3 => rfl)
    (case k4 => exact hv8)
    (case k5 => assumption)
    (case k6 => k_asm)
    (case k7 => k_asm)
    (case k8 => exact fun _ h => nomatch h)
    (case k9 => exact ⟨by assumption, .nil, Nat.le_refl _, rfl⟩)
    (case ka => exact fun _ => rfl)
    (case' tn => rintro I i k c tk9 tc9 ⟨od, kv, Tc⟩ u s9 own hTi ⟨hP1, hP2, hP3, hP4⟩ hown hne hFr hNw; have hi9 := (List.getElem?_eq_some_iff.mp hTi).1; dsimp only at hP1 hP2 hP3 hP4 hne hFr hNw; simp only [AllNe, and_true] at hne; rcases hown with rfl | ⟨oI, rfl⟩ <;> simp only [List.nil_append, List.cons_append] at hNw)
    (case' dn => rintro ⟨od, kv, Tc⟩ u h9 tkn ⟨hP1, hP2, hP3, hP4⟩ hFr hNw; dsimp only at hP1 hP2 hP3 hP4 hFr hNw; rw [List.take_length] at hP4; (have hP5 : Tc = copyT T1 := hP4); clear hP4)
  k_with "getItem ref int" =>
    (rename Option.isSome _ = true => hx9)
    rw [lookup_encT] at hx9
    obtain ⟨v9, hv9⟩ := some_of_map hx9
    refine' getItem_tab (knd := intKind prog w) (enc := PyData.int) (D := encT Tc) (dv := .int v9) same_int (intKind_is _ _ _ _) ?gT ?gl ?_
    (case gT => exact TabAt.ofNews (by k_asm) (by k_mem) (by assumption) (by assumption) (by assumption))
    (case gl => rw [lookup_encT, hv9]; rfl)
    intro v8 hfl8
    obtain ⟨t8, rfl⟩ := Flat.int_inv hfl8
    (try dsimp only)
  walk_at "mine enter"
  k_steps
  · rename Fr _ _ _ _ => fE
    rename News _ _ _ _ => nE
    exact ret _ _ _ _ _ fE.keep (nE _ (.head _)).2.2 (nE _ (.head _)).1 (by assumption) hP1 (by rw [show mergeT T1 T2 = Tc from hP4.symm]; exact hP2)
  all_goals dsimp only [TNext]
  all_goals first
    | (refine tend (_, _, putT k (v9 + c) Tc) (by k_asm) (by k_asm) (by kst_in) (by kst_in) (fun _ h => nomatch h) (by walk_at "mine same") ⟨by assumption, by rw [← putD_encT]; assumption, ?_, ?_⟩
       · have := putT_length k (v9 + c) Tc; dsimp only; omega
       · show putT _ _ _ = _
         rw [take_T hTi, List.foldl_append, ← hP4]; simp [mergeStep, hv9])
    | (refine tend (_, _, putT k c Tc) (by k_asm) (by k_asm) (by kst_in) (by kst_in) (fun _ h => nomatch h) (by walk_at "mine same") ⟨by assumption, by rw [← putD_encT]; assumption, ?_, ?_⟩
       · have := putT_length k c Tc; dsimp only; omega
       · show putT _ _ _ = _
         rw [take_T hTi, List.foldl_append, ← hP4]
         first
           | rfl
           | (rename Option.isSome _ = false => hx9
              rw [lookup_encT] at hx9
              have hv9 := none_of_map hx9
              simp [mergeStep, hv9]))

end QC
theorem start_QF : True := by
  w_top off
  trivial
section QF
open PySem PySem.W PySem.Calls PyProof.Rows PyProof.V PySem.Spec
example : PySem.Challenge.rw_qc0007_01 = PySem.Challenge.rw_qc0007_01 ∧ hd.heap_39 = hd.heap_39 := by k_fill; exact ⟨rfl, rfl⟩
theorem news_new {h₀ h h' : Heap} {L d : Addr} {o : Obj} {m : Str → Option Value} {news : List (Addr × Obj)} (F : Fr h₀ L h m) (N : News h₀ L h news) (hk : ∀ b x, h.get? b = some x → h'.get? b = some x) (hn : h.get? d = none) (hg : h'.get? d = some o) : News h₀ L h' ((d, o) :: news) := by
  intro p hp
  rcases List.mem_cons.mp hp with rfl | hp
  · refine ⟨hg, fun e => ?_, ?_⟩
    · obtain ⟨oL, _, _, hL, _⟩ := F.ns
      simp only at e
      rw [e, hL] at hn; cases hn
    · cases hq : h₀.get? d with
      | none => rfl
      | some x => rw [F.keep _ _ hq] at hn; cases hn
  · exact ⟨hk _ _ (N p hp).1, (N p hp).2⟩

theorem addF_spec {prog : Program} {w : World} {loose : List Str} {mean : ExcName → Option Value} {mg mb : Str → Option Value} {dp un : Nat} {gd : Option (List Code)} {outer : List Env} {s : Shared}
    {Q : Value → Shared → Prop} {E : Value → Shared → Prop} {a b d1 d2 : Addr} {T1 T2 : List (Int × Int)} {x1 x2 x3 x4 y1 y2 y3 y4 : Int} {t1 t2 t3 t4 u1 u2 u3 u4 : Tok}
    (X : (hd.heap_39 w.params).In s.heap) (T : Top topProg loose mean mg mb s.heap)
    (ha : IsTup s.heap a #[.int x1 t1, .int x2 t2, .int x3 t3, .int x4 t4, .ref d1]) (hb : IsTup s.heap b #[.int y1 u1, .int y2 u2, .int y3 u3, .int y4 u4, .ref d2])
    (h1 : IntTab prog w s.heap d1 (encT T1)) (h2 : IntTab prog w s.heap d2 (encT T2)) (hl1 : T1.length < 1000) (hl2 : T2.length < 1000)
    (hdp : dp + 2 < recursionLimit)
    (ret : ∀ a' d' o kvs h' tk' k v1 v2 v3 v4, (∀ b o, s.heap.get? b = some o → h'.get? b = some o) → s.heap.get? a' = none → s.heap.get? d' = none → a' ≠ d' →
      h'.get? a' = some { cls := .type "tuple", data := .seq #[.int (y1 + x1) v1, .int (y2 + x2) v2, .int (y3 + x3) v3, .int (y4 + x4) v4, .ref d'] k } →
      h'.get? d' = some o → (d' == sysModules) = false → o.IsDictOf (intKind prog w) kvs → FlatPairs PyData.int kvs (encT (mergeT T1 T2)) → Q (.ref a') { s with heap := h', toks := tk' }) :
    wpAny (model prog w) (topA dp un gd outer) (call (.ref 55) [.ref a, .ref b]) Q E s := by
  k_with_none
  k_with "call ref" =>
    refine' addC_spec ?x ?t ?h1 ?h2 ?l1 ?l2 ?d ?_
    (case x => exact Frag.In.keeps (by k_asm) (Fr.keep (by k_asm)))
    (case t => exact Top.keeps (by k_asm) (Fr.keep (by k_asm)))
    (case h1 => exact TabAt.ofFr (by assumption) (by assumption))
    (case h2 => exact TabAt.ofFr (by assumption) (by assumption))
    (case l1 => assumption)
    (case l2 => assumption)
    (case d => ktr_room)
    intro d9 o9 kv9 h9 tk9 hk9 hn9 hg9 hs9 hd9 hf9
    (rename Fr _ _ _ _ => lF)
    (rename News _ _ _ _ => lN)
    have F9 := Fr.keeps lF hk9
    have N9 := news_new lF lN hk9 hn9 hg9
    clear lF lN hk9
    (try dsimp only)
  walk_at "mine enter"
  k_steps
  rename Fr _ _ _ _ => fE
  rename News _ _ _ _ => nE
  exact ret _ d9 o9 kv9 _ _ 0 _ _ _ _ fE.keep (nE _ (.head _)).2.2 (nE _ (.tail _ (.head _))).2.2 (by k_ne) (nE _ (.head _)).1 (nE _ (.tail _ (.head _))).1 hs9 hd9 hf9

end QF
theorem start_QS : True := by
  w_top off
  trivial
section QS
open PySem PySem.W PySem.Calls PyProof.Rows PyProof.V PySem.Spec
example : PySem.Challenge.rw_qc0007_01 = PySem.Challenge.rw_qc0007_01 ∧ hd.heap_39 = hd.heap_39 := by k_fill; exact ⟨rfl, rfl⟩
abbrev SumSt := Int × Int × Int × Int × List (Int × Int) × List Int
def sumStep (st : SumSt) (h : Int) : SumSt :=
  (1 + st.1, 1 + st.2.1, h + st.2.2.1, (bisR st.2.2.2.2.2 (h + 1) - bisL st.2.2.2.2.2 h) + st.2.2.2.1, mergeT st.2.2.2.2.1 [(h, 1)], insF st.2.2.2.2.2 h)
def summedF (row : List Int) : SumSt := row.foldl sumStep (0, 0, 0, 0, [], [])

structure SumC where
  ve : List Value
  ke : Nat
  ea : Addr
  t1 : Tok
  t2 : Tok
  t3 : Tok
  t4 : Tok
  ek : Nat
  da : Addr
  od : Obj
  kv : List (Int × Value)
  x1 : Int
  x2 : Int
  x3 : Int
  x4 : Int
  T : List (Int × Int)
  xs : List Int

theorem mergeT_length (T : List (Int × Int)) (p : Int × Int) : (mergeT T [p]).length ≤ T.length + 1 := by
  have h1 : ∀ (l acc : List (Int × Int)), (l.foldl (fun acc p => putT p.1 p.2 acc) acc).length ≤ acc.length + l.length := by
    intro l
    induction l with
    | nil => intro acc; simp
    | cons q r ih => intro acc; have := ih (putT q.1 q.2 acc); have := putT_length q.1 q.2 acc; simp only [List.foldl_cons, List.length_cons]; omega
  have h2 := h1 T []
  simp only [List.length_nil, Nat.zero_add] at h2
  unfold mergeT
  simp only [List.foldl_cons, List.foldl_nil]
  unfold mergeStep
  split
  · rename_i v hv; have := putT_length p.1 (v + p.2) (copyT T); unfold copyT at *; omega
  · have := putT_length p.1 p.2 (copyT T); unfold copyT at *; omega
theorem insF_length (xs : List Int) (x : Int) : (insF xs x).length = xs.length + 1 := by
  unfold insF; simp only [List.length_append, List.length_take, List.length_cons, List.length_drop]; omega
theorem ints_at {vs : List Value} {xs : List Int} (h : IntsAre vs xs) {i : Nat} {v : Value} (e : vs[i]? = some v) : ∃ n t, v = .int n t ∧ xs[i]? = some n := IntsAre.at h i v e
theorem dict_type {prog : Program} {w : World} {o : Obj} {kv : List (Int × Value)} (h : o.IsDictOf (intKind prog w) kv) : o.cls = .type "dict" := by
  obtain ⟨es, ep, hx, _⟩ := h
  exact hx.1
theorem dict_cls {prog : Program} {w : World} {o : Obj} {kv : List (Int × Value)} (h : o.IsDictOf (intKind prog w) kv) : isIter o.cls = false := by
  obtain ⟨es, ep, hx, _⟩ := h
  rw [hx.1]; rfl

section
variable {h₀ h h' : Heap} {L l : Addr} {m : Str → Option Value} {news news' : List (Addr × Obj)} {o o' : Obj} {K : Frag} {p : Program} {loose : List Str} {mean : ExcName → Option Value} {mg mb : Str → Option Value}
theorem hide_sub : ∀ b x, (h.hide l).get? b = some x → h.get? b = some x := fun _ _ e => Heap.of_hide e
theorem hide_base (F : Fr h₀ L h m) (N : News h₀ L h news) (hm : (l, o) ∈ news) : ∀ b x, h₀.get? b = some x → (h.hide l).get? b = some x := fun b x e => by
  rw [Heap.hide_ne h (fun q : b = l => by have := (N _ hm).2.2; simp only at this; rw [← q, e] at this; cases this)]
  exact F.keep b x e
theorem ne_of_cls {a b : Addr} {oa ob : Obj} (N : News h₀ L h news) (ha : (a, oa) ∈ news) (hb : (b, ob) ∈ news) (hc : oa.cls ≠ ob.cls) : @Ne Nat a b := fun e => by
  have h1 := (N _ ha).1
  have h2 := (N _ hb).1
  simp only at h1 h2
  rw [show a = b from e, h2] at h1
  exact hc (by rw [Option.some.inj h1])
theorem tup_news {a : Addr} {its : Array Value} {k : Nat} (N : News h₀ L h news) (hm : (a, ({ cls := .type "tuple", data := .seq its k } : Obj)) ∈ news) : IsTup h a its := ⟨_, (N _ hm).1, rfl, k, rfl⟩
theorem news_ne {d : Addr} (N : News h₀ L h news) (hn : h.get? d = none) : ∀ p ∈ news, p.1 ≠ d := fun p hp e => by
  have := (N p hp).1; rw [e, hn] at this; cases this
theorem news_new2 {a d : Addr} {oa od : Obj} (F : Fr h₀ L h m) (N : News h₀ L h news) (hk : ∀ b x, h.get? b = some x → h'.get? b = some x) (hna : h.get? a = none) (hga : h'.get? a = some oa) (hnd : h.get? d = none) (hgd : h'.get? d = some od) :
    News h₀ L h' ((a, oa) :: (d, od) :: news) := by
  have N1 := news_new F N hk hnd hgd
  have N2 := news_new F N hk hna hga
  intro p hp
  rcases List.mem_cons.mp hp with rfl | hp
  · exact N2 _ (.head _)
  · exact N1 p hp
end

theorem insI_led {prog : Program} {w : World} {loose : List Str} {mean : ExcName → Option Value} {mg mb : Str → Option Value} {dp un : Nat} {gd : Option (List Code)} {outer : List Env} {s : Shared} {h₀ : Heap} {L : Addr} {m : Str → Option Value} {news : List (Addr × Obj)} {g : Obj → List (Addr × Obj)}
    {Q : Value → Shared → Prop} {E : Value → Shared → Prop} {l : Addr} {vs : List Value} {xs : List Int} {k : Nat} {x : Int} {tx : Tok}
    (F : Fr h₀ L s.heap m) (N : News h₀ L s.heap news) (U : UpdF l (listOf vs.toArray k) news g) (X : (hd.heap_39 w.params).In h₀) (T : Top topProg loose mean mg mb h₀)
    (hi : IntsAre vs xs) (hlen : xs.length < 1000) (hdp : dp + 2 < recursionLimit)
    (ret : ∀ vs' k' h' tk', Fr h₀ L h' m → News h₀ L h' (g (listOf vs'.toArray k')) → IntsAre vs' (insF xs x) → Q .none { s with heap := h', toks := tk' }) :
    wpAny (model prog w) (topA dp un gd outer) (call (.ref 30) [.ref l, .int x tx]) Q E s := by
  obtain ⟨pre, post, rfl, hg, a, b⟩ := U.split
  have hm : (l, listOf vs.toArray k) ∈ pre ++ (l, listOf vs.toArray k) :: post := List.mem_append.mpr (.inr (.head _))
  refine insI_spec (g := s.heap.hide l) (k := k) hide_sub (Nat.le_of_eq (Heap.hide_size _ _)) ?_ (X.keeps (hide_base F N hm)) (T.keeps (hide_base F N hm)) hi hlen hdp ?_
  · intro q hq
    rw [List.mem_singleton.mp hq]
    exact ⟨(N _ hm).1, Heap.hide_self _ _⟩
  · intro vs' k' h' tk' hk hg' hi'
    have up : ∀ b' x', b' ≠ l → s.heap.get? b' = some x' → h'.get? b' = some x' := fun b' x' hb e => hk b' x' ((Heap.hide_ne _ hb).trans e)
    have z := N _ hm
    obtain ⟨oL, es, ep, hL, r⟩ := F.ns
    refine ret vs' k' h' tk' ⟨⟨oL, es, ep, up _ _ (Ne.symm z.2.1) hL, r⟩, fun b' x' e => up b' x' (fun q => by have := z.2.2; simp only at this; rw [← q, e] at this; cases this) (F.keep b' x' e), F.above⟩ ?_ hi'
    rw [hg]
    intro q hq
    rcases List.mem_append.mp hq with hq | hq
    · have n := N q (List.mem_append.mpr (.inl hq)); exact ⟨up _ _ (a q hq) n.1, n.2⟩
    · rcases List.mem_cons.mp hq with rfl | hq
      · exact ⟨hg', z.2⟩
      · have n := N q (List.mem_append.mpr (.inr (.tail _ hq))); exact ⟨up _ _ (b q hq) n.1, n.2⟩

theorem summed_spec {prog : Program} {w : World} {loose : List Str} {mean : ExcName → Option Value} {mg mb : Str → Option Value} {dp un : Nat} {gd : Option (List Code)} {outer : List Env} {s : Shared}
    {Q : Value → Shared → Prop} {E : Value → Shared → Prop} {l : Addr} {vs : List Value} {row : List Int}
    (X : (hd.heap_39 w.params).In s.heap) (T : Top topProg loose mean mg mb s.heap)
    (hl : s.heap.IsList l vs.toArray) (hi : IntsAre vs row) (hlen : row.length < 100)
    (hdp : dp + 3 < recursionLimit)
    (ret : ∀ a' d' o kvs h' tk' k v1 v2 v3 v4, (∀ b o, s.heap.get? b = some o → h'.get? b = some o) → s.heap.get? a' = none → s.heap.get? d' = none → a' ≠ d' →
      h'.get? a' = some { cls := .type "tuple", data := .seq #[.int (summedF row).1 v1, .int (summedF row).2.1 v2, .int (summedF row).2.2.1 v3, .int (summedF row).2.2.2.1 v4, .ref d'] k } →
      h'.get? d' = some o → (d' == sysModules) = false → o.IsDictOf (intKind prog w) kvs → FlatPairs PyData.int kvs (encT (summedF row).2.2.2.2.1) → Q (.ref a') { s with heap := h', toks := tk' }) :
    wpAny (model prog w) (topA dp un gd outer) (call (.ref 86) [.ref l]) Q E s := by
  k_with_none
  k_with "pyIter ref" =>
    refine' forList (fun c : SumC => [(_, listOf c.ve.toArray c.ke), (c.ea, { cls := .type "tuple", data := .seq #[.int c.x1 c.t1, .int c.x2 c.t2, .int c.x3 c.t3, .int c.x4 c.t4, .ref c.da] c.ek }), (c.da, c.od)]) (fun c => [(Str.ofString "entry", .ref c.ea)]) [Str.ofString "pairs"]
      (fun i c => IntsAre c.ve c.xs ∧ c.xs.length ≤ i ∧ c.od.IsDictOf (intKind prog w) c.kv ∧ FlatPairs PyData.int c.kv (encT c.T) ∧ c.T.length ≤ i ∧ (c.da == sysModules) = false ∧ (c.x1, c.x2, c.x3, c.x4, c.T, c.xs) = (row.take i).foldl sumStep (0, 0, 0, 0, [], []))
      ⟨[], _, _, _, _, _, _, _, _, _, [], 0, 0, 0, 0, [], []⟩ ?k0 ?k1 ?k2 ?k3 ?k4 ?k5 ?k6 ?tn ?dn
    (case k0 => rfl)
    (case k1 => exact .inl hl)
    (case k2 => k_asm)
    (case k3 => k_asm)
    (case k4 => kst_all)
    (case k5 => exact ⟨.nil, Nat.le_refl _, by assumption, .nil, Nat.le_refl _, by assumption, rfl⟩)
    (case k6 => exact fun _ _ h => ⟨.inl rfl, .inl rfl, .inl (dict_cls h.2.2.1), trivial⟩)
    (case' tn => rintro I i v ⟨ve, ke, ea, t1, t2, t3, t4, ek, da, od, kv, x1, x2, x3, x4, T9, xs⟩ u hh tkk oI hvi ⟨hP1, hP2, hP3, hP4, hP5, hP6, hP7⟩ hoc hne hFr hNw; obtain ⟨hgt, tv, rfl, hri⟩ := ints_at (xs := row) (by assumption) hvi; have hi9 := (List.getElem?_eq_some_iff.mp hri).1; dsimp only at hP1 hP2 hP3 hP4 hP5 hP6 hP7 hne hFr hNw; simp only [AllNe, and_true] at hne; have hq1 := ne_of_cls hNw (.tail _ (.head _)) (.tail _ (.tail _ (.head _))) (by simp); have hq2 := ne_of_cls hNw (.tail _ (.head _)) (.tail _ (.tail _ (.tail _ (.head _)))) (by rw [dict_type hP3]; simp))
    (case' dn => rintro ⟨ve, ke, ea, t1, t2, t3, t4, ek, da, od, kv, x1, x2, x3, x4, T9, xs⟩ u hh tkk ⟨hP1, hP2, hP3, hP4, hP5, hP6, hP7⟩ hFr hNw; dsimp only at hP1 hP2 hP3 hP4 hP5 hP6 hP7 hFr hNw)
  k_with "call ref" =>
    refine' bisR_spec (xs := xs) ?xa ?ta ?la ?ia ?na ?da9 ?_
    (case xa => exact Frag.In.keeps (by k_asm) (Fr.keep (by k_asm)))
    (case ta => exact Top.keeps (by k_asm) (Fr.keep (by k_asm)))
    (case la => is_list)
    (case ia => assumption)
    (case na => omega)
    (case da9 => ktr_room)
    intro t7 h7 tk7 hk7
    (rename Fr _ _ _ _ => lF)
    (rename News _ _ _ _ => lN)
    have F7 := Fr.keeps lF hk7
    have N7 := News.grown lN hk7
    clear lF lN hk7
    (try dsimp only)
  k_with "call ref" =>
    refine' bisL_spec (xs := xs) ?xb ?tb ?lb ?ib ?nb ?db9 ?_
    (case xb => exact Frag.In.keeps (by k_asm) (Fr.keep (by k_asm)))
    (case tb => exact Top.keeps (by k_asm) (Fr.keep (by k_asm)))
    (case lb => is_list)
    (case ib => assumption)
    (case nb => omega)
    (case db9 => ktr_room)
    intro t8 h8 tk8 hk8
    (rename Fr _ _ _ _ => lF)
    (rename News _ _ _ _ => lN)
    have F8 := Fr.keeps lF hk8
    have N8 := News.grown lN hk8
    clear lF lN hk8
    (try dsimp only)
  k_with "eval Dict" =>
    (k_dflt refine' kdn_eval (knd := intKind prog w) ?eF ?eN ?eb ?ea9 ?el ?ee ?en ?_)
    (case eF => k_asm)
    (case eN => k_asm)
    (case eb => exact Top.nolimit (by k_asm))
    (case ea9 => rfl)
    (case el => rfl)
    (case ee => exact List.cons_ne_nil _ _)
    (case en => exact Nat.le_of_ble_eq_true rfl)
    intro d6 h6 o6 F6 N6 l6 lo6 hd6
    (k_lt l6)
    (try dsimp only)
  k_with "KdnMade" =>
    (k_dflt refine' kdn_made_intF ?mF ?mN ?mU ?md ?mk ?mn ?mv ?_)
    (case mF => k_asm)
    (case mN => k_asm)
    (case mU => k_updF)
    (case md => k_asm)
    (case mk => rfl)
    (case mn => simp [intKeyPairs])
    (case mv => rfl)
    intro h5 o5 F5 N5 hd5 hf5
    (try dsimp only at N5)
  k_with "call ref" =>
    refine' addF_spec (T1 := T9) (T2 := [(hgt, 1)]) ?xc ?tc ?ac ?bc ?pc ?qc ?lc ?mc ?dc9 ?_
    (case xc => exact Frag.In.keeps (by k_asm) (Fr.keep (by k_asm)))
    (case tc => exact Top.keeps (by k_asm) (Fr.keep (by k_asm)))
    (case ac => exact tup_news (by k_asm) (by k_mem))
    (case bc => exact tup_news (by k_asm) (by k_mem))
    (case pc => exact TabAt.ofNews (by k_asm) (by k_mem) hP6 hP3 hP4)
    (case qc => exact TabAt.ofNews (by k_asm) (by k_mem) (by assumption) (by assumption) (by assumption))
    (case lc => omega)
    (case mc => simp)
    (case dc9 => ktr_room)
    intro a4 d4 o4 kv4 h4 tk4 k4 v1 v2 v3 v4 hk4 hna hnd hne4 hga hgd hsd hdd hfd
    (rename Fr _ _ _ _ => lF)
    (rename News _ _ _ _ => lN)
    have F4 := Fr.keeps lF hk4
    have N4 := news_new2 lF lN hk4 hna hga hnd hgd
    have e4 := allNe_of (news_ne lN hna)
    have f4 := allNe_of (news_ne lN hnd)
    simp only [AllNe, and_true] at e4 f4
    clear lF lN hk4
    (try dsimp only)
  k_with "call ref" =>
    (k_dflt refine' insI_led (xs := xs) ?fd ?nd ?ud ?xd ?td ?id9 ?ld ?dd9 ?_)
    (case fd => k_asm)
    (case nd => k_asm)
    (case ud => k_updF)
    (case xd => k_asm)
    (case td => k_asm)
    (case id9 => assumption)
    (case ld => omega)
    (case dd9 => ktr_room)
    intro ve3 k3 h3 tk3 F3 N3 hi3
    (try dsimp only at N3)
    (try dsimp only)
  walk_at "mine enter"
  k_steps
  · rename Fr _ _ _ _ => fE
    rename News _ _ _ _ => nE
    have e1 : vs.length = row.length := IntsAre.length (by assumption)
    rw [e1, List.take_length] at hP7
    rw [show summedF row = (x1, x2, x3, x4, T9, xs) from hP7.symm] at ret
    refine ret ea da od kv _ _ ek t1 t2 t3 t4 fE.keep (nE _ (.tail _ (.head _))).2.2 (nE _ (.tail _ (.tail _ (.head _)))).2.2 ?_ (nE _ (.tail _ (.head _))).1 (nE _ (.tail _ (.tail _ (.head _)))).1 hP6 hP3 hP4
    exact ne_of_cls nE (.tail _ (.head _)) (.tail _ (.tail _ (.head _))) (by rw [dict_type hP3]; simp)
  · dsimp only [TPost]
    refine tend ⟨ve3, k3, a4, v1, v2, v3, v4, k4, d4, o4, kv4, _, _, _, _, mergeT T9 [(hgt, 1)], insF xs hgt⟩ (by k_asm) (by k_asm) (by kst_in) (by kst_in) (by kst_all) (by walk_at "mine same") ⟨hi3, ?_, hdd, hfd, ?_, hsd, ?_⟩
    · have := insF_length xs hgt; dsimp only; omega
    · have := mergeT_length T9 (hgt, 1); dsimp only; omega
    · rw [List.take_add_one, hri]
      simp only [Option.toList_some, List.foldl_append, List.foldl_cons, List.foldl_nil]
      rw [← hP7]
      rfl

end QS
theorem start_QP : True := by
  w_top off
  trivial
section QP
open PySem PySem.W PySem.Calls PyProof.Rows
example : PySem.Challenge.rw_qc0007_01 = PySem.Challenge.rw_qc0007_01 ∧ hd.heap_39 = hd.heap_39 := by k_fill; exact ⟨rfl, rfl⟩
theorem enterRest {prog : Program} {w : World} {A : Around} {s : Shared} {K : Frag}
    {p : Program} {loose : List Str} {mean : ExcName → Option Value} {mg mb : Str → Option Value}
    {R : Result → Shared → Prop} {name qual : Str} {params : Arguments} {body : List Stmt} {scope : Scope} {dV kV doc pm cdv ct oc : Value} {an od : Option Addr} {osl : Array (Option Value)} {f : Addr} {args : Args} {vs : List Value} {binds : Value → List (Str × Value)}
    (X : K.In s.heap) (T : Top p loose mean mg mb s.heap)
    (ho : K.lookup f = some ⟨oc, od, .func (fnOf name qual params body scope dV kV doc pm an cdv ct), osl⟩) (hcd : codeIn K cdv qual = true) (hroom : A.depth < recursionLimit)
    (hb : bindArgs (fnOf name qual params body scope dV kV doc pm an cdv ct) args = (newTuple vs >>= fun tup => pure (binds tup))) (hvs : vs.length ≤ sizeLine)
    (hloc : ∀ D : Addr, ∀ y ∈ binds (.ref D), scope.names.lookup y.1 = some .local)
    (h : ∀ D L' h₁, Fr s.heap L' h₁ (fun y => (binds (.ref D)).reverse.lookup y) → News s.heap L' h₁ [(D, ({ cls := .type "tuple", data := .seq vs.toArray } : Obj))] → D < L' →
      wpAny (model prog w) (A.deeper (envOf qual scope L' f cdv)) (execs body (envOf qual scope L' f cdv))
        (fun fl s' => R (.ok (.ret (match fl with | .ret v => v | _ => .none))) s')
        (fun e s' => wpAny (model prog w) (A.deeper (envOf qual scope L' f cdv)) (leaving (envOf qual scope L' f cdv) e) (fun _ s'' => R (.error e) s'') (fun e' s'' => R (.error e') s'') s')
        { s with heap := h₁, toks := s.toks + (binds (.ref D)).length })
    (hco : scope.isCoroutine = false) (hgen : scope.isGenerator = false) (hk : scope.kind = .function)
    (hcell : ∀ x ∈ scope.names, x.2 ≠ .cell) : codeAny (model prog w) A (.call (.ref f) args) R s := by
  refine codeAny_call_function (fd := fnOf name qual params body scope dV kV doc pm an cdv ct) (body := body) hroom (X _ _ ho) rfl hco hgen rfl (codeRec_of X hcd) ?_
  rw [hb]
  refine wpAny_bind (wpAny_newObj_type (wpAny_pure ?_) (by show vs.toArray.size ≤ sizeLine; rw [List.size_toArray]; exact hvs))
  refine wpAny_newFunctionEnv hcell (hloc _) (fun h₁ hns hsb => ⟨(T.nolimit.keeps fun b x hb => Heap.get?_push_of_some _ hb).fresh _ hsb, codeAny_func ?_⟩) hk
  have hk₁ : ∀ b o, (s.heap.push { cls := .type "tuple", data := .seq vs.toArray }).get? b = some o → h₁.get? b = some o := fun b o e => hsb.extBut b o (Nat.ne_of_lt (Heap.lt_size e)) (Heap.get?_push_of_some _ e)
  have hsz : s.heap.objs.size < (s.heap.push ({ cls := .type "tuple", data := .seq vs.toArray } : Obj)).objs.size := by rw [Heap.size_push]; omega
  refine h s.heap.objs.size _ h₁ ⟨hns, fun b o e => hk₁ b o (Heap.get?_push_of_some _ e), Nat.le_of_lt hsz⟩ ?_ hsz
  intro q hq
  rw [List.mem_singleton.mp hq]
  exact ⟨hk₁ _ _ (Heap.get?_push_size _ rfl), Nat.ne_of_lt hsz, Heap.get?_none_of_le (Nat.le_refl _)⟩

def subL (c : Nat) (z : List Nat) : List Nat → List Nat
  | [] => []
  | k :: r => if k = c then z ++ subL c z r else k :: subL c z r
def subO : Option Nat → List Nat → List Nat → List Nat
  | some c, z, t => subL c z t
  | none, _, t => t
def sepO : Option Nat → Str
  | some c => ⟨#[c]⟩
  | none => ⟨#[45, 49]⟩
def replL : List (Option Nat × List Nat) → List Nat → List Nat
  | [], t => t
  | p :: r, t => replL r (subO p.1 p.2 t)
def encP : List (Option Nat × List Nat) → List Str
  | [] => []
  | p :: r => sepO p.1 :: ⟨p.2.toArray⟩ :: encP r

theorem strs_len {vs : List Value} {ys : List Str} (h : StrsAre vs ys) : vs.length = ys.length := by
  induction h with
  | nil => rfl
  | cons y t h ih => simp [ih]
theorem encP_len (ps : List (Option Nat × List Nat)) : (encP ps).length = 2 * ps.length := by
  induction ps with
  | nil => rfl
  | cons p r ih => simp only [encP, List.length_cons, ih]; omega
theorem strs_cons {vs : List Value} {y : Str} {ys : List Str} (h : StrsAre vs (y :: ys)) : ∃ t vs', vs = .str y t :: vs' ∧ StrsAre vs' ys := by
  cases h with
  | cons _ t h => exact ⟨t, _, rfl, h⟩
theorem bind_rest {name qual : Str} {body : List Stmt} {scope : Scope} {kV doc pm cdv ct : Value} {an : Option Addr} {p0 p1 : Pos} {v : Value} {vs : List Value} :
    bindArgs (fnOf name qual { posonlyargs := [], args := [{ arg := Str.ofString "text", annotation := none, pos := p0 }], vararg := some { arg := Str.ofString "pairs", annotation := none, pos := p1 }, kwonlyargs := [], kw_defaults := [], kwarg := none, defaults := [] } body scope .none kV doc pm an cdv ct) ⟨v :: vs, []⟩
      = (newTuple vs >>= fun tup => pure [(Str.ofString "text", v), (Str.ofString "pairs", tup)]) := by
  cases vs with
  | nil => rfl
  | cons a r => rfl

theorem subL_append (c : Nat) (z : List Nat) : ∀ a b : List Nat, subL c z (a ++ b) = subL c z a ++ subL c z b
  | [], _ => rfl
  | k :: r, b => by
    simp only [List.cons_append, subL]
    rw [subL_append c z r b]
    by_cases h : k = c
    · simp [h]
    · simp [h]
theorem subL_free (c : Nat) (z : List Nat) : ∀ l : List Nat, c ∉ l → subL c z l = l
  | [], _ => rfl
  | k :: r, h => by
    have h1 : ¬ k = c := fun e => h (e ▸ List.mem_cons_self ..)
    have h2 : c ∉ r := fun m => h (List.mem_cons_of_mem _ m)
    simp only [subL, if_neg h1, subL_free c z r h2]
theorem sub_join (c : Nat) (z : List Nat) : ∀ parts : List Str, (∀ p ∈ parts, c ∉ p.cps.toList) → subL c z (Str.join ⟨#[c]⟩ parts).cps.toList = (Str.join ⟨z.toArray⟩ parts).cps.toList
  | [], _ => rfl
  | [p], h => subL_free c z _ (h p (List.mem_singleton.mpr rfl))
  | p :: q :: r, h => by
    have ih := sub_join c z (q :: r) fun a ha => h a (List.mem_cons_of_mem _ ha)
    show subL c z (p ++ ⟨#[c]⟩ ++ Str.join ⟨#[c]⟩ (q :: r)).cps.toList = (p ++ ⟨z.toArray⟩ ++ Str.join ⟨z.toArray⟩ (q :: r)).cps.toList
    simp only [Str.cps_append, Array.toList_append]
    rw [subL_append, subL_append, ih, subL_free c z _ (h p (List.mem_cons_self ..))]
    simp [subL]
theorem sepO_len (o : Option Nat) : ((sepO o).length == 0) = false := by cases o <;> rfl
theorem sepO_le (o : Option Nat) : (sepO o).length ≤ 2 := by
  cases o with
  | none => decide
  | some c => show 1 ≤ 2; decide
theorem split_dead (x : Str) (h : 45 ∉ x.cps.toList) : Txt.split x ⟨#[45, 49]⟩ = [x] := by
  have h1 := StrLaws.join_split x ⟨#[45, 49]⟩
  have h2 := split_pos x ⟨#[45, 49]⟩
  revert h1 h2
  generalize Txt.split x ⟨#[45, 49]⟩ = parts
  intro h1 h2
  match parts, h1, h2 with
  | [p], h1, _ => rw [join_one] at h1; rw [h1]
  | p :: q :: r, h1, _ =>
    exfalso
    apply h
    rw [← h1, join_cons_cons]
    simp [Str.cps_append]
theorem join_sub (x : Str) (o : Option Nat) (z : List Nat) (h45 : 45 ∉ x.cps.toList) : Txt.join ⟨z.toArray⟩ (Txt.split x (sepO o)) = ⟨(subO o z x.cps.toList).toArray⟩ := by
  cases o with
  | none =>
    show Builtin.Str.glued _ (Txt.split x ⟨#[45, 49]⟩) = _
    rw [split_dead x h45, StrLaws.glued_eq_join, join_one]
    rfl
  | some c =>
    have h := sub_join c z (Txt.split x ⟨#[c]⟩) (StrLaws.split_free x c)
    rw [StrLaws.join_split] at h
    show Builtin.Str.glued _ (Txt.split x ⟨#[c]⟩) = _
    rw [StrLaws.glued_eq_join]
    apply Str.ext'
    apply Array.toList_inj.mp
    rw [← h]; rfl
theorem split_sum (x y : Str) : ((Txt.split x y).map (·.length)).sum ≤ x.length := by
  have h := len_join_ge_sum y (Txt.split x y)
  have e : Txt.join y (Txt.split x y) = x := by show Builtin.Str.glued _ _ = _; rw [StrLaws.glued_eq_join, StrLaws.join_split]
  rw [e] at h; exact h
theorem subL_length (c : Nat) (z : List Nat) (hz : z.length ≤ 1) : ∀ l : List Nat, (subL c z l).length ≤ l.length
  | [] => Nat.le_refl _
  | k :: r => by
    have := subL_length c z hz r
    simp only [subL]
    split
    · simp only [List.length_append, List.length_cons]; omega
    · simp only [List.length_cons]; omega

theorem subO_length (o : Option Nat) (z : List Nat) (hz : z.length ≤ 1) (l : List Nat) : (subO o z l).length ≤ l.length := by
  cases o with
  | none => exact Nat.le_refl _
  | some c => exact subL_length c z hz l
theorem subO_free (o : Option Nat) (z : List Nat) (hz : 45 ∉ z) (l : List Nat) (h : 45 ∉ l) : 45 ∉ subO o z l := by
  cases o with
  | none => exact h
  | some c =>
    show 45 ∉ subL c z l
    induction l with
    | nil => exact h
    | cons k r ih =>
      have h1 : 45 ≠ k := fun e => h (e ▸ List.mem_cons_self ..)
      have h2 := ih fun m => h (List.mem_cons_of_mem _ m)
      simp only [subL]
      split
      · simp [hz, h2]
      · simp [h1, h2]

section
variable {prog : Program} {w : World} {A : Around} {E : Value → Shared → Prop} {s : Shared} {h₀ : Heap} {L : Addr} {news : List (Addr × Obj)}
theorem join_split_call {D : Addr} {l : List (Str × Tok)} {x : Str} {c : Option Nat} {z : List Nat} {t : Tok} {Q : Value → Shared → Prop} (hl : s.heap.IsList D (strValues l).toArray) (hsp : l.map (·.1) = Txt.split x (sepO c)) (hx : x.cps.size < 100) (h45 : 45 ∉ x.cps.toList) (hz : z.length ≤ 1)
    (h : ∀ t' k, Q (.str ⟨(subO c z x.cps.toList).toArray⟩ t') { s with toks := k }) : wpAny (model prog w) A (call (.builtin "str.join") [.str ⟨z.toArray⟩ t, .ref D]) Q E s := by
  refine join_list hl (strsAre_of_values l) ?_ ?_
  · rw [hsp]
    have h1 := split_sum x (sepO c)
    have h2 := split_le x (sepO c)
    have h3 : (Txt.split x (sepO c)).length * (⟨z.toArray⟩ : Str).length ≤ (x.length + 2) * 1 := Nat.mul_le_mul h2 (by simpa [Str.length] using hz)
    have h4 : x.length = x.cps.size := rfl
    omega
  · intro t' k
    rw [hsp, join_sub x c z h45]
    exact h t' k
theorem tup_in {h : Heap} {a : Addr} {its : Array Value} {k : Nat} (N : News h₀ L h news) (hm : (a, ({ cls := .type "tuple", data := .seq its k } : Obj)) ∈ news) : IsTup h a its := ⟨_, (N _ hm).1, rfl, k, rfl⟩
theorem truthy_tnil {t : Addr} {Q : Bool → Shared → Prop} (ht : IsTup s.heap t ([] : List Value).toArray) (h : Q false { s with toks := s.toks + 1 + 1 }) : wpAny (model prog w) A (truthy (.ref t)) Q E s := truthy_tuple ht (by simp) h
theorem truthy_tcons {t : Addr} {v : Value} {vs : List Value} {Q : Bool → Shared → Prop} (ht : IsTup s.heap t (v :: vs).toArray) (hf : vs.length < 100000) (h : Q true { s with toks := s.toks + 1 + 1 }) : wpAny (model prog w) A (truthy (.ref t)) Q E s :=
  truthy_tuple ht (by simp only [List.size_toArray, List.length_cons]; omega) (by simpa using h)
theorem item_t0 {value slice : Expr} {t : Addr} {v : Value} {vs : List Value} {u : Tok} {Q : Value → Shared → Prop} (ht : IsTup s.heap t (v :: vs).toArray) (h : Q v s)
    (hs : subscripted slice false (.ref t) (.int 0 u) = operate [.ref t, .int 0 u] (getItem (.ref t) (.int 0 u)) := by with_unfolding_all rfl) (hg : ∀ r, letTemporaryGo value (.ref t) r = pure () := by intro _; with_unfolding_all rfl) :
    wpAny (model prog w) A (subscriptTail value slice (.ref t) (.int 0 u)) Q E s := item_tupleL (j := 0) ht (by decide) (by decide) (by simp [seqIndex?]) rfl h hs hg
theorem item_t1 {value slice : Expr} {t : Addr} {v v' : Value} {vs : List Value} {u : Tok} {Q : Value → Shared → Prop} (ht : IsTup s.heap t (v :: v' :: vs).toArray) (h : Q v' s)
    (hs : subscripted slice false (.ref t) (.int 1 u) = operate [.ref t, .int 1 u] (getItem (.ref t) (.int 1 u)) := by with_unfolding_all rfl) (hg : ∀ r, letTemporaryGo value (.ref t) r = pure () := by intro _; with_unfolding_all rfl) :
    wpAny (model prog w) A (subscriptTail value slice (.ref t) (.int 1 u)) Q E s := item_tupleL (j := 1) ht (by decide) (by decide) (by simp [seqIndex?]; omega) rfl h hs hg
end

theorem repl_spec {prog : Program} {w : World} {loose : List Str} {mean : ExcName → Option Value} {mg mb : Str → Option Value} {dp un : Nat} {gd : Option (List Code)} {outer : List Env} {s : Shared}
    {Q : Value → Shared → Prop} {E : Value → Shared → Prop} {t : Str} {tt : Tok} {vs : List Value} {ps : List (Option Nat × List Nat)}
    (X : (hd.heap_39 w.params).In s.heap) (T : Top topProg loose mean mg mb s.heap)
    (hv : StrsAre vs (encP ps)) (hlen : t.cps.size < 100) (h45 : 45 ∉ t.cps.toList) (hz : ∀ p ∈ ps, p.2.length ≤ 1 ∧ 45 ∉ p.2) (hn : ps.length < 100) (hdp : dp + 1 < recursionLimit)
    (ret : ∀ t' h' tk', (∀ b o, s.heap.get? b = some o → h'.get? b = some o) → Q (.str ⟨(replL ps t.cps.toList).toArray⟩ t') { s with heap := h', toks := tk' }) :
    wpAny (model prog w) (topA dp un gd outer) (call (.ref 21) (.str t tt :: vs)) Q E s := by
  k_with_none
  have hvs : vs.length ≤ sizeLine := by rw [strs_len hv, encP_len, sizeLine_eq]; omega
  k_with "exec While Name cons nil" =>
    refine' loopW (fun c : Str × Tok × Addr × List Value × Nat × List (Option Nat × List Nat) => [(c.2.2.1, { cls := .type "tuple", data := .seq c.2.2.2.1.toArray c.2.2.2.2.1 })]) (fun c => [(Str.ofString "text", .str c.1 c.2.1), (Str.ofString "pairs", .ref c.2.2.1)]) []
      (fun i c => StrsAre c.2.2.2.1 (encP c.2.2.2.2.2) ∧ c.2.2.2.2.2.length ≤ i ∧ i < 100 ∧ c.1.cps.size < 100 ∧ 45 ∉ c.1.cps.toList ∧ (∀ p ∈ c.2.2.2.2.2, p.2.length ≤ 1 ∧ 45 ∉ p.2) ∧ replL c.2.2.2.2.2 c.1.cps.toList = replL ps t.cps.toList) ps.length (t, tt, _, vs, _, ps) ?k1 ?k2 ?k3 ?k4 ?tn
    (case k1 => k_asm)
    (case k2 => k_asm)
    (case k3 => kst_all)
    (case k4 => exact ⟨hv, Nat.le_refl _, hn, hlen, h45, hz, rfl⟩)
    (case' tn => rintro i ⟨x, tx, pa, vp, kp, pp⟩ u hh tkk ⟨hA, hB, hB2, hC, hC5, hD, hE⟩ hFr hNw; dsimp only at hA hB hB2 hC hC5 hD hE hNw hFr; simp only [kstB] at hFr; rcases pp with _ | ⟨p, pr⟩ <;> (simp only [encP] at hA); (case' nil => cases hA); (case' cons => obtain ⟨v1, vp', rfl, hA1⟩ := strs_cons hA; clear hA; obtain ⟨v2, vp'', rfl, hA2⟩ := strs_cons hA1; clear hA1; have hse := sepO_len p.1; have hsl := sepO_le p.1))
  k_with "truthy" =>
    dsimp only
    (first
      | (refine truthy_tnil (tup_in (by k_asm) (by k_mem)) ?_)
      | (refine truthy_tcons (tup_in (by k_asm) (by k_mem)) ?tz ?_; (case tz => (have hz9 := strs_len hA2; rw [encP_len] at hz9; have hz8 : pr.length + 1 ≤ i := hB; simp only [List.length_cons]; omega))))
    (try dsimp only)
  k_with "subscriptTail Name Constant ref int" =>
    have hT := tup_in (a := pa) (its := (_ :: _ :: vp'').toArray) (by assumption) (by k_mem)
    (first | (with_reducible refine item_t1 hT ?_) | (with_reducible refine item_t0 hT ?_))
    clear hT
    (try dsimp only)
  k_with "call builtin:str.join" =>
    (with_reducible rename List.map _ _ = _ => hsp)
    (with_reducible refine join_split_call (c := p.1) (z := p.2) (x := x) (by assumption) hsp hC hC5 (hD p List.mem_cons_self).1 ?_)
    intro t7 k7
    (try dsimp only)
  k_with "subscriptTail Name Slice ref ref" =>
    have hT := tup_in (a := pa) (its := (_ :: _ :: vp'').toArray) (by assumption) (by k_mem)
    refine' slice_tuple_from (a := 2) ?sF ?sN hT (by decide) ?s2 ?_ (by with_unfolding_all rfl) (by intro _; with_unfolding_all rfl) ?s3
    (case sF => k_asm)
    (case sN => k_asm)
    (case s2 => simp)
    (case s3 => (have hz9 := strs_len hA2; rw [encP_len] at hz9; have hz8 : pr.length + 1 ≤ i := hB; simp only [List.size_toArray, List.length_cons, sizeLine_eq]; omega))
    intro h6 F6 N6
    clear hT
    (try dsimp only at N6)
    (try dsimp only)
  refine wpAny_call ?_
  k_dflt (refine' enterRest (vs := vs) ?k4 ?k5 ?k6 ?k7 ?k8 bind_rest ?kG ?kB ?_ ?c2 ?c3 ?c4 ?c5; (case k4 => k_asm); (case k5 => k_asm); (case k6 => k_is); (case k7 => k_is); (case k8 => ktr_room); (case kG => exact hvs); (case kB => exact fun _ => locs rfl); (case c5 => decide); (case c2 => exact rfl); (case c3 => exact rfl); (case c4 => exact rfl); k_whole; intro D' L' h' F' N' l0'; (try dsimp only); (try k_fold))
  k_steps
  · dsimp only [TPost]
    have hB' : pr.length + 1 ≤ i := hB
    refine tend (⟨(subO p.1 p.2 x.cps.toList).toArray⟩, _, _, vp'', _, pr) (by k_asm) (by k_asm) (by kst_in) (fun _ h => nomatch h) (by kst_all) (by walk_at "mine same") ⟨i - 1, by omega, hA2, by dsimp only; omega, by omega, ?_, subO_free p.1 p.2 (hD p List.mem_cons_self).2 _ hC5, fun q hq => hD q (List.mem_cons_of_mem _ hq), ?_⟩
    · have := subO_length p.1 p.2 (hD p List.mem_cons_self).1 x.cps.toList
      have e : x.cps.toList.length = x.cps.size := rfl
      simp only [List.size_toArray]; omega
    · simpa [replL] using hE
  · rename Fr _ _ _ _ => fE
    have e : x = ⟨(replL ps t.cps.toList).toArray⟩ := by
      have hE' : x.cps.toList = replL ps t.cps.toList := hE
      rw [← hE']
    rw [← e] at ret
    exact ret _ _ _ fE.keep

end QP
theorem start_QX : True := by
  w_top off
  trivial
section QX
open PySem PySem.W PySem.Calls PyProof.Rows
example : PySem.Challenge.rw_qc0007_01 = PySem.Challenge.rw_qc0007_01 ∧ hd.heap_39 = hd.heap_39 := by k_fill; exact ⟨rfl, rfl⟩
theorem seq_list_iadd : seqSlot? (.type "list") (dunderI "add") = pure (some (.builtin "list.__iadd__")) := PySem.seqSlot_of PySem.F.slot_list_iadd.lookup (by decide +kernel)
section
variable {prog : Program} {w : World} {A : Around} {E : Value → Shared → Prop} {s : Shared} {h₀ : Heap} {L D b : Addr} {m : Str → Option Value} {news : List (Addr × Obj)} {g : Obj → List (Addr × Obj)}
theorem inplace_seq {a b : Value} {Q : Value → Shared → Prop} (ha : s.TypeIs a "list") (hb : s.TypeIs b "list")
    (hc : wpAny (model prog w) A (call (.builtin "list.__iadd__") [a, b]) Q E s) : wpAny (model prog w) A (inplaceOp .Add a b) Q E s := by
  unfold inplaceOp
  refine wpAny_holding ?_
  have hfi : fillsInplaceSlot (.type "list") "add" (Operator.Add == .Add) = pure false := by
    unfold fillsInplaceSlot
    show (typeLookup (.type "list") (dunderI "add") >>= fun fi => pure (fi.isSome && !isSeqSlot fi)) = pure false
    rw [PySem.F.slot_list_iadd.lookup]
    show (pure (true && !isSeqSlotId "list.__iadd__") : Sem Bool) = pure false
    rw [show isSeqSlotId "list.__iadd__" = true by decide +kernel]; rfl
  refine wpAny_bind (wpAny_typeOf ha (wpAny_bind (wpAny_of_eq hfi ?_)))
  show wpAny _ A (if false = true then _ else _) Q E s
  rw [if_neg Bool.false_ne_true]
  refine wpAny_bind (binaryOp1_none (nm := "add") ha hb noFill_list_add ?_)
  refine wpAny_bind (wpAny_of_eq seq_list_iadd ?_)
  exact wpAny_bind (wpAny_rule hc)

theorem iadd_lists {its its2 : List Value} {n n2 : Nat} {Q : Value → Shared → Prop} (F : Fr h₀ L s.heap m) (N : News h₀ L s.heap news) (U : UpdF D (listOf its.toArray n) news g) (hb : (b, listOf its2.toArray n2) ∈ news)
    (hz : its.length + its2.length ≤ 100000) (h : ∀ h' n', Fr h₀ L h' m → News h₀ L h' (g (listOf (its ++ its2).toArray n')) → Q (.ref D) { s with heap := h' }) :
    wpAny (model prog w) A (inplaceOp .Add (.ref D) (.ref b)) Q E s := by
  obtain ⟨pre, post, rfl, hg, a, c⟩ := U.split
  have z := N (D, listOf its.toArray n) (List.mem_append.mpr (.inr (.head _)))
  have zb := N _ hb
  refine inplace_seq ⟨_, z.1, rfl⟩ ⟨_, zb.1, rfl⟩ ?_
  refine call_meets PySem.F.slot_list_iadd ⟨_, z.1, rfl⟩ PySem.F.entry_list_iadd (PySem.F.args_list_iadd_2 _ _) (PySem.AutoSeq1.list___iadd___list_list_0 D its.toArray n b its2.toArray n2 ?_ ?_ ?_) ⟨z.1, zb.1, ?_⟩
  · have : Builtin.List.listTooLong (its.toArray.size + its2.toArray.size) = false := by
      unfold Builtin.List.listTooLong
      simp only [List.size_toArray]
      exact decide_eq_false (by have := sizeLine_eq; omega)
    rw [this]; simp
  · simp only [List.size_toArray, sizeLine_eq]; omega
  · simp only [List.size_toArray, sizeLine_eq]; omega
  · refine h _ (if (its.toArray ++ its2.toArray).size == its.toArray.size then n else n + 1) (F.change (Heap.SameBut.update ..) z.2.1 z.2.2) ?_
    rw [hg]
    refine news_set N a c (Heap.SameBut.update ..) ?_
    have q := PySem.IsL.update z.1 (fun x => x ++ its2.toArray)
    rw [show (its ++ its2).toArray = its.toArray ++ its2.toArray by simp]
    exact q
end

end QX
theorem start_QT : True := by
  w_top off
  trivial
section QT
open PySem PySem.W PySem.Calls PyProof.Rows
example : PySem.Challenge.rw_qc0007_01 = PySem.Challenge.rw_qc0007_01 ∧ hd.heap_39 = hd.heap_39 := by k_fill; exact ⟨rfl, rfl⟩
def digits (row : List Int) : List Nat := row.map fun n => 48 + n.toNat
theorem dig_str {n : Int} (h0 : 0 ≤ n) (h1 : n < 10) : Str.ofString (toString n) = ⟨#[48 + n.toNat]⟩ := by
  obtain ⟨k, rfl⟩ := Int.eq_ofNat_of_zero_le h0
  have h : ∀ k : Fin 10, Str.ofString (toString ((k.val : Nat) : Int)) = ⟨#[48 + ((k.val : Nat) : Int).toNat]⟩ := by decide +kernel
  exact h ⟨k, Int.ofNat_lt.mp h1⟩
theorem strs_all {f : Int → Str} : ∀ {row : List Int} {ys : List Value}, ys.length = row.length → (∀ (i : Nat) (y : Value), ys[i]? = some y → ∃ t, y = .str (f (row.getD i 0)) t) → StrsAre ys (row.map f)
  | [], [], _, _ => .nil
  | [], _ :: _, h, _ => by simp at h
  | _ :: _, [], h, _ => by simp at h
  | n :: r, y :: ys, h, ha => by
    obtain ⟨t, e⟩ := ha 0 y rfl
    simp at e
    subst e
    exact .cons _ t (strs_all (by simpa using h) fun i y' hy => by simpa using ha (i + 1) y' (by simpa using hy))
theorem join_dig : ∀ row : List Int, (∀ x ∈ row, 0 ≤ x ∧ x < 9) → (Str.join ⟨#[]⟩ (row.map fun n => Str.ofString (toString n))).cps.toList = digits row
  | [], _ => rfl
  | [n], h => by
    have hn := h n List.mem_cons_self
    simp only [List.map_cons, List.map_nil, join_one]
    rw [dig_str hn.1 (by omega)]; rfl
  | n :: k :: r, h => by
    have hn := h n List.mem_cons_self
    have ih := join_dig (k :: r) fun x hx => h x (List.mem_cons_of_mem _ hx)
    simp only [List.map_cons, join_cons_cons] at ih ⊢
    simp only [Str.cps_append, Array.toList_append, ih]
    rw [dig_str hn.1 (by omega)]
    simp [digits]
section
variable {prog : Program} {w : World} {A : Around} {E : Value → Shared → Prop} {s : Shared} {h₀ : Heap} {L : Addr} {news : List (Addr × Obj)}
theorem news_list {h : Heap} {a : Addr} {its : Array Value} {k : Nat} (N : News h₀ L h news) (hm : (a, ({ cls := .type "list", data := .seq its k } : Obj)) ∈ news) : h.IsList a its := ⟨_, (N _ hm).1, rfl, k, rfl⟩
theorem join_digits {D : Addr} {ys vs : List Value} {row : List Int} {t : Tok} {Q : Value → Shared → Prop} (hl : s.heap.IsList D ys.toArray) (hyl : ys.length = vs.toArray.size) (hya : ∀ (i : Nat) (y : Value), ys[i]? = some y → ∃ t, y = .str (Str.ofString (toString (row.getD i 0))) t)
    (hlen : row.length < 50) (hr : ∀ x ∈ row, 0 ≤ x ∧ x < 9) (hi : IntsAre vs row) (h : ∀ t' k, Q (.str ⟨(digits row).toArray⟩ t') { s with toks := k }) : wpAny (model prog w) A (call (.builtin "str.join") [.str (Str.ofString "") t, .ref D]) Q E s := by
  have e0 : Str.ofString "" = ⟨#[]⟩ := by decide +kernel
  rw [e0]
  have hS : StrsAre ys (row.map fun n => Str.ofString (toString n)) := strs_all (f := fun n => Str.ofString (toString n)) (by rw [hyl, List.size_toArray]; exact hi.length) hya
  refine join_list hl (show StrsAre ys.toArray.toList _ from hS) ?_ ?_
  · have h1 : ∀ row : List Int, (∀ x ∈ row, 0 ≤ x ∧ x < 9) → ((row.map fun n => Str.ofString (toString n)).map (·.length)).sum = row.length := by
      intro row
      induction row with
      | nil => intro _; rfl
      | cons n r ih =>
        intro h
        have hn := h n List.mem_cons_self
        simp only [List.map_cons, List.sum_cons, List.length_cons, ih fun x hx => h x (List.mem_cons_of_mem _ hx)]
        rw [dig_str hn.1 (by omega)]
        show 1 + r.length = _
        omega
    rw [h1 row hr]
    show row.length + _ * 0 ≤ _
    omega
  · intro t' k
    have e1 : Txt.join ⟨#[]⟩ (row.map fun n => Str.ofString (toString n)) = ⟨(digits row).toArray⟩ := by
      show Builtin.Str.glued _ _ = _
      rw [StrLaws.glued_eq_join]
      apply Str.ext'
      apply Array.toList_inj.mp
      rw [join_dig row hr]
    rw [e1]; exact h t' k
end

def maxF (row : List Int) : Int := row.foldl (fun a b => if a < b then b else a) 0
theorem maxF_le : ∀ (row : List Int) (a : Int), a ≤ row.foldl (fun a b => if a < b then b else a) a ∧ (∀ x ∈ row, x ≤ row.foldl (fun a b => if a < b then b else a) a) ∧ (row.foldl (fun a b => if a < b then b else a) a = a ∨ row.foldl (fun a b => if a < b then b else a) a ∈ row)
  | [], a => ⟨Int.le_refl _, (fun _ h => nomatch h), .inl rfl⟩
  | y :: r, a => by
    simp only [List.foldl_cons]
    obtain ⟨h1, h2, h3⟩ := maxF_le r (if a < y then y else a)
    have h4 : a ≤ (if a < y then y else a) ∧ y ≤ (if a < y then y else a) := by split <;> omega
    refine ⟨Int.le_trans h4.1 h1, ?_, ?_⟩
    · intro x hx
      rcases List.mem_cons.mp hx with rfl | hx
      · exact Int.le_trans h4.2 h1
      · exact h2 x hx
    · rcases h3 with h3 | h3
      · rw [h3]
        split
        · exact .inr List.mem_cons_self
        · exact .inl rfl
      · exact .inr (List.mem_cons_of_mem _ h3)
theorem max_uniq {row : List Int} {M : Int} (hr : ∀ x ∈ row, 0 ≤ x ∧ x < 9) (h1 : M ∈ row) (h2 : ∀ a ∈ row, a ≤ M) : M = maxF row := by
  obtain ⟨a, b, c⟩ := maxF_le row 0
  have hb := b M h1
  have h0 := (hr M h1).1
  unfold maxF
  rcases c with c | c
  · rw [c] at hb ⊢; omega
  · have := h2 _ c; omega
theorem maxF_range {row : List Int} (hr : ∀ x ∈ row, 0 ≤ x ∧ x < 9) : 0 ≤ maxF row ∧ maxF row < 9 := by
  obtain ⟨a, b, c⟩ := maxF_le row 0
  unfold maxF
  refine ⟨a, ?_⟩
  rcases c with c | c
  · rw [c]; decide
  · exact (hr _ c).2

def sepI (n : Int) : Option Nat := if n < 0 then none else some (48 + n.toNat)
theorem dig_sep {n : Int} (h0 : -1 ≤ n) (h1 : n < 10) : Str.ofString (toString n) = sepO (sepI n) := by
  have : n = -1 ∨ n = 0 ∨ n = 1 ∨ n = 2 ∨ n = 3 ∨ n = 4 ∨ n = 5 ∨ n = 6 ∨ n = 7 ∨ n = 8 ∨ n = 9 := by omega
  rcases this with rfl | rfl | rfl | rfl | rfl | rfl | rfl | rfl | rfl | rfl | rfl <;> decide +kernel
def figsK (k : Int) : Nat → List (Option Nat × List Nat)
  | 0 => []
  | j + 1 => figsK k j ++ (if (j : Int) < k - 1 ∨ (j : Int) > k then [(sepI j, [])] else [])
def pairsK (M k : Int) : List (Option Nat × List Nat) := figsK k (M + 1).toNat ++ [(sepI (k - 1), [114]), (sepI k, [117])]
def toldPart (row : List Int) : Nat → List Nat
  | 0 => []
  | i + 1 => toldPart row i ++ replL (pairsK (maxF row) i) (digits row)
def toldF (row : List Int) : List Nat := toldPart row (maxF row + 2).toNat
theorem news_1 {h₀ h : Heap} {L : Addr} {p : Addr × Obj} {r : List (Addr × Obj)} (N : News h₀ L h (p :: r)) : h.get? p.1 = some p.2 := (N p (.head _)).1

theorem encP_append : ∀ a b : List (Option Nat × List Nat), encP (a ++ b) = encP a ++ encP b
  | [], _ => rfl
  | p :: r, b => by simp only [List.cons_append, encP, encP_append r b]
theorem pairs_strs {vp : List Value} {pp : List (Option Nat × List Nat)} {k M : Int} {t1 t2 t3 t4 : Tok} (h : StrsAre vp (encP pp)) (e : pp = figsK k (M + 1).toNat) (h0 : 0 ≤ k) (h1 : k < 10) :
    StrsAre (vp ++ [.str (Str.ofString (toString (k - 1))) t1, .str (Str.ofString "r") t2, .str (Str.ofString (toString k)) t3, .str (Str.ofString "u") t4]) (encP (pairsK M k)) := by
  unfold pairsK
  rw [encP_append, ← e]
  refine StrsAre.append' h ?_
  simp only [encP]
  rw [dig_sep (n := k - 1) (by omega) (by omega), dig_sep (n := k) (by omega) (by omega), show Str.ofString "r" = ⟨#[114]⟩ by decide +kernel, show Str.ofString "u" = ⟨#[117]⟩ by decide +kernel]
  exact .cons _ _ (.cons _ _ (.cons _ _ (.cons _ _ .nil)))
theorem digits_free (row : List Int) : 45 ∉ (⟨(digits row).toArray⟩ : Str).cps.toList := by
  intro h
  simp only [digits, List.mem_map] at h
  obtain ⟨n, _, e⟩ := h
  omega
theorem pairs_small {pp : List (Option Nat × List Nat)} {k M : Int} (e : pp = figsK k (M + 1).toNat) (h : ∀ p ∈ pp, p.2.length ≤ 1 ∧ 45 ∉ p.2) : ∀ p ∈ pairsK M k, p.2.length ≤ 1 ∧ 45 ∉ p.2 := by
  intro p hp
  unfold pairsK at hp
  rw [← e] at hp
  rcases List.mem_append.mp hp with hp | hp
  · exact h p hp
  · simp only [List.mem_cons, List.not_mem_nil, or_false] at hp
    rcases hp with rfl | rfl <;> simp

theorem replL_length : ∀ (ps : List (Option Nat × List Nat)) (t : List Nat), (∀ p ∈ ps, p.2.length ≤ 1) → (replL ps t).length ≤ t.length
  | [], _, _ => Nat.le_refl _
  | p :: r, t, h => Nat.le_trans (replL_length r _ fun q hq => h q (List.mem_cons_of_mem _ hq)) (subO_length p.1 p.2 (h p List.mem_cons_self) t)
theorem str_app (a b : List Nat) : (⟨a.toArray⟩ : Str) ++ (⟨b.toArray⟩ : Str) = ⟨(a ++ b).toArray⟩ := by
  apply Str.ext'
  simp [Str.cps_append]
theorem figs_strs {vp : List Value} {pp : List (Option Nat × List Nat)} {j : Int} {t1 t2 : Tok} (h : StrsAre vp (encP pp)) (h0 : 0 ≤ j) (h1 : j < 10) :
    StrsAre (vp ++ [.str (Str.ofString (toString j)) t1, .str (Str.ofString "") t2]) (encP (pp ++ [(sepI j, [])])) := by
  rw [encP_append]
  refine StrsAre.append' h ?_
  simp only [encP]
  rw [dig_sep (by omega) h1, show Str.ofString "" = ⟨#[]⟩ by decide +kernel]
  exact .cons _ _ (.cons _ _ .nil)
theorem figs_small {pp : List (Option Nat × List Nat)} {o : Option Nat} (h : ∀ p ∈ pp, p.2.length ≤ 1 ∧ 45 ∉ p.2) : ∀ p ∈ pp ++ [(o, [])], p.2.length ≤ 1 ∧ 45 ∉ p.2 := by
  intro p hp
  rcases List.mem_append.mp hp with hp | hp
  · exact h p hp
  · rw [List.mem_singleton.mp hp]; simp

theorem told_spec {prog : Program} {w : World} {loose : List Str} {mean : ExcName → Option Value} {mg mb : Str → Option Value} {dp un : Nat} {gd : Option (List Code)} {outer : List Env} {s : Shared}
    {Q : Value → Shared → Prop} {E : Value → Shared → Prop} {l : Addr} {vs : List Value} {row : List Int}
    (X : (hd.heap_39 w.params).In s.heap) (T : Top topProg loose mean mg mb s.heap)
    (hl : s.heap.IsList l vs.toArray) (hi : IntsAre vs row) (hlen : row.length < 50) (hpos : 0 < row.length) (hr : ∀ x ∈ row, 0 ≤ x ∧ x < 9)
    (hdp : dp + 2 < recursionLimit) (hun : un + 20 < cLine)
    (ret : ∀ t' h' tk', (∀ b o, s.heap.get? b = some o → h'.get? b = some o) → Q (.str ⟨(toldF row).toArray⟩ t') { s with heap := h', toks := tk' }) :
    wpAny (model prog w) (topA dp un gd outer) (call (.ref 74) [.ref l]) Q E s := by
  k_with_none
  k_with "eval ListComp" =>
    (k_dflt refine' LCg.ListComp_U ?F0 (by rfl) (by decide) (by rfl) (by decide) (by rfl) ?_)
    (case F0 => k_asm)
  k_with "CompSrc" =>
    refine' LCg.CompSrc.base (by rfl) ?cF ?cN hl ?cz ?_
    (case cF => k_asm)
    (case cN => k_asm)
    (case cz => (have := IntsAre.length hi; simp only [List.size_toArray, sizeLine_eq]; omega))
    intro g9
    refine' compAll (fun i y => ∃ t, y = .str (Str.ofString (toString (row.getD i 0))) t) ?tc ?dc
    (case' tc => rintro i v I oI C oC D m₂ ys h9 tk9 E' hi9 hv hC hx F N off ne; obtain ⟨n9, t9, rfl, hri⟩ := IntsAre.at (ns := row) hi i v (by simpa using hv); have hb9 := hr n9 (List.mem_of_getElem? hri); have hb8 := hb9.1; have hb7 := hb9.2; rw [show row.getD i 0 = n9 by simp [List.getD, hri]])
    (case' dc => intro ys hyl hya)
  k_with "call builtin:str.join" =>
    have hL9 := news_list (its := ys.toArray) (by k_asm) (by k_mem)
    (with_reducible refine join_digits (row := row) hL9 hyl hya hlen hr hi ?_)
    clear hL9
    intro t8 k8
    (try dsimp only)
  k_with "call type:range" =>
    obtain rfl := max_uniq hr (by assumption) (by assumption)
    (k_dflt refine' range_L1 ?rF ?rN ?_)
    (case rF => k_asm)
    (case rN => k_asm)
    intro r8 h8 t81 t82 tk8 F8 N8 l8
    (k_lt l8)
    (try dsimp only)
  k_with "pyIter ref" =>
    have hM := maxF_range hr
    have hR8 := news_1 N8
    replace N8 := news_tl N8
    refine' forRange (n := (maxF row + 2).toNat) (fun c : List Nat × Tok => [(_, rng 0 (maxF row + 1) _ _ _), (_, LCg.lst ys)]) (fun c => [(Str.ofString "told", .str ⟨c.1.toArray⟩ c.2)]) [Str.ofString "pairs", Str.ofString "height"] (fun i c => c.1 = toldPart row i ∧ c.1.length ≤ 50 * i) ([], _) ?o0 hR8 ?o1 ?o2 ?o3 ?o4 ?o5 ?o6 ?o7 ?on ?od
    (case o0 => rfl)
    (case o1 => exact small_one (by decide) (by decide) (by omega) (by omega))
    (case o2 => rw [rangeSize_nat]; simp)
    (case o3 => k_asm)
    (case o4 => k_asm)
    (case o5 => kst_all)
    (case o6 => exact ⟨rfl, Nat.le_refl _⟩)
    (case o7 => exact fun _ _ _ => ⟨.inl rfl, .inl rfl, trivial⟩)
    (case' on => rintro I i ta ⟨tc, tt⟩ u hh tkk oI hi9 ⟨hP1, hP2⟩ hoc hne hFr hNw; dsimp only at hP1 hP2 hFr hNw hne; simp only [AllNe, and_true] at hne; simp only [kstB, Int.zero_add] at hFr; have hk9 : (i : Int) < maxF row + 2 := by omega)
    (case' od => rintro ⟨tc, tt⟩ u hh tkk ⟨hP1, hP2⟩ hFr hNw; dsimp only at hP1 hP2 hFr hNw; simp only [kstB] at hFr)
  k_with "pyIter ref" =>
    have hk8 := hk9
    (rename News _ _ _ _ => lN)
    have hR7 := (lN _ (.tail _ (.tail _ (.head _)))).1
    refine' forRange (n := (maxF row + 1).toNat) (fun c : List Value × Nat × List (Option Nat × List Nat) => [(_, listOf c.1.toArray c.2.1), (I, oI), (_, rng 0 (maxF row + 1) _ _ _), (_, LCg.lst ys)]) (fun _ => [(Str.ofString "pairs", .ref _)]) [] (fun j c => StrsAre c.1 (encP c.2.2) ∧ c.2.2 = figsK i j ∧ c.2.2.length ≤ j ∧ (∀ p ∈ c.2.2, p.2.length ≤ 1 ∧ 45 ∉ p.2)) ([], _, []) ?p0 hR7 ?p1 ?p2 ?p3 ?p4 ?p5 ?p6 ?p7 ?pn ?pd
    (case p0 => rfl)
    (case p1 => exact small_one (by decide) (by decide) (by omega) (by omega))
    (case p2 => rw [rangeSize_nat]; simp)
    (case p3 => k_asm)
    (case p4 => exact lN)
    (case p5 => kst_all)
    (case p6 => exact ⟨.nil, rfl, Nat.le_refl _, fun _ h => nomatch h⟩)
    (case p7 => exact fun _ _ _ => ⟨.inl rfl, .inr (by simp), .inl rfl, .inl rfl, trivial⟩)
    (case' pn => rintro I2 j tb ⟨vp, kp, pp⟩ u2 hh2 tkk2 oI2 hj9 ⟨hQ1, hQ2, hQ3, hQ4⟩ hoc2 hne2 hFr2 hNw2; dsimp only at hQ1 hQ2 hQ3 hQ4 hFr2 hNw2 hne2; simp only [AllNe, and_true] at hne2; simp only [kstB, Int.zero_add] at hFr2; have hj8 : (j : Int) < maxF row + 1 := by omega)
    (case' pd => rintro ⟨vp, kp, pp⟩ u2 hh2 tkk2 ⟨hQ1, hQ2, hQ3, hQ4⟩ hFr2 hNw2; dsimp only at hQ1 hQ2 hQ3 hQ4 hFr2 hNw2; simp only [kstB] at hFr2)
  k_with "inplaceOp Add ref ref" =>
    have hvl := strs_len hQ1
    rw [encP_len] at hvl
    (k_dflt refine iadd_lists (its := vp) (by k_asm) (by k_asm) (by k_updF) (by k_mem) (by simp only [List.length_cons, List.length_nil]; omega) ?_)
    intro h5 n5 F5 N5
    (try dsimp only at N5)
    (try dsimp only)
  k_with "StarOf ref" =>
    have hvl := strs_len hQ1
    rw [encP_len] at hvl
    (k_dflt refine star_seq (by k_asm) (by k_asm) (by k_mem) rfl rfl (.inl rfl) rfl (by simp only [List.size_toArray, List.length_append, List.length_cons, List.length_nil, sizeLine_eq]; omega) ?_)
    intro h4 F4 N4
    (try dsimp only)
  k_with "call ref" =>
    simp only [List.nil_append, List.append_nil]
    refine' repl_spec (ps := pairsK (maxF row) i) ?xr ?tr ?vr ?lr ?fr ?zr ?nr ?dr ?_
    (case xr => exact Frag.In.keeps (by k_asm) (Fr.keep (by k_asm)))
    (case tr => exact Top.keeps (by k_asm) (Fr.keep (by k_asm)))
    (case vr => exact pairs_strs hQ1 hQ2 (by omega) (by omega))
    (case lr => simp only [List.size_toArray, digits, List.length_map]; omega)
    (case fr => exact digits_free row)
    (case zr => exact pairs_small hQ2 hQ4)
    (case nr => (have := congrArg List.length hQ2; simp only [pairsK, List.length_append, List.length_cons, List.length_nil, ← hQ2]; omega))
    (case dr => ktr_room)
    intro t3 h3 tk3 hk3
    (rename Fr _ _ _ _ => lF)
    (rename News _ _ _ _ => lN3)
    have F3 := Fr.keeps lF hk3
    have N3 := News.grown lN3 hk3
    clear lF lN3 hk3
    (try dsimp only)
  k_with "inplaceOp Add str str" =>
    have hrl := replL_length (pairsK (maxF row) i) (digits row) (fun p hp => (pairs_small hQ2 hQ4 p hp).1)
    have hdl : (digits row).length = row.length := List.length_map ..
    refine' iadd_str ?_ ?hz9
    (case hz9 => (show tc.toArray.size + (replL (pairsK (maxF row) i) (digits row)).toArray.size ≤ sizeLine; simp only [List.size_toArray, sizeLine_eq]; omega))
    intro t2 k2
    rw [str_app]
    (try dsimp only)
  walk_at "mine enter"
  k_steps
  · rename Fr _ _ _ _ => fE
    rw [show toldF row = tc from hP1.symm] at ret
    exact ret _ _ _ fE.keep
  · dsimp only [TPost]
    have hrl := replL_length (pairsK (maxF row) i) (digits row) (fun p hp => (pairs_small hQ2 hQ4 p hp).1)
    have hdl : (digits row).length = row.length := List.length_map ..
    refine tend (tc ++ replL (pairsK (maxF row) i) (digits row), _) (by k_asm) (by k_asm) (by kst_in) (by kst_in) (by kst_all) (by walk_at "mine same") ⟨?_, ?_⟩
    · show tc ++ _ = toldPart row i ++ _
      rw [hP1]
    · simp only [List.length_append]; omega
  · dsimp only [TPost]
    refine tend (vp ++ [_, _], _, pp ++ [(sepI j, [])]) (by k_asm) (by k_asm) (by kst_in) (by kst_in) (by kst_all) (by walk_at "mine same") ⟨figs_strs hQ1 (by omega) (by omega), ?_, ?_, figs_small hQ4⟩
    · show pp ++ _ = figsK i j ++ _
      rw [hQ2, if_pos (Or.inl (by omega))]
    · simp only [List.length_append, List.length_cons, List.length_nil]; omega
  · dsimp only [TPost]
    refine tend (vp ++ [_, _], _, pp ++ [(sepI j, [])]) (by k_asm) (by k_asm) (by kst_in) (by kst_in) (by kst_all) (by walk_at "mine same") ⟨figs_strs hQ1 (by omega) (by omega), ?_, ?_, figs_small hQ4⟩
    · show pp ++ _ = figsK i j ++ _
      rw [hQ2, if_pos (Or.inr (by omega))]
    · simp only [List.length_append, List.length_cons, List.length_nil]; omega
  · dsimp only [TPost]
    refine tend (vp, _, pp) (by k_asm) (by k_asm) (by kst_in) (by kst_in) (by kst_all) (by walk_at "mine same") ⟨hQ1, ?_, by dsimp only; omega, hQ4⟩
    show pp = figsK i j ++ _
    rw [if_neg (by omega), List.append_nil, hQ2]

end QT
theorem start_QK : True := by
  w_top off
  trivial
section QK
open PySem PySem.W PySem.Calls PyProof.Rows
example : PySem.Challenge.rw_qc0007_01 = PySem.Challenge.rw_qc0007_01 ∧ hd.heap_39 = hd.heap_39 := by k_fill; exact ⟨rfl, rfl⟩

/-- the key: a call of it upon a pair hands back the pair's first int -/
def KeyOk (prog : Program) (w : World) (g : Heap) (kf : Addr) : Prop :=
  ∀ (dp un : Nat) (gd : Option (List Code)) (outer : List Env) (s : Shared) (Q E : Value → Shared → Prop) (a : Addr) (n : Int) (t : Tok) (v : Value),
    (∀ b o, g.get? b = some o → s.heap.get? b = some o) → IsTup s.heap a #[.int n t, v] → dp + 1 < recursionLimit →
    (∀ t' h' tk', (∀ b o, s.heap.get? b = some o → h'.get? b = some o) → Q (.int n t') { s with heap := h', toks := tk' }) →
    wpAny (model prog w) (topA dp un gd outer) (call (.ref kf) [.ref a]) Q E s
theorem KeyOk.keeps {prog : Program} {w : World} {g g' : Heap} {kf : Addr} (h : KeyOk prog w g kf) (k : ∀ b o, g.get? b = some o → g'.get? b = some o) : KeyOk prog w g' kf :=
  fun dp un gd outer s Q E a n t v h1 h2 h3 h4 => h dp un gd outer s Q E a n t v (fun b o e => h1 b o (k b o e)) h2 h3 h4

/-- a list of pairs, by their first ints -/
def PairsAt (g : Heap) (vs : List Value) (xs : List Int) : Prop := vs.length = xs.length ∧ ∀ i v, vs[i]? = some v → ∃ a t u, v = .ref a ∧ IsTup g a #[.int (xs.getD i 0) t, u]

theorem fn_keeps {q : Addr} {h h' : Heap} (x : FnAt q h) (k : ∀ b o, h.get? b = some o → h'.get? b = some o) : FnAt q h' := let ⟨oc, od, fd, sl, e⟩ := x; ⟨oc, od, fd, sl, k _ _ e⟩
theorem len_pairs {prog : Program} {w : World} {A : Around} {E : Value → Shared → Prop} {s : Shared} {l : Addr} {vs : List Value} {xs : List Int} {Q : Value → Shared → Prop} (hl : s.heap.IsList l vs.toArray) (hv : vs.length = xs.length) (hx : xs.length < 1000)
    (h : Q (.int (xs.length : Nat) (s.toks + 1)) { s with toks := s.toks + 1 + 1 }) : wpAny (model prog w) A (call (.builtin "len") [.ref l]) Q E s := by
  refine Calls.call_len_list hl (by rw [List.size_toArray]; omega) ?_
  rw [List.size_toArray, hv]
  exact h

theorem bisK_spec {prog : Program} {w : World} {loose : List Str} {mean : ExcName → Option Value} {mg mb : Str → Option Value} {dp un : Nat} {gd : Option (List Code)} {outer : List Env} {s : Shared}
    {Q : Value → Shared → Prop} {E : Value → Shared → Prop} {l kf : Addr} {vs : List Value} {xs : List Int} {x : Int} {tx t0 : Tok}
    (X : (hd.heap_39 w.params).In s.heap) (T : Top topProg loose mean mg mb s.heap) (hK : KeyOk prog w s.heap kf) (hF : FnAt kf s.heap)
    (hl : s.heap.IsList l vs.toArray) (hi : PairsAt s.heap vs xs) (hlen : xs.length < 1000) (hdp : dp + 2 < recursionLimit)
    (ret : ∀ t h' tk', (∀ b o, s.heap.get? b = some o → h'.get? b = some o) → Q (.int (bisR xs x) t) { s with heap := h', toks := tk' }) :
    wpAny (model prog w) (topA dp un gd outer) (call (.ref 39) [.ref l, .int x tx, .int 0 t0, .none] [(Str.ofString "key", .ref kf)]) Q E s := by
  k_with_none
  have hvl := hi.1
  k_with "exec While Compare cons nil" =>
    refine' loopW (fun _ : Int × Tok × Int × Tok => []) (fun c => [(Str.ofString "lo", .int c.1 c.2.1), (Str.ofString "hi", .int c.2.2.1 c.2.2.2)]) [Str.ofString "mid"] (fun i c => 0 ≤ c.1 ∧ c.1 ≤ c.2.2.1 ∧ c.2.2.1 ≤ (xs.length : Int) ∧ c.2.2.1 - c.1 ≤ (i : Int) ∧ bisRF i xs x c.1 c.2.2.1 = bisR xs x) xs.length (0, _, (xs.length : Int), _) ?k1 ?k2 ?k3 ?k4 ?tn
    (case k1 => k_asm)
    (case k2 => exact News.nil)
    (case k3 => kst_all)
    (case k4 => exact ⟨Int.le_refl _, Int.natCast_nonneg _, Int.le_refl _, by dsimp only; omega, rfl⟩)
    (case' tn => rintro i ⟨lo, tlo, hi', thi⟩ u hh tkk ⟨hA, hB, hC, hD, hE⟩ hFr hNw; dsimp only at hA hB hC hD hE hNw hFr)
  k_with "call builtin:len" =>
    (with_reducible refine len_pairs (xs := xs) (by is_list) hvl hlen ?_)
    (try dsimp only)
  k_with "callWith ref" =>
    (k_dflt refine callWith_F (fn_keeps hF (Fr.keep (by k_asm))) ?_)
  k_with "FnAt" =>
    exact fn_keeps hF (Fr.keep (by k_asm))
  k_with "subscriptTail Name Name ref int" =>
    have hm9 := mid_facts (by assumption : lo < hi')
    have hlt9 : (Int.fdiv (lo + hi') 2).toNat < vs.length := by omega
    obtain ⟨a9, t9, u9, e9, hT9⟩ := hi.2 _ _ (List.getElem?_eq_getElem hlt9)
    refine item_listL (l := vs) (by is_list) (by omega) (by omega) (by rw [List.getElem?_eq_getElem hlt9, e9]) ?_
    (try dsimp only)
  k_with "call ref" =>
    refine hK _ _ _ _ _ _ _ _ _ _ _ (Fr.keep (by k_asm)) (IsTup.keeps hT9 (Fr.keep (by k_asm))) (by ktr_room) ?_
    intro t8 h8 tk8 hk8
    (rename Fr _ _ _ _ => lF)
    (rename News _ _ _ _ => lN)
    have F8 := Fr.keeps lF hk8
    have N8 := News.grown lN hk8
    clear lF lN hk8
    (try dsimp only)
  walk_at "mine enter"
  k_steps
  · dsimp only [TPost]
    have hm := mid_facts (by assumption : lo < hi')
    obtain ⟨j, hj, hj1, hj2⟩ := bisRF_dn hE (by assumption) hD (by assumption)
    exact tend (lo, _, Int.fdiv (lo + hi') 2, _) (by k_asm) News.nil (fun _ h => nomatch h) (fun _ h => nomatch h) (by kst_all) (by walk_at "mine same") ⟨j, hj, hA, hm.1, by dsimp only; omega, hj1, hj2⟩
  · dsimp only [TPost]
    have hm := mid_facts (by assumption : lo < hi')
    obtain ⟨j, hj, hj1, hj2⟩ := bisRF_up hE (by assumption) hD (by assumption)
    exact tend (Int.fdiv (lo + hi') 2 + 1, _, hi', _) (by k_asm) News.nil (fun _ h => nomatch h) (fun _ h => nomatch h) (by kst_all) (by walk_at "mine same") ⟨j, hj, by dsimp only; omega, by dsimp only; omega, hC, hj1, hj2⟩
  · rename Fr _ _ _ _ => fE
    have e := bisRF_end hE (by assumption)
    rw [← e] at ret
    exact ret _ _ _ fE.keep
theorem PairsAt.keeps {g g' : Heap} {vs : List Value} {xs : List Int} (h : PairsAt g vs xs) (k : ∀ b o, g.get? b = some o → g'.get? b = some o) : PairsAt g' vs xs :=
  ⟨h.1, fun i v e => let ⟨a, t, u, e1, e2⟩ := h.2 i v e; ⟨a, t, u, e1, e2.keeps k⟩⟩

theorem insK_spec {prog : Program} {w : World} {loose : List Str} {mean : ExcName → Option Value} {mg mb : Str → Option Value} {dp un : Nat} {gd : Option (List Code)} {outer : List Env} {s : Shared} {g : Heap}
    {Q : Value → Shared → Prop} {E : Value → Shared → Prop} {l kf xa : Addr} {vs : List Value} {xs : List Int} {k : Nat} {x : Int} {tx : Tok} {vx : Value}
    (hg : ∀ b o, g.get? b = some o → s.heap.get? b = some o) (hsz : g.objs.size ≤ s.heap.objs.size)
    (hn : ∀ q ∈ [(l, listOf vs.toArray k)], s.heap.get? q.1 = some q.2 ∧ g.get? q.1 = none)
    (X : (hd.heap_39 w.params).In g) (T : Top topProg loose mean mg mb g) (hK : KeyOk prog w g kf) (hF : FnAt kf g)
    (hi : PairsAt g vs xs) (hx : IsTup g xa #[.int x tx, vx]) (hlen : xs.length < 1000) (hdp : dp + 3 < recursionLimit)
    (ret : ∀ k' h' tk', (∀ b o, g.get? b = some o → h'.get? b = some o) → h'.get? l = some (listOf (kl_ins vs (bisR xs x) (.ref xa)).toArray k') → Q .none { s with heap := h', toks := tk' }) :
    wpAny (model prog w) (topA dp un gd outer) (call (.ref 30) [.ref l, .ref xa] [(Str.ofString "key", .ref kf)]) Q E s := by
  k_with_none
  have hvl := hi.1
  k_with "callWith ref" =>
    (k_dflt refine callWith_F (fn_keeps hF (Fr.keep (by k_asm))) ?_)
  k_with "FnAt" =>
    exact fn_keeps hF (Fr.keep (by k_asm))
  k_with "call ref" =>
    refine hK _ _ _ _ _ _ _ _ _ _ _ (Fr.keep (by k_asm)) (IsTup.keeps hx (Fr.keep (by k_asm))) (by ktr_room) ?_
    intro t8 h8 tk8 hk8
    (rename Fr _ _ _ _ => lF)
    (rename News _ _ _ _ => lN)
    have F8 := Fr.keeps lF hk8
    have N8 := News.grown lN hk8
    clear lF lN hk8
    (try dsimp only)
  k_with "call ref" =>
    refine bisK_spec (xs := xs) (vs := vs) (Frag.In.keeps (by k_asm) (Fr.keep (by k_asm))) (Top.keeps (by k_asm) (Fr.keep (by k_asm))) (hK.keeps (Fr.keep (by k_asm))) (fn_keeps hF (Fr.keep (by k_asm))) (by is_list) (hi.keeps (Fr.keep (by k_asm))) hlen (by ktr_room) ?_
    intro t9 h9 tk9 hk9
    (rename Fr _ _ _ _ => lF)
    (rename News _ _ _ _ => lN)
    have F9 := Fr.keeps lF hk9
    have N9 := News.grown lN hk9
    clear lF lN hk9
    have hb9 := bisR_range xs x
    (try dsimp only)
  k_with "call builtin:list.insert" =>
    refine' kl_insert ?F ?N ?f rfl ?U ?z ?_
    (case F => k_asm)
    (case N => k_asm)
    (case U => k_upd)
    (case f => exact fits_of (by omega) (by omega))
    (case z => (simp only [sizeLine_eq]; omega))
    intro h7 F7 N7
    (try dsimp only)
  walk_at "mine enter"
  k_steps
  exact ret _ _ _ F7.keep (N7 _ (.head _)).1

end QK
theorem start_QH : True := by
  w_top off
  trivial
section QH
open PySem PySem.W PySem.Calls PyProof.Rows
example : PySem.Challenge.rw_qc0007_01 = PySem.Challenge.rw_qc0007_01 ∧ hd.heap_39 = hd.heap_39 := by k_fill; exact ⟨rfl, rfl⟩
def hStep (r : List Int) (x : Int) : List Int := r ++ [Int.fmod x (r.getD (-1 + (r.length : Int)).toNat 0 + 2)]
def heightsF (xs : List Int) : List Int := xs.foldl hStep [0, 1, 2, 0, 1]

theorem hStep_get (r : List Int) (x : Int) : (hStep r x).getD (-1 + ((hStep r x).length : Int)).toNat 0 = Int.fmod x (r.getD (-1 + (r.length : Int)).toNat 0 + 2) := by
  have e : (-1 + ((hStep r x).length : Int)).toNat = r.length := by unfold hStep; simp only [List.length_append, List.length_cons, List.length_nil]; omega
  rw [e]
  unfold hStep
  simp
theorem heights_spec {prog : Program} {w : World} {loose : List Str} {mean : ExcName → Option Value} {mg mb : Str → Option Value} {dp un : Nat} {gd : Option (List Code)} {outer : List Env} {s : Shared}
    {Q : Value → Shared → Prop} {E : Value → Shared → Prop} {l : Addr} {vs : List Value} {xs : List Int}
    (X : (hd.heap_39 w.params).In s.heap) (T : Top topProg loose mean mg mb s.heap)
    (hl : s.heap.IsList l vs.toArray) (hi : IntsAre vs xs) (hlen : xs.length < 1000)
    (hdp : dp + 1 < recursionLimit)
    (ret : ∀ l' vs' k h' tk', (∀ b o, s.heap.get? b = some o → h'.get? b = some o) → s.heap.get? l' = none → h'.get? l' = some (listOf vs'.toArray k) → IntsAre vs' (heightsF (xs.take 5)) → Q (.ref l') { s with heap := h', toks := tk' }) :
    wpAny (model prog w) (topA dp un gd outer) (call (.ref 69) [.ref l]) Q E s := by
  k_with_none
  k_with "pyIter ref" =>
    k_dflt (
      (rename IntsAre _ (List.take 5 xs) => hw9)
      (rename List Value => ws9)
      refine' forList (vs := ws9) (fun c : List Value × List Int × Nat => [(_, listOf ws9.toArray 0), (_, listOf c.1.toArray c.2.2)]) (fun _ => []) []
        (fun i c => IntsAre c.1 c.2.1 ∧ c.2.1.length = 5 + i ∧ 0 ≤ c.2.1.getD (-1 + (c.2.1.length : Int)).toNat 0 ∧ c.2.1.getD (-1 + (c.2.1.length : Int)).toNat 0 ≤ (i : Int) + 1 ∧ c.2.1 = heightsF ((xs.take 5).take i)) (_, [0, 1, 2, 0, 1], 0) ?k0 ?k1 ?k2 ?k3 ?k4 ?k5 ?k6 ?tn ?dn
      (case k2 => k_asm)
      (case k3 => k_asm)
      (case k0 => exact rfl)
      (case k1 => exact .inr ⟨0, fun _ => .head _⟩)
      (case k4 => exact fun _ h => nomatch h)
      (case k5 => exact ⟨by l_ints, rfl, by dsimp only; decide, by dsimp only; decide, by simp [heightsF]⟩)
      (case k6 => exact fun _ _ _ => ⟨.inl rfl, .inl rfl, trivial⟩)
      (case' tn => rintro I i v ⟨vr, rw9, kr⟩ u hh tkk oI hvi ⟨hI, hS, h0, h1, hB⟩ hoc hne hFr hNw; dsimp only at hI hS h0 h1 hB hNw hne; simp only [AllNe, and_true] at hne; simp only [kstB] at hFr; obtain ⟨x9, t9, rfl, hx9⟩ := IntsAre.at hw9 _ _ hvi; have hi9 := (List.getElem?_eq_some_iff.mp hx9).1; rw [List.length_take] at hi9)
      (case' dn => rintro ⟨vr, rw9, kr⟩ u hh tkk ⟨hI, hS, h0, h1, hB⟩ hFr hNw; dsimp only at hI hS h0 h1 hB hNw; simp only [kstB] at hFr))
  walk_at "mine enter"
  k_steps
  · rename Fr _ _ _ _ => fE
    rename News _ _ _ _ => nE
    have hq := IntsAre.length hw9
    rw [hq, List.take_length] at hB
    rw [← hB] at ret
    exact ret _ _ _ _ _ fE.keep (nE _ (.tail _ (.head _))).2.2 (nE _ (.tail _ (.head _))).1 (by assumption)
  · dsimp only [TPost]
    have hm0 := Int.fmod_nonneg_of_pos x9 (show 0 < rw9.getD (-1 + (rw9.length : Int)).toNat 0 + 2 by omega)
    have hm1 := Int.fmod_lt_of_pos x9 (show 0 < rw9.getD (-1 + (rw9.length : Int)).toNat 0 + 2 by omega)
    have hx := hStep_get rw9 x9
    refine tend (_, hStep rw9 x9, _) (by k_asm) (by walk_at "mine n") (by kst_in) (by kst_in) (by kst_all) (by walk_at "mine same") ⟨by unfold hStep; l_ints, ?_, ?_, ?_, ?_⟩
    · show (hStep rw9 x9).length = _
      unfold hStep; simp only [List.length_append, List.length_cons, List.length_nil]; omega
    · dsimp only; rw [hx]; exact hm0
    · dsimp only; rw [hx]; omega
    · show hStep rw9 x9 = _
      rw [List.take_add_one, hx9, hB]
      simp [heightsF]

end QH
theorem start_QJ : True := by
  w_top off
  trivial
section QJ
open PySem PySem.W PySem.Calls PyProof.Rows
example : PySem.Challenge.rw_qc0007_01 = PySem.Challenge.rw_qc0007_01 ∧ hd.heap_39 = hd.heap_39 := by k_fill; exact ⟨rfl, rfl⟩
abbrev lamParams (p : Pos) : Arguments := { posonlyargs := [], args := [{ arg := Str.ofString "step", annotation := none, pos := p }], vararg := none, kwonlyargs := [], kw_defaults := [], kwarg := none, defaults := [] }
abbrev lamBody (p q r : Pos) : Expr := .Subscript (.Name (Str.ofString "step") p) (.Constant (.int 0) 0 q) r
abbrev lamScope : Scope := { kind := ScopeKind.function, names := [(Str.ofString "step", NameKind.local)], isGenerator := false, isCoroutine := false, more := [] }
section
variable {prog : Program} {w : World} {A : Around} {R : Result → Shared → Prop} {s : Shared} {p : Program} {loose : List Str} {mean : ExcName → Option Value} {mg mb : Str → Option Value}
theorem enterLam {name qual : Str} {params : Arguments} {body : Expr} {scope : Scope} {cl : List (Str × Addr)} {pm ctv : Value} {c' f : Addr} {args : Args} {binds : List (Str × Value)}
    (T : Top p loose mean mg mb s.heap)
    (ho : s.heap.get? f = some (kla_obj name qual params body scope cl pm c' ctv)) (hcd : s.heap.CodeRec (.ref c') qual) (hroom : A.depth < recursionLimit)
    (hbind : bindArgs (kla_fn name qual params body scope cl pm (.ref c') ctv) args = pure binds) (hloc : ∀ y ∈ binds, scope.names.lookup y.1 = some .local)
    (h : ∀ L' h₁, Fr s.heap L' h₁ (fun y => binds.reverse.lookup y) → News s.heap L' h₁ [] →
      wpAny (model prog w) (A.deeper (envX qual scope L' f (.ref c') cl)) (eval body (envX qual scope L' f (.ref c') cl))
        (fun v s' => R (.ok (.ret v)) s')
        (fun e s' => wpAny (model prog w) (A.deeper (envX qual scope L' f (.ref c') cl)) (leaving (envX qual scope L' f (.ref c') cl) e) (fun _ s'' => R (.error e) s'') (fun e' s'' => R (.error e') s'') s')
        { s with heap := h₁, toks := s.toks + binds.length })
    (hco : scope.isCoroutine = false) (hgen : scope.isGenerator = false) (hk : scope.kind = .function)
    (hcell : ∀ x ∈ scope.names, x.2 ≠ .cell) : codeAny (model prog w) A (.call (.ref f) args) R s := by
  refine kla_callFunE hroom ho rfl hco hgen rfl hcd ?_
  rw [hbind]
  refine wpAny_pure (wpAny_newFunctionEnv hcell hloc (fun h₁ hns hsb => ⟨(T.nolimit).fresh _ hsb, ?_⟩) hk)
  show codeAny _ _ (.expr body (envX qual scope s.heap.objs.size f (.ref c') cl)) _ _
  have hk₁ : ∀ b o, s.heap.get? b = some o → h₁.get? b = some o := fun b o e => hsb.extBut b o (Nat.ne_of_lt (Heap.lt_size e)) (Heap.get?_push_of_some _ e)
  exact kla_codeExpr (h s.heap.objs.size h₁ ⟨hns, hk₁, Nat.le_refl _⟩ (fun _ hp => nomatch hp))
end
theorem CodeRec_keeps {h h' : Heap} {v : Value} {q : Str} (x : h.CodeRec v q) (k : ∀ b o, h.get? b = some o → h'.get? b = some o) : h'.CodeRec v q :=
  let ⟨c, oc, vs, tq, e1, e2, r⟩ := x; ⟨c, oc, vs, tq, e1, k _ _ e2, r⟩

theorem lam_key {prog : Program} {w : World} {p : Program} {loose : List Str} {mean : ExcName → Option Value} {mg mb : Str → Option Value} {g : Heap} {f c' : Addr} {qual : Str} {p1 p2 p3 p4 : Pos} {pm ctv : Value}
    (T : Top p loose mean mg mb g) (ho : g.get? f = some (kla_obj (Str.ofString "<lambda>") qual (lamParams p1) (lamBody p2 p3 p4) lamScope [] pm c' ctv)) (hcd : g.CodeRec (.ref c') qual) : KeyOk prog w g f := by
  intro dp un gd outer s Q E a n t v hk hT hroom ret
  k_with_none
  k_with "subscriptTail Name Constant ref int" =>
    refine item_tupleT (l := [.int n t, v]) (IsTup.keeps hT (Fr.keep (by k_asm))) (by decide) (by decide) rfl rfl ?_
  refine wpAny_call ?_
  refine enterLam (T.keeps hk) (hk _ _ ho) (CodeRec_keeps hcd hk) (by ktr_room) rfl (locs rfl) ?_ rfl rfl rfl (by decide)
  intro L' h' F' N'
  dsimp only
  k_steps
  exact ret _ _ _ F'.keep

abbrev lamQual : Str := (Str.ofString "_law_laid" ++ Str.ofString ".<locals>.") ++ Str.ofString "<lambda>"
theorem among_snoc (q : Pos) (a b : Int) (c : Value) (l : List Value) (h : TriplesOk l) :
    codeAmong q (l ++ [rawInt a, rawInt b, c]) = (codeAmong q l).or (if a == q.line && b == q.col then some c else none) := by
  fun_induction TriplesOk l with
  | case1 => simp [codeAmong, rawInt]
  | case2 a' t b' u x rest ih =>
    simp only [List.cons_append, codeAmong]
    by_cases hc : (a' == (q.line : Int) && b' == (q.col : Int)) = true
    · rw [if_pos hc, if_pos hc]; rfl
    · rw [if_neg hc, if_neg hc]; exact ih h
  | case3 l h1 h2 => exact h.elim
/-- the table of codes: each of its codes stands on the ledger, under the lambda's name -/
def TabOk (ps : Array Value) (ex : List (Addr × Obj)) : Prop :=
  TriplesOk ps.toList ∧ ∀ q : Pos, codeAmong q ps.toList = none ∨ ∃ c' oc vs t, codeAmong q ps.toList = some (.ref c') ∧ (c', oc) ∈ ex ∧ oc.data = .fields vs ∧ vs[1]? = some (.str lamQual t)
theorem TabOk.nil : TabOk #[] [] := ⟨trivial, fun _ => .inl rfl⟩
theorem TabOk.mono {ps : Array Value} {ex ex' : List (Addr × Obj)} (h : TabOk ps ex) (hs : ∀ p ∈ ex, p ∈ ex') : TabOk ps ex' :=
  ⟨h.1, fun q => (h.2 q).elim .inl fun ⟨c', oc, vs, t, e1, e2, r⟩ => .inr ⟨c', oc, vs, t, e1, hs _ e2, r⟩⟩
theorem TabOk.snoc {ps : Array Value} {ex : List (Addr × Obj)} {a b : Int} {c' : Addr} {oc : Obj} {vs : Array Value} {t : Tok} (h : TabOk ps ex) (h1 : oc.data = .fields vs) (h2 : vs[1]? = some (.str lamQual t)) :
    TabOk (ps ++ #[rawInt a, rawInt b, .ref c']) ((c', oc) :: ex) := by
  have e : (ps ++ #[rawInt a, rawInt b, Value.ref c']).toList = ps.toList ++ [rawInt a, rawInt b, .ref c'] := by simp
  refine ⟨by rw [e]; exact TriplesOk_snoc _ _ _ _ h.1, fun q => ?_⟩
  rw [e, among_snoc _ _ _ _ _ h.1]
  rcases h.2 q with hq | ⟨c2, oc2, vs2, t2, e1, e2, r⟩
  · rw [hq]
    by_cases hc : (a == (q.line : Int) && b == (q.col : Int)) = true
    · rw [if_pos hc]; exact .inr ⟨c', oc, vs, t, rfl, .head _, h1, h2⟩
    · rw [if_neg hc]; exact .inl rfl
  · rw [e1]; exact .inr ⟨c2, oc2, vs2, t2, rfl, .tail _ e2, r⟩

section
variable {M : Model} {A : Around} {E : Value → Shared → Prop} {s : Shared} {h₀ : Heap} {L : Addr} {m mg mb : Str → Option Value} {cs : Scope} {news : List (Addr × Obj)} {g : Obj → List (Addr × Obj)} {p : Program} {loose : List Str} {mean : ExcName → Option Value}
  {ps : Array Value} {pos : Pos} {ex : List (Addr × Obj)} {p1 p2 p3 p4 : Pos} {Q : Value → Shared → Prop}
theorem lam_make (F : Fr h₀ L s.heap m) (N : News h₀ L s.heap news) (T : Top p loose mean mg mb h₀) (C : CodeHd h₀ 78 76) (U : UpdF 76 (tabObj ps) news g) (ht : TabOk ps ex) (hex : ∀ q ∈ ex, q ∈ news)
    (h : ∀ f c' oc ps' pm ctv h' tk, Fr h₀ L h' m → News h₀ L h' ((f, kla_obj (Str.ofString "<lambda>") lamQual (lamParams p1) (lamBody p2 p3 p4) lamScope [] pm c' ctv) :: (c', oc) :: g (tabObj ps')) →
      TabOk ps' ((c', oc) :: ex) → h'.CodeRec (.ref c') lamQual → (∀ q ∈ news, q.1 < f) → ((c', oc) ∈ ex ∨ ∀ q ∈ news, q.1 < c') → c' < f → Q (.ref f) { s with heap := h', toks := tk }) :
    wpAny M A (eval (.Lambda (lamParams p1) (lamBody p2 p3 p4) lamScope pos) (envOf (Str.ofString "_law_laid") cs L 79 (.ref 78))) Q E s := by
  refine kla_eval rfl ?_
  rcases ht.2 pos with hq | ⟨c2, oc2, vs2, t2, e1, e2, d1, d2⟩
  · refine kla_nest (c := 78) (P := 76) F N T C rfl U ht.1 hq rfl ?_
    intro f c' oc vs t ctv h' tk F' N' d1 d2 l1 l2
    exact h f c' oc _ _ ctv h' tk F' N' (ht.snoc d1 d2) ⟨c', oc, vs, t, rfl, (N' _ (.tail _ (.head _))).1, d1, d2⟩ (fun q hq => Nat.lt_trans (l1 q hq) l2) (.inr l1) l2
  · obtain ⟨pre, post, e, hg, a1, a2⟩ := U.split
    refine kla_hit (c := 78) (P := 76) F N T C rfl (by rw [e]; exact List.mem_append_right _ (.head _)) ht.1 e1 rfl ?_
    intro f ctv h' tk F' N' l1
    refine h f c2 oc2 ps ((mg (Str.ofString "__name__")).getD Value.none) ctv h' tk F' ?_ (ht.mono fun q hq => .tail _ hq) ⟨c2, oc2, vs2, t2, rfl, (N' _ (.tail _ (hex _ e2))).1, d1, d2⟩ l1 (.inl e2) (l1 _ (hex _ e2))
    intro q hq
    rcases List.mem_cons.mp hq with rfl | hq
    · exact N' _ (.head _)
    · rcases List.mem_cons.mp hq with rfl | hq
      · exact N' _ (.tail _ (hex _ e2))
      · rw [hg] at hq
        exact N' _ (.tail _ (by rw [e]; exact hq))
end

abbrev tupO (n : Int) (t : Tok) (v : Value) (k : Nat) : Obj := { cls := .type "tuple", data := .seq #[.int n t, v] k }
/-- the items of the list: pairs on the ledger, an int and a sign -/
def PairsIn (ex : List (Addr × Obj)) : List Value → List (Int × Nat) → Prop
  | [], [] => True
  | v :: vs, p :: r => (∃ a t u k, v = .ref a ∧ (a, tupO p.1 t (.str ⟨#[p.2]⟩ u) k) ∈ ex) ∧ PairsIn ex vs r
  | _, _ => False
theorem PairsIn.length {ex : List (Addr × Obj)} : ∀ {vs : List Value} {st : List (Int × Nat)}, PairsIn ex vs st → vs.length = st.length
  | [], [], _ => rfl
  | _ :: _, _ :: _, h => by rw [List.length_cons, List.length_cons, h.2.length]
  | [], _ :: _, h => h.elim
  | _ :: _, [], h => h.elim
theorem PairsIn.mono {ex ex' : List (Addr × Obj)} (hs : ∀ p ∈ ex, p ∈ ex') : ∀ {vs : List Value} {st : List (Int × Nat)}, PairsIn ex vs st → PairsIn ex' vs st
  | [], [], _ => trivial
  | _ :: _, _ :: _, ⟨⟨a, t, u, k, e, hm⟩, h⟩ => ⟨⟨a, t, u, k, e, hs _ hm⟩, PairsIn.mono hs h⟩
  | [], _ :: _, h => h.elim
  | _ :: _, [], h => h.elim
theorem PairsIn.at {ex : List (Addr × Obj)} : ∀ {vs : List Value} {st : List (Int × Nat)}, PairsIn ex vs st → ∀ {i : Nat} {v : Value}, vs[i]? = some v → ∃ p a t u k, st[i]? = some p ∧ v = .ref a ∧ (a, tupO p.1 t (.str ⟨#[p.2]⟩ u) k) ∈ ex
  | [], [], _, _, _, e => by simp at e
  | v :: vs, p :: r, ⟨⟨a, t, u, k, e, hm⟩, h⟩, i, v', e' => by
    cases i with
    | zero => simp at e'; subst e'; exact ⟨p, a, t, u, k, rfl, e, hm⟩
    | succ i => simpa using PairsIn.at h (by simpa using e')
  | [], _ :: _, h, _, _, _ => h.elim
  | _ :: _, [], h, _, _, _ => h.elim
theorem PairsIn.take {ex : List (Addr × Obj)} : ∀ {vs : List Value} {st : List (Int × Nat)}, PairsIn ex vs st → ∀ n, PairsIn ex (vs.take n) (st.take n)
  | [], [], _, n => by simp [PairsIn]
  | v :: vs, p :: r, ⟨h1, h⟩, n => by
    cases n with
    | zero => trivial
    | succ n => exact ⟨h1, PairsIn.take h n⟩
  | [], _ :: _, h, _ => h.elim
  | _ :: _, [], h, _ => h.elim
theorem PairsIn.drop {ex : List (Addr × Obj)} : ∀ {vs : List Value} {st : List (Int × Nat)}, PairsIn ex vs st → ∀ n, PairsIn ex (vs.drop n) (st.drop n)
  | [], [], _, n => by simp [PairsIn]
  | v :: vs, p :: r, ⟨h1, h⟩, n => by
    cases n with
    | zero => exact ⟨h1, h⟩
    | succ n => exact PairsIn.drop h n
  | [], _ :: _, h, _ => h.elim
  | _ :: _, [], h, _ => h.elim
theorem PairsIn.append {ex : List (Addr × Obj)} : ∀ {vs ws : List Value} {st su : List (Int × Nat)}, PairsIn ex vs st → PairsIn ex ws su → PairsIn ex (vs ++ ws) (st ++ su)
  | [], _, [], _, _, h => h
  | _ :: _, _, _ :: _, _, ⟨h1, h⟩, h' => ⟨h1, PairsIn.append h h'⟩
  | [], _, _ :: _, _, h, _ => h.elim
  | _ :: _, _, [], _, h, _ => h.elim
def insP (st : List (Int × Nat)) (p : Int × Nat) : List (Int × Nat) := st.take (bisR (st.map (·.1)) p.1).toNat ++ p :: st.drop (bisR (st.map (·.1)) p.1).toNat
theorem insP_length (st : List (Int × Nat)) (p : Int × Nat) : (insP st p).length = st.length + 1 := by
  unfold insP; simp only [List.length_append, List.length_take, List.length_cons, List.length_drop]; omega
theorem PairsIn.ins {ex : List (Addr × Obj)} {vs : List Value} {st : List (Int × Nat)} (h : PairsIn ex vs st) {xa : Addr} {x : Int} {a : Nat} {t u : Tok} {k : Nat} (hm : (xa, tupO x t (.str ⟨#[a]⟩ u) k) ∈ ex) :
    PairsIn ex (kl_ins vs (bisR (st.map (·.1)) x) (.ref xa)) (insP st (x, a)) := by
  have hb := bisR_range (st.map (·.1)) x
  have hl := h.length
  rw [List.length_map] at hb
  unfold kl_ins insP
  rw [if_neg (by omega), Nat.min_eq_left (by omega)]
  exact (h.take _).append ⟨⟨xa, t, u, k, rfl, hm⟩, h.drop _⟩

theorem insK_led {prog : Program} {w : World} {loose : List Str} {mean : ExcName → Option Value} {mg mb : Str → Option Value} {dp un : Nat} {gd : Option (List Code)} {outer : List Env} {s : Shared} {h₀ : Heap} {L : Addr} {m : Str → Option Value} {news : List (Addr × Obj)} {g : Obj → List (Addr × Obj)}
    {Q : Value → Shared → Prop} {E : Value → Shared → Prop} {l f c' xa : Addr} {vs : List Value} {st : List (Int × Nat)} {k k2 : Nat} {x : Int} {tx : Tok} {vx pm ctv : Value} {ex : List (Addr × Obj)} {p1 p2 p3 p4 : Pos}
    (F : Fr h₀ L s.heap m) (N : News h₀ L s.heap news) (U : UpdF l (listOf vs.toArray k) news g) (X : (hd.heap_39 w.params).In h₀) (T : Top topProg loose mean mg mb h₀)
    (hf : (f, kla_obj (Str.ofString "<lambda>") lamQual (lamParams p1) (lamBody p2 p3 p4) lamScope [] pm c' ctv) ∈ news) (hc : s.heap.CodeRec (.ref c') lamQual)
    (hx : (xa, tupO x tx vx k2) ∈ news) (hex : ∀ q ∈ ex, q ∈ news)
    (hi : PairsIn ex vs st) (hlen : st.length < 1000) (hdp : dp + 3 < recursionLimit)
    (ret : ∀ k' h' tk', Fr h₀ L h' m → News h₀ L h' (g (listOf (kl_ins vs (bisR (st.map (·.1)) x) (.ref xa)).toArray k')) → Q .none { s with heap := h', toks := tk' }) :
    wpAny (model prog w) (topA dp un gd outer) (call (.ref 30) [.ref l, .ref xa] [(Str.ofString "key", .ref f)]) Q E s := by
  obtain ⟨pre, post, rfl, hg, a, b⟩ := U.split
  have hm : (l, listOf vs.toArray k) ∈ pre ++ (l, listOf vs.toArray k) :: post := List.mem_append.mpr (.inr (.head _))
  have hgl := (N _ hm).1
  have tup : ∀ {y : Addr} {n : Int} {t : Tok} {v : Value} {j : Nat}, (y, tupO n t v j) ∈ pre ++ (l, listOf vs.toArray k) :: post → IsTup (s.heap.hide l) y #[.int n t, v] := by
    intro y n t v j hy
    have hgy := (N _ hy).1
    simp only at hgy hgl
    refine ⟨tupO n t v j, ?_, rfl, j, rfl⟩
    rw [Heap.hide_ne _ (fun e : y = l => by rw [e, hgl] at hgy; simp [W.listOf] at hgy)]
    exact hgy
  have hgf := (N _ hf).1
  simp only at hgf hgl
  have hgf' : (s.heap.hide l).get? f = some (kla_obj (Str.ofString "<lambda>") lamQual (lamParams p1) (lamBody p2 p3 p4) lamScope [] pm c' ctv) := by
    rw [Heap.hide_ne _ (fun e : f = l => by rw [e, hgl] at hgf; simp [W.listOf] at hgf)]
    exact hgf
  have hc' : (s.heap.hide l).CodeRec (.ref c') lamQual := by
    obtain ⟨c2, oc, v2, t2, e1, e2, e3, e4⟩ := hc
    refine ⟨c2, oc, v2, t2, e1, ?_, e3, e4⟩
    rw [Heap.hide_ne _ (fun e : c2 = l => by rw [e, hgl] at e2; rw [← Option.some.inj e2] at e3; simp [W.listOf] at e3)]
    exact e2
  have T' : Top topProg loose mean mg mb (s.heap.hide l) := T.keeps (hide_base F N hm)
  refine insK_spec (g := s.heap.hide l) (k := k) (vs := vs) (xs := st.map (·.1)) (x := x) (tx := tx) (vx := vx) hide_sub (Nat.le_of_eq (Heap.hide_size _ _)) ?_ (X.keeps (hide_base F N hm)) T' (lam_key T' hgf' hc') ⟨_, _, _, _, hgf'⟩ ?_ (tup hx) (by rw [List.length_map]; exact hlen) hdp ?_
  · intro q hq
    rw [List.mem_singleton.mp hq]
    exact ⟨(N _ hm).1, Heap.hide_self _ _⟩
  · refine ⟨by rw [List.length_map]; exact hi.length, fun i v e => ?_⟩
    obtain ⟨p, y, t, u, j, e1, e2, e3⟩ := hi.at e
    refine ⟨y, t, .str ⟨#[p.2]⟩ u, e2, ?_⟩
    have e4 : (st.map (·.1)).getD i 0 = p.1 := by simp [List.getD, e1]
    rw [e4]
    exact tup (hex _ e3)
  · intro k' h' tk' hk hg'
    have up : ∀ b' x', b' ≠ l → s.heap.get? b' = some x' → h'.get? b' = some x' := fun b' x' hb e => hk b' x' ((Heap.hide_ne _ hb).trans e)
    have z := N _ hm
    obtain ⟨oL, es, ep, hL, r⟩ := F.ns
    refine ret k' h' tk' ⟨⟨oL, es, ep, up _ _ (Ne.symm z.2.1) hL, r⟩, fun b' x' e => up b' x' (fun q => by have := z.2.2; simp only at this; rw [← q, e] at this; cases this) (F.keep b' x' e), F.above⟩ ?_
    rw [hg]
    intro q hq
    rcases List.mem_append.mp hq with hq | hq
    · have n := N q (List.mem_append.mpr (.inl hq)); exact ⟨up _ _ (a q hq) n.1, n.2⟩
    · rcases List.mem_cons.mp hq with rfl | hq
      · exact ⟨hg', z.2⟩
      · have n := N q (List.mem_append.mpr (.inr (.tail _ hq))); exact ⟨up _ _ (b q hq) n.1, n.2⟩

end QJ
theorem start_QL : True := by
  w_top off
  trivial
section QL
open PySem PySem.W PySem.Calls PyProof.Rows
example : PySem.Challenge.rw_qc0007_01 = PySem.Challenge.rw_qc0007_01 ∧ hd.heap_39 = hd.heap_39 := by k_fill; exact ⟨rfl, rfl⟩
abbrev headOf {h₀ h : Heap} {L a : Addr} {o : Obj} {r : List (Addr × Obj)} (_ : News h₀ L h ((a, o) :: r)) : Addr := a
structure LaidInv (B : Nat) (l0 : Addr) (vl : List Value) (st : List (Int × Nat)) (ps : Array Value) (ex : List (Addr × Obj)) : Prop where
  pairs : PairsIn ex vl st
  tab : TabOk ps ex
  off : ∀ q ∈ ex, q.1 ≠ 76 ∧ q.1 ≠ l0 ∧ B < q.1
theorem updF_of {d : Addr} {o : Obj} {post : List (Addr × Obj)} : ∀ {pre : List (Addr × Obj)}, (∀ p ∈ pre, p.1 ≠ d) → (∀ p ∈ post, p.1 ≠ d) → UpdF d o (pre ++ (d, o) :: post) (fun o' => pre ++ (d, o') :: post)
  | [], _, h2 => .head h2
  | p :: pre, h1, h2 => .tail (h1 p (.head _)) (updF_of (fun q hq => h1 q (.tail _ hq)) h2)
def laidStep (st : List (Int × Nat)) (h : Int) : List (Int × Nat) := insP (insP st (h, 117)) (h + 1, 114)
def laidP (row : List Int) : List (Int × Nat) := row.foldl laidStep []
def laidF (row : List Int) : List Nat := (laidP row).map (·.2)

theorem mem_re {α : Type} {f c D I l t : α} {ex : List α} : ∀ q ∈ I :: l :: t :: D :: c :: ex, q ∈ f :: c :: D :: I :: l :: t :: ex := by
  intro q hq
  simp only [List.mem_cons] at *
  rcases hq with h | h | h | h | h | h <;> simp [h]
theorem news_sub {h₀ h : Heap} {L : Addr} {a b : List (Addr × Obj)} (N : News h₀ L h a) (hs : ∀ q ∈ b, q ∈ a) : News h₀ L h b := fun q hq => N q (hs q hq)
theorem code_off {B : Nat} {l0 : Addr} {vl : List Value} {st : List (Int × Nat)} {ps : Array Value} {ex : List (Addr × Obj)} {c D I : Addr} {oc oD oI ol ot : Obj} (hB : B = I) (lI : LaidInv B l0 vl st ps ex)
    (h : (c, oc) ∈ ex ∨ ∀ q ∈ (D, oD) :: (I, oI) :: (l0, ol) :: ((76 : Addr), ot) :: ex, q.1 < c) : c ≠ 76 ∧ c ≠ l0 ∧ B < c := by
  rcases h with h | h
  · exact lI.off _ h
  · have h1 := h _ (.tail _ (.head _))
    have h2 := h _ (.tail _ (.tail _ (.head _)))
    have h3 := h _ (.tail _ (.tail _ (.tail _ (.head _))))
    exact ⟨Nat.ne_of_gt h3, Nat.ne_of_gt h2, hB ▸ h1⟩
theorem laid_next {h₀ h : Heap} {L I : Addr} {oI : Obj} {k2 : Nat} {B : Nat} {l0 : Addr} {vl : List Value} {st : List (Int × Nat)} {ps ps' : Array Value} {ex : List (Addr × Obj)} (lI : LaidInv B l0 vl st ps ex) {c' D : Addr} {oc : Obj} (hT : TabOk ps' ((c', oc) :: ex)) {x : Int} {t u : Tok} {v : Value} {a k : Nat}
    (_N : News h₀ L h ((I, oI) :: (l0, W.listOf (kl_ins vl (bisR (st.map (·.1)) x) (.ref D)).toArray k2) :: ((76 : Addr), tabObj ps') :: (D, tupO x t v k) :: (c', oc) :: ex)) (hv : v = .str ⟨#[a]⟩ u) (hc : c' ≠ 76 ∧ c' ≠ l0 ∧ B < c') (hD : D ≠ 76 ∧ D ≠ l0 ∧ B < D) : LaidInv B l0 (kl_ins vl (bisR (st.map (·.1)) x) (.ref D)) (insP st (x, a)) ps' ((D, tupO x t v k) :: (c', oc) :: ex) := by
  subst hv
  refine ⟨(lI.pairs.mono fun q hq => .tail _ (.tail _ hq)).ins (.head _), hT.mono fun q hq => .tail _ hq, ?_⟩
  intro q hq
  rcases List.mem_cons.mp hq with rfl | hq
  · exact hD
  · rcases List.mem_cons.mp hq with rfl | hq
    · exact hc
    · exact lI.off q hq
abbrev laid_c {h₀ h : Heap} {L I l0 : Addr} {oI : Obj} {k B : Nat} {vl : List Value} {st : List (Int × Nat)} {ps : Array Value} {ex : List (Addr × Obj)} (_ : News h₀ L h ((I, oI) :: (l0, W.listOf vl.toArray k) :: ((76 : Addr), tabObj ps) :: ex)) (_ : LaidInv B l0 vl st ps ex) : List Value × List (Int × Nat) × Nat × Array Value × List (Addr × Obj) := (vl, st, k, ps, ex)
theorem str_u : Str.ofString "u" = ⟨#[117]⟩ := by decide +kernel
theorem str_r : Str.ofString "r" = ⟨#[114]⟩ := by decide +kernel
theorem strs_all2 {f : Int × Nat → Str} : ∀ {row : List (Int × Nat)} {ys : List Value}, ys.length = row.length → (∀ (i : Nat) (y : Value), ys[i]? = some y → ∃ t, y = .str (f (row.getD i (0, 0))) t) → StrsAre ys (row.map f)
  | [], [], _, _ => .nil
  | [], _ :: _, h, _ => by simp at h
  | _ :: _, [], h, _ => by simp at h
  | n :: r, y :: ys, h, ha => by
    obtain ⟨t, e⟩ := ha 0 y rfl
    simp at e
    subst e
    exact .cons _ t (strs_all2 (by simpa using h) fun i y' hy => by simpa using ha (i + 1) y' (by simpa using hy))
theorem join_sgn : ∀ row : List (Int × Nat), (Str.join ⟨#[]⟩ (row.map fun p => (⟨#[p.2]⟩ : Str))).cps.toList = row.map (·.2)
  | [] => rfl
  | [n] => by simp only [List.map_cons, List.map_nil, join_one]
  | n :: k :: r => by
    have ih := join_sgn (k :: r)
    simp only [List.map_cons, join_cons_cons] at ih ⊢
    simp only [Str.cps_append, Array.toList_append, ih]
    simp
theorem join_signs {prog : Program} {w : World} {A : Around} {E : Value → Shared → Prop} {s : Shared} {D : Addr} {ys : List Value} {st : List (Int × Nat)} {t : Tok} {Q : Value → Shared → Prop} (hl : s.heap.IsList D ys.toArray) (hyl : ys.length = st.length) (hya : ∀ (i : Nat) (y : Value), ys[i]? = some y → ∃ t, y = .str ⟨#[(st.getD i (0, 0)).2]⟩ t)
    (hlen : st.length < 500) (h : ∀ t' k, Q (.str ⟨(st.map (·.2)).toArray⟩ t') { s with toks := k }) : wpAny (model prog w) A (call (.builtin "str.join") [.str (Str.ofString "") t, .ref D]) Q E s := by
  have e0 : Str.ofString "" = ⟨#[]⟩ := by decide +kernel
  rw [e0]
  have hS : StrsAre ys (st.map fun p => (⟨#[p.2]⟩ : Str)) := strs_all2 (f := fun p => ⟨#[p.2]⟩) hyl hya
  refine join_list hl (show StrsAre ys.toArray.toList _ from hS) ?_ ?_
  · have h1 : ∀ row : List (Int × Nat), ((row.map fun p => (⟨#[p.2]⟩ : Str)).map (·.length)).sum = row.length := by
      intro row
      induction row with
      | nil => rfl
      | cons n r ih =>
        simp only [List.map_cons, List.sum_cons, List.length_cons, ih]
        show 1 + r.length = _
        omega
    rw [h1 st]
    show st.length + _ * 0 ≤ _
    omega
  · intro t' k
    have e1 : Txt.join ⟨#[]⟩ (st.map fun p => (⟨#[p.2]⟩ : Str)) = ⟨(st.map (·.2)).toArray⟩ := by
      show Builtin.Str.glued _ _ = _
      rw [StrLaws.glued_eq_join]
      apply Str.ext'
      apply Array.toList_inj.mp
      rw [join_sgn st]
    rw [e1]; exact h t' k

theorem laid_spec {prog : Program} {w : World} {loose : List Str} {mean : ExcName → Option Value} {mg mb : Str → Option Value} {dp un : Nat} {gd : Option (List Code)} {outer : List Env} {s : Shared} {g : Heap}
    {Q : Value → Shared → Prop} {E : Value → Shared → Prop} {l : Addr} {vs : List Value} {row : List Int}
    (hg : ∀ b o, g.get? b = some o → s.heap.get? b = some o) (hsz : g.objs.size ≤ s.heap.objs.size)
    (hn : ∀ q ∈ [((76 : Addr), tabObj #[])], s.heap.get? q.1 = some q.2 ∧ g.get? q.1 = none)
    (X : (hd.heap_39 w.params).In g) (T : Top topProg loose mean mg mb g) (C : CodeHd g 78 76)
    (hl : g.IsList l vs.toArray) (hi : IntsAre vs row) (hlen : row.length < 100)
    (hdp : dp + 4 < recursionLimit)
    (ret : ∀ t' h' tk' ps', (∀ b o, g.get? b = some o → h'.get? b = some o) → h'.get? 76 = some (tabObj ps') → Q (.str ⟨(laidF row).toArray⟩ t') { s with heap := h', toks := tk' }) :
    wpAny (model prog w) (topA dp un gd outer) (call (.ref 79) [.ref l]) Q E s := by
  k_with_none
  k_with "pyIter ref" =>
    k_dflt (
      (rename News _ _ _ _ => lN9)
      (rename Heap => hp9)
      refine' forListI (vs := vs) (fun c : List Value × List (Int × Nat) × Nat × Array Value × List (Addr × Obj) => (_, W.listOf c.1.toArray c.2.2.1) :: ((76 : Addr), tabObj c.2.2.2.1) :: c.2.2.2.2) (fun _ => []) []
        (fun i c => LaidInv hp9.objs.size (headOf lN9) c.1 c.2.1 c.2.2.2.1 c.2.2.2.2 ∧ c.2.1.length = 2 * i ∧ c.2.1 = laidP (row.take i)) ([], [], 0, #[], []) ?k0 ?k1 ?k2 ?k3 ?k4 ?k5 ?k6 ?tn ?dn
      (case k2 => k_asm)
      (case k3 => k_asm)
      (case k0 => exact rfl)
      (case k1 => exact .inl hl)
      (case k4 => exact fun _ h => nomatch h)
      (case k5 => exact ⟨⟨trivial, TabOk.nil, fun _ h => nomatch h⟩, rfl, rfl⟩)
      (case k6 => exact fun i c h q hq => (by
        rcases List.mem_cons.mp hq with rfl | hq
        · exact .inl rfl
        · rcases List.mem_cons.mp hq with rfl | hq
          · exact .inl rfl
          · exact .inr (.inr (h.1.off q hq).2.2)))
      (case' tn => rintro I i v ⟨vl, st, kl, ps, ex⟩ u hh tkk oI hIe hvi ⟨hP1, hP2, hP3⟩ hoc hne hFr hNw; dsimp only [headOf] at hP1 hP2 hP3 hNw hne; simp only [AllNe] at hne; simp only [kstB] at hFr; obtain ⟨x9, t9, rfl, hx9⟩ := ints_at (xs := row) hi hvi; have hi9 := (List.getElem?_eq_some_iff.mp hx9).1; have hBI : hp9.objs.size = I := hIe.symm; have hq9 := ne_of_cls hNw (.tail _ (.head _)) (.tail _ (.tail _ (.head _))) (by simp))
      (case' dn => rintro ⟨vl, st, kl, ps, ex⟩ u hh tkk ⟨hP1, hP2, hP3⟩ hFr hNw; dsimp only [headOf] at hP1 hP2 hP3 hNw; simp only [kstB] at hFr))
  k_with "eval Lambda" =>
    k_dflt (
      (rename LaidInv _ _ _ _ _ _ => lI)
      (rename News _ _ _ _ => lN)
      (rename Fr _ _ _ _ => lF)
      refine' lam_make lF lN T C (updF_of (pre := [_, _, _]) ?u1 ?u2) lI.tab ?u3 ?_
      (case u1 => k_all)
      (case u2 => exact fun q hq => (lI.off q hq).1)
      (case u3 => exact fun q hq => .tail _ (.tail _ (.tail _ (.tail _ hq))))
      intro f8 c8 oc8 ps8 pm8 ctv8 h8 tk8 F8 N8 hT8 hC8 l81 l82 l83
      have hd1 := ltN (l81 _ (.head _))
      have hd2 := ltN (l81 _ (.tail _ (.head _)))
      have hd3 := ltN (l81 _ (.tail _ (.tail _ (.head _))))
      have hd4 := ltN (l81 _ (.tail _ (.tail _ (.tail _ (.head _)))))
      dsimp only at hd1 hd2 hd3 hd4
      have hc8 := code_off hBI lI l82
      dsimp only [List.cons_append, List.nil_append] at N8
      clear lN lF l81 l82)
  k_with "call ref" =>
    k_dflt (
      (rename LaidInv _ _ _ _ _ _ => lI)
      refine' insK_led F8 N8 (updF_of (pre := [_, _, _, _]) ?v1 ?v2) X T (.head _) hC8 (.tail _ (.tail _ (.head _))) ?v3 lI.pairs ?v4 ?v5 ?_
      (case v1 => exact List.forall_mem_cons.mpr ⟨by k_ne, List.forall_mem_cons.mpr ⟨hc8.2.1, List.forall_mem_cons.mpr ⟨by k_ne, List.forall_mem_cons.mpr ⟨by k_ne, List.forall_mem_nil _⟩⟩⟩⟩)
      (case v2 => exact List.forall_mem_cons.mpr ⟨by k_ne, fun q hq => (lI.off q hq).2.1⟩)
      (case v3 => exact fun q hq => .tail _ (.tail _ (.tail _ (.tail _ (.tail _ (.tail _ hq))))))
      (case v4 => first | omega | (rw [insP_length]; omega))
      (case v5 => ktr_room)
      intro k7 h7 tk7 F7 N7
      dsimp only [List.cons_append, List.nil_append] at N7
      replace N7 := news_sub N7 mem_re
      first
        | have I7 := laid_next (a := 117) lI hT8 N7 (by rw [str_u]) hc8 ⟨by k_ne, by k_ne, by refine ltN ?_; rw [hBI]; omega⟩
        | have I7 := laid_next (a := 114) lI hT8 N7 (by rw [str_r]) hc8 ⟨by k_ne, by k_ne, by refine ltN ?_; rw [hBI]; omega⟩
      clear lI hT8 hC8 F8 N8 hd1 hd2 hd3 hd4 hc8)
  k_with "eval ListComp" =>
    (k_dflt refine' LCg.ListComp_U ?F0 (by rfl) (by decide) (by rfl) (by decide) (by rfl) ?_)
    (case F0 => k_asm)
  k_with "CompSrc" =>
    k_dflt (
      refine' LCg.CompSrc.ledger (by rfl) ?cF hNw (.head _) ?cz ?_
      (case cF => k_asm)
      (case cz => (have := hP1.pairs.length; have := IntsAre.length hi; simp only [List.size_toArray, sizeLine_eq]; omega))
      intro g9
      refine' compAll (fun i y => ∃ t, y = .str ⟨#[(st.getD i (0, 0)).2]⟩ t) ?tc ?dc
      (case' tc => rintro i v I oI C oC D m₂ ys h9 tk9 E' hi9 hv hC hx F N off ne; obtain ⟨p9, a9, t9, u9, k9, hri, rfl, hm9⟩ := hP1.pairs.at (by simpa using hv); have hT9 := tup_news N (.tail _ (.tail _ (.tail _ (.tail _ (.tail _ hm9))))); rw [show st.getD i (0, 0) = p9 by simp [List.getD, hri]])
      (case' dc => intro ys hyl hya))
  k_with "subscriptTail Name Constant ref int" =>
    refine item_tupleT (l := [.int p9.1 t9, .str ⟨#[p9.2]⟩ u9]) hT9 (by decide) (by decide) rfl rfl ?_
  k_with "call builtin:str.join" =>
    k_dflt (
      have hL9 := news_list (its := ys.toArray) (by k_asm) (by k_mem)
      refine join_signs (st := st) hL9 (by rw [hyl, List.size_toArray]; exact hP1.pairs.length) hya (by have := IntsAre.length hi; omega) ?_
      clear hL9
      intro t8 k8)
  walk_at "mine enter"
  k_steps
  · rename Fr _ _ _ _ => fE
    rename News _ _ _ _ => nE
    rw [IntsAre.length hi, List.take_length] at hP3
    have e : laidF row = st.map (·.2) := by rw [hP3]; rfl
    rw [e] at ret
    exact ret _ _ _ _ fE.keep (nE _ (.tail _ (.tail _ (.head _)))).1
  · exact ⟨_, _, _, rfl, F, N, off, .inr ⟨_, .head _, rfl, _, rfl⟩, rfl, _, rfl⟩
  · dsimp only [TPost]
    refine tend (laid_c N7 I7) (by k_asm) N7 ?_ (fun q hq => by rw [List.mem_singleton.mp hq]; exact .head _) (fun _ h => nomatch h) (by walk_at "mine same") ⟨I7, ?_, ?_⟩
    · exact fun q hq => .tail _ hq
    · show (insP (insP st (x9, 117)) (x9 + 1, 114)).length = 2 * (i + 1)
      rw [insP_length, insP_length]; omega
    · show insP (insP st (x9, 117)) (x9 + 1, 114) = _
      rw [List.take_add_one, hx9, hP3]
      simp [laidP, laidStep]

end QL
theorem start_QG0 : True := by
  w_top off
  trivial
section QG0
open PySem PySem.W PySem.Calls PyProof.Rows
example : PySem.Challenge.rw_qc0007_01 = PySem.Challenge.rw_qc0007_01 ∧ hd.heap_39 = hd.heap_39 := by k_fill; exact ⟨rfl, rfl⟩

theorem filterMap_range (l : List Nat) : ∀ (n a : Nat), (List.range n).filterMap (fun k => l[a + k]?) = (l.drop a).take n := by
  intro n
  induction n with
  | zero => intro a; simp
  | succ n ih =>
    intro a
    rw [List.range_succ, List.filterMap_append, ih, List.take_add_one, List.getElem?_drop]
    congr 1
theorem clipN (a n : Nat) : max 0 (min (a : Int) (n : Int)) = ((min a n : Nat) : Int) := by
  rcases Nat.le_total a n with q | q
  · rw [Nat.min_eq_left q, Int.min_eq_left (Int.ofNat_le.mpr q)]; exact Int.max_eq_right (Int.natCast_nonneg _)
  · rw [Nat.min_eq_right q, Int.min_eq_right (Int.ofNat_le.mpr q)]; exact Int.max_eq_right (Int.natCast_nonneg _)
theorem subMin {a b n : Nat} (h : a ≤ n) : min b n - min a n = min (b - a) (n - a) := by
  rw [Nat.min_eq_left h, Nat.sub_min_sub_right]
theorem slice_cps (x : Str) {i j : Int} (h0 : 0 ≤ i) (h1 : i ≤ j) : (Txt.slice x (some i) (some j)).cps.toList = (x.cps.toList.drop i.toNat).take (j - i).toNat := by
  obtain ⟨a, rfl⟩ := Int.eq_ofNat_of_zero_le h0
  obtain ⟨b, rfl⟩ := Int.eq_ofNat_of_zero_le (Int.le_trans h0 h1)
  have hx : x.length = x.cps.toList.length := rfl
  rw [Int.toNat_sub, Int.toNat_natCast]
  have e : Builtin.Str.strSliceIndices (some (a : Int)) (some (b : Int)) 1 x.length = (List.range (min (b - a) (x.length - a))).map fun k => a + k := by
    unfold Builtin.Str.strSliceIndices sliceRange
    simp only [show (1 : Int) > 0 by decide, if_true]
    rw [if_neg (Int.not_lt.mpr (Int.natCast_nonneg a)), if_neg (Int.not_lt.mpr (Int.natCast_nonneg b)), clipN, clipN]
    by_cases hlt : min a x.length < min b x.length
    · have ha : a ≤ x.length := by
        rcases Nat.le_total a x.length with q | q
        · exact q
        · rw [Nat.min_eq_right q] at hlt
          exact absurd (Nat.lt_of_lt_of_le hlt (Nat.min_le_right _ _)) (Nat.lt_irrefl _)
      rw [if_pos (Int.ofNat_lt.mpr hlt), Int.add_sub_cancel, Int.ediv_one, Int.toNat_sub, subMin ha]
      apply List.map_congr_left
      intro k hk
      rw [Int.one_mul, ← Int.natCast_add, Int.toNat_natCast, Nat.min_eq_left ha]
    · rw [if_neg (fun q => hlt (Int.ofNat_lt.mp q))]
      have e1 : min (b - a) (x.length - a) = 0 := by
        rcases Nat.le_total a x.length with q | q
        · rw [← subMin q]; exact Nat.sub_eq_zero_of_le (Nat.not_lt.mp hlt)
        · rw [Nat.sub_eq_zero_of_le q]; exact Nat.min_eq_right (Nat.zero_le _)
      rw [e1]; rfl
  have e2 : (Builtin.Str.strSliceIndices (some (a : Int)) (some (b : Int)) 1 x.length).filterMap (x.cps[·]?) = (x.cps.toList.drop a).take (b - a) := by
    rw [e, List.filterMap_map]
    have := filterMap_range x.cps.toList (min (b - a) (x.length - a)) a
    rw [show (x.cps.toList.drop a).take (b - a) = (x.cps.toList.drop a).take (min (b - a) (x.length - a)) by
      rw [hx, ← List.length_drop, List.take_eq_take_iff, Nat.min_assoc, Nat.min_self]]
    rw [← this]
    congr 1
    funext k
    simp
  unfold Txt.slice
  split
  · rename_i h
    simp only [beq_self_eq_true, Bool.true_and, beq_iff_eq] at h
    rw [e, List.length_map, List.length_range] at h
    have : a = 0 ∨ x.length = 0 := by
      rcases Nat.eq_zero_or_pos a with q | q
      · exact .inl q
      · refine .inr (Nat.eq_zero_of_not_pos fun r => ?_)
        exact absurd (Nat.le_trans (Nat.le_of_eq h.symm) (Nat.min_le_right _ _)) (Nat.not_le.mpr (Nat.sub_lt r q))
    rcases this with h2 | h2
    · rw [h2, List.drop_zero]
      rw [h2, Nat.sub_zero, Nat.sub_zero] at h
      exact (List.take_of_length_le (hx ▸ h ▸ Nat.min_le_left _ _)).symm
    · have : x.cps.toList = [] := List.eq_nil_of_length_eq_zero (hx ▸ h2)
      rw [this]; simp
  · show (List.toArray _).toList = _
    rw [e2]

/-- the lengths of a text's pieces between the sign c -/
def lens (c : Nat) : List Nat → List Int
  | [] => [0]
  | k :: r => if k = c then 0 :: lens c r else match lens c r with
    | [] => []
    | h :: t => (h + 1) :: t
theorem lens_free (c : Nat) : ∀ l : List Nat, c ∉ l → lens c l = [(l.length : Int)]
  | [], _ => rfl
  | k :: r, h => by
    have h1 : ¬ k = c := fun e => h (e ▸ List.mem_cons_self ..)
    simp only [lens, if_neg h1, lens_free c r (fun m => h (List.mem_cons_of_mem _ m)), List.length_cons]
    simp
theorem lens_sep (c : Nat) : ∀ (a b : List Nat), c ∉ a → lens c (a ++ c :: b) = (a.length : Int) :: lens c b
  | [], b, _ => by simp [lens]
  | k :: r, b, h => by
    have h1 : ¬ k = c := fun e => h (e ▸ List.mem_cons_self ..)
    simp only [List.cons_append, lens, if_neg h1, lens_sep c r b (fun m => h (List.mem_cons_of_mem _ m)), List.length_cons]
    simp
theorem lens_join (c : Nat) : ∀ parts : List Str, parts ≠ [] → (∀ p ∈ parts, c ∉ p.cps.toList) → lens c (Str.join ⟨#[c]⟩ parts).cps.toList = parts.map fun p => (p.length : Int)
  | [], h, _ => absurd rfl h
  | [p], _, h => by
    rw [join_one, lens_free c _ (h p (List.mem_singleton.mpr rfl))]; rfl
  | p :: q :: r, _, h => by
    have ih := lens_join c (q :: r) (by simp) fun a ha => h a (List.mem_cons_of_mem _ ha)
    rw [join_cons_cons]
    simp only [Str.cps_append, Array.toList_append]
    rw [show (p.cps.toList ++ [c]) ++ (Str.join ⟨#[c]⟩ (q :: r)).cps.toList = p.cps.toList ++ c :: (Str.join ⟨#[c]⟩ (q :: r)).cps.toList by simp]
    rw [lens_sep c _ _ (h p (List.mem_cons_self ..)), ih]
    rfl
theorem lens_split (x : Str) (c : Nat) : (Txt.split x ⟨#[c]⟩).map (fun p => (p.length : Int)) = lens c x.cps.toList := by
  have h := lens_join c (Txt.split x ⟨#[c]⟩) (fun e => by have := split_pos x ⟨#[c]⟩; rw [e] at this; simp at this) (StrLaws.split_free x c)
  rw [← h, StrLaws.join_split]

def gainsF (part : List Nat) : List Int := (lens 114 part).drop 1
def innerGo (k : Int) : List Int → List Int → List Int → Option (List Int)
  | [], fresh, _ => some fresh
  | h :: r, fresh, gains => if h = k - 1 then (match gains with
      | [] => none
      | g :: gs => innerGo k r (fresh ++ [h] ++ List.replicate g.toNat k) gs) else innerGo k r (fresh ++ [h]) gains
def partF (told : List Nat) (steps : List Int) (k at_ : Nat) : List Nat := (told.drop at_).take (steps.getD (k - 1) 0 + steps.getD k 0).toNat
def backGo (told : List Nat) (steps : List Int) : Nat → Nat → List Int → Nat → Option (List Int)
  | 0, _, row, _ => some row
  | n + 1, k, row, at_ => match innerGo k row [] (gainsF (partF told steps k at_)) with
    | none => none
    | some fresh => if fresh.length < 1000 then backGo told steps n (k + 1) fresh (at_ + (partF told steps k at_).length) else none
def backF (told : List Nat) (steps : List Int) : Option (List Int) := backGo told steps (steps.length - 1) 1 (List.replicate (steps.getD 0 0).toNat 0) (steps.getD 0 0).toNat
theorem innerGo_le {k : Int} : ∀ {r fresh gains fr : List Int}, innerGo k r fresh gains = some fr → fresh.length ≤ fr.length
  | [], fresh, gains, fr, h => by simp only [innerGo, Option.some.injEq] at h; rw [h]; exact Nat.le_refl _
  | x :: r, fresh, gains, fr, h => by
    simp only [innerGo] at h
    split at h
    · split at h
      · cases h
      · have := innerGo_le h
        simp only [List.length_append, List.length_cons] at this; omega
    · have := innerGo_le h
      simp only [List.length_append, List.length_cons] at this; omega
theorem innerGo_hit {k x : Int} {r fresh gains fr : List Int} (h : innerGo k (x :: r) fresh gains = some fr) (e : x = k - 1) : ∃ g gs, gains = g :: gs ∧ innerGo k r (fresh ++ [x] ++ List.replicate g.toNat k) gs = some fr := by
  simp only [innerGo, if_pos e] at h
  split at h
  · cases h
  · exact ⟨_, _, rfl, h⟩
theorem innerGo_miss {k x : Int} {r fresh gains fr : List Int} (h : innerGo k (x :: r) fresh gains = some fr) (e : ¬ x = k - 1) : innerGo k r (fresh ++ [x]) gains = some fr := by
  simpa only [innerGo, if_neg e] using h
theorem backGo_step {told : List Nat} {steps : List Int} {n k at_ : Nat} {row r : List Int} (h : backGo told steps (n + 1) k row at_ = some r) :
    ∃ fresh, innerGo k row [] (gainsF (partF told steps k at_)) = some fresh ∧ fresh.length < 1000 ∧ backGo told steps n (k + 1) fresh (at_ + (partF told steps k at_).length) = some r := by
  simp only [backGo] at h
  split at h
  · cases h
  · split at h
    · exact ⟨_, by assumption, by assumption, h⟩
    · cases h
theorem lens_nonneg (c : Nat) : ∀ l : List Nat, ∀ x ∈ lens c l, 0 ≤ x ∧ x ≤ l.length
  | [], x, h => by simp only [lens, List.mem_singleton] at h; subst h; simp
  | k :: r, x, h => by
    have ih := lens_nonneg c r
    simp only [lens] at h
    split at h
    · rcases List.mem_cons.mp h with rfl | h
      · simp only [List.length_cons]; omega
      · have := ih x h; simp only [List.length_cons]; omega
    · split at h
      · cases h
      · rename_i a b e
        rw [e] at ih
        rcases List.mem_cons.mp h with rfl | h
        · have := ih a List.mem_cons_self; simp only [List.length_cons]; omega
        · have := ih x (List.mem_cons_of_mem _ h); simp only [List.length_cons]; omega
theorem lens_length (c : Nat) : ∀ l : List Nat, (lens c l).length ≤ l.length + 1
  | [] => by simp [lens]
  | k :: r => by
    have ih := lens_length c r
    simp only [lens]
    split
    · simp only [List.length_cons]; omega
    · split
      · simp
      · rename_i a b e
        rw [e] at ih
        simp only [List.length_cons] at *; omega
section
variable {prog : Program} {w : World} {A : Around} {E : Value → Shared → Prop} {s : Shared} {h₀ : Heap} {L : Addr} {m : Str → Option Value} {news : List (Addr × Obj)}
theorem foldl_one (v : Value) : ∀ (n : Nat) (acc : Array Value), List.foldl (fun x1 x2 => x1 ++ x2) acc (List.replicate n #[v]) = acc ++ (List.replicate n v).toArray
  | 0, acc => by simp
  | n + 1, acc => by
    rw [List.replicate_succ, List.foldl_cons, foldl_one v n, List.replicate_succ]
    apply Array.toList_inj.mp
    simp
theorem mul_one {l : Addr} {v : Value} {k : Nat} {x : Int} {u : Tok} {Q : Value → Shared → Prop} (F : Fr h₀ L s.heap m) (N : News h₀ L s.heap news) (hl : s.heap.get? l = some (W.listOf #[v] k)) (h0 : 0 ≤ x) (h1 : x < 100000)
    (h : ∀ D h', Fr h₀ L h' m → News h₀ L h' ((D, W.listOf (List.replicate x.toNat v).toArray 0) :: news) → (∀ q ∈ news, q.1 < D) → Q (.ref D) { s with heap := h' }) :
    wpAny (model prog w) A (binaryOp .Mult (.ref l) (.int x u)) Q E s := by
  refine mul_list F N hl (by omega) (by omega) (by simp; omega) fun h' F' N' => ?_
  refine h s.heap.objs.size h' F' ?_ fun q hq => Heap.lt_size (N q hq).1
  have e : List.foldl (fun x1 x2 => x1 ++ x2) #[] (List.replicate (if (#[v] : Array Value).isEmpty = true then 0 else x.toNat) #[v]) = (List.replicate x.toNat v).toArray := by
    rw [foldl_one]; simp
  rw [e] at N'
  exact N'
theorem ints_replicate (a : Int) (t : Tok) : ∀ n : Nat, IntsAre (List.replicate n (.int a t)) (List.replicate n a)
  | 0 => .nil
  | n + 1 => .cons a t (ints_replicate a t n)
end
theorem range_1n {n : Nat} (h : 0 < n) : Builtin.Range.rangeSize 1 (n : Int) 1 = ((n - 1 : Nat) : Int) := by
  unfold Builtin.Range.rangeSize
  simp
  split <;> omega
theorem news_some {h₀ h : Heap} {L : Addr} {a b : List (Addr × Obj)} (N : News h₀ L h a) (hs : ∀ q ∈ b, q ∈ a) : News h₀ L h b := fun q hq => N q (hs q hq)
theorem pick_one (vs : List Value) : slicePick vs.toArray (some 1) none none = (vs.drop 1).toArray := by
  rw [kmk_pick_nat vs.toArray (a := min 1 vs.length) (b := vs.length) (by
    unfold sliceBounds
    simp
    omega)]
  show List.toArray ((vs.drop (min 1 vs.length)).take (vs.length - min 1 vs.length)) = _
  rw [kmk_drop_min, List.take_of_length_le (by rw [List.length_drop]; omega)]
theorem split_D {prog : Program} {w : World} {A : Around} {E : Value → Shared → Prop} {s : Shared} {h₀ : Heap} {L : Addr} {m : Str → Option Value} {news : List (Addr × Obj)} {x y : Str} {c : Nat} {t u : Tok} {Q : Value → Shared → Prop} (F : Fr h₀ L s.heap m) (N : News h₀ L s.heap news) (hy : y = ⟨#[c]⟩) (hx : x.length < 1000)
    (h : ∀ D l h' k, l.map (·.1) = Txt.split x ⟨#[c]⟩ → Fr h₀ L h' m → News h₀ L h' ((D, W.listOf (strValues l).toArray 0) :: news) → (∀ q ∈ news, q.1 < D) → Q (.ref D) { s with heap := h', toks := k }) :
    wpAny (model prog w) A (call (.builtin "str.split") [.str x t, .str y u]) Q E s := by
  subst hy
  exact splitN1 F N rfl (fun l h' k e F' N' => h _ l h' k e F' N' fun q hq => Heap.lt_size (N q hq).1) (by rw [sizeLine_eq]; omega)
theorem vals_at {sl : List (Str × Tok)} {p : Str} (hsp : sl.map (·.1) = Txt.split p ⟨#[114]⟩) {i : Nat} {v : Value} (hv : ((strValues sl).drop 1)[i]? = some v) :
    ∃ x t, v = .str x t ∧ (gainsF p.cps.toList).getD i 0 = (x.length : Int) ∧ x.length ≤ p.length := by
  rw [List.getElem?_drop] at hv
  unfold strValues at hv
  rw [List.getElem?_map] at hv
  cases hq : sl[1 + i]? with
  | none => rw [hq] at hv; cases hv
  | some q =>
    rw [hq] at hv
    obtain ⟨x, t⟩ := q
    have e1 : (Txt.split p ⟨#[114]⟩)[1 + i]? = some x := by rw [← hsp, List.getElem?_map, hq]; rfl
    have e2 : (lens 114 p.cps.toList)[1 + i]? = some (x.length : Int) := by rw [← lens_split, List.getElem?_map, e1]; rfl
    have e3 := lens_nonneg 114 p.cps.toList _ (List.mem_of_getElem? e2)
    refine ⟨x, t, (Option.some.inj hv).symm, ?_, ?_⟩
    · unfold gainsF
      rw [List.getD_eq_getElem?_getD, List.getElem?_drop, e2]; rfl
    · have : p.cps.toList.length = p.length := rfl
      omega
theorem gains_ints {p : Str} {ys : List Value} {sl : List (Str × Tok)} (hsp : sl.map (·.1) = Txt.split p ⟨#[114]⟩) (hyl : ys.length = ((strValues sl).drop 1).toArray.size) (hya : ∀ (i : Nat) (y : Value), ys[i]? = some y → ∃ t, y = .int ((gainsF p.cps.toList).getD i 0) t) : IntsAre ys (gainsF p.cps.toList) := by
  have e : ys.length = (gainsF p.cps.toList).length := by
    rw [hyl, List.size_toArray]
    unfold gainsF
    rw [← lens_split, ← hsp]
    simp [strValues]
  exact ints_all e hya
where ints_all : ∀ {row : List Int} {ys : List Value}, ys.length = row.length → (∀ (i : Nat) (y : Value), ys[i]? = some y → ∃ t, y = .int (row.getD i 0) t) → IntsAre ys row
  | [], [], _, _ => .nil
  | [], _ :: _, h, _ => by simp at h
  | _ :: _, [], h, _ => by simp at h
  | n :: r, y :: ys, h, ha => by
    obtain ⟨t, e⟩ := ha 0 y rfl
    simp at e
    subst e
    exact .cons _ t (ints_all (by simpa using h) fun i y' hy => by simpa using ha (i + 1) y' (by simpa using hy))
theorem ints_cons {vs : List Value} {n : Int} {ns : List Int} (h : IntsAre vs (n :: ns)) : ∃ t vs', vs = .int n t :: vs' ∧ IntsAre vs' ns := by
  cases h with
  | cons _ t h => exact ⟨t, _, rfl, h⟩
theorem gains_ok (l : List Nat) : (∀ g ∈ gainsF l, 0 ≤ g ∧ g ≤ l.length) ∧ (gainsF l).length ≤ l.length := by
  refine ⟨fun g hg => lens_nonneg 114 l g (List.mem_of_mem_drop hg), ?_⟩
  have := lens_length 114 l
  unfold gainsF
  rw [List.length_drop]; omega

end QG0
theorem start_QG : True := by
  w_top off
  trivial
section QG
open PySem PySem.W PySem.Calls PyProof.Rows
example : PySem.Challenge.rw_qc0007_01 = PySem.Challenge.rw_qc0007_01 ∧ hd.heap_39 = hd.heap_39 := by k_fill; exact ⟨rfl, rfl⟩

theorem getD_ok {steps : List Int} (hr : ∀ x ∈ steps, 0 ≤ x ∧ x < 100) (n : Nat) : 0 ≤ steps.getD n 0 ∧ steps.getD n 0 < 100 := by
  by_cases h : n < steps.length
  · rw [List.getD_eq_getElem?_getD, List.getElem?_eq_getElem h]; exact hr _ (List.getElem_mem h)
  · rw [List.getD_eq_getElem?_getD, List.getElem?_eq_none (by omega)]; decide
theorem slice_part (t : Str) (steps : List Int) {i : Nat} {a : Int} (h0 : 0 ≤ a) (h1 : 0 ≤ steps.getD (1 + (i : Int) - 1).toNat 0) (h2 : 0 ≤ steps.getD (1 + (i : Int)).toNat 0) :
    (Txt.slice t (some a) (some (a + steps.getD (1 + (i : Int) - 1).toNat 0 + steps.getD (1 + (i : Int)).toNat 0))).cps.toList = partF t.cps.toList steps (1 + i) a.toNat := by
  rw [slice_cps t h0 (by omega)]
  unfold partF
  rw [show (1 + (i : Int) - 1).toNat = 1 + i - 1 by omega, show (1 + (i : Int)).toNat = 1 + i by omega] at *
  congr 1
  omega
theorem part_len {p : Str} {told : List Nat} {steps : List Int} {k a : Nat} (h : p.cps.toList = partF told steps k a) (ht : told.length < 100) : p.length < 100 ∧ a + p.length ≤ max a told.length ∧ p.length = (partF told steps k a).length := by
  have e : p.length = (partF told steps k a).length := by rw [← h]; rfl
  have e2 : (partF told steps k a).length ≤ told.length - a := by
    unfold partF
    rw [List.length_take, List.length_drop]; omega
  exact ⟨by omega, by omega, e⟩
theorem str_r9 : Str.ofString "r" = ⟨#[114]⟩ := by decide +kernel
theorem drop_at {l : List Int} {j : Nat} {x : Int} (h : l[j]? = some x) : l.drop j = x :: l.drop (j + 1) := by
  obtain ⟨hl, e⟩ := List.getElem?_eq_some_iff.mp h
  rw [List.drop_eq_getElem_cons hl, e]
theorem vals_len {sl : List (Str × Tok)} {p : Str} (hsp : sl.map (·.1) = Txt.split p ⟨#[114]⟩) : ((strValues sl).drop 1).length ≤ p.length + 2 := by
  have h1 := split_le p ⟨#[114]⟩
  have h2 := congrArg List.length hsp
  rw [List.length_map] at h2
  unfold strValues
  rw [List.length_drop, List.length_map]; omega
theorem vals_len0 {sl : List (Str × Tok)} {p : Str} (hsp : sl.map (·.1) = Txt.split p ⟨#[114]⟩) : (strValues sl).length ≤ p.length + 2 := by
  have h1 := split_le p ⟨#[114]⟩
  have h2 := congrArg List.length hsp
  rw [List.length_map] at h2
  unfold strValues
  rw [List.length_map]; omega
abbrev headAd {h₀ h : Heap} {L a : Addr} {o : Obj} {r : List (Addr × Obj)} (_ : News h₀ L h ((a, o) :: r)) : Addr := a
theorem back_spec {prog : Program} {w : World} {loose : List Str} {mean : ExcName → Option Value} {mg mb : Str → Option Value} {dp un : Nat} {gd : Option (List Code)} {outer : List Env} {s : Shared}
    {Q : Value → Shared → Prop} {E : Value → Shared → Prop} {l : Addr} {vs : List Value} {steps r : List Int} {t : Str} {tt : Tok}
    (X : (hd.heap_39 w.params).In s.heap) (T : Top topProg loose mean mg mb s.heap)
    (hl : s.heap.IsList l vs.toArray) (hi : IntsAre vs steps) (hlen : steps.length < 100) (hpos : 0 < steps.length) (hr : ∀ x ∈ steps, 0 ≤ x ∧ x < 100) (ht : t.cps.size < 100) (hb : backF t.cps.toList steps = some r)
    (hdp : dp + 1 < recursionLimit)
    (ret : ∀ l' vs' k h' tk', (∀ b o, s.heap.get? b = some o → h'.get? b = some o) → s.heap.get? l' = none → h'.get? l' = some (W.listOf vs'.toArray k) → IntsAre vs' r → Q (.ref l') { s with heap := h', toks := tk' }) :
    wpAny (model prog w) (topA dp un gd outer) (call (.ref 105) [.str t tt, .ref l]) Q E s := by
  k_with_none
  have h00 : 0 ≤ steps.getD (Int.toNat 0) 0 ∧ steps.getD (Int.toNat 0) 0 < 100 := getD_ok hr _
  have hi9 := IntsAre.length hi
  k_with "binaryOp Mult ref int" =>
    k_dflt (
      (rename News _ _ _ _ => lN)
      refine' mul_one (by k_asm) lN (lN _ (.head _)).1 ?m0 ?m1 ?_
      (case m0 => first | omega | l_fact)
      (case m1 => first | omega | l_fact)
      intro D8 h8 F8 N8 l8
      clear lN
      (try k_lt l8))
  k_with "pyIter ref" =>
    k_dflt (
      (rename IsRange _ _ _ _ _ _ _ _ => hR9)
      (rename News _ _ _ _ => lN)
      refine' forRange (n := steps.length - 1) (fun c : Addr × List Value × List Int × Nat × Int × Tok => [(c.1, W.listOf c.2.1.toArray c.2.2.2.1)]) (fun c => [(Str.ofString "row", .ref c.1), (Str.ofString "at", .int c.2.2.2.2.1 c.2.2.2.2.2)]) [Str.ofString "part", Str.ofString "gains", Str.ofString "fresh", Str.ofString "height"]
        (fun i c => IntsAre c.2.1 c.2.2.1 ∧ c.2.2.1.length < 1000 ∧ 0 ≤ c.2.2.2.2.1 ∧ c.2.2.2.2.1 ≤ 100 ∧ backGo t.cps.toList steps (steps.length - 1 - i) (1 + i) c.2.2.1 c.2.2.2.2.1.toNat = some r)
        (_, _, List.replicate (steps.getD (Int.toNat 0) 0).toNat 0, _, steps.getD (Int.toNat 0) 0, _) ?k0 hR9 ?k1 ?k2 ?k3 ?k4 ?k5 ?k6 ?k7 ?tn ?dn
      (case k3 => k_asm)
      (case k4 => exact news_some lN (fun q hq => by rw [List.mem_singleton.mp hq]; exact .head _))
      (case k0 => exact rfl)
      (case k1 => exact small_one (by decide) (by decide) (by omega) (by omega))
      (case k2 => exact range_1n hpos)
      (case k5 => kst_all)
      (case k6 => exact ⟨ints_replicate _ _ _, by rw [List.length_replicate]; omega, h00.1, by dsimp only; omega, hb⟩)
      (case k7 => exact fun _ _ _ => ⟨.inl rfl, trivial⟩)
      (case' tn => rintro I i ta ⟨ra, vr, rw9, kr, at9, tat⟩ u hh tkk oI hin ⟨hI, hS, h0, h1, hB⟩ hoc hne hFr hNw; dsimp only at hI hS h0 h1 hB hNw hne; simp only [AllNe, and_true] at hne; simp only [kstB] at hFr; obtain ⟨m9, hm9⟩ : ∃ m, steps.length - 1 - i = m + 1 := ⟨steps.length - 2 - i, by omega⟩; rw [hm9] at hB; obtain ⟨fr9, hb1, hb2, hb3⟩ := backGo_step hB; rw [show ((1 + i : Nat) : Int) = 1 + (i : Int) by omega] at hb1; have hs1 := getD_ok hr (1 + (i : Int) - 1).toNat; have hs2 := getD_ok hr (1 + (i : Int)).toNat)
      (case' dn => rintro ⟨ra, vr, rw9, kr, at9, tat⟩ u hh tkk ⟨hI, hS, h0, h1, hB⟩ hFr hNw; dsimp only at hI hS h0 h1 hB hNw; simp only [kstB] at hFr))
  k_with "subscriptTail Name Slice str ref" =>
    k_dflt (
      refine slice_strN_ss (by k_asm) (by k_asm) (fun h8 t8 k8 F8 N8 => ?_) (by with_unfolding_all rfl) (by intro _; with_unfolding_all rfl) (show t.cps.size ≤ sizeLine by rw [sizeLine_eq]; omega)
      have hp9 := slice_part t steps (i := i) (a := at9) h0 hs1.1 hs2.1
      generalize Txt.slice t (some at9) (some (at9 + steps.getD (1 + (i : Int) - 1).toNat 0 + steps.getD (1 + (i : Int)).toNat 0)) = p9 at hp9 ⊢
      have hp8 := part_len hp9 ht)
  k_with "pyIter ref" =>
    k_dflt (
      (rename News _ _ _ _ => lN)
      refine' forList (vs := vr) (fun c : List Value × List Int × Nat × Addr × List Value × List Int × Nat => [(headAd lN, W.listOf c.1.toArray c.2.2.1), (c.2.2.2.1, W.listOf c.2.2.2.2.1.toArray c.2.2.2.2.2.2), (ra, W.listOf vr.toArray kr), (I, oI)]) (fun c => [(Str.ofString "gains", .ref c.2.2.2.1), (Str.ofString "fresh", .ref (headAd lN))]) []
        (fun j c => IntsAre c.1 c.2.1 ∧ IntsAre c.2.2.2.2.1 c.2.2.2.2.2.1 ∧ innerGo (1 + (i : Int)) (rw9.drop j) c.2.1 c.2.2.2.2.2.1 = some fr9 ∧ (∀ g ∈ c.2.2.2.2.2.1, 0 ≤ g ∧ g ≤ 100) ∧ c.2.2.2.2.2.1.length ≤ 100 ∧ @Ne Nat c.2.2.2.1 (headAd lN))
        ([], [], 0, _, ys, gainsF p9.cps.toList, ys.length) ?j0 ?j1 ?j2 ?j3 ?j4 ?j5 ?j6 ?jn ?jd
      (case j2 => k_asm)
      (case j0 => exact rfl)
      (case j1 => exact .inr ⟨_, fun _ => .tail _ (.tail _ (.head _))⟩)
      (case j4 => kst_all)
      (case j3 => exact news_some lN (List.forall_mem_cons.mpr ⟨.head _, List.forall_mem_cons.mpr ⟨.tail _ (.head _), List.forall_mem_cons.mpr ⟨.tail _ (.tail _ (.tail _ (.tail _ (.tail _ (.head _))))), List.forall_mem_cons.mpr ⟨.tail _ (.tail _ (.tail _ (.tail _ (.head _)))), List.forall_mem_nil _⟩⟩⟩⟩))
      (case j5 => exact ⟨.nil, hgi9, by rw [← hp9] at hb1; exact hb1, hgb9, by dsimp only; omega, by dsimp only [headAd]; omega⟩)
      (case j6 => exact fun _ _ _ => ⟨.inl rfl, .inl rfl, .inl rfl, .inr (by simp), trivial⟩)
      (case' jn => rintro J j v ⟨vf, fx, kf, ga, vg, gx, kg⟩ u2 hh2 tkk2 oJ hvj ⟨hQ1, hQ2, hQ3, hQ4, hQ5, hQ6⟩ hoc2 hne2 hFr2 hNw2; dsimp only [headAd] at hQ1 hQ2 hQ3 hQ4 hQ5 hQ6 hNw2 hne2; simp only [AllNe, and_true] at hne2; simp only [kstB] at hFr2; dsimp only [headAd] at hFr2; obtain ⟨x9, t9, rfl, hx9⟩ := IntsAre.at hI _ _ hvj; rw [drop_at hx9] at hQ3; have hle9 := innerGo_le hQ3; have hvl9 := IntsAre.length hQ1; have hgl8 := IntsAre.length hQ2)
      (case' jd => rintro ⟨vf, fx, kf, ga, vg, gx, kg⟩ u2 hh2 tkk2 ⟨hQ1, hQ2, hQ3, hQ4, hQ5, hQ6⟩ hFr2 hNw2; dsimp only [headAd] at hQ1 hQ2 hQ3 hQ4 hQ5 hQ6 hNw2; simp only [kstB] at hFr2; dsimp only [headAd] at hFr2))
  k_with "call builtin:str.split" =>
    k_dflt (
      refine split_D (by k_asm) (by k_asm) str_r9 (by omega) fun D8 sl h8 k8 hsp F8 N8 l8 => ?_
      (try k_lt l8))
  k_with "subscriptTail Name Slice ref ref" =>
    k_dflt (
      refine kmk_slice_lit (by k_asm) (by k_asm) (by is_list) (.int 1 _) .none (by rw [pick_one]) (fun D7 h7 F7 N7 l7 => ?_) (by with_unfolding_all rfl) (by intro _; with_unfolding_all rfl) ?sz
      (case' sz => first | ((have := IntsAre.length hQ2); simp only [List.size_toArray, sizeLine_eq]; omega) | ((have := vals_len0 hsp); simp only [List.size_toArray, sizeLine_eq]; omega))
      (try k_lt l7))
  k_with "exec Assign cons ListComp" =>
    (k_dflt refine' LCg.Assign_ListComp_U ?F0 rfl (by with_unfolding_all rfl) (by with_unfolding_all rfl) (by decide) (by with_unfolding_all rfl) (by decide) (by with_unfolding_all rfl) (by with_unfolding_all rfl) (by with_unfolding_all rfl) ?_)
    (case F0 => k_asm)
  k_with "eval ListComp" =>
    (k_dflt refine' LCg.ListComp_U ?F0 (by rfl) (by decide) (by rfl) (by decide) (by rfl) ?_)
    (case F0 => k_asm)
  k_with "CompSrc" =>
    k_dflt (
      (rename News _ _ _ _ => lN)
      refine' LCg.CompSrc.ledger (by rfl) ?cF lN (.head _) ?cz ?_
      (case cF => k_asm)
      (case cz => (have := vals_len hsp; simp only [List.size_toArray, sizeLine_eq]; omega))
      intro g9
      refine' compAll (fun i y => ∃ t, y = .int ((gainsF p9.cps.toList).getD i 0) t) ?tc ?dc
      (case' tc => rintro i2 v2 I2 oI2 C2 oC2 D2 m₂ ys h9 tk9 E' hi2 hv2 hC hx F N off ne; obtain ⟨x2, t2, rfl, e2, l2⟩ := vals_at hsp (by simpa using hv2); rw [e2])
      (case' dc => intro ys hyl hya; have hgi9 := gains_ints hsp hyl hya; have hgk9 := gains_ok p9.cps.toList; have hpl9 : p9.cps.toList.length < 100 := hp8.1; have hgb9 : ∀ g ∈ gainsF p9.cps.toList, 0 ≤ g ∧ g ≤ 100 := fun g hg => by (have := hgk9.1 g hg; omega)))
  k_with "subscriptTail Name Constant ref int" =>
    k_dflt (
      obtain ⟨g9, gs9, rfl, hgo9⟩ := innerGo_hit hQ3 (by assumption)
      obtain ⟨tg9, vg9, rfl, hvg9⟩ := ints_cons hQ2
      have hgb8 := hQ4 g9 List.mem_cons_self
      have hle8 := innerGo_le hgo9
      simp only [List.length_append, List.length_cons, List.length_nil, List.length_replicate] at hle8
      refine item_listL (l := .int g9 tg9 :: vg9) (by is_list) (by omega) (by omega) rfl ?_)
  k_with "inplaceOp Add ref ref" =>
    k_dflt (
      (rename News _ _ _ _ => lN2)
      simp only [List.push_toArray] at lN2
      refine iadd_lists (its := vf ++ [.int x9 t9]) (by k_asm) lN2 (by k_updF) (by k_mem) (by simp only [List.length_append, List.length_replicate, List.length_cons, List.length_nil]; omega) ?_
      intro h5 n5 F5 N5
      (try dsimp only at N5))
  walk_at "mine enter"
  k_steps
  · rename Fr _ _ _ _ => fE
    rename News _ _ _ _ => nE
    rw [Nat.sub_self] at hB
    have e : rw9 = r := Option.some.inj hB
    subst e
    exact ret _ _ _ _ _ fE.keep (nE _ (.head _)).2.2 (nE _ (.head _)).1 hI
  · dsimp only [TPost]
    have e9 : vr.length = rw9.length := IntsAre.length hI
    rw [e9, List.drop_length] at hQ3
    have e : fx = fr9 := Option.some.inj hQ3
    subst e
    refine tend (_, vf, fx, _, at9 + (p9.length : Int), _) (by k_asm) (by k_asm) (by kst_in) (by kst_in) (by kst_all) (by walk_at "mine same") ⟨hQ1, hb2, by dsimp only; omega, ?_, ?_⟩
    · have := hp8.2.1
      have e8 : t.cps.toList.length < 100 := ht
      dsimp only; omega
    · show backGo t.cps.toList steps (steps.length - 1 - (i + 1)) (1 + (i + 1)) fx (at9 + (p9.length : Int)).toNat = some r
      rw [show steps.length - 1 - (i + 1) = m9 by omega, show (at9 + (p9.length : Int)).toNat = at9.toNat + p9.length by omega, hp8.2.2]
      exact hb3
  · dsimp only [TPost]
    refine tend (_, fx ++ [x9] ++ List.replicate g9.toNat (1 + (i : Int)), _, _, _, List.drop 1 (g9 :: gs9), _) (by k_asm) (by k_asm) (by kst_in) (by kst_in) (by kst_all) (by walk_at "mine same") ⟨(hQ1.append (.cons _ _ .nil)).append (ints_replicate _ _ _), by assumption, hgo9, fun g hg => hQ4 g (List.mem_of_mem_drop hg), by simp only [List.length_drop]; omega, by dsimp only [headAd]; omega⟩
  · dsimp only [TPost]
    refine tend (vf ++ [.int x9 t9], fx ++ [x9], _, ga, vg, gx, _) (by k_asm) (by walk_at "mine n") (by kst_in) (by kst_in) (by kst_all) (by walk_at "mine same") ⟨hQ1.append (.cons _ _ .nil), hQ2, innerGo_miss hQ3 (by assumption), hQ4, hQ5, hQ6⟩
  · exact ⟨_, _, _, rfl, F, N, off, .inr ⟨_, .head _, rfl, _, rfl⟩, rfl, _, rfl⟩

end QG
theorem start_QV : True := by
  w_top off
  trivial
section QV
open PySem PySem.W PySem.Calls PyProof.Rows
def stepsF (places : List Int) : List Int := (List.range (places.length - 1)).map fun k => places.getD (k + 1) 0 - places.getD k 0
def tableF (steps : List Int) : List (Int × Int) := (List.range steps.length).map fun (k : Nat) => ((k : Int), steps.getD k 0)
def heldF (ahead : List Int) (size : Nat) : Int := (ahead.take size).sum - Int.fdiv ((size : Int) * ((size : Int) + 1)) 2
def farF (places : List Int) (size : Nat) : Int := ((places.drop 1).map fun p => (size : Int) - p).sum
def aheadOk (ahead : List Int) (size : Nat) : Bool := ahead.length == size + 1 && ahead.getD size 0 == (size : Int) && (List.range size).all fun x => decide (1 ≤ ahead.getD x 0 - (x : Int))
def restOk (row : List Int) (told : List Nat) (ahead : List Int) : Bool := match bounceF 12 ahead [0] with
  | none => false
  | some places => decide (2 ≤ places.length) && decide (places.length < 50) && (places.all fun p => decide (0 ≤ p) && decide (p < 50)) && ((stepsF places).all fun x => decide (0 ≤ x) && decide (x < 100))
    && (backF told (stepsF places) == some row)
    && (let r := summedF row; r.1 == (row.length : Int) && r.2.1 == (row.length : Int) && r.2.2.1 == farF places row.length && r.2.2.2.1 == heldF ahead row.length && r.2.2.2.2.1 == tableF (stepsF places))
def rowOk (row : List Int) : Bool := decide (0 < row.length) && decide (row.length < 20) && row.all (fun x => decide (0 ≤ x) && decide (x < 9)) && (toldF row == laidF row) && decide ((toldF row).length < 100)
  && aheadOk (aheadF (toldF row)) row.length && (aheadF (toldF row)).all (fun x => decide (0 ≤ x) && decide (x < 100)) && restOk row (toldF row) (aheadF (toldF row))
def nextRows (row : List Int) : List (List Int) := (List.range (row.getD (-1 + (row.length : Int)).toNat 0 + 2).toNat).map fun (r : Nat) => row ++ [(r : Int)]
def rowsN : Nat → List (List Int)
  | 0 => [[0, 1, 2, 0, 1]]
  | n + 1 => (rowsN n).flatMap nextRows
theorem rows0 : (rowsN 0).all rowOk = true := by decide +kernel
theorem rows1 : (rowsN 1).all rowOk = true := by decide +kernel
theorem rows2 : (rowsN 2).all rowOk = true := by decide +kernel
theorem rows3 : (rowsN 3).all rowOk = true := by decide +kernel
theorem rows4a : ((rowsN 4).take 45).all rowOk = true := by decide +kernel
theorem rows4b : ((rowsN 4).drop 45).all rowOk = true := by decide +kernel
theorem rows4 : (rowsN 4).all rowOk = true := by
  rw [← List.take_append_drop 45 (rowsN 4), List.all_append, rows4a, rows4b]; rfl
theorem rows5a : (((rowsN 4).take 11).flatMap nextRows).all rowOk = true := by decide +kernel
theorem rows5b : ((((rowsN 4).drop 11).take 11).flatMap nextRows).all rowOk = true := by decide +kernel
theorem rows5c : ((((rowsN 4).drop 22).take 11).flatMap nextRows).all rowOk = true := by decide +kernel
theorem rows5d : ((((rowsN 4).drop 33).take 11).flatMap nextRows).all rowOk = true := by decide +kernel
theorem rows5e : ((((rowsN 4).drop 44).take 11).flatMap nextRows).all rowOk = true := by decide +kernel
theorem rows5f : ((((rowsN 4).drop 55).take 11).flatMap nextRows).all rowOk = true := by decide +kernel
theorem rows5g : ((((rowsN 4).drop 66).take 11).flatMap nextRows).all rowOk = true := by decide +kernel
theorem rows5h : (((rowsN 4).drop 77).flatMap nextRows).all rowOk = true := by decide +kernel
theorem split_at (l : List (List Int)) (n k : Nat) : l.drop n = (l.drop n).take k ++ l.drop (n + k) := by
  rw [← List.drop_drop, List.take_append_drop]
theorem rows5 : (rowsN 5).all rowOk = true := by
  show ((rowsN 4).flatMap nextRows).all rowOk = true
  rw [← List.take_append_drop 11 (rowsN 4), split_at (rowsN 4) 11 11, split_at (rowsN 4) (11 + 11) 11, split_at (rowsN 4) (11 + 11 + 11) 11, split_at (rowsN 4) (11 + 11 + 11 + 11) 11, split_at (rowsN 4) (11 + 11 + 11 + 11 + 11) 11, split_at (rowsN 4) (11 + 11 + 11 + 11 + 11 + 11) 11]
  simp only [List.flatMap_append, List.all_append, Bool.and_eq_true]
  exact ⟨rows5a, rows5b, rows5c, rows5d, rows5e, rows5f, rows5g, rows5h⟩
theorem next_mem {row : List Int} (h : 0 ≤ row.getD (-1 + (row.length : Int)).toNat 0) (x : Int) : hStep row x ∈ nextRows row := by
  have h0 := Int.fmod_nonneg_of_pos x (show 0 < row.getD (-1 + (row.length : Int)).toNat 0 + 2 by omega)
  have h1 := Int.fmod_lt_of_pos x (show 0 < row.getD (-1 + (row.length : Int)).toNat 0 + 2 by omega)
  unfold nextRows hStep
  refine List.mem_map.mpr ⟨(Int.fmod x (row.getD (-1 + (row.length : Int)).toNat 0 + 2)).toNat, List.mem_range.mpr (by omega), ?_⟩
  rw [Int.toNat_of_nonneg h0]
theorem foldl_mem : ∀ (xs : List Int) (n : Nat) (row : List Int), row ∈ rowsN n → 0 ≤ row.getD (-1 + (row.length : Int)).toNat 0 → xs.foldl hStep row ∈ rowsN (n + xs.length)
  | [], n, row, h, _ => h
  | x :: xs, n, row, h, h0 => by
    rw [List.foldl_cons, List.length_cons, show n + (xs.length + 1) = (n + 1) + xs.length by omega]
    refine foldl_mem xs (n + 1) _ (List.mem_flatMap.mpr ⟨row, h, next_mem h0 x⟩) ?_
    rw [hStep_get]
    exact Int.fmod_nonneg_of_pos x (by omega)
theorem heights_ok (xs : List Int) : rowOk (heightsF (xs.take 5)) = true := by
  have h := foldl_mem (xs.take 5) 0 [0, 1, 2, 0, 1] (List.mem_singleton.mpr rfl) (by decide)
  have hl : (xs.take 5).length ≤ 5 := by rw [List.length_take]; omega
  change heightsF (xs.take 5) ∈ _ at h
  rw [Nat.zero_add] at h
  have : (xs.take 5).length = 0 ∨ (xs.take 5).length = 1 ∨ (xs.take 5).length = 2 ∨ (xs.take 5).length = 3 ∨ (xs.take 5).length = 4 ∨ (xs.take 5).length = 5 := by omega
  rcases this with e | e | e | e | e | e <;> rw [e] at h
  · exact List.all_eq_true.mp rows0 _ h
  · exact List.all_eq_true.mp rows1 _ h
  · exact List.all_eq_true.mp rows2 _ h
  · exact List.all_eq_true.mp rows3 _ h
  · exact List.all_eq_true.mp rows4 _ h
  · exact List.all_eq_true.mp rows5 _ h

structure RestFacts (row : List Int) (told : List Nat) (ahead places : List Int) : Prop where
  run : bounceF 12 ahead [0] = some places
  two : 2 ≤ places.length
  len : places.length < 50
  rng : ∀ p ∈ places, 0 ≤ p ∧ p < 50
  srng : ∀ x ∈ stepsF places, 0 ≤ x ∧ x < 100
  back : backF told (stepsF places) = some row
  s1 : (summedF row).1 = (row.length : Int)
  s2 : (summedF row).2.1 = (row.length : Int)
  s3 : (summedF row).2.2.1 = farF places row.length
  s4 : (summedF row).2.2.2.1 = heldF ahead row.length
  s5 : (summedF row).2.2.2.2.1 = tableF (stepsF places)
structure RowFacts (row : List Int) : Prop where
  pos : 0 < row.length
  len : row.length < 20
  rng : ∀ x ∈ row, 0 ≤ x ∧ x < 9
  told : toldF row = laidF row
  tlen : (toldF row).length < 100
  alen : (aheadF (toldF row)).length = row.length + 1
  alast : (aheadF (toldF row)).getD row.length 0 = (row.length : Int)
  agap : ∀ x : Nat, x < row.length → 1 ≤ (aheadF (toldF row)).getD x 0 - (x : Int)
  arng : ∀ x ∈ aheadF (toldF row), 0 ≤ x ∧ x < 100
  rest : ∃ places, RestFacts row (toldF row) (aheadF (toldF row)) places
theorem restFacts {row : List Int} {told : List Nat} {ahead : List Int} (h : restOk row told ahead = true) : ∃ places, RestFacts row told ahead places := by
  unfold restOk at h
  split at h
  · cases h
  · rename_i places e
    simp only [Bool.and_eq_true, decide_eq_true_eq, List.all_eq_true, beq_iff_eq] at h
    obtain ⟨⟨⟨⟨⟨h1, h2⟩, h3⟩, h4⟩, h5⟩, ⟨⟨⟨h6, h7⟩, h8⟩, h9⟩, h10⟩ := h
    exact ⟨places, e, h1, h2, h3, h4, h5, h6, h7, h8, h9, h10⟩
theorem rowFacts {row : List Int} (h : rowOk row = true) : RowFacts row := by
  unfold rowOk aheadOk at h
  simp only [Bool.and_eq_true, decide_eq_true_eq, List.all_eq_true, beq_iff_eq, List.mem_range] at h
  obtain ⟨⟨⟨⟨⟨⟨⟨h1, h2⟩, h3⟩, h4⟩, h5⟩, ⟨h6, h7⟩, h8⟩, h9⟩, h10⟩ := h
  exact ⟨h1, h2, h3, h4, h5, h6, h7, h8, h9, restFacts h10⟩
theorem heights_facts (xs : List Int) : RowFacts (heightsF (xs.take 5)) := rowFacts (heights_ok xs)

end QV
theorem start_QD : True := by
  w_top off
  trivial
section QD
open PySem PySem.W PySem.Calls PyProof.Rows PyProof.V PySem.Spec
def tabN (d : Nat → Int) (n : Nat) : List (Int × Int) := (List.range n).map fun (k : Nat) => ((k : Int), d k)
theorem tabN_succ (d : Nat → Int) (n : Nat) : tabN d (n + 1) = tabN d n ++ [((n : Int), d n)] := by
  unfold tabN
  rw [List.range_succ, List.map_append]; rfl
theorem tabN_put (d : Nat → Int) (n : Nat) (v : Int) : putT (n : Int) v (tabN d n) = tabN d n ++ [((n : Int), v)] := by
  have h : (tabN d n).any (fun p => decide (p.1 = (n : Int))) = false := by
    rw [List.any_eq_false]
    intro p hp
    obtain ⟨k, hk, rfl⟩ := List.mem_map.mp hp
    have := List.mem_range.mp hk
    simp only [decide_eq_true_eq]
    omega
  unfold putT
  rw [h]; rfl
abbrev FKr (v : Value) (k : Int) : Prop := ∃ t, v = .int k t
abbrev FVr (d : Nat → Int) (v y : Value) : Prop := ∃ (i : Nat) (t t' : Tok), v = .int (i : Int) t ∧ y = .int (d i) t'
theorem tab_flat {d : Nat → Int} {l : List Value} {kvs : List (Int × Value)} (h : StoredAll FKr (FVr d) l kvs) : (∀ (j : Nat) (v : Value), l[j]? = some v → ∃ t, v = .int (j : Int) t) → FlatPairs PyData.int kvs (encT (tabN d l.length)) := by
  induction h with
  | nil => intro _; exact .nil
  | @snoc l kvs v k y _ hk hy ih =>
    intro hj
    have ih := ih fun j v' e => hj j v' (by rw [List.getElem?_append_left (List.getElem?_eq_some_iff.mp e).1]; exact e)
    obtain ⟨t, e1⟩ := hj l.length v (by simp)
    obtain ⟨t2, e2⟩ := hk
    obtain ⟨i, t3, t4, e3, e4⟩ := hy
    rw [e1] at e2 e3
    injection e2 with e2
    injection e3 with e3
    have e3 : l.length = i := by omega
    subst e2 e3 e4
    have h9 := FlatPairs.stored (enc := PyData.int) same_int ih (l.length : Int) (Flat.int (d l.length) t4)
    rw [putD_encT, tabN_put, ← tabN_succ] at h9
    rw [List.length_append]
    exact h9

section
variable {prog : Program} {w : World} {A : Around} {E : Value → Shared → Prop} {s : Shared} {h₀ : Heap} {L : Addr} {m : Str → Option Value} {env : Env}
def DSrc (prog : Program) (w : World) (A : Around) (h₀ : Heap) (L : Addr) (m : Str → Option Value) (env : Env) (scope : Scope) (cl : List (Str × Addr)) (x : Str) (kx vx : Expr) (Q : Value → Shared → Prop) (xv : Value) (s₁ : Shared) : Prop :=
  ∃ r n t u v news, ∃ d : Nat → Int, xv = .ref r ∧ IsRange s₁.heap r 0 ((n : Nat) : Int) 1 t u v ∧ n < 1000 ∧ Fr h₀ L s₁.heap m ∧ News h₀ L s₁.heap news ∧ (∃ o, h₀.get? sysModules = some o) ∧
    (∀ C (i : Nat) (tt : Tok) s₃ m₃ (E' : Value → Shared → Prop), i < n → s₃.heap.Ns C m₃ → m₃ x = some (.int (i : Int) tt) → (∀ b o, s₁.heap.get? b = some o → s₃.heap.get? b = some o) →
      wpAny (model prog w) A (eval kx (compEnvC scope cl C env)) (fun key s₄ => (∃ tk, key = .int (i : Int) tk) ∧ Keeps s₃ s₄) E' s₃) ∧
    (∀ C (i : Nat) (tt : Tok) s₃ m₃ (E' : Value → Shared → Prop), i < n → s₃.heap.Ns C m₃ → m₃ x = some (.int (i : Int) tt) → (∀ b o, s₁.heap.get? b = some o → s₃.heap.get? b = some o) →
      wpAny (model prog w) A (eval vx (compEnvC scope cl C env)) (fun y s₄ => (∃ tk, y = .int (d i) tk) ∧ Keeps s₃ s₄) E' s₃) ∧
    (∀ D o kvs h' tk, Fr h₀ L h' m → News h₀ L h' ((D, o) :: news) → (∀ p ∈ news, p.1 ≠ D) → (D == sysModules) = false → o.IsDictOf (intKind prog w) kvs → FlatPairs PyData.int kvs (encT (tabN d n)) → Q (.ref D) { s₁ with heap := h', toks := tk })
theorem dictRange {kx vx iter : Expr} {x : Str} {px : Pos} {scope : Scope} {cl : List (Str × Addr)} {pos : Pos} {Q : Value → Shared → Prop}
    (_F₀ : Fr h₀ L s.heap m) (hh : A.handled = none) (hclos : closureFor scope env = pure cl) (hcell : ∀ y ∈ scope.names, y.2 ≠ .cell) (hkind : scope.kind = .function)
    (hnames : ∀ y ∈ scope.names, y.2 = .local → scope.names.lookup y.1 = some .local) (hx : scope.names.lookup x = some .local)
    (h : wpAny (model prog w) A (eval iter env) (DSrc prog w A h₀ L m env scope cl x kx vx Q) E s)
    (hs : ∀ x, foldedSetIterable iter env x = pure x := by intro _; rfl) :
    wpAny (model prog w) A (eval (.DictComp kx vx [⟨.Name x px, iter, [], 0⟩] scope pos) env) Q E s := by
  rw [arm_eval_DictComp]
  refine wpAny_comprehension_free (use := none) rfl hs hclos hkind hnames (wpAny_mono h (fun xv s₁ h₁ => ?_) fun _ _ e => e)
  obtain ⟨r, n, t, u, v, news, d, rfl, hr, hn, F, N, hb, hkey, hval, hQ⟩ := h₁
  have up : ∀ (s₃ : Shared) (o' : Obj), (∀ b o, b ∉ [s₁.heap.objs.size] → (s₁.heap.push o').get? b = some o → s₃.heap.get? b = some o) → ∀ b o, s₁.heap.get? b = some o → s₃.heap.get? b = some o :=
    fun s₃ o' hk b o e => hk b o (fun hm => by rcases List.mem_cons.mp hm with rfl | hm; exact Nat.lt_irrefl _ (Heap.lt_size e); cases hm) (Heap.get?_push_of_some _ e)
  refine wpAny_pyIter_range hr (small_one (by decide) (by decide) (by omega) (by omega)) ?_
  refine comp_block_walkCD (knd := intKind prog w) (RR := fun acc C => compPost (model prog w) A E none Q acc C) (Walks.range hh s₁.heap.objs.size 0 1 n).bound (by rw [sizeLine_eq]; omega) (fun _ => true) FKr (FVr d)
    hcell hkind hx ?_ ?_ ⟨?_, ?_, ?_⟩ ?_
  · show IsRangeIter _ _ _ _ _
    rw [rangeSize_nat]
    simp only [Int.sub_zero, Int.toNat_natCast, Int.natCast_zero, Int.zero_mul, Int.add_zero]
    exact Heap.get?_push_size _ rfl
  · intro b hb
    rw [List.mem_singleton.mp hb]
    show _ < (s₁.heap.push _).objs.size
    rw [Heap.size_push]
    exact Nat.lt_succ_self _
  · intro C i v s₃ m₃ E' hP hn' hm hk
    exact wpAny_pure ⟨rfl, _, _, rfl, fun _ _ e => e⟩
  · intro C i v s₃ m₃ E' hP hp hn' hm hk
    obtain ⟨hi, tt, rfl⟩ := hP
    simp only [Int.mul_one, Int.zero_add] at hm ⊢
    refine wpAny_mono (hkey C i tt s₃ m₃ E' hi hn' hm (up s₃ _ hk)) (fun key s₄ h₄ => ?_) fun _ _ e => e
    obtain ⟨⟨tk, rfl⟩, hK⟩ := h₄
    exact ⟨⟨(i : Int), intKind_is _ _ _ _, _, rfl⟩, hK⟩
  · intro C i v s₃ m₃ E' hP hp hn' hm hk
    obtain ⟨hi, tt, rfl⟩ := hP
    simp only [Int.mul_one, Int.zero_add] at hm ⊢
    refine wpAny_mono (hval C i tt s₃ m₃ E' hi hn' hm (up s₃ _ hk)) (fun y s₄ h₄ => ?_) fun _ _ e => e
    obtain ⟨⟨tk, rfl⟩, hK⟩ := h₄
    exact ⟨⟨i, _, _, rfl, rfl⟩, hK⟩
  · intro D C h' tk m' kvs vs' hD hC hDC hn' hlD hlen hP hF hk
    refine ⟨m', hn', fun h'' hs'' => ?_⟩
    have keep : ∀ b o, s₁.heap.get? b = some o → h''.get? b = some o := fun b o e =>
      hs''.extBut b o (by rintro rfl; rw [Heap.get?_push_of_some _ e] at hC; cases hC) (up { s₁ with heap := h' } _ hk b o e)
    obtain ⟨o, ho, hd⟩ := Heap.dictOf_iff.mp (hlD.extBut hs''.extBut hDC)
    have hF' : StoredAll FKr (FVr d) vs' kvs := by rw [show vs'.filter (fun _ => true) = vs' from List.filter_eq_self.mpr fun _ _ => rfl] at hF; exact hF
    have hvs : ∀ (j : Nat) (v : Value), vs'[j]? = some v → ∃ t, v = .int (j : Int) t := by
      intro j v e
      obtain ⟨_, tt, e2⟩ := hP j v e
      exact ⟨tt, by rw [e2]; simp⟩
    have hDs : s₁.heap.get? D = none := by
      cases e : s₁.heap.get? D with
      | none => rfl
      | some o' => rw [Heap.get?_push_of_some _ e] at hD; cases hD
    refine hQ D o kvs h'' tk (F.keeps keep) (news_new F N keep hDs ho) (news_ne N hDs) ?_ hd (by rw [← hlen]; exact tab_flat hF' hvs)
    cases e : D == sysModules with
    | false => rfl
    | true =>
      obtain ⟨o', ho'⟩ := hb
      rw [beq_iff_eq] at e
      rw [e, F.keep _ _ ho'] at hDs
      cases hDs
end
theorem look_tab (d : Nat → Int) : ∀ n k : Nat, k < n → lookT (k : Int) (tabN d n) = some (d k)
  | 0, k, h => absurd h (Nat.not_lt_zero k)
  | n + 1, k, h => by
    rw [tabN_succ]
    by_cases hk : k < n
    · exact look_app (look_tab d n k hk)
    · have : k = n := by omega
      subst this
      rw [look_none]
      · simp [lookT]
      · intro p hp
        obtain ⟨j, hj, rfl⟩ := List.mem_map.mp hp
        have := List.mem_range.mp hj
        simp only
        omega
where
  look_app : ∀ {T S : List (Int × Int)} {k v : Int}, lookT k T = some v → lookT k (T ++ S) = some v
    | [], _, _, _, h => nomatch h
    | p :: r, S, k, v, h => by
      simp only [List.cons_append, lookT] at h ⊢
      split
      · rename_i e; rw [if_pos e] at h; exact h
      · rename_i e; rw [if_neg e] at h; exact look_app h
  look_none : ∀ {T S : List (Int × Int)} {k : Int}, (∀ p ∈ T, p.1 ≠ k) → lookT k (T ++ S) = lookT k S
    | [], _, _, _ => rfl
    | p :: r, S, k, h => by
      simp only [List.cons_append, lookT, if_neg (h p List.mem_cons_self)]
      exact look_none fun q hq => h q (List.mem_cons_of_mem _ hq)
theorem rows_tab (d : Nat → Int) (n : Nat) : KeqRows (encT (tabN d n)) (encT (tabN d n)) true := by
  have key : ∀ l : List (Int × Int), (∀ p ∈ l, lookT p.1 (tabN d n) = some p.2) → KeqRows (encT (tabN d n)) (encT l) true := by
    intro l
    induction l with
    | nil => intro _; exact .nil
    | cons p r ih =>
      intro h
      have h1 := h p List.mem_cons_self
      have e : Spec.lookup (.int p.1) (encT (tabN d n)) = some (.int p.2) := by rw [lookup_encT, h1]; rfl
      have h2 := KeqRows.hit (v := .int p.2) e (ih fun q hq => h q (List.mem_cons_of_mem _ hq))
      have e3 : (PyData.eqv (.int p.2) (.int p.2) && true) = true := by simp [PyData.eqv]
      rw [e3] at h2
      exact h2
  refine key _ fun p hp => ?_
  obtain ⟨k, hk, rfl⟩ := List.mem_map.mp hp
  exact look_tab d n k (List.mem_range.mp hk)

end QD
theorem start_QM : True := by
  w_top off
  trivial
section QM
open PySem PySem.W PySem.Calls PyProof.Rows PyProof.V PySem.Spec
example : PySem.Challenge.rw_qc0007_01 = PySem.Challenge.rw_qc0007_01 ∧ hd.heap_39 = hd.heap_39 := by k_fill; exact ⟨rfl, rfl⟩

theorem laid_led {prog : Program} {w : World} {loose : List Str} {mean : ExcName → Option Value} {mg mb : Str → Option Value} {dp un : Nat} {gd : Option (List Code)} {outer : List Env} {s : Shared} {h₀ : Heap} {L : Addr} {m : Str → Option Value} {news : List (Addr × Obj)} {g : Obj → List (Addr × Obj)}
    {Q : Value → Shared → Prop} {E : Value → Shared → Prop} {l : Addr} {vs : List Value} {row : List Int}
    (F : Fr h₀ L s.heap m) (N : News h₀ L s.heap news) (U : UpdF 76 (tabObj #[]) news g) (X : (hd.heap_39 w.params).In h₀) (T : Top topProg loose mean mg mb h₀) (C : CodeHd h₀ 78 76)
    (hl : s.heap.IsList l vs.toArray) (hne : @Ne Nat l 76) (hi : IntsAre vs row) (hlen : row.length < 100) (hdp : dp + 4 < recursionLimit)
    (ret : ∀ t' h' tk' ps', Fr h₀ L h' m → News h₀ L h' (g (tabObj ps')) → Q (.str ⟨(laidF row).toArray⟩ t') { s with heap := h', toks := tk' }) :
    wpAny (model prog w) (topA dp un gd outer) (call (.ref 79) [.ref l]) Q E s := by
  obtain ⟨pre, post, rfl, hg, a, b⟩ := U.split
  have hm : ((76 : Addr), tabObj #[]) ∈ pre ++ ((76 : Addr), tabObj #[]) :: post := List.mem_append.mpr (.inr (.head _))
  have hb := hide_base F N hm
  refine laid_spec (g := s.heap.hide 76) hide_sub (Nat.le_of_eq (Heap.hide_size _ _)) ?_ (X.keeps hb) (T.keeps hb) (C.keeps hb) ?_ hi hlen hdp ?_
  · intro q hq
    rw [List.mem_singleton.mp hq]
    exact ⟨(N _ hm).1, Heap.hide_self _ _⟩
  · obtain ⟨o, ho, r⟩ := hl
    exact ⟨o, (Heap.hide_ne _ hne).trans ho, r⟩
  · intro t' h' tk' ps' hk hg'
    have up : ∀ b' x', b' ≠ 76 → s.heap.get? b' = some x' → h'.get? b' = some x' := fun b' x' hb e => hk b' x' ((Heap.hide_ne _ hb).trans e)
    have z := N _ hm
    obtain ⟨oL, es, ep, hL, r⟩ := F.ns
    refine ret t' h' tk' ps' ⟨⟨oL, es, ep, up _ _ (Ne.symm z.2.1) hL, r⟩, fun b' x' e => up b' x' (fun q => by have := z.2.2; simp only at this; rw [← q, e] at this; cases this) (F.keep b' x' e), F.above⟩ ?_
    rw [hg]
    intro q hq
    rcases List.mem_append.mp hq with hq | hq
    · have n := N q (List.mem_append.mpr (.inl hq)); exact ⟨up _ _ (a q hq) n.1, n.2⟩
    · rcases List.mem_cons.mp hq with rfl | hq
      · exact ⟨hg', z.2⟩
      · have n := N q (List.mem_append.mpr (.inr (.tail _ hq))); exact ⟨up _ _ (b q hq) n.1, n.2⟩

theorem gaps_ok {ah : List Int} {n : Nat} (h : ∀ x : Nat, x < n → 1 ≤ ah.getD x 0 - (x : Int)) : ∀ m ∈ List.map (fun k' : Int => ah.getD k'.toNat 0 - k') (rangeKs 0 ((n : Int) - 0).toNat), 1 ≤ m := by
  intro m hm
  obtain ⟨k, hk, rfl⟩ := List.mem_map.mp hm
  have hk9 := mem_rangeKs hk
  have := h k.toNat (by omega)
  rw [Int.toNat_of_nonneg hk9.1] at this
  exact this
theorem gaps_pos {ah : List Int} {n : Nat} (h : 0 < n) : 0 < (List.map (fun k' : Int => ah.getD k'.toNat 0 - k') (rangeKs 0 ((n : Int) - 0).toNat)).length := by
  rw [List.length_map, rangeKs_length]; omega
theorem news_list9 {h₀ h : Heap} {L a : Addr} {ys : List Value} {k : Nat} {news : List (Addr × Obj)} (N : News h₀ L h news) (hm : (a, ({ cls := .type "list", data := .seq ys.toArray k } : Obj)) ∈ news) : h.IsList a ys.toArray := ⟨_, (N _ hm).1, rfl, k, rfl⟩
theorem IsList_keeps {h h' : Heap} {a : Addr} {its : Array Value} (x : h.IsList a its) (k : ∀ b o, h.get? b = some o → h'.get? b = some o) : h'.IsList a its := let ⟨o, e, r⟩ := x; ⟨o, k _ _ e, r⟩
theorem steps_eq (places : List Int) : List.map (fun k' : Int => places.getD (k' + 1).toNat 0 - places.getD k'.toNat 0) (rangeKs 0 ((places.length : Int) - 1 - 0).toNat) = stepsF places := by
  unfold rangeKs stepsF
  rw [List.map_map, show ((places.length : Int) - 1 - 0).toNat = places.length - 1 by omega]
  apply List.map_congr_left
  intro i _
  simp only [Function.comp]
  rw [show (0 + (i : Int) + 1).toNat = i + 1 by omega, show (0 + (i : Int)).toNat = i by omega]
theorem steps_len (places : List Int) : (stepsF places).length = places.length - 1 := by
  unfold stepsF; rw [List.length_map, List.length_range]
theorem ints_get {vs : List Value} {ns : List Int} (h : IntsAre vs ns) : ∀ {i : Nat}, i < ns.length → ∃ t, vs[i]? = some (.int (ns.getD i 0) t) := by
  induction h with
  | nil => intro i hi; simp at hi
  | cons a t h ih =>
    intro i hi
    cases i with
    | zero => exact ⟨t, rfl⟩
    | succ i => obtain ⟨t', e⟩ := ih (i := i) (by simpa using hi); exact ⟨t', by simpa using e⟩
theorem sys_ghost {p : Program} {loose : List Str} {mean : ExcName → Option Value} {mg mb : Str → Option Value} {h : Heap} (T : Top p loose mean mg mb h) (hi : importsNone p = true) : ∃ o, (ghostOf h [(78, 76)]).get? sysModules = some o := by
  obtain ⟨mm, ⟨o, es, ep, e, _⟩, _⟩ := (T.seer hi).mods
  exact ⟨o, ghost_ne e (by decide)⟩
theorem go : PySem.Challenge.rw_qc0007_01.Holds := hd (by
  k_go0
  all_goals try k_fold
  k_with_none
  rename List Int => xs
  rename IntsAre _ xs => hxi
  rename ¬ ((63 : Nat) : Int) < _ => hx63
  have hSys := sys_ghost (by assumption) (show importsNone hd.view_39 = true by decide +kernel)
  k_with "call ref" =>
    k_dflt (
      refine' heights_spec (xs := xs) ?a1 ?a2 ?a3 hxi ?a4 ?a5 ?_
      (case a1 => exact Frag.In.keeps (by k_asm) (Fr.keep (by k_asm)))
      (case a2 => exact Top.keeps (by k_asm) (Fr.keep (by k_asm)))
      (case a3 => is_list)
      (case a4 => omega)
      (case a5 => first | decide | ktr_room)
      intro ra vr kr h1 tk1 hk1 hn1 hg1 hri
      (rename Fr _ _ _ _ => lF)
      (rename News _ _ _ _ => lN)
      have F1 := Fr.keeps lF hk1
      have N1 := news_new lF lN hk1 hn1 hg1
      have e1 := allNe_of (news_ne lN hn1)
      simp only [AllNe, and_true] at e1
      clear lF lN hk1 hn1 hg1
      have hok := heights_facts xs
      generalize heightsF (xs.take 5) = row at hri hok
      have hrl := hok.len
      have hrp := hok.pos)
  k_with "call ref" =>
    k_dflt (
      refine' told_spec (row := row) ?b1 ?b2 ?b3 hri ?b4 hrp hok.rng ?b5 ?b6 ?_
      (case b1 => exact Frag.In.keeps (by k_asm) (Fr.keep (by k_asm)))
      (case b2 => exact Top.keeps (by k_asm) (Fr.keep (by k_asm)))
      (case b3 => is_list)
      (case b4 => omega)
      (case b5 => first | decide | ktr_room)
      (case b6 => first | decide | ktr_units)
      intro tt h2 tk2 hk2
      (rename Fr _ _ _ _ => lF)
      (rename News _ _ _ _ => lN)
      have F2 := Fr.keeps lF hk2
      have N2 := News.grown lN hk2
      clear lF lN hk2)
  k_with "call ref" =>
    k_dflt (
      refine' laid_led (row := row) ?c1 ?c2 ?c3 ?c4 ?c5 ?c6 ?c7 ?c8 hri ?c9 ?cA ?_
      (case c1 => k_asm)
      (case c2 => k_asm)
      (case c3 => k_updF)
      (case c4 => k_asm)
      (case c5 => k_asm)
      (case c6 => k_asm)
      (case c7 => is_list)
      (case c8 => k_ne)
      (case c9 => omega)
      (case cA => first | decide | ktr_room)
      rw [← hok.told]
      intro tl h3 tk3 ps3 F3 N3
      (try dsimp only at N3))
  k_with "call ref" =>
    k_dflt (
      refine' ahead_spec (t := ⟨(toldF row).toArray⟩) ?d1 ?d2 ?d3 ?d4 ?_
      (case d1 => exact Frag.In.keeps (by k_asm) (Fr.keep (by k_asm)))
      (case d2 => exact Top.keeps (by k_asm) (Fr.keep (by k_asm)))
      (case d3 => (have := hok.tlen; simp only [List.size_toArray]; omega))
      (case d4 => first | decide | ktr_room)
      intro aa va ka h4 tk4 hk4 hn4 hg4 hai
      (rename Fr _ _ _ _ => lF)
      (rename News _ _ _ _ => lN)
      have F4 := Fr.keeps lF hk4
      have N4 := news_new lF lN hk4 hn4 hg4
      have e4 := allNe_of (news_ne lN hn4)
      simp only [AllNe, and_true] at e4
      clear lF lN hk4 hn4 hg4
      obtain ⟨va⟩ := va
      have hah : ∃ ah, ah = aheadF (toldF row) := ⟨_, rfl⟩
      obtain ⟨ah, hah⟩ := hah
      have hal := hok.alen
      have haz := hok.alast
      have hag := hok.agap
      have har := hok.arng
      obtain ⟨places, hrest⟩ := hok.rest
      change IntsAre va (aheadF (toldF row)) at hai
      rw [← hah] at hai hal haz hag har hrest)
  k_with "call ref" =>
    k_dflt (
      refine' bounced_spec (ah := ah) (r := places) (n := 12) ?g1 ?g2 ?g3 hai ?g4 (by decide) hrest.run ?g5 ?_
      (case g1 => exact Frag.In.keeps (by k_asm) (Fr.keep (by k_asm)))
      (case g2 => exact Top.keeps (by k_asm) (Fr.keep (by k_asm)))
      (case g3 => is_list)
      (case g4 => omega)
      (case g5 => first | decide | ktr_room)
      intro pa vp kp h6 tk6 hk6 hn6 hg6 hpi
      (rename Fr _ _ _ _ => lF)
      (rename News _ _ _ _ => lN)
      have F6 := Fr.keeps lF hk6
      have N6 := news_new lF lN hk6 hn6 hg6
      have e6 := allNe_of (news_ne lN hn6)
      simp only [AllNe, and_true] at e6
      clear lF lN hk6 hn6 hg6
      obtain ⟨vp⟩ := vp
      change IntsAre vp places at hpi
      have hp2 := hrest.two
      have hp3 := hrest.len)
  k_with "call ref" =>
    k_dflt (
      refine' summed_spec (row := row) ?i1 ?i2 ?i3 hri ?i4 ?i5 ?_
      (case i1 => exact Frag.In.keeps (by k_asm) (Fr.keep (by k_asm)))
      (case i2 => exact Top.keeps (by k_asm) (Fr.keep (by k_asm)))
      (case i3 => is_list)
      (case i4 => omega)
      (case i5 => first | decide | ktr_room)
      intro sa da od kvd h7 tk7 ks v1 v2 v3 v4 hk7 hna hnd hnad hga hgd hsd hod hfd
      have q3 : (summedF row).2.2.1 = (List.map (fun k' : Int => (row.length : Int) - k') (List.drop 1 places)).sum := hrest.s3
      have q4 : (summedF row).2.2.2.1 = (List.take ((row.length : Int)).toNat ah).sum - Int.fdiv ((row.length : Int) * ((row.length : Int) + 1)) 2 := by rw [hrest.s4, Int.toNat_natCast]; rfl
      rw [hrest.s1, hrest.s2, q3, q4] at hga
      clear q3 q4
      rw [hrest.s5] at hfd
      change FlatPairs PyData.int kvd (encT (tabN (fun i => (stepsF places).getD i 0) (stepsF places).length)) at hfd
      (rename IntsAre _ (List.map (fun k' : Int => places.getD (k' + 1).toNat 0 - places.getD k'.toNat 0) _) => hst9)
      rw [steps_eq] at hst9
      have hsl9 := IntsAre.length hst9
      have hsl8 := steps_len places
      (rename Fr _ _ _ _ => lF)
      (rename News _ _ _ _ => lN)
      have F7 := Fr.keeps lF hk7
      have N7 := news_new2 lF lN hk7 hna hga hnd hgd
      clear lF lN hk7 hna hnd hga hgd e1 e4 e6
      repeat (rename (_ ≠ _ ∧ _) => z9; clear z9))
  k_with "call ref" =>
    k_dflt (
      refine' back_spec (steps := stepsF places) (r := row) (t := ⟨(toldF row).toArray⟩) ?y1 ?y2 ?y3 hst9 ?y4 ?y5 hrest.srng ?y6 hrest.back ?y7 ?_
      (case y1 => exact Frag.In.keeps (by k_asm) (Fr.keep (by k_asm)))
      (case y2 => exact Top.keeps (by k_asm) (Fr.keep (by k_asm)))
      (case y3 => is_list)
      (case y4 => omega)
      (case y5 => omega)
      (case y6 => (have := hok.tlen; simp only [List.size_toArray]; omega))
      (case y7 => first | decide | ktr_room)
      intro ba vb kb hB tkB hkB hnB hgB hbi
      (rename Fr _ _ _ _ => lF)
      (rename News _ _ _ _ => lN)
      have FB := Fr.keeps lF hkB
      have NB := news_new lF lN hkB hnB hgB
      clear lF lN hkB hnB hgB)
  k_with "call builtin:min" =>
    k_dflt (
      (rename IntsAre _ (List.map _ (rangeKs _ _)) => hI9)
      have hm9 := gaps_ok (ah := ah) hag
      have hp9 := gaps_pos (ah := ah) hrp
      refine' kso_min ?f1 ?f2 ?f3 hI9 hp9 (by with_unfolding_all rfl) ?_
      (case f1 => k_asm)
      (case f2 => k_asm)
      (case f3 => kso_list)
      intro h5 M5 t5 k5 F5 N5 a5 b5
      replace b5 := hm9 _ a5
      clear a5 hm9 hp9 hI9)
  k_with "eval DictComp" =>
    (k_dflt refine' dictRange ?F0 (by rfl) (by rfl) (by decide) (by rfl) (by decide) (by rfl) ?_)
    (case F0 => k_asm)
  k_with "DSrc" =>
    k_dflt (
      (rename IsRange _ _ _ _ _ _ _ _ => hR9)
      (rename News _ _ _ _ => lN)
      (rename Obj.data _ = Data.cell (some (Value.ref _)) => hcd9)
      refine' ⟨_, (stepsF places).length, _, _, _, _, fun i => (stepsF places).getD i 0, rfl, hR9, ?x1, ?x2, lN, hSys, ?x3, ?x4, ?_⟩
      (case x1 => omega)
      (case x2 => k_asm)
      (case x3 => (intro C i tt s₃ m₃ E' hi hn hm hk; exact wpAny_Name (wpAny_loadName_local (m := m₃) rfl rfl hn hm ⟨⟨tt, rfl⟩, _, _, rfl, fun _ _ e => e⟩)))
      (case x4 => (intro C i tt s₃ m₃ E' hi hn hm hk
                   obtain ⟨t8, e8⟩ := ints_get hst9 hi
                   refine Subscript_ (wpAny_Name (wpAny_loadName_cell rfl rfl rfl ⟨_, hk _ _ (News.get lN (by k_mem)), hcd9⟩ (wpAny_Name (wpAny_loadName_local (m := m₃) rfl rfl hn hm ?_))))
                   refine item_listL (IsList_keeps (news_list9 lN (by k_mem)) hk) (by omega) (by omega) (by simpa using e8) ?_
                   exact ⟨⟨t8, rfl⟩, _, _, rfl, fun _ _ e => e⟩))
      intro D9 o9 kv9 h9 tk9 F9 N9 hne9 hs9 hd9 hf9)
  k_with "compareOp NotEq ref ref" =>
    k_dflt (
      refine kne_tabs (knd := intKind _ _) (enc := PyData.int) same_int (TabAt.ofNews N9 (by k_mem) hsd hod hfd) (TabAt.ofNews N9 (by k_mem) hs9 hd9 hf9) rfl (by k_units) (rows_tab _ _) ?_)
  k_with "compareOp Eq ref ref" =>
    k_dflt (
      refine eq_intsK (news_list9 NB (by k_mem)) hbi (news_list9 NB (by k_mem)) hri (by first | units_room | ktr_units) ?_
      rw [decide_eq_true (rfl : row = row)])
  k_steps)

end QM
end Mine
theorem PySem.Challenge.cw_qc0007_01_holds : PySem.Challenge.rw_qc0007_01.Holds := by
  exact Mine.go
