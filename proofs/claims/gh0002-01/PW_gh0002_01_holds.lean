import PyProof.Rows.All
import Wide.All
import OpenK.AllK
import Wide.FinOn
import PySem.Challenge.RW_gh0002_01
set_option Elab.async false
set_option linter.all false
set_option rowWalk.seconds 0
/-! FTop -/
section
open PySem PySem.W PyProof.Rows
set_option maxRecDepth 100000
set_option maxHeartbeats 8000000
namespace Foata
open_top hd for PySem.Challenge.rw_gh0002_01
end Foata
end
/-! FBase -/
section
open PySem PySem.W PySem.Calls PyProof.Rows
set_option maxRecDepth 100000
namespace Foata

abbrev pr : Program := PySem.Challenge.rw_gh0002_01.prog

abbrev NoE : Value → Shared → Prop := fun _ _ => False

/-- v is a list of the ints xs, borne by the ledger -/
def IsL (news : List (Addr × Obj)) (v : Value) (xs : List Int) : Prop :=
  ∃ b us k, v = .ref b ∧ (b, listOf us.toArray k) ∈ news ∧ IntsAre us xs

theorem IsL.mono {news news' : List (Addr × Obj)} {v : Value} {xs : List Int} (h : IsL news v xs) (hs : ∀ p ∈ news, p ∈ news') : IsL news' v xs := by
  obtain ⟨b, us, k, e, hm, hi⟩ := h
  exact ⟨b, us, k, e, hs _ hm, hi⟩

inductive AreL (news : List (Addr × Obj)) : List Value → List (List Int) → Prop
  | nil : AreL news [] []
  | cons {v xs vs xss} : IsL news v xs → AreL news vs xss → AreL news (v :: vs) (xs :: xss)

theorem AreL.mono {news news' : List (Addr × Obj)} {vs : List Value} {xss : List (List Int)} (h : AreL news vs xss) (hs : ∀ p ∈ news, p ∈ news') : AreL news' vs xss := by
  induction h with
  | nil => exact .nil
  | cons h1 _ ih => exact .cons (h1.mono hs) ih
theorem AreL.length {news : List (Addr × Obj)} {vs : List Value} {xss : List (List Int)} (h : AreL news vs xss) : vs.length = xss.length := by
  induction h with
  | nil => rfl
  | cons _ _ ih => simp [ih]
theorem AreL.append {news : List (Addr × Obj)} {vs us : List Value} {xss yss : List (List Int)} (h : AreL news vs xss) (h' : AreL news us yss) : AreL news (vs ++ us) (xss ++ yss) := by
  induction h with
  | nil => exact h'
  | cons h1 _ ih => exact .cons h1 ih
theorem AreL.get {news : List (Addr × Obj)} {vs : List Value} {xss : List (List Int)} (h : AreL news vs xss) : ∀ (i : Nat) (v : Value), vs[i]? = some v → ∃ xs, xss[i]? = some xs ∧ IsL news v xs := by
  induction h with
  | nil => intro i v e; simp at e
  | cons h1 _ ih =>
    intro i v e
    cases i with
    | zero => simp at e; subst e; exact ⟨_, rfl, h1⟩
    | succ i => simp at e; simpa using ih i v e

/-- v is a list of lists of ints -/
def IsLL (news : List (Addr × Obj)) (v : Value) (xss : List (List Int)) : Prop :=
  ∃ b us k, v = .ref b ∧ (b, listOf us.toArray k) ∈ news ∧ AreL news us xss
theorem IsLL.mono {news news' : List (Addr × Obj)} {v : Value} {xs : List (List Int)} (h : IsLL news v xs) (hs : ∀ p ∈ news, p ∈ news') : IsLL news' v xs := by
  obtain ⟨b, us, k, e, hm, hi⟩ := h
  exact ⟨b, us, k, e, hs _ hm, hi.mono hs⟩

def Fresh (news tl : List (Addr × Obj)) : Prop := ∀ q ∈ news, ∀ p ∈ tl, q.1 < p.1

theorem newsSub {h₀ h : Heap} {L : Addr} {l l' : List (Addr × Obj)} (N : News h₀ L h l) (hs : ∀ p ∈ l', p ∈ l) : News h₀ L h l' := fun p hp => N p (hs p hp)

section
variable {w : World} {loose : List Str} {mean : ExcName → Option Value} {mg mb : Str → Option Value} {news : List (Addr × Obj)}
 {dp un : Nat} {gd : Option (List Code)} {cn : Str} {cs : Scope} {a : Addr} {ccd : Value} {cl : List (Str × Addr)} {outer : List Env} {A₀ : Around} {base h₀ : Heap} {L : Addr} {m : Str → Option Value} {s : Shared} {Q E : Value → Shared → Prop}

/-- what a def's body ends in -/
def RetG (s : Shared) (g : Heap) (L' : Addr) (R : List (Addr × Obj) → Value → Prop) (fl : Flow) (s' : Shared) : Prop :=
  ∃ v news' h' tk' m', (match fl with | .ret v => v | _ => .none) = v ∧ s' = { s with heap := h', toks := tk' } ∧ Fr g L' h' m' ∧ News g L' h' news' ∧ R news' v

theorem enterG {name qual : Str} {params : Arguments} {body : List Stmt} {scope : Scope} {dV kV doc pm cdv ct oc : Value} {an od : Option Addr} {osl : Array (Option Value)} {f : Addr} {args : List Value} {binds : List (Str × Value)}
    (R : List (Addr × Obj) → Value → Prop)
    (B : Below A₀ base outer h₀) (F : Fr h₀ L s.heap m) (X : (Foata.hd.heap_39 w.params).In h₀) (N : News h₀ L s.heap news) (T : Top Foata.hd.view_39 loose mean mg mb h₀) (hk : cs.kind = .function)
    (ho : (Foata.hd.heap_39 w.params).lookup f = some ⟨oc, od, .func (fnOf name qual params body scope dV kV doc pm an cdv ct), osl⟩) (hcd : codeIn (Foata.hd.heap_39 w.params) cdv qual = true) (hdp : dp < recursionLimit)
    (hbind : BindsTo s (fnOf name qual params body scope dV kV doc pm an cdv ct) ⟨args, []⟩ binds) (hloc : ∀ y ∈ binds, scope.names.lookup y.1 = some .local)
    (h : ∀ g L' h₁ tk, Fr g L' h₁ (fun y => binds.reverse.lookup y) → News g L' h₁ news → Below (ktrTop dp un gd cn cs L a ccd cl outer) base (envX cn cs L a ccd cl :: outer) g → (Foata.hd.heap_39 w.params).In g → Top Foata.hd.view_39 loose mean mg mb g →
      wpAny (model pr w) (ktrTop (dp + 1) (un + 3) gd qual scope L' f cdv [] (envX cn cs L a ccd cl :: outer)) (execs body (envOf qual scope L' f cdv)) (RetG s g L' R) NoE { s with heap := h₁, toks := tk })
    (hret : ∀ v news' h' tk', Fr h₀ L h' m → News h₀ L h' news' → R news' v → Q v { s with heap := h', toks := tk' })
    (hco : scope.isCoroutine = false) (hgen : scope.isGenerator = false) (hks : scope.kind = .function)
    (hcell : ∀ x ∈ scope.names, x.2 ≠ .cell) :
    wpAny (model pr w) (ktrTop dp un gd cn cs L a ccd cl outer) (call (.ref f) args) Q E s := by
  refine wpAny_call ?_
  refine PySem.W.code_def B F X N T rfl rfl hk ho hcd hdp hbind hloc (fun g L' h₁ FG F' N' B' X' T' => ?_) hco hgen hks hcell
  refine wpAny_mono (h g L' h₁ _ F' N' B' X' T') (fun fl s' hr => ?_) fun _ _ x => x.elim
  obtain ⟨v, news', h', tk', m', rfl, rfl, F₂, N₂, hR⟩ := hr
  exact leaveK_ F₂ N₂ fun F₃ N₃ => hret _ news' h' tk' F₃ N₃ hR
end

/-! loops -/
section
variable {w : World} {A : Around} {E : Value → Shared → Prop} {s : Shared} {env : Env} {h₀ : Heap} {x : Str} {body : List Stmt} {Q : Flow → Shared → Prop}

def TurnP (h₀ : Heap) (L : Addr) (p : Addr × Obj) (kp : List (Addr × Obj)) (J : (Str → Option Value) → List (Addr × Obj) → Prop) (s : Shared) (Q : Flow → Shared → Prop) (f : Flow) (s₂ : Shared) : Prop :=
  match f with
  | .ret v => Q (.ret v) s₂
  | .brk => Q .next s₂
  | _ => ∃ h' tk' m' news', s₂ = { s with heap := h', toks := tk' } ∧ Fr h₀ L h' m' ∧ News h₀ L h' (p :: news') ∧ (∀ q ∈ kp, q ∈ news') ∧ (∀ q ∈ news', q.1 ≠ p.1) ∧ J m' news'

theorem loopJ {I : Addr} {fp : List Addr} {n : Nat} {P : Nat → Value → Prop} {St : Nat → Heap → Prop} {m₀ : Str → Option Value} {news : List (Addr × Obj)} (kp : List (Addr × Obj))
    (J : Nat → (Str → Option Value) → List (Addr × Obj) → Prop)
    (W : Walks pr w A I fp [I] n P St) (hfp : ∀ b ∈ fp, b = I ∨ (∃ o, h₀.get? b = some o) ∨ ∃ o, (b, o) ∈ kp) (hkp : ∀ q ∈ kp, q ∈ news)
    (hI : ∀ i h, St i h → ∃ o, h.get? I = some o) (hLI : env.locals ∉ fp) (h0I : h₀.get? I = none) (hnI : ∀ p ∈ news, p.1 ≠ I) (hst : St 0 s.heap)
    (F : Fr h₀ env.locals s.heap m₀) (N : News h₀ env.locals s.heap news) (hj : J 0 m₀ news)
    (turn : ∀ i v m₁ news₁ h tk it, i < n → P i v → J i m₁ news₁ → (∀ q ∈ kp, q ∈ news₁) → (∀ p ∈ news₁, p.1 ≠ I) → Fr h₀ env.locals h (fun y => if y = x then some v else m₁ y) → News h₀ env.locals h ((I, it) :: news₁) →
      wpAny (model pr w) A (execs body env) (TurnP h₀ env.locals (I, it) kp (J (i + 1)) s Q) E { s with heap := h, toks := tk })
    (done : ∀ m₁ news₁ h tk, J n m₁ news₁ → (∀ p ∈ news₁, p.1 ≠ I) → Fr h₀ env.locals h m₁ → News h₀ env.locals h news₁ → Q .next { s with heap := h, toks := tk }) :
    LoopAtV pr w A h₀ env x body Q E (.ref I) s := by
  let J' : Nat → (Str → Option Value) → List (Addr × Obj) → Prop := fun i m₁ news₁ => (∀ q ∈ kp, q ∈ news₁) ∧ J i m₁ news₁
  refine ⟨I, fp, [I], n, P, St, m₀, news, J', rfl, W, hLI, ?_, ?_, hst, F, N, ⟨hkp, hj⟩, ?_, ?_⟩
  · intro b hb; rw [List.mem_singleton.mp hb]; exact h0I
  · intro p hp hb; exact hnI p hp (List.mem_singleton.mp hb)
  · rintro i v m₁ news₁ s₁ own ⟨hh', tk', rfl⟩ hin hP ⟨hkp₁, hJ⟩ hoff hown hown2 hown3 hst₁ F₁ N₁
    obtain ⟨it, hit⟩ := hI _ _ hst₁
    have hIown : (I, it) ∈ own := hown3 I (W.sub I (List.mem_singleton.mpr rfl)) h0I it hit
    have hoffI : ∀ p ∈ news₁, p.1 ≠ I := fun p hp e => hoff p hp (List.mem_singleton.mpr e)
    have ownIs : ∀ p ∈ own, p = (I, it) ∨ p ∈ kp := by
      intro p hp
      rcases hfp _ (hown p hp) with e | ⟨o, e⟩ | ⟨o, e⟩
      · left
        have h1 := hown2 p hp
        rw [e, hit] at h1
        obtain ⟨p1, p2⟩ := p
        simp only at e h1
        rw [e, Option.some.inj h1]
      · have h3 := (N₁ p (List.mem_append_left _ hp)).2.2
        rw [e] at h3; cases h3
      · right
        have h1 := hown2 p hp
        have h2 := (N₁ _ (List.mem_append_right _ (hkp₁ _ e))).1
        simp only at h2
        rw [h1] at h2
        obtain ⟨p1, p2⟩ := p
        simp only at e h2
        rw [Option.some.inj h2]; exact e
    have N₂ : News h₀ env.locals hh' ((I, it) :: news₁) := fun p hp => by
      rcases List.mem_cons.mp hp with rfl | hp
      · exact N₁ _ (List.mem_append_left _ hIown)
      · exact N₁ _ (List.mem_append_right _ hp)
    refine wpAny_mono (turn i v m₁ news₁ hh' tk' it hin hP hJ hkp₁ hoffI F₁ N₂) (fun f s₂ p => ?_) fun _ _ e => e
    have fin : (∃ h' tk' m' news', s₂ = { s with heap := h', toks := tk' } ∧ Fr h₀ env.locals h' m' ∧ News h₀ env.locals h' ((I, it) :: news') ∧ (∀ q ∈ kp, q ∈ news') ∧ (∀ q ∈ news', q.1 ≠ I) ∧ J (i + 1) m' news') →
        LoopStepU h₀ env.locals [I] own (J' (i + 1)) { s with heap := hh', toks := tk' } .next s₂ := by
      rintro ⟨h', tk, m', news', e, F', N', hk', hn', hJ'⟩
      refine ⟨rfl, h', tk, m', news', e, F', fun p hp => ?_, fun p hp hq => hn' p hp (List.mem_singleton.mp hq), hk', hJ'⟩
      rcases List.mem_append.mp hp with hp | hp
      · rcases ownIs p hp with rfl | hp
        · exact N' _ (.head _)
        · exact N' _ (.tail _ (hk' _ hp))
      · exact N' _ (.tail _ hp)
    cases f with
    | ret v => exact LoopStepV.ret p
    | brk => exact LoopStepV.brk p
    | next => exact LoopStepV.next (fin p)
    | cont => exact LoopStepV.cont (fin p)
  · rintro h' tk m' news' F' N' hoff ⟨_, hJ⟩
    exact done m' news' h' tk hJ (fun p hp e => hoff p hp (List.mem_singleton.mpr e)) F' N'

theorem loop_range {r : Addr} {a₀ b₀ c₀ : Int} {t₀ u₀ v₀ : Tok} {n : Nat} {m₀ : Str → Option Value} {news : List (Addr × Obj)} {L : Addr}
    (J : Nat → (Str → Option Value) → List (Addr × Obj) → Prop) (hL : env.locals = L)
    (hh : A.handled = none) (hr : IsRange s.heap r a₀ b₀ c₀ t₀ u₀ v₀) (hsmall : Builtin.Range.small a₀ b₀ c₀ = true) (hn : Builtin.Range.rangeSize a₀ b₀ c₀ = (n : Int))
    (F : Fr h₀ L s.heap m₀) (N : News h₀ L s.heap news) (hj : J 0 m₀ news)
    (turn : ∀ I i t m₁ news₁ h tk it, (∀ p ∈ news, p.1 < I) → i < n → J i m₁ news₁ → (∀ p ∈ news₁, p.1 ≠ I) → Fr h₀ L h (fun y => if y = x then some (.int (a₀ + (i : Int) * c₀) t) else m₁ y) → News h₀ L h ((I, it) :: news₁) →
      wpAny (model pr w) A (execs body env) (TurnP h₀ L (I, it) [] (J (i + 1)) s Q) E { s with heap := h, toks := tk })
    (done : ∀ m₁ news₁ h tk, J n m₁ news₁ → Fr h₀ L h m₁ → News h₀ L h news₁ → Q .next { s with heap := h, toks := tk }) :
    wpAny (model pr w) A (pyIter (.ref r)) (fun it s₂ => LoopAtV pr w A h₀ env x body Q E it s₂) E s := by
  subst hL
  refine wpAny_pyIter_range hr hsmall ?_
  have W : Walks pr w A s.heap.objs.size [s.heap.objs.size] [s.heap.objs.size] n (fun i v => i < n ∧ ∃ t, v = .int (a₀ + i * c₀) t)
      (fun i h => IsRangeIter h s.heap.objs.size (a₀ + (i : Nat) * c₀) ((n : Int) - (i : Nat)) c₀) := (Walks.range hh _ a₀ c₀ n).bound
  refine loopJ [] J W (fun b hb => .inl (List.mem_singleton.mp hb)) (fun _ hq => nomatch hq) (fun i h hst => ⟨_, hst⟩) ?_ (next_is_new F) (News.ne_size N) (by show IsRangeIter _ _ _ _ _; rw [hn]; simpa using Heap.get?_push_size _ rfl)
    (F.push _) (fun p hp => ⟨Heap.get?_push_of_some _ (N p hp).1, (N p hp).2⟩) hj ?_ ?_
  · intro hm
    exact absurd F.ns.lt ((List.mem_singleton.mp hm) ▸ Nat.lt_irrefl _)
  · rintro i v m₁ news₁ h tk it hi ⟨_, t, rfl⟩ hJ _ hne F₁ N₁
    exact turn _ i t m₁ news₁ h tk it (fun p hp => Heap.lt_size (N p hp).1) hi hJ hne F₁ N₁
  · intro m₁ news₁ h tk hJ hne F₁ N₁
    exact done m₁ news₁ h tk hJ F₁ N₁

theorem loop_list {l : Addr} {vs : List Value} {nn : Nat} {m₀ : Str → Option Value} {news : List (Addr × Obj)} {L : Addr}
    (J : Nat → (Str → Option Value) → List (Addr × Obj) → Prop) (hL : env.locals = L)
    (hh : A.handled = none) (hl : (l, listOf vs.toArray nn) ∈ news)
    (F : Fr h₀ L s.heap m₀) (N : News h₀ L s.heap news) (hj : J 0 m₀ news)
    (turn : ∀ I i v m₁ news₁ h tk it, (∀ p ∈ news, p.1 < I) → vs[i]? = some v → J i m₁ news₁ → (l, listOf vs.toArray nn) ∈ news₁ → (∀ p ∈ news₁, p.1 ≠ I) → Fr h₀ L h (fun y => if y = x then some v else m₁ y) → News h₀ L h ((I, it) :: news₁) →
      wpAny (model pr w) A (execs body env) (TurnP h₀ L (I, it) [(l, listOf vs.toArray nn)] (J (i + 1)) s Q) E { s with heap := h, toks := tk })
    (done : ∀ m₁ news₁ h tk, J vs.length m₁ news₁ → Fr h₀ L h m₁ → News h₀ L h news₁ → Q .next { s with heap := h, toks := tk }) :
    wpAny (model pr w) A (pyIter (.ref l)) (fun it s₂ => LoopAtV pr w A h₀ env x body Q E it s₂) E s := by
  subst hL
  have hls : s.heap.IsList l vs.toArray := News.isList N hl
  have hlt : l < s.heap.objs.size := Heap.lt_size (N _ hl).1
  have hne : l ≠ s.heap.objs.size := Nat.ne_of_lt hlt
  refine wpAny_pyIter_list hls ?_
  have W := Walks.list (prog := pr) (w := w) hh s.heap.objs.size l hne vs.toArray
  refine loopJ [(l, listOf vs.toArray nn)] J W ?_ ?_ ?_ ?_ (next_is_new F) (News.ne_size N) ⟨⟨_, Heap.get?_push_size _ rfl, rfl, rfl⟩, hls.at fun o e => Heap.get?_push_of_some _ e⟩
    (F.push _) (fun p hp => ⟨Heap.get?_push_of_some _ (N p hp).1, (N p hp).2⟩) hj ?_ ?_
  · intro b hb
    rcases List.mem_cons.mp hb with e | hb
    · exact .inl e
    · exact .inr (.inr ⟨_, List.mem_singleton.mpr (by rw [List.mem_singleton.mp hb])⟩)
  · intro q hq; rw [List.mem_singleton.mp hq]; exact hl
  · rintro i h ⟨⟨o, e, _⟩, _⟩; exact ⟨o, e⟩
  · intro hm
    rcases List.mem_cons.mp hm with e | hm
    · exact absurd F.ns.lt (e ▸ Nat.lt_irrefl _)
    · exact (N _ hl).2.1 (List.mem_singleton.mp hm).symm
  · rintro i v m₁ news₁ h tk it hi hP hJ hkp hne F₁ N₁
    exact turn _ i v m₁ news₁ h tk it (fun p hp => Heap.lt_size (N p hp).1) (by simpa using hP) hJ (hkp _ (List.mem_singleton.mpr rfl)) hne F₁ N₁
  · intro m₁ news₁ h tk hJ hne F₁ N₁
    exact done m₁ news₁ h tk (by simpa using hJ) F₁ N₁
end
end Foata
namespace Foata
/-- a place where the walk stands still -/
def Stop (P : Prop) : Prop := P
theorem Stop.out {P : Prop} (h : Stop P) : P := h
theorem Stop.mk {P : Prop} (h : P) : Stop P := h
theorem kstB_self {m : Str → Option Value} {ps : List (Str × Value)} (h : ∀ p ∈ ps, m p.1 = some p.2) : kstB m ps = m := by
  funext z
  exact kstB_eq h fun _ => rfl
theorem Fr.canon {g h : Heap} {L : Addr} {m : Str → Option Value} (ps : List (Str × Value)) (F : Fr g L h m) (hp : ∀ p ∈ ps, m p.1 = some p.2) : Fr g L h (kstB m ps) := by
  rw [kstB_self hp]; exact F
theorem ltOf {d : Addr} : ∀ {l : List (Addr × Obj)}, AllLt d l → ∀ p ∈ l, p.1 < d
  | [], _, _, hp => nomatch hp
  | _ :: _, h, p, hp => by
    rcases List.mem_cons.mp hp with rfl | hp
    · exact h.1
    · exact ltOf h.2 p hp
theorem AllLt.app {d : Addr} {l l' : List (Addr × Obj)} (h : AllLt d (l ++ l')) : (∀ p ∈ l, p.1 < d) ∧ ∀ p ∈ l', p.1 < d :=
  ⟨fun p hp => ltOf h p (List.mem_append_left _ hp), fun p hp => ltOf h p (List.mem_append_right _ hp)⟩
end Foata
namespace Foata
section
variable {w : World} {A : Around} {E : Value → Shared → Prop} {s : Shared} {h₀ : Heap} {L : Addr} {m : Str → Option Value} {news : List (Addr × Obj)}
theorem f_add {l b : Addr} {vs ws : List Value} {nl nb : Nat} {xs ys : List Int} {Q : Value → Shared → Prop} (F : Fr h₀ L s.heap m) (N : News h₀ L s.heap news)
    (hl : (l, listOf vs.toArray nl) ∈ news) (hb : (b, listOf ws.toArray nb) ∈ news) (hi : IntsAre vs xs) (hj : IntsAre ws ys) (hsz : xs.length + ys.length ≤ 16777216)
    (h : ∀ D h', (∀ p ∈ news, p.1 < D) → Fr h₀ L h' m → News h₀ L h' ((D, listOf (vs ++ ws).toArray 0) :: news) → IntsAre (vs ++ ws) (xs ++ ys) → Q (.ref D) { s with heap := h' }) :
    wpAny (model pr w) A (binaryOp .Add (.ref l) (.ref b)) Q E s :=
  add_lists_ints (hsz := by rw [sizeLine_eq]; exact hsz) F N (News.isList N hl) (News.isList N hb) hi hj fun h' F' N' hi' => h _ h' (fun p hp => Heap.lt_size (N p hp).1) F' N' hi'
theorem f_append {D : Addr} {its : Array Value} {n : Nat} {x : Value} {pre post : List (Addr × Obj)} {Q : Value → Shared → Prop} (F : Fr h₀ L s.heap m) (N : News h₀ L s.heap (pre ++ (D, listOf its n) :: post))
    (h1 : ∀ p ∈ pre, p.1 ≠ D) (h2 : ∀ p ∈ post, p.1 ≠ D) (hsz : its.size ≤ 16777216)
    (h : ∀ h', Fr h₀ L h' m → News h₀ L h' (pre ++ (D, listOf (its.push x) (n + 1)) :: post) → Q .none { s with heap := h' }) : wpAny (model pr w) A (call (.builtin "list.append") [.ref D, x]) Q E s := by
  have z := N (D, listOf its n) (List.mem_append.mpr (.inr (.head _)))
  exact append_at (hsz := by rw [sizeLine_eq]; exact hsz) z.1 fun h' hs ho' => h h' (F.change hs z.2.1 z.2.2) (news_set N h1 h2 hs ho')
end
end Foata
namespace Foata
section
variable {w : World} {A : Around} {E : Value → Shared → Prop} {s : Shared} {h₀ : Heap} {L : Addr} {m : Str → Option Value} {news : List (Addr × Obj)}
theorem insert_at {D : Addr} {its : Array Value} {n : Nat} {k : Int} {u : Tok} {x : Value} {Q : Value → Shared → Prop} (ho : s.heap.get? D = some { cls := .type "list", data := .seq its n })
    (hc : ¬ (!Builtin.List.listFitsIndex k) = true) (hz : its.size ≤ sizeLine)
    (h : Q .none { s with heap := s.heap.update D (Obj.mapSeq fun xs => have k := if k < 0 then (k + (xs.size : Int)).toNat else min k.toNat xs.size; (xs.extract 0 k).push x ++ xs.extract k) }) :
    wpAny (model pr w) A (call (.builtin "list.insert") [.ref D, .int k u, x]) Q E s :=
  call_meets PySem.F.slot_list_insert (T := "list") ⟨_, ho, rfl⟩ PySem.F.entry_list_insert (PySem.F.args_list_insert_3 _ _ _) (AutoSeq1.list_insert_list_int_val_1 D its n k u x hc hz) ⟨ho, h⟩
theorem f_insert {D : Addr} {vs : List Value} {n k : Nat} {u : Tok} {x : Value} {pre post : List (Addr × Obj)} {Q : Value → Shared → Prop} (Fm : Fr h₀ L s.heap m) (N : News h₀ L s.heap (pre ++ (D, listOf vs.toArray n) :: post))
    (h1 : ∀ p ∈ pre, p.1 ≠ D) (h2 : ∀ p ∈ post, p.1 ≠ D) (hk : k ≤ vs.length) (hsz : vs.length ≤ 16777216)
    (h : ∀ h', Fr h₀ L h' m → News h₀ L h' (pre ++ (D, listOf (vs.take k ++ x :: vs.drop k).toArray (n + 1)) :: post) → Q .none { s with heap := h' }) :
    wpAny (model pr w) A (call (.builtin "list.insert") [.ref D, .int ((k : Nat) : Int) u, x]) Q E s := by
  have z := N (D, listOf vs.toArray n) (List.mem_append.mpr (.inr (.head _)))
  have hc : ¬ (!Builtin.List.listFitsIndex ((k : Nat) : Int)) = true := by
    have : Builtin.List.listFitsIndex ((k : Nat) : Int) = true := by
      simp only [Builtin.List.listFitsIndex, Bool.and_eq_true, decide_eq_true_eq]
      omega
    simp [this]
  have e : ∀ n', Obj.mapSeq (fun xs : Array Value => have k' := if ((k : Nat) : Int) < 0 then (((k : Nat) : Int) + (xs.size : Int)).toNat else min ((k : Nat) : Int).toNat xs.size; (xs.extract 0 k').push x ++ xs.extract k') (listOf vs.toArray n') = listOf (vs.take k ++ x :: vs.drop k).toArray (n' + 1) := by
    intro n'
    have hk' : (if ((k : Nat) : Int) < 0 then (((k : Nat) : Int) + (vs.toArray.size : Int)).toNat else min ((k : Nat) : Int).toNat vs.toArray.size) = k := by
      rw [if_neg (by omega)]; simp; omega
    simp only [Obj.mapSeq, hk']
    have e1 : (vs.toArray.extract 0 k).push x ++ vs.toArray.extract k = (vs.take k ++ x :: vs.drop k).toArray := by
      apply Array.toList_inj.mp
      simp [List.take_of_length_le]
    rw [e1]
    rw [if_neg]
    simp only [List.size_toArray, List.length_append, List.length_take, List.length_cons, List.length_drop, beq_iff_eq]
    omega
  have hz : vs.toArray.size ≤ sizeLine := by rw [sizeLine_eq, List.size_toArray]; exact hsz
  refine insert_at z.1 hc hz ?_
  refine h _ (Fm.change (Heap.SameBut.update ..) z.2.1 z.2.2) (news_set N h1 h2 (Heap.SameBut.update ..) ?_)
  rw [Heap.get?_update_self _ z.1 (by rw [e]; rfl), e]

theorem f_item {value slice : PySem.Expr} {l : Addr} {vs : List Value} {n : Nat} {k : Int} {u : Tok} {v : Value} {Q : Value → Shared → Prop}
    (N : News h₀ L s.heap news) (hl : (l, listOf vs.toArray n) ∈ news) (h0 : 0 ≤ k) (hhi : k < 2 ^ 63) (hx : vs[k.toNat]? = some v) (h : Q v s)
    (hs : subscripted slice false (.ref l) (.int k u) = operate [.ref l, .int k u] (getItem (.ref l) (.int k u)) := by with_unfolding_all rfl) :
    wpAny (model pr w) A (subscriptTail value slice (.ref l) (.int k u)) Q E s :=
  tail_any (News.isList N hl).typeIs slot_list_getitem.lookup (wpAny_getItem_list (News.isList N hl) h0 hhi (by simpa using hx) h) hs
end
end Foata
namespace Foata
theorem Fr.canonE {g h : Heap} {L : Addr} {m : Str → Option Value} (ps : List (Str × Value)) (F : Fr g L h m) (hp : ∀ p ∈ ps, m p.1 = some p.2) : ∃ bm, Fr g L h (kstB bm ps) :=
  ⟨m, Fr.canon ps F hp⟩
end Foata
namespace Foata
section
variable {w : World} {A : Around} {E : Value → Shared → Prop} {s : Shared} {h₀ : Heap} {L : Addr} {m : Str → Option Value} {news : List (Addr × Obj)}
theorem f_len {l : Addr} {vs : List Value} {n : Nat} {Q : Value → Shared → Prop} (N : News h₀ L s.heap news) (hl : (l, listOf vs.toArray n) ∈ news) (hfit : vs.length ≤ 16777216)
    (h : Q (.int ((vs.length : Nat) : Int) (s.toks + 1)) { s with toks := s.toks + 1 + 1 }) : wpAny (model pr w) A (call (.builtin "len") [.ref l]) Q E s := by
  refine Calls.call_len_list (News.isList N hl) (by rw [List.size_toArray]; omega) ?_
  rw [List.size_toArray]; exact h
end
theorem fdiv2 (a b : Nat) : Int.fdiv ((a : Int) + (b : Int)) 2 = (((a + b) / 2 : Nat) : Int) := by
  rw [Int.fdiv_eq_ediv_of_nonneg _ (by omega)]; omega
end Foata
namespace Foata
section
variable {w : World} {loose : List Str} {mean : ExcName → Option Value} {mg mb : Str → Option Value} {news : List (Addr × Obj)}
 {dp un : Nat} {gd : Option (List Code)} {cn : Str} {cs : Scope} {a : Addr} {ccd : Value} {cl : List (Str × Addr)} {outer : List Env} {A₀ : Around} {base h₀ : Heap} {L : Addr} {m : Str → Option Value} {s : Shared} {Q E : Value → Shared → Prop}
theorem enterC {name qual : Str} {params : Arguments} {body : List Stmt} {scope : Scope} {dV kV doc pm cdv ct oc : Value} {an od : Option Addr} {osl : Array (Option Value)} {f : Addr} {args : List Value} {binds : List (Str × Value)}
    (R : List (Addr × Obj) → Value → Prop)
    (B : Below A₀ base outer h₀) (F : Fr h₀ L s.heap m) (X : (Foata.hd.heap_39 w.params).In h₀) (N : News h₀ L s.heap news) (T : Top Foata.hd.view_39 loose mean mg mb h₀) (hk : cs.kind = .function)
    (ho : (Foata.hd.heap_39 w.params).lookup f = some ⟨oc, od, .func (fnOf name qual params body scope dV kV doc pm an cdv ct), osl⟩) (hcd : codeIn (Foata.hd.heap_39 w.params) cdv qual = true) (hdp : dp < recursionLimit)
    (hbind : BindsTo s (fnOf name qual params body scope dV kV doc pm an cdv ct) ⟨args, []⟩ binds) (hkind : (binds.all fun y => scope.names.lookup y.1 == some .local || scope.names.lookup y.1 == some .cell) = true)
    (hnd : ((cellsFrom 0 scope.names []).map (·.1)).Nodup)
    (h : ∀ g L' h₁ tk cells, Fr g L' h₁ (bindL (envOfC qual scope L' f cdv).kindOf binds fun _ => none) → News g L' h₁ (cells ++ news) →
      CellsAre (bindC (envOfC qual scope L' f cdv).kindOf binds fun _ => none) (cellsFrom (L' + 1) scope.names []) cells →
      Below (ktrTop dp un gd cn cs L a ccd cl outer) base (envX cn cs L a ccd cl :: outer) g → (Foata.hd.heap_39 w.params).In g → Top Foata.hd.view_39 loose mean mg mb g → (∀ p ∈ news, p.1 < L') →
      wpAny (model pr w) (ktrTop (dp + 1) (un + 3) gd qual scope L' f cdv (cellsFrom (L' + 1) scope.names []) (envX cn cs L a ccd cl :: outer)) (execs body (envOfC qual scope L' f cdv)) (RetG s g L' R) NoE { s with heap := h₁, toks := tk })
    (hret : ∀ v news' h' tk', Fr h₀ L h' m → News h₀ L h' news' → R news' v → Q v { s with heap := h', toks := tk' })
    (hco : scope.isCoroutine = false) (hgen : scope.isGenerator = false) (hks : scope.kind = .function) :
    wpAny (model pr w) (ktrTop dp un gd cn cs L a ccd cl outer) (call (.ref f) args) Q E s := by
  refine wpAny_call ?_
  refine PySem.W.code_defC B F X N T rfl rfl hk ho hcd hdp hbind hkind hnd (fun g L' h₁ tk cells FG F' N' Y' B' X' T' hlt => ?_) hco hgen hks
  refine wpAny_mono (h g L' h₁ tk cells F' N' Y' B' X' T' hlt) (fun fl s' hr => ?_) fun _ _ x => x.elim
  obtain ⟨v, news', h', tk', m', rfl, rfl, F₂, N₂, hR⟩ := hr
  exact leaveK_ F₂ N₂ fun F₃ N₃ => hret _ news' h' tk' F₃ N₃ hR
end
end Foata
namespace Foata
section
variable {w : World} {A : Around} {E : Value → Shared → Prop} {s : Shared} {h₀ : Heap} {L : Addr} {m : Str → Option Value} {news : List (Addr × Obj)}
theorem f_slice_to {value slice : PySem.Expr} {l : Addr} {vs : List Value} {n : Nat} {xs : List Int} {y : Int} {u : Tok} {ops : List Value} {Q : Value → Shared → Prop}
    (Fm : Fr h₀ L s.heap m) (N : News h₀ L s.heap news) (hl : (l, listOf vs.toArray n) ∈ news) (hi : IntsAre vs xs) (h0 : 0 ≤ y) (hsz : xs.length ≤ 16777216)
    (h : ∀ D h' us, (∀ p ∈ news, p.1 < D) → Fr h₀ L h' m → News h₀ L h' ((D, listOf us.toArray 0) :: news) → IntsAre us (xs.take y.toNat) → Q (.ref D) { s with heap := h' })
    (hs : subscripted slice false (.ref l) (.ref s.heap.objs.size) = operate ops (getItem (.ref l) (.ref s.heap.objs.size)))
    (ht : ∀ r, letTemporaryGo value (.ref l) r = pure ()) :
    wpAny (model pr w) A (subscriptTail value slice (.ref l) (.ref s.heap.objs.size)) Q E { s with heap := s.heap.push { cls := .type "slice", data := .fields #[.none, .int y u, .none] } } := by
  refine slice_list3 Fm N (News.isList N hl) .none (.int _ _) .none (by decide) (fun h' F' N' => ?_) hs ht (by rw [sizeLine_eq, List.size_toArray, hi.length]; exact hsz)
  refine h (s.heap.objs.size + 1) h' (slicePick vs.toArray none (some y) none).toList (fun p hp => Nat.lt_succ_of_lt (Heap.lt_size (N p hp).1)) F' ?_ (slice_ints_uptoW hi h0)
  rw [Array.toArray_toList]; exact N'
end
end Foata
end
/-! FPure -/
section
namespace Foata
def up (xs : List Nat) : List Int := xs.map fun (n : Nat) => (n : Int)
@[simp] theorem up_length (xs : List Nat) : (up xs).length = xs.length := by simp [up]
@[simp] theorem up_append (xs ys : List Nat) : up (xs ++ ys) = up xs ++ up ys := by simp [up]
@[simp] theorem up_nil : up [] = [] := rfl
@[simp] theorem up_cons (x : Nat) (xs : List Nat) : up (x :: xs) = (x : Int) :: up xs := rfl
theorem up_getD (xs : List Nat) (i : Nat) : (up xs).getD i 0 = ((xs.getD i 0 : Nat) : Int) := by
  induction xs generalizing i with
  | nil => simp
  | cons x xs ih => cases i <;> simp_all

/-- the inner while of _law_rings -/
def chase (o : List Nat) (place : Nat) : Nat → List Nat → Nat → List Nat
  | 0, ring, _ => ring
  | f + 1, ring, here => if here ≠ place ∧ ring.length ≤ o.length then chase o place f (ring ++ [here]) (o.getD here 0) else ring
def ringAt (o : List Nat) (place : Nat) : List Nat := chase o place (o.length + 1) [place] (o.getD place 0)
def ringsN (o : List Nat) : Nat → List Nat × List (List Nat)
  | 0 => ([], [])
  | i + 1 => let st := ringsN o i
    let place := o.length - 1 - i
    if place ∈ st.1 then st else (st.1 ++ ringAt o place, st.2 ++ [ringAt o place])
def rings (o : List Nat) : List (List Nat) := (ringsN o o.length).2
def greatest (o : List Nat) : List Nat := (List.range o.length).filter fun k => ((o.take k).filter fun x => decide (o.getD k 0 < x)) = []
end Foata
namespace Foata
theorem up_any (xs : List Nat) (k : Nat) : ((up xs).any fun x => x == (k : Int)) = decide (k ∈ xs) := by
  induction xs with
  | nil => simp
  | cons x xs ih =>
    rw [up_cons, List.any_cons, ih]
    by_cases h : x = k
    · simp [h]
    · have : ((x : Int) == (k : Int)) = false := by simp; omega
      rw [this]; simp [Ne.symm h]
theorem chase_step {o : List Nat} {place f : Nat} {ring : List Nat} {here : Nat} (h1 : here ≠ place) (h2 : ring.length ≤ o.length) :
    chase o place (f + 1) ring here = chase o place f (ring ++ [here]) (o.getD here 0) := by
  rw [chase, if_pos ⟨h1, h2⟩]
theorem chase_stop {o : List Nat} {place f : Nat} {ring : List Nat} {here : Nat} (h : here = place ∨ o.length < ring.length) :
    chase o place f ring here = ring := by
  cases f with
  | zero => rfl
  | succ f => rw [chase, if_neg (by omega)]
theorem getD_lt {o : List Nat} (h : ∀ x ∈ o, x < o.length) {i : Nat} (hi : i < o.length) : o.getD i 0 < o.length := by
  rw [List.getD_eq_getElem?_getD, List.getElem?_eq_getElem hi]
  exact h _ (List.getElem_mem hi)
end Foata
namespace Foata
theorem chase_length {o : List Nat} {place : Nat} : ∀ {f : Nat} {r : List Nat} {h : Nat}, r.length ≤ o.length + 1 → (chase o place f r h).length ≤ o.length + 1
  | 0, _, _, hr => hr
  | f + 1, r, h, hr => by
    rw [chase]
    split
    · rename_i hc
      exact chase_length (by rw [List.length_append]; simp; omega)
    · exact hr
theorem ringAt_length (o : List Nat) (place : Nat) : (ringAt o place).length ≤ o.length + 1 := chase_length (by simp)
theorem ringsN_length (o : List Nat) : ∀ i, (ringsN o i).1.length ≤ i * (o.length + 1) ∧ (ringsN o i).2.length ≤ i
  | 0 => by simp [ringsN]
  | i + 1 => by
    have ih := ringsN_length o i
    have h := ringAt_length o (o.length - 1 - i)
    rw [ringsN, Nat.succ_mul]
    split
    · exact ⟨by omega, by omega⟩
    · simp only [List.length_append, List.length_cons, List.length_nil]
      exact ⟨by omega, by omega⟩
theorem ringsN_small {o : List Nat} (h : o.length ≤ 64) {i : Nat} (hi : i ≤ o.length) : (ringsN o i).1.length ≤ 4160 ∧ (ringsN o i).2.length ≤ 64 := by
  have := ringsN_length o i
  have h2 : i * (o.length + 1) ≤ 64 * 65 := Nat.mul_le_mul (by omega) (by omega)
  omega
end Foata
namespace Foata
/-- the while of bisect_left: p says of a place that what stands there is less -/
def bis (p : Nat → Bool) : Nat → Nat → Nat → Nat
  | 0, lo, _ => lo
  | f + 1, lo, hi => if lo < hi then (if p ((lo + hi) / 2) then bis p f ((lo + hi) / 2 + 1) hi else bis p f lo ((lo + hi) / 2)) else lo
theorem bis_done {p : Nat → Bool} {f lo hi : Nat} (h : hi ≤ lo) : bis p f lo hi = lo := by
  cases f with
  | zero => rfl
  | succ f => rw [bis, if_neg (by omega)]
theorem bis_right {p : Nat → Bool} {f lo hi : Nat} (h : lo < hi) (hp : p ((lo + hi) / 2) = true) : bis p (f + 1) lo hi = bis p f ((lo + hi) / 2 + 1) hi := by
  rw [bis, if_pos h, if_pos hp]
theorem bis_left {p : Nat → Bool} {f lo hi : Nat} (h : lo < hi) (hp : p ((lo + hi) / 2) = false) : bis p (f + 1) lo hi = bis p f lo ((lo + hi) / 2) := by
  rw [bis, if_pos h, if_neg (by rw [hp]; exact Bool.false_ne_true)]
theorem bis_le {p : Nat → Bool} : ∀ {f lo hi : Nat}, lo ≤ hi → lo ≤ bis p f lo hi ∧ bis p f lo hi ≤ hi
  | 0, _, _, h => ⟨Nat.le_refl _, h⟩
  | f + 1, lo, hi, h => by
    rw [bis]
    split
    · split
      · have := bis_le (p := p) (f := f) (lo := (lo + hi) / 2 + 1) (hi := hi) (by omega); omega
      · have := bis_le (p := p) (f := f) (lo := lo) (hi := (lo + hi) / 2) (by omega); omega
    · omega
end Foata
namespace Foata
end Foata
end
/-! FCmp -/
section
open PySem PySem.W PySem.Calls PyProof.Rows
set_option maxRecDepth 100000
set_option maxHeartbeats 8000000
namespace Foata
/-- Python's < of two int lists -/
def ltL : List Int → List Int → Bool
  | [], [] => false
  | [], _ :: _ => true
  | _ :: _, [] => false
  | x :: xs, y :: ys => if x = y then ltL xs ys else decide (x < y)

open MeetsSeq MeetsSeq2 MeetsSeq3 SeqRoads2 AutoSeq1 in
theorem lt_loop (l b : Addr) (vs us : List Value) (n n2 : Nat) (xs ys : List Int) (hi : IntsAre vs xs) (hj : IntsAre us ys) (k : Nat) :
    ∀ i : Nat, xs.length - i = k → i ≤ xs.length → i ≤ ys.length → Meets (Builtin.«list.__eq__.loop» ⟨[.ref l, .ref b, rawInt i, rawInt 0], []⟩)
      (fun A R s => s.heap.get? l = some (listOf vs.toArray n) ∧ s.heap.get? b = some (listOf us.toArray n2) ∧
        R (.ok (.ret (.bool (ltL (xs.drop i) (ys.drop i))))) s) := by
  have hlv : vs.length = xs.length := hi.length
  have hlu : us.length = ys.length := hj.length
  induction k with
  | zero =>
    intro i hk h1 h2 prog w A R s h
    obtain ⟨hp, g, d, tk, os⟩ := s; obtain ⟨hl, hb, h⟩ := h
    wp_walk using wpAny_loadPart' hl, wpAny_loadPart' hb
    have hi1 : vs.toArray[((i : Nat) : Int).toNat]? = none := by simp; omega
    have hd : xs.drop i = [] := by simp; omega
    rw [hd] at h
    rw [hi1]
    by_cases hi2 : i < ys.length
    · have e2 : us.toArray[((i : Nat) : Int).toNat]? = some us[i] := by simp [hlu, hi2]
      rw [e2]
      wp_walk using wpAny_loadPart' hl, wpAny_loadPart' hb
      show R (.ok (.ret (.bool (decide (vs.toArray.size < us.toArray.size))))) _
      have e3 : decide (vs.toArray.size < us.toArray.size) = true := by simp; omega
      have e4 : ltL [] (ys.drop i) = true := by
        rw [List.drop_eq_getElem_cons hi2]; rfl
      rw [e3]; rw [e4] at h; exact h
    · have e2 : us.toArray[((i : Nat) : Int).toNat]? = none := by simp; omega
      rw [e2]
      wp_walk using wpAny_loadPart' hl, wpAny_loadPart' hb
      show R (.ok (.ret (.bool (decide (vs.toArray.size < us.toArray.size))))) _
      have e3 : decide (vs.toArray.size < us.toArray.size) = false := by simp; omega
      have e4 : ltL [] (ys.drop i) = false := by
        rw [List.drop_eq_nil_of_le (by omega)]; rfl
      rw [e3]; rw [e4] at h; exact h
  | succ k ih =>
    intro i hk h1 h2 prog w A R s h
    obtain ⟨hp, g, d, tk, os⟩ := s; obtain ⟨hl, hb, h⟩ := h
    wp_walk using wpAny_loadPart' hl, wpAny_loadPart' hb
    have hlt : i < xs.length := by omega
    have hi1 : vs.toArray[((i : Nat) : Int).toNat]? = some vs[i] := by simp [hlv, hlt]
    have hd : xs.drop i = xs[i] :: xs.drop (i + 1) := List.drop_eq_getElem_cons hlt
    obtain ⟨tx, ex⟩ := hi.get i xs[i] (by simp [hlt])
    have ex' : vs[i] = .int xs[i] tx := by
      have := List.getElem?_eq_getElem (l := vs) (i := i) (by omega); rw [this] at ex; exact Option.some.inj ex
    by_cases hi2 : i < ys.length
    · have hc : ((i : Int) + 1) = ((i + 1 : Nat) : Int) := by push_cast; rfl
      have e2 : us.toArray[((i : Nat) : Int).toNat]? = some us[i] := by simp [hlu, hi2]
      obtain ⟨ty, ey⟩ := hj.get i ys[i] (by simp [hi2])
      have ey' : us[i] = .int ys[i] ty := by
        have := List.getElem?_eq_getElem (l := us) (i := i) (by omega); rw [this] at ey; exact Option.some.inj ey
      rw [hd, List.drop_eq_getElem_cons hi2] at h
      rw [hi1, e2, ex', ey']
      refine wpAny_bind (wpAny_eqBool_int ?_)
      by_cases hxy : xs[i] = ys[i]
      · have hb' : (xs[i] == ys[i]) = true := by simp [hxy]
        rw [hb']
        wp_walk
        rw [hc]
        exact ⟨plainId_quiet plain_eq_loop _, codeAny_builtin entry_eq_loop (by
          rw [Around.under_plainId plain_eq_loop _]
          refine ih (i + 1) (by omega) (by omega) (by omega) prog w A R _ ⟨hl, hb, ?_⟩
          rw [ltL, if_pos hxy] at h
          exact h)⟩
      · have hb' : (xs[i] == ys[i]) = false := by simp [hxy]
        rw [hb']
        wp_walk using wpAny_loadPart' hl, wpAny_loadPart' hb
        rw [hi1, e2, ex', ey']
        refine wpAny_bind (wpAny_lt_int ?_)
        wp_walk
        rw [ltL, if_neg hxy] at h
        exact h
    · have e2 : us.toArray[((i : Nat) : Int).toNat]? = none := by simp; omega
      rw [hi1, e2]
      wp_walk using wpAny_loadPart' hl, wpAny_loadPart' hb
      show R (.ok (.ret (.bool (decide (vs.toArray.size < us.toArray.size))))) _
      have e3 : decide (vs.toArray.size < us.toArray.size) = false := by simp; omega
      have e4 : ltL (xs.drop i) (ys.drop i) = false := by
        rw [List.drop_eq_nil_of_le (by omega : ys.length ≤ i), hd]; rfl
      rw [e3]; rw [e4] at h; exact h

open MeetsSeq MeetsSeq2 MeetsSeq3 SeqRoads2 AutoSeq1 in
theorem list_lt (l b : Addr) (vs us : List Value) (n n2 : Nat) (xs ys : List Int) (hi : IntsAre vs xs) (hj : IntsAre us ys) :
    Meets (Builtin.«list.__lt__» ⟨[.ref l, .ref b], []⟩)
      (fun A R s => s.heap.get? l = some (listOf vs.toArray n) ∧ s.heap.get? b = some (listOf us.toArray n2) ∧ R (.ok (.ret (.bool (ltL xs ys)))) s) := by
  intro prog w A R s h
  obtain ⟨hp, g, d, tk, os⟩ := s; obtain ⟨hl, hb, h⟩ := h
  have f3 := AutoSeq1.sub_list_list
  wp_walk using wpAny_loadPart' hl, wpAny_loadPart' hb
  exact ⟨plainId_quiet plain_eq_loop _, codeAny_builtin entry_eq_loop (by
    rw [Around.under_plainId plain_eq_loop _]
    exact lt_loop l b vs us n n2 xs ys hi hj _ 0 rfl (Nat.zero_le _) (Nat.zero_le _) prog w A R _ ⟨hl, hb, by simpa using h⟩)⟩

section
variable {w : World} {A : Around} {E : Value → Shared → Prop} {s : Shared} {h₀ : Heap} {L : Addr} {m : Str → Option Value} {news : List (Addr × Obj)}
theorem f_lt {l b : Addr} {vs us : List Value} {n n2 : Nat} {xs ys : List Int} {Q : Value → Shared → Prop} (N : News h₀ L s.heap news)
    (hl : (l, listOf vs.toArray n) ∈ news) (hb : (b, listOf us.toArray n2) ∈ news) (hi : IntsAre vs xs) (hj : IntsAre us ys) (hu : A.units < cLine)
    (h : Q (.bool (ltL xs ys)) s) : wpAny (model pr w) A (compareOp .Lt (.ref l) (.ref b)) Q E s := by
  have ho := (N _ hl).1
  have ho2 := (N _ hb).1
  exact richCompare_meets_room (op := .Lt) ⟨_, ho, rfl⟩ ⟨_, ho2, rfl⟩ F.slot_list_lt F.entry_list_lt (F.args_list_lt_2 _ _) (list_lt l b vs us n n2 xs ys hi hj)
    ⟨ho, ho2, show Value.bool (ltL xs ys) ≠ Value.notImplemented ∧ Q (.bool (ltL xs ys)) s from ⟨(fun x => nomatch x), h⟩⟩ hu
end
end Foata
end
/-! FComp -/
section
open PySem PySem.W PySem.Calls PyProof.Rows
set_option maxRecDepth 100000
set_option maxHeartbeats 8000000
namespace Foata

abbrev turnOf (e : PySem.Expr) (d : Nat) (target iter : PySem.Expr) (ifs : List PySem.Expr) (body : Sem Unit) (it acc : Value) (env : Env) : Sem Fin := do
  standAt iter.pos
  match ← pyNext it with
  | none => pure (.done .next)
  | some v =>
    letOwnedTupleGo target it v
    assign target env v
    let mut ok := true
    for c in ifs do
      if ok then ok ← isTrue c env (eval c env)
    if ok then
      body
    again (.compLoop e d it acc env)

abbrev emitB (elt : PySem.Expr) (acc : Value) (env : Env) : Sem Unit := do let _ ← call (.builtin "list.append") [acc, ← eval elt env]
abbrev nestB (e : PySem.Expr) (d : Nat) (iter' : PySem.Expr) (acc : Value) (env : Env) : Sem Unit := do
  let x ← eval iter' env
  standAt iter'.pos
  let x ← foldedSetIterable iter' env x
  let _ ← runOwn (.compStart e (d + 1) (← holding [x] (pyIter x)) acc env) env

theorem turn_one (elt target iter : PySem.Expr) (ifs : List PySem.Expr) (scope : Scope) (pos : Pos) (it acc : Value) (env : Env) :
    compTurn (.ListComp elt [⟨target, iter, ifs, 0⟩] scope pos) 0 it acc env = turnOf (.ListComp elt [⟨target, iter, ifs, 0⟩] scope pos) 0 target iter ifs (emitB elt acc env) it acc env := by rfl
theorem turn_two0 (elt target iter target' iter' : PySem.Expr) (ifs ifs' : List PySem.Expr) (scope : Scope) (pos : Pos) (it acc : Value) (env : Env) :
    compTurn (.ListComp elt [⟨target, iter, ifs, 0⟩, ⟨target', iter', ifs', 0⟩] scope pos) 0 it acc env =
      turnOf (.ListComp elt [⟨target, iter, ifs, 0⟩, ⟨target', iter', ifs', 0⟩] scope pos) 0 target iter ifs (nestB (.ListComp elt [⟨target, iter, ifs, 0⟩, ⟨target', iter', ifs', 0⟩] scope pos) 0 iter' acc env) it acc env := by
  unfold compTurn turnOf nestB
  simp only [bind_assoc]
  rfl
theorem turn_two1 (elt target iter target' iter' : PySem.Expr) (ifs ifs' : List PySem.Expr) (scope : Scope) (pos : Pos) (it acc : Value) (env : Env) :
    compTurn (.ListComp elt [⟨target, iter, ifs, 0⟩, ⟨target', iter', ifs', 0⟩] scope pos) 1 it acc env =
      turnOf (.ListComp elt [⟨target, iter, ifs, 0⟩, ⟨target', iter', ifs', 0⟩] scope pos) 1 target' iter' ifs' (emitB elt acc env) it acc env := by rfl

abbrev testsOf (ifs : List PySem.Expr) (env : Env) : Sem Bool := forIn ifs true fun c r => if r = true then do let ok ← isTrue c env (eval c env); pure (ForInStep.yield ok) else pure (ForInStep.yield r)

section
variable {w : World} {A : Around} {R : Result → Shared → Prop} {s : Shared}
theorem noE {α : Type} {M : Model} {t : Sem α} {Q : α → Shared → Prop} {E : Value → Shared → Prop} (h : wpAny M A t Q NoE s) : wpAny M A t Q E s :=
  wpAny_mono h (fun _ _ x => x) fun _ _ x => x.elim

theorem compLoop_rule {e elt target iter : PySem.Expr} {gens : List Comprehension} {scope : Scope} {pos : Pos} {ifs : List PySem.Expr} {d : Nat} {it acc : Value} {env : Env} {body : Sem Unit} (he : e = .ListComp elt gens scope pos)
    (htn : compTurn e d it acc env = turnOf e d target iter ifs body it acc env) (I : Nat → Shared → Prop)
    (turn : ∀ n s, I n s → wpAny (model pr w) A (pyNext it) (fun r s₁ => match r with
      | none => R (.ok .next) s₁
      | some v => wpAny (model pr w) A (assign target env v) (fun _ s₂ =>
          wpAny (model pr w) A (testsOf ifs env) (fun ok s₃ =>
            if ok = true then wpAny (model pr w) A body (fun _ s₅ => ∃ m, m < n ∧ I m s₅) NoE s₃
            else ∃ m, m < n ∧ I m s₃) NoE s₂) NoE s₁) NoE s)
    (n : Nat) (h : I n s) (ht : ∀ v, letOwnedTupleGo target it v = pure ()) :
    codeAny (model pr w) A (.compLoop e d it acc env) R s := by
  subst he
  refine codeAny_loop rfl I (fun n s hI => ?_) n h
  show wpAny _ A ((compTurn (.ListComp elt gens scope pos) d it acc env).onRaise (fun x => do noteFrame x env; theTreesLotGoes x)) _ _ s
  refine wpAny_noted (noE ?_)
  rw [htn]
  refine wpAny_bind (wpAny_standAt (wpAny_bind (wpAny_mono (turn n s hI) (fun r s₁ h₁ => ?_) fun _ _ h' => h')))
  cases r with
  | none => exact wpAny_pure h₁
  | some v =>
    refine wpAny_bind (wpAny_of_eq (ht v) ?_)
    refine wpAny_bind (wpAny_mono h₁ (fun _ s₂ h₂ => wpAny_bind (wpAny_mono h₂ (fun ok s₃ h₃ => ?_) fun _ _ h' => h')) fun _ _ h' => h')
    cases ok with
    | false => exact wpAny_pure ⟨rfl, h₃⟩
    | true =>
      exact wpAny_bind (wpAny_mono h₃ (fun _ s₄ h₄ => wpAny_pure ⟨rfl, h₄⟩) fun _ _ h' => h')
end

/-- the state of a comprehension behind a turn -/
def EndD (h₀ : Heap) (L : Addr) (m : Str → Option Value) (p : Addr × Obj) (kp : List (Addr × Obj)) (adr : List Addr) (D : Addr) (Okk : List (Addr × Obj) → Prop) (J : List Value → List (Addr × Obj) → Prop) (s s' : Shared) : Prop :=
  ∃ h' tk' nw acc k cx, s' = { s with heap := h', toks := tk' } ∧ Fr h₀ L h' m ∧ News h₀ L h' (p :: (cx ++ (D, listOf acc.toArray k) :: nw)) ∧ (∀ q ∈ kp, q ∈ nw) ∧ (∀ q ∈ nw, q.1 ≠ p.1 ∧ q.1 ∉ adr ∧ q.1 ≠ D) ∧ Okk cx ∧ J acc nw

section
variable {w : World} {A : Around} {R : Result → Shared → Prop} {s : Shared} {h₀ : Heap} {L : Addr} {m : Str → Option Value}

theorem compLoopD {e elt target iter : PySem.Expr} {gens : List Comprehension} {scope : Scope} {pos : Pos} {ifs : List PySem.Expr} {d : Nat} {cenv : Env} {body : Sem Unit} {I D : Addr} {fp : List Addr} {n : Nat} {P : Nat → Value → Prop} {St : Nat → Heap → Prop}
    {cx₀ news : List (Addr × Obj)} {acc₀ : List Value} {k₀ : Nat} (kp : List (Addr × Obj)) (adr : List Addr) (Okk : List (Addr × Obj) → Prop) (Okv : Value → List (Addr × Obj) → Prop) (J : Nat → List Value → List (Addr × Obj) → Prop)
    (he : e = .ListComp elt gens scope pos)
    (htn : compTurn e d (.ref I) (.ref D) cenv = turnOf e d target iter ifs body (.ref I) (.ref D) cenv)
    (ht : ∀ v, letOwnedTupleGo target (.ref I) v = pure ())
    (W : Walks pr w A I fp [I] n P St) (hfp : ∀ b ∈ fp, b = I ∨ (∃ o, h₀.get? b = some o) ∨ ∃ o, (b, o) ∈ kp) (hkp : ∀ q ∈ kp, q ∈ news)
    (hI : ∀ i h, St i h → ∃ o, h.get? I = some o) (h0I : h₀.get? I = none) (hLI : L ≠ I) (hst : St 0 s.heap)
    (hadr : ∀ cx, Okk cx → cx.map (·.1) = adr) (hadrv : ∀ v cx, Okv v cx → cx.map (·.1) = adr) (hIa : I ∉ adr) (hDa : D ∉ adr) (hID : I ≠ D)
    (hstore : ∀ v cx pre post s' (Q' : Unit → Shared → Prop), Okk cx → Fr h₀ L s'.heap m → News h₀ L s'.heap (pre ++ (cx ++ post)) → (∀ p ∈ pre, p.1 ∉ adr) → (∀ p ∈ post, p.1 ∉ adr) →
      (∀ h' tk' cx', Okv v cx' → Fr h₀ L h' m → News h₀ L h' (pre ++ (cx' ++ post)) → Q' () { s' with heap := h', toks := tk' }) → wpAny (model pr w) A (assign target cenv v) Q' NoE s')
    (F : Fr h₀ L s.heap m) (N : News h₀ L s.heap (cx₀ ++ (D, listOf acc₀.toArray k₀) :: news)) (hcx : Okk cx₀) (hoff : ∀ q ∈ news, q.1 ≠ I ∧ q.1 ∉ adr ∧ q.1 ≠ D) (hj : J 0 acc₀ news)
    (turn : ∀ i v acc k cx nw h tk it, i < n → P i v → J i acc nw → (∀ q ∈ kp, q ∈ nw) → (∀ q ∈ nw, q.1 ≠ I ∧ q.1 ∉ adr ∧ q.1 ≠ D) → Okv v cx → Fr h₀ L h m → News h₀ L h ((I, it) :: (cx ++ (D, listOf acc.toArray k) :: nw)) →
      wpAny (model pr w) A (testsOf ifs cenv) (fun ok s₃ => if ok = true then wpAny (model pr w) A body (fun _ s₄ => EndD h₀ L m (I, it) kp adr D Okk (J (i + 1)) s s₄) NoE s₃ else EndD h₀ L m (I, it) kp adr D Okk (J (i + 1)) s s₃) NoE { s with heap := h, toks := tk })
    (done : ∀ acc k cx nw h tk, J n acc nw → (∀ q ∈ kp, q ∈ nw) → (∀ q ∈ nw, q.1 ≠ I ∧ q.1 ∉ adr ∧ q.1 ≠ D) → Okk cx → Fr h₀ L h m → News h₀ L h (cx ++ (D, listOf acc.toArray k) :: nw) → R (.ok .next) { s with heap := h, toks := tk }) :
    codeAny (model pr w) A (.compLoop e d (.ref I) (.ref D) cenv) R s := by
  refine compLoop_rule he htn (fun c s' => ∃ i h tk acc k cx nw, s' = { s with heap := h, toks := tk } ∧ St i h ∧ Fr h₀ L h m ∧ News h₀ L h (cx ++ (D, listOf acc.toArray k) :: nw) ∧ (∀ q ∈ kp, q ∈ nw) ∧
    (∀ q ∈ nw, q.1 ≠ I ∧ q.1 ∉ adr ∧ q.1 ≠ D) ∧ Okk cx ∧ J i acc nw ∧ i ≤ n ∧ c = n + 1 - i) ?_ (n + 1) ⟨0, s.heap, s.toks, acc₀, k₀, cx₀, news, rfl, hst, F, N, hkp, hoff, hcx, hj, Nat.zero_le _, rfl⟩ ht
  rintro c s' ⟨i, h, tk, acc, k, cx, nw, rfl, hst', F', N', hkp', hoff', hcx', hj', hin, rfl⟩
  have allI : ∀ p ∈ cx ++ (D, listOf acc.toArray k) :: nw, p.1 ≠ I := by
    intro p hp
    rcases List.mem_append.mp hp with hp | hp
    · intro q; have := List.mem_map_of_mem (f := (·.1)) hp; rw [hadr cx hcx'] at this; exact hIa (q ▸ this)
    · rcases List.mem_cons.mp hp with rfl | hp
      · exact hID.symm
      · exact (hoff' p hp).1
  have next : ∀ h₁ : Heap, (∀ b o, b ∉ [I] → h.get? b = some o → h₁.get? b = some o) → Fr h₀ L h₁ m ∧ News h₀ L h₁ (cx ++ (D, listOf acc.toArray k) :: nw) := fun h₁ hk₁ =>
    ⟨⟨F'.ns.at' fun o e => hk₁ _ o (by simpa using hLI) e, fun b o e => hk₁ b o (by simp only [List.mem_singleton]; intro q; rw [q, h0I] at e; cases e) (F'.keep b o e), F'.above⟩,
      fun p hp => ⟨hk₁ _ _ (by simpa using allI p hp) (N' p hp).1, (N' p hp).2⟩⟩
  by_cases hlt : i < n
  · refine W.item i _ _ _ hlt hst' fun v h₁ tk₁ hP hst₁ hk₁ => ?_
    obtain ⟨F₁, N₁⟩ := next h₁ hk₁
    obtain ⟨it, hit⟩ := hI _ _ hst₁
    have N₂ : News h₀ L h₁ ([(I, it)] ++ (cx ++ (D, listOf acc.toArray k) :: nw)) := fun p hp => by
      rcases List.mem_append.mp hp with hp | hp
      · rw [List.mem_singleton.mp hp]; exact ⟨hit, Ne.symm hLI, h0I⟩
      · exact N₁ p hp
    refine hstore v cx [(I, it)] _ _ _ hcx' F₁ N₂ (fun p hp => by rw [List.mem_singleton.mp hp]; exact hIa) (fun p hp => ?_) fun h₂ tk₂ cx' hv F₂ N₃ => ?_
    · rcases List.mem_cons.mp hp with rfl | hp
      · exact hDa
      · exact (hoff' p hp).2.1
    have post : ∀ s₄, EndD h₀ L m (I, it) kp adr D Okk (J (i + 1)) s s₄ → ∃ c', c' < n + 1 - i ∧ ∃ i h tk acc k cx nw, s₄ = { s with heap := h, toks := tk } ∧ St i h ∧ Fr h₀ L h m ∧ News h₀ L h (cx ++ (D, listOf acc.toArray k) :: nw) ∧ (∀ q ∈ kp, q ∈ nw) ∧
        (∀ q ∈ nw, q.1 ≠ I ∧ q.1 ∉ adr ∧ q.1 ≠ D) ∧ Okk cx ∧ J i acc nw ∧ i ≤ n ∧ c' = n + 1 - i := by
      rintro s₄ ⟨h', tk', nw', acc', k', cx'', rfl, F₄, N₄, hkp₄, hoff₄, hcx₄, hj₄⟩
      refine ⟨n + 1 - (i + 1), by omega, i + 1, h', tk', acc', k', cx'', nw', rfl, ?_, F₄, fun p hp => N₄ p (.tail _ hp), hkp₄, hoff₄, hcx₄, hj₄, hlt, rfl⟩
      refine W.frame _ _ _ hst₁ fun b hb o e => ?_
      rcases hfp b hb with rfl | ⟨o', e'⟩ | ⟨o', e'⟩
      · rw [hit] at e; cases e
        exact (N₄ _ (.head _)).1
      · have h1 := F₁.keep b o' e'
        rw [h1] at e; cases e
        exact F₄.keep b _ e'
      · have h1 := (N₁ _ (List.mem_append_right _ (.tail _ (hkp' _ e')))).1
        simp only at h1
        rw [h1] at e; cases e
        exact (N₄ _ (.tail _ (List.mem_append_right _ (.tail _ (hkp₄ _ e'))))).1
    refine wpAny_mono (turn i v acc k cx' nw h₂ tk₂ it hlt hP hj' hkp' hoff' hv F₂ N₃) (fun ok s₃ h₃ => ?_) fun _ _ x => x
    cases ok with
    | false => exact post s₃ h₃
    | true => exact wpAny_mono h₃ (fun _ s₄ h₄ => post s₄ h₄) fun _ _ x => x
  · have hin' : i = n := by omega
    subst hin'
    refine W.done _ _ _ hst' fun h₁ tk₁ hk₁ => ?_
    obtain ⟨F₁, N₁⟩ := next h₁ hk₁
    exact done acc k cx nw h₁ tk₁ hj' hkp' hoff' hcx' F₁ N₁
end

open LCg (NsObj) in
section
variable {w : World} {A : Around} {R : Result → Shared → Prop} {s : Shared} {h₀ : Heap} {L : Addr} {m : Str → Option Value} {env : Env} {Q : Value → Shared → Prop}

/-- a comprehension behind its first iterator -/
def CompGo (w : World) (A : Around) (e : PySem.Expr) (scope : Scope) (cl : List (Str × Addr)) (env : Env) (Q : Value → Shared → Prop) (it : Value) (s₂ : Shared) : Prop :=
  wpAny (model pr w) A (newList []) (fun acc s₃ => wpAny (model pr w) A (newFunctionEnv scope env.globals cl [] env.qual none .none (some env)) (fun cenv s₄ =>
    codeAny (model pr w) A (.compStart e 0 it acc { cenv with scope := relabel scope env }) (compPost (model pr w) A NoE none Q acc cenv.locals) s₄) NoE s₃) NoE s₂

theorem comp_open {elt target iter : PySem.Expr} {ifs : List PySem.Expr} {rest : List Comprehension} {scope : Scope} {pos : Pos} {cl : List (Str × Addr)} {E : Value → Shared → Prop}
    (hclos : closureFor scope env = pure cl) (hkind : scope.kind = .function) (hnames : ∀ x ∈ scope.names, x.2 = .local → scope.names.lookup x.1 = some .local)
    (h : wpAny (model pr w) A (eval iter env) (fun x s₁ => wpAny (model pr w) A (pyIter x) (fun it s₂ => CompGo w A (.ListComp elt (⟨target, iter, ifs, 0⟩ :: rest) scope pos) scope cl env Q it s₂) NoE s₁) NoE s)
    (hs : ∀ x, foldedSetIterable iter env x = pure x) :
    wpAny (model pr w) A (eval (.ListComp elt (⟨target, iter, ifs, 0⟩ :: rest) scope pos) env) Q E s := by
  refine noE ?_
  rw [eval_ListComp]
  exact wpAny_comprehension_free (use := none) rfl hs hclos hkind hnames h

/-- the blocks' own dict and the list to be filled -/
theorem compGo_of {e elt : PySem.Expr} {target iter : PySem.Expr} {ifs : List PySem.Expr} {rest : List Comprehension} {scope : Scope} {pos : Pos} {cl : List (Str × Addr)} {I : Addr} {news : List (Addr × Obj)} {P : Heap → Prop}
    (he : e = .ListComp elt (⟨target, iter, ifs, 0⟩ :: rest) scope pos) (hcell : ∀ y ∈ scope.names, y.2 ≠ .cell) (hkind : scope.kind = .function)
    (F : Fr h₀ L s.heap m) (N : News h₀ L s.heap news) (hP : P s.heap) (hkeep : ∀ h h', P h → (∀ b o, h.get? b = some o → h'.get? b = some o) → P h')
    (hself : ∀ (s' : Shared) (Q' : Value → Shared → Prop), P s'.heap → Q' (.ref I) s' → wpAny (model pr w) A (pyIter (.ref I)) Q' NoE s')
    (h : ∀ C D oC h₁ tk, D = s.heap.objs.size → C = s.heap.objs.size + 1 → (∀ p ∈ news, p.1 < D) → D < C → NsObj oC (fun _ => none) → P h₁ → Fr h₀ L h₁ m → News h₀ L h₁ ((C, oC) :: (D, listOf [].toArray 0) :: news) →
      codeAny (model pr w) A (.compLoop e 0 (.ref I) (.ref D) (compEnvC scope cl C env)) (compPost (model pr w) A NoE none Q (.ref D) C) { s with heap := h₁, toks := tk }) :
    CompGo w A e scope cl env Q (.ref I) s := by
  subst he
  refine wpAny_newObj_type (wpAny_newFunctionEnv hcell (by intro y hy; simp at hy) (fun h₁ hns₁ hsb₁ => ?_) hkind)
  dsimp only at hns₁ hsb₁ ⊢
  generalize hH2 : s.heap.push { cls := .type "list", dict := none, data := .seq ([] : List Value).toArray } = H2 at hns₁ hsb₁ ⊢
  have hC : H2.objs.size = s.heap.objs.size + 1 := by rw [← hH2, Heap.size_push]
  have old : ∀ b o, s.heap.get? b = some o → h₁.get? b = some o := fun b o e => hsb₁.extBut b o (by have := Heap.lt_size e; rw [hC]; exact Nat.ne_of_lt (Nat.lt_succ_of_lt this)) (Heap.get?_push_of_some _ (hH2 ▸ Heap.get?_push_of_some _ e))
  have hD : h₁.get? s.heap.objs.size = some (W.listOf [].toArray 0) := hsb₁.extBut _ _ (by rw [hC]; exact Nat.ne_of_lt (Nat.lt_succ_self _)) (Heap.get?_push_of_some _ (hH2 ▸ Heap.get?_push_size _ rfl))
  obtain ⟨oC, hoC, hns⟩ := LCg.ns_obj hns₁
  have F₁ : Fr h₀ L h₁ m := F.keeps old
  have none0 : ∀ a, s.heap.objs.size ≤ a → h₀.get? a = none := fun a ha => by
    cases e : h₀.get? a with
    | none => rfl
    | some o' => exact absurd (Heap.lt_size (F.keep _ _ e)) (Nat.not_lt.mpr ha)
  have hLt : L < s.heap.objs.size := F.ns.lt
  have N₁ : News h₀ L h₁ ((H2.objs.size, oC) :: (s.heap.objs.size, listOf [].toArray 0) :: news) := fun p hp => by
    rcases List.mem_cons.mp hp with rfl | hp
    · exact ⟨hoC, by rw [hC]; exact Nat.ne_of_gt (Nat.lt_succ_of_lt hLt), none0 _ (by rw [hC]; exact Nat.le_succ _)⟩
    · rcases List.mem_cons.mp hp with rfl | hp
      · exact ⟨hD, Nat.ne_of_gt hLt, none0 _ (Nat.le_refl _)⟩
      · exact ⟨old _ _ (N p hp).1, (N p hp).2⟩
  have go : ∀ s' : Shared, s' = { s with heap := h₁, toks := s.toks + ([] : List (Str × Value)).length } → codeAny (model pr w) A (.compLoop (.ListComp elt (⟨target, iter, ifs, 0⟩ :: rest) scope pos) 0 (.ref I) (.ref s.heap.objs.size) (compEnvC scope cl H2.objs.size env))
      (compPost (model pr w) A NoE none Q (.ref s.heap.objs.size) H2.objs.size) s' := by
    rintro s' rfl
    exact h H2.objs.size s.heap.objs.size oC h₁ _ rfl hC (fun p hp => Heap.lt_size (N p hp).1) (by rw [hC]; exact Nat.lt_succ_self _) hns (hkeep _ _ hP old) F₁ N₁
  exact codeAny_compStart_list (go _ rfl) (noE (hself _ _ (hkeep _ _ hP old) (go _ rfl)))

theorem storeC {x : Str} {px : Pos} {scope : Scope} {cl : List (Str × Addr)} {C : Addr} {Q' : Unit → Shared → Prop} {oC : Obj} {mC : Str → Option Value} {v : Value} {pre post : List (Addr × Obj)} (hx : scope.names.lookup x = some .local) (hkind : scope.kind = .function)
    (F : Fr h₀ L s.heap m) (N : News h₀ L s.heap (pre ++ ([(C, oC)] ++ post))) (hns : NsObj oC mC) (h1 : ∀ p ∈ pre, p.1 ≠ C) (h2 : ∀ p ∈ post, p.1 ≠ C)
    (h : ∀ h' tk' oC', NsObj oC' (fun y => if y = x then some v else mC y) → Fr h₀ L h' m → News h₀ L h' (pre ++ ([(C, oC')] ++ post)) → Q' () { s with heap := h', toks := tk' }) :
    wpAny (model pr w) A (assign (.Name x px) (compEnvC scope cl C env) v) Q' NoE s := by
  have z := N (C, oC) (List.mem_append_right _ (.head _))
  refine wpAny_assign_Name (wpAny_storeName_local (lookup_relabel_local hx) (hns.ns z.1) (fun h' hn' hs' => ?_) (by simp [compEnvC, relabel, hkind]))
  obtain ⟨oC', ho', hns'⟩ := LCg.ns_obj hn'
  exact h h' _ oC' hns' (F.change hs' z.2.1 z.2.2) (news_set N h1 h2 hs' ho')

/-- one clause, a local name for a target, a source that is walked -/
theorem comp1 {elt iter : PySem.Expr} {x : Str} {px : Pos} {ifs : List PySem.Expr} {scope : Scope} {pos : Pos} {cl : List (Str × Addr)} {I : Addr} {fp : List Addr} {n : Nat} {P : Nat → Value → Prop} {St : Nat → Heap → Prop} {news : List (Addr × Obj)}
    (kp : List (Addr × Obj)) (J : Nat → List Value → List (Addr × Obj) → Prop)
    (hcell : ∀ y ∈ scope.names, y.2 ≠ .cell) (hkind : scope.kind = .function) (hx : scope.names.lookup x = some .local)
    (W : Walks pr w A I fp [I] n P St) (hfp : ∀ b ∈ fp, b = I ∨ (∃ o, h₀.get? b = some o) ∨ ∃ o, (b, o) ∈ kp) (hkp : ∀ q ∈ kp, q ∈ news)
    (hI : ∀ i h, St i h → ∃ o, h.get? I = some o) (h0I : h₀.get? I = none) (hLI : L ≠ I) (hIlt : I < s.heap.objs.size) (hnI : ∀ p ∈ news, p.1 ≠ I) (hst : St 0 s.heap) (hsz : n ≤ 16777216)
    (F : Fr h₀ L s.heap m) (N : News h₀ L s.heap news) (hj : J 0 [] news)
    (turn : ∀ C D it oC mC k i v acc nw h tk, (∀ p ∈ news, p.1 < D) → I < D → D < C → i < n → P i v → J i acc nw → (∀ q ∈ kp, q ∈ nw) → (∀ q ∈ nw, q.1 ≠ I ∧ q.1 ≠ C ∧ q.1 ≠ D) → NsObj oC mC → mC x = some v → Fr h₀ L h m →
      News h₀ L h ((I, it) :: (C, oC) :: (D, listOf acc.toArray k) :: nw) →
      wpAny (model pr w) A (testsOf ifs (compEnvC scope cl C env)) (fun ok s₃ =>
        let End := fun (acc' : List Value) (s₄ : Shared) => Stop (∃ h' tk' nw', s₄ = { s with heap := h', toks := tk' } ∧ Fr h₀ L h' m ∧ News h₀ L h' ((I, it) :: (C, oC) :: (D, listOf acc.toArray k) :: nw') ∧ (∀ q ∈ kp, q ∈ nw') ∧ (∀ q ∈ nw', q.1 ≠ I ∧ q.1 ≠ C ∧ q.1 ≠ D) ∧ J (i + 1) acc' nw')
        if ok = true then wpAny (model pr w) A (eval elt (compEnvC scope cl C env)) (fun y s₄ => End (acc ++ [y]) s₄) NoE s₃ else End acc s₃) NoE { s with heap := h, toks := tk })
    (done : ∀ D acc k nw h tk, (∀ p ∈ news, p.1 < D) → J n acc nw → (∀ q ∈ kp, q ∈ nw) → (∀ q ∈ nw, q.1 ≠ D) → Fr h₀ L h m → News h₀ L h ((D, listOf acc.toArray k) :: nw) → Q (.ref D) { s with heap := h, toks := tk }) :
    CompGo w A (.ListComp elt [⟨.Name x px, iter, ifs, 0⟩] scope pos) scope cl env Q (.ref I) s := by
  refine compGo_of (P := St 0) rfl hcell hkind F N hst (fun h h' st k => W.frame _ _ _ st fun b _ o e => k b o e) (fun s' Q' st hq => W.self 0 s' Q' NoE st hq) ?_
  rintro C D oC h₁ tk hD hC hltD hDC hns hst₁ F₁ N₁
  have hID : I < D := by rw [hD]; exact hIlt
  refine compLoopD (cx₀ := [(C, oC)]) (acc₀ := []) kp [C] (fun cx => ∃ oC mC, cx = [(C, oC)] ∧ NsObj oC mC) (fun v cx => ∃ oC mC, cx = [(C, oC)] ∧ NsObj oC mC ∧ mC x = some v) (fun i acc nw => J i acc nw ∧ acc.length ≤ i)
    rfl (turn_one ..) (fun _ => rfl) W hfp hkp hI h0I hLI hst₁ ?_ ?_ ?_ ?_ (Nat.ne_of_lt hID) ?_ F₁ N₁ ⟨oC, _, rfl, hns⟩ ?_ ⟨hj, Nat.le_refl _⟩ ?_ ?_
  · rintro cx ⟨oC, mC, rfl, _⟩; rfl
  · rintro v cx ⟨oC, mC, rfl, _⟩; rfl
  · simp only [List.mem_singleton]; exact Nat.ne_of_lt (Nat.lt_trans hID hDC)
  · simp only [List.mem_singleton]; exact Nat.ne_of_lt hDC
  · rintro v cx pre post s' Q' ⟨oC, mC, rfl, hns⟩ F₂ N₂ h1 h2 hq
    exact storeC hx hkind F₂ N₂ hns (fun p hp => by simpa using h1 p hp) (fun p hp => by simpa using h2 p hp) fun h' tk' oC' hns' F₃ N₃ => hq h' tk' _ ⟨oC', _, rfl, hns', if_pos rfl⟩ F₃ N₃
  · intro q hq
    exact ⟨hnI q hq, by simp only [List.mem_singleton]; exact Nat.ne_of_lt (Nat.lt_trans (hltD q hq) hDC), Nat.ne_of_lt (hltD q hq)⟩
  · rintro i v acc k cx nw h tk it hi hP ⟨hJ, hlen⟩ hkp' hoff ⟨oC, mC, rfl, hns, hmx⟩ F₂ N₂
    have hoff' : ∀ q ∈ nw, q.1 ≠ I ∧ q.1 ≠ C ∧ q.1 ≠ D := fun q hq => ⟨(hoff q hq).1, by simpa using (hoff q hq).2.1, (hoff q hq).2.2⟩
    refine wpAny_mono (turn C D it oC mC k i v acc nw h tk hltD hID hDC hi hP hJ hkp' hoff' hns hmx F₂ N₂) (fun ok s₃ h₃ => ?_) fun _ _ x => x
    dsimp only at h₃
    cases ok with
    | false =>
      simp only [Bool.false_eq_true, if_false] at h₃ ⊢
      obtain ⟨h', tk', nw', rfl, F₄, N₄, hk₄, ho₄, hJ₄⟩ := h₃
      exact ⟨h', tk', nw', acc, k, [(C, oC)], rfl, F₄, N₄, hk₄, (fun q hq => ⟨(ho₄ q hq).1, by simpa using (ho₄ q hq).2.1, (ho₄ q hq).2.2⟩), ⟨oC, mC, rfl, hns⟩, hJ₄, Nat.le_succ_of_le hlen⟩
    | true =>
      simp only [if_true] at h₃ ⊢
      show wpAny _ _ (eval elt (compEnvC scope cl C env) >>= fun y => call (.builtin "list.append") [.ref D, y] >>= fun _ => pure ()) _ _ _
      refine wpAny_bind (wpAny_mono h₃ (fun y s₄ h₄ => ?_) fun _ _ x => x)
      obtain ⟨h', tk', nw', rfl, F₄, N₄, hk₄, ho₄, hJ₄⟩ := h₄
      refine wpAny_bind (f_append (pre := [(I, it), (C, oC)]) F₄ N₄ ?_ (fun q hq => (ho₄ q hq).2.2) (by rw [List.size_toArray]; omega) fun h₅ F₅ N₅ => wpAny_pure ?_)
      · intro p hp
        simp only [List.mem_cons, List.not_mem_nil, or_false] at hp
        rcases hp with rfl | rfl
        · exact Nat.ne_of_lt hID
        · exact Nat.ne_of_gt hDC
      · rw [List.push_toArray] at N₅
        exact ⟨h₅, tk', nw', acc ++ [y], k + 1, [(C, oC)], rfl, F₅, N₅, hk₄, (fun q hq => ⟨(ho₄ q hq).1, by simpa using (ho₄ q hq).2.1, (ho₄ q hq).2.2⟩), ⟨oC, mC, rfl, hns⟩, hJ₄, by rw [List.length_append, List.length_singleton]; omega⟩
  · rintro acc k cx nw h tk ⟨hJ, hlen⟩ hkp' hoff ⟨oC, mC, rfl, hns⟩ F₂ N₂
    refine ⟨mC, hns.ns (N₂ _ (.head _)).1, fun h' hs' => ?_⟩
    have z := N₂ _ (.head _)
    refine done D acc k nw h' tk hltD hJ hkp' (fun q hq => (hoff q hq).2.2) (F₂.change hs' z.2.1 z.2.2) fun p hp => ?_
    have z' := N₂ p (.tail _ hp)
    refine ⟨(hs'.2 p.1 ?_).trans z'.1, z'.2⟩
    rcases List.mem_cons.mp hp with rfl | hp
    · exact Nat.ne_of_lt hDC
    · simpa using (hoff p hp).2.1
end

section
variable {w : World} {A : Around} {R : Result → Shared → Prop} {s : Shared} {h₀ : Heap} {L : Addr} {m : Str → Option Value} {env : Env} {Q : Value → Shared → Prop}

theorem compStart1 {elt : PySem.Expr} {g : Comprehension} {target iter : PySem.Expr} {ifs : List PySem.Expr} {scope : Scope} {pos : Pos} {it acc : Value}
    (h0 : codeAny (model pr w) A (.compLoop (.ListComp elt [g, ⟨target, iter, ifs, 0⟩] scope pos) 1 it acc env) R s)
    (h : wpAny (model pr w) A (pyIter it) (fun it' s' => codeAny (model pr w) A (.compLoop (.ListComp elt [g, ⟨target, iter, ifs, 0⟩] scope pos) 1 it' acc env) R s') NoE s) :
    codeAny (model pr w) A (.compStart (.ListComp elt [g, ⟨target, iter, ifs, 0⟩] scope pos) 1 it acc env) R s := by
  refine codeAny_of_tree ?_
  show wpAny _ _ ((compStart (.ListComp elt [g, ⟨target, iter, ifs, 0⟩] scope pos) 1 it acc env).onRaise (fun x => do noteFrame x env; standAt theWindowsPlace)) _ _ s
  refine wpAny_notedAt (noE ?_)
  unfold compStart
  show wpAny _ _ (ask >>= _) _ _ s
  refine wpAny_bind (wpAny_askSetting (wpAny_ite ?_))
  split
  · first
      | exact wpAny_bind (wpAny_pure (wpAny_pure (And.intro rfl h0)))
      | exact wpAny_pure (And.intro rfl h0)
  · first
      | exact wpAny_bind (wpAny_rule (wpAny_bind (wpAny_standAt (wpAny_bind (wpAny_mono h (fun it' s' h' => wpAny_pure (And.intro rfl h')) fun _ _ x => x)))))
      | (refine wpAny_bind (wpAny_rule ?_); show wpAny _ _ (standAt iter.pos >>= _) _ _ s; exact wpAny_bind (wpAny_standAt (wpAny_bind (wpAny_mono h (fun it' s' h' => wpAny_pure (And.intro rfl h')) fun _ _ x => x))))

/-- the second clause of a comprehension, from the eval of its source on -/
theorem nest_rule {elt : PySem.Expr} {g : Comprehension} {target iter : PySem.Expr} {ifs : List PySem.Expr} {scope : Scope} {pos : Pos} {acc : Value} {Q' : Unit → Shared → Prop}
    (hh : A.handled = none)
    (h : wpAny (model pr w) A (eval iter env) (fun x s₁ => wpAny (model pr w) A (pyIter x) (fun it s₂ => ∃ P : Shared → Prop, P s₂ ∧ (∀ s' (Q'' : Value → Shared → Prop), P s' → Q'' it s' → wpAny (model pr w) A (pyIter it) Q'' NoE s') ∧
      ∀ s', P s' → codeAny (model pr w) A (.compLoop (.ListComp elt [g, ⟨target, iter, ifs, 0⟩] scope pos) 1 it acc env) (fun r s'' => r = .ok .next ∧ Q' () s'') s') NoE s₁) NoE s)
    (hs : ∀ x, foldedSetIterable iter env x = pure x) :
    wpAny (model pr w) A (nestB (.ListComp elt [g, ⟨target, iter, ifs, 0⟩] scope pos) 0 iter acc env) Q' NoE s := by
  unfold nestB
  refine wpAny_bind (wpAny_mono h (fun x s₁ h₁ => wpAny_bind (wpAny_standAt (wpAny_bind (wpAny_of_eq (hs x) (wpAny_bind (wpAny_holding (wpAny_mono h₁ (fun it s₂ h₂ => ?_) fun _ _ x => x))))))) fun _ _ x => x)
  obtain ⟨P, hP, hself, hloop⟩ := h₂
  have hm : A.mark none = A := by
    obtain ⟨hd, dp, fr, gs, u⟩ := A
    simp only at hh
    subst hh
    rfl
  refine wpAny_bind (wpAny_runOwn (codeAny_mono (R := fun r s'' => r = .ok .next ∧ Q' () s'') ?_ fun r s'' hr => ?_))
  · rw [hm]
    exact compStart1 (hloop s₂ hP) (hself s₂ _ hP (hloop s₂ hP))
  · obtain ⟨rfl, hq⟩ := hr
    exact wpAny_pure hq

theorem AreL.sub {news news' : List (Addr × Obj)} {vs : List Value} {xss : List (List Int)} (h : AreL news vs xss) (hs : ∀ p ∈ news, p ∈ news') : AreL news' vs xss := h.mono hs

open LCg (NsObj) in
/-- [y for x in l for y in x] -/
theorem comp_flat {iter : PySem.Expr} {x y : Str} {px py pe pi : Pos} {scope : Scope} {pos : Pos} {cl : List (Str × Addr)} {l : Addr} {vs : List Value} {nn : Nat} {xss : List (List Int)} {news : List (Addr × Obj)}
    (hh : A.handled = none) (hl : (l, listOf vs.toArray nn) ∈ news) (hv : AreL news vs xss) (hsz : vs.length ≤ 4096) (hszs : ∀ xs ∈ xss, xs.length ≤ 4000)
    (hcell : ∀ y ∈ scope.names, y.2 ≠ .cell) (hkind : scope.kind = .function) (hx : scope.names.lookup x = some .local) (hy : scope.names.lookup y = some .local)
    (hdx : (x == ("__debug__" : Str)) = false) (hdy : (y == ("__debug__" : Str)) = false)
    (F : Fr h₀ L s.heap m) (N : News h₀ L s.heap news)
    (hres : ∀ D acc k h' tk, (∀ p ∈ news, p.1 < D) → IntsAre acc xss.flatten → Fr h₀ L h' m → News h₀ L h' ((D, listOf acc.toArray k) :: news) → Q (.ref D) { s with heap := h', toks := tk }) :
    wpAny (model pr w) A (pyIter (.ref l)) (fun it s₂ => CompGo w A (.ListComp (.Name y pe) [⟨.Name x px, iter, [], 0⟩, ⟨.Name y py, .Name x pi, [], 0⟩] scope pos) scope cl env Q it s₂) NoE s := by
  have hls : s.heap.IsList l vs.toArray := News.isList N hl
  have hlt : l < s.heap.objs.size := Heap.lt_size (N _ hl).1
  refine wpAny_pyIter_list hls ?_
  have W := Walks.list (prog := pr) (w := w) hh s.heap.objs.size l (Nat.ne_of_lt hlt) vs.toArray
  have ltI : ∀ p ∈ news, p.1 < s.heap.objs.size := fun p hp => Heap.lt_size (N p hp).1
  have F₀ := F.push { cls := .type "list_iterator", data := .fields #[.ref l, .int 0 0] }
  have N₀ : News h₀ L (s.heap.push { cls := .type "list_iterator", data := .fields #[.ref l, .int 0 0] }) news := fun p hp => ⟨Heap.get?_push_of_some _ (N p hp).1, (N p hp).2⟩
  have hst : (fun i h => Heap.IsListIter h s.heap.objs.size l i ∧ Heap.IsList h l vs.toArray) 0 (s.heap.push { cls := .type "list_iterator", data := .fields #[.ref l, .int 0 0] }) :=
    ⟨⟨_, Heap.get?_push_size _ rfl, rfl, rfl⟩, hls.at fun o e => Heap.get?_push_of_some _ e⟩
  have hIn := next_is_new F
  have hIL : L ≠ s.heap.objs.size := Nat.ne_of_lt F.ns.lt
  have hsize : (s.heap.push { cls := .type "list_iterator", data := .fields #[.ref l, .int 0 0] }).objs.size = s.heap.objs.size + 1 := Heap.size_push ..
  generalize hIe : s.heap.objs.size = I at *
  refine compGo_of (P := (fun i h => Heap.IsListIter h I l i ∧ Heap.IsList h l vs.toArray) 0) rfl hcell hkind F₀ N₀ hst (fun h h' st k => W.frame _ _ _ st fun b _ o e => k b o e) (fun s' Q' st hq => W.self 0 s' Q' NoE st hq) ?_
  rintro C D oC h₁ tk hD hC hltD hDC hns hst₁ F₁ N₁
  have hID : I < D := by rw [hD, hsize]; exact Nat.lt_succ_self _
  refine compLoopD (cx₀ := [(C, oC)]) (acc₀ := []) [(l, listOf vs.toArray nn)] [C] (fun cx => ∃ oC mC, cx = [(C, oC)] ∧ NsObj oC mC) (fun v cx => ∃ oC mC, cx = [(C, oC)] ∧ NsObj oC mC ∧ mC x = some v) (fun i acc nw => nw = news ∧ IntsAre acc (xss.take i).flatten)
    rfl (turn_two0 ..) (fun _ => rfl) W ?_ ?_ ?_ hIn hIL hst₁ ?_ ?_ ?_ ?_ (Nat.ne_of_lt hID) ?_ F₁ N₁ ⟨oC, _, rfl, hns⟩ ?_ ⟨rfl, .nil⟩ ?_ ?_
  · intro b hb
    rcases List.mem_cons.mp hb with e | hb
    · exact .inl e
    · exact .inr (.inr ⟨_, List.mem_singleton.mpr (by rw [List.mem_singleton.mp hb])⟩)
  · intro q hq; rw [List.mem_singleton.mp hq]; exact hl
  · rintro i h ⟨⟨o, e, _⟩, _⟩; exact ⟨o, e⟩
  · rintro cx ⟨oC, mC, rfl, _⟩; rfl
  · rintro v cx ⟨oC, mC, rfl, _⟩; rfl
  · simp only [List.mem_singleton]; exact Nat.ne_of_lt (Nat.lt_trans hID hDC)
  · simp only [List.mem_singleton]; exact Nat.ne_of_lt hDC
  · rintro v cx pre post s' Q' ⟨oC, mC, rfl, hns⟩ F₂ N₂ h1 h2 hq
    exact storeC hx hkind F₂ N₂ hns (fun p hp => by simpa using h1 p hp) (fun p hp => by simpa using h2 p hp) fun h' tk' oC' hns' F₃ N₃ => hq h' tk' _ ⟨oC', _, rfl, hns', if_pos rfl⟩ F₃ N₃
  · intro q hq
    exact ⟨Nat.ne_of_lt (ltI q hq), by simp only [List.mem_singleton]; exact Nat.ne_of_lt (Nat.lt_trans (hltD q hq) hDC), Nat.ne_of_lt (hltD q hq)⟩
  · rintro i v acc k cx nw h tk it hi hP ⟨rfl, hacc⟩ hkp hoff ⟨oC, mC, rfl, hns, hmx⟩ F₂ N₂
    refine wpAny_tests_nil ?_
    rw [if_pos rfl]
    have hi' : i < vs.length := by simpa using hi
    obtain ⟨xs, hxs, b, us, kb, rfl, hbm, hbi⟩ := hv.get i v (by simpa using hP)
    have hxlen : xs.length ≤ 4000 := hszs xs (List.mem_of_getElem? hxs)
    have htake : (xss.take (i + 1)).flatten = (xss.take i).flatten ++ xs := by rw [List.take_add_one, hxs]; simp
    refine nest_rule hh ?_ (fun _ => rfl)
    have hCm : (C, oC) ∈ (I, it) :: ([(C, oC)] ++ (D, listOf acc.toArray k) :: nw) := .tail _ (.head _)
    refine wpAny_Name (wpAny_loadName_local hkind (lookup_relabel_local hx) (hns.ns (N₂ _ hCm).1) hmx ?_) hdx
    have hbm' : (b, listOf us.toArray kb) ∈ (I, it) :: ([(C, oC)] ++ (D, listOf acc.toArray k) :: nw) := .tail _ (.tail _ (.tail _ hbm))
    have hls2 : h.IsList b us.toArray := News.isList N₂ hbm'
    have hlt2 : b < h.objs.size := Heap.lt_size (N₂ _ hbm').1
    refine wpAny_pyIter_list hls2 ?_
    have W2 := Walks.list (prog := pr) (w := w) hh h.objs.size b (Nat.ne_of_lt hlt2) us.toArray
    have hIn2 := next_is_new F₂
    have hIL2 : L ≠ h.objs.size := Nat.ne_of_lt F₂.ns.lt
    have lt2 : ∀ p ∈ (I, it) :: ([(C, oC)] ++ (D, listOf acc.toArray k) :: nw), p.1 < h.objs.size := fun p hp => Heap.lt_size (N₂ p hp).1
    refine ⟨fun s' => s' = ({ s with heap := h.push { cls := .type "list_iterator", data := .fields #[.ref b, .int 0 0] }, toks := tk } : Shared), rfl, ?_, ?_⟩
    · rintro s' Q'' rfl hq
      exact W2.self 0 _ _ _ ⟨⟨_, Heap.get?_push_size _ rfl, rfl, rfl⟩, hls2.at fun o e => Heap.get?_push_of_some _ e⟩ hq
    · rintro s' rfl
      have F₃ := F₂.push { cls := .type "list_iterator", data := .fields #[.ref b, .int 0 0] }
      have N₃ : News h₀ L (h.push { cls := .type "list_iterator", data := .fields #[.ref b, .int 0 0] }) ([(C, oC)] ++ (D, listOf acc.toArray k) :: ((I, it) :: nw)) := fun p hp => by
        have hp' : p ∈ (I, it) :: ([(C, oC)] ++ (D, listOf acc.toArray k) :: nw) := by
          simp only [List.mem_cons, List.mem_append, List.mem_singleton] at hp ⊢; grind
        exact ⟨Heap.get?_push_of_some _ (N₂ p hp').1, (N₂ p hp').2⟩
      have hst2 : (fun i h' => Heap.IsListIter h' h.objs.size b i ∧ Heap.IsList h' b us.toArray) 0 (h.push { cls := .type "list_iterator", data := .fields #[.ref b, .int 0 0] }) :=
        ⟨⟨_, Heap.get?_push_size _ rfl, rfl, rfl⟩, hls2.at fun o e => Heap.get?_push_of_some _ e⟩
      have hI2C : h.objs.size ≠ C := Nat.ne_of_gt (lt2 _ hCm)
      have hI2D : h.objs.size ≠ D := Nat.ne_of_gt (lt2 (D, listOf acc.toArray k) (.tail _ (.tail _ (.head _))))
      generalize hI2e : h.objs.size = I2 at *
      refine compLoopD (s := ({ s with heap := h.push { cls := .type "list_iterator", data := .fields #[.ref b, .int 0 0] }, toks := tk } : Shared)) (cx₀ := [(C, oC)]) (acc₀ := acc) [(b, listOf us.toArray kb)] [C] (fun cx => ∃ oC mC, cx = [(C, oC)] ∧ NsObj oC mC) (fun v cx => ∃ oC mC, cx = [(C, oC)] ∧ NsObj oC mC ∧ mC y = some v)
        (fun j acc' nw' => nw' = (I, it) :: nw ∧ IntsAre acc' ((xss.take i).flatten ++ xs.take j) ∧ acc'.length ≤ acc.length + j)
        rfl (turn_two1 ..) (fun _ => rfl) W2 ?_ ?_ ?_ hIn2 hIL2 hst2 ?_ ?_ ?_ ?_ hI2D ?_ F₃ N₃ ⟨oC, _, rfl, hns⟩ ?_ ⟨rfl, by simpa using hacc, Nat.le_refl _⟩ ?_ ?_
      · intro b' hb'
        rcases List.mem_cons.mp hb' with e | hb'
        · exact .inl e
        · exact .inr (.inr ⟨_, List.mem_singleton.mpr (by rw [List.mem_singleton.mp hb'])⟩)
      · intro q hq; rw [List.mem_singleton.mp hq]; exact .tail _ hbm
      · rintro i h ⟨⟨o, e, _⟩, _⟩; exact ⟨o, e⟩
      · rintro cx ⟨oC, mC, rfl, _⟩; rfl
      · rintro v cx ⟨oC, mC, rfl, _⟩; rfl
      · simp only [List.mem_singleton]; exact hI2C
      · simp only [List.mem_singleton]; exact Nat.ne_of_lt hDC
      · rintro v cx pre post s' Q' ⟨oC, mC, rfl, hns⟩ F₂ N₂ h1 h2 hq
        exact storeC hy hkind F₂ N₂ hns (fun p hp => by simpa using h1 p hp) (fun p hp => by simpa using h2 p hp) fun h' tk' oC' hns' F₃ N₃ => hq h' tk' _ ⟨oC', _, rfl, hns', if_pos rfl⟩ F₃ N₃
      · intro q hq
        rcases List.mem_cons.mp hq with rfl | hq
        · exact ⟨Nat.ne_of_lt (lt2 (I, it) (.head _)), by simp only [List.mem_singleton]; exact Nat.ne_of_lt (Nat.lt_trans hID hDC), Nat.ne_of_lt hID⟩
        · exact ⟨Nat.ne_of_lt (lt2 q (.tail _ (.tail _ (.tail _ hq)))), (hoff q hq).2.1, (hoff q hq).2.2⟩
      · rintro j v acc' k' cx nw' h5 tk5 it5 hj hP5 ⟨rfl, hacc', hlen'⟩ hkp5 hoff5 ⟨oC5, mC5, rfl, hns5, hmx5⟩ F5 N5
        refine wpAny_tests_nil ?_
        rw [if_pos rfl]
        have hj' : j < us.length := by simpa using hj
        have hlu : us.length = xs.length := hbi.length
        obtain ⟨t5, e5⟩ := hbi.get j xs[j] (by simp [← hlu, hj'])
        have hv5 : v = .int xs[j] t5 := by
          have hP' : us[j]? = some v := by simpa using hP5
          rw [e5] at hP'; exact (Option.some.inj hP').symm
        subst hv5
        show wpAny _ _ (eval (.Name y pe) (compEnvC scope cl C env) >>= fun y => call (.builtin "list.append") [.ref D, y] >>= fun _ => pure ()) _ _ _
        have hCm5 : (C, oC5) ∈ (I2, it5) :: ([(C, oC5)] ++ (D, listOf acc'.toArray k') :: ((I, it) :: nw)) := .tail _ (.head _)
        have hal : acc.length ≤ 4096 * 4000 := by
          rw [hacc.length, List.length_flatten]
          have : ∀ (l : List (List Int)), (∀ xs ∈ l, xs.length ≤ 4000) → (l.map List.length).sum ≤ l.length * 4000 := by
            intro l
            induction l with
            | nil => intro _; simp
            | cons z l ih =>
              intro hz
              have h1 := hz z (.head _)
              have h2 := ih fun xs hx => hz xs (.tail _ hx)
              simp only [List.map_cons, List.sum_cons, List.length_cons]
              omega
          refine Nat.le_trans (this _ fun xs hx => hszs xs (List.mem_of_mem_take hx)) ?_
          have : (xss.take i).length ≤ 4096 := by rw [List.length_take]; omega
          exact Nat.mul_le_mul_right _ this
        refine wpAny_bind (wpAny_Name (wpAny_loadName_local hkind (lookup_relabel_local hy) (hns5.ns (N5 _ hCm5).1) hmx5 ?_) hdy)
        refine wpAny_bind (f_append (pre := [(I2, it5), (C, oC5)]) F5 N5 ?_ (fun q hq => (hoff5 q hq).2.2) (by rw [List.size_toArray]; omega) fun h6 F6 N6 => wpAny_pure ?_)
        · intro p hp
          simp only [List.mem_cons, List.not_mem_nil, or_false] at hp
          rcases hp with rfl | rfl
          · exact hI2D
          · exact Nat.ne_of_gt hDC
        · rw [List.push_toArray] at N6
          refine ⟨h6, tk5, (I, it) :: nw, _, _, [(C, oC5)], rfl, F6, N6, hkp5, hoff5, ⟨oC5, mC5, rfl, hns5⟩, rfl, ?_, by rw [List.length_append, List.length_singleton]; omega⟩
          have ht5 : xs.take (j + 1) = xs.take j ++ [xs[j]] := by rw [List.take_add_one, List.getElem?_eq_getElem (by omega)]; rfl
          rw [ht5, ← List.append_assoc]
          exact IntsAre.append hacc' (.cons _ _ .nil)
      · rintro acc' k' cx nw' h5 tk5 ⟨rfl, hacc', hlen'⟩ hkp5 hoff5 ⟨oC5, mC5, rfl, hns5⟩ F5 N5
        refine ⟨rfl, h5, tk5, nw, acc', k', [(C, oC5)], rfl, F5, ?_, hkp, hoff, ⟨oC5, mC5, rfl, hns5⟩, rfl, ?_⟩
        · intro p hp
          refine N5 p ?_
          simp only [List.mem_cons, List.mem_append, List.mem_singleton] at hp ⊢; grind
        · rw [htake]
          have : xs.take us.toArray.size = xs := List.take_of_length_le (by rw [List.size_toArray, hbi.length]; exact Nat.le_refl _)
          rwa [this] at hacc'
  · rintro acc k cx nw h tk ⟨rfl, hacc⟩ hkp hoff ⟨oC, mC, rfl, hns⟩ F₂ N₂
    refine ⟨mC, hns.ns (N₂ _ (.head _)).1, fun h' hs' => ?_⟩
    have z := N₂ _ (.head _)
    have hall : xss.take vs.toArray.size = xss := List.take_of_length_le (by rw [List.size_toArray, hv.length]; exact Nat.le_refl _)
    rw [hall] at hacc
    refine hres _ acc k h' tk hltD hacc (F₂.change hs' z.2.1 z.2.2) fun p hp => ?_
    have z' := N₂ p (.tail _ hp)
    refine ⟨(hs'.2 p.1 ?_).trans z'.1, z'.2⟩
    rcases List.mem_cons.mp hp with rfl | hp
    · exact Nat.ne_of_lt hDC
    · simpa using (hoff p hp).2.1
end

abbrev cellObj (v : Option Value) : Obj := { cls := .type "cell", data := .cell v }
open LCg (NsObj) in
section
variable {w : World} {A : Around} {R : Result → Shared → Prop} {s : Shared} {h₀ : Heap} {L : Addr} {m : Str → Option Value} {env : Env} {Q : Value → Shared → Prop}

/-- the same with one cell of the block's own -/
theorem compGo_ofK {e elt : PySem.Expr} {target iter : PySem.Expr} {ifs : List PySem.Expr} {rest : List Comprehension} {scope : Scope} {pos : Pos} {cl : List (Str × Addr)} {kx : Str} {I : Addr} {news : List (Addr × Obj)} {P : Heap → Prop}
    (he : e = .ListComp elt (⟨target, iter, ifs, 0⟩ :: rest) scope pos) (hcf : ∀ n, cellsFrom n scope.names cl = (kx, n) :: cl) (hpc : ∀ h : Heap, pushCells h scope.names = h.push (cellObj none))
    (F : Fr h₀ L s.heap m) (N : News h₀ L s.heap news) (hP : P s.heap) (hkeep : ∀ h h', P h → (∀ b o, h.get? b = some o → h'.get? b = some o) → P h')
    (hself : ∀ (s' : Shared) (Q' : Value → Shared → Prop), P s'.heap → Q' (.ref I) s' → wpAny (model pr w) A (pyIter (.ref I)) Q' NoE s')
    (h : ∀ c C D oC h₁ tk, D = s.heap.objs.size → (∀ p ∈ news, p.1 < D) → D < C → C < c → NsObj oC (fun _ => none) → P h₁ → Fr h₀ L h₁ m → News h₀ L h₁ ((c, cellObj none) :: (C, oC) :: (D, listOf [].toArray 0) :: news) →
      codeAny (model pr w) A (.compLoop e 0 (.ref I) (.ref D) (compEnvC scope ((kx, c) :: cl) C env)) (compPost (model pr w) A NoE none Q (.ref D) C) { s with heap := h₁, toks := tk }) :
    CompGo w A e scope cl env Q (.ref I) s := by
  subst he
  unfold CompGo
  refine wpAny_newObj_type ?_
  generalize hH2 : s.heap.push { cls := .type "list", dict := none, data := .seq ([] : List Value).toArray } = H2
  simp only [newFunctionEnv, Option.isSome_some, if_true]
  refine wpAny_bind (wpAny_alloc ?_)
  refine wpAny_bind (wpAny_layCells _ (fun name kind cells => by cases hkc : kind == NameKind.cell <;> simp [hkc]) _ _ _ _ ?_)
  rw [show ({ s with heap := H2.push { cls := .type "dict", data := .dict #[] } } : Shared).heap.objs.size = H2.objs.size + 1 from Heap.size_push .., hcf, hpc]
  refine wpAny_bind (wpAny_pure (wpAny_pure ?_))
  have hC : H2.objs.size = s.heap.objs.size + 1 := by rw [← hH2, Heap.size_push]
  have old : ∀ b o, s.heap.get? b = some o → ((H2.push { cls := .type "dict", data := .dict #[] }).push (cellObj none)).get? b = some o := fun b o e =>
    Heap.get?_push_of_some _ (Heap.get?_push_of_some _ (hH2 ▸ Heap.get?_push_of_some _ e))
  have hD : ((H2.push { cls := .type "dict", data := .dict #[] }).push (cellObj none)).get? s.heap.objs.size = some (W.listOf [].toArray 0) :=
    Heap.get?_push_of_some _ (Heap.get?_push_of_some _ (hH2 ▸ Heap.get?_push_size _ rfl))
  have hCo : ((H2.push { cls := .type "dict", data := .dict #[] }).push (cellObj none)).get? H2.objs.size = some { cls := .type "dict", data := .dict #[] } :=
    Heap.get?_push_of_some _ (Heap.get?_push_size _ rfl)
  have hco : ((H2.push { cls := .type "dict", data := .dict #[] }).push (cellObj none)).get? (H2.objs.size + 1) = some (cellObj none) := by
    have := Heap.get?_push_size (o := cellObj none) (H2.push { cls := .type "dict", data := .dict #[] }) rfl
    rwa [Heap.size_push] at this
  have hns : NsObj ({ cls := .type "dict", data := .dict #[] } : Obj) (fun _ => none) := ⟨#[], 0, rfl, fun _ he => by simp at he, fun _ => rfl⟩
  generalize ((H2.push { cls := .type "dict", data := .dict #[] }).push (cellObj none)) = h₁ at *
  have F₁ : Fr h₀ L h₁ m := F.keeps old
  have none0 : ∀ a, s.heap.objs.size ≤ a → h₀.get? a = none := fun a ha => by
    cases e : h₀.get? a with
    | none => rfl
    | some o' => exact absurd (Heap.lt_size (F.keep _ _ e)) (Nat.not_lt.mpr ha)
  have hLt : L < s.heap.objs.size := F.ns.lt
  have N₁ : News h₀ L h₁ ((H2.objs.size + 1, cellObj none) :: (H2.objs.size, { cls := .type "dict", data := .dict #[] }) :: (s.heap.objs.size, listOf [].toArray 0) :: news) := fun p hp => by
    rcases List.mem_cons.mp hp with rfl | hp
    · exact ⟨hco, by rw [hC]; exact Nat.ne_of_gt (Nat.lt_succ_of_lt (Nat.lt_succ_of_lt hLt)), none0 _ (by rw [hC]; exact Nat.le_succ_of_le (Nat.le_succ _))⟩
    · rcases List.mem_cons.mp hp with rfl | hp
      · exact ⟨hCo, by rw [hC]; exact Nat.ne_of_gt (Nat.lt_succ_of_lt hLt), none0 _ (by rw [hC]; exact Nat.le_succ _)⟩
      · rcases List.mem_cons.mp hp with rfl | hp
        · exact ⟨hD, Nat.ne_of_gt hLt, none0 _ (Nat.le_refl _)⟩
        · exact ⟨old _ _ (N p hp).1, (N p hp).2⟩
  have hP₁ := hkeep _ _ hP old
  have go := h (H2.objs.size + 1) H2.objs.size s.heap.objs.size _ h₁ s.toks rfl (fun p hp => Heap.lt_size (N p hp).1) (by rw [hC]; exact Nat.lt_succ_self _) (Nat.lt_succ_self _) hns hP₁ F₁ N₁
  exact codeAny_compStart_list go (noE (hself _ _ hP₁ go))

theorem storeK {x : Str} {px : Pos} {scope : Scope} {cl : List (Str × Addr)} {c C : Addr} {Q' : Unit → Shared → Prop} {oc : Obj} {v₀ : Option Value} {v : Value} {pre post : List (Addr × Obj)}
    (hx : (relabel scope env).names.lookup x = some .cell) (hkind : scope.kind = .function) (hc : cl.lookup x = some c)
    (F : Fr h₀ L s.heap m) (N : News h₀ L s.heap (pre ++ ((c, oc) :: post))) (hoc : oc.data = .cell v₀) (h1 : ∀ p ∈ pre, p.1 ≠ c) (h2 : ∀ p ∈ post, p.1 ≠ c)
    (h : ∀ h' tk' oc', oc'.data = .cell (some v) → Fr h₀ L h' m → News h₀ L h' (pre ++ ((c, oc') :: post)) → Q' () { s with heap := h', toks := tk' }) :
    wpAny (model pr w) A (assign (.Name x px) (compEnvC scope cl C env) v) Q' NoE s := by
  have z := N (c, oc) (List.mem_append_right _ (.head _))
  refine wpAny_assign_Name (wpAny_storeName_cell (by simp [compEnvC, relabel, hkind]) hx hc ⟨oc, z.1, hoc⟩ (fun h' hv hs' => ?_))
  obtain ⟨oc', ho', hd'⟩ := hv
  exact h h' _ oc' hd' (F.change hs' z.2.1 z.2.2) (news_set N h1 h2 hs' ho')

/-- one clause, a name that an inner block takes for a target -/
theorem comp1K {elt iter : PySem.Expr} {x : Str} {px : Pos} {ifs : List PySem.Expr} {scope : Scope} {pos : Pos} {cl : List (Str × Addr)} {I : Addr} {fp : List Addr} {n : Nat} {P : Nat → Value → Prop} {St : Nat → Heap → Prop} {news : List (Addr × Obj)}
    (kp : List (Addr × Obj)) (J : Nat → List Value → List (Addr × Obj) → Prop)
    (hcf : ∀ n, cellsFrom n scope.names cl = (x, n) :: cl) (hpc : ∀ h : Heap, pushCells h scope.names = h.push (cellObj none)) (hkind : scope.kind = .function) (hx : (relabel scope env).names.lookup x = some .cell)
    (W : Walks pr w A I fp [I] n P St) (hfp : ∀ b ∈ fp, b = I ∨ (∃ o, h₀.get? b = some o) ∨ ∃ o, (b, o) ∈ kp) (hkp : ∀ q ∈ kp, q ∈ news)
    (hI : ∀ i h, St i h → ∃ o, h.get? I = some o) (h0I : h₀.get? I = none) (hLI : L ≠ I) (hIlt : I < s.heap.objs.size) (hnI : ∀ p ∈ news, p.1 ≠ I) (hst : St 0 s.heap) (hsz : n ≤ 16777216)
    (F : Fr h₀ L s.heap m) (N : News h₀ L s.heap news) (hj : J 0 [] news)
    (turn : ∀ c C D it oc oC mC k i v acc nw h tk, (∀ p ∈ news, p.1 < D) → I < D → D < C → C < c → i < n → P i v → J i acc nw → (∀ q ∈ kp, q ∈ nw) → (∀ q ∈ nw, q.1 ≠ I ∧ q.1 ≠ c ∧ q.1 ≠ C ∧ q.1 ≠ D) → oc.data = .cell (some v) → NsObj oC mC → Fr h₀ L h m →
      News h₀ L h ((I, it) :: (c, oc) :: (C, oC) :: (D, listOf acc.toArray k) :: nw) →
      wpAny (model pr w) A (testsOf ifs (compEnvC scope ((x, c) :: cl) C env)) (fun ok s₃ =>
        let End := fun (acc' : List Value) (s₄ : Shared) => Stop (∃ h' tk' nw', s₄ = { s with heap := h', toks := tk' } ∧ Fr h₀ L h' m ∧ News h₀ L h' ((I, it) :: (c, oc) :: (C, oC) :: (D, listOf acc.toArray k) :: nw') ∧ (∀ q ∈ kp, q ∈ nw') ∧ (∀ q ∈ nw', q.1 ≠ I ∧ q.1 ≠ c ∧ q.1 ≠ C ∧ q.1 ≠ D) ∧ J (i + 1) acc' nw')
        if ok = true then wpAny (model pr w) A (eval elt (compEnvC scope ((x, c) :: cl) C env)) (fun y s₄ => End (acc ++ [y]) s₄) NoE s₃ else End acc s₃) NoE { s with heap := h, toks := tk })
    (done : ∀ D acc k nw h tk, (∀ p ∈ news, p.1 < D) → J n acc nw → (∀ q ∈ kp, q ∈ nw) → (∀ q ∈ nw, q.1 ≠ D) → Fr h₀ L h m → News h₀ L h ((D, listOf acc.toArray k) :: nw) → Q (.ref D) { s with heap := h, toks := tk }) :
    CompGo w A (.ListComp elt [⟨.Name x px, iter, ifs, 0⟩] scope pos) scope cl env Q (.ref I) s := by
  refine compGo_ofK (P := St 0) rfl hcf hpc F N hst (fun h h' st k => W.frame _ _ _ st fun b _ o e => k b o e) (fun s' Q' st hq => W.self 0 s' Q' NoE st hq) ?_
  rintro c C D oC h₁ tk hD hltD hDC hCc hns hst₁ F₁ N₁
  have hID : I < D := by rw [hD]; exact hIlt
  have mem2 : ∀ a : Addr, a ∉ [c, C] ↔ a ≠ c ∧ a ≠ C := fun a => by simp
  refine compLoopD (cx₀ := [(c, cellObj none), (C, oC)]) (acc₀ := []) kp [c, C] (fun cx => ∃ oc oC mC v₀, cx = [(c, oc), (C, oC)] ∧ oc.data = .cell v₀ ∧ NsObj oC mC) (fun v cx => ∃ oc oC mC, cx = [(c, oc), (C, oC)] ∧ oc.data = .cell (some v) ∧ NsObj oC mC) (fun i acc nw => J i acc nw ∧ acc.length ≤ i)
    rfl (turn_one ..) (fun _ => rfl) W hfp hkp hI h0I hLI hst₁ ?_ ?_ ?_ ?_ (Nat.ne_of_lt hID) ?_ F₁ N₁ ⟨_, oC, _, none, rfl, rfl, hns⟩ ?_ ⟨hj, Nat.le_refl _⟩ ?_ ?_
  · rintro cx ⟨oc, oC, mC, _, rfl, _⟩; rfl
  · rintro v cx ⟨oc, oC, mC, rfl, _⟩; rfl
  · rw [mem2]; exact ⟨Nat.ne_of_lt (Nat.lt_trans hID (Nat.lt_trans hDC hCc)), Nat.ne_of_lt (Nat.lt_trans hID hDC)⟩
  · rw [mem2]; exact ⟨Nat.ne_of_lt (Nat.lt_trans hDC hCc), Nat.ne_of_lt hDC⟩
  · rintro v cx pre post s' Q' ⟨oc, oC, mC, v₀, rfl, hoc, hns⟩ F₂ N₂ h1 h2 hq
    refine storeK (pre := pre) (post := (C, oC) :: post) hx hkind (by simp) F₂ N₂ hoc (fun p hp => ((mem2 _).mp (h1 p hp)).1) (fun p hp => ?_) fun h' tk' oc' hoc' F₃ N₃ => hq h' tk' [(c, oc'), (C, oC)] ⟨oc', oC, mC, rfl, hoc', hns⟩ F₃ N₃
    rcases List.mem_cons.mp hp with rfl | hp
    · exact Nat.ne_of_lt hCc
    · exact ((mem2 _).mp (h2 p hp)).1
  · intro q hq
    exact ⟨hnI q hq, (mem2 _).mpr ⟨Nat.ne_of_lt (Nat.lt_trans (hltD q hq) (Nat.lt_trans hDC hCc)), Nat.ne_of_lt (Nat.lt_trans (hltD q hq) hDC)⟩, Nat.ne_of_lt (hltD q hq)⟩
  · rintro i v acc k cx nw h tk it hi hP ⟨hJ, hlen⟩ hkp' hoff ⟨oc, oC, mC, rfl, hoc, hns⟩ F₂ N₂
    have hoff' : ∀ q ∈ nw, q.1 ≠ I ∧ q.1 ≠ c ∧ q.1 ≠ C ∧ q.1 ≠ D := fun q hq => ⟨(hoff q hq).1, ((mem2 _).mp (hoff q hq).2.1).1, ((mem2 _).mp (hoff q hq).2.1).2, (hoff q hq).2.2⟩
    refine wpAny_mono (turn c C D it oc oC mC k i v acc nw h tk hltD hID hDC hCc hi hP hJ hkp' hoff' hoc hns F₂ N₂) (fun ok s₃ h₃ => ?_) fun _ _ x => x
    dsimp only at h₃
    cases ok with
    | false =>
      simp only [Bool.false_eq_true, if_false] at h₃ ⊢
      obtain ⟨h', tk', nw', rfl, F₄, N₄, hk₄, ho₄, hJ₄⟩ := h₃
      exact ⟨h', tk', nw', acc, k, [(c, oc), (C, oC)], rfl, F₄, N₄, hk₄, (fun q hq => ⟨(ho₄ q hq).1, (mem2 _).mpr ⟨(ho₄ q hq).2.1, (ho₄ q hq).2.2.1⟩, (ho₄ q hq).2.2.2⟩), ⟨oc, oC, mC, _, rfl, hoc, hns⟩, hJ₄, Nat.le_succ_of_le hlen⟩
    | true =>
      simp only [if_true] at h₃ ⊢
      show wpAny _ _ (eval elt (compEnvC scope ((x, c) :: cl) C env) >>= fun y => call (.builtin "list.append") [.ref D, y] >>= fun _ => pure ()) _ _ _
      refine wpAny_bind (wpAny_mono h₃ (fun y s₄ h₄ => ?_) fun _ _ x => x)
      obtain ⟨h', tk', nw', rfl, F₄, N₄, hk₄, ho₄, hJ₄⟩ := h₄
      refine wpAny_bind (f_append (pre := [(I, it), (c, oc), (C, oC)]) F₄ N₄ ?_ (fun q hq => (ho₄ q hq).2.2.2) (by rw [List.size_toArray]; omega) fun h₅ F₅ N₅ => wpAny_pure ?_)
      · intro p hp
        simp only [List.mem_cons, List.not_mem_nil, or_false] at hp
        rcases hp with rfl | rfl | rfl
        · exact Nat.ne_of_lt hID
        · exact Nat.ne_of_gt (Nat.lt_trans hDC hCc)
        · exact Nat.ne_of_gt hDC
      · rw [List.push_toArray] at N₅
        exact ⟨h₅, tk', nw', _, _, [(c, oc), (C, oC)], rfl, F₅, N₅, hk₄, (fun q hq => ⟨(ho₄ q hq).1, (mem2 _).mpr ⟨(ho₄ q hq).2.1, (ho₄ q hq).2.2.1⟩, (ho₄ q hq).2.2.2⟩), ⟨oc, oC, mC, _, rfl, hoc, hns⟩, hJ₄, by rw [List.length_append, List.length_singleton]; omega⟩
  · rintro acc k cx nw h tk ⟨hJ, hlen⟩ hkp' hoff ⟨oc, oC, mC, v₀, rfl, hoc, hns⟩ F₂ N₂
    refine ⟨mC, hns.ns (N₂ _ (.tail _ (.head _))).1, fun h' hs' => ?_⟩
    have z := N₂ _ (.tail _ (.head _))
    refine done D acc k nw h' tk hltD hJ hkp' (fun q hq => (hoff q hq).2.2) (F₂.change hs' z.2.1 z.2.2) fun p hp => ?_
    have z' := N₂ p (.tail _ (.tail _ hp))
    refine ⟨(hs'.2 p.1 ?_).trans z'.1, z'.2⟩
    rcases List.mem_cons.mp hp with rfl | hp
    · exact Nat.ne_of_lt hDC
    · exact ((mem2 _).mp (hoff p hp).2.1).2
end

open LCg (NsObj) in
section
variable {w : World} {A : Around} {R : Result → Shared → Prop} {s : Shared} {h₀ : Heap} {L : Addr} {m : Str → Option Value} {env : Env} {Q : Value → Shared → Prop}

theorem comp1K_range {elt iter : PySem.Expr} {x : Str} {px : Pos} {ifs : List PySem.Expr} {scope : Scope} {pos : Pos} {cl : List (Str × Addr)} {r : Addr} {a₀ b₀ c₀ : Int} {t₀ u₀ v₀ : Tok} {n : Nat} {news : List (Addr × Obj)}
    (J : Nat → List Value → List (Addr × Obj) → Prop) (hh : A.handled = none)
    (hr : IsRange s.heap r a₀ b₀ c₀ t₀ u₀ v₀) (hsmall : Builtin.Range.small a₀ b₀ c₀ = true) (hn : Builtin.Range.rangeSize a₀ b₀ c₀ = (n : Int))
    (hcf : ∀ n, cellsFrom n scope.names cl = (x, n) :: cl) (hpc : ∀ h : Heap, pushCells h scope.names = h.push (cellObj none)) (hkind : scope.kind = .function) (hx : (relabel scope env).names.lookup x = some .cell)
    (hsz : n ≤ 16777216) (F : Fr h₀ L s.heap m) (N : News h₀ L s.heap news) (hj : J 0 [] news)
    (turn : ∀ c C D I it oc oC mC k i t acc nw h tk, (∀ p ∈ news, p.1 < D) → (∀ p ∈ news, p.1 < I) → I < D → D < C → C < c → i < n → J i acc nw → (∀ q ∈ nw, q.1 ≠ I ∧ q.1 ≠ c ∧ q.1 ≠ C ∧ q.1 ≠ D) → oc.data = .cell (some (.int (a₀ + (i : Int) * c₀) t)) → NsObj oC mC → Fr h₀ L h m →
      News h₀ L h ((I, it) :: (c, oc) :: (C, oC) :: (D, listOf acc.toArray k) :: nw) →
      wpAny (model pr w) A (testsOf ifs (compEnvC scope ((x, c) :: cl) C env)) (fun ok s₃ =>
        let End := fun (acc' : List Value) (s₄ : Shared) => Stop (∃ h' tk' nw', s₄ = { s with heap := h', toks := tk' } ∧ Fr h₀ L h' m ∧ News h₀ L h' ((I, it) :: (c, oc) :: (C, oC) :: (D, listOf acc.toArray k) :: nw') ∧ (∀ q ∈ nw', q.1 ≠ I ∧ q.1 ≠ c ∧ q.1 ≠ C ∧ q.1 ≠ D) ∧ J (i + 1) acc' nw')
        if ok = true then wpAny (model pr w) A (eval elt (compEnvC scope ((x, c) :: cl) C env)) (fun y s₄ => End (acc ++ [y]) s₄) NoE s₃ else End acc s₃) NoE { s with heap := h, toks := tk })
    (done : ∀ D acc k nw h tk, (∀ p ∈ news, p.1 < D) → J n acc nw → (∀ q ∈ nw, q.1 ≠ D) → Fr h₀ L h m → News h₀ L h ((D, listOf acc.toArray k) :: nw) → Q (.ref D) { s with heap := h, toks := tk }) :
    wpAny (model pr w) A (pyIter (.ref r)) (fun it s₂ => CompGo w A (.ListComp elt [⟨.Name x px, iter, ifs, 0⟩] scope pos) scope cl env Q it s₂) NoE s := by
  refine wpAny_pyIter_range hr hsmall ?_
  have W : Walks pr w A s.heap.objs.size [s.heap.objs.size] [s.heap.objs.size] n (fun i v => i < n ∧ ∃ t, v = .int (a₀ + i * c₀) t)
      (fun i h => IsRangeIter h s.heap.objs.size (a₀ + (i : Nat) * c₀) ((n : Int) - (i : Nat)) c₀) := (Walks.range hh _ a₀ c₀ n).bound
  refine comp1K [] J hcf hpc hkind hx W (fun b hb => .inl (List.mem_singleton.mp hb)) (fun _ hq => nomatch hq) (fun i h hst => ⟨_, hst⟩) (next_is_new F) (Nat.ne_of_lt F.ns.lt) (by show _ < (s.heap.push _).objs.size; rw [Heap.size_push]; exact Nat.lt_succ_self _) (News.ne_size N)
    (by show IsRangeIter _ _ _ _ _; rw [hn]; simpa using Heap.get?_push_size _ rfl) hsz (F.push _) (fun p hp => ⟨Heap.get?_push_of_some _ (N p hp).1, (N p hp).2⟩) hj ?_ ?_
  · rintro c C D it oc oC mC k i v acc nw h tk hltD hID hDC hCc hi ⟨_, t, rfl⟩ hJ _ hoff hoc hns F₂ N₂
    refine wpAny_mono (turn c C D _ it oc oC mC k i t acc nw h tk hltD (fun p hp => Heap.lt_size (N p hp).1) hID hDC hCc hi hJ hoff hoc hns F₂ N₂) (fun ok s₃ h₃ => ?_) fun _ _ x => x
    dsimp only at h₃ ⊢
    have up : ∀ acc' s₄, Stop (∃ h' tk' nw', s₄ = { s with heap := h', toks := tk' } ∧ Fr h₀ L h' m ∧ News h₀ L h' ((s.heap.objs.size, it) :: (c, oc) :: (C, oC) :: (D, listOf acc.toArray k) :: nw') ∧ (∀ q ∈ nw', q.1 ≠ s.heap.objs.size ∧ q.1 ≠ c ∧ q.1 ≠ C ∧ q.1 ≠ D) ∧ J (i + 1) acc' nw') →
        Stop (∃ h' tk' nw', s₄ = { s with heap := h', toks := tk' } ∧ Fr h₀ L h' m ∧ News h₀ L h' ((s.heap.objs.size, it) :: (c, oc) :: (C, oC) :: (D, listOf acc.toArray k) :: nw') ∧ (∀ q ∈ ([] : List (Addr × Obj)), q ∈ nw') ∧ (∀ q ∈ nw', q.1 ≠ s.heap.objs.size ∧ q.1 ≠ c ∧ q.1 ≠ C ∧ q.1 ≠ D) ∧ J (i + 1) acc' nw') := by
      rintro acc' s₄ ⟨h', tk', nw', e, F₃, N₃, ho, hJ'⟩
      exact ⟨h', tk', nw', e, F₃, N₃, (fun _ hq => nomatch hq), ho, hJ'⟩
    cases ok with
    | false => exact up _ _ h₃
    | true => exact wpAny_mono h₃ (fun y s₄ h₄ => up _ _ h₄) fun _ _ x => x
  · intro D acc k nw h tk hltD hJ _ hoff F₂ N₂
    exact done D acc k nw h tk hltD hJ hoff F₂ N₂

theorem comp1_range {elt iter : PySem.Expr} {x : Str} {px : Pos} {ifs : List PySem.Expr} {scope : Scope} {pos : Pos} {cl : List (Str × Addr)} {r : Addr} {a₀ b₀ c₀ : Int} {t₀ u₀ v₀ : Tok} {n : Nat} {news : List (Addr × Obj)}
    (J : Nat → List Value → List (Addr × Obj) → Prop) (hh : A.handled = none)
    (hr : IsRange s.heap r a₀ b₀ c₀ t₀ u₀ v₀) (hsmall : Builtin.Range.small a₀ b₀ c₀ = true) (hn : Builtin.Range.rangeSize a₀ b₀ c₀ = (n : Int))
    (hcell : ∀ y ∈ scope.names, y.2 ≠ .cell) (hkind : scope.kind = .function) (hx : scope.names.lookup x = some .local)
    (hsz : n ≤ 16777216) (F : Fr h₀ L s.heap m) (N : News h₀ L s.heap news) (hj : J 0 [] news)
    (turn : ∀ C D I it oC mC k i t acc nw h tk, (∀ p ∈ news, p.1 < D) → (∀ p ∈ news, p.1 < I) → I < D → D < C → i < n → J i acc nw → (∀ q ∈ nw, q.1 ≠ I ∧ q.1 ≠ C ∧ q.1 ≠ D) → NsObj oC mC → mC x = some (.int (a₀ + (i : Int) * c₀) t) → Fr h₀ L h m →
      News h₀ L h ((I, it) :: (C, oC) :: (D, listOf acc.toArray k) :: nw) →
      wpAny (model pr w) A (testsOf ifs (compEnvC scope cl C env)) (fun ok s₃ =>
        let End := fun (acc' : List Value) (s₄ : Shared) => Stop (∃ h' tk' nw', s₄ = { s with heap := h', toks := tk' } ∧ Fr h₀ L h' m ∧ News h₀ L h' ((I, it) :: (C, oC) :: (D, listOf acc.toArray k) :: nw') ∧ (∀ q ∈ nw', q.1 ≠ I ∧ q.1 ≠ C ∧ q.1 ≠ D) ∧ J (i + 1) acc' nw')
        if ok = true then wpAny (model pr w) A (eval elt (compEnvC scope cl C env)) (fun y s₄ => End (acc ++ [y]) s₄) NoE s₃ else End acc s₃) NoE { s with heap := h, toks := tk })
    (done : ∀ D acc k nw h tk, (∀ p ∈ news, p.1 < D) → J n acc nw → (∀ q ∈ nw, q.1 ≠ D) → Fr h₀ L h m → News h₀ L h ((D, listOf acc.toArray k) :: nw) → Q (.ref D) { s with heap := h, toks := tk }) :
    wpAny (model pr w) A (pyIter (.ref r)) (fun it s₂ => CompGo w A (.ListComp elt [⟨.Name x px, iter, ifs, 0⟩] scope pos) scope cl env Q it s₂) NoE s := by
  refine wpAny_pyIter_range hr hsmall ?_
  have W : Walks pr w A s.heap.objs.size [s.heap.objs.size] [s.heap.objs.size] n (fun i v => i < n ∧ ∃ t, v = .int (a₀ + i * c₀) t)
      (fun i h => IsRangeIter h s.heap.objs.size (a₀ + (i : Nat) * c₀) ((n : Int) - (i : Nat)) c₀) := (Walks.range hh _ a₀ c₀ n).bound
  refine comp1 [] J hcell hkind hx W (fun b hb => .inl (List.mem_singleton.mp hb)) (fun _ hq => nomatch hq) (fun i h hst => ⟨_, hst⟩) (next_is_new F) (Nat.ne_of_lt F.ns.lt) (by show _ < (s.heap.push _).objs.size; rw [Heap.size_push]; exact Nat.lt_succ_self _) (News.ne_size N)
    (by show IsRangeIter _ _ _ _ _; rw [hn]; simpa using Heap.get?_push_size _ rfl) hsz (F.push _) (fun p hp => ⟨Heap.get?_push_of_some _ (N p hp).1, (N p hp).2⟩) hj ?_ ?_
  · rintro C D it oC mC k i v acc nw h tk hltD hID hDC hi ⟨_, t, rfl⟩ hJ _ hoff hns hmx F₂ N₂
    refine wpAny_mono (turn C D _ it oC mC k i t acc nw h tk hltD (fun p hp => Heap.lt_size (N p hp).1) hID hDC hi hJ hoff hns hmx F₂ N₂) (fun ok s₃ h₃ => ?_) fun _ _ x => x
    dsimp only at h₃ ⊢
    have up : ∀ acc' s₄, Stop (∃ h' tk' nw', s₄ = { s with heap := h', toks := tk' } ∧ Fr h₀ L h' m ∧ News h₀ L h' ((s.heap.objs.size, it) :: (C, oC) :: (D, listOf acc.toArray k) :: nw') ∧ (∀ q ∈ nw', q.1 ≠ s.heap.objs.size ∧ q.1 ≠ C ∧ q.1 ≠ D) ∧ J (i + 1) acc' nw') →
        Stop (∃ h' tk' nw', s₄ = { s with heap := h', toks := tk' } ∧ Fr h₀ L h' m ∧ News h₀ L h' ((s.heap.objs.size, it) :: (C, oC) :: (D, listOf acc.toArray k) :: nw') ∧ (∀ q ∈ ([] : List (Addr × Obj)), q ∈ nw') ∧ (∀ q ∈ nw', q.1 ≠ s.heap.objs.size ∧ q.1 ≠ C ∧ q.1 ≠ D) ∧ J (i + 1) acc' nw') := by
      rintro acc' s₄ ⟨h', tk', nw', e, F₃, N₃, ho, hJ'⟩
      exact ⟨h', tk', nw', e, F₃, N₃, (fun _ hq => nomatch hq), ho, hJ'⟩
    cases ok with
    | false => exact up _ _ h₃
    | true => exact wpAny_mono h₃ (fun y s₄ h₄ => up _ _ h₄) fun _ _ x => x
  · intro D acc k nw h tk hltD hJ _ hoff F₂ N₂
    exact done D acc k nw h tk hltD hJ hoff F₂ N₂

theorem comp1_list {elt iter : PySem.Expr} {x : Str} {px : Pos} {ifs : List PySem.Expr} {scope : Scope} {pos : Pos} {cl : List (Str × Addr)} {l : Addr} {vs : List Value} {nn : Nat} {news : List (Addr × Obj)}
    (J : Nat → List Value → List (Addr × Obj) → Prop) (hh : A.handled = none) (hl : (l, listOf vs.toArray nn) ∈ news)
    (hcell : ∀ y ∈ scope.names, y.2 ≠ .cell) (hkind : scope.kind = .function) (hx : scope.names.lookup x = some .local)
    (hsz : vs.length ≤ 16777216) (F : Fr h₀ L s.heap m) (N : News h₀ L s.heap news) (hj : J 0 [] news)
    (turn : ∀ C D I it oC mC k i v acc nw h tk, (∀ p ∈ news, p.1 < D) → (∀ p ∈ news, p.1 < I) → I < D → D < C → vs[i]? = some v → J i acc nw → (l, listOf vs.toArray nn) ∈ nw → (∀ q ∈ nw, q.1 ≠ I ∧ q.1 ≠ C ∧ q.1 ≠ D) → NsObj oC mC → mC x = some v → Fr h₀ L h m →
      News h₀ L h ((I, it) :: (C, oC) :: (D, listOf acc.toArray k) :: nw) →
      wpAny (model pr w) A (testsOf ifs (compEnvC scope cl C env)) (fun ok s₃ =>
        let End := fun (acc' : List Value) (s₄ : Shared) => Stop (∃ h' tk' nw', s₄ = { s with heap := h', toks := tk' } ∧ Fr h₀ L h' m ∧ News h₀ L h' ((I, it) :: (C, oC) :: (D, listOf acc.toArray k) :: nw') ∧ (l, listOf vs.toArray nn) ∈ nw' ∧ (∀ q ∈ nw', q.1 ≠ I ∧ q.1 ≠ C ∧ q.1 ≠ D) ∧ J (i + 1) acc' nw')
        if ok = true then wpAny (model pr w) A (eval elt (compEnvC scope cl C env)) (fun y s₄ => End (acc ++ [y]) s₄) NoE s₃ else End acc s₃) NoE { s with heap := h, toks := tk })
    (done : ∀ D acc k nw h tk, (∀ p ∈ news, p.1 < D) → J vs.length acc nw → (∀ q ∈ nw, q.1 ≠ D) → Fr h₀ L h m → News h₀ L h ((D, listOf acc.toArray k) :: nw) → Q (.ref D) { s with heap := h, toks := tk }) :
    wpAny (model pr w) A (pyIter (.ref l)) (fun it s₂ => CompGo w A (.ListComp elt [⟨.Name x px, iter, ifs, 0⟩] scope pos) scope cl env Q it s₂) NoE s := by
  have hls : s.heap.IsList l vs.toArray := News.isList N hl
  have hlt : l < s.heap.objs.size := Heap.lt_size (N _ hl).1
  refine wpAny_pyIter_list hls ?_
  have W := Walks.list (prog := pr) (w := w) hh s.heap.objs.size l (Nat.ne_of_lt hlt) vs.toArray
  refine comp1 [(l, listOf vs.toArray nn)] J hcell hkind hx W ?_ ?_ ?_ (next_is_new F) (Nat.ne_of_lt F.ns.lt) (by show _ < (s.heap.push _).objs.size; rw [Heap.size_push]; exact Nat.lt_succ_self _) (News.ne_size N)
    ⟨⟨_, Heap.get?_push_size _ rfl, rfl, rfl⟩, hls.at fun o e => Heap.get?_push_of_some _ e⟩ (by simpa using hsz) (F.push _) (fun p hp => ⟨Heap.get?_push_of_some _ (N p hp).1, (N p hp).2⟩) hj ?_ ?_
  · intro b hb
    rcases List.mem_cons.mp hb with e | hb
    · exact .inl e
    · exact .inr (.inr ⟨_, List.mem_singleton.mpr (by rw [List.mem_singleton.mp hb])⟩)
  · intro q hq; rw [List.mem_singleton.mp hq]; exact hl
  · rintro i h ⟨⟨o, e, _⟩, _⟩; exact ⟨o, e⟩
  · rintro C D it oC mC k i v acc nw h tk hltD hID hDC hi hP hJ hkp hoff hns hmx F₂ N₂
    refine wpAny_mono (turn C D _ it oC mC k i v acc nw h tk hltD (fun p hp => Heap.lt_size (N p hp).1) hID hDC (by simpa using hP) hJ (hkp _ (List.mem_singleton.mpr rfl)) hoff hns hmx F₂ N₂) (fun ok s₃ h₃ => ?_) fun _ _ x => x
    dsimp only at h₃ ⊢
    have up : ∀ acc' s₄, Stop (∃ h' tk' nw', s₄ = { s with heap := h', toks := tk' } ∧ Fr h₀ L h' m ∧ News h₀ L h' ((s.heap.objs.size, it) :: (C, oC) :: (D, listOf acc.toArray k) :: nw') ∧ (l, listOf vs.toArray nn) ∈ nw' ∧ (∀ q ∈ nw', q.1 ≠ s.heap.objs.size ∧ q.1 ≠ C ∧ q.1 ≠ D) ∧ J (i + 1) acc' nw') →
        Stop (∃ h' tk' nw', s₄ = { s with heap := h', toks := tk' } ∧ Fr h₀ L h' m ∧ News h₀ L h' ((s.heap.objs.size, it) :: (C, oC) :: (D, listOf acc.toArray k) :: nw') ∧ (∀ q ∈ [(l, listOf vs.toArray nn)], q ∈ nw') ∧ (∀ q ∈ nw', q.1 ≠ s.heap.objs.size ∧ q.1 ≠ C ∧ q.1 ≠ D) ∧ J (i + 1) acc' nw') := by
      rintro acc' s₄ ⟨h', tk', nw', e, F₃, N₃, hl', ho, hJ'⟩
      exact ⟨h', tk', nw', e, F₃, N₃, (fun q hq => by rw [List.mem_singleton.mp hq]; exact hl'), ho, hJ'⟩
    cases ok with
    | false => exact up _ _ h₃
    | true => exact wpAny_mono h₃ (fun y s₄ h₄ => up _ _ h₄) fun _ _ x => x
  · intro D acc k nw h tk hltD hJ _ hoff F₂ N₂
    exact done D acc k nw h tk hltD (by simpa using hJ) hoff F₂ N₂

/-! names in any block -/
theorem f_cell {y : Str} {py : Pos} {c : Addr} {o : Obj} {v : Value} {news : List (Addr × Obj)} {E : Value → Shared → Prop} (N : News h₀ L s.heap news) (hk : env.scope.kind = .function) (hx : env.kindOf y = some .cell) (hc : env.cells.lookup y = some c) (hm : (c, o) ∈ news) (hd : o.data = .cell (some v))
    (hb : (y == ("__debug__" : Str)) = false) (h : Q v s) : wpAny (model pr w) A (eval (.Name y py) env) Q E s := wpAny_Name (wpAny_loadName_cell hk hx hc ⟨o, (N _ hm).1, hd⟩ h) hb
theorem f_loc {y : Str} {py : Pos} {oC : Obj} {mC : Str → Option Value} {v : Value} {news : List (Addr × Obj)} {E : Value → Shared → Prop} (N : News h₀ L s.heap news) (hk : env.scope.kind = .function) (hx : env.kindOf y = some .local) (hm : (env.locals, oC) ∈ news) (hns : NsObj oC mC) (hv : mC y = some v)
    (hb : (y == ("__debug__" : Str)) = false) (h : Q v s) : wpAny (model pr w) A (eval (.Name y py) env) Q E s := wpAny_Name (wpAny_loadName_local hk hx (hns.ns (N _ hm).1) hv h) hb
end
end Foata
end
/-! FMore -/
section
open PySem PySem.W PySem.Calls PyProof.Rows
set_option maxRecDepth 100000
set_option maxHeartbeats 8000000
namespace Foata
section
variable {w : World} {A : Around} {E : Value → Shared → Prop} {s : Shared} {h₀ : Heap} {L : Addr} {m : Str → Option Value} {news : List (Addr × Obj)}

theorem ints_all {xs ys : List Int} (hl : xs.length = ys.length) : ((List.range xs.length).all fun j => xs.getD j 0 == ys.getD j 0) = decide (xs = ys) := by
  rw [Bool.eq_iff_iff, List.all_eq_true, decide_eq_true_eq]
  constructor
  · intro h
    refine List.ext_getElem hl fun i h1 h2 => ?_
    have := h i (List.mem_range.mpr h1)
    simpa [List.getD_eq_getElem?_getD, h1, h2] using this
  · rintro rfl i _; simp

/-- two lists of ints: alike or not -/
theorem rc_ints {l b : Addr} {vs ws : List Value} {nl nb : Nat} {xs ys : List Int} (N : News h₀ L s.heap news) (hl : (l, listOf vs.toArray nl) ∈ news) (hb : (b, listOf ws.toArray nb) ∈ news) (hi : IntsAre vs xs) (hj : IntsAre ws ys) (hu : A.units < cLine) :
    SeqAt.RcAt A s (.ref l) (.ref b) (decide (xs = ys)) := by
  by_cases hlen : xs.length = ys.length
  · have hsz : vs.toArray.size = ws.toArray.size := by simp only [List.size_toArray, hi.length, hj.length, hlen]
    have := SeqAt.RcAt.lists (A := A) (s := s) (e := fun j => xs.getD j 0 == ys.getD j 0) (News.isList N hl) (News.isList N hb) hsz hu (fun j h1 h2 => by
      simp only [List.size_toArray] at h1 h2
      have h1' : j < xs.length := by rw [← hi.length]; exact h1
      have h2' : j < ys.length := by rw [← hj.length]; exact h2
      obtain ⟨t, e⟩ := hi.get j xs[j] (List.getElem?_eq_getElem h1')
      obtain ⟨u, e'⟩ := hj.get j ys[j] (List.getElem?_eq_getElem h2')
      have z : vs.toArray[j] = .int xs[j] t := by simpa [List.getElem?_eq_getElem h1] using e
      have z' : ws.toArray[j] = .int ys[j] u := by simpa [List.getElem?_eq_getElem h2] using e'
      rw [z, z']
      have := SeqAt.EqAt.int_int (A := A.in1) (s := s) xs[j] t ys[j] u
      simpa [List.getD_eq_getElem?_getD, h1', h2'] using this)
    have hsz' : vs.toArray.size = xs.length := by rw [List.size_toArray, hi.length]
    rw [hsz', ints_all hlen] at this
    exact this
  · have := SeqAt.RcAt.lists_lengths (A := A) (s := s) (News.isList N hl) (News.isList N hb) (by simp only [List.size_toArray, hi.length, hj.length, bne_iff_ne, ne_eq]; exact hlen) hu
    rwa [show decide (xs = ys) = false from decide_eq_false fun h => hlen (by rw [h])]
theorem f_eq {l b : Addr} {vs ws : List Value} {nl nb : Nat} {xs ys : List Int} {Q : Value → Shared → Prop} (N : News h₀ L s.heap news) (hl : (l, listOf vs.toArray nl) ∈ news) (hb : (b, listOf ws.toArray nb) ∈ news) (hi : IntsAre vs xs) (hj : IntsAre ws ys) (hu : A.units < cLine)
    (h : Q (.bool (decide (xs = ys))) s) : wpAny (model pr w) A (compareOp .Eq (.ref l) (.ref b)) Q E s :=
  rc_ints N hl hb hi hj hu pr w E Q h

theorem filter_take_succ {α : Type} {p : α → Bool} {l : List α} {j : Nat} (h : j < l.length) : (l.take (j + 1)).filter p = (l.take j).filter p ++ if p l[j] = true then [l[j]] else [] := by
  rw [List.take_add_one, List.getElem?_eq_getElem h, List.filter_append]
  congr 1
  simp [List.filter_cons]
theorem filter_range_succ {p : Nat → Bool} {j : Nat} : (List.range (j + 1)).filter p = (List.range j).filter p ++ if p j = true then [j] else [] := by
  rw [List.range_succ, List.filter_append]
  congr 1
  simp [List.filter_cons]
end
end Foata
end
/-! FLoop -/
section
open PySem PySem.W PySem.Calls PyProof.Rows
set_option maxRecDepth 100000
set_option maxHeartbeats 8000000
namespace Foata
section
variable {w : World} {A : Around} {E : Value → Shared → Prop} {s : Shared} {h₀ : Heap} {L : Addr} {env : Env} {target : PySem.Expr} {body : List Stmt} {Q : Flow → Shared → Prop}

/-- what stands behind a for's iterator -/
def ForGo (w : World) (A : Around) (target : PySem.Expr) (body : List Stmt) (env : Env) (Q : Flow → Shared → Prop) (E : Value → Shared → Prop) (it : Value) (s : Shared) : Prop :=
  codeAny (model pr w) A (.forLoop target it body [] env) (fun r s' => match r with | .ok f => Q f s' | .error e => cameBackBy (model pr w) A env E e s') s

theorem for_open {iter : PySem.Expr} {pos : Pos} (h : wpAny (model pr w) A (eval iter env) (fun x s₁ => wpAny (model pr w) A (pyIter x) (fun it s₂ => ForGo w A target body env Q E it s₂) E s₁) E s)
    (hs : ∀ x, foldedSetIterable iter env x = pure x) : wpAny (model pr w) A (exec (.For target iter body [] pos) env) Q E s := wpAny_For h hs

theorem for_walk (IP : Obj → Prop) {I : Addr} {fp : List Addr} {n : Nat} {P : Nat → Value → Prop} {St : Nat → Heap → Prop} {m₀ : Str → Option Value} {news : List (Addr × Obj)} (kp : List (Addr × Obj))
    (J : Nat → (Str → Option Value) → List (Addr × Obj) → Prop)
    (W : Walks pr w A I fp [I] n P St) (hfp : ∀ b ∈ fp, b = I ∨ (∃ o, h₀.get? b = some o) ∨ ∃ o, (b, o) ∈ kp) (hkp : ∀ q ∈ kp, q ∈ news)
    (hI : ∀ i h, St i h → ∃ o, h.get? I = some o ∧ IP o) (hLI : L ≠ I) (h0I : h₀.get? I = none) (hnI : ∀ p ∈ news, p.1 ≠ I) (hst : St 0 s.heap)
    (F : Fr h₀ L s.heap m₀) (N : News h₀ L s.heap news) (hj : J 0 m₀ news) (ht : ∀ v, letOwnedTupleGo target (.ref I) v = pure ())
    (turn : ∀ i v m₁ news₁ h tk it, IP it → i < n → P i v → J i m₁ news₁ → (∀ q ∈ kp, q ∈ news₁) → (∀ p ∈ news₁, p.1 ≠ I) → Fr h₀ L h m₁ → News h₀ L h ((I, it) :: news₁) →
      wpAny (model pr w) A (assign target env v) (fun _ s₂ => wpAny (model pr w) A (execs body env) (TurnP h₀ L (I, it) kp (J (i + 1)) s Q) NoE s₂) NoE { s with heap := h, toks := tk })
    (done : ∀ m₁ news₁ h tk, J n m₁ news₁ → (∀ p ∈ news₁, p.1 ≠ I) → Fr h₀ L h m₁ → News h₀ L h news₁ → Q .next { s with heap := h, toks := tk }) :
    ForGo w A target body env Q E (.ref I) s := by
  refine codeAny_forLoop
    (fun c s' => ∃ i h tk m nw, s' = { s with heap := h, toks := tk } ∧ St i h ∧ Fr h₀ L h m ∧ News h₀ L h nw ∧ (∀ q ∈ kp, q ∈ nw) ∧ (∀ p ∈ nw, p.1 ≠ I) ∧ J i m nw ∧ i ≤ n ∧ c = n + 1 - i) ?_ (n + 1)
    ⟨0, s.heap, s.toks, m₀, news, rfl, hst, F, N, hkp, hnI, hj, Nat.zero_le _, rfl⟩ ht
  rintro c s' ⟨i, h, tk, m, nw, rfl, hst', F', N', hkp', hoff, hJ, hin, rfl⟩
  have next : ∀ h₁ : Heap, (∀ b o, b ∉ [I] → h.get? b = some o → h₁.get? b = some o) → Fr h₀ L h₁ m ∧ News h₀ L h₁ nw := fun h₁ hk₁ =>
    ⟨⟨F'.ns.at' fun o e => hk₁ _ o (by simpa using hLI) e, fun b o e => hk₁ b o (by simp only [List.mem_singleton]; intro q; rw [q, h0I] at e; cases e) (F'.keep b o e), F'.above⟩,
      fun p hp => ⟨hk₁ _ _ (by simpa using hoff p hp) (N' p hp).1, (N' p hp).2⟩⟩
  by_cases hlt : i < n
  · refine W.item i _ _ _ hlt hst' fun v h₁ tk₁ hP hst₁ hk₁ => ?_
    obtain ⟨F₁, N₁⟩ := next h₁ hk₁
    obtain ⟨it, hit, hip⟩ := hI _ _ hst₁
    have N₂ : News h₀ L h₁ ((I, it) :: nw) := fun p hp => by
      rcases List.mem_cons.mp hp with rfl | hp
      · exact ⟨hit, Ne.symm hLI, h0I⟩
      · exact N₁ p hp
    refine noE ?_
    refine wpAny_mono (turn i v m nw h₁ tk₁ it hip hlt hP hJ hkp' hoff F₁ N₂) (fun _ s₂ h₂ => noE ?_) fun _ _ x => x
    refine wpAny_mono h₂ (fun f s₃ p => ?_) fun _ _ x => x
    have fin : (∃ h' tk' m' news', s₃ = { s with heap := h', toks := tk' } ∧ Fr h₀ L h' m' ∧ News h₀ L h' ((I, it) :: news') ∧ (∀ q ∈ kp, q ∈ news') ∧ (∀ q ∈ news', q.1 ≠ I) ∧ J (i + 1) m' news') →
        ∃ c', c' < n + 1 - i ∧ ∃ i h tk m nw, s₃ = { s with heap := h, toks := tk } ∧ St i h ∧ Fr h₀ L h m ∧ News h₀ L h nw ∧ (∀ q ∈ kp, q ∈ nw) ∧ (∀ p ∈ nw, p.1 ≠ I) ∧ J i m nw ∧ i ≤ n ∧ c' = n + 1 - i := by
      rintro ⟨h', tk', m', nw', rfl, F₄, N₄, hkp₄, hoff₄, hJ₄⟩
      refine ⟨n + 1 - (i + 1), by omega, i + 1, h', tk', m', nw', rfl, ?_, F₄, fun p hp => N₄ p (.tail _ hp), hkp₄, hoff₄, hJ₄, hlt, rfl⟩
      refine W.frame _ _ _ hst₁ fun b hb o e => ?_
      rcases hfp b hb with rfl | ⟨o', e'⟩ | ⟨o', e'⟩
      · rw [hit] at e; cases e
        exact (N₄ _ (.head _)).1
      · have h1 := F₁.keep b o' e'
        rw [h1] at e; cases e
        exact F₄.keep b _ e'
      · have h1 := (N₁ _ (hkp' _ e')).1
        simp only at h1
        rw [h1] at e; cases e
        exact (N₄ _ (.tail _ (hkp₄ _ e'))).1
    cases f with
    | ret v => exact p
    | brk => exact p
    | next => exact fin p
    | cont => exact fin p
  · have hin' : i = n := by omega
    subst hin'
    refine W.done _ _ _ hst' fun h₁ tk₁ hk₁ => wpAny_execs_nil ?_
    obtain ⟨F₁, N₁⟩ := next h₁ hk₁
    exact done m nw h₁ tk₁ hJ hoff F₁ N₁

theorem for_range {r : Addr} {a₀ b₀ c₀ : Int} {t₀ u₀ v₀ : Tok} {n : Nat} {m₀ : Str → Option Value} {news : List (Addr × Obj)}
    (J : Nat → (Str → Option Value) → List (Addr × Obj) → Prop)
    (hh : A.handled = none) (hr : IsRange s.heap r a₀ b₀ c₀ t₀ u₀ v₀) (hsmall : Builtin.Range.small a₀ b₀ c₀ = true) (hn : Builtin.Range.rangeSize a₀ b₀ c₀ = (n : Int))
    (F : Fr h₀ L s.heap m₀) (N : News h₀ L s.heap news) (hj : J 0 m₀ news) (ht : ∀ I v, letOwnedTupleGo target (.ref I) v = pure ())
    (turn : ∀ I i t m₁ news₁ h tk it, (∀ p ∈ news, p.1 < I) → i < n → J i m₁ news₁ → (∀ p ∈ news₁, p.1 ≠ I) → Fr h₀ L h m₁ → News h₀ L h ((I, it) :: news₁) →
      wpAny (model pr w) A (assign target env (.int (a₀ + (i : Int) * c₀) t)) (fun _ s₂ => wpAny (model pr w) A (execs body env) (TurnP h₀ L (I, it) [] (J (i + 1)) s Q) NoE s₂) NoE { s with heap := h, toks := tk })
    (done : ∀ m₁ news₁ h tk, J n m₁ news₁ → Fr h₀ L h m₁ → News h₀ L h news₁ → Q .next { s with heap := h, toks := tk }) :
    wpAny (model pr w) A (pyIter (.ref r)) (fun it s₂ => ForGo w A target body env Q E it s₂) E s := by
  refine wpAny_pyIter_range hr hsmall ?_
  have W : Walks pr w A s.heap.objs.size [s.heap.objs.size] [s.heap.objs.size] n (fun i v => i < n ∧ ∃ t, v = .int (a₀ + i * c₀) t)
      (fun i h => IsRangeIter h s.heap.objs.size (a₀ + (i : Nat) * c₀) ((n : Int) - (i : Nat)) c₀) := (Walks.range hh _ a₀ c₀ n).bound
  refine for_walk (fun _ => True) [] J W (fun b hb => .inl (List.mem_singleton.mp hb)) (fun _ hq => nomatch hq) (fun i h hst => ⟨_, hst, trivial⟩) (Nat.ne_of_lt F.ns.lt) (next_is_new F) (News.ne_size N) (by show IsRangeIter _ _ _ _ _; rw [hn]; simpa using Heap.get?_push_size _ rfl)
    (F.push _) (fun p hp => ⟨Heap.get?_push_of_some _ (N p hp).1, (N p hp).2⟩) hj (fun v => ht _ v) ?_ ?_
  · rintro i v m₁ news₁ h tk it _ hi ⟨_, t, rfl⟩ hJ _ hne F₁ N₁
    exact turn _ i t m₁ news₁ h tk it (fun p hp => Heap.lt_size (N p hp).1) hi hJ hne F₁ N₁
  · intro m₁ news₁ h tk hJ hne F₁ N₁
    exact done m₁ news₁ h tk hJ F₁ N₁

theorem for_list {l : Addr} {vs : List Value} {nn : Nat} {m₀ : Str → Option Value} {news : List (Addr × Obj)}
    (J : Nat → (Str → Option Value) → List (Addr × Obj) → Prop)
    (hh : A.handled = none) (hl : (l, listOf vs.toArray nn) ∈ news)
    (F : Fr h₀ L s.heap m₀) (N : News h₀ L s.heap news) (hj : J 0 m₀ news) (ht : ∀ I v, letOwnedTupleGo target (.ref I) v = pure ())
    (turn : ∀ I i v m₁ news₁ h tk it, it.cls = .type "list_iterator" → (∀ p ∈ news, p.1 < I) → vs[i]? = some v → J i m₁ news₁ → (l, listOf vs.toArray nn) ∈ news₁ → (∀ p ∈ news₁, p.1 ≠ I) → Fr h₀ L h m₁ → News h₀ L h ((I, it) :: news₁) →
      wpAny (model pr w) A (assign target env v) (fun _ s₂ => wpAny (model pr w) A (execs body env) (TurnP h₀ L (I, it) [(l, listOf vs.toArray nn)] (J (i + 1)) s Q) NoE s₂) NoE { s with heap := h, toks := tk })
    (done : ∀ m₁ news₁ h tk, J vs.length m₁ news₁ → Fr h₀ L h m₁ → News h₀ L h news₁ → Q .next { s with heap := h, toks := tk }) :
    wpAny (model pr w) A (pyIter (.ref l)) (fun it s₂ => ForGo w A target body env Q E it s₂) E s := by
  have hls : s.heap.IsList l vs.toArray := News.isList N hl
  have hlt : l < s.heap.objs.size := Heap.lt_size (N _ hl).1
  have hne : l ≠ s.heap.objs.size := Nat.ne_of_lt hlt
  refine wpAny_pyIter_list hls ?_
  have W := Walks.list (prog := pr) (w := w) hh s.heap.objs.size l hne vs.toArray
  refine for_walk (fun o => o.cls = .type "list_iterator") [(l, listOf vs.toArray nn)] J W ?_ ?_ ?_ (Nat.ne_of_lt F.ns.lt) (next_is_new F) (News.ne_size N) ⟨⟨_, Heap.get?_push_size _ rfl, rfl, rfl⟩, hls.at fun o e => Heap.get?_push_of_some _ e⟩
    (F.push _) (fun p hp => ⟨Heap.get?_push_of_some _ (N p hp).1, (N p hp).2⟩) hj (fun v => ht _ v) ?_ ?_
  · intro b hb
    rcases List.mem_cons.mp hb with e | hb
    · exact .inl e
    · exact .inr (.inr ⟨_, List.mem_singleton.mpr (by rw [List.mem_singleton.mp hb])⟩)
  · intro q hq; rw [List.mem_singleton.mp hq]; exact hl
  · rintro i h ⟨⟨o, e, e2, _⟩, _⟩; exact ⟨o, e, e2⟩
  · rintro i v m₁ news₁ h tk it hip hi hP hJ hkp hne F₁ N₁
    exact turn _ i v m₁ news₁ h tk it hip (fun p hp => Heap.lt_size (N p hp).1) (by simpa using hP) hJ (hkp _ (List.mem_singleton.mpr rfl)) hne F₁ N₁
  · intro m₁ news₁ h tk hJ hne F₁ N₁
    exact done m₁ news₁ h tk (by simpa using hJ) F₁ N₁
end

section
variable {w : World} {A : Around} {E : Value → Shared → Prop} {s : Shared} {h₀ : Heap} {L : Addr} {m : Str → Option Value} {env : Env}
/-- a value stored in a cell of the running function -/
theorem store_cell {x : Str} {px : Pos} {c : Addr} {oc : Obj} {v : Value} {v₀ : Option Value} {pre post : List (Addr × Obj)} {Q : Unit → Shared → Prop} (hk : env.scope.kind = .function) (hx : env.kindOf x = some .cell) (hc : env.cells.lookup x = some c)
    (F : Fr h₀ L s.heap m) (N : News h₀ L s.heap (pre ++ (c, oc) :: post)) (hd : oc.data = .cell v₀) (h1 : ∀ p ∈ pre, p.1 ≠ c) (h2 : ∀ p ∈ post, p.1 ≠ c)
    (h : ∀ h' o', Fr h₀ L h' m → News h₀ L h' (pre ++ (c, o') :: post) → o'.data = .cell (some v) → Q () { s with heap := h' }) : wpAny (model pr w) A (assign (.Name x px) env v) Q E s := by
  have hmem := N (c, oc) (List.mem_append_right _ (.head _))
  refine wpAny_assign_Name (wpAny_storeName_cell hk hx hc ⟨oc, hmem.1, hd⟩ fun h' hv hs => ?_)
  obtain ⟨o', ho', hd'⟩ := hv
  refine h h' o' (F.change hs hmem.2.1 hmem.2.2) (news_set N h1 h2 hs ho') hd'
end
end Foata

namespace Foata
section
variable {w : World} {A : Around} {E : Value → Shared → Prop} {s : Shared} {h₀ : Heap} {L : Addr} {m : Str → Option Value} {news : List (Addr × Obj)}
theorem f_set {D : Addr} {vs : List Value} {n k : Nat} {u : Tok} {x : Value} {pre post : List (Addr × Obj)} {Q : Unit → Shared → Prop} (Fm : Fr h₀ L s.heap m) (N : News h₀ L s.heap (pre ++ (D, listOf vs.toArray n) :: post))
    (h1 : ∀ p ∈ pre, p.1 ≠ D) (h2 : ∀ p ∈ post, p.1 ≠ D) (hk : k < vs.length) (hfit : k < 2 ^ 62)
    (h : ∀ h', Fr h₀ L h' m → News h₀ L h' (pre ++ (D, listOf (vs.set k x).toArray n) :: post) → Q () { s with heap := h' }) :
    wpAny (model pr w) A (setItem (.ref D) (.int ((k : Nat) : Int) u) x) Q E s := by
  have z := N (D, listOf vs.toArray n) (List.mem_append.mpr (.inr (.head _)))
  refine ki_setAt z.1 (by omega) (by omega) (by rw [List.size_toArray]; omega) ?_
  refine h _ (Fm.change (Heap.SameBut.update ..) z.2.1 z.2.2) (news_set N h1 h2 (Heap.SameBut.update ..) ?_)
  have e : Obj.mapSeq (fun xs : Array Value => xs.setIfInBounds ((k : Nat) : Int).toNat x) (listOf vs.toArray n) = listOf (vs.set k x).toArray n := by
    simp only [Obj.mapSeq, Int.toNat_natCast, List.setIfInBounds_toArray]
    rw [if_pos]
    simp
  rw [Heap.get?_update_self _ z.1 (by rw [e]; rfl), e]
theorem f_last {value slice : PySem.Expr} {l : Addr} {vs : List Value} {n : Nat} {u : Tok} {v : Value} {Q : Value → Shared → Prop}
    (N : News h₀ L s.heap news) (hl : (l, listOf vs.toArray n) ∈ news) (hx : vs.getLast? = some v) (h : Q v s)
    (hs : subscripted slice false (.ref l) (.int (-1) u) = operate [.ref l, .int (-1) u] (getItem (.ref l) (.int (-1) u)) := by with_unfolding_all rfl) :
    wpAny (model pr w) A (subscriptTail value slice (.ref l) (.int (-1) u)) Q E s := by
  have hlen : 0 < vs.length := by cases vs with
    | nil => simp at hx
    | cons => simp
  refine kde_neg (News.isList N hl) (by decide) (by decide) (j := vs.length - 1) ?_ (by rw [List.getLast?_eq_getElem?] at hx; exact hx) h hs
  rw [PySem.seqIndex_neg (by decide) (by omega)]
  congr 1
  omega
end
end Foata
namespace Foata
section
variable {w : World} {A : Around} {E : Value → Shared → Prop} {s : Shared} {h₀ : Heap} {L : Addr} {env : Env} {Q : Value → Shared → Prop}
theorem f_free {y : Str} {py : Pos} {c : Addr} {o : Obj} {v : Value} {news : List (Addr × Obj)} (N : News h₀ L s.heap news) (hk : env.scope.kind = .function) (hx : env.kindOf y = some .free) (hc : env.cells.lookup y = some c) (hm : (c, o) ∈ news) (hd : o.data = .cell (some v))
    (hb : (y == ("__debug__" : Str)) = false) (hn : (y == ("__classdict__" : Str)) = false) (h : Q v s) : wpAny (model pr w) A (eval (.Name y py) env) Q E s := wpAny_Name (wpAny_loadName_free hk hx hc ⟨o, (N _ hm).1, hd⟩ h hn) hb
end
end Foata
end
/-! FNest -/
section
open PySem PySem.W PySem.Calls PyProof.Rows
set_option maxRecDepth 100000
set_option maxHeartbeats 8000000
namespace Foata
open LCg (NsObj) in
section
variable {w : World} {A : Around} {s : Shared} {h₀ : Heap} {L : Addr} {m : Str → Option Value} {env : Env} {Q : Value → Shared → Prop}

/-- what the second source of a comprehension with two clauses hands over -/
def Src2 (w : World) (A : Around) (elt : PySem.Expr) (y : Str) (cenv : Env) (h₀ : Heap) (L : Addr) (m : Str → Option Value) (s : Shared) (lp Ip cp : Addr × Obj) (C D : Addr) (oC : Obj) (acc : List Value) (k : Nat) (Jn : List Value → List (Addr × Obj) → Prop) (xv : Value) (s₁ : Shared) : Prop :=
  ∃ (b : Addr) (us : List Value) (kb : Nat) (h' : Heap) (tk' : Nat) (nw' : List (Addr × Obj)) (J2 : Nat → List Value → List (Addr × Obj) → Prop), xv = .ref b ∧ s₁ = { s with heap := h', toks := tk' } ∧ Fr h₀ L h' m ∧
    News h₀ L h' (Ip :: cp :: (C, oC) :: (D, listOf acc.toArray k) :: nw') ∧ (b, listOf us.toArray kb) ∈ nw' ∧ lp ∈ nw' ∧ (∀ q ∈ nw', q.1 ≠ Ip.1 ∧ q.1 ≠ cp.1 ∧ q.1 ≠ C ∧ q.1 ≠ D) ∧ acc.length + us.length ≤ 16777216 ∧
    J2 0 acc nw' ∧ (∀ acc' nw'', J2 us.length acc' nw'' → Jn acc' nw'') ∧
    ∀ I2 it2 oC2 mC2 k' j v2 acc' nw'' h tk, us[j]? = some v2 → J2 j acc' nw'' → (b, listOf us.toArray kb) ∈ nw'' → lp ∈ nw'' → (∀ q ∈ nw'', q.1 ≠ I2 ∧ q.1 ≠ Ip.1 ∧ q.1 ≠ cp.1 ∧ q.1 ≠ C ∧ q.1 ≠ D) → NsObj oC2 mC2 → mC2 y = some v2 → Fr h₀ L h m →
      News h₀ L h ((I2, it2) :: cp :: (C, oC2) :: (D, listOf acc'.toArray k') :: Ip :: nw'') →
      wpAny (model pr w) A (eval elt cenv) (fun yv s₄ => Stop (∃ h' tk' nw3, s₄ = { s with heap := h', toks := tk' } ∧ Fr h₀ L h' m ∧ News h₀ L h' ((I2, it2) :: cp :: (C, oC2) :: (D, listOf acc'.toArray k') :: Ip :: nw3) ∧
        (b, listOf us.toArray kb) ∈ nw3 ∧ lp ∈ nw3 ∧ (∀ q ∈ nw3, q.1 ≠ I2 ∧ q.1 ≠ Ip.1 ∧ q.1 ≠ cp.1 ∧ q.1 ≠ C ∧ q.1 ≠ D) ∧ J2 (j + 1) (acc' ++ [yv]) nw3)) NoE { s with heap := h, toks := tk }

/-- [elt for x in l for y in iter2], x a cell -/
theorem comp2K {elt iter iter2 : PySem.Expr} {x y : Str} {px py : Pos} {scope : Scope} {pos : Pos} {cl : List (Str × Addr)} {l : Addr} {vs : List Value} {nn : Nat} {news : List (Addr × Obj)}
    (J : Nat → List Value → List (Addr × Obj) → Prop)
    (hh : A.handled = none) (hcf : ∀ n, cellsFrom n scope.names cl = (x, n) :: cl) (hpc : ∀ h : Heap, pushCells h scope.names = h.push (cellObj none)) (hkind : scope.kind = .function) (hx : (relabel scope env).names.lookup x = some .cell)
    (hy : scope.names.lookup y = some .local) (hl : (l, listOf vs.toArray nn) ∈ news) (F : Fr h₀ L s.heap m) (N : News h₀ L s.heap news) (hj : J 0 [] news)
    (hs2 : ∀ env' x, foldedSetIterable iter2 env' x = pure x)
    (turn : ∀ c C D I it oc oC mC k i v acc nw h tk, (∀ p ∈ news, p.1 < D) → I < D → D < C → C < c → vs[i]? = some v → J i acc nw → (l, listOf vs.toArray nn) ∈ nw → (∀ q ∈ nw, q.1 ≠ I ∧ q.1 ≠ c ∧ q.1 ≠ C ∧ q.1 ≠ D) → oc.data = .cell (some v) → NsObj oC mC → Fr h₀ L h m →
      News h₀ L h ((I, it) :: (c, oc) :: (C, oC) :: (D, listOf acc.toArray k) :: nw) →
      wpAny (model pr w) A (eval iter2 (compEnvC scope ((x, c) :: cl) C env)) (Src2 w A elt y (compEnvC scope ((x, c) :: cl) C env) h₀ L m s (l, listOf vs.toArray nn) (I, it) (c, oc) C D oC acc k (J (i + 1))) NoE { s with heap := h, toks := tk })
    (done : ∀ D acc k nw h tk, (∀ p ∈ news, p.1 < D) → J vs.length acc nw → (∀ q ∈ nw, q.1 ≠ D) → Fr h₀ L h m → News h₀ L h ((D, listOf acc.toArray k) :: nw) → Q (.ref D) { s with heap := h, toks := tk }) :
    wpAny (model pr w) A (pyIter (.ref l)) (fun it s₂ => CompGo w A (.ListComp elt [⟨.Name x px, iter, [], 0⟩, ⟨.Name y py, iter2, [], 0⟩] scope pos) scope cl env Q it s₂) NoE s := by
  have hls : s.heap.IsList l vs.toArray := News.isList N hl
  have hlt : l < s.heap.objs.size := Heap.lt_size (N _ hl).1
  refine wpAny_pyIter_list hls ?_
  have W := Walks.list (prog := pr) (w := w) hh s.heap.objs.size l (Nat.ne_of_lt hlt) vs.toArray
  have ltI : ∀ p ∈ news, p.1 < s.heap.objs.size := fun p hp => Heap.lt_size (N p hp).1
  have F₀ := F.push { cls := .type "list_iterator", data := .fields #[.ref l, .int 0 0] }
  have N₀ : News h₀ L (s.heap.push { cls := .type "list_iterator", data := .fields #[.ref l, .int 0 0] }) news := fun p hp => ⟨Heap.get?_push_of_some _ (N p hp).1, (N p hp).2⟩
  have hst : (fun i h => Heap.IsListIter h s.heap.objs.size l i ∧ Heap.IsList h l vs.toArray) 0 (s.heap.push { cls := .type "list_iterator", data := .fields #[.ref l, .int 0 0] }) :=
    ⟨⟨_, Heap.get?_push_size _ rfl, rfl, rfl⟩, hls.at fun o e => Heap.get?_push_of_some _ e⟩
  have hIn := next_is_new F
  have hIL : L ≠ s.heap.objs.size := Nat.ne_of_lt F.ns.lt
  have hsize : (s.heap.push { cls := .type "list_iterator", data := .fields #[.ref l, .int 0 0] }).objs.size = s.heap.objs.size + 1 := Heap.size_push ..
  generalize hIe : s.heap.objs.size = I at *
  refine compGo_ofK (P := (fun i h => Heap.IsListIter h I l i ∧ Heap.IsList h l vs.toArray) 0) rfl hcf hpc F₀ N₀ hst (fun h h' st k => W.frame _ _ _ st fun b _ o e => k b o e) (fun s' Q' st hq => W.self 0 s' Q' NoE st hq) ?_
  rintro c C D oC h₁ tk hD hltD hDC hCc hns hst₁ F₁ N₁
  have hID : I < D := by rw [hD, hsize]; exact Nat.lt_succ_self _
  have mem2 : ∀ a : Addr, a ∉ [c, C] ↔ a ≠ c ∧ a ≠ C := fun a => by simp
  refine compLoopD (cx₀ := [(c, cellObj none), (C, oC)]) (acc₀ := []) [(l, listOf vs.toArray nn)] [c, C] (fun cx => ∃ oc oC mC v₀, cx = [(c, oc), (C, oC)] ∧ oc.data = .cell v₀ ∧ NsObj oC mC) (fun v cx => ∃ oc oC mC, cx = [(c, oc), (C, oC)] ∧ oc.data = .cell (some v) ∧ NsObj oC mC) J
    rfl (turn_two0 ..) (fun _ => rfl) W ?_ ?_ ?_ hIn hIL hst₁ ?_ ?_ ?_ ?_ (Nat.ne_of_lt hID) ?_ F₁ N₁ ⟨_, oC, _, none, rfl, rfl, hns⟩ ?_ hj ?_ ?_
  · intro b hb
    rcases List.mem_cons.mp hb with e | hb
    · exact .inl e
    · exact .inr (.inr ⟨_, List.mem_singleton.mpr (by rw [List.mem_singleton.mp hb])⟩)
  · intro q hq; rw [List.mem_singleton.mp hq]; exact hl
  · rintro i h ⟨⟨o, e, _⟩, _⟩; exact ⟨o, e⟩
  · rintro cx ⟨oc, oC, mC, _, rfl, _⟩; rfl
  · rintro v cx ⟨oc, oC, mC, rfl, _⟩; rfl
  · rw [mem2]; exact ⟨Nat.ne_of_lt (Nat.lt_trans hID (Nat.lt_trans hDC hCc)), Nat.ne_of_lt (Nat.lt_trans hID hDC)⟩
  · rw [mem2]; exact ⟨Nat.ne_of_lt (Nat.lt_trans hDC hCc), Nat.ne_of_lt hDC⟩
  · rintro v cx pre post s' Q' ⟨oc, oC, mC, v₀, rfl, hoc, hns⟩ F₂ N₂ h1 h2 hq
    refine storeK (pre := pre) (post := (C, oC) :: post) hx hkind (by simp) F₂ N₂ hoc (fun p hp => ((mem2 _).mp (h1 p hp)).1) (fun p hp => ?_) fun h' tk' oc' hoc' F₃ N₃ => hq h' tk' [(c, oc'), (C, oC)] ⟨oc', oC, mC, rfl, hoc', hns⟩ F₃ N₃
    rcases List.mem_cons.mp hp with rfl | hp
    · exact Nat.ne_of_lt hCc
    · exact ((mem2 _).mp (h2 p hp)).1
  · intro q hq
    exact ⟨Nat.ne_of_lt (ltI q hq), (mem2 _).mpr ⟨Nat.ne_of_lt (Nat.lt_trans (hltD q hq) (Nat.lt_trans hDC hCc)), Nat.ne_of_lt (Nat.lt_trans (hltD q hq) hDC)⟩, Nat.ne_of_lt (hltD q hq)⟩
  · rintro i v acc k cx nw h tk it hi hP hJ hkp' hoff ⟨oc, oC, mC, rfl, hoc, hns⟩ F₂ N₂
    refine wpAny_tests_nil ?_
    rw [if_pos rfl]
    refine nest_rule hh ?_ (hs2 _)
    have hoff' : ∀ q ∈ nw, q.1 ≠ I ∧ q.1 ≠ c ∧ q.1 ≠ C ∧ q.1 ≠ D := fun q hq => ⟨(hoff q hq).1, ((mem2 _).mp (hoff q hq).2.1).1, ((mem2 _).mp (hoff q hq).2.1).2, (hoff q hq).2.2⟩
    refine wpAny_mono (turn c C D I it oc oC mC k i v acc nw h tk hltD hID hDC hCc (by simpa using hP) hJ (hkp' _ (List.mem_singleton.mpr rfl)) hoff' hoc hns F₂ N₂) (fun xv s₁ h₁ => ?_) fun _ _ x => x
    obtain ⟨b, us, kb, h2, tk2, nw2, J2, rfl, rfl, F3, N3, hbm, hlm, hoff3, hsz3, hJ20, hJ2n, turn2⟩ := h₁
    have hbm' : (b, listOf us.toArray kb) ∈ (I, it) :: (c, oc) :: (C, oC) :: (D, listOf acc.toArray k) :: nw2 := .tail _ (.tail _ (.tail _ (.tail _ hbm)))
    have hls2 : h2.IsList b us.toArray := News.isList N3 hbm'
    have hlt2 : b < h2.objs.size := Heap.lt_size (N3 _ hbm').1
    refine wpAny_pyIter_list hls2 ?_
    have W2 := Walks.list (prog := pr) (w := w) hh h2.objs.size b (Nat.ne_of_lt hlt2) us.toArray
    have hIn2 := next_is_new F3
    have hIL2 : L ≠ h2.objs.size := Nat.ne_of_lt F3.ns.lt
    have lt2 : ∀ p ∈ (I, it) :: (c, oc) :: (C, oC) :: (D, listOf acc.toArray k) :: nw2, p.1 < h2.objs.size := fun p hp => Heap.lt_size (N3 p hp).1
    refine ⟨fun s' => s' = ({ s with heap := h2.push { cls := .type "list_iterator", data := .fields #[.ref b, .int 0 0] }, toks := tk2 } : Shared), rfl, ?_, ?_⟩
    · rintro s' Q'' rfl hq
      exact W2.self 0 _ _ _ ⟨⟨_, Heap.get?_push_size _ rfl, rfl, rfl⟩, hls2.at fun o e => Heap.get?_push_of_some _ e⟩ hq
    · rintro s' rfl
      have F4 := F3.push { cls := .type "list_iterator", data := .fields #[.ref b, .int 0 0] }
      have N4 : News h₀ L (h2.push { cls := .type "list_iterator", data := .fields #[.ref b, .int 0 0] }) ([(c, oc), (C, oC)] ++ (D, listOf acc.toArray k) :: ((I, it) :: nw2)) := fun p hp => by
        have hp' : p ∈ (I, it) :: (c, oc) :: (C, oC) :: (D, listOf acc.toArray k) :: nw2 := by
          simp only [List.mem_cons, List.mem_append, List.not_mem_nil, or_false] at hp ⊢; grind
        exact ⟨Heap.get?_push_of_some _ (N3 p hp').1, (N3 p hp').2⟩
      have hst2 : (fun i h' => Heap.IsListIter h' h2.objs.size b i ∧ Heap.IsList h' b us.toArray) 0 (h2.push { cls := .type "list_iterator", data := .fields #[.ref b, .int 0 0] }) :=
        ⟨⟨_, Heap.get?_push_size _ rfl, rfl, rfl⟩, hls2.at fun o e => Heap.get?_push_of_some _ e⟩
      have hI2I : h2.objs.size ≠ I := Nat.ne_of_gt (lt2 (I, it) (.head _))
      have hI2c : h2.objs.size ≠ c := Nat.ne_of_gt (lt2 (c, oc) (.tail _ (.head _)))
      have hI2C : h2.objs.size ≠ C := Nat.ne_of_gt (lt2 (C, oC) (.tail _ (.tail _ (.head _))))
      have hI2D : h2.objs.size ≠ D := Nat.ne_of_gt (lt2 (D, listOf acc.toArray k) (.tail _ (.tail _ (.tail _ (.head _)))))
      have hIc : I ≠ c := Nat.ne_of_lt (Nat.lt_trans hID (Nat.lt_trans hDC hCc))
      have hIC : I ≠ C := Nat.ne_of_lt (Nat.lt_trans hID hDC)
      generalize hI2e : h2.objs.size = I2 at *
      refine compLoopD (s := ({ s with heap := h2.push { cls := .type "list_iterator", data := .fields #[.ref b, .int 0 0] }, toks := tk2 } : Shared)) (cx₀ := [(c, oc), (C, oC)]) (acc₀ := acc) [(b, listOf us.toArray kb)] [c, C] (fun cx => ∃ oC mC, cx = [(c, oc), (C, oC)] ∧ NsObj oC mC) (fun v cx => ∃ oC mC, cx = [(c, oc), (C, oC)] ∧ NsObj oC mC ∧ mC y = some v)
        (fun j acc' nw' => ∃ nwx, nw' = (I, it) :: nwx ∧ J2 j acc' nwx ∧ (b, listOf us.toArray kb) ∈ nwx ∧ (l, listOf vs.toArray nn) ∈ nwx ∧ (∀ q ∈ nwx, q.1 ≠ I2 ∧ q.1 ≠ I ∧ q.1 ≠ c ∧ q.1 ≠ C ∧ q.1 ≠ D) ∧ acc'.length ≤ acc.length + j)
        rfl (turn_two1 ..) (fun _ => rfl) W2 ?_ ?_ ?_ hIn2 hIL2 hst2 ?_ ?_ ?_ ?_ hI2D ?_ F4 N4 ⟨oC, _, rfl, hns⟩ ?_ ⟨nw2, rfl, hJ20, hbm, hlm, ?_, Nat.le_refl _⟩ ?_ ?_
      · intro b' hb'
        rcases List.mem_cons.mp hb' with e | hb'
        · exact .inl e
        · exact .inr (.inr ⟨_, List.mem_singleton.mpr (by rw [List.mem_singleton.mp hb'])⟩)
      · intro q hq; rw [List.mem_singleton.mp hq]; exact .tail _ hbm
      · rintro i h ⟨⟨o, e, _⟩, _⟩; exact ⟨o, e⟩
      · rintro cx ⟨oC, mC, rfl, _⟩; rfl
      · rintro v cx ⟨oC, mC, rfl, _⟩; rfl
      · rw [mem2]; exact ⟨hI2c, hI2C⟩
      · rw [mem2]; exact ⟨Nat.ne_of_lt (Nat.lt_trans hDC hCc), Nat.ne_of_lt hDC⟩
      · rintro v cx pre post s' Q' ⟨oC, mC, rfl, hns⟩ F5 N5 h1 h2 hq
        refine storeC (pre := pre ++ [(c, oc)]) hy hkind F5 (by rw [List.append_assoc]; exact N5) hns ?_ (fun p hp => ((mem2 _).mp (h2 p hp)).2) fun h' tk' oC' hns' F6 N6 => hq h' tk' _ ⟨oC', _, rfl, hns', if_pos rfl⟩ F6 (by rw [List.append_assoc] at N6; exact N6)
        intro p hp
        rcases List.mem_append.mp hp with hp | hp
        · exact ((mem2 _).mp (h1 p hp)).2
        · rw [List.mem_singleton.mp hp]; exact Nat.ne_of_gt hCc
      · intro q hq
        rcases List.mem_cons.mp hq with rfl | hq
        · exact ⟨hI2I.symm, (mem2 _).mpr ⟨hIc, hIC⟩, Nat.ne_of_lt hID⟩
        · exact ⟨Nat.ne_of_lt (lt2 q (.tail _ (.tail _ (.tail _ (.tail _ hq))))), (mem2 _).mpr ⟨(hoff3 q hq).2.1, (hoff3 q hq).2.2.1⟩, (hoff3 q hq).2.2.2⟩
      · intro q hq
        exact ⟨Nat.ne_of_lt (lt2 q (.tail _ (.tail _ (.tail _ (.tail _ hq))))), hoff3 q hq⟩
      · rintro j v acc' k' cx nw' h5 tk5 it5 hj5 hP5 ⟨nwx, rfl, hJ5, hb5, hl5, ho5, hlen5⟩ hkp5 hoff5 ⟨oC5, mC5, rfl, hns5, hmx5⟩ F5 N5
        refine wpAny_tests_nil ?_
        rw [if_pos rfl]
        show wpAny _ _ (eval elt (compEnvC scope ((x, c) :: cl) C env) >>= fun y => call (.builtin "list.append") [.ref D, y] >>= fun _ => pure ()) _ _ _
        have hj' : j < us.length := by simpa using hj5
        refine wpAny_bind (wpAny_mono (turn2 I2 it5 oC5 mC5 k' j v acc' nwx h5 tk5 (by simpa using hP5) hJ5 hb5 hl5 ho5 hns5 hmx5 F5 N5) (fun yv s₄ h₄ => ?_) fun _ _ x => x)
        obtain ⟨h6, tk6, nw6, rfl, F6, N6, hb6, hl6, ho6, hJ6⟩ := h₄
        refine wpAny_bind (f_append (pre := [(I2, it5), (c, oc), (C, oC5)]) (post := (I, it) :: nw6) F6 N6 ?_ ?_ (by rw [List.size_toArray]; omega) fun h7 F7 N7 => wpAny_pure ?_)
        · intro p hp
          simp only [List.mem_cons, List.not_mem_nil, or_false] at hp
          rcases hp with rfl | rfl | rfl
          · exact hI2D
          · exact Nat.ne_of_gt (Nat.lt_trans hDC hCc)
          · exact Nat.ne_of_gt hDC
        · intro p hp
          rcases List.mem_cons.mp hp with rfl | hp
          · exact Nat.ne_of_lt hID
          · exact (ho6 p hp).2.2.2.2
        · rw [List.push_toArray] at N7
          refine ⟨h7, tk6, (I, it) :: nw6, _, _, [(c, oc), (C, oC5)], rfl, F7, N7, ?_, ?_, ⟨oC5, mC5, rfl, hns5⟩, nw6, rfl, hJ6, hb6, hl6, ho6, by rw [List.length_append, List.length_singleton]; omega⟩
          · intro q hq; rw [List.mem_singleton.mp hq]; exact .tail _ hb6
          · intro q hq
            rcases List.mem_cons.mp hq with rfl | hq
            · exact ⟨hI2I.symm, (mem2 _).mpr ⟨hIc, hIC⟩, Nat.ne_of_lt hID⟩
            · exact ⟨(ho6 q hq).1, (mem2 _).mpr ⟨(ho6 q hq).2.2.1, (ho6 q hq).2.2.2.1⟩, (ho6 q hq).2.2.2.2⟩
      · rintro acc' k' cx nw' h5 tk5 ⟨nwx, rfl, hJ5, hb5, hl5, ho5, hlen5⟩ hkp5 hoff5 ⟨oC5, mC5, rfl, hns5⟩ F5 N5
        refine ⟨rfl, h5, tk5, nwx, acc', k', [(c, oc), (C, oC5)], rfl, F5, ?_, ?_, ?_, ⟨oc, oC5, mC5, _, rfl, hoc, hns5⟩, ?_⟩
        · intro p hp
          refine N5 p ?_
          simp only [List.mem_cons, List.mem_append, List.not_mem_nil, or_false] at hp ⊢; grind
        · intro q hq; rw [List.mem_singleton.mp hq]; exact hl5
        · intro q hq
          exact ⟨(ho5 q hq).2.1, (mem2 _).mpr ⟨(ho5 q hq).2.2.1, (ho5 q hq).2.2.2.1⟩, (ho5 q hq).2.2.2.2⟩
        · exact hJ2n acc' nwx (by simpa using hJ5)
  · rintro acc k cx nw h tk hJ hkp' hoff ⟨oc, oC, mC, v₀, rfl, hoc, hns⟩ F₂ N₂
    refine ⟨mC, hns.ns (N₂ _ (.tail _ (.head _))).1, fun h' hs' => ?_⟩
    have z := N₂ _ (.tail _ (.head _))
    refine done D acc k nw h' tk hltD (by simpa using hJ) (fun q hq => (hoff q hq).2.2) (F₂.change hs' z.2.1 z.2.2) fun p hp => ?_
    have z' := N₂ p (.tail _ (.tail _ hp))
    refine ⟨(hs'.2 p.1 ?_).trans z'.1, z'.2⟩
    rcases List.mem_cons.mp hp with rfl | hp
    · exact Nat.ne_of_lt hDC
    · exact ((mem2 _).mp (hoff p hp).2.1).2
end
end Foata
end
/-! FDict -/
section
open PySem PySem.W PySem.Calls PyProof.Rows
set_option maxRecDepth 100000
set_option maxHeartbeats 8000000
namespace Foata
open Sem (wp)
/-- a plain dict as it lies in the heap -/
abbrev dictO (es : Array DictEntry) (ep : Nat) : Obj := { cls := .type "dict", data := .dict es ep }
theorem dictO_of {o : Obj} {es : Array DictEntry} {ep : Nat} (h : o.ExactDict) (hd : o.data = .dict es ep) : o = dictO es ep := by
  obtain ⟨c, d, da, sl⟩ := o
  obtain ⟨h1, h2, h3⟩ := h
  simp only at h1 h2 h3 hd
  subst h1 h2 h3 hd
  rfl
section
variable {w : World} {A : Around} {E : Value → Shared → Prop} {s : Shared} {d : Addr} {es : Array DictEntry} {ep : Nat}

theorem raw_items (hd : (d == sysModules) = false) (ho : s.heap.get? d = some (dictO es ep)) {Q : Value → Shared → Prop}
    (h : Q (.ref s.heap.objs.size) { s with heap := s.heap.push { cls := .type "dict_items", data := .fields #[.ref d] } }) :
    wpAny (model pr w) A (call (.builtin "dict.items") [.ref d]) Q E s := by
  have hT : s.TypeIs (.ref d) "dict" := ⟨_, ho, rfl⟩
  refine wpAny_call_entry F.slot_dict_items hT F.entry_dict_items ?_ (F.args_dict_items_1 _)
  unfold Builtin.«dict.items»
  refine wpAny_bind ?_
  unfold Builtin.Dict.noArgs
  refine wpAny_bind (wpAny_notOrdered_dict hT ?_)
  show wpAny _ _ (pure d) _ _ s
  refine wpAny_pure ?_
  show wpAny _ _ (Builtin.Dict.showsAll d >>= _) _ _ s
  unfold Builtin.Dict.showsAll
  rw [if_neg (by rw [hd]; exact Bool.false_ne_true)]
  refine wpAny_bind (wpAny_pure ?_)
  exact wpAny_bind (wpAny_newObj_type (wpAny_pure ⟨_, rfl, h⟩))

theorem raw_values (hd : (d == sysModules) = false) (ho : s.heap.get? d = some (dictO es ep)) {Q : Value → Shared → Prop}
    (h : Q (.ref s.heap.objs.size) { s with heap := s.heap.push { cls := .type "dict_values", data := .fields #[.ref d] } }) :
    wpAny (model pr w) A (call (.builtin "dict.values") [.ref d]) Q E s := by
  have hT : s.TypeIs (.ref d) "dict" := ⟨_, ho, rfl⟩
  refine wpAny_call_entry F.slot_dict_values hT F.entry_dict_values ?_ (F.args_dict_values_1 _)
  refine wpAny_bind ?_
  unfold Builtin.Dict.noArgs
  refine wpAny_bind (wpAny_notOrdered_dict hT ?_)
  show wpAny _ _ (pure d) _ _ s
  refine wpAny_pure ?_
  show wpAny _ _ (Builtin.Dict.showsAll d >>= _) _ _ s
  unfold Builtin.Dict.showsAll
  rw [if_neg (by rw [hd]; exact Bool.false_ne_true)]
  refine wpAny_bind (wpAny_pure ?_)
  exact wpAny_bind (wpAny_newObj_type (wpAny_pure ⟨_, rfl, h⟩))

theorem raw_iter_items {v : Addr} {Q : Value → Shared → Prop} (hv : s.heap.get? v = some { cls := .type "dict_items", data := .fields #[.ref d] }) (ho : s.heap.get? d = some (dictO es ep))
    (hQ : Q (.ref s.heap.objs.size) { s with heap := s.heap.push { cls := .type "dict_itemiterator", data := .fields #[.none, .bool false, .ref d, .int 0 0, .int es.size 0, .int ep 0, .none, .none] } }) :
    wpAny (model pr w) A (pyIter (.ref v)) Q E s := by
  have hT : s.TypeIs (.ref v) "dict_items" := ⟨_, hv, rfl⟩
  refine wpAny_pyIter_slot hT F.slot_dict_items_iter (wpAny_call_entry F.slot_dict_items_iter hT F.entry_dict_items_iter ?_ (F.args_dict_items_iter_1 _))
  unfold Builtin.«dict_items.__iter__»
  refine wpAny_bind (wpAny_pure ?_)
  refine wpAny_bind ?_
  unfold Builtin.Dict_items.dictOf
  refine wpAny_bind (wpAny_field hv rfl (x := .ref d) rfl (wpAny_pure ?_))
  refine wpAny_bind ?_
  unfold Builtin.Dict_items.newIterator
  refine wpAny_bind (wpAny_dictEntries ho rfl ?_)
  refine wpAny_bind (wpAny_dictEpoch ho rfl ?_)
  have hown : Builtin.Dict_items.ownsTuple "dict_itemiterator" = true := by decide
  simp only [hown, if_true]
  refine wpAny_newObj_type (wpAny_pure ⟨_, rfl, "dict_itemiterator", _, ⟨_, Heap.get?_push_size _ rfl, rfl⟩, F.slot_dict_itemiterator_next.lookup, ?_⟩)
    (by simp only [sizeOk, Builtin.Dict_items.ownedTupleFields, List.size_toArray, List.length_append, List.length_cons, List.length_nil, sizeLine_eq]; omega)
  simpa [rawInt, Builtin.Dict_items.ownedTupleFields] using hQ

theorem raw_next_items {it : Addr} {i : Nat} {ok ov : Value} {Q : Option Value → Shared → Prop} (hit : IsItemIter s.heap it d i es.size ep ok ov)
    (hod : s.heap.get? d = some (dictO es ep)) (hi : i < es.size)
    (hQ : ∀ h', IsItemIterOut h' it d (i + 1) es.size ep es[i].key es[i].val s.heap.objs.size →
      h'.get? s.heap.objs.size = some { cls := .type "tuple", data := .seq #[es[i].key, es[i].val] } → h'.objs.size = s.heap.objs.size + 1 →
      (∀ b o, b ≠ it → s.heap.get? b = some o → h'.get? b = some o) → Q (some (.ref s.heap.objs.size)) { s with heap := h' }) :
    wpAny (model pr w) A (pyNext (.ref it)) Q E s := by
  obtain ⟨hp, g, dr, tk, os⟩ := s
  have hT : Shared.TypeIs ⟨hp, g, dr, tk, os⟩ (.ref it) "dict_itemiterator" := ⟨_, hit, rfl⟩
  unfold pyNext
  refine wpAny_bind (wpAny_attempt (wpAny_callSpecial?_slot (name := Str.ofString "__next__") hT F.slot_dict_itemiterator_next
    (wpAny_call_entry F.slot_dict_itemiterator_next hT F.entry_dict_itemiterator_next ?_ (F.args_dict_itemiterator_next_1 _))))
  refine wpAny_bind (wpAny_pure ?_)
  refine wpAny_bind ?_
  refine wpAny_bind ?_
  first | refine wpAny_bind (wpAny_typeNameOfWhole_itemiter hT (wpAny_pure ?_)) | refine wpAny_bind (wpAny_typeNameOf_itemiter hT (wpAny_pure ?_))
  refine wpAny_bind (wpAny_fieldsOf hit rfl ?_)
  have hown : Builtin.Dict_items.ownsTuple "dict_itemiterator" = true := by decide
  simp only [hown, if_true]
  show wpAny _ _ (if (Value.ref d == Value.none) = true then _ else _) _ _ _
  rw [if_neg (show ¬ ((Value.ref d == Value.none) = true) from Bool.false_ne_true)]
  refine wpAny_bind (wpAny_pure ?_)
  refine wpAny_bind (wpAny_dictEntries hod rfl ?_)
  rw [if_neg (by simp)]
  refine wpAny_bind (wpAny_pure ?_)
  refine wpAny_bind (wpAny_dictEpoch hod rfl ?_)
  rw [if_neg (by simp)]
  refine wpAny_pure ?_
  simp only [show ¬ ((i : Int) < 0) from by omega, if_false, Int.toNat_natCast, Array.getElem?_eq_getElem hi]
  refine wpAny_bind ?_
  first | refine wpAny_bind (wpAny_typeNameOfWhole_itemiter hT (wpAny_pure ?_)) | refine wpAny_bind (wpAny_typeNameOf_itemiter hT (wpAny_pure ?_))
  refine wpAny_bind (wpAny_isOneOf_itemiter hT ?_)
  show wpAny _ _ (setField (.ref it) 3 (rawInt ((i : Int) + 1)) >>= _) _ _ ⟨hp, g, dr, tk, os⟩
  refine wpAny_bind (wpAny_setField_rec hit (by simp) fun h₁ he₁ hs₁ => ?_)
  replace hs₁ : Heap.SameBut it hp h₁ := hs₁
  replace he₁ : IsItemIter h₁ it d (i + 1) es.size ep ok ov := by
    have e : ((i + 1 : Nat) : Int) = (i : Int) + 1 := by omega
    unfold IsItemIter; rw [e]; simpa [rawInt] using he₁
  have hT₁ : Shared.TypeIs ⟨h₁, g, dr, tk, os⟩ (.ref it) "dict_itemiterator" := ⟨_, he₁, rfl⟩
  refine wpAny_bind (wpAny_holding ?_)
  refine wpAny_bind (wpAny_isOneOf_itemiter hT₁ ?_)
  refine wpAny_bind (wpAny_isOneOf_itemiter hT₁ ?_)
  show wpAny _ _ (Builtin.Dict_items.pairFromOwner (.ref it) 6 es[i].key es[i].val) _ _ ⟨h₁, g, dr, tk, os⟩
  unfold Builtin.Dict_items.pairFromOwner
  refine wpAny_bind (wpAny_newTuple ?_)
  have he₂ : IsItemIter (h₁.push { cls := .type "tuple", data := .seq #[es[i].key, es[i].val] }) it d (i + 1) es.size ep ok ov := Heap.get?_push_of_some _ he₁
  generalize hh₂ : h₁.push { cls := .type "tuple", data := .seq #[es[i].key, es[i].val] } = h₂ at he₂
  have hz₁ : h₁.objs.size = hp.objs.size := hs₁.1
  have hil : it < hp.objs.size := Heap.lt_size hit
  have ht₂ : h₂.get? hp.objs.size = some { cls := .type "tuple", data := .seq #[es[i].key, es[i].val] } := by rw [← hh₂, ← hz₁]; exact Heap.get?_push_size _ rfl
  have hz₂ : h₂.objs.size = hp.objs.size + 1 := by rw [← hh₂, Heap.size_push, hz₁]
  have hk₂ : ∀ b o, b ≠ it → hp.get? b = some o → h₂.get? b = some o := fun b o hb e => by rw [← hh₂]; exact Heap.get?_push_of_some _ (hs₁.extBut b o hb e)
  show wpAny _ _ (Builtin.Dict_items.ownedTupleIsFree (.ref it) >>= _) _ _ ⟨h₂, g, dr, tk, os⟩
  rw [hz₁]
  clear hh₂ he₁ hs₁ hT₁ hz₁ h₁
  refine wpAny_bind ?_
  unfold Builtin.Dict_items.ownedTupleIsFree
  refine wpAny_bind (wpAny_field he₂ rfl (x := .none) rfl (wpAny_pure ?_))
  simp only [if_true]
  refine wpAny_bind (wpAny_field he₂ rfl (x := ok) rfl ?_)
  refine wpAny_bind (wpAny_field he₂ rfl (x := ov) rfl ?_)
  refine wpAny_bind (wpAny_setField_rec he₂ (by simp) fun h₃ he₃ hs₃ => ?_)
  replace hs₃ : Heap.SameBut it h₂ h₃ := hs₃
  replace he₃ : IsItemIter h₃ it d (i + 1) es.size ep es[i].key ov := he₃
  refine wpAny_bind (wpAny_setField_rec he₃ (by simp) fun h₄ he₄ hs₄ => ?_)
  replace hs₄ : Heap.SameBut it h₃ h₄ := hs₄
  replace he₄ : IsItemIter h₄ it d (i + 1) es.size ep es[i].key es[i].val := he₄
  refine wpAny_bind (wpAny_setField_rec he₄ (by simp) fun h₅ he₅ hs₅ => ?_)
  replace hs₅ : Heap.SameBut it h₄ h₅ := hs₅
  replace he₅ : IsItemIterOut h₅ it d (i + 1) es.size ep es[i].key es[i].val hp.objs.size := he₅
  refine wpAny_bind (wpAny_setField_rec he₅ (by simp) fun h₆ he₆ hs₆ => ?_)
  replace hs₆ : Heap.SameBut it h₅ h₆ := hs₆
  replace he₆ : IsItemIterOut h₆ it d (i + 1) es.size ep es[i].key es[i].val hp.objs.size := he₆
  refine wpAny_bind (wpAny_letGo (wpAny_pure (wpAny_pure ⟨_, rfl, wpAny_pure (hQ h₆ he₆ ?_ ?_ ?_)⟩)))
  · exact hs₆.extBut _ _ (Nat.ne_of_gt hil) (hs₅.extBut _ _ (Nat.ne_of_gt hil) (hs₄.extBut _ _ (Nat.ne_of_gt hil) (hs₃.extBut _ _ (Nat.ne_of_gt hil) ht₂)))
  · show h₆.objs.size = hp.objs.size + 1
    rw [hs₆.1, hs₅.1, hs₄.1, hs₃.1, hz₂]
  · exact fun b o hb e => hs₆.extBut b o hb (hs₅.extBut b o hb (hs₄.extBut b o hb (hs₃.extBut b o hb (hk₂ b o hb e))))

theorem raw_next_items_end {it : Addr} {i : Nat} {ok ov : Value} {Q : Option Value → Shared → Prop} (hh : A.handled = none) (hit : IsItemIter s.heap it d i es.size ep ok ov)
    (hod : s.heap.get? d = some (dictO es ep)) (hi : es.size ≤ i)
    (hQ : ∀ h', Heap.ExtBut it s.heap h' → Q none { s with heap := h' }) : wpAny (model pr w) A (pyNext (.ref it)) Q E s := by
  have hT : s.TypeIs (.ref it) "dict_itemiterator" := ⟨_, hit, rfl⟩
  unfold pyNext
  refine wpAny_bind (wpAny_attempt (wpAny_callSpecial?_slot (name := Str.ofString "__next__") hT F.slot_dict_itemiterator_next
    (wpAny_call_entry F.slot_dict_itemiterator_next hT F.entry_dict_itemiterator_next ?_ (F.args_dict_itemiterator_next_1 _))))
  refine wpAny_bind (wpAny_pure ?_)
  refine wpAny_bind ?_
  refine wpAny_bind ?_
  first | refine wpAny_bind (wpAny_typeNameOfWhole_itemiter hT (wpAny_pure ?_)) | refine wpAny_bind (wpAny_typeNameOf_itemiter hT (wpAny_pure ?_))
  refine wpAny_bind (wpAny_fieldsOf hit rfl ?_)
  have hown : Builtin.Dict_items.ownsTuple "dict_itemiterator" = true := by decide
  simp only [hown, if_true]
  show wpAny _ _ (if (Value.ref d == Value.none) = true then _ else _) _ _ s
  rw [if_neg (show ¬ ((Value.ref d == Value.none) = true) from Bool.false_ne_true)]
  refine wpAny_bind (wpAny_pure ?_)
  refine wpAny_bind (wpAny_dictEntries hod rfl ?_)
  rw [if_neg (by simp)]
  refine wpAny_bind (wpAny_pure ?_)
  refine wpAny_bind (wpAny_dictEpoch hod rfl ?_)
  rw [if_neg (by simp)]
  refine wpAny_pure ?_
  simp only [show ¬ ((i : Int) < 0) from by omega, if_false, Int.toNat_natCast, Array.getElem?_eq_none hi]
  refine wpAny_bind ?_
  first | refine wpAny_bind (wpAny_typeNameOfWhole_itemiter hT (wpAny_pure ?_)) | refine wpAny_bind (wpAny_typeNameOf_itemiter hT (wpAny_pure ?_))
  show wpAny _ _ (setField (.ref it) 2 .none >>= _) _ _ s
  refine wpAny_bind (wpAny_setField hit rfl (by simp) ?_)
  show wpAny _ _ (newExc (.type "StopIteration") [] >>= _) _ _ _
  refine wpAny_bind ?_
  simp only [newExc, newTuple]
  refine wpAny_bind (wpAny_newObj_type ?_ (by size_fits))
  refine wpAny_bind (m := firstArgMember _ _) (wpAny_of_eq (a := Value.none) (by first | rfl | (simp only [firstArgMember]; rfl)) ?_)
  refine wpAny_newObj_type ?_ (by size_fits)
  simp only [raiseNew]
  refine wpAny_bind (wpAny_handled ?_)
  rw [show A.in1.handled = none from hh]
  refine wpAny_bind (wpAny_pure (wpAny_throw ?_))
  refine wpAny_bind (wpAny_isInstance (T := "StopIteration") (b := true) ⟨_, Heap.get?_push_size _ rfl, rfl⟩ isSubtype_stop ?_)
  exact wpAny_pure (hQ _ (((Heap.SameBut.update ..).extBut.push _).push _))

abbrev valIterO (d : Addr) (i n ep : Nat) : Obj := { cls := .type "dict_valueiterator", data := .fields #[.ref d, .int i 0, .int n 0, .int ep 0] }

theorem raw_iter_values {v : Addr} {Q : Value → Shared → Prop} (hv : s.heap.get? v = some { cls := .type "dict_values", data := .fields #[.ref d] }) (ho : s.heap.get? d = some (dictO es ep))
    (hQ : Q (.ref s.heap.objs.size) { s with heap := s.heap.push (valIterO d 0 es.size ep) }) :
    wpAny (model pr w) A (pyIter (.ref v)) Q E s := by
  have hT : s.TypeIs (.ref v) "dict_values" := ⟨_, hv, rfl⟩
  refine wpAny_pyIter_slot hT F.slot_dict_values_iter (wpAny_call_entry F.slot_dict_values_iter hT F.entry_dict_values_iter ?_ (F.args_dict_values_iter_1 _))
  unfold Builtin.«dict_values.__iter__»
  refine wpAny_bind (wpAny_pure ?_)
  refine wpAny_bind ?_
  unfold Builtin.Dict_items.dictOf
  refine wpAny_bind (wpAny_field hv rfl (x := .ref d) rfl (wpAny_pure ?_))
  refine wpAny_bind ?_
  unfold Builtin.Dict_items.newIterator
  refine wpAny_bind (wpAny_dictEntries ho rfl ?_)
  refine wpAny_bind (wpAny_dictEpoch ho rfl ?_)
  have hown : Builtin.Dict_items.ownsTuple "dict_valueiterator" = false := by decide
  simp only [hown, Bool.false_eq_true, if_false]
  refine wpAny_newObj_type (wpAny_pure ⟨_, rfl, "dict_valueiterator", _, ⟨_, Heap.get?_push_size _ rfl, rfl⟩, F.slot_dict_valueiterator_next.lookup, ?_⟩)
  simpa [rawInt, valIterO] using hQ

theorem raw_next_values {it : Addr} {i : Nat} {Q : Option Value → Shared → Prop} (hit : s.heap.get? it = some (valIterO d i es.size ep))
    (hod : s.heap.get? d = some (dictO es ep)) (hi : i < es.size)
    (hQ : ∀ h', h'.get? it = some (valIterO d (i + 1) es.size ep) → Heap.SameBut it s.heap h' → Q (some es[i].val) { s with heap := h' }) :
    wpAny (model pr w) A (pyNext (.ref it)) Q E s := by
  have hT : s.TypeIs (.ref it) "dict_valueiterator" := ⟨_, hit, rfl⟩
  unfold pyNext
  refine wpAny_bind (wpAny_attempt (wpAny_callSpecial?_slot (name := Str.ofString "__next__") hT F.slot_dict_valueiterator_next
    (wpAny_call_entry F.slot_dict_valueiterator_next hT F.entry_dict_valueiterator_next ?_ (F.args_dict_valueiterator_next_1 _))))
  refine wpAny_bind (wpAny_pure ?_)
  refine wpAny_bind ?_
  refine wpAny_bind ?_
  first | refine wpAny_bind (wpAny_typeNameOfWhole_valiter hT (wpAny_pure ?_)) | refine wpAny_bind (wpAny_typeNameOf_valiter hT (wpAny_pure ?_))
  refine wpAny_bind (wpAny_fieldsOf hit rfl ?_)
  have hown : Builtin.Dict_items.ownsTuple "dict_valueiterator" = false := by decide
  simp only [hown, Bool.false_eq_true, if_false]
  show wpAny _ _ (if (Value.ref d == Value.none) = true then _ else _) _ _ s
  rw [if_neg (show ¬ ((Value.ref d == Value.none) = true) from Bool.false_ne_true)]
  refine wpAny_bind (wpAny_pure ?_)
  refine wpAny_bind (wpAny_dictEntries hod rfl ?_)
  rw [if_neg (by simp)]
  refine wpAny_bind (wpAny_pure ?_)
  refine wpAny_bind (wpAny_dictEpoch hod rfl ?_)
  rw [if_neg (by simp)]
  refine wpAny_pure ?_
  simp only [show ¬ ((i : Int) < 0) from by omega, if_false, Int.toNat_natCast, Array.getElem?_eq_getElem hi]
  refine wpAny_bind ?_
  first | refine wpAny_bind (wpAny_typeNameOfWhole_valiter hT (wpAny_pure ?_)) | refine wpAny_bind (wpAny_typeNameOf_valiter hT (wpAny_pure ?_))
  refine wpAny_bind (wpAny_isOneOf_valiter hT ?_)
  show wpAny _ _ (setField (.ref it) 1 (rawInt ((i : Int) + 1)) >>= _) _ _ s
  refine wpAny_bind (wpAny_setField_rec hit (by simp) fun h₁ he₁ hs₁ => ?_)
  replace he₁ : h₁.get? it = some (valIterO d (i + 1) es.size ep) := by
    have e : ((i + 1 : Nat) : Int) = (i : Int) + 1 := by omega
    unfold valIterO; rw [e]; simpa [rawInt] using he₁
  have hT₁ : Shared.TypeIs { s with heap := h₁ } (.ref it) "dict_valueiterator" := ⟨_, he₁, rfl⟩
  refine wpAny_bind (wpAny_holding ?_)
  refine wpAny_bind (wpAny_isOneOf_valiter hT₁ ?_)
  refine wpAny_bind (wpAny_isOneOf_valiter hT₁ ?_)
  show wpAny _ _ (pure es[i].val) _ _ _
  exact wpAny_pure (wpAny_pure ⟨_, rfl, wpAny_pure (hQ _ he₁ hs₁)⟩)

theorem raw_next_values_end {it : Addr} {i : Nat} {Q : Option Value → Shared → Prop} (hh : A.handled = none) (hit : s.heap.get? it = some (valIterO d i es.size ep))
    (hod : s.heap.get? d = some (dictO es ep)) (hi : es.size ≤ i)
    (hQ : ∀ h', Heap.ExtBut it s.heap h' → Q none { s with heap := h' }) : wpAny (model pr w) A (pyNext (.ref it)) Q E s := by
  have hT : s.TypeIs (.ref it) "dict_valueiterator" := ⟨_, hit, rfl⟩
  unfold pyNext
  refine wpAny_bind (wpAny_attempt (wpAny_callSpecial?_slot (name := Str.ofString "__next__") hT F.slot_dict_valueiterator_next
    (wpAny_call_entry F.slot_dict_valueiterator_next hT F.entry_dict_valueiterator_next ?_ (F.args_dict_valueiterator_next_1 _))))
  refine wpAny_bind (wpAny_pure ?_)
  refine wpAny_bind ?_
  refine wpAny_bind ?_
  first | refine wpAny_bind (wpAny_typeNameOfWhole_valiter hT (wpAny_pure ?_)) | refine wpAny_bind (wpAny_typeNameOf_valiter hT (wpAny_pure ?_))
  refine wpAny_bind (wpAny_fieldsOf hit rfl ?_)
  have hown : Builtin.Dict_items.ownsTuple "dict_valueiterator" = false := by decide
  simp only [hown, Bool.false_eq_true, if_false]
  show wpAny _ _ (if (Value.ref d == Value.none) = true then _ else _) _ _ s
  rw [if_neg (show ¬ ((Value.ref d == Value.none) = true) from Bool.false_ne_true)]
  refine wpAny_bind (wpAny_pure ?_)
  refine wpAny_bind (wpAny_dictEntries hod rfl ?_)
  rw [if_neg (by simp)]
  refine wpAny_bind (wpAny_pure ?_)
  refine wpAny_bind (wpAny_dictEpoch hod rfl ?_)
  rw [if_neg (by simp)]
  refine wpAny_pure ?_
  simp only [show ¬ ((i : Int) < 0) from by omega, if_false, Int.toNat_natCast, Array.getElem?_eq_none hi]
  refine wpAny_bind ?_
  first | refine wpAny_bind (wpAny_typeNameOfWhole_valiter hT (wpAny_pure ?_)) | refine wpAny_bind (wpAny_typeNameOf_valiter hT (wpAny_pure ?_))
  show wpAny _ _ (setField (.ref it) 0 .none >>= _) _ _ s
  refine wpAny_bind (wpAny_setField hit rfl (by simp) ?_)
  show wpAny _ _ (newExc (.type "StopIteration") [] >>= _) _ _ _
  refine wpAny_bind ?_
  simp only [newExc, newTuple]
  refine wpAny_bind (wpAny_newObj_type ?_ (by size_fits))
  refine wpAny_bind (m := firstArgMember _ _) (wpAny_of_eq (a := Value.none) (by first | rfl | (simp only [firstArgMember]; rfl)) ?_)
  refine wpAny_newObj_type ?_ (by size_fits)
  simp only [raiseNew]
  refine wpAny_bind (wpAny_handled ?_)
  rw [show A.in1.handled = none from hh]
  refine wpAny_bind (wpAny_pure (wpAny_throw ?_))
  refine wpAny_bind (wpAny_isInstance (T := "StopIteration") (b := true) ⟨_, Heap.get?_push_size _ rfl, rfl⟩ isSubtype_stop ?_)
  exact wpAny_pure (hQ _ (((Heap.SameBut.update ..).extBut.push _).push _))

theorem raw_self_values {it : Addr} {i n : Nat} {Q : Value → Shared → Prop} (hit : s.heap.get? it = some (valIterO d i n ep)) (h : Q (.ref it) s) : wpAny (model pr w) A (pyIter (.ref it)) Q E s :=
  wpAny_pyIter_valiter (d := d) (i := i) (n := n) (ep := ep) ⟨_, hit, rfl, rfl⟩ h

theorem walks_values (hh : A.handled = none) (I d : Addr) (hne : d ≠ I) (es : Array DictEntry) (ep : Nat) :
    Walks pr w A I [I, d] [I] es.size (fun i v => ∃ e, es[i]? = some e ∧ e.val = v) (fun i h => h.get? I = some (valIterO d i es.size ep) ∧ h.get? d = some (dictO es ep)) where
  sub := fun b hb => by simp at hb; simp [hb]
  frame := fun _ _ _ st hk => ⟨hk I (by simp) _ st.1, hk d (by simp) _ st.2⟩
  item := fun i s Q E hi st hQ => by
    refine raw_next_values st.1 st.2 hi fun h' hit' hs' => ?_
    exact hQ _ h' s.toks ⟨es[i], Array.getElem?_eq_getElem hi, rfl⟩ ⟨hit', (hs'.2 d hne).trans st.2⟩ fun b o hb e => hs'.extBut b o (fun h => hb (by simp [h])) e
  done := fun s Q E st hQ => raw_next_values_end hh st.1 st.2 (Nat.le_refl _) fun h' he' => hQ h' s.toks fun b o hb e => he' b o (fun h => hb (by simp [h])) e
  self := fun _ _ _ _ st hQ => raw_self_values st.1 hQ
end
end Foata
end
/-! FDictB -/
section
open PySem PySem.W PySem.Calls PyProof.Rows
set_option maxRecDepth 100000
set_option maxHeartbeats 8000000
namespace Foata
section
variable {w : World} {A : Around} {E : Value → Shared → Prop} {s : Shared} {h₀ : Heap} {L : Addr} {env : Env} {body : List Stmt} {Q : Flow → Shared → Prop}

abbrev viewO (d : Addr) : Obj := { cls := .type "dict_items", data := .fields #[.ref d] }

/-- for xk, xv in d.items() -/
theorem for_items {xk xv : Str} {pk pv pt : Pos} {x1 : Nat} {V d : Addr} {es : Array DictEntry} {ep : Nat} {m₀ : Str → Option Value} {news : List (Addr × Obj)} (kp : List (Addr × Obj))
    (J : Nat → (Str → Option Value) → List (Addr × Obj) → Prop) (hL : env.locals = L)
    (hh : A.handled = none) (hV : (V, viewO d) ∈ news) (hd : (d, dictO es ep) ∈ news) (hkp : ∀ q ∈ kp, q ∈ news)
    (hxk : env.kindOf xk = some .local) (hxv : env.kindOf xv = some .local) (hp : (env.scope.kind == .class || (env.scope.kind == .module && env.locals != env.globals)) = false)
    (F : Fr h₀ L s.heap m₀) (N : News h₀ L s.heap news) (hj : J 0 m₀ news)
    (turn : ∀ I i e m₁ news₁ h tk it, (∀ p ∈ news, p.1 < I) → es[i]? = some e → J i m₁ news₁ → (d, dictO es ep) ∈ news₁ → (∀ q ∈ kp, q ∈ news₁) → (∀ p ∈ news₁, p.1 ≠ I) →
      Fr h₀ L h (fun y => if y = xv then some e.val else if y = xk then some e.key else m₁ y) → News h₀ L h ((I, it) :: news₁) →
      wpAny (model pr w) A (execs body env) (TurnP h₀ L (I, it) ((d, dictO es ep) :: kp) (J (i + 1)) s Q) NoE { s with heap := h, toks := tk })
    (done : ∀ m₁ news₁ h tk, J es.size m₁ news₁ → (∀ q ∈ kp, q ∈ news₁) → Fr h₀ L h m₁ → News h₀ L h news₁ → Q .next { s with heap := h, toks := tk }) :
    wpAny (model pr w) A (pyIter (.ref V)) (fun it s₂ => ForGo w A (.Tuple [.Name xk pk, .Name xv pv] x1 pt) body env Q E it s₂) E s := by
  subst hL
  refine raw_iter_items (N _ hV).1 (N _ hd).1 ?_
  have hsz₀ : (s.heap.push { cls := .type "dict_itemiterator", data := .fields #[.none, .bool false, .ref d, .int 0 0, .int es.size 0, .int ep 0, .none, .none] }).objs.size = s.heap.objs.size + 1 := Heap.size_push ..
  have ltI : ∀ p ∈ news, p.1 < s.heap.objs.size := fun p hp => Heap.lt_size (N p hp).1
  have hLI : env.locals ≠ s.heap.objs.size := Nat.ne_of_lt F.ns.lt
  have h0I := next_is_new F
  have hit₀ : IsItemIter (s.heap.push { cls := .type "dict_itemiterator", data := .fields #[.none, .bool false, .ref d, .int 0 0, .int es.size 0, .int ep 0, .none, .none] }) s.heap.objs.size d 0 es.size ep .none .none := Heap.get?_push_size _ rfl
  have F₀ := F.push { cls := .type "dict_itemiterator", data := .fields #[.none, .bool false, .ref d, .int 0 0, .int es.size 0, .int ep 0, .none, .none] }
  have N₀ : News h₀ env.locals (s.heap.push { cls := .type "dict_itemiterator", data := .fields #[.none, .bool false, .ref d, .int 0 0, .int es.size 0, .int ep 0, .none, .none] }) news := fun p hp => ⟨Heap.get?_push_of_some _ (N p hp).1, (N p hp).2⟩
  generalize s.heap.objs.size = I at *
  generalize s.heap.push { cls := .type "dict_itemiterator", data := .fields #[.none, .bool false, .ref d, .int 0 0, .int es.size 0, .int ep 0, .none, .none] } = H₀ at *
  refine codeAny_forLoop_any
    (fun c s' => ∃ i h tk m nw ok ov, s' = { s with heap := h, toks := tk } ∧ IsItemIter h I d i es.size ep ok ov ∧ Fr h₀ env.locals h m ∧ News h₀ env.locals h nw ∧ (d, dictO es ep) ∈ nw ∧ (∀ q ∈ kp, q ∈ nw) ∧ (∀ p ∈ nw, p.1 ≠ I) ∧ J i m nw ∧ i ≤ es.size ∧ c = es.size + 1 - i) ?_ (es.size + 1)
    ⟨0, H₀, s.toks, m₀, news, .none, .none, rfl, hit₀, F₀, N₀, hd, hkp, fun p hp => Nat.ne_of_lt (ltI p hp), hj, Nat.zero_le _, rfl⟩
  rintro c s' ⟨i, h, tk, m, nw, ok, ov, rfl, hit, F', N', hd', hkp', hoff, hJ, hin, rfl⟩
  have next : ∀ h₁ : Heap, (∀ b o, b ≠ I → h.get? b = some o → h₁.get? b = some o) → Fr h₀ env.locals h₁ m ∧ News h₀ env.locals h₁ nw := fun h₁ hk₁ =>
    ⟨⟨F'.ns.at' fun o e => hk₁ _ o hLI e, fun b o e => hk₁ b o (by rintro rfl; rw [h0I] at e; cases e) (F'.keep b o e), F'.above⟩,
      fun p hp => ⟨hk₁ _ _ (hoff p hp) (N' p hp).1, (N' p hp).2⟩⟩
  by_cases hlt : i < es.size
  · have hIH : I < h.objs.size := Heap.lt_size hit
    refine raw_next_items hit (N' _ hd').1 hlt fun h₁ heo ht₁ hz₁ hk₁ => ?_
    refine wpAny_letOwnedTupleGo_items heo fun h₂ he₂ hs₂ => ?_
    replace hs₂ : Heap.SameBut I h₁ h₂ := hs₂
    have ht₂ : h₂.IsTuple h.objs.size #[es[i].key, es[i].val] := ⟨_, (hs₂.2 _ (Nat.ne_of_gt hIH)).trans ht₁, rfl, _, rfl⟩
    have hz₂ : h₂.objs.size = h.objs.size + 1 := hs₂.1.trans hz₁
    obtain ⟨F₂, N₂⟩ := next h₂ fun b o hb e => hs₂.extBut b o hb (hk₁ b o hb e)
    refine wpAny_assign_Tuple hh ht₂ rfl rfl fun h₃ hx₃ => ?_
    replace hx₃ : Heap.ExtBut h₂.objs.size h₂ h₃ := hx₃
    have old₃ : ∀ b o, h₂.get? b = some o → h₃.get? b = some o := fun b o x => hx₃ b o (Nat.ne_of_lt (Heap.lt_size x)) x
    have F₃ := F₂.keeps old₃
    have N₃ : News h₀ env.locals h₃ ((I, { cls := .type "dict_itemiterator", dict := none, data := .fields #[.none, .bool false, .ref d, .int (i + 1 : Nat) 0, .int es.size 0, .int ep 0, es[i].key, es[i].val], slots := #[] }) :: nw) := fun p hp => by
      rcases List.mem_cons.mp hp with rfl | hp
      · exact ⟨old₃ _ _ he₂, Ne.symm hLI, h0I⟩
      · exact ⟨old₃ _ _ (N₂ p hp).1, (N₂ p hp).2⟩
    show wpAny _ _ (do holding [es[i].val] (assign (.Name xk pk) env es[i].key); do holding [] (assign (.Name xv pv) env es[i].val); pure ()) _ _ _
    refine wpAny_bind (wpAny_holding (wpAny_assign_Name (wpAny_storeName_local hxk F₃.ns (fun h₄ hn₄ hs₄ => ?_) hp)))
    replace hs₄ : Heap.SameBut env.locals h₃ h₄ := hs₄
    have F₄ := F₃.set hn₄ hs₄
    have N₄ := N₃.set hs₄
    refine wpAny_bind (wpAny_holding (wpAny_assign_Name (wpAny_storeName_local hxv F₄.ns (fun h₅ hn₅ hs₅ => wpAny_pure ?_) hp)))
    replace hs₅ : Heap.SameBut env.locals h₄ h₅ := hs₅
    have F₅ := F₄.set hn₅ hs₅
    have N₅ := N₄.set hs₅
    refine noE ?_
    refine wpAny_mono (turn I i es[i] m nw h₅ _ _ ltI (Array.getElem?_eq_getElem hlt) hJ hd' hkp' hoff F₅ N₅) (fun f s₃ p => ?_) fun _ _ x => x
    have fin : (∃ h' tk' m' news', s₃ = { s with heap := h', toks := tk' } ∧ Fr h₀ env.locals h' m' ∧ News h₀ env.locals h' ((I, { cls := .type "dict_itemiterator", dict := none, data := .fields #[.none, .bool false, .ref d, .int (i + 1 : Nat) 0, .int es.size 0, .int ep 0, es[i].key, es[i].val], slots := #[] }) :: news') ∧ (∀ q ∈ (d, dictO es ep) :: kp, q ∈ news') ∧ (∀ q ∈ news', q.1 ≠ I) ∧ J (i + 1) m' news') →
        ∃ c', c' < es.size + 1 - i ∧ ∃ i h tk m nw ok ov, s₃ = { s with heap := h, toks := tk } ∧ IsItemIter h I d i es.size ep ok ov ∧ Fr h₀ env.locals h m ∧ News h₀ env.locals h nw ∧ (d, dictO es ep) ∈ nw ∧ (∀ q ∈ kp, q ∈ nw) ∧ (∀ p ∈ nw, p.1 ≠ I) ∧ J i m nw ∧ i ≤ es.size ∧ c' = es.size + 1 - i := by
      rintro ⟨h', tk', m', nw', rfl, F₆, N₆, hkp₆, hoff₆, hJ₆⟩
      exact ⟨es.size + 1 - (i + 1), by omega, i + 1, h', tk', m', nw', _, _, rfl, (N₆ _ (.head _)).1, F₆, fun p hp => N₆ p (.tail _ hp), hkp₆ _ (.head _), fun q hq => hkp₆ q (.tail _ hq), hoff₆, hJ₆, hlt, rfl⟩
    cases f with
    | ret v => exact p
    | brk => exact p
    | next => exact fin p
    | cont => exact fin p
  · have hin' : i = es.size := by omega
    subst hin'
    refine raw_next_items_end hh hit (N' _ hd').1 (Nat.le_refl _) fun h₁ hx₁ => wpAny_execs_nil ?_
    obtain ⟨F₁, N₁⟩ := next h₁ fun b o hb e => hx₁ b o hb e
    exact done m nw h₁ _ hJ hkp' F₁ N₁

/-- for x in d.values() -/
theorem for_values {target : PySem.Expr} {V d : Addr} {es : Array DictEntry} {ep : Nat} {m₀ : Str → Option Value} {news : List (Addr × Obj)}
    (J : Nat → (Str → Option Value) → List (Addr × Obj) → Prop)
    (hh : A.handled = none) (hV : (V, ({ cls := .type "dict_values", data := .fields #[.ref d] } : Obj)) ∈ news) (hd : (d, dictO es ep) ∈ news)
    (F : Fr h₀ L s.heap m₀) (N : News h₀ L s.heap news) (hj : J 0 m₀ news) (ht : ∀ I v, letOwnedTupleGo target (.ref I) v = pure ())
    (turn : ∀ I i e m₁ news₁ h tk it, (∀ p ∈ news, p.1 < I) → es[i]? = some e → J i m₁ news₁ → (d, dictO es ep) ∈ news₁ → (∀ p ∈ news₁, p.1 ≠ I) → Fr h₀ L h m₁ → News h₀ L h ((I, it) :: news₁) →
      wpAny (model pr w) A (assign target env e.val) (fun _ s₂ => wpAny (model pr w) A (execs body env) (TurnP h₀ L (I, it) [(d, dictO es ep)] (J (i + 1)) s Q) NoE s₂) NoE { s with heap := h, toks := tk })
    (done : ∀ m₁ news₁ h tk, J es.size m₁ news₁ → Fr h₀ L h m₁ → News h₀ L h news₁ → Q .next { s with heap := h, toks := tk }) :
    wpAny (model pr w) A (pyIter (.ref V)) (fun it s₂ => ForGo w A target body env Q E it s₂) E s := by
  refine raw_iter_values (N _ hV).1 (N _ hd).1 ?_
  have hne : d ≠ s.heap.objs.size := Nat.ne_of_lt (Heap.lt_size (N _ hd).1)
  have W := walks_values (w := w) hh s.heap.objs.size d hne es ep
  refine for_walk (fun _ => True) [(d, dictO es ep)] J W ?_ ?_ ?_ (Nat.ne_of_lt F.ns.lt) (next_is_new F) (News.ne_size N) ⟨Heap.get?_push_size _ rfl, Heap.get?_push_of_some _ (N _ hd).1⟩
    (F.push _) (fun p hp => ⟨Heap.get?_push_of_some _ (N p hp).1, (N p hp).2⟩) hj (fun v => ht _ v) ?_ ?_
  · intro b hb
    rcases List.mem_cons.mp hb with e | hb
    · exact .inl e
    · exact .inr (.inr ⟨_, List.mem_singleton.mpr (by rw [List.mem_singleton.mp hb])⟩)
  · intro q hq; rw [List.mem_singleton.mp hq]; exact hd
  · rintro i h ⟨e, _⟩; exact ⟨_, e, trivial⟩
  · rintro i v m₁ news₁ h tk it _ hi ⟨e, he, rfl⟩ hJ hkp hne F₁ N₁
    exact turn _ i e m₁ news₁ h tk it (fun p hp => Heap.lt_size (N p hp).1) he hJ (hkp _ (List.mem_singleton.mpr rfl)) hne F₁ N₁
  · intro m₁ news₁ h tk hJ hne F₁ N₁
    exact done m₁ news₁ h tk hJ F₁ N₁
end

section
/-- keys' items that are ints or strs -/
def mixIs : Int ⊕ Str → Value → Bool
  | .inl k, v => Value.isInt k v
  | .inr x, v => Value.isStrOf x v
theorem mixIs_shape {k : Int ⊕ Str} {v : Value} (h : mixIs k v = true) : (∃ n t, k = .inl n ∧ v = .int n t) ∨ ∃ x t, k = .inr x ∧ v = .str x t := by
  cases k with
  | inl n => obtain ⟨t, rfl⟩ := Value.isInt_shape h; exact .inl ⟨n, t, rfl, rfl⟩
  | inr x => obtain ⟨t, rfl⟩ := Value.isStrOf_shape h; exact .inr ⟨x, t, rfl, rfl⟩
def mixK (w : World) : KeyKind pr w (Int ⊕ Str) where
  is := mixIs
  hash := fun k => match k with | .inl n => hashInt n | .inr x => hashStr w x
  inj := fun v a b ha hb => by
    rcases mixIs_shape ha with ⟨n, t, rfl, rfl⟩ | ⟨x, t, rfl, rfl⟩ <;> rcases mixIs_shape hb with ⟨n', t', rfl, e⟩ | ⟨x', t', rfl, e⟩ <;> injection e
    · rename_i e1 e2; rw [e1]
    · rename_i e1 e2; rw [e1]
  byValue := fun k v h => by rcases mixIs_shape h with ⟨n, t, rfl, rfl⟩ | ⟨x, t, rfl, rfl⟩ <;> rfl
  pyHash := fun hv h => by
    rcases mixIs_shape hv with ⟨n, t, rfl, rfl⟩ | ⟨x, t, rfl, rfl⟩
    · exact wpAny_pyHash_int h
    · exact wpAny_pyHash_str h
  eqBool := fun {A E s a b u v Q} hu hv h => by
    rcases mixIs_shape hu with ⟨n, t, rfl, rfl⟩ | ⟨x, t, rfl, rfl⟩ <;> rcases mixIs_shape hv with ⟨n', t', rfl, rfl⟩ | ⟨x', t', rfl, rfl⟩
    · refine wpAny_eqBool_int ?_
      have : (n == n') = decide ((Sum.inl n : Int ⊕ Str) = .inl n') := by
        rw [Bool.eq_iff_iff, beq_iff_eq, decide_eq_true_eq]; exact ⟨fun e => by rw [e], fun e => Sum.inl.inj e⟩
      rw [this]; exact h
    · exact SeqAt.EqAt.int_str n t x' t' pr _ E Q (by rwa [show decide ((Sum.inl n : Int ⊕ Str) = .inr x') = false from decide_eq_false fun e => nomatch e] at h)
    · exact SeqAt.EqAt.str_int x t n' t' pr _ E Q (by rwa [show decide ((Sum.inr x : Int ⊕ Str) = .inl n') = false from decide_eq_false fun e => nomatch e] at h)
    · refine wpAny_eqBool_str ?_
      have : decide (x = x') = decide ((Sum.inr x : Int ⊕ Str) = .inr x') := decide_eq_decide.mpr ⟨fun e => by rw [e], fun e => Sum.inr.inj e⟩
      rw [this]; exact h
  «strs» := fun k x t v h => by
    rcases mixIs_shape h with ⟨n, u, rfl, e⟩ | ⟨y, u, rfl, e⟩
    · cases e
    · injection e with e
      subst e
      cases v <;> rfl
end
end Foata
end
/-! FDictC -/
section
open PySem PySem.W PySem.Calls PyProof.Rows
set_option maxRecDepth 100000
set_option maxHeartbeats 8000000
namespace Foata
section
variable {w : World} {K : Type} [DecidableEq K] {knd : KeyKind pr w K}
/-- the keys' tuples lie in the ledger -/
def Keyed (knd : KeyKind pr w K) (news : List (Addr × Obj)) (ys : List (List K × Addr × Value)) : Prop := ∀ y ∈ ys, ∃ ok, (y.2.1, ok) ∈ news ∧ TupKeyObj knd y.1 ok
theorem Keyed.mono {news news' : List (Addr × Obj)} {ys : List (List K × Addr × Value)} (h : Keyed knd news ys) (hs : ∀ p ∈ news, p ∈ news') : Keyed knd news' ys := fun y hy => by
  obtain ⟨ok, h1, h2⟩ := h y hy
  exact ⟨ok, hs _ h1, h2⟩
theorem not_dictO {ks : List K} {es : Array DictEntry} {ep : Nat} (h : TupKeyObj knd ks (dictO es ep)) : False := by
  obtain ⟨h1, _⟩ := h
  injection h1 with h1
  exact absurd h1 (by decide)
theorem mem_swap {pre post : List (Addr × Obj)} {D : Addr} {es es' : Array DictEntry} {ep ep' : Nat} {a : Addr} {ok : Obj} {ks : List K} (h : (a, ok) ∈ pre ++ (D, dictO es ep) :: post) (t : TupKeyObj knd ks ok) :
    (a, ok) ∈ pre ++ (D, dictO es' ep') :: post := by
  rcases List.mem_append.mp h with h | h
  · exact List.mem_append_left _ h
  · rcases List.mem_cons.mp h with h | h
    · injection h with _ h2
      exact (not_dictO (h2 ▸ t)).elim
    · exact List.mem_append_right _ (.tail _ h)
theorem Keyed.swap {pre post : List (Addr × Obj)} {D : Addr} {es es' : Array DictEntry} {ep ep' : Nat} {ys : List (List K × Addr × Value)} (h : Keyed knd (pre ++ (D, dictO es ep) :: post) ys) :
    Keyed knd (pre ++ (D, dictO es' ep') :: post) ys := fun y hy => by
  obtain ⟨ok, h1, h2⟩ := h y hy
  exact ⟨ok, mem_swap h1 h2, h2⟩
theorem keyed_stored {news : List (Addr × Obj)} {ys : List (List K × Addr × Value)} {k : List K} {a : Addr} {ok : Obj} {v : Value} (h : Keyed knd news ys) (hka : (a, ok) ∈ news) (tk : TupKeyObj knd k ok) : Keyed knd news (storedH ys k a v) := fun y hy => by
  rcases mem_storedH hy with ⟨z, hz, e1, e2⟩ | ⟨e1, e2⟩
  · obtain ⟨oz, h1, h2⟩ := h z hz
    exact ⟨oz, by rw [e2]; exact h1, by rw [e1]; exact h2⟩
  · exact ⟨ok, by rw [e2]; exact hka, by rw [e1]; exact tk⟩
/-- the entries of a dict -/
def EntriesAre (knd : KeyKind pr w K) (es : Array DictEntry) (ys : List (List K × Addr × Value)) : Prop := es.toList = ys.map (entryOfKey (tupleKind knd)) ∧ (ys.map (·.1)).Nodup
theorem dictOfH {h₀ h : Heap} {L : Addr} {news : List (Addr × Obj)} {D : Addr} {es : Array DictEntry} {ep : Nat} {ys : List (List K × Addr × Value)} (N : News h₀ L h news) (hD : (D, dictO es ep) ∈ news) (he : EntriesAre knd es ys) (hk : Keyed knd news ys) :
    h.DictOfH (tupleKind knd) D ys :=
  ⟨_, es, ep, (N _ hD).1, ⟨rfl, rfl, rfl⟩, rfl, he.1, fun y hy => by
    obtain ⟨ok, h1, h2⟩ := hk y hy
    exact h2.key (N _ h1).1, he.2⟩
theorem EntriesAre.at {es : Array DictEntry} {ys : List (List K × Addr × Value)} (h : EntriesAre knd es ys) {i : Nat} {e : DictEntry} (hi : es[i]? = some e) : ∃ y, ys[i]? = some y ∧ e = entryOfKey (tupleKind knd) y := by
  have := entry_at h.1 i
  rw [hi] at this
  cases hy : ys[i]? with
  | none => rw [hy] at this; cases this
  | some y => rw [hy] at this; exact ⟨y, rfl, Option.some.inj this⟩
theorem EntriesAre.size {es : Array DictEntry} {ys : List (List K × Addr × Value)} (h : EntriesAre knd es ys) : es.size = ys.length := by
  have := congrArg List.length h.1
  simpa using this

section
variable {A : Around} {E : Value → Shared → Prop} {s : Shared} {h₀ : Heap} {L : Addr} {m : Str → Option Value}
theorem f_dset {D a : Addr} {ok : Obj} {es : Array DictEntry} {ep : Nat} {ys : List (List K × Addr × Value)} {k : List K} {v : Value} {pre post : List (Addr × Obj)} {Q : Unit → Shared → Prop} (F : Fr h₀ L s.heap m) (N : News h₀ L s.heap (pre ++ (D, dictO es ep) :: post))
    (h1 : ∀ p ∈ pre, p.1 ≠ D) (h2 : ∀ p ∈ post, p.1 ≠ D) (he : EntriesAre knd es ys) (hk : Keyed knd (pre ++ (D, dictO es ep) :: post) ys) (hka : (a, ok) ∈ pre ++ (D, dictO es ep) :: post) (tk : TupKeyObj knd k ok)
    (hu : A.units + 1 < cLine) (hlen : ys.length ≤ 4096)
    (h : ∀ h' es' ep', Fr h₀ L h' m → News h₀ L h' (pre ++ (D, dictO es' ep') :: post) → EntriesAre knd es' (storedH ys k a v) → Keyed knd (pre ++ (D, dictO es' ep') :: post) (storedH ys k a v) → Q () { s with heap := h', toks := s.toks + (k.length + 1) }) :
    wpAny (model pr w) A (setItem (.ref D) (.ref a) v) Q E s := by
  have hD : (D, dictO es ep) ∈ pre ++ (D, dictO es ep) :: post := List.mem_append_right _ (.head _)
  have z := N _ hD
  refine wpAny_setItem_heap (knd := tupleKind knd) (k := k) (xs := ys) (hsz := by rw [sizeLine_eq]; omega) (tupleKind_room_in1 hu) (tk.key (N _ hka).1) (dictOfH N hD he hk) fun h' hm' hs => ?_
  obtain ⟨o', es', ep', ho', hc', hd', he', _, hn'⟩ := hm'
  obtain rfl := dictO_of hc' hd'
  exact h h' es' ep' (F.change hs z.2.1 z.2.2) (news_set N h1 h2 hs ho') ⟨he', hn'⟩ (keyed_stored hk.swap (mem_swap hka tk) tk)

theorem f_din {D a : Addr} {ok : Obj} {es : Array DictEntry} {ep : Nat} {ys : List (List K × Addr × Value)} {k : List K} {news : List (Addr × Obj)} {Q : Value → Shared → Prop} (N : News h₀ L s.heap news)
    (hD : (D, dictO es ep) ∈ news) (hS : (D == sysModules) = false) (he : EntriesAre knd es ys) (hk : Keyed knd news ys) (hka : (a, ok) ∈ news) (tk : TupKeyObj knd k ok) (hu : A.units + 1 < cLine)
    (h : Q (.bool (atKey ys k).isSome) { s with toks := s.toks + (k.length + 1) }) : wpAny (model pr w) A (compareOp .In (.ref a) (.ref D)) Q E s :=
  wpAny_in_heap (knd := tupleKind knd) (tupleKind_room_in1 hu) (tk.key (N _ hka).1) hS (dictOfH N hD he hk) h

theorem f_dget {D a : Addr} {ok : Obj} {es : Array DictEntry} {ep : Nat} {ys : List (List K × Addr × Value)} {k : List K} {news : List (Addr × Obj)} {p : Addr × Value} {Q : Value → Shared → Prop} (N : News h₀ L s.heap news)
    (hD : (D, dictO es ep) ∈ news) (he : EntriesAre knd es ys) (hk : Keyed knd news ys) (hka : (a, ok) ∈ news) (tk : TupKeyObj knd k ok) (hu : A.units + 1 < cLine) (hp : atKey ys k = some p)
    (h : Q p.2 { s with toks := s.toks + (k.length + 1) }) : wpAny (model pr w) A (getItem (.ref D) (.ref a)) Q E s :=
  wpAny_getItem_heap (knd := tupleKind knd) (tupleKind_room_in1 hu) (tk.key (N _ hka).1) (dictOfH N hD he hk) hp h

theorem f_dgetd {D a : Addr} {ok : Obj} {es : Array DictEntry} {ep : Nat} {ys : List (List K × Addr × Value)} {k : List K} {dflt : Value} {news : List (Addr × Obj)} {Q : Value → Shared → Prop} (N : News h₀ L s.heap news)
    (hD : (D, dictO es ep) ∈ news) (hS : (D == sysModules) = false) (he : EntriesAre knd es ys) (hk : Keyed knd news ys) (hka : (a, ok) ∈ news) (tk : TupKeyObj knd k ok) (hu : A.units + 1 < cLine)
    (h : Q (((atKey ys k).map (·.2)).getD dflt) { s with toks := s.toks + (k.length + 1) }) : wpAny (model pr w) A (call (.builtin "dict.get") [.ref D, .ref a, dflt]) Q E s := by
  have hm := dictOfH N hD he hk
  exact call_meetsIn F.slot_dict_get hm.typeIs F.entry_dict_get (F.args_dict_get_3 _ _ _) (meetsH_dict_get_default (tupleKind knd) D a hS dflt) ⟨tupleKind_room_in1 hu, k, ys, tk.key (N _ hka).1, hm, h⟩

end
end

/-- the keys of the law's tables -/
def keyOf (n : Nat) : List (Int ⊕ Str) := [.inr (Str.ofString "so"), .inl (n : Int), .inr (Str.ofString "many")]
theorem keyOf_inj {a b : Nat} (h : keyOf a = keyOf b) : a = b := by
  simp only [keyOf, List.cons.injEq, Sum.inl.injEq, true_and, and_true] at h
  omega
/-- a table: numbers, and how often each -/
inductive KV : List (List (Int ⊕ Str) × Addr × Value) → List (Nat × Nat) → Prop
  | nil : KV [] []
  | cons {y : List (Int ⊕ Str) × Addr × Value} {x : Nat × Nat} {ys : List (List (Int ⊕ Str) × Addr × Value)} {xs : List (Nat × Nat)} (h : y.1 = keyOf x.1 ∧ ∃ t, y.2.2 = .int ((x.2 : Nat) : Int) t) (r : KV ys xs) : KV (y :: ys) (x :: xs)
/-- one more of k -/
def addN (xs : List (Nat × Nat)) (k : Nat) : List (Nat × Nat) :=
  match xs.find? fun x => decide (x.1 = k) with
  | some x => xs.map fun y => if y.1 = k then (y.1, x.2 + 1) else y
  | none => xs ++ [(k, 1)]
theorem KV.atKey {ys : List (List (Int ⊕ Str) × Addr × Value)} {xs : List (Nat × Nat)} (h : KV ys xs) (k : Nat) :
    match xs.find? fun x => decide (x.1 = k) with
    | some x => ∃ a t, PySem.atKey ys (keyOf k) = some (a, .int ((x.2 : Nat) : Int) t)
    | none => PySem.atKey ys (keyOf k) = none := by
  induction h with
  | nil => rfl
  | @cons y x ys xs h1 _ ih =>
    obtain ⟨e1, t, e2⟩ := h1
    by_cases hk : x.1 = k
    · subst hk
      simp only [List.find?_cons, decide_true, PySem.atKey, e1]
      exact ⟨y.2.1, t, by rw [← e2]; rfl⟩
    · have hk' : ¬ y.1 = keyOf k := fun e => hk (keyOf_inj (e1.symm.trans e))
      simp only [List.find?_cons, hk, hk', decide_false, PySem.atKey] at ih ⊢
      exact ih
theorem KV.put {ys : List (List (Int ⊕ Str) × Addr × Value)} {xs : List (Nat × Nat)} (h : KV ys xs) (k c : Nat) (t : Tok) :
    KV (ys.map (putAt (keyOf k) (.int ((c : Nat) : Int) t))) (xs.map fun y => if y.1 = k then (y.1, c) else y) := by
  induction h with
  | nil => exact .nil
  | @cons y x ys xs h1 _ ih =>
    refine .cons ?_ ih
    obtain ⟨e1, t', e2⟩ := h1
    by_cases hk : x.1 = k
    · have hk' : y.1 = keyOf k := by rw [e1, hk]
      simp only [putAt, hk, hk', if_true]
      exact ⟨trivial, t, rfl⟩
    · have hk' : ¬ y.1 = keyOf k := fun e => hk (keyOf_inj (e1.symm.trans e))
      simp only [putAt, hk, hk', if_false]
      exact ⟨e1, t', e2⟩
theorem KV.length {ys : List (List (Int ⊕ Str) × Addr × Value)} {xs : List (Nat × Nat)} (h : KV ys xs) : ys.length = xs.length := by
  induction h with
  | nil => rfl
  | cons _ _ ih => simp [ih]
theorem KV.append {ys zs : List (List (Int ⊕ Str) × Addr × Value)} {xs us : List (Nat × Nat)} (h : KV ys xs) (h' : KV zs us) : KV (ys ++ zs) (xs ++ us) := by
  induction h with
  | nil => exact h'
  | cons h1 _ ih => exact .cons h1 ih
theorem addN_length (xs : List (Nat × Nat)) (k : Nat) : (addN xs k).length ≤ xs.length + 1 := by
  unfold addN
  split <;> simp
/-- a table in the ledger -/
def IsTab (w : World) (news : List (Addr × Obj)) (v : Value) (xs : List (Nat × Nat)) : Prop :=
  ∃ d es ep ys, v = .ref d ∧ (d == sysModules) = false ∧ (d, dictO es ep) ∈ news ∧ EntriesAre (mixK w) es ys ∧ Keyed (mixK w) news ys ∧ KV ys xs
theorem IsTab.mono {w : World} {news news' : List (Addr × Obj)} {v : Value} {xs : List (Nat × Nat)} (h : IsTab w news v xs) (hs : ∀ p ∈ news, p ∈ news') : IsTab w news' v xs := by
  obtain ⟨d, es, ep, ys, h1, h2, h3, h4, h5, h6⟩ := h
  exact ⟨d, es, ep, ys, h1, h2, hs _ h3, h4, h5.mono hs, h6⟩
end Foata
end
/-! FDictE -/
section
open PySem PySem.W PySem.Calls PyProof.Rows
set_option maxRecDepth 100000
set_option maxHeartbeats 8000000
namespace Foata
section
variable {w : World} {K : Type} [DecidableEq K] {knd : KeyKind pr w K} {A : Around} {E : Value → Shared → Prop} {s : Shared}
theorem same_pairs {nm : String} {a b : Addr} {es es' : Array DictEntry} {ep ep' : Nat} {ys ys' : List (List K × Addr × Value)} {Q : Bool → Shared → Prop} (ha : (a == sysModules) = false) (hb : (b == sysModules) = false)
    (hoa : s.heap.get? a = some (dictO es ep)) (hob : s.heap.get? b = some (dictO es' ep')) (hea : EntriesAre knd es ys) (heb : EntriesAre knd es' ys')
    (hka : ∀ y ∈ ys, IsTupleKey knd s.heap y.1 y.2.1) (hkb : ∀ y ∈ ys', IsTupleKey knd s.heap y.1 y.2.1) (hu : A.units < cLine) (hlen : ys.length = ys'.length)
    (hsame : ∀ y ∈ ys, ∃ (j : Nat) (p : Addr × Value), ys'[j]? = some (y.1, p) ∧ SeqAt.EqAt A s y.2.2 p.2 true) (h : Q true s) :
    wpAny (model pr w) A (Builtin.Dict.samePairs nm a b) Q E s := by
  unfold Builtin.Dict.samePairs Builtin.Dict.showsAll
  rw [if_neg (show ¬ (a == sysModules) = true by rw [ha]; exact Bool.false_ne_true), if_neg (show ¬ (b == sysModules) = true by rw [hb]; exact Bool.false_ne_true)]
  refine wpAny_bind (wpAny_pure (wpAny_bind (wpAny_pure ?_)))
  refine wpAny_bind (wpAny_dictEntries hoa rfl ?_)
  dsimp only
  refine wpAny_bind (wpAny_dictEntries hob rfl ?_)
  have hsz : es.size = es'.size := by rw [hea.size, heb.size, hlen]
  rw [if_neg (by rw [hsz]; simp)]
  refine wpAny_bind (wpAny_dictEpoch hoa rfl ?_)
  refine wpAny_bind ?_
  rw [Std.Legacy.Range.forIn_eq_forIn_range']
  simp only [Std.Legacy.Range.size, Nat.sub_zero, Nat.add_sub_cancel, Nat.div_one]
  refine wpAny_forIn_list _ (fun rest q s' => s' = s ∧ q = (none, ()) ∧ ∀ x ∈ rest, x < es.size) _ ?_ ?_ _ _ ⟨rfl, rfl, fun x hx => by simpa using hx⟩
  · rintro x rest q s' ⟨rfl, rfl, hall⟩
    have hlt : x < es.size := hall x List.mem_cons_self
    refine wpAny_bind (wpAny_dictEntries hoa rfl ?_)
    rw [Array.getElem?_eq_getElem hlt]
    obtain ⟨y, hy, hye⟩ := hea.at (Array.getElem?_eq_getElem hlt)
    rw [hye]
    have hym := List.mem_of_getElem? hy
    obtain ⟨j, p, hj, heq⟩ := hsame y hym
    show wpAny _ _ (holding [.ref y.2.1, y.2.2] _ >>= _) _ _ _
    refine wpAny_bind (wpAny_holding (wpAny_bind ?_))
    refine wpAny_dictFind_heap (knd := tupleKind knd) (k := y.1) hu (hka y hym) hob rfl heb.1 hkb heb.2 (fun hno => absurd hj (hno j p)) (fun j' p' hj' => ?_)
    have hjj : j' = j := idxH_unique heb.2 hj' hj
    subst hjj
    have hpp : p' = p := by rw [hj] at hj'; exact ((Prod.mk.injEq .. ▸ Option.some.inj hj').2).symm
    subst hpp
    refine wpAny_bind (wpAny_dictEntries hob rfl ?_)
    rw [entry_at heb.1 j', hj]
    refine wpAny_holding (heq pr w _ _ ?_)
    show wpAny _ _ (if (!true) = true then _ else _) _ _ _
    rw [if_neg (by decide)]
    refine wpAny_bind (wpAny_dictEpoch hoa rfl ?_)
    rw [if_neg (by simp)]
    exact wpAny_pure ⟨rfl, rfl, fun z hz => hall z (List.mem_cons_of_mem _ hz)⟩
  · rintro q s' ⟨rfl, rfl, _⟩
    exact wpAny_pure h

theorem dict_ne_same {a b : Addr} {es es' : Array DictEntry} {ep ep' : Nat} {ys ys' : List (List K × Addr × Value)} {Q : Value → Shared → Prop} (ha : (a == sysModules) = false) (hb : (b == sysModules) = false)
    (hoa : s.heap.get? a = some (dictO es ep)) (hob : s.heap.get? b = some (dictO es' ep')) (hea : EntriesAre knd es ys) (heb : EntriesAre knd es' ys')
    (hka : ∀ y ∈ ys, IsTupleKey knd s.heap y.1 y.2.1) (hkb : ∀ y ∈ ys', IsTupleKey knd s.heap y.1 y.2.1) (hu : A.units + 1 < cLine) (hlen : ys.length = ys'.length)
    (hsame : ∀ y ∈ ys, ∃ (j : Nat) (p : Addr × Value), ys'[j]? = some (y.1, p) ∧ SeqAt.EqAt A.in1 s y.2.2 p.2 true) (h : Q (.bool false) s) :
    wpAny (model pr w) A (compareOp .NotEq (.ref a) (.ref b)) Q E s := by
  have hTa : s.TypeIs (.ref a) "dict" := ⟨_, hoa, rfl⟩
  have hTb : s.TypeIs (.ref b) "dict" := ⟨_, hob, rfl⟩
  refine wpAny_richCompare_same_room (op := .NotEq) hTa hTb PySem.F.slot_dict_ne (wpAny_call_entry PySem.F.slot_dict_ne hTa PySem.F.entry_dict_ne ?_ (PySem.F.args_dict_ne_2 _ _)) (Nat.lt_of_succ_lt hu)
  show wpAny _ _ (Builtin.Dict.dictSlotArgs "__ne__" ⟨[.ref a, .ref b], []⟩ >>= _) _ _ s
  refine wpAny_bind ?_
  unfold Builtin.Dict.dictSlotArgs
  refine wpAny_bind (wpAny_notOrdered_dict hTa ?_)
  show wpAny _ _ (pure (Value.ref a, Value.ref b)) _ _ s
  refine wpAny_pure ?_
  refine wpAny_bind (wpAny_isInstance (T := "dict") hTb PySem.F.sub_dict_dict ?_)
  simp only [Bool.not_true, Bool.false_eq_true, if_false]
  refine wpAny_bind (wpAny_pure (wpAny_bind (wpAny_pure ?_)))
  refine wpAny_bind (same_pairs ha hb hoa hob hea heb hka hkb hu hlen hsame ?_)
  refine wpAny_pure ⟨_, rfl, ?_, ?_⟩
  · exact fun x => nomatch x
  · simpa using h
end
/-- two tables that say the same -/
def SameTab (xs us : List (Nat × Nat)) : Prop := xs.length = us.length ∧ ∀ x ∈ xs, (us.find? fun u => decide (u.1 = x.1)) = some x
theorem atKey_get {K : Type} [DecidableEq K] {ys : List (K × Addr × Value)} {k : K} {p : Addr × Value} (h : PySem.atKey ys k = some p) : ∃ j : Nat, ys[j]? = some (k, p) := by
  unfold PySem.atKey at h
  cases hf : ys.find? fun x => decide (x.1 = k) with
  | none => rw [hf] at h; cases h
  | some y =>
    rw [hf] at h
    have hk : y.1 = k := by simpa using List.find?_some hf
    obtain ⟨j, hj⟩ := List.mem_iff_getElem?.mp (List.mem_of_find?_eq_some hf)
    refine ⟨j, ?_⟩
    rw [hj, ← hk]
    injection h with h
    rw [← h]
theorem f_dne {w : World} {A : Around} {E : Value → Shared → Prop} {s : Shared} {h₀ : Heap} {L : Addr} {news : List (Addr × Obj)} {v u : Value} {xs us : List (Nat × Nat)} {Q : Value → Shared → Prop} (N : News h₀ L s.heap news)
    (h1 : IsTab w news v xs) (h2 : IsTab w news u us) (hs : SameTab xs us) (hu : A.units + 1 < cLine) (h : Q (.bool false) s) : wpAny (model pr w) A (compareOp .NotEq v u) Q E s := by
  obtain ⟨d1, es1, ep1, ys1, rfl, hS1, hm1, he1, hk1, hkv1⟩ := h1
  obtain ⟨d2, es2, ep2, ys2, rfl, hS2, hm2, he2, hk2, hkv2⟩ := h2
  refine dict_ne_same hS1 hS2 (N _ hm1).1 (N _ hm2).1 he1 he2 ?_ ?_ hu (by rw [hkv1.length, hkv2.length]; exact hs.1) ?_ h
  · intro y hy
    obtain ⟨ok, e1, e2⟩ := hk1 y hy
    exact e2.key (N _ e1).1
  · intro y hy
    obtain ⟨ok, e1, e2⟩ := hk2 y hy
    exact e2.key (N _ e1).1
  · intro y hy
    have go : ∀ {ys : List (List (Int ⊕ Str) × Addr × Value)} {xs : List (Nat × Nat)}, KV ys xs → y ∈ ys → ∃ x ∈ xs, y.1 = keyOf x.1 ∧ ∃ t, y.2.2 = .int ((x.2 : Nat) : Int) t := by
      intro ys xs h
      induction h with
      | nil => intro hy; cases hy
      | cons h1 _ ih =>
        intro hy
        rcases List.mem_cons.mp hy with rfl | hy
        · exact ⟨_, .head _, h1⟩
        · obtain ⟨x, hx, r⟩ := ih hy
          exact ⟨x, .tail _ hx, r⟩
    obtain ⟨x, hx, e1, t, e2⟩ := go hkv1 hy
    have hf := hs.2 x hx
    have hat := hkv2.atKey x.1
    rw [hf] at hat
    obtain ⟨a, t', hat⟩ := hat
    obtain ⟨j, hj⟩ := atKey_get hat
    refine ⟨j, (a, .int ((x.2 : Nat) : Int) t'), by rw [e1]; exact hj, ?_⟩
    rw [e2]
    have := SeqAt.EqAt.int_int (A := A.in1) (s := s) ((x.2 : Nat) : Int) t ((x.2 : Nat) : Int) t'
    rwa [beq_self_eq_true] at this
end Foata
end
section
open PySem PySem.W PySem.Calls PyProof.Rows
set_option maxRecDepth 100000
set_option maxHeartbeats 8000000
namespace Foata
local macro_rules | `(tactic| news_mem) => `(tactic| first | assumption | exact List.Mem.head _ | (refine List.Mem.tail _ ?_; news_mem) | (refine List.mem_append_left _ ?_; news_mem) | (refine List.mem_append_right _ ?_; news_mem))
local macro_rules | `(tactic| ktr_unf) => `(tactic| first | exact List.forall_mem_nil _ | with_unfolding_all rfl | exact (if_neg (by decide)).trans (by assumption) | assumption | (refine List.forall_mem_cons.mpr ⟨?_, ?_⟩ <;> ktr_unf))
local macro_rules | `(tactic| ktr_rel) => `(tactic| ((try simp only [List.length_append, List.length_cons, List.length_nil, up_length, List.length_map, Array.size_push, List.size_toArray] at *); omega))
local macro_rules | `(tactic| walk_at "pyIter ref") => `(tactic| refine Stop.out ?_)
local macro_rules | `(tactic| walk_at "exec While BoolOp cons") => `(tactic| refine Stop.out ?_)
local macro_rules | `(tactic| walk_at "exec While Compare cons nil") => `(tactic| refine Stop.out ?_)
local macro_rules | `(tactic| walk_at "exec While") => `(tactic| refine Stop.out ?_)
local macro_rules | `(tactic| walk_at "call ref") => `(tactic| refine Stop.out ?_)
local macro_rules | `(tactic| walk_at "call builtin:list.append") => `(tactic| refine Stop.out ?_)
local macro_rules | `(tactic| walk_at "compareOp NotIn int ref") => `(tactic| (refine notin_list_ints (News.isList (by assumption) (by news_mem)) (by assumption) ?_))
local macro_rules | `(tactic| walk_at "compareOp In int ref") => `(tactic| (refine in_list_ints (News.isList (by assumption) (by news_mem)) (by assumption) ?_))
local macro_rules | `(tactic| walk_at "binaryOp Add ref ref") => `(tactic| (refine f_add (by assumption) (by assumption) (by news_mem) (by news_mem) (by first | assumption | l_ints) (by first | assumption | l_ints) (by ktr_rel) ?_; intro D' h' l1 F' N' hi'))
local macro_rules | `(tactic| walk_at "last call builtin:len") => `(tactic| (refine f_len (by assumption) (by news_mem) (by ktr_rel) ?_))
local macro_rules | `(tactic| walk_at "last subscriptTail") => `(tactic| (refine f_item (by assumption) (by news_mem) (by assumption) (by assumption) (by assumption) ?_))
local macro_rules | `(tactic| walk_at "compareOp Lt ref ref") => `(tactic| (refine f_lt (by assumption) (by news_mem) (by news_mem) (by assumption) (by assumption) (by (dsimp only [ktrTop]; omega)) ?_))
local macro_rules | `(tactic| walk_at "call builtin:list.insert") => `(tactic| refine Stop.out ?_)
local macro_rules | `(tactic| walk_at "eval ListComp") => `(tactic| refine Stop.out ?_)
local macro_rules | `(tactic| walk_at "eval Name") => `(tactic| first
  | (refine f_cell (by assumption) rfl rfl rfl (by news_mem) (by assumption) (by decide) ?_)
  | (refine f_loc (by assumption) rfl rfl (by news_mem) (by assumption) (by assumption) (by decide) ?_))
local macro_rules | `(tactic| walk_at "subscriptTail Name Slice ref ref") => `(tactic| (refine f_slice_to (by assumption) (by assumption) (by news_mem) (by assumption) (by omega) (by ktr_rel) ?_ (by with_unfolding_all rfl) (by intro _; with_unfolding_all rfl); intro D' h' us' l1 F' N' hi'))
/-! FRings -/
section
theorem topOff_FRings : True := by
  w_top off
  trivial
section
variable {w : World} {loose : List Str} {mean : ExcName → Option Value} {mg mb : Str → Option Value} {news : List (Addr × Obj)}
 {dp un : Nat} {gd : Option (List Code)} {cn : Str} {cs : Scope} {a : Addr} {ccd : Value} {cl : List (Str × Addr)} {outer : List Env} {A₀ : Around} {base h₀ : Heap} {L : Addr} {m : Str → Option Value} {s : Shared} {Q E : Value → Shared → Prop}

theorem rings_ok {v : Value} {o : List Nat} (B : Below A₀ base outer h₀) (F : Fr h₀ L s.heap m) (X : (Foata.hd.heap_39 w.params).In h₀) (N : News h₀ L s.heap news) (T : Top Foata.hd.view_39 loose mean mg mb h₀) (hk : cs.kind = .function)
  (hv : IsL news v (up o)) (hlt : ∀ x ∈ o, x < o.length) (hlen : o.length ≤ 64) (hdp : dp + 1 < recursionLimit) (hu : un + 8 < cLine)
  (hret : ∀ r tl h' tk', Fr h₀ L h' m → News h₀ L h' (tl ++ news) → Fresh news tl → IsLL tl r ((rings o).map up) → Q r { s with heap := h', toks := tk' }) :
  wpAny (model pr w) (ktrTop dp un gd cn cs L a ccd cl outer) (call (.ref 53) [v]) Q E s := by
  have hfill : PySem.Challenge.rw_gh0002_01 = PySem.Challenge.rw_gh0002_01 ∧ Foata.hd.heap_39 = Foata.hd.heap_39 := by
    k_fill
    exact ⟨rfl, rfl⟩
  clear hfill
  obtain ⟨l, vs, n, rfl, hl, hi⟩ := hv
  have hln : (up o).length ≤ 64 := by simpa using hlen
  refine enterG (binds := [(Str.ofString "order", .ref l)]) (fun news' v => ∃ tl, (∀ p ∈ tl ++ news, p ∈ news') ∧ Fresh news tl ∧ IsLL tl v ((rings o).map up)) B F X N T hk (by k_is) (by k_is) (by omega) (BindsTo.of_eq rfl) (locs rfl) ?_ ?_ rfl rfl rfl (by decide)
  rotate_left
  · rintro v news' h' tk' F' N' ⟨tl, hs, hf, hr⟩
    exact hret v tl h' tk' F' (newsSub N' hs) hf hr
  clear hret N F
  intro g L' h₁ tk F' N' B' X' T'
  (try dsimp only)
  k_steps
  refine Stop.mk ?_
  rename_i sA hp1 lt1 fA hp2 lt2 tA hp3 lt3 hp4 hp5 hp6 F1 N1 h7 tk7 rt1 rt2 rt3 hR F2 N2 hK
  have hsm : Builtin.Range.small (↑(up o).length - 1) (0 - 1) (0 - 1) = true := small_down (by omega) (by omega) (by omega) (by omega)
  have hsz : Builtin.Range.rangeSize (↑(up o).length - 1) (0 - 1) (0 - 1) = ((o.length : Nat) : Int) := by
    have := rangeSize_downNat (↑(up o).length - 1) (0 - 1)
    rw [show (0 - 1 : Int) = -1 from rfl] at this ⊢
    rw [this]; simp
  refine loop_range (L := L') (fun i m nw => ∃ sv us k tl, m (Str.ofString "order") = some (.ref l) ∧ m (Str.ofString "seen") = some sv ∧ m (Str.ofString "found") = some (.ref fA) ∧
      nw = (fA, listOf us.toArray k) :: (tl ++ news) ∧ Fresh news tl ∧ (∀ p ∈ tl, p.1 ≠ fA) ∧ IsL tl sv (up (ringsN o i).1) ∧ AreL tl us ((ringsN o i).2.map up))
    rfl rfl hR hsm hsz F2 (newsSub N2 (l' := (fA, listOf [].toArray 0) :: ([(sA, listOf #[] 0)] ++ news)) ?_) ?_ ?_ ?_
  · intro p hp
    simp only [List.mem_cons, List.singleton_append] at hp
    rcases hp with rfl | rfl | hp <;> simp [*]
  · refine ⟨.ref sA, [], 0, [(sA, listOf #[] 0)], ?_, ?_, ?_, rfl, ?_, ?_, ⟨sA, [], 0, rfl, by simp, .nil⟩, .nil⟩
    · exact (if_neg (by decide)).trans ((if_neg (by decide)).trans rfl)
    · exact if_pos rfl
    · exact (if_neg (by decide)).trans (if_pos rfl)
    · intro q hq p hp; rw [List.mem_singleton.mp hp]; exact lt1 q hq
    · intro p hp; rw [List.mem_singleton.mp hp]; exact Nat.ne_of_lt lt2.1
  · rintro I i t m₁ nw h tk it hltI hi ⟨sv, us, k, tl, ho, hs, hf, rfl, hfr, hne, ⟨qA, ss, sk, rfl, hsm', hsi⟩, hfo⟩ hneI F3 N3
    have hplace : (↑(up o).length - 1 + (i : Int) * (0 - 1) : Int) = ((o.length - 1 - i : Nat) : Int) := by
      rw [up_length]; omega
    rw [hplace] at F3
    have F4 := Fr.canon [(Str.ofString "place", .int ((o.length - 1 - i : Nat) : Int) t), (Str.ofString "order", .ref l), (Str.ofString "seen", .ref qA), (Str.ofString "found", .ref fA)] F3 (by ktr_unf)
    clear F3 F1 N1 F2 N2 hK hR
    have hlt' : (((o.length - 1 - i : Nat)) : Int) < ((up o).length : Int) := by rw [up_length]; omega
    k_steps
    · rename_i hin
      rw [up_any, decide_eq_true_eq] at hin
      refine ⟨_, _, _, _, rfl, F4, N3, (fun _ h => nomatch h), hneI, .ref qA, us, k, tl, ?_, ?_, ?_, rfl, hfr, hne, ?_, ?_⟩
      · rfl
      · rfl
      · rfl
      · rw [ringsN]; simp only [if_pos hin]; exact ⟨qA, ss, sk, rfl, hsm', hsi⟩
      · rw [ringsN]; simp only [if_pos hin]; exact hfo
    · refine Stop.mk ?_
      rename_i hnin rA hq1 ltr th dA hq2 ltd hq3 hq4 h5 F5 N5
      rw [up_any, decide_eq_false_iff_not] at hnin
      have hpl : o.length - 1 - i < o.length := by omega
      rw [show ((up o).getD (((o.length - 1 - i : Nat) : Int)).toNat 0) = ((o.getD (o.length - 1 - i) 0 : Nat) : Int) by rw [Int.toNat_natCast, up_getD]] at F5
      generalize hpe : o.length - 1 - i = place at *
      refine wpAny_mono (Q := fun f s' => Stop <| f = .next ∧ ∃ h' tk' m' tl2 rv, s' = { s with heap := h', toks := tk' } ∧ Fr g L' h' m' ∧ News g L' h' ((I, it) :: (fA, listOf us.toArray k) :: ((tl2 ++ tl) ++ news)) ∧
          m' (Str.ofString "order") = some (.ref l) ∧ m' (Str.ofString "seen") = some (.ref qA) ∧ m' (Str.ofString "found") = some (.ref fA) ∧ m' (Str.ofString "ring") = some rv ∧
          Fresh news tl2 ∧ (∀ p ∈ tl2, p.1 ≠ fA ∧ p.1 ≠ I) ∧ IsL tl2 rv (up (ringAt o place))) ?_ ?_ (fun _ _ x => x)
      · refine While_inv2 (n₀ := o.length + 2 - [place].length) (fun c m nw => ∃ r here t2 tl2 rv, m (Str.ofString "place") = some (.int ((place : Nat) : Int) t) ∧
          m (Str.ofString "order") = some (.ref l) ∧ m (Str.ofString "seen") = some (.ref qA) ∧ m (Str.ofString "found") = some (.ref fA) ∧ m (Str.ofString "ring") = some rv ∧ m (Str.ofString "here") = some (.int ((here : Nat) : Int) t2) ∧
          nw = ((I, it) :: (fA, listOf us.toArray k) :: ((tl2 ++ tl) ++ news)) ∧ Fresh news tl2 ∧ (∀ p ∈ tl2, p.1 ≠ fA ∧ p.1 ≠ I) ∧ IsL tl2 rv (up r) ∧
          chase o place (o.length + 2 - r.length) r here = ringAt o place ∧ r.length ≤ o.length + 1 ∧ here < o.length ∧ c = o.length + 2 - r.length) F5
          (newsSub N5 (l' := ((I, it) :: (fA, listOf us.toArray k) :: (([(rA, listOf #[Value.int ((place : Nat) : Int) t] 0)] ++ tl) ++ news))) ?_) ?_ ?_ PassesOwn.never
        · intro p hp
          simp only [List.mem_cons, List.singleton_append, List.cons_append, List.mem_append] at hp ⊢
          grind
        · refine ⟨[place], o.getD place 0, th, [(rA, listOf #[Value.int ((place : Nat) : Int) t] 0)], .ref rA, rfl, rfl, rfl, rfl, rfl, rfl, rfl, ?_, ?_, ⟨rA, [Value.int ((place : Nat) : Int) t], 0, rfl, by simp, .cons _ _ .nil⟩, rfl, ?_, getD_lt hlt hpl, rfl⟩
          · intro q hq p hp; rw [List.mem_singleton.mp hp]; exact (AllLt.app ltr.2.2).2 q hq
          · intro p hp; rw [List.mem_singleton.mp hp]; exact ⟨Nat.ne_of_gt ltr.2.1, Nat.ne_of_gt ltr.1⟩
          · simp
        · rintro c m₂ nw h₂ tk₂ F6 N6 ⟨r, here, t2, tl2, rv, hm1, hm2, hm3, hm4, hm5, hm6, rfl, hfr2, hne2, ⟨rA', rs, rk, rfl, hrm, hri⟩, hch, hrl, hhl, rfl⟩
          have F7 := Fr.canon [(Str.ofString "place", .int ((place : Nat) : Int) t), (Str.ofString "order", .ref l), (Str.ofString "seen", .ref qA), (Str.ofString "found", .ref fA), (Str.ofString "ring", .ref rA'), (Str.ofString "here", .int ((here : Nat) : Int) t2)] F6 (by ktr_unf)
          clear F6 F5 N5
          have hrl' : (up r).length ≤ o.length + 1 := by simpa using hrl
          have hhl' : ((here : Nat) : Int) < ((up o).length : Int) := by rw [up_length]; omega
          k_steps
          · rename_i c1 c2 tk9 bA hb1 ltb nA hb2 ltn hni tn uA hb3 ltu hb4 hb5 hb6 F8 N8
            rw [show ((up o).getD ((here : Nat) : Int).toNat 0) = ((o.getD here 0 : Nat) : Int) by rw [Int.toNat_natCast, up_getD]] at F8
            have hrl2 : r.length ≤ o.length := by rw [up_length, up_length] at c2; omega
            have hne3 : here ≠ place := by omega
            refine ⟨_, _, _, _, o.length + 2 - (r ++ [here]).length, rfl, F8, newsSub N8 (l' := ((I, it) :: (fA, listOf us.toArray k) :: ((((nA, listOf (rs ++ [Value.int ((here : Nat) : Int) t2]).toArray 0) :: tl2) ++ tl) ++ news))) ?_, ?_,
              r ++ [here], o.getD here 0, tn, (nA, listOf (rs ++ [Value.int ((here : Nat) : Int) t2]).toArray 0) :: tl2, .ref nA, rfl, rfl, rfl, rfl, rfl, rfl, rfl, ?_, ?_, ⟨nA, _, 0, rfl, .head _, by simpa using hni⟩, ?_, ?_, getD_lt hlt hhl, rfl⟩
            · intro p hp
              simp only [List.mem_cons, List.cons_append, List.mem_append] at hp ⊢
              grind
            · simp only [List.length_append, List.length_cons, List.length_nil]; omega
            · intro q hq p hp
              rcases List.mem_cons.mp hp with rfl | hp
              · exact ltn q (by news_mem)
              · exact hfr2 q hq p hp
            · intro p hp
              rcases List.mem_cons.mp hp with rfl | hp
              · exact ⟨Nat.ne_of_gt (ltn (fA, _) (by news_mem)), Nat.ne_of_gt (ltn (I, _) (by news_mem))⟩
              · exact hne2 p hp
            · rw [← hch, show o.length + 2 - r.length = (o.length + 2 - (r ++ [here]).length) + 1 by simp only [List.length_append, List.length_cons, List.length_nil]; omega, chase_step hne3 hrl2]
            · simp only [List.length_append, List.length_cons, List.length_nil]; omega
          · rename_i c1 c2
            refine Stop.mk ⟨by first | rfl | trivial, h₂, _, _, tl2, .ref rA', rfl, F7, N6, rfl, rfl, rfl, rfl, hfr2, hne2, ⟨rA', rs, rk, rfl, hrm, ?_⟩⟩
            rw [← hch, chase_stop (.inr (by rw [up_length, up_length] at c2; omega))]; exact hri
          · rename_i c1
            refine Stop.mk ⟨by first | rfl | trivial, h₂, _, _, tl2, .ref rA', rfl, F7, N6, rfl, rfl, rfl, rfl, hfr2, hne2, ⟨rA', rs, rk, rfl, hrm, ?_⟩⟩
            rw [← hch, chase_stop (.inl (by omega))]; exact hri
      · rintro f s' ⟨rfl, h', tk', m', tl2, rv, rfl, F6, N6, hm1, hm2, hm3, hm4, hfr2, hne2, ⟨rA', rs, rk, rfl, hrm, hri⟩⟩
        have F7 := Fr.canon [(Str.ofString "order", .ref l), (Str.ofString "seen", .ref qA), (Str.ofString "found", .ref fA), (Str.ofString "ring", .ref rA')] F6 (by ktr_unf)
        clear F6 F5 N5
        have hrz : (up (ringAt o place)).length ≤ 65 := by rw [up_length]; have := ringAt_length o place; omega
        have hsz : (up (ringsN o i).1).length ≤ 4160 := by rw [up_length]; exact (ringsN_small hlen (Nat.le_of_lt hi)).1
        have husz : us.length ≤ 64 := by have := hfo.length; rw [List.length_map] at this; rw [this]; exact (ringsN_small hlen (Nat.le_of_lt hi)).2
        dsimp only
        k_steps
        refine Stop.mk ?_
        have hIf : I ≠ fA := Nat.ne_of_gt (hltI (fA, listOf #[] 0) (.head _))
        have hoff : ∀ p ∈ tl2 ++ tl ++ news, p.1 ≠ fA := by
          intro p hp
          rcases List.mem_append.mp hp with hp | hp
          · rcases List.mem_append.mp hp with hp | hp
            · exact (hne2 p hp).1
            · exact hne p hp
          · exact Nat.ne_of_lt (ltOf lt2.2 p hp)
        refine f_append (pre := [_]) F7 N6 ?_ hoff (by rw [List.size_toArray]; omega) ?_
        · intro p hp; rw [List.mem_singleton.mp hp]; exact hIf
        · intro h8 F8 N8
          rw [List.push_toArray] at N8
          clear F7 N6
          simp only [List.cons_append, List.nil_append] at N8
          k_steps
          rename_i nA h9 ltn hni h10 F9 N9
          refine ⟨_, _, _, (fA, listOf (us ++ [Value.ref rA']).toArray (k + 1)) :: ((((nA, listOf (ss ++ rs).toArray 0) :: tl2) ++ tl) ++ news), rfl, F9, newsSub N9 ?_, (fun _ h => nomatch h), ?_,
            .ref nA, _, _, ((nA, listOf (ss ++ rs).toArray 0) :: tl2) ++ tl, rfl, rfl, rfl, rfl, ?_, ?_, ?_, ?_⟩
          · intro p hp
            simp only [List.mem_cons, List.cons_append, List.mem_append] at hp ⊢
            grind
          · intro p hp
            simp only [List.mem_cons, List.cons_append, List.mem_append] at hp
            rcases hp with rfl | rfl | (hp | hp) | hp
            · exact Ne.symm hIf
            · exact Nat.ne_of_gt (ltn (I, it) (.head _))
            · exact (hne2 p hp).2
            · exact hneI p (by news_mem)
            · exact hneI p (by news_mem)
          · intro q hq p hp
            simp only [List.mem_cons, List.cons_append, List.mem_append] at hp
            rcases hp with rfl | hp | hp
            · exact ltn q (by news_mem)
            · exact hfr2 q hq p hp
            · exact hfr q hq p hp
          · intro p hp
            simp only [List.mem_cons, List.cons_append, List.mem_append] at hp
            rcases hp with rfl | hp | hp
            · exact Nat.ne_of_gt (ltn (fA, listOf (us ++ [Value.ref rA']).toArray (k + 1)) (by news_mem))
            · exact (hne2 p hp).1
            · exact hne p hp
          · rw [ringsN, hpe]; simp only [if_neg hnin]; rw [up_append]
            exact ⟨nA, _, 0, rfl, .head _, hni⟩
          · rw [ringsN, hpe]; simp only [if_neg hnin]; rw [List.map_append]
            refine AreL.append (hfo.mono fun p hp => List.mem_append_right _ hp) (.cons ⟨rA', rs, rk, rfl, by news_mem, hri⟩ .nil)
  · rintro m₁ nw h tk ⟨sv, us, k, tl, ho, hs, hf, rfl, hfr, hne, hsi, hfo⟩ F3 N3
    have F4 := Fr.canon [(Str.ofString "order", .ref l), (Str.ofString "seen", sv), (Str.ofString "found", .ref fA)] F3 (by ktr_unf)
    clear F3 F1 N1 F2 N2 hK hR
    dsimp only
    k_steps
    refine ⟨.ref fA, _, _, _, _, rfl, rfl, F4, N3, (fA, listOf us.toArray k) :: tl, ?_, ?_, ⟨fA, us, k, rfl, .head _, ?_⟩⟩
    · intro p hp; simpa using hp
    · intro q hq p hp
      rcases List.mem_cons.mp hp with rfl | hp
      · exact ltOf lt2.2 q hq
      · exact hfr q hq p hp
    · exact hfo.mono fun p hp => .tail _ hp
end
end
/-! FBis -/
section
theorem topOff_FBis : True := by
  w_top off
  trivial
section
variable {w : World} {loose : List Str} {mean : ExcName → Option Value} {mg mb : Str → Option Value} {news : List (Addr × Obj)}
 {dp un : Nat} {gd : Option (List Code)} {cn : Str} {cs : Scope} {a : Addr} {ccd : Value} {cl : List (Str × Addr)} {outer : List Env} {A₀ : Around} {base h₀ : Heap} {L : Addr} {m : Str → Option Value} {s : Shared} {Q E : Value → Shared → Prop}

theorem bisI_ok {v : Value} {xs : List Int} {x : Int} {tx : Tok} (B : Below A₀ base outer h₀) (F : Fr h₀ L s.heap m) (X : (Foata.hd.heap_39 w.params).In h₀) (N : News h₀ L s.heap news) (T : Top Foata.hd.view_39 loose mean mg mb h₀) (hk : cs.kind = .function)
  (hv : IsL news v xs) (hlen : xs.length ≤ 4096) (hdp : dp + 1 < recursionLimit)
  (hret : ∀ t h' tk', Fr h₀ L h' m → News h₀ L h' news → Q (.int ((bis (fun i => decide (xs.getD i 0 < x)) xs.length 0 xs.length : Nat) : Int) t) { s with heap := h', toks := tk' }) :
  wpAny (model pr w) (ktrTop dp un gd cn cs L a ccd cl outer) (call (.ref 32) [v, .int x tx]) Q E s := by
  have hfill : PySem.Challenge.rw_gh0002_01 = PySem.Challenge.rw_gh0002_01 ∧ Foata.hd.heap_39 = Foata.hd.heap_39 := by
    k_fill
    exact ⟨rfl, rfl⟩
  clear hfill
  obtain ⟨l, vs, n, rfl, hl, hi⟩ := hv
  refine enterG (fun news' v => news' = news ∧ ∃ t, v = .int ((bis (fun i => decide (xs.getD i 0 < x)) xs.length 0 xs.length : Nat) : Int) t) B F X N T hk (by k_is) (by k_is) (by omega) (kp_binds (X.keeps F.keep) (fun _ => rfl)) (locs rfl) ?_ ?_ rfl rfl rfl (by decide)
  rotate_left
  · rintro v news' h' tk' F' N' ⟨rfl, t, rfl⟩
    exact hret t h' tk' F' N'
  clear hret N F
  intro g L' h₁ tk F' N' B' X' T'
  obtain ⟨bm, F0⟩ := Fr.canonE [(Str.ofString "a", .ref l), (Str.ofString "x", .int x tx), (Str.ofString "lo", .int 0 202), (Str.ofString "hi", .none), (Str.ofString "key", .none)] F' (by ktr_unf)
  clear F'
  (try dsimp only)
  k_steps
  refine Stop.mk ?_
  rename_i tk1 h7 F1 N1
  generalize hp : (fun i => decide (xs.getD i 0 < x)) = p
  refine While_inv2 (n₀ := xs.length) (fun c m nw => ∃ lo hi f tl th, m (Str.ofString "a") = some (.ref l) ∧ m (Str.ofString "x") = some (.int x tx) ∧
    m (Str.ofString "lo") = some (.int ((lo : Nat) : Int) tl) ∧ m (Str.ofString "hi") = some (.int ((hi : Nat) : Int) th) ∧ nw = news ∧ lo ≤ hi ∧ hi ≤ xs.length ∧ hi - lo ≤ f ∧
    bis p f lo hi = bis p xs.length 0 xs.length ∧ c = hi - lo) F1 N1 ⟨0, xs.length, xs.length, 202, tk1 + 1, rfl, rfl, rfl, rfl, rfl, Nat.zero_le _, Nat.le_refl _, Nat.le_refl _, rfl, rfl⟩ ?_ PassesOwn.never
  rintro c m₂ nw h₂ tk₂ F6 N6 ⟨lo, hi', f, tl, th, hm1, hm2, hm3, hm4, rfl, hlh, hhn, hf, hb, rfl⟩
  have F7 := Fr.canon [(Str.ofString "a", .ref l), (Str.ofString "x", .int x tx), (Str.ofString "lo", .int ((lo : Nat) : Int) tl), (Str.ofString "hi", .int ((hi' : Nat) : Int) th)] F6 (by ktr_unf)
  clear F6 F1 N1
  have e2 := fdiv2 lo hi'
  have hm0 : 0 ≤ Int.fdiv ((lo : Int) + (hi' : Int)) 2 := by rw [e2]; omega
  by_cases hlt : lo < hi'
  · have hm1 : Int.fdiv ((lo : Int) + (hi' : Int)) 2 < (xs.length : Int) := by rw [e2]; omega
    obtain ⟨f, rfl⟩ : ∃ f', f = f' + 1 := ⟨f - 1, by omega⟩
    k_steps
    · rename_i hc h9 F8 N8
      rw [e2] at hc F8
      rw [show (((lo + hi') / 2 : Nat) : Int) + 1 = (((lo + hi') / 2 + 1 : Nat) : Int) by omega] at F8
      refine ⟨_, _, _, _, hi' - ((lo + hi') / 2 + 1), rfl, F8, N8, by omega, (lo + hi') / 2 + 1, hi', f, _, _, rfl, rfl, rfl, rfl, rfl, by omega, hhn, by omega, ?_, rfl⟩
      rw [← hb, bis_right hlt]
      rw [← hp]; rw [Int.toNat_natCast] at hc; simpa using hc
    · rename_i hc h9 F8 N8
      rw [e2] at hc F8
      refine ⟨_, _, _, _, (lo + hi') / 2 - lo, rfl, F8, N8, by omega, lo, (lo + hi') / 2, f, _, _, rfl, rfl, rfl, rfl, rfl, by omega, by omega, by omega, ?_, rfl⟩
      rw [← hb, bis_left hlt]
      rw [← hp]; rw [Int.toNat_natCast] at hc; simpa using hc
  · k_steps
    refine ⟨_, _, _, _, _, rfl, rfl, F7, N6, rfl, tl, ?_⟩
    rw [← hb, bis_done (by omega)]

theorem bisL_ok {v x : Value} {t0 : Tok} {xss : List (List Int)} {ys : List Int} (B : Below A₀ base outer h₀) (F : Fr h₀ L s.heap m) (X : (Foata.hd.heap_39 w.params).In h₀) (N : News h₀ L s.heap news) (T : Top Foata.hd.view_39 loose mean mg mb h₀) (hk : cs.kind = .function)
  (hv : IsLL news v xss) (hx : IsL news x ys) (hlen : xss.length ≤ 4096) (hdp : dp + 1 < recursionLimit) (hu : un + 8 < cLine)
  (hret : ∀ t h' tk', Fr h₀ L h' m → News h₀ L h' news → Q (.int ((bis (fun i => ltL (xss.getD i []) ys) xss.length 0 xss.length : Nat) : Int) t) { s with heap := h', toks := tk' }) :
  wpAny (model pr w) (ktrTop dp un gd cn cs L a ccd cl outer) (call (.ref 32) [v, x, .int 0 t0, .none]) Q E s := by
  have hfill : PySem.Challenge.rw_gh0002_01 = PySem.Challenge.rw_gh0002_01 ∧ Foata.hd.heap_39 = Foata.hd.heap_39 := by
    k_fill
    exact ⟨rfl, rfl⟩
  clear hfill
  obtain ⟨l, vs, n, rfl, hl, hi⟩ := hv
  obtain ⟨lx, us, nx, rfl, hlx, hix⟩ := hx
  have hvl : vs.length = xss.length := hi.length
  refine enterG (fun news' v => news' = news ∧ ∃ t, v = .int ((bis (fun i => ltL (xss.getD i []) ys) xss.length 0 xss.length : Nat) : Int) t) B F X N T hk (by k_is) (by k_is) (by omega) (kp_binds (X.keeps F.keep) (fun _ => rfl)) (locs rfl) ?_ ?_ rfl rfl rfl (by decide)
  rotate_left
  · rintro v news' h' tk' F' N' ⟨rfl, t, rfl⟩
    exact hret t h' tk' F' N'
  clear hret N F
  intro g L' h₁ tk F' N' B' X' T'
  obtain ⟨bm, F0⟩ := Fr.canonE [(Str.ofString "a", .ref l), (Str.ofString "x", .ref lx), (Str.ofString "lo", .int 0 t0), (Str.ofString "hi", .none), (Str.ofString "key", .none)] F' (by ktr_unf)
  clear F'
  (try dsimp only)
  k_steps
  refine Stop.mk ?_
  rename_i tk1 h7 F1 N1
  rw [hvl] at F1
  generalize hp : (fun i => ltL (xss.getD i []) ys) = p
  refine While_inv2 (n₀ := xss.length) (fun c m nw => ∃ lo hi f tl th, m (Str.ofString "a") = some (.ref l) ∧ m (Str.ofString "x") = some (.ref lx) ∧
    m (Str.ofString "lo") = some (.int ((lo : Nat) : Int) tl) ∧ m (Str.ofString "hi") = some (.int ((hi : Nat) : Int) th) ∧ nw = news ∧ lo ≤ hi ∧ hi ≤ xss.length ∧ hi - lo ≤ f ∧
    bis p f lo hi = bis p xss.length 0 xss.length ∧ c = hi - lo) F1 N1 ⟨0, xss.length, xss.length, _, _, rfl, rfl, rfl, rfl, rfl, Nat.zero_le _, Nat.le_refl _, Nat.le_refl _, rfl, rfl⟩ ?_ PassesOwn.never
  rintro c m₂ nw h₂ tk₂ F6 N6 ⟨lo, hi', f, tl, th, hm1, hm2, hm3, hm4, rfl, hlh, hhn, hf, hb, rfl⟩
  have F7 := Fr.canon [(Str.ofString "a", .ref l), (Str.ofString "x", .ref lx), (Str.ofString "lo", .int ((lo : Nat) : Int) tl), (Str.ofString "hi", .int ((hi' : Nat) : Int) th)] F6 (by ktr_unf)
  clear F6 F1 N1
  have e2 := fdiv2 lo hi'
  by_cases hlt : lo < hi'
  · obtain ⟨f, rfl⟩ : ∃ f', f = f' + 1 := ⟨f - 1, by omega⟩
    have hvm : vs[(Int.fdiv ((lo : Int) + (hi' : Int)) 2).toNat]? = some vs[(lo + hi') / 2] := by
      rw [e2, Int.toNat_natCast]; exact List.getElem?_eq_getElem _
    obtain ⟨zs, hz1, ⟨lz, wz, nz, hz2, hz3, hz4⟩⟩ := hi.get ((lo + hi') / 2) _ (by rw [e2, Int.toNat_natCast] at hvm; exact hvm)
    have hpz : p ((lo + hi') / 2) = ltL zs ys := by
      rw [← hp]; show ltL (xss.getD _ []) ys = _; rw [List.getD_eq_getElem?_getD, hz1]; rfl
    rw [hz2] at hvm
    have hm0 : 0 ≤ Int.fdiv ((lo : Int) + (hi' : Int)) 2 := by rw [e2]; omega
    have hmx : Int.fdiv ((lo : Int) + (hi' : Int)) 2 < 2 ^ 63 := by rw [e2]; omega
    k_steps
    · rename_i hc h9 F8 N8
      rw [e2] at F8
      rw [show (((lo + hi') / 2 : Nat) : Int) + 1 = (((lo + hi') / 2 + 1 : Nat) : Int) by omega] at F8
      refine ⟨_, _, _, _, hi' - ((lo + hi') / 2 + 1), rfl, F8, N8, by omega, (lo + hi') / 2 + 1, hi', f, _, _, rfl, rfl, rfl, rfl, rfl, by omega, hhn, by omega, ?_, rfl⟩
      rw [← hb, bis_right hlt]
      rw [hpz]; exact hc
    · rename_i hc h9 F8 N8
      rw [e2] at F8
      refine ⟨_, _, _, _, (lo + hi') / 2 - lo, rfl, F8, N8, by omega, lo, (lo + hi') / 2, f, _, _, rfl, rfl, rfl, rfl, rfl, by omega, by omega, by omega, ?_, rfl⟩
      rw [← hb, bis_left hlt]
      rw [hpz]; simpa using hc
  · k_steps
    refine ⟨_, _, _, _, _, rfl, rfl, F7, N6, rfl, tl, ?_⟩
    rw [← hb, bis_done (by omega)]

/-- the place where insort_left lays ys -/
def insAt (xss : List (List Int)) (ys : List Int) : Nat := bis (fun i => ltL (xss.getD i []) ys) xss.length 0 xss.length

theorem insort_ok {D : Addr} {vs : List Value} {n : Nat} {x : Value} {xss : List (List Int)} {ys : List Int} {pre post : List (Addr × Obj)} (B : Below A₀ base outer h₀) (F : Fr h₀ L s.heap m) (X : (Foata.hd.heap_39 w.params).In h₀)
  (N : News h₀ L s.heap (pre ++ (D, listOf vs.toArray n) :: post)) (T : Top Foata.hd.view_39 loose mean mg mb h₀) (hk : cs.kind = .function)
  (h1 : ∀ p ∈ pre, p.1 ≠ D) (h2 : ∀ p ∈ post, p.1 ≠ D)
  (hv : AreL (pre ++ (D, listOf vs.toArray n) :: post) vs xss) (hx : IsL (pre ++ (D, listOf vs.toArray n) :: post) x ys) (hlen : xss.length ≤ 4096) (hdp : dp + 2 < recursionLimit) (hu : un + 11 < cLine)
  (hret : ∀ h' tk', Fr h₀ L h' m → News h₀ L h' (pre ++ (D, listOf (vs.take (insAt xss ys) ++ x :: vs.drop (insAt xss ys)).toArray (n + 1)) :: post) → Q .none { s with heap := h', toks := tk' }) :
  wpAny (model pr w) (ktrTop dp un gd cn cs L a ccd cl outer) (call (.ref 23) [.ref D, x]) Q E s := by
  have hfill : PySem.Challenge.rw_gh0002_01 = PySem.Challenge.rw_gh0002_01 ∧ Foata.hd.heap_39 = Foata.hd.heap_39 := by
    k_fill
    exact ⟨rfl, rfl⟩
  clear hfill
  refine enterG (fun news' v => news' = pre ++ (D, listOf (vs.take (insAt xss ys) ++ x :: vs.drop (insAt xss ys)).toArray (n + 1)) :: post ∧ v = .none) B F X N T hk (by k_is) (by k_is) (by omega) (kp_binds (X.keeps F.keep) (fun _ => rfl)) (locs rfl) ?_ ?_ rfl rfl rfl (by decide)
  rotate_left
  · rintro v news' h' tk' F' N' ⟨rfl, rfl⟩
    exact hret h' tk' F' N'
  clear hret N F
  intro g L' h₁ tk F' N' B' X' T'
  obtain ⟨bm, F0⟩ := Fr.canonE [(Str.ofString "a", .ref D), (Str.ofString "x", x), (Str.ofString "lo", .int 0 189), (Str.ofString "hi", .none), (Str.ofString "key", .none)] F' (by ktr_unf)
  clear F'
  (try dsimp only)
  k_steps
  refine Stop.mk ?_
  refine bisL_ok B' F0 X' N' T' rfl ⟨D, vs, n, rfl, List.mem_append_right _ (.head _), hv⟩ hx hlen (by omega) (by omega) ?_
  intro t h8 tk8 F8 N8
  clear F0 N'
  dsimp only
  k_steps
  refine Stop.mk ?_
  rename_i h9 F9 N9
  have hle := (bis_le (p := fun i => ltL (xss.getD i []) ys) (f := xss.length) (lo := 0) (hi := xss.length) (Nat.zero_le _)).2
  have hvl := hv.length
  refine f_insert F9 N9 h1 h2 (by omega) (by omega) ?_
  intro h10 F10 N10
  clear F9 N9
  dsimp only
  k_steps
  exact ⟨_, _, _, _, _, rfl, rfl, F10, N10, rfl, rfl⟩
end
end
/-! FTold -/
section
def insL (xss : List (List Int)) (ys : List Int) : List (List Int) := xss.take (insAt xss ys) ++ ys :: xss.drop (insAt xss ys)
theorem insAt_le (xss : List (List Int)) (ys : List Int) : insAt xss ys ≤ xss.length :=
  (bis_le (p := fun i => ltL (xss.getD i []) ys) (f := xss.length) (lo := 0) (hi := xss.length) (Nat.zero_le _)).2
theorem insL_length (xss : List (List Int)) (ys : List Int) : (insL xss ys).length = xss.length + 1 := by
  have := insAt_le xss ys
  simp only [insL, List.length_append, List.length_take, List.length_cons, List.length_drop]; omega
def lotsOf (rs : List (List Int)) : List (List Int) := rs.foldl insL []
theorem lotsOf_length : ∀ (rs : List (List Int)) (a : List (List Int)), (rs.foldl insL a).length = a.length + rs.length
  | [], a => by simp
  | r :: rs, a => by rw [List.foldl_cons, lotsOf_length rs, insL_length, List.length_cons]; omega
theorem mem_insL {xss : List (List Int)} {ys z : List Int} (h : z ∈ insL xss ys) : z = ys ∨ z ∈ xss := by
  unfold insL at h
  rcases List.mem_append.mp h with h | h
  · exact .inr (List.mem_of_mem_take h)
  · rcases List.mem_cons.mp h with h | h
    · exact .inl h
    · exact .inr (List.mem_of_mem_drop h)
theorem mem_lots : ∀ {rs : List (List Int)} {a : List (List Int)} {z : List Int}, z ∈ rs.foldl insL a → z ∈ a ∨ z ∈ rs
  | [], a, z, h => .inl h
  | r :: rs, a, z, h => by
    rcases mem_lots (rs := rs) h with h | h
    · rcases mem_insL h with rfl | h
      · exact .inr (.head _)
      · exact .inl h
    · exact .inr (.tail _ h)
theorem AreL.take {news : List (Addr × Obj)} {vs : List Value} {xss : List (List Int)} (h : AreL news vs xss) : ∀ k, AreL news (vs.take k) (xss.take k) := by
  induction h with
  | nil => intro k; simp; exact .nil
  | cons h1 _ ih =>
    intro k
    cases k with
    | zero => simp; exact .nil
    | succ k => simp only [List.take_succ_cons]; exact .cons h1 (ih k)
theorem AreL.drop {news : List (Addr × Obj)} {vs : List Value} {xss : List (List Int)} (h : AreL news vs xss) : ∀ k, AreL news (vs.drop k) (xss.drop k) := by
  induction h with
  | nil => intro k; simp; exact .nil
  | cons h1 h2 ih =>
    intro k
    cases k with
    | zero => simp; exact .cons h1 h2
    | succ k => simp only [List.drop_succ_cons]; exact ih k
theorem AreL.ins {news : List (Addr × Obj)} {vs : List Value} {xss : List (List Int)} {v : Value} {ys : List Int} (h : AreL news vs xss) (hy : IsL news v ys) :
    AreL news (vs.take (insAt xss ys) ++ v :: vs.drop (insAt xss ys)) (insL xss ys) := (h.take _).append (.cons hy (h.drop _))
theorem mem_ringsN {o : List Nat} : ∀ {i : Nat} {r : List Nat}, r ∈ (ringsN o i).2 → ∃ p, r = ringAt o p
  | 0, r, h => by simp [ringsN] at h
  | i + 1, r, h => by
    rw [ringsN] at h
    by_cases hc : o.length - 1 - i ∈ (ringsN o i).1
    · simp only [if_pos hc] at h; exact mem_ringsN h
    · simp only [if_neg hc] at h
      rcases List.mem_append.mp h with h | h
      · exact mem_ringsN h
      · exact ⟨_, List.mem_singleton.mp h⟩
theorem rings_small {o : List Nat} (h : o.length ≤ 64) : (rings o).length ≤ 64 ∧ ∀ r ∈ rings o, r.length ≤ 65 := by
  refine ⟨(ringsN_small h (Nat.le_refl _)).2, fun r hr => ?_⟩
  obtain ⟨p, rfl⟩ := mem_ringsN hr
  have := ringAt_length o p; omega

theorem topOff_FTold : True := by
  w_top off
  trivial
section
variable {w : World} {loose : List Str} {mean : ExcName → Option Value} {mg mb : Str → Option Value} {news : List (Addr × Obj)}
 {dp un : Nat} {gd : Option (List Code)} {cn : Str} {cs : Scope} {a : Addr} {ccd : Value} {cl : List (Str × Addr)} {outer : List Env} {A₀ : Around} {base h₀ : Heap} {L : Addr} {m : Str → Option Value} {s : Shared} {Q E : Value → Shared → Prop}

/-- what _law_told hands back -/
def told (o : List Nat) : List Int := (lotsOf ((rings o).map up)).flatten

theorem told_ok {v : Value} {o : List Nat} (B : Below A₀ base outer h₀) (F : Fr h₀ L s.heap m) (X : (Foata.hd.heap_39 w.params).In h₀) (N : News h₀ L s.heap news) (T : Top Foata.hd.view_39 loose mean mg mb h₀) (hk : cs.kind = .function)
  (hv : IsL news v (up o)) (hlt : ∀ x ∈ o, x < o.length) (hlen : o.length ≤ 64) (hdp : dp + 4 < recursionLimit) (hu : un + 20 < cLine)
  (hret : ∀ r tl h' tk', Fr h₀ L h' m → News h₀ L h' (tl ++ news) → Fresh news tl → IsL tl r (told o) → Q r { s with heap := h', toks := tk' }) :
  wpAny (model pr w) (ktrTop dp un gd cn cs L a ccd cl outer) (call (.ref 63) [v]) Q E s := by
  have hfill : PySem.Challenge.rw_gh0002_01 = PySem.Challenge.rw_gh0002_01 ∧ Foata.hd.heap_39 = Foata.hd.heap_39 := by
    k_fill
    exact ⟨rfl, rfl⟩
  clear hfill
  refine enterG (binds := [(Str.ofString "order", v)]) (fun news' r => ∃ tl, (∀ p ∈ tl ++ news, p ∈ news') ∧ Fresh news tl ∧ IsL tl r (told o)) B F X N T hk (by k_is) (by k_is) (by omega) (BindsTo.of_eq rfl) (locs rfl) ?_ ?_ rfl rfl rfl (by decide)
  rotate_left
  · rintro v news' h' tk' F' N' ⟨tl, hs, hf, hr⟩
    exact hret v tl h' tk' F' (newsSub N' hs) hf hr
  clear hret N F
  intro g L' h₁ tk F' N' B' X' T'
  obtain ⟨bm, F0⟩ := Fr.canonE [(Str.ofString "order", v)] F' (by ktr_unf)
  clear F'
  (try dsimp only)
  k_steps
  refine Stop.mk ?_
  rename_i lA h2 lt1 h3 F1 N1
  refine rings_ok B' F1 X' N1 T' rfl (hv.mono fun p hp => .tail _ hp) hlt hlen (by omega) (by omega) ?_
  rintro r tl h4 tk4 F2 N2 hf2 ⟨rb, rus, rk, rfl, hrm, hra⟩
  obtain ⟨hr1, hr2⟩ := rings_small hlen
  have hrl : rus.length ≤ 64 := by rw [hra.length, List.length_map]; exact hr1
  have tlne : ∀ p ∈ tl, p.1 ≠ lA := fun p hp => Nat.ne_of_gt (hf2 (lA, listOf #[] 0) (.head _) p hp)
  have newsne : ∀ p ∈ news, p.1 ≠ lA := fun p hp => Nat.ne_of_lt (lt1 p hp)
  clear F1 N1
  dsimp only
  k_steps
  refine Stop.mk ?_
  refine loop_list (L := L') (fun i m nw => ∃ vs2 k, m (Str.ofString "lots") = some (.ref lA) ∧ nw = tl ++ (lA, listOf vs2.toArray k) :: news ∧ AreL tl vs2 ((((rings o).map up).take i).foldl insL []))
    rfl rfl (List.mem_append_left _ hrm) F2 N2 ⟨[], 0, rfl, rfl, .nil⟩ ?_ ?_
  · rintro I i v1 m₁ nw h tk it hltI hvi ⟨vs2, k, hm1, rfl, hvs2⟩ hlm hneI F3 N3
    obtain ⟨ys, hys, hvy⟩ := hra.get i v1 hvi
    have F4 := Fr.canon [(Str.ofString "ring", v1), (Str.ofString "lots", .ref lA)] F3 (by ktr_unf)
    clear F3 F2 N2
    have hIl : I ≠ lA := Nat.ne_of_gt (hltI (lA, listOf #[] 0) (List.mem_append_right _ (.head _)))
    have hlen2 : ((((rings o).map up).take i).foldl insL []).length ≤ 64 := by
      rw [lotsOf_length]; simp only [List.length_nil, List.length_take, List.length_map]; omega
    k_steps
    refine Stop.mk ?_
    refine insort_ok (pre := (I, it) :: tl) (post := news) B' F4 X' N3 T' rfl ?_ newsne (hvs2.mono fun p hp => .tail _ (List.mem_append_left _ hp)) (hvy.mono fun p hp => .tail _ (List.mem_append_left _ hp)) (by omega) (by omega) (by omega) ?_
    · intro p hp
      rcases List.mem_cons.mp hp with rfl | hp
      · exact hIl
      · exact tlne p hp
    intro h5 tk5 F5 N5
    clear F4 N3
    dsimp only
    k_steps
    refine ⟨_, _, _, _, rfl, F5, N5, ?_, ?_, _, k + 1, rfl, rfl, ?_⟩
    · intro q hq; rw [List.mem_singleton.mp hq]; exact List.mem_append_left _ hrm
    · intro q hq
      rcases List.mem_append.mp hq with hq | hq
      · exact hneI q (List.mem_append_left _ hq)
      · rcases List.mem_cons.mp hq with rfl | hq
        · exact hIl.symm
        · exact hneI q (List.mem_append_right _ (.tail _ hq))
    · have e : (((rings o).map up).take (i + 1)).foldl insL [] = insL ((((rings o).map up).take i).foldl insL []) ys := by
        rw [List.take_add_one, hys]; simp [List.foldl_append]
      rw [e]
      exact AreL.ins hvs2 hvy
  · rintro m₁ nw h tk ⟨vs2, k, hm1, rfl, hvs2⟩ F3 N3
    have F4 := Fr.canon [(Str.ofString "lots", .ref lA)] F3 (by ktr_unf)
    clear F3 F2 N2
    have hall : ((rings o).map up).take rus.length = (rings o).map up := List.take_of_length_le (by rw [hra.length]; exact Nat.le_refl _)
    rw [hall] at hvs2
    have hlv : (((rings o).map up).foldl insL []).length ≤ 64 := by
      rw [lotsOf_length]; simp only [List.length_nil, List.length_map]; omega
    dsimp only
    k_steps
    refine Stop.mk ?_
    refine comp_open (cl := []) rfl rfl (by decide) ?_ (fun _ => rfl)
    k_steps
    refine Stop.mk ?_
    have hmem : (lA, listOf vs2.toArray k) ∈ tl ++ (lA, listOf vs2.toArray k) :: news := List.mem_append_right _ (.head _)
    refine comp_flat rfl hmem (hvs2.mono fun p hp => List.mem_append_left _ hp) (by rw [hvs2.length]; omega) ?_ (by decide) rfl rfl rfl (by decide) (by decide) F4 N3 ?_
    · intro xs hxs
      rcases mem_lots hxs with hxs | hxs
      · cases hxs
      · obtain ⟨r, hr, rfl⟩ := List.mem_map.mp hxs
        have := hr2 r hr
        rw [up_length]; omega
    · intro D acc k5 h5 tk5 hltD hacc F5 N5
      dsimp only
      k_steps
      refine ⟨.ref D, _, _, _, _, rfl, rfl, F5, N5, [(D, listOf acc.toArray k5)], ?_, ?_, ⟨D, acc, k5, rfl, .head _, hacc⟩⟩
      · intro p hp
        rcases List.mem_cons.mp hp with rfl | hp
        · exact .head _
        · exact .tail _ (List.mem_append_right _ (.tail _ hp))
      · intro q hq p hp
        rw [List.mem_singleton.mp hp]
        exact hltD q (List.mem_append_right _ (.tail _ hq))
end
end
/-! FGreat -/
section
theorem topOff_FGreat : True := by
  w_top off
  trivial
section
variable {w : World} {loose : List Str} {mean : ExcName → Option Value} {mg mb : Str → Option Value} {news : List (Addr × Obj)}
 {dp un : Nat} {gd : Option (List Code)} {cn : Str} {cs : Scope} {a : Addr} {ccd : Value} {cl : List (Str × Addr)} {outer : List Env} {A₀ : Around} {base h₀ : Heap} {L : Addr} {m : Str → Option Value} {s : Shared} {Q E : Value → Shared → Prop}

theorem greatest_ok {v : Value} {o : List Nat} (B : Below A₀ base outer h₀) (F : Fr h₀ L s.heap m) (X : (Foata.hd.heap_39 w.params).In h₀) (N : News h₀ L s.heap news) (T : Top Foata.hd.view_39 loose mean mg mb h₀) (hk : cs.kind = .function)
  (hv : IsL news v (up o)) (hlen : o.length ≤ 64) (hdp : dp + 4 < recursionLimit) (hu : un + 20 < cLine)
  (hret : ∀ r tl h' tk', Fr h₀ L h' m → News h₀ L h' (tl ++ news) → Fresh news tl → IsL tl r (up (greatest o)) → Q r { s with heap := h', toks := tk' }) :
  wpAny (model pr w) (ktrTop dp un gd cn cs L a ccd cl outer) (call (.ref 58) [v]) Q E s := by
  have hfill : PySem.Challenge.rw_gh0002_01 = PySem.Challenge.rw_gh0002_01 ∧ Foata.hd.heap_39 = Foata.hd.heap_39 := by
    k_fill
    exact ⟨rfl, rfl⟩
  clear hfill
  refine enterC (binds := [(Str.ofString "order", v)]) (fun news' r => ∃ tl, (∀ p ∈ tl ++ news, p ∈ news') ∧ Fresh news tl ∧ IsL tl r (up (greatest o))) B F X N T hk (by k_is) (by k_is) (by omega) (BindsTo.of_eq rfl) rfl (by decide +kernel) ?_ ?_ rfl rfl rfl
  rotate_left
  · rintro v news' h' tk' F' N' ⟨tl, hs, hf, hr⟩
    exact hret v tl h' tk' F' (newsSub N' hs) hf hr
  clear hret N F
  intro g L' h₁ tk cells F' N' Y' B' X' T' hltL
  obtain ⟨oc, rfl, hoc⟩ := CellsAre.one Y'
  clear Y'
  have hoc' : oc.data = .cell (some v) := hoc
  clear hoc
  (try dsimp only)
  k_steps
  refine Stop.mk ?_
  obtain ⟨l, vs, n, rfl, hl, hi⟩ := hv
  have hln : (up o).length ≤ 64 := by simpa using hlen
  rw [List.singleton_append] at N'
  generalize hbm : bindL _ _ _ = bm at F'
  refine comp_open (cl := [(Str.ofString "order", L' + 1)]) rfl rfl (by decide) ?_ (fun _ => rfl)
  k_steps
  refine Stop.mk ?_
  rename_i F0 h2 tk2 t1 t2 t3 hR F1 N1 hK
  clear F0 hK hbm
  have hsm : Builtin.Range.small 0 (((up o).length : Nat) : Int) 1 = true := PySem.small_one (by omega) (by omega) (by omega) (by omega)
  have hsz : Builtin.Range.rangeSize 0 (((up o).length : Nat) : Int) 1 = ((o.length : Nat) : Int) := by
    have := rangeSize_nat 0 (((up o).length : Nat) : Int)
    rw [this, up_length]; simp
  refine comp1K_range (fun i acc nw => nw = (L' + 1, oc) :: news ∧ IntsAre acc (up ((List.range i).filter fun k => ((o.take k).filter fun x => decide (o.getD k 0 < x)) = [])))
    rfl hR hsm hsz (fun _ => rfl) (fun _ => rfl) rfl rfl (by omega) F1 N1 ⟨rfl, .nil⟩ ?_ ?_
  · rintro c C D I it ok oC mC k i t acc nw h tk hltD hltI hID hDC hCc hi' ⟨rfl, hacc⟩ hoff hok hns F3 N3
    clear F1 N1 hR
    rw [show (0 + (i : Int) * 1) = (i : Int) by omega] at hok
    refine wpAny_tests_one ?_
    k_steps
    refine Stop.mk ?_
    refine comp_open (cl := [(Str.ofString "order", L' + 1), (Str.ofString "k", c)]) rfl rfl (by decide) ?_ (fun _ => rfl)
    k_steps
    refine Stop.mk ?_
    rename_i D1 h5 us1 ltD1 F5 N5 hi1
    rw [Int.toNat_natCast] at hi1
    have hi1' : IntsAre us1 (up (o.take i)) := by simpa [up, List.map_take] using hi1
    have hlu : us1.length = (o.take i).length := by rw [hi1'.length, up_length]
    have hil : ((i : Nat) : Int) < ((up o).length : Int) := by rw [up_length]; omega
    clear N3 F3
    generalize hG : (D1, listOf us1.toArray 0) :: (I, it) :: (c, ok) :: (C, oC) :: (D, listOf acc.toArray k) :: (L' + 1, oc) :: news = G at N5
    have g1 : (D1, listOf us1.toArray 0) ∈ G := by rw [← hG]; exact .head _
    have g2 : (c, ok) ∈ G := by rw [← hG]; exact .tail _ (.tail _ (.head _))
    have g3 : (L' + 1, oc) ∈ G := by rw [← hG]; news_mem
    have g4 : (l, listOf vs.toArray n) ∈ G := by rw [← hG]; news_mem
    refine comp1_list (fun j acc2 nw2 => nw2 = G ∧ IntsAre acc2 (up (((o.take i).take j).filter fun x => decide (o.getD i 0 < x)))) rfl g1 (by decide) rfl rfl (by rw [hlu, List.length_take]; omega) F5 N5 ⟨rfl, .nil⟩ ?_ ?_
    · rintro C2 D2 I2 it2 oC2 mC2 k2 j v2 acc2 nw2 h6 tk6 hltD2 hltI2 hID2 hDC2 hvj ⟨rfl, hacc2⟩ _ hoff2 hns2 hmx2 F6 N6
      have hj : j < (o.take i).length := by
        have := List.getElem?_eq_some_iff.mp hvj
        obtain ⟨hj, _⟩ := this
        omega
      have hgt : (up (o.take i))[j]? = some (((o.take i)[j] : Nat) : Int) := by simp only [up, List.getElem?_map, List.getElem?_eq_getElem hj, Option.map_some]
      obtain ⟨t5, e5⟩ := hi1'.get j (((o.take i)[j] : Nat) : Int) hgt
      have hv2 : v2 = .int (((o.take i)[j] : Nat) : Int) t5 := by rw [e5] at hvj; exact (Option.some.inj hvj).symm
      subst hv2
      clear F5 N5
      have hio : i < o.length := by rw [up_length] at hil; omega
      obtain ⟨t7, e7⟩ := hi.get i ((o[i] : Nat) : Int) (by simp only [up, List.getElem?_map, List.getElem?_eq_getElem hio, Option.map_some])
      refine wpAny_tests_one ?_
      refine wpAny_isTrue_Compare1 ?_
      refine f_loc N6 rfl rfl (.tail _ (.head _)) hns2 hmx2 (by decide) ?_
      refine Subscript_ ?_
      refine f_cell N6 rfl rfl rfl (.tail _ (.tail _ (.tail _ g3))) hoc' (by decide) ?_
      refine f_cell N6 rfl rfl rfl (.tail _ (.tail _ (.tail _ g2))) hok (by decide) ?_
      refine f_item N6 (.tail _ (.tail _ (.tail _ g4))) (by omega) (by omega) e7 ?_
      refine gt_int ?_
      refine wpAny_truthy_bool ?_
      have hfs : IntsAre (if decide (o.getD i 0 < (o.take i)[j]) = true then acc2 ++ [.int (((o.take i)[j] : Nat) : Int) t5] else acc2) (up (((o.take i).take (j + 1)).filter fun x => decide (o.getD i 0 < x))) := by
        rw [filter_take_succ hj]
        by_cases hc : o.getD i 0 < (o.take i)[j]
        · simp only [hc, decide_true, if_true, up_append]
          exact hacc2.append (.cons _ _ .nil)
        · simp only [hc, decide_false, Bool.false_eq_true, if_false, up_append]
          simpa using hacc2
      have hgd : o.getD i 0 = o[i] := by simp [List.getD_eq_getElem?_getD, hio]
      have hcond : decide ((((o.take i)[j] : Nat) : Int) > ((o[i] : Nat) : Int)) = decide (o.getD i 0 < (o.take i)[j]) := by
        rw [hgd]; exact decide_eq_decide.mpr (by omega)
      rw [hcond]
      dsimp only
      cases hcc : decide (o.getD i 0 < (o.take i)[j]) with
      | true =>
        rw [hcc] at hfs
        simp only [if_true] at hfs ⊢
        refine f_loc N6 rfl rfl (.tail _ (.head _)) hns2 hmx2 (by decide) ?_
        exact Stop.mk ⟨_, _, _, rfl, F6, N6, g1, hoff2, rfl, hfs⟩
      | false =>
        rw [hcc] at hfs
        simp only [Bool.false_eq_true, if_false] at hfs ⊢
        exact Stop.mk ⟨_, _, _, rfl, F6, N6, g1, hoff2, rfl, hfs⟩
    · rintro D2 acc2 k2 nw2 h6 tk6 hltD2 ⟨rfl, hacc2⟩ hoff2 F6 N6
      clear F5 N5
      rw [List.take_of_length_le (by rw [hlu]; exact Nat.le_refl _)] at hacc2
      refine List_ ?_
      refine spliced_none ?_
      refine newList_N F6 N6 (fun h7 F7 N7 => ?_) (by simp)
      refine f_eq N7 (.tail _ (.head _)) (.head _) hacc2 .nil (by dsimp only [ktrTop]; omega) ?_
      refine wpAny_truthy_bool ?_
      have e8 : ∀ p ∈ (I, it) :: (c, ok) :: (C, oC) :: (D, listOf acc.toArray k) :: (L' + 1, oc) :: news, p ∈ nw2 := fun p hp => by rw [← hG]; exact .tail _ hp
      have N8 : News g L' h7 ((I, it) :: (c, ok) :: (C, oC) :: (D, listOf acc.toArray k) :: (L' + 1, oc) :: news) := fun p hp => N7 p (.tail _ (.tail _ (e8 p hp)))
      clear N6 F6
      dsimp only
      by_cases hc : ((o.take i).filter fun x => decide (o.getD i 0 < x)) = []
      · have hc' : up ((o.take i).filter fun x => decide (o.getD i 0 < x)) = [] := by rw [hc]; rfl
        simp only [hc', decide_true, if_true]
        refine f_cell N8 rfl rfl rfl (.tail _ (.head _)) hok (by decide) ?_
        refine Stop.mk ⟨_, _, _, rfl, F7, N8, hoff, rfl, ?_⟩
        rw [filter_range_succ, if_pos (by simpa using hc), up_append]
        exact hacc.append (.cons _ _ .nil)
      · have hc' : ¬ up ((o.take i).filter fun x => decide (o.getD i 0 < x)) = [] := fun h => hc (by simpa [up] using h)
        simp only [hc', decide_false, Bool.false_eq_true, if_false]
        refine Stop.mk ⟨_, _, _, rfl, F7, N8, hoff, rfl, ?_⟩
        rw [filter_range_succ, if_neg (by simpa using hc), List.append_nil]
        exact hacc
  · rintro D acc k nw h tk hltD ⟨rfl, hacc⟩ hoff F3 N3
    dsimp only
    refine ⟨.ref D, _, _, _, _, rfl, rfl, F3, N3, [(D, listOf acc.toArray k)], ?_, ?_, ⟨D, acc, k, rfl, .head _, hacc⟩⟩
    · intro p hp
      rcases List.mem_cons.mp hp with rfl | hp
      · exact .head _
      · exact .tail _ (.tail _ hp)
    · intro q hq p hp
      rw [List.mem_singleton.mp hp]
      exact hltD q (.tail _ hq)
end
end
/-! FBack -/
section
def placesOf (t : List Nat) : List Nat := greatest t ++ [t.length]
def endOf (t : List Nat) (k : Nat) : Nat := (placesOf t).getD (bis (fun i => decide ((up (placesOf t)).getD i 0 < ((k + 1 : Nat) : Int))) (placesOf t).length 0 (placesOf t).length) 0
def beginOf (t : List Nat) (k : Nat) : Nat := ((placesOf t).filter fun p => decide (p ≤ k)).getLastD 0
def nextOf (t : List Nat) (k : Nat) : Nat := if k + 1 < endOf t k then t.getD (k + 1) 0 else t.getD (beginOf t k) 0
def backN (t : List Nat) : Nat → List Nat
  | 0 => List.replicate t.length 0
  | k + 1 => (backN t k).set (t.getD k 0) (nextOf t k)
def back (t : List Nat) : List Nat := backN t t.length
theorem backN_length (t : List Nat) : ∀ k, (backN t k).length = t.length
  | 0 => by simp [backN]
  | k + 1 => by simp [backN, backN_length t k]
theorem bis_to {p : Nat → Bool} {b n : Nat} (hp : ∀ j, b ≤ j → j < n → p j = false) : ∀ {f lo hi : Nat}, hi ≤ n → lo ≤ b → bis p f lo hi ≤ b
  | 0, lo, hi, _, hl => hl
  | f + 1, lo, hi, hh, hl => by
    rw [bis]
    split
    · rename_i hlt
      split
      · rename_i hm
        refine bis_to hp hh ?_
        by_cases hb : b ≤ (lo + hi) / 2
        · rw [hp _ hb (by omega)] at hm; cases hm
        · omega
      · exact bis_to hp (by omega) hl
    · exact hl
theorem last_int {vs : List Value} {xs : List Int} {x : Int} (h : IntsAre vs xs) (hx : xs.getLast? = some x) : ∃ t, vs.getLast? = some (.int x t) := by
  rw [List.getLast?_eq_getElem?] at hx ⊢
  rw [h.length]
  exact h.get _ _ hx
theorem zero_places {o : List Nat} (h : 0 < o.length) : 0 ∈ placesOf o := by
  refine List.mem_append_left _ (List.mem_filter.mpr ⟨List.mem_range.mpr h, ?_⟩)
  simp
theorem places_le {o : List Nat} {p : Nat} (h : p ∈ placesOf o) : p ≤ o.length := by
  rcases List.mem_append.mp h with h | h
  · have := List.mem_range.mp (List.mem_filter.mp h).1; omega
  · rw [List.mem_singleton.mp h]; exact Nat.le_refl _
theorem begin_last {o : List Nat} {k : Nat} (h : 0 < o.length) : ((placesOf o).filter fun p => decide (p ≤ k)).getLast? = some (beginOf o k) ∧ beginOf o k ≤ k := by
  have hm : 0 ∈ (placesOf o).filter fun p => decide (p ≤ k) := List.mem_filter.mpr ⟨zero_places h, by simp⟩
  have hne : ((placesOf o).filter fun p => decide (p ≤ k)) ≠ [] := List.ne_nil_of_mem hm
  have e : ((placesOf o).filter fun p => decide (p ≤ k)).getLast? = some (beginOf o k) := by
    rw [beginOf, List.getLastD_eq_getLast?, List.getLast?_eq_some_getLast hne]; rfl
  refine ⟨e, ?_⟩
  have := (List.mem_filter.mp (List.mem_of_getLast? e)).2
  simpa using this
theorem ints_set : ∀ {vs : List Value} {xs : List Nat} {k y : Nat} {t : Tok}, IntsAre vs (up xs) → IntsAre (vs.set k (.int ((y : Nat) : Int) t)) (up (xs.set k y))
  | [], [], k, y, t, h => by simp; exact .nil
  | [], x :: xs, k, y, t, h => by cases h
  | v :: vs, [], k, y, t, h => by cases h
  | v :: vs, x :: xs, k, y, t, h => by
    rw [up_cons] at h
    cases h with
    | cons n u h =>
      cases k with
      | zero => simp only [List.set_cons_zero, up_cons]; exact .cons _ _ h
      | succ k => simp only [List.set_cons_succ, up_cons]; exact .cons _ _ (ints_set h)
theorem topOff_FBack : True := by
  w_top off
  trivial
local macro_rules | `(tactic| walk_at "subscriptTail") => `(tactic| refine Stop.out ?_)
local macro_rules | `(tactic| walk_at "eval IfExp") => `(tactic| refine Stop.out ?_)
section
variable {w : World} {loose : List Str} {mean : ExcName → Option Value} {mg mb : Str → Option Value} {news : List (Addr × Obj)}
 {dp un : Nat} {gd : Option (List Code)} {cn : Str} {cs : Scope} {a : Addr} {ccd : Value} {cl : List (Str × Addr)} {outer : List Env} {A₀ : Around} {base h₀ : Heap} {L : Addr} {m : Str → Option Value} {s : Shared} {Q E : Value → Shared → Prop}

theorem back_ok {v : Value} {o : List Nat} (B : Below A₀ base outer h₀) (F : Fr h₀ L s.heap m) (X : (Foata.hd.heap_39 w.params).In h₀) (N : News h₀ L s.heap news) (T : Top Foata.hd.view_39 loose mean mg mb h₀) (hk : cs.kind = .function)
  (hv : IsL news v (up o)) (hlt : ∀ x ∈ o, x < o.length) (hlen : o.length ≤ 64) (hdp : dp + 8 < recursionLimit) (hu : un + 40 < cLine)
  (hret : ∀ r tl h' tk', Fr h₀ L h' m → News h₀ L h' (tl ++ news) → Fresh news tl → IsL tl r (up (back o)) → Q r { s with heap := h', toks := tk' }) :
  wpAny (model pr w) (ktrTop dp un gd cn cs L a ccd cl outer) (call (.ref 68) [v]) Q E s := by
  have hfill : PySem.Challenge.rw_gh0002_01 = PySem.Challenge.rw_gh0002_01 ∧ Foata.hd.heap_39 = Foata.hd.heap_39 := by
    k_fill
    exact ⟨rfl, rfl⟩
  clear hfill
  refine enterC (binds := [(Str.ofString "told", v)]) (fun news' r => ∃ tl, (∀ p ∈ tl ++ news, p ∈ news') ∧ Fresh news tl ∧ IsL tl r (up (back o))) B F X N T hk (by k_is) (by k_is) (by omega) (BindsTo.of_eq rfl) rfl (by decide +kernel) ?_ ?_ rfl rfl rfl
  rotate_left
  · rintro v news' h' tk' F' N' ⟨tl, hs, hf, hr⟩
    exact hret v tl h' tk' F' (newsSub N' hs) hf hr
  clear hret N F
  intro g L' h₁ tk cells F' N' Y' B' X' T' hltL
  obtain ⟨oc, rfl, hoc⟩ := CellsAre.one Y'
  clear Y'
  have hoc' : oc.data = .cell none := hoc
  clear hoc
  rw [List.singleton_append] at N'
  obtain ⟨bm, F0⟩ := Fr.canonE [(Str.ofString "told", v)] F' (by ktr_unf)
  clear F'
  obtain ⟨l, vs, n, rfl, hl, hi⟩ := hv
  have hln : (up o).length ≤ 64 := by simpa using hlen
  (try dsimp only)
  k_steps
  refine Stop.mk ?_
  refine greatest_ok (o := o) B' F0 X' N' T' rfl ⟨l, vs, n, rfl, .tail _ hl, hi⟩ hlen (by omega) (by omega) ?_
  rintro r tl h4 tk4 F2 N2 hf2 ⟨rb, rus, rk, rfl, hrm, hra⟩
  clear F0 N'
  dsimp only
  k_steps
  rename_i D1 h5 F5 N5 lt5
  have hgl : (greatest o).length ≤ 64 := by
    have := List.length_filter_le (fun k => decide (((o.take k).filter fun x => decide (o.getD k 0 < x)) = [])) (List.range o.length)
    rw [List.length_range] at this
    exact Nat.le_trans this hlen
  refine f_add F5 N5 (.tail _ (List.mem_append_left _ hrm)) (.head _) hra (.cons _ _ .nil) (by simp; omega) ?_
  intro D2 h6 lt6 F6 N6 hi6
  have hpl : IntsAre (rus ++ [Value.int (↑(up o).length) (tk4 + 1)]) (up (placesOf o)) := by
    rw [placesOf, up_append]
    simpa using hi6
  clear F5 N5 hi6
  generalize hpv : rus ++ [Value.int (↑(up o).length) (tk4 + 1)] = pv at N6 hpl
  k_steps
  rename_i tz D3 _ lt3 D4 _ hz nz sz ez ez2 ez3 lt4 h7 F7 N7
  have hz' : IntsAre (List.replicate (((up o).length : Nat) : Int).toNat [Value.int 0 tz]).flatten (up (backN o 0)) := by
    have : (List.replicate (((up o).length : Nat) : Int).toNat [(0 : Int)]).flatten = up (backN o 0) := by
      simp [backN, up]
    rw [← this]; exact hz
  clear hz sz ez ez2 ez3
  generalize (List.replicate (((up o).length : Nat) : Int).toNat [Value.int 0 tz]).flatten = fv at N7 hz'
  have F8 := Fr.canon [(Str.ofString "told", .ref l), (Str.ofString "places", .ref D2), (Str.ofString "found", .ref D4)] F7 (by ktr_unf)
  clear F7
  have N8 : News g L' h7 ((D4, listOf fv.toArray 0) :: (L' + 1, oc) :: (D2, listOf pv.toArray 0) :: news) := fun p hp => by
    refine N7 p ?_
    rcases List.mem_cons.mp hp with rfl | hp
    · exact .head _
    rcases List.mem_cons.mp hp with rfl | hp
    · exact .tail _ (.tail _ (.tail _ (.tail _ (List.mem_append_right _ (.head _)))))
    rcases List.mem_cons.mp hp with rfl | hp
    · exact .tail _ (.tail _ (.head _))
    · exact .tail _ (.tail _ (.tail _ (.tail _ (List.mem_append_right _ (.tail _ hp)))))
  have hD4c : D4 ≠ L' + 1 := by
    have := ltOf lt4.2.2.2 (L' + 1, oc) (List.mem_append_right _ (.head _))
    exact Nat.ne_of_gt this
  have hD4n : ∀ p ∈ news, p.1 ≠ D4 := fun p hp => Nat.ne_of_lt (ltOf lt4.2.2.2 p (List.mem_append_right _ (.tail _ hp)))
  have hD42 : D2 ≠ D4 := Nat.ne_of_lt lt4.2.1
  have hc2 : D2 ≠ L' + 1 := Nat.ne_of_gt (lt6 (L' + 1, oc) (.tail _ (List.mem_append_right _ (.head _))))
  have hcn : ∀ p ∈ news, p.1 ≠ L' + 1 := fun p hp => Nat.ne_of_lt (Nat.lt_succ_of_lt (hltL p hp))
  clear N7
  refine for_open ?_ (fun _ => rfl)
  k_steps
  refine Stop.mk ?_
  rename_i F9 _ _ _ _ h8 tk8 t1 t2 t3 hR F10 N10 hK
  clear hK F9
  have hsm : Builtin.Range.small 0 (((up o).length : Nat) : Int) 1 = true := PySem.small_one (by omega) (by omega) (by omega) (by omega)
  have hsz : Builtin.Range.rangeSize 0 (((up o).length : Nat) : Int) 1 = ((o.length : Nat) : Int) := by
    have := rangeSize_nat 0 (((up o).length : Nat) : Int)
    rw [this, up_length]; simp
  refine for_range (fun i m nw => ∃ fv nf oc v₀, m (Str.ofString "told") = some (.ref l) ∧ m (Str.ofString "places") = some (.ref D2) ∧ m (Str.ofString "found") = some (.ref D4) ∧
      nw = (D4, listOf fv.toArray nf) :: (L' + 1, oc) :: (D2, listOf pv.toArray 0) :: news ∧ IntsAre fv (up (backN o i)) ∧ oc.data = .cell v₀) rfl hR hsm hsz F10 N10 ⟨fv, 0, oc, none, rfl, rfl, rfl, rfl, hz', hoc'⟩ (fun _ _ => rfl) ?_ ?_
  · rintro I i t m₁ nw h tk9 it hltI hi' ⟨fv, nf, oc, v₀, hm1, hm2, hm3, rfl, hfv, hocd⟩ hoff F11 N11
    clear F10 N10 hR hoc' hz'
    have F12 := Fr.canon [(Str.ofString "told", .ref l), (Str.ofString "places", .ref D2), (Str.ofString "found", .ref D4)] F11 (by ktr_unf)
    clear F11
    rw [show (0 + (i : Int) * 1) = (i : Int) by omega]
    have hIc : I ≠ L' + 1 := fun e => hoff (L' + 1, oc) (.tail _ (.head _)) e.symm
    refine store_cell (c := L' + 1) (pre := [(I, it), (D4, listOf fv.toArray nf)]) (post := (D2, listOf pv.toArray 0) :: news) rfl rfl rfl F12 N11 hocd ?_ ?_ ?_
    · intro p hp
      rcases List.mem_cons.mp hp with rfl | hp
      · exact hIc
      · rw [List.mem_singleton.mp hp]; exact hD4c
    · intro p hp
      rcases List.mem_cons.mp hp with rfl | hp
      · exact hc2
      · exact hcn p hp
    intro h10 oc2 F13 N13 hoc2
    simp only [List.cons_append, List.nil_append] at N13
    clear F12 N11
    dsimp only
    k_steps
    refine Stop.mk ?_
    have hpl2 : (up (placesOf o)).length ≤ 65 := by simp [placesOf]; omega
    refine bisI_ok (xs := up (placesOf o)) B' F13 X' N13 T' rfl ⟨D2, pv, 0, rfl, .tail _ (.tail _ (.tail _ (.head _))), hpl⟩ (by omega) (by omega) ?_
    intro t11 h11 tk11 F14 N14
    clear F13 N13
    dsimp only
    rw [up_length]
    generalize hbi : bis (fun j => decide ((up (placesOf o)).getD j 0 < (i : Int) + 1)) (placesOf o).length 0 (placesOf o).length = bi
    have hpo : (placesOf o).length = (greatest o).length + 1 := by simp [placesOf]
    have hbi2 : bi ≤ (greatest o).length := by
      rw [← hbi]
      refine bis_to (n := (placesOf o).length) (fun j h1 h2 => ?_) (Nat.le_refl _) (Nat.zero_le _)
      have : j = (greatest o).length := by omega
      subst this
      rw [up_getD]
      have : (placesOf o).getD (greatest o).length 0 = o.length := by simp [placesOf, List.getD_eq_getElem?_getD]
      rw [this]
      exact decide_eq_false (by omega)
    have hend : endOf o i = (placesOf o).getD bi 0 := by rw [endOf, ← hbi]; rfl
    have hbl : bi < (placesOf o).length := by omega
    have hg1 : (up (placesOf o))[bi]? = some ((endOf o i : Nat) : Int) := by
      rw [hend]; simp [up, List.getElem?_eq_getElem hbl, List.getD_eq_getElem?_getD]
    obtain ⟨te, hte⟩ := hpl.get bi _ hg1
    have hte' : pv[((bi : Nat) : Int).toNat]? = some (.int ((endOf o i : Nat) : Int) te) := hte
    k_steps
    refine f_item N14 (.tail _ (.tail _ (.tail _ (.head _)))) (by omega) (by omega) hte' ?_
    k_steps
    refine Stop.mk ?_
    rename_i h12 F15 N15
    have F16 := Fr.canon [(Str.ofString "told", .ref l), (Str.ofString "places", .ref D2), (Str.ofString "found", .ref D4), (Str.ofString "end", .int ((endOf o i : Nat) : Int) te)] F15 (by ktr_unf)
    clear F15
    refine comp_open (cl := [(Str.ofString "k", L' + 1)]) rfl rfl (by decide) ?_ (fun _ => rfl)
    k_steps
    refine Stop.mk ?_
    have hpvl : pv.length = (placesOf o).length := by rw [hpl.length, up_length]
    refine comp1_list (fun j acc2 nw2 => nw2 = (I, it) :: (D4, listOf fv.toArray nf) :: (L' + 1, oc2) :: (D2, listOf pv.toArray 0) :: news ∧ IntsAre acc2 (up (((placesOf o).take j).filter fun x => decide (x ≤ i)))) rfl (.tail _ (.tail _ (.tail _ (.head _)))) (by decide) rfl rfl (by rw [hpvl]; omega) F16 N15 ⟨rfl, .nil⟩ ?_ ?_
    · rintro C2 E2 I2 it2 oC2 mC2 k2 j v2 acc2 nw2 h6 tk6 hltD2 hltI2 hID2 hDC2 hvj ⟨rfl, hacc2⟩ _ hoff2 hns2 hmx2 F6 N6
      have hj : j < (placesOf o).length := by
        obtain ⟨hj, _⟩ := List.getElem?_eq_some_iff.mp hvj
        omega
      have hgt : (up (placesOf o))[j]? = some (((placesOf o)[j] : Nat) : Int) := by simp only [up, List.getElem?_map, List.getElem?_eq_getElem hj, Option.map_some]
      obtain ⟨t5, e5⟩ := hpl.get j (((placesOf o)[j] : Nat) : Int) hgt
      have hv2 : v2 = .int (((placesOf o)[j] : Nat) : Int) t5 := by rw [e5] at hvj; exact (Option.some.inj hvj).symm
      subst hv2
      clear F16 N15
      refine wpAny_tests_one ?_
      refine wpAny_isTrue_Compare1 ?_
      refine f_loc N6 rfl rfl (.tail _ (.head _)) hns2 hmx2 (by decide) ?_
      refine f_cell N6 rfl rfl rfl (.tail _ (.tail _ (.tail _ (.tail _ (.tail _ (.head _)))))) hoc2 (by decide) ?_
      refine le_int ?_
      refine wpAny_truthy_bool ?_
      have hcond : decide ((((placesOf o)[j] : Nat) : Int) ≤ ((i : Nat) : Int)) = decide ((placesOf o)[j] ≤ i) := decide_eq_decide.mpr (by omega)
      rw [hcond]
      dsimp only
      have hfs : IntsAre (if decide ((placesOf o)[j] ≤ i) = true then acc2 ++ [.int (((placesOf o)[j] : Nat) : Int) t5] else acc2) (up (((placesOf o).take (j + 1)).filter fun x => decide (x ≤ i))) := by
        rw [filter_take_succ hj]
        by_cases hc : (placesOf o)[j] ≤ i
        · simp only [hc, decide_true, if_true, up_append]
          exact hacc2.append (.cons _ _ .nil)
        · simp only [hc, decide_false, Bool.false_eq_true, if_false, up_append]
          simpa using hacc2
      cases hcc : decide ((placesOf o)[j] ≤ i) with
      | true =>
        rw [hcc] at hfs
        simp only [if_true] at hfs ⊢
        refine f_loc N6 rfl rfl (.tail _ (.head _)) hns2 hmx2 (by decide) ?_
        exact Stop.mk ⟨_, _, _, rfl, F6, N6, (.tail _ (.tail _ (.tail _ (.head _)))), hoff2, rfl, hfs⟩
      | false =>
        rw [hcc] at hfs
        simp only [Bool.false_eq_true, if_false] at hfs ⊢
        exact Stop.mk ⟨_, _, _, rfl, F6, N6, (.tail _ (.tail _ (.tail _ (.head _)))), hoff2, rfl, hfs⟩
    · rintro E2 acc2 k2 nw2 h6 tk6 hltD2 ⟨rfl, hacc2⟩ hoff2 F6 N6
      rw [List.take_of_length_le (by rw [hpvl]; exact Nat.le_refl _)] at hacc2
      clear F16 N15
      dsimp only
      have ho : 0 < o.length := by omega
      obtain ⟨hbl1, hbl2⟩ := begin_last (k := i) ho
      obtain ⟨tb, htb⟩ := last_int (x := ((beginOf o i : Nat) : Int)) hacc2 (by rw [up, List.getLast?_map, hbl1]; rfl)
      k_steps
      refine f_last N6 (.head _) htb ?_
      k_steps
      refine Stop.mk ?_
      rename_i h13 F17 N17
      have F18 := Fr.canon [(Str.ofString "told", .ref l), (Str.ofString "places", .ref D2), (Str.ofString "found", .ref D4), (Str.ofString "end", .int ((endOf o i : Nat) : Int) te), (Str.ofString "begin", .int ((beginOf o i : Nat) : Int) tb)] F17 (by ktr_unf)
      clear F17
      have N18 : News g L' h13 ((I, it) :: (D4, listOf fv.toArray nf) :: (L' + 1, oc2) :: (D2, listOf pv.toArray 0) :: news) := fun p hp => N17 p (.tail _ hp)
      clear N17
      have hnx : ∃ tn, True ∧ (if i + 1 < endOf o i then vs[i + 1]? = some (.int ((nextOf o i : Nat) : Int) tn) else vs[beginOf o i]? = some (.int ((nextOf o i : Nat) : Int) tn)) := by
        have hepl : endOf o i ∈ placesOf o := by
          rw [hend, List.getD_eq_getElem?_getD, List.getElem?_eq_getElem hbl]; exact List.getElem_mem hbl
        have := places_le hepl
        by_cases hc : i + 1 < endOf o i
        · have hl1 : i + 1 < o.length := by omega
          obtain ⟨tn, e⟩ := hi.get (i + 1) ((o[i + 1] : Nat) : Int) (by simp only [up, List.getElem?_map, List.getElem?_eq_getElem hl1, Option.map_some])
          refine ⟨tn, trivial, ?_⟩
          rw [if_pos hc, nextOf, if_pos hc, List.getD_eq_getElem?_getD, List.getElem?_eq_getElem hl1]; exact e
        · have hl1 : beginOf o i < o.length := by omega
          obtain ⟨tn, e⟩ := hi.get (beginOf o i) ((o[beginOf o i] : Nat) : Int) (by simp only [up, List.getElem?_map, List.getElem?_eq_getElem hl1, Option.map_some])
          refine ⟨tn, trivial, ?_⟩
          rw [if_neg hc, nextOf, if_neg hc, List.getD_eq_getElem?_getD, List.getElem?_eq_getElem hl1]; exact e
      obtain ⟨tn, -, hnx⟩ := hnx
      have hlm : (l, listOf vs.toArray n) ∈ (I, it) :: (D4, listOf fv.toArray nf) :: (L' + 1, oc2) :: (D2, listOf pv.toArray 0) :: news := .tail _ (.tail _ (.tail _ (.tail _ hl)))
      refine wpAny_mono (Q := fun v s' => v = .int ((nextOf o i : Nat) : Int) tn ∧ ∃ tk, s' = { s with heap := h13, toks := tk }) ?_ ?_ fun _ _ x => x
      · refine IfExp_ ?_
        refine wpAny_isTrue_Compare1 ?_
        refine wpAny_BinOp ?_
        refine f_cell N18 rfl rfl rfl (.tail _ (.tail _ (.head _))) hoc2 (by decide) ?_
        refine wpAny_Constant_int ?_
        refine add_int ?_
        refine nameX_L F18 (v := .int ((endOf o i : Nat) : Int) te) (by ktr_unf) ?_
        refine lt_int ?_
        refine wpAny_truthy_bool ?_
        have hce : decide ((i : Int) + 1 < ((endOf o i : Nat) : Int)) = decide (i + 1 < endOf o i) := decide_eq_decide.mpr (by omega)
        rw [hce]
        dsimp only
        by_cases hc : i + 1 < endOf o i
        · rw [if_pos hc] at hnx
          simp only [hc, decide_true, if_true]
          refine Subscript_ ?_
          refine nameX_L F18 (v := .ref l) (by ktr_unf) ?_
          refine wpAny_BinOp ?_
          refine f_cell N18 rfl rfl rfl (.tail _ (.tail _ (.head _))) hoc2 (by decide) ?_
          refine wpAny_Constant_int ?_
          refine add_int ?_
          exact f_item N18 hlm (by omega) (by omega) (by rw [show ((i : Int) + 1).toNat = i + 1 by omega]; exact hnx) ⟨rfl, _, rfl⟩
        · rw [if_neg hc] at hnx
          simp only [hc, decide_false, Bool.false_eq_true, if_false]
          refine Subscript_ ?_
          refine nameX_L F18 (v := .ref l) (by ktr_unf) ?_
          refine nameX_L F18 (v := .int ((beginOf o i : Nat) : Int) tb) (by ktr_unf) ?_
          exact f_item N18 hlm (by omega) (by omega) (by rw [Int.toNat_natCast]; exact hnx) ⟨rfl, _, rfl⟩
      rintro v s' ⟨rfl, tk20, rfl⟩
      obtain ⟨tq, htq⟩ := hi.get i ((o[i] : Nat) : Int) (by simp only [up, List.getElem?_map, List.getElem?_eq_getElem hi', Option.map_some])
      have hoi : o[i] < o.length := hlt _ (List.getElem_mem hi')
      refine nameX_L F18 (v := .ref D4) (by ktr_unf) ?_
      refine Subscript_ ?_
      refine nameX_L F18 (v := .ref l) (by ktr_unf) ?_
      refine f_cell N18 rfl rfl rfl (.tail _ (.tail _ (.head _))) hoc2 (by decide) ?_
      refine f_item N18 hlm (by omega) (by omega) (by rw [Int.toNat_natCast]; exact htq) ?_
      have hfl : fv.length = o.length := by rw [hfv.length, up_length, backN_length]
      refine f_set (pre := [(I, it)]) (post := (L' + 1, oc2) :: (D2, listOf pv.toArray 0) :: news) F18 N18 ?_ ?_ (by omega) (by omega) ?_
      · intro p hp
        rw [List.mem_singleton.mp hp]
        exact (hoff (D4, listOf fv.toArray nf) (.head _)).symm
      · intro p hp
        rcases List.mem_cons.mp hp with rfl | hp
        · exact hD4c.symm
        rcases List.mem_cons.mp hp with rfl | hp
        · exact hD42
        · exact hD4n p hp
      intro h21 F21 N21
      simp only [List.cons_append, List.nil_append] at N21
      clear F18 N18
      dsimp only
      refine wpAny_execs_nil ?_
      refine ⟨_, _, _, _, rfl, F21, N21, (fun _ hq => nomatch hq), ?_, _, nf, oc2, _, rfl, rfl, rfl, rfl, ?_, hoc2⟩
      · intro q hq
        rcases List.mem_cons.mp hq with rfl | hq
        · exact hoff (D4, listOf fv.toArray nf) (.head _)
        rcases List.mem_cons.mp hq with rfl | hq
        · exact hIc.symm
        · exact hoff q (.tail _ (.tail _ hq))
      · rw [backN]
        have : o.getD i 0 = o[i] := by simp [List.getD_eq_getElem?_getD, hi']
        rw [this]
        exact ints_set hfv
  · rintro m₁ nw h tk9 ⟨fv, nf, oc, v₀, hm1, hm2, hm3, rfl, hfv, hocd⟩ F11 N11
    have F12 := Fr.canon [(Str.ofString "found", .ref D4)] F11 (by ktr_unf)
    clear F11 F10 N10
    dsimp only
    k_steps
    refine ⟨.ref D4, _, _, _, _, rfl, rfl, F12, N11, [(D4, listOf fv.toArray nf)], ?_, ?_, ⟨D4, fv, nf, rfl, .head _, hfv⟩⟩
    · intro p hp
      rcases List.mem_cons.mp hp with rfl | hp
      · exact .head _
      · exact .tail _ (.tail _ (.tail _ hp))
    · intro q hq p hp
      rw [List.mem_singleton.mp hp]
      exact ltOf lt4.2.2.2 q (List.mem_append_right _ (.tail _ hq))
end
end
/-! FOrders -/
section
def ordersN : Nat → List Nat → List (List Nat)
  | 0, _ => [[]]
  | f + 1, ns => (ns.map fun one => (ordersN f (ns.filter fun x => decide (x ≠ one))).map (one :: ·)).flatten
theorem ordersN_len : ∀ (f : Nat) (ns : List Nat) (r : List Nat), r ∈ ordersN f ns → r.length = f
  | 0, ns, r, h => by simp [ordersN] at h; simp [h]
  | f + 1, ns, r, h => by
    simp only [ordersN, List.mem_flatten, List.mem_map] at h
    obtain ⟨_, ⟨one, _, rfl⟩, h⟩ := h
    obtain ⟨q, hq, rfl⟩ := List.mem_map.mp h
    simp [ordersN_len f _ q hq]
theorem filter_ne_length {ns : List Nat} (hn : ns.Nodup) {one : Nat} (h : one ∈ ns) : (ns.filter fun x => decide (x ≠ one)).length + 1 = ns.length := by
  induction ns with
  | nil => cases h
  | cons a ns ih =>
    rw [List.nodup_cons] at hn
    by_cases e : a = one
    · subst e
      have : (ns.filter fun x => decide (x ≠ a)) = ns := List.filter_eq_self.mpr fun x hx => by
        simp only [decide_eq_true_eq]; intro e; exact hn.1 (e ▸ hx)
      rw [List.filter_cons_of_neg (by simp), this, List.length_cons]
    · rw [List.filter_cons_of_pos (by simpa using e), List.length_cons, List.length_cons, ih hn.2 ((List.mem_cons.mp h).resolve_left (Ne.symm e))]
theorem ordersN_count : ∀ (f : Nat) (ns : List Nat), ns.Nodup → ns.length = f → f ≤ 4 → (ordersN f ns).length ≤ 4 ^ f
  | 0, ns, _, _, _ => by simp [ordersN]
  | f + 1, ns, hn, hl, h4 => by
    rw [ordersN, List.length_flatten]
    have : ∀ (l : List Nat), (∀ one ∈ l, one ∈ ns) → ((l.map fun one => (ordersN f (ns.filter fun x => decide (x ≠ one))).map (one :: ·)).map List.length).sum ≤ l.length * 4 ^ f := by
      intro l
      induction l with
      | nil => intro _; simp
      | cons a l ih =>
        intro hm
        have h1 := ih fun x hx => hm x (.tail _ hx)
        have h2 := ordersN_count f (ns.filter fun x => decide (x ≠ a)) (hn.filter _) (by have := filter_ne_length hn (hm a (.head _)); omega) (by omega)
        simp only [List.map_cons, List.sum_cons, List.length_cons, List.length_map] at h1 ⊢
        rw [Nat.succ_mul]; omega
    refine Nat.le_trans (this ns fun _ h => h) ?_
    rw [Nat.pow_succ, Nat.mul_comm]
    exact Nat.mul_le_mul_left _ (by omega)
theorem topOff_FOrders : True := by
  w_top off
  trivial
theorem orders_ok {w : World} {loose : List Str} {mean : ExcName → Option Value} {mg mb : Str → Option Value} {gd : Option (List Code)} {base : Heap} : ∀ (f : Nat) {ns : List Nat} {v : Value} {news : List (Addr × Obj)}
  {dp un : Nat} {cn : Str} {cs : Scope} {a : Addr} {ccd : Value} {cl : List (Str × Addr)} {outer : List Env} {A₀ : Around} {h₀ : Heap} {L : Addr} {m : Str → Option Value} {s : Shared} {Q E : Value → Shared → Prop}
  (_ : Below A₀ base outer h₀) (_ : Fr h₀ L s.heap m) (_ : (Foata.hd.heap_39 w.params).In h₀) (_ : News h₀ L s.heap news) (_ : Top Foata.hd.view_39 loose mean mg mb h₀) (_ : cs.kind = .function)
  (_ : IsL news v (up ns)) (_ : ns.length = f) (_ : ns.Nodup) (_ : f ≤ 4) (_ : dp + 2 * f + 2 < recursionLimit) (_ : un + 20 * f + 20 < cLine)
  (_ : ∀ r tl h' tk', Fr h₀ L h' m → News h₀ L h' (tl ++ news) → Fresh news tl → IsLL tl r ((ordersN f ns).map up) → Q r { s with heap := h', toks := tk' }),
  wpAny (model pr w) (ktrTop dp un gd cn cs L a ccd cl outer) (call (.ref 73) [v]) Q E s := by
  intro f
  induction f with
  | zero =>
    intro ns v news dp un cn cs a ccd cl outer A₀ h₀ L m s Q E B F X N T hk hv hlen hnd h4 hdp hu hret
    have hfill : PySem.Challenge.rw_gh0002_01 = PySem.Challenge.rw_gh0002_01 ∧ Foata.hd.heap_39 = Foata.hd.heap_39 := by
      k_fill
      exact ⟨rfl, rfl⟩
    clear hfill
    refine enterC (binds := [(Str.ofString "numbers", v)]) (fun news' r => ∃ tl, (∀ p ∈ tl ++ news, p ∈ news') ∧ Fresh news tl ∧ IsLL tl r ((ordersN 0 ns).map up)) B F X N T hk (by k_is) (by k_is) (by omega) (BindsTo.of_eq rfl) rfl (by decide +kernel) ?_ ?_ rfl rfl rfl
    rotate_left
    · rintro v news' h' tk' F' N' ⟨tl, hs, hf, hr⟩
      exact hret v tl h' tk' F' (newsSub N' hs) hf hr
    clear hret N F
    intro g L' h₁ tk cells F' N' Y' B' X' T' hltL
    obtain ⟨oc, rfl, hoc⟩ := CellsAre.one Y'
    clear Y'
    have hoc' : oc.data = .cell (some v) := hoc
    clear hoc
    obtain ⟨l, vs, n, rfl, hl, hi⟩ := hv
    rw [List.singleton_append] at N'
    generalize hbm : bindL _ _ _ = bm at F'
    clear hbm
    (try dsimp only)
    have hup : (up ns).length ≤ 4 := by rw [up_length]; omega
    k_steps
    rename_i l2 h2 F2 N2 lt2
    refine f_eq N2 (.tail _ (.tail _ hl)) (.head _) hi .nil (by dsimp only [ktrTop]; omega) ?_
    refine wpAny_truthy_bool ?_
    have hns : ns = [] := List.length_eq_zero_iff.mp hlen
    have hne : decide (up ns = []) = true := by rw [hns]; rfl
    rw [hne]
    dsimp only
    k_steps
    rename_i l3 h3 lt3 l4 h4 F4 N4 lt4
    refine ⟨_, _, _, _, _, rfl, rfl, F4, N4, [(l4, listOf #[Value.ref l3] 0), (l3, listOf #[] 0)], ?_, ?_, ⟨l4, [.ref l3], 0, rfl, .head _, ?_⟩⟩
    · intro p hp
      simp only [List.mem_cons, List.mem_append, List.not_mem_nil, or_false] at hp ⊢; grind
    · intro q hq p hp
      simp only [List.mem_cons, List.not_mem_nil, or_false] at hp
      rcases hp with rfl | rfl
      · exact ltOf lt4.2.2.2 q hq
      · exact ltOf lt3.2.2 q hq
    · exact .cons ⟨l3, [], 0, rfl, .tail _ (.head _), .nil⟩ .nil
  | succ f ih =>
    intro ns v news dp un cn cs a ccd cl outer A₀ h₀ L m s Q E B F X N T hk hv hlen hnd h4 hdp hu hret
    have hfill : PySem.Challenge.rw_gh0002_01 = PySem.Challenge.rw_gh0002_01 ∧ Foata.hd.heap_39 = Foata.hd.heap_39 := by
      k_fill
      exact ⟨rfl, rfl⟩
    clear hfill
    refine enterC (binds := [(Str.ofString "numbers", v)]) (fun news' r => ∃ tl, (∀ p ∈ tl ++ news, p ∈ news') ∧ Fresh news tl ∧ IsLL tl r ((ordersN (f + 1) ns).map up)) B F X N T hk (by k_is) (by k_is) (by omega) (BindsTo.of_eq rfl) rfl (by decide +kernel) ?_ ?_ rfl rfl rfl
    rotate_left
    · rintro v news' h' tk' F' N' ⟨tl, hs, hf, hr⟩
      exact hret v tl h' tk' F' (newsSub N' hs) hf hr
    clear hret N F
    intro g L' h₁ tk cells F' N' Y' B' X' T' hltL
    obtain ⟨oc, rfl, hoc⟩ := CellsAre.one Y'
    clear Y'
    have hoc' : oc.data = .cell (some v) := hoc
    clear hoc
    obtain ⟨l, vs, n, rfl, hl, hi⟩ := hv
    rw [List.singleton_append] at N'
    generalize hbm : bindL _ _ _ = bm at F'
    clear hbm
    (try dsimp only)
    have hup : (up ns).length ≤ 4 := by rw [up_length]; omega
    k_steps
    rename_i l2 h2 F2 N2 lt2
    refine f_eq N2 (.tail _ (.tail _ hl)) (.head _) hi .nil (by dsimp only [ktrTop]; omega) ?_
    refine wpAny_truthy_bool ?_
    have hne : decide (up ns = []) = false := decide_eq_false fun e => by
      have := congrArg List.length e
      rw [up_length, List.length_nil] at this; omega
    rw [hne]
    have N3 : News g L' h2 ((L' + 1, oc) :: news) := fun p hp => N2 p (.tail _ hp)
    clear N2 lt2
    dsimp only
    k_steps
    refine Stop.mk ?_
    refine comp_open (cl := [(Str.ofString "numbers", L' + 1)]) rfl rfl (by decide) ?_ (fun _ => rfl)
    k_steps
    refine Stop.mk ?_
    have hcn : ∀ p ∈ news, p.1 < L' + 1 := fun p hp => Nat.lt_succ_of_lt (hltL p hp)
    refine comp2K (fun i acc nw => ∃ tl, nw = tl ++ (L' + 1, oc) :: news ∧ Fresh news tl ∧ AreL tl acc (((ns.take i).map fun one => ((ordersN f (ns.filter fun x => decide (x ≠ one))).map (one :: ·)).map up).flatten) ∧ acc.length ≤ i * 4 ^ f)
      rfl (fun _ => rfl) (fun _ => rfl) rfl rfl rfl (.tail _ hl) F2 N3 ⟨[], rfl, (fun _ _ _ h => nomatch h), .nil, Nat.zero_le _⟩ (fun _ _ => rfl) ?_ ?_
    · rintro c C D I it oc2 oC mC k i v acc nw h tk hltD hID hDC hCc hvi ⟨tl, rfl, hft, hacc, hal⟩ hlm hoff hoc2 hns F4 N4
      have hi' : i < ns.length := by
        obtain ⟨hj, _⟩ := List.getElem?_eq_some_iff.mp hvi
        have := hi.length
        rw [up_length] at this; omega
      obtain ⟨t5, e5⟩ := hi.get i ((ns[i] : Nat) : Int) (by simp only [up, List.getElem?_map, List.getElem?_eq_getElem hi', Option.map_some])
      have hv2 : v = .int ((ns[i] : Nat) : Int) t5 := by rw [e5] at hvi; exact (Option.some.inj hvi).symm
      subst hv2
      clear F2 N3
      k_steps
      refine Stop.mk ?_
      refine comp_open (cl := [(Str.ofString "one", c)]) rfl rfl (by decide) ?_ (fun _ => rfl)
      refine f_cell N4 rfl rfl rfl (.tail _ (.tail _ (.tail _ (.tail _ (List.mem_append_right _ (.head _)))))) hoc' (by decide) ?_
      have hlm' : (l, listOf vs.toArray n) ∈ (I, it) :: (c, oc2) :: (C, oC) :: (D, listOf acc.toArray k) :: (tl ++ (L' + 1, oc) :: news) := .tail _ (.tail _ (.tail _ (.tail _ hlm)))
      generalize hG : (I, it) :: (c, oc2) :: (C, oC) :: (D, listOf acc.toArray k) :: (tl ++ (L' + 1, oc) :: news) = G at N4 hlm'
      have gc : (c, oc2) ∈ G := by rw [← hG]; exact .tail _ (.head _)
      have hvl : vs.length = ns.length := by rw [hi.length, up_length]
      refine comp1_list (fun j acc2 nw2 => nw2 = G ∧ IntsAre acc2 (up ((ns.take j).filter fun x => decide (x ≠ ns[i])))) rfl hlm' (by decide) rfl rfl (by omega) F4 N4 ⟨rfl, .nil⟩ ?_ ?_
      · rintro C2 D2 I2 it2 oC2 mC2 k2 j v2 acc2 nw2 h6 tk6 hltD2 hltI2 hID2 hDC2 hvj ⟨rfl, hacc2⟩ _ hoff2 hns2 hmx2 F6 N6
        have hj : j < ns.length := by
          obtain ⟨hj, _⟩ := List.getElem?_eq_some_iff.mp hvj
          omega
        obtain ⟨t7, e7⟩ := hi.get j ((ns[j] : Nat) : Int) (by simp only [up, List.getElem?_map, List.getElem?_eq_getElem hj, Option.map_some])
        have hv3 : v2 = .int ((ns[j] : Nat) : Int) t7 := by rw [e7] at hvj; exact (Option.some.inj hvj).symm
        subst hv3
        clear F4 N4
        refine wpAny_tests_one ?_
        refine wpAny_isTrue_Compare1 ?_
        refine f_loc N6 rfl rfl (.tail _ (.head _)) hns2 hmx2 (by decide) ?_
        refine f_cell N6 rfl rfl rfl (.tail _ (.tail _ (.tail _ gc))) hoc2 (by decide) ?_
        refine ne_int ?_
        refine wpAny_truthy_bool ?_
        have hcond : (((ns[j] : Nat) : Int) != ((ns[i] : Nat) : Int)) = decide (ns[j] ≠ ns[i]) := by
          by_cases e : ns[j] = ns[i]
          · simp [e]
          · have : ((ns[j] : Nat) : Int) ≠ ((ns[i] : Nat) : Int) := by omega
            simp only [ne_eq, e, not_false_eq_true, decide_true, bne_iff_ne, this]
        rw [hcond]
        dsimp only
        have hfs : IntsAre (if decide (ns[j] ≠ ns[i]) = true then acc2 ++ [.int ((ns[j] : Nat) : Int) t7] else acc2) (up ((ns.take (j + 1)).filter fun x => decide (x ≠ ns[i]))) := by
          rw [filter_take_succ hj]
          by_cases hc : ns[j] = ns[i]
          · simp only [hc, ne_eq, not_true_eq_false, decide_false, Bool.false_eq_true, if_false, up_append]
            simpa using hacc2
          · simp only [ne_eq, hc, not_false_eq_true, decide_true, if_true, up_append]
            exact hacc2.append (.cons _ _ .nil)
        cases hcc : decide (ns[j] ≠ ns[i]) with
        | true =>
          rw [hcc] at hfs
          simp only [if_true] at hfs ⊢
          refine f_loc N6 rfl rfl (.tail _ (.head _)) hns2 hmx2 (by decide) ?_
          exact Stop.mk ⟨_, _, _, rfl, F6, N6, hlm', hoff2, rfl, hfs⟩
        | false =>
          rw [hcc] at hfs
          simp only [Bool.false_eq_true, if_false] at hfs ⊢
          exact Stop.mk ⟨_, _, _, rfl, F6, N6, hlm', hoff2, rfl, hfs⟩
      · rintro D2 acc2 k2 nw2 h6 tk6 hltD2 ⟨rfl, hacc2⟩ hoff2 F6 N6
        rw [List.take_of_length_le (by rw [hvl]; exact Nat.le_refl _)] at hacc2
        clear F4 N4
        dsimp only
        k_steps
        refine Stop.mk ?_
        have hfl := filter_ne_length hnd (List.getElem_mem hi')
        refine ih B' F6 X' N6 T' rfl ⟨D2, acc2, k2, rfl, .head _, hacc2⟩ (by omega) (hnd.filter _) (by omega) (by omega) (by omega) ?_
        rintro r tl2 h7 tk7 F7 N7 hf7 ⟨b, us, kb, rfl, hbm, hbl⟩
        clear F6 N6
        have hul : us.length ≤ 4 ^ f := by
          rw [hbl.length, List.length_map]
          exact ordersN_count f _ (hnd.filter _) (by omega) (by omega)
        have hpw : 4 ^ f ≤ 64 := by
          have : f ≤ 3 := by omega
          exact Nat.pow_le_pow_right (n := 4) (by omega) this
        have hal2 : acc.length ≤ 256 := by
          have : i * 4 ^ f ≤ 4 * 64 := Nat.mul_le_mul (by omega) hpw
          omega
        have e7 : ∀ p ∈ (I, it) :: (c, oc2) :: (C, oC) :: (D, listOf acc.toArray k) :: (tl2 ++ (tl ++ (L' + 1, oc) :: news)), p ∈ tl2 ++ (D2, listOf acc2.toArray k2) :: nw2 := fun p hp => by
          rw [← hG]
          simp only [List.mem_cons, List.mem_append] at hp ⊢; grind
        have f7 : ∀ q ∈ tl2, q.1 ≠ I ∧ q.1 ≠ c ∧ q.1 ≠ C ∧ q.1 ≠ D := fun q hq => by
          have h1 := hf7 (I, it) (.tail _ (by rw [← hG]; exact .head _)) q hq
          have h2 := hf7 (c, oc2) (.tail _ (by rw [← hG]; exact .tail _ (.head _))) q hq
          have h3 := hf7 (C, oC) (.tail _ (by rw [← hG]; exact .tail _ (.tail _ (.head _)))) q hq
          have h4 := hf7 (D, listOf acc.toArray k) (.tail _ (by rw [← hG]; exact .tail _ (.tail _ (.tail _ (.head _))))) q hq
          exact ⟨Nat.ne_of_gt h1, Nat.ne_of_gt h2, Nat.ne_of_gt h3, Nat.ne_of_gt h4⟩
        have fn7 : Fresh news tl2 := fun q hq p hp => hf7 q (.tail _ (by rw [← hG]; exact .tail _ (.tail _ (.tail _ (.tail _ (List.mem_append_right _ (.tail _ hq))))))) p hp
        have hoff7 : ∀ q ∈ tl2 ++ (tl ++ (L' + 1, oc) :: news), q.1 ≠ I ∧ q.1 ≠ c ∧ q.1 ≠ C ∧ q.1 ≠ D := fun q hq => by
          rcases List.mem_append.mp hq with hq | hq
          · exact f7 q hq
          · exact hoff q hq
        refine (⟨b, us, kb, h7, tk7, tl2 ++ (tl ++ (L' + 1, oc) :: news), fun j acc' nw'' => ∃ tl', nw'' = tl' ++ (tl2 ++ (tl ++ (L' + 1, oc) :: news)) ∧ Fresh news tl' ∧
            AreL (tl' ++ (tl2 ++ tl)) acc' ((((ns.take i).map fun one => ((ordersN f (ns.filter fun x => decide (x ≠ one))).map (one :: ·)).map up).flatten) ++ (((ordersN f (ns.filter fun x => decide (x ≠ ns[i]))).take j).map (ns[i] :: ·)).map up) ∧ acc'.length ≤ acc.length + j,
          rfl, rfl, F7, newsSub N7 e7, List.mem_append_left _ hbm, List.mem_append_right _ hlm, hoff7, by omega, ⟨[], rfl, (fun _ _ _ h => nomatch h), by simpa using hacc.mono fun p hp => List.mem_append_right _ hp, Nat.le_refl _⟩, ?_, ?_⟩ : Src2 _ _ _ _ _ _ _ _ _ _ _ _ _ _ _ _ _ _ _ _)
        · rintro acc' nw'' ⟨tl', rfl, hf', hacc', hl'⟩
          refine ⟨tl' ++ (tl2 ++ tl), by simp only [List.append_assoc], ?_, ?_, ?_⟩
          · intro q hq p hp
            rcases List.mem_append.mp hp with hp | hp
            · exact hf' q hq p hp
            rcases List.mem_append.mp hp with hp | hp
            · exact fn7 q hq p hp
            · exact hft q hq p hp
          · have hul2 : us.length = (ordersN f (ns.filter fun x => decide (x ≠ ns[i]))).length := by rw [hbl.length, List.length_map]
            rw [List.take_of_length_le (Nat.le_of_eq hul2.symm)] at hacc'
            rw [List.take_add_one, List.getElem?_eq_getElem hi', List.map_append, List.flatten_append]
            simpa using hacc'
          · rw [Nat.succ_mul]; omega
        · rintro I2 it2 oC2 mC2 k' j v2 acc' nw'' h8 tk8 hvj ⟨tl', rfl, hf', hacc', hl'⟩ hbm8 hlm8 hoff8 hns8 hmx8 F8 N8
          obtain ⟨ys, hys, b2, ws, kb2, rfl, hwm, hwi⟩ := hbl.get j v2 hvj
          have hjl : j < (ordersN f (ns.filter fun x => decide (x ≠ ns[i]))).length := by
            obtain ⟨hj, _⟩ := List.getElem?_eq_some_iff.mp hvj
            rw [hbl.length, List.length_map] at hj; exact hj
          have hys' : ys = up (ordersN f (ns.filter fun x => decide (x ≠ ns[i])))[j] := by
            rw [List.getElem?_map, List.getElem?_eq_getElem hjl, Option.map_some] at hys
            exact (Option.some.inj hys).symm
          subst hys'
          have hyl := ordersN_len f _ _ (List.getElem_mem hjl)
          clear F7 N7
          refine wpAny_BinOp ?_
          refine List_ ?_
          refine spliced_more ?_
          refine f_cell N8 rfl rfl rfl (.tail _ (.head _)) hoc2 (by decide) ?_
          refine spliced_none ?_
          refine newList_N F8 N8 (fun h9 F9 N9 => ?_) (by rw [sizeLine_eq]; simp)
          refine f_loc N9 rfl rfl (.tail _ (.tail _ (.tail _ (.head _)))) hns8 hmx8 (by decide) ?_
          refine f_add F9 N9 (.head _) (.tail _ (.tail _ (.tail _ (.tail _ (.tail _ (.tail _ (List.mem_append_right _ (List.mem_append_left _ hwm)))))))) (.cons _ _ .nil) hwi (by rw [up_length, hyl]; simp; omega) ?_
          intro D9 h10 lt9 F10 N10 hi10
          have N11 : News g L' h10 ((I2, it2) :: (c, oc2) :: (C, oC2) :: (D, listOf acc'.toArray k') :: (I, it) :: ((D9, listOf ([Value.int ((ns[i] : Nat) : Int) t5] ++ ws).toArray 0) :: (tl' ++ (tl2 ++ (tl ++ (L' + 1, oc) :: news))))) := newsSub N10 fun p hp => by
            simp only [List.mem_cons] at hp ⊢; grind
          refine Stop.mk ⟨_, _, _, rfl, F10, N11, .tail _ hbm8, .tail _ hlm8, ?_, (D9, listOf ([Value.int ((ns[i] : Nat) : Int) t5] ++ ws).toArray 0) :: tl', rfl, ?_, ?_, by rw [List.length_append, List.length_singleton]; omega⟩
          · intro q hq
            rcases List.mem_cons.mp hq with rfl | hq
            · exact ⟨Nat.ne_of_gt (lt9 (I2, it2) (.tail _ (.head _))), Nat.ne_of_gt (lt9 (I, it) (.tail _ (.tail _ (.tail _ (.tail _ (.tail _ (.head _))))))), Nat.ne_of_gt (lt9 (c, oc2) (.tail _ (.tail _ (.head _)))),
                Nat.ne_of_gt (lt9 (C, oC2) (.tail _ (.tail _ (.tail _ (.head _))))), Nat.ne_of_gt (lt9 (D, listOf acc'.toArray k') (.tail _ (.tail _ (.tail _ (.tail _ (.head _))))))⟩
            · exact hoff8 q hq
          · intro q hq p hp
            rcases List.mem_cons.mp hp with rfl | hp
            · exact lt9 q (.tail _ (.tail _ (.tail _ (.tail _ (.tail _ (.tail _ (List.mem_append_right _ (List.mem_append_right _ (List.mem_append_right _ (.tail _ hq)))))))))) 
            · exact hf' q hq p hp
          · have ej : ((ordersN f (ns.filter fun x => decide (x ≠ ns[i]))).take (j + 1)) = ((ordersN f (ns.filter fun x => decide (x ≠ ns[i]))).take j) ++ [(ordersN f (ns.filter fun x => decide (x ≠ ns[i])))[j]] := by
              rw [List.take_add_one, List.getElem?_eq_getElem hjl]; rfl
            rw [ej, List.map_append, List.map_append, ← List.append_assoc (List.flatten _)]
            refine AreL.append (hacc'.mono fun p hp => .tail _ hp) (.cons ⟨D9, _, _, rfl, .head _, ?_⟩ .nil)
            simpa using hi10
    · rintro D acc k nw h tk hltD ⟨tl, rfl, hft, hacc, hal⟩ hoff F3 N4
      have hvl : vs.length = ns.length := by rw [hi.length, up_length]
      rw [List.take_of_length_le (by rw [hvl]; exact Nat.le_refl _)] at hacc
      refine ⟨.ref D, _, _, _, _, rfl, rfl, F3, N4, (D, listOf acc.toArray k) :: tl, ?_, ?_, ⟨D, acc, k, rfl, .head _, ?_⟩⟩
      · intro p hp
        simp only [List.mem_cons, List.mem_append] at hp ⊢; grind
      · intro q hq p hp
        rcases List.mem_cons.mp hp with rfl | hp
        · exact hltD q (.tail _ hq)
        · exact hft q hq p hp
      · have : ((ordersN (f + 1) ns).map up) = ((ns.map fun one => ((ordersN f (ns.filter fun x => decide (x ≠ one))).map (one :: ·)).map up).flatten) := by
          rw [ordersN, List.map_flatten, List.map_map]; rfl
        rw [this]
        exact hacc.mono fun p hp => .tail _ hp
end
/-! FWays -/
section
def ways : Nat → Nat → Nat
  | 0, r => if r = 0 then 1 else 0
  | _ + 1, 0 => 0
  | m + 1, r + 1 => ways m r + m * ways m (r + 1)
def fac : Nat → Nat
  | 0 => 1
  | n + 1 => (n + 1) * fac n
theorem ways_fac : ∀ m r, ways m r ≤ fac m
  | 0, r => by rw [ways, fac]; split <;> omega
  | _ + 1, 0 => Nat.zero_le _
  | m + 1, r + 1 => by
    have h1 := ways_fac m r
    have h2 := Nat.mul_le_mul_left m (ways_fac m (r + 1))
    rw [ways, fac, Nat.succ_mul]; omega
theorem fac_small : ∀ {m : Nat}, m ≤ 4 → fac m ≤ 24
  | 0, _ => by decide
  | 1, _ => by decide
  | 2, _ => by decide
  | 3, _ => by decide
  | 4, _ => by decide
  | n + 5, h => by omega
theorem topOff_FWays : True := by
  w_top off
  trivial
theorem ways_ok {w : World} {loose : List Str} {mean : ExcName → Option Value} {mg mb : Str → Option Value} {gd : Option (List Code)} {base : Heap} : ∀ (many rings : Nat) {news : List (Addr × Obj)}
  {dp un : Nat} {cn : Str} {cs : Scope} {a : Addr} {ccd : Value} {cl : List (Str × Addr)} {outer : List Env} {A₀ : Around} {h₀ : Heap} {L : Addr} {m : Str → Option Value} {s : Shared} {Q E : Value → Shared → Prop} {t1 t2 : Tok}
  (_ : Below A₀ base outer h₀) (_ : Fr h₀ L s.heap m) (_ : (Foata.hd.heap_39 w.params).In h₀) (_ : News h₀ L s.heap news) (_ : Top Foata.hd.view_39 loose mean mg mb h₀) (_ : cs.kind = .function)
  (_ : many ≤ 4) (_ : dp + 2 * many + 2 < recursionLimit) (_ : un + 8 * many + 20 < cLine)
  (_ : ∀ t h' tk', Fr h₀ L h' m → News h₀ L h' news → Q (.int ((ways many rings : Nat) : Int) t) { s with heap := h', toks := tk' }),
  wpAny (model pr w) (ktrTop dp un gd cn cs L a ccd cl outer) (call (.ref 80) [.int ((many : Nat) : Int) t1, .int ((rings : Nat) : Int) t2]) Q E s := by
  intro many
  induction many with
  | zero =>
    intro rings news dp un cn cs a ccd cl outer A₀ h₀ L m s Q E t1 t2 B F X N T hk h4 hdp hu hret
    have hfill : PySem.Challenge.rw_gh0002_01 = PySem.Challenge.rw_gh0002_01 ∧ Foata.hd.heap_39 = Foata.hd.heap_39 := by
      k_fill
      exact ⟨rfl, rfl⟩
    clear hfill
    refine enterG (binds := [(Str.ofString "many", .int ((0 : Nat) : Int) t1), (Str.ofString "rings", .int ((rings : Nat) : Int) t2)]) (fun news' r => news' = news ∧ ∃ t, r = .int ((ways 0 rings : Nat) : Int) t) B F X N T hk (by k_is) (by k_is) (by omega) (BindsTo.of_eq rfl) (locs rfl) ?_ ?_ rfl rfl rfl (by decide)
    rotate_left
    · rintro v news' h' tk' F' N' ⟨rfl, t, rfl⟩
      exact hret t h' tk' F' N'
    clear hret N F
    intro g L' h₁ tk F' N' B' X' T'
    obtain ⟨bm, F0⟩ := Fr.canonE [(Str.ofString "many", .int ((0 : Nat) : Int) t1), (Str.ofString "rings", .int ((rings : Nat) : Int) t2)] F' (by ktr_unf)
    clear F'
    (try dsimp only)
    k_steps
    refine ⟨_, _, _, _, _, rfl, rfl, F0, N', rfl, tk, ?_⟩
    congr 1
    rw [ways]
    by_cases h : rings = 0
    · subst h; rfl
    · rw [if_neg h, if_neg (by simpa using fun e : (0 : Int) = (rings : Int) => h (by omega))]; rfl
  | succ many ih =>
    intro rings news dp un cn cs a ccd cl outer A₀ h₀ L m s Q E t1 t2 B F X N T hk h4 hdp hu hret
    have hfill : PySem.Challenge.rw_gh0002_01 = PySem.Challenge.rw_gh0002_01 ∧ Foata.hd.heap_39 = Foata.hd.heap_39 := by
      k_fill
      exact ⟨rfl, rfl⟩
    clear hfill
    refine enterG (binds := [(Str.ofString "many", .int ((many + 1 : Nat) : Int) t1), (Str.ofString "rings", .int ((rings : Nat) : Int) t2)]) (fun news' r => news' = news ∧ ∃ t, r = .int ((ways (many + 1) rings : Nat) : Int) t) B F X N T hk (by k_is) (by k_is) (by omega) (BindsTo.of_eq rfl) (locs rfl) ?_ ?_ rfl rfl rfl (by decide)
    rotate_left
    · rintro v news' h' tk' F' N' ⟨rfl, t, rfl⟩
      exact hret t h' tk' F' N'
    clear hret N F
    intro g L' h₁ tk F' N' B' X' T'
    obtain ⟨bm, F0⟩ := Fr.canonE [(Str.ofString "many", .int ((many + 1 : Nat) : Int) t1), (Str.ofString "rings", .int ((rings : Nat) : Int) t2)] F' (by ktr_unf)
    clear F'
    (try dsimp only)
    have hm0 : (((many + 1 : Nat) : Int) == 0) = false := by simp; omega
    cases rings with
    | zero =>
      k_steps
      refine ⟨_, _, _, _, _, rfl, rfl, F0, N', rfl, tk, ?_⟩
      rw [if_neg (by rw [show ((0 : Nat) : Int) = 0 from rfl, hm0]; exact Bool.false_ne_true)]
      rfl
    | succ rings =>
      have hm1 : (((rings + 1 : Nat) : Int) == 0) = false := by simp; omega
      k_steps
      refine Stop.mk ?_
      rw [show ((many + 1 : Nat) : Int) - 1 = ((many : Nat) : Int) by omega, show ((rings + 1 : Nat) : Int) - 1 = ((rings : Nat) : Int) by omega]
      refine ih rings B' F0 X' N' T' rfl (by omega) (by omega) (by omega) ?_
      intro t5 h5 tk5 F5 N5
      clear F0 N'
      dsimp only
      k_steps
      refine Stop.mk ?_
      rw [show ((many + 1 : Nat) : Int) - 1 = ((many : Nat) : Int) by omega]
      refine ih (rings + 1) B' F5 X' N5 T' rfl (by omega) (by omega) (by omega) ?_
      intro t6 h6 tk6 F6 N6
      clear F5 N5
      dsimp only
      have hw := Nat.le_trans (ways_fac many (rings + 1)) (fac_small (m := many) (by omega))
      refine mul_int ?_
      refine add_int ?_
      refine ⟨_, _, _, _, _, rfl, rfl, F6, N6, rfl, ?_⟩
      rw [ways]
      exact ⟨_, rfl⟩
end
/-! FAdd -/
section
theorem stored_take {K : Type} [DecidableEq K] {ys : List (K × Addr × Value)} (hn : (ys.map (·.1)).Nodup) {i : Nat} {y : K × Addr × Value} (hi : ys[i]? = some y) : storedH (ys.take i) y.1 y.2.1 y.2.2 = ys.take (i + 1) := by
  rw [storedH_new, List.take_add_one, hi]
  · rfl
  · refine atKey_none_of_get fun j p hj => ?_
    have hji : j < i := by
      have := (List.getElem?_eq_some_iff.mp hj).1
      rw [List.length_take] at this; omega
    rw [List.getElem?_take_of_lt hji] at hj
    have := idxH_unique hn (q := y.2) hj hi
    omega
theorem topOff_FAdd : True := by
  w_top off
  trivial
local macro_rules | `(tactic| walk_at "eval Dict nil nil") => `(tactic| refine Stop.out ?_)
local macro_rules | `(tactic| walk_at "eval Dict") => `(tactic| refine Stop.out ?_)
local macro_rules | `(tactic| walk_at "exec For") => `(tactic| refine Stop.out ?_)
section
variable {w : World} {loose : List Str} {mean : ExcName → Option Value} {mg mb : Str → Option Value} {news : List (Addr × Obj)}
 {dp un : Nat} {gd : Option (List Code)} {cn : Str} {cs : Scope} {a : Addr} {ccd : Value} {cl : List (Str × Addr)} {outer : List Env} {A₀ : Around} {base h₀ : Heap} {L : Addr} {m : Str → Option Value} {s : Shared} {Q E : Value → Shared → Prop}

theorem add_ok {v1 v2 : Value} {xs : List (Nat × Nat)} {k : Nat} (B : Below A₀ base outer h₀) (F : Fr h₀ L s.heap m) (X : (Foata.hd.heap_39 w.params).In h₀) (N : News h₀ L s.heap news) (T : Top Foata.hd.view_39 loose mean mg mb h₀) (hk : cs.kind = .function)
  (h1 : IsTab w news v1 xs) (h2 : IsTab w news v2 [(k, 1)]) (hlen : xs.length ≤ 1000) (hdp : dp + 4 < recursionLimit) (hu : un + 20 < cLine)
  (hret : ∀ r tl h' tk', Fr h₀ L h' m → News h₀ L h' (tl ++ news) → Fresh news tl → IsTab w (tl ++ news) r (addN xs k) → Q r { s with heap := h', toks := tk' }) :
  wpAny (model pr w) (ktrTop dp un gd cn cs L a ccd cl outer) (call (.ref 39) [v1, v2]) Q E s := by
  have hfill : PySem.Challenge.rw_gh0002_01 = PySem.Challenge.rw_gh0002_01 ∧ Foata.hd.heap_39 = Foata.hd.heap_39 := by
    k_fill
    exact ⟨rfl, rfl⟩
  clear hfill
  refine enterG (binds := [(Str.ofString "target", v1), (Str.ofString "source", v2)]) (fun news' r => ∃ tl, (∀ p ∈ tl ++ news, p ∈ news') ∧ Fresh news tl ∧ IsTab w (tl ++ news) r (addN xs k)) B F X N T hk (by k_is) (by k_is) (by omega) (BindsTo.of_eq rfl) (locs rfl) ?_ ?_ rfl rfl rfl (by decide)
  rotate_left
  · rintro v news' h' tk' F' N' ⟨tl, hs, hf, hr⟩
    exact hret v tl h' tk' F' (newsSub N' hs) hf hr
  clear hret N F
  intro g L' h₁ tk F' N' B' X' T'
  obtain ⟨d1, es1, ep1, ys1, rfl, hS1, hm1, he1, hk1, hkv1⟩ := h1
  obtain ⟨d2, es2, ep2, ys2, rfl, hS2, hm2, he2, hk2, hkv2⟩ := h2
  obtain ⟨bm, F0⟩ := Fr.canonE [(Str.ofString "target", .ref d1), (Str.ofString "source", .ref d2)] F' (by ktr_unf)
  clear F'
  (try dsimp only)
  k_steps
  refine Stop.mk ?_
  refine wpAny_Dict_empty ?_
  have hSD : (h₁.objs.size == sysModules) = false := F0.notModules (modules_low T'.nolimit)
  have F1 := F0.push (dictO #[] 0)
  have N1 := News.push F0 N' (dictO #[] 0)
  have ltD : ∀ p ∈ news, p.1 < h₁.objs.size := fun p hp => Heap.lt_size (N' p hp).1
  clear F0 N'
  generalize h₁.objs.size = D at *
  generalize h₁.push (dictO #[] 0) = h2 at *
  k_steps
  refine Stop.mk ?_
  rename_i h3 F3 N3
  have F4 := Fr.canon [(Str.ofString "target", .ref d1), (Str.ofString "source", .ref d2), (Str.ofString "new_callers", .ref D)] F3 (by ktr_unf)
  clear F3
  refine for_open ?_ (fun _ => rfl)
  refine wpAny_Call_method (T := "dict") (id := "dict.items") rfl rfl rfl F.plainAttrs_dict F.slot_dict_items F.type_dict_items ?_
  refine nameX_L F4 (v := .ref d1) (by ktr_unf) ?_
  have hd1 := (N3 (d1, dictO es1 ep1) (.tail _ hm1)).1
  refine ⟨⟨_, hd1, rfl⟩, fun b e => by injection e with e; subst e; exact ⟨_, hd1, rfl⟩, ?_⟩
  refine Calls.callWith_builtin rfl (PySem.evalArgs_none ?_)
  refine raw_items hS1 hd1 ?_
  have F5 := F4.push (viewO d1)
  have N5 := News.push F4 N3 (viewO d1)
  have ltV : ∀ p ∈ (D, dictO #[] 0) :: news, p.1 < h3.objs.size := fun p hp => Heap.lt_size (N3 p hp).1
  clear F4 N3 hd1
  generalize h3.objs.size = V at *
  generalize h3.push (viewO d1) = h5 at *
  have hVD : V ≠ D := Nat.ne_of_gt (ltV (D, dictO #[] 0) (.head _))
  have hnD : ∀ p ∈ news, p.1 ≠ D := fun p hp => Nat.ne_of_lt (ltD p hp)
  have hn1 : (ys1.map (·.1)).Nodup := he1.2
  have hl1 : ys1.length ≤ 1000 := by rw [hkv1.length]; exact hlen
  refine for_items (es := es1) (ep := ep1) [] (fun i m nw => ∃ es' ep', nw = (V, viewO d1) :: (D, dictO es' ep') :: news ∧ EntriesAre (mixK w) es' (ys1.take i) ∧ Keyed (mixK w) nw (ys1.take i) ∧ m (Str.ofString "source") = some (.ref d2) ∧ m (Str.ofString "new_callers") = some (.ref D))
    rfl rfl (.head _) (.tail _ (.tail _ hm1)) (fun _ hq => nomatch hq) rfl rfl rfl F5 N5 ⟨#[], 0, rfl, ⟨rfl, List.nodup_nil⟩, (fun y hy => by simp at hy), rfl, rfl⟩ ?_ ?_
  · rintro I i e m₁ nw h tk it hltI hei ⟨es', ep', rfl, he', hk', hm1', hm2'⟩ hd1 _ hoff F6 N6
    obtain ⟨y, hy, rfl⟩ := he1.at hei
    have F7 := Fr.canon [(Str.ofString "caller", y.2.2), (Str.ofString "func", .ref y.2.1), (Str.ofString "source", .ref d2), (Str.ofString "new_callers", .ref D)] F6 (by ktr_unf)
    clear F6 F5 N5
    refine wpAny_execs_cons ?_
    refine wpAny_Assign_Subscript ?_ rfl
    refine nameX_L F7 (v := y.2.2) (by ktr_unf) ?_
    refine nameX_L F7 (v := .ref D) (by ktr_unf) ?_
    refine nameX_L F7 (v := .ref y.2.1) (by ktr_unf) ?_
    obtain ⟨ok, hka, tk5⟩ := hk1 y (List.mem_of_getElem? hy)
    have hkk := hk'.mono (news' := [(I, it), (V, viewO d1)] ++ (D, dictO es' ep') :: news) fun p hp => .tail _ hp
    refine f_dset (pre := [(I, it), (V, viewO d1)]) (post := news) F7 N6 ?_ hnD he' hkk (.tail _ (.tail _ (.tail _ hka))) tk5 (by dsimp only [ktrTop]; omega) (by rw [List.length_take]; omega) ?_
    · intro p hp
      rcases List.mem_cons.mp hp with rfl | hp
      · exact (hoff (D, dictO es' ep') (.tail _ (.head _))).symm
      · rw [List.mem_singleton.mp hp]; exact hVD
    intro h8 es8 ep8 F8 N8 he8 hk8
    rw [stored_take hn1 hy] at he8 hk8
    dsimp only
    refine wpAny_execs_nil ?_
    refine ⟨_, _, _, (V, viewO d1) :: (D, dictO es8 ep8) :: news, rfl, F8, N8, ?_, ?_, es8, ep8, rfl, he8, ?_, rfl, rfl⟩
    · intro q hq
      rw [List.mem_singleton.mp hq]; exact .tail _ (.tail _ hm1)
    · intro q hq
      rcases List.mem_cons.mp hq with rfl | hq
      · exact hoff _ (.head _)
      rcases List.mem_cons.mp hq with rfl | hq
      · exact hoff (D, dictO es' ep') (.tail _ (.head _))
      · exact hoff q (.tail _ (.tail _ hq))
    · exact fun y hy => (hk1.mono fun p hp => .tail _ (.tail _ hp)) y (List.mem_of_mem_take hy)
  · rintro m₁ nw h tk ⟨es', ep', rfl, he', hk', hm1', hm2'⟩ _ F6 N6
    rw [List.take_of_length_le (by rw [he1.size]; exact Nat.le_refl _)] at he' hk'
    have F7 := Fr.canon [(Str.ofString "source", .ref d2), (Str.ofString "new_callers", .ref D)] F6 (by ktr_unf)
    clear F6 F5 N5
    dsimp only
    k_steps
    refine Stop.mk ?_
    refine for_open ?_ (fun _ => rfl)
    refine wpAny_Call_method (T := "dict") (id := "dict.items") rfl rfl rfl F.plainAttrs_dict F.slot_dict_items F.type_dict_items ?_
    refine nameX_L F7 (v := .ref d2) (by ktr_unf) ?_
    have hd2 := (N6 (d2, dictO es2 ep2) (.tail _ (.tail _ hm2))).1
    refine ⟨⟨_, hd2, rfl⟩, fun b e => by injection e with e; subst e; exact ⟨_, hd2, rfl⟩, ?_⟩
    refine Calls.callWith_builtin rfl (PySem.evalArgs_none ?_)
    refine raw_items hS2 hd2 ?_
    have N6' : News g L' h ((D, dictO es' ep') :: news) := fun p hp => N6 p (.tail _ hp)
    have F8 := F7.push (viewO d2)
    have N8 := News.push F7 N6' (viewO d2)
    have ltV2 : ∀ p ∈ (D, dictO es' ep') :: news, p.1 < h.objs.size := fun p hp => Heap.lt_size (N6' p hp).1
    dsimp only
    clear F7 N6 N6' hd2
    generalize h.objs.size = V2 at *
    generalize h.push (viewO d2) = h8 at *
    have hVD2 : V2 ≠ D := Nat.ne_of_gt (ltV2 (D, dictO es' ep') (.head _))
    have hkD : Keyed (mixK w) ((V2, viewO d2) :: (D, dictO es' ep') :: news) ys1 := hk1.mono fun p hp => .tail _ (.tail _ hp)
    refine for_items (es := es2) (ep := ep2) [] (fun i m nw => ∃ es' ep' ys', nw = (V2, viewO d2) :: (D, dictO es' ep') :: news ∧ EntriesAre (mixK w) es' ys' ∧ Keyed (mixK w) nw ys' ∧ KV ys' (if i = 0 then xs else addN xs k) ∧ m (Str.ofString "new_callers") = some (.ref D))
      rfl rfl (.head _) (.tail _ (.tail _ hm2)) (fun _ hq => nomatch hq) rfl rfl rfl F8 N8 ⟨es', ep', ys1, rfl, he', hkD, hkv1, rfl⟩ ?_ ?_
    · rintro I i e m₁ nw h tk it hltI hei ⟨es', ep', ys', rfl, he', hk', hkv', hm2'⟩ hd2 _ hoff F9 N9
      obtain ⟨y, hy, rfl⟩ := he2.at hei
      have hys2 : ∃ a t, ys2 = [(keyOf k, a, .int ((1 : Nat) : Int) t)] := by
        cases hkv2 with
        | cons h1 r =>
          cases r
          rename_i y0
          obtain ⟨e1, t, e2⟩ := h1
          exact ⟨y0.2.1, t, by rw [← e1, ← e2]⟩
      obtain ⟨a2, t2, rfl⟩ := hys2
      have hi0 : i = 0 := by
        have := (List.getElem?_eq_some_iff.mp hy).1
        simpa using this
      subst hi0
      have hy0 : y = (keyOf k, a2, .int ((1 : Nat) : Int) t2) := by simpa using hy.symm
      subst hy0
      rw [if_pos rfl] at hkv'
      obtain ⟨ok, hka, tkk⟩ := hk2 _ (List.mem_of_getElem? hy)
      have F10 := Fr.canon [(Str.ofString "caller", .int ((1 : Nat) : Int) t2), (Str.ofString "func", .ref a2), (Str.ofString "new_callers", .ref D)] F9 (by ktr_unf)
      clear F9 F8 N8
      have hl' : ys'.length ≤ 1000 := by rw [hkv'.length]; exact hlen
      refine wpAny_execs_cons ?_
      refine wpAny_If ?_
      refine wpAny_isTrue_Compare1 ?_
      refine nameX_L F10 (v := .ref a2) (by ktr_unf) ?_
      refine nameX_L F10 (v := .ref D) (by ktr_unf) ?_
      refine f_din N9 (.tail _ (.tail _ (.head _))) hSD he' (hk'.mono fun p hp => .tail _ hp) (.tail _ (.tail _ (.tail _ hka))) tkk (by dsimp only [ktrTop]; omega) ?_
      refine wpAny_truthy_bool ?_
      have hat := hkv'.atKey k
      have hpreV : ∀ p ∈ [(I, it), (V2, viewO d2)], p.1 ≠ D := by
        intro p hp
        rcases List.mem_cons.mp hp with rfl | hp
        · exact (hoff (D, dictO es' ep') (.tail _ (.head _))).symm
        · rw [List.mem_singleton.mp hp]; exact hVD2
      have hend : ∀ (m₂ : Str → Option Value) (t : Tok) (c : Nat) (h9 : Heap) (es9 : Array DictEntry) (ep9 tk9 : Nat), KV (storedH ys' (keyOf k) a2 (.int ((c : Nat) : Int) t)) (addN xs k) → Fr g L' h9 (kstB m₂ [(Str.ofString "caller", .int ((1 : Nat) : Int) t2), (Str.ofString "func", .ref a2), (Str.ofString "new_callers", .ref D)]) →
          News g L' h9 ([(I, it), (V2, viewO d2)] ++ (D, dictO es9 ep9) :: news) → EntriesAre (mixK w) es9 (storedH ys' (keyOf k) a2 (.int ((c : Nat) : Int) t)) →
          ∃ h' tk' m' news', ({ s with heap := h9, toks := tk9 } : Shared) = { s with heap := h', toks := tk' } ∧ Fr g L' h' m' ∧ News g L' h' ((I, it) :: news') ∧ (∀ q ∈ [(d2, dictO es2 ep2)], q ∈ news') ∧ (∀ q ∈ news', q.1 ≠ I) ∧
            ∃ es' ep' ys', news' = (V2, viewO d2) :: (D, dictO es' ep') :: news ∧ EntriesAre (mixK w) es' ys' ∧ Keyed (mixK w) news' ys' ∧ KV ys' (if 0 + 1 = 0 then xs else addN xs k) ∧ m' (Str.ofString "new_callers") = some (.ref D) := by
        intro m₂ t c h9 es9 ep9 tk9 hkv9 F9 N9 he9
        refine ⟨_, _, _, (V2, viewO d2) :: (D, dictO es9 ep9) :: news, rfl, F9, N9, ?_, ?_, es9, ep9, _, rfl, he9, ?_, hkv9, rfl⟩
        · intro q hq
          rw [List.mem_singleton.mp hq]; exact .tail _ (.tail _ hm2)
        · intro q hq
          rcases List.mem_cons.mp hq with rfl | hq
          · exact hoff _ (.head _)
          rcases List.mem_cons.mp hq with rfl | hq
          · exact hoff (D, dictO es' ep') (.tail _ (.head _))
          · exact hoff q (.tail _ (.tail _ hq))
        · exact keyed_stored (Keyed.swap (pre := [(V2, viewO d2)]) hk') (.tail _ (.tail _ hka)) tkk
      cases hfind : xs.find? fun x => decide (x.1 = k) with
      | none =>
        rw [hfind] at hat
        simp only at hat
        rw [hat]
        dsimp only [Option.isSome]
        simp only [Bool.false_eq_true, if_false]
        refine wpAny_execs_cons ?_
        refine wpAny_Assign_Subscript ?_ rfl
        refine nameX_L F10 (v := .int ((1 : Nat) : Int) t2) (by ktr_unf) ?_
        refine nameX_L F10 (v := .ref D) (by ktr_unf) ?_
        refine nameX_L F10 (v := .ref a2) (by ktr_unf) ?_
        refine f_dset (pre := [(I, it), (V2, viewO d2)]) (post := news) F10 N9 hpreV hnD he' (hk'.mono fun p hp => .tail _ hp) (.tail _ (.tail _ (.tail _ hka))) tkk (by dsimp only [ktrTop]; omega) (by omega) ?_
        intro h11 es11 ep11 F11 N11 he11 _
        dsimp only
        refine wpAny_execs_nil ?_
        refine wpAny_execs_nil ?_
        refine hend _ t2 1 h11 es11 ep11 _ ?_ F11 N11 he11
        rw [storedH_new hat, addN, hfind]
        exact hkv'.append (.cons ⟨rfl, t2, rfl⟩ .nil)
      | some x =>
        rw [hfind] at hat
        simp only at hat
        obtain ⟨a3, t3, hat⟩ := hat
        rw [hat]
        dsimp only [Option.isSome]
        k_steps
        refine f_dget N9 (.tail _ (.tail _ (.head _))) he' (hk'.mono fun p hp => .tail _ hp) (.tail _ (.tail _ (.tail _ hka))) tkk (by dsimp only [ktrTop]; omega) hat ?_
        refine nameX_L F10 (v := .int ((1 : Nat) : Int) t2) (by ktr_unf) ?_
        refine iadd_int ?_
        refine f_dset (pre := [(I, it), (V2, viewO d2)]) (post := news) F10 N9 hpreV hnD he' (hk'.mono fun p hp => .tail _ hp) (.tail _ (.tail _ (.tail _ hka))) tkk (by dsimp only [ktrTop]; omega) (by omega) ?_
        intro h11 es11 ep11 F11 N11 he11 _
        dsimp only
        refine wpAny_execs_nil ?_
        refine wpAny_execs_nil ?_
        refine wpAny_execs_nil ?_
        have hsum : ((x.2 : Nat) : Int) + ((1 : Nat) : Int) = ((x.2 + 1 : Nat) : Int) := by omega
        rw [hsum] at he11
        refine hend _ _ (x.2 + 1) h11 es11 ep11 _ ?_ F11 N11 he11
        rw [storedH_old hat, addN, hfind]
        exact hkv'.put _ _ _
    · rintro m₁ nw h tk ⟨es', ep', ys', rfl, he', hk', hkv', hm2'⟩ _ F9 N9
      have hs2 : es2.size ≠ 0 := by rw [he2.size, hkv2.length]; simp
      rw [if_neg hs2] at hkv'
      have F10 := Fr.canon [(Str.ofString "new_callers", .ref D)] F9 (by ktr_unf)
      clear F9 F8 N8
      dsimp only
      k_steps
      refine ⟨.ref D, _, _, _, _, rfl, rfl, F10, N9, [(V2, viewO d2), (D, dictO es' ep')], (fun p hp => hp), ?_, ⟨D, es', ep', ys', rfl, hSD, .tail _ (.head _), he', hk', hkv'⟩⟩
      intro q hq p hp
      rcases List.mem_cons.mp hp with rfl | hp
      · exact ltV2 q (.tail _ hq)
      · rw [List.mem_singleton.mp hp]; exact ltD q hq
end
end
/-! FCount -/
section
theorem KV.at {ys : List (List (Int ⊕ Str) × Addr × Value)} {xs : List (Nat × Nat)} (h : KV ys xs) : ∀ {i : Nat} {y : List (Int ⊕ Str) × Addr × Value}, ys[i]? = some y → ∃ x, xs[i]? = some x ∧ ∃ t, y.2.2 = .int ((x.2 : Nat) : Int) t := by
  induction h with
  | nil => intro i y hy; simp at hy
  | cons h1 _ ih =>
    intro i y hy
    cases i with
    | zero => simp only [List.getElem?_cons_zero, Option.some.injEq] at hy; subst hy; exact ⟨_, rfl, h1.2⟩
    | succ i => exact ih (by simpa using hy)
def total (xs : List (Nat × Nat)) : Nat := (xs.map (·.2)).sum
theorem topOff_FCount : True := by
  w_top off
  trivial
local macro_rules | `(tactic| walk_at "exec For") => `(tactic| refine Stop.out ?_)
local macro_rules | `(tactic| walk_at "exec For Name Call cons nil") => `(tactic| refine Stop.out ?_)
section
variable {w : World} {loose : List Str} {mean : ExcName → Option Value} {mg mb : Str → Option Value} {news : List (Addr × Obj)}
 {dp un : Nat} {gd : Option (List Code)} {cn : Str} {cs : Scope} {a : Addr} {ccd : Value} {cl : List (Str × Addr)} {outer : List Env} {A₀ : Around} {base h₀ : Heap} {L : Addr} {m : Str → Option Value} {s : Shared} {Q E : Value → Shared → Prop}

theorem count_ok {v : Value} {xs : List (Nat × Nat)} (B : Below A₀ base outer h₀) (F : Fr h₀ L s.heap m) (X : (Foata.hd.heap_39 w.params).In h₀) (N : News h₀ L s.heap news) (T : Top Foata.hd.view_39 loose mean mg mb h₀) (hk : cs.kind = .function)
  (h1 : IsTab w news v xs) (hdp : dp + 4 < recursionLimit)
  (hret : ∀ t h' tk', Fr h₀ L h' m → News h₀ L h' news → Q (.int ((total xs : Nat) : Int) t) { s with heap := h', toks := tk' }) :
  wpAny (model pr w) (ktrTop dp un gd cn cs L a ccd cl outer) (call (.ref 46) [v]) Q E s := by
  have hfill : PySem.Challenge.rw_gh0002_01 = PySem.Challenge.rw_gh0002_01 ∧ Foata.hd.heap_39 = Foata.hd.heap_39 := by
    k_fill
    exact ⟨rfl, rfl⟩
  clear hfill
  refine enterG (binds := [(Str.ofString "callers", v)]) (fun news' r => news' = news ∧ ∃ t, r = .int ((total xs : Nat) : Int) t) B F X N T hk (by k_is) (by k_is) (by omega) (BindsTo.of_eq rfl) (locs rfl) ?_ ?_ rfl rfl rfl (by decide)
  rotate_left
  · rintro v news' h' tk' F' N' ⟨rfl, t, rfl⟩
    exact hret t h' tk' F' N'
  clear hret N F
  intro g L' h₁ tk F' N' B' X' T'
  obtain ⟨d1, es1, ep1, ys1, rfl, hS1, hm1, he1, hk1, hkv1⟩ := h1
  obtain ⟨bm, F0⟩ := Fr.canonE [(Str.ofString "callers", .ref d1)] F' (by ktr_unf)
  clear F'
  (try dsimp only)
  k_steps
  refine Stop.mk ?_
  rename_i h3 F3 N3
  have F4 := Fr.canon [(Str.ofString "callers", .ref d1), (Str.ofString "nc", .int 0 tk)] F3 (by ktr_unf)
  clear F3
  refine for_open ?_ (fun _ => rfl)
  refine wpAny_Call_method (T := "dict") (id := "dict.values") rfl rfl rfl F.plainAttrs_dict F.slot_dict_values F.type_dict_values ?_
  refine nameX_L F4 (v := .ref d1) (by ktr_unf) ?_
  have hd1 := (N3 (d1, dictO es1 ep1) hm1).1
  refine ⟨⟨_, hd1, rfl⟩, fun b e => by injection e with e; subst e; exact ⟨_, hd1, rfl⟩, ?_⟩
  refine Calls.callWith_builtin rfl (PySem.evalArgs_none ?_)
  refine raw_values hS1 hd1 ?_
  have F5 := F4.push { cls := .type "dict_values", data := .fields #[.ref d1] }
  have N5 := News.push F4 N3 { cls := .type "dict_values", data := .fields #[.ref d1] }
  have ltV : ∀ p ∈ news, p.1 < h3.objs.size := fun p hp => Heap.lt_size (N3 p hp).1
  clear F4 N3 hd1
  generalize h3.objs.size = V at *
  generalize h3.push { cls := .type "dict_values", data := .fields #[.ref d1] } = h5 at *
  dsimp only
  refine for_values (es := es1) (ep := ep1) (fun i m nw => nw = (V, { cls := .type "dict_values", data := .fields #[.ref d1] }) :: news ∧ ∃ t, m (Str.ofString "nc") = some (.int ((total (xs.take i) : Nat) : Int) t))
    rfl (.head _) (.tail _ hm1) F5 N5 ⟨rfl, tk, rfl⟩ (fun _ _ => rfl) ?_ ?_
  · rintro I i e m₁ nw h tk it hltI hei ⟨rfl, t, hm2⟩ hd1 hoff F6 N6
    obtain ⟨y, hy, rfl⟩ := he1.at hei
    obtain ⟨x, hx, t5, hx5⟩ := hkv1.at hy
    have hev : (entryOfKey (tupleKind (mixK w)) y).val = .int ((x.2 : Nat) : Int) t5 := hx5
    rw [hev]
    have F7 := Fr.canon [(Str.ofString "nc", .int ((total (xs.take i) : Nat) : Int) t)] F6 (by ktr_unf)
    clear F6 F5 N5
    refine wpAny_assign_Name ?_
    k_steps
    rename_i h9 F9 N9
    refine ⟨_, _, _, (V, { cls := .type "dict_values", data := .fields #[.ref d1] }) :: news, rfl, F9, N9, ?_, hoff, rfl, ?_⟩
    · intro q hq
      rw [List.mem_singleton.mp hq]; exact .tail _ hm1
    · have : total (xs.take (i + 1)) = total (xs.take i) + x.2 := by
        rw [total, total, List.take_add_one, hx]; simp
      rw [this]
      exact ⟨_, rfl⟩
  · rintro m₁ nw h tk ⟨rfl, t, hm2⟩ F6 N6
    have F7 := Fr.canon [(Str.ofString "nc", .int ((total (xs.take es1.size) : Nat) : Int) t)] F6 (by ktr_unf)
    rw [List.take_of_length_le (by rw [he1.size, hkv1.length]; exact Nat.le_refl _)] at F7
    clear F6 F5 N5
    dsimp only
    k_steps
    exact ⟨_, _, _, _, _, rfl, rfl, F7, fun p hp => N6 p (.tail _ hp), rfl, t, rfl⟩
end
end
/-! FLawA -/
section
section
variable {w : World} {A : Around} {E : Value → Shared → Prop} {s : Shared} {h₀ : Heap} {L : Addr} {m : Str → Option Value} {env : Env} {news : List (Addr × Obj)}
theorem store_cell' {x : Str} {c : Addr} {oc : Obj} {v : Value} {v₀ : Option Value} {pre post : List (Addr × Obj)} {Q : Unit → Shared → Prop} (hk : env.scope.kind = .function) (hx : env.kindOf x = some .cell) (hc : env.cells.lookup x = some c)
    (F : Fr h₀ L s.heap m) (N : News h₀ L s.heap (pre ++ (c, oc) :: post)) (hd : oc.data = .cell v₀) (h1 : ∀ p ∈ pre, p.1 ≠ c) (h2 : ∀ p ∈ post, p.1 ≠ c)
    (h : ∀ h' o', Fr h₀ L h' m → News h₀ L h' (pre ++ (c, o') :: post) → o'.data = .cell (some v) → Q () { s with heap := h' }) : wpAny (model pr w) A (storeName env x v) Q E s := by
  have hmem := N (c, oc) (List.mem_append_right _ (.head _))
  refine wpAny_storeName_cell hk hx hc ⟨oc, hmem.1, hd⟩ fun h' hv hs => ?_
  obtain ⟨o', ho', hd'⟩ := hv
  exact h h' o' (F.change hs hmem.2.1 hmem.2.2) (news_set N h1 h2 hs ho') hd'

theorem evalPairs_one {k v : Sem Value} {Q : List (Value × Value) → Shared → Prop} (h : wpAny (model pr w) A k (fun kv s₁ => wpAny (model pr w) A v (fun vv s₂ => Q [(kv, vv)] s₂) E s₁) E s) :
    wpAny (model pr w) A (evalPairs [(k, v)]) Q E s := by
  unfold evalPairs
  refine wpAny_bind (wpAny_mono h (fun kv s₁ h₁ => wpAny_bind (wpAny_holding (wpAny_mono h₁ (fun vv s₂ h₂ => ?_) fun _ _ x => x))) fun _ _ x => x)
  unfold evalPairs
  exact wpAny_bind (wpAny_holding (wpAny_pure (wpAny_pure h₂)))

/-- {key: value} -/
theorem dict_key1 {keyE valE : PySem.Expr} {pos : Pos} {Q : Value → Shared → Prop} (F : Fr h₀ L s.heap m) (N : News h₀ L s.heap news) (hbig : sysModules < h₀.objs.size)
    (h : ∀ d h1, (∀ p ∈ news, p.1 < d) → (d == sysModules) = false → Fr h₀ L h1 m → News h₀ L h1 ((d, dictO #[] 0) :: news) →
      wpAny (model pr w) A (eval keyE env) (fun kv s₁ => wpAny (model pr w) A (eval valE env) (fun vv s₂ => wpAny (model pr w) A (storeAll d [(kv, vv)]) (fun _ s₃ => Q (.ref d) s₃) E s₂) E s₁) E { s with heap := h1 }) :
    wpAny (model pr w) A (eval (.Dict [some keyE] [valE] pos) env) Q E s := by
  refine wpAny_Dict_any rfl rfl (List.cons_ne_nil _ _) (by simp) ?_
  show wpAny _ _ (evalPairs [(eval keyE env, do let x ← eval valE env; standAt pos; pure x)]) _ _ _
  refine evalPairs_one ?_
  refine wpAny_mono (h _ _ (fun p hp => Heap.lt_size (N p hp).1) (F.notModules hbig) (F.push _) (News.push F N _)) (fun kv s₁ h₁ => ?_) fun _ _ x => x
  exact wpAny_bind (wpAny_mono h₁ (fun vv s₂ h₂ => wpAny_bind (wpAny_standAt (wpAny_pure h₂))) fun _ _ x => x)

theorem store_one {K : Type} [DecidableEq K] {knd : KeyKind pr w K} {d a : Addr} {ok : Obj} {ks : List K} {v : Value} {pre post : List (Addr × Obj)} {Q : PUnit → Shared → Prop} (F : Fr h₀ L s.heap m) (N : News h₀ L s.heap (pre ++ (d, dictO #[] 0) :: post))
    (h1 : ∀ p ∈ pre, p.1 ≠ d) (h2 : ∀ p ∈ post, p.1 ≠ d) (hka : (a, ok) ∈ pre ++ (d, dictO #[] 0) :: post) (tk : TupKeyObj knd ks ok) (hu : A.units < cLine)
    (h : ∀ h' es' ep' tk', Fr h₀ L h' m → News h₀ L h' (pre ++ (d, dictO es' ep') :: post) → EntriesAre knd es' [(ks, a, v)] → Q PUnit.unit { s with heap := h', toks := tk' }) :
    wpAny (model pr w) A (storeAll d [(.ref a, v)]) Q E s := by
  unfold storeAll
  rw [List.forIn_cons]
  have hD : (d, dictO #[] 0) ∈ pre ++ (d, dictO #[] 0) :: post := List.mem_append_right _ (.head _)
  have z := N _ hD
  have hm : s.heap.DictOfH (tupleKind knd) d [] := dictOfH (ys := []) N hD ⟨rfl, List.nodup_nil⟩ (fun y hy => by simp at hy)
  refine wpAny_bind (wpAny_bind (wpAny_dictSet_heap (knd := tupleKind knd) (k := ks) (xs := []) (hsz := by rw [sizeLine_eq]; simp) hu (tk.key (N _ hka).1) hm fun h' hm' hs => ?_))
  obtain ⟨o', es', ep', ho', hc', hd', he', _, hn'⟩ := hm'
  obtain rfl := dictO_of hc' hd'
  refine wpAny_pure ?_
  show wpAny _ _ (forIn [] PUnit.unit _) _ _ _
  rw [List.forIn_nil]
  exact wpAny_pure (h h' es' ep' _ (F.change hs z.2.1 z.2.2) (news_set N h1 h2 hs ho') ⟨he', hn'⟩)
end
section
variable {w : World} {A : Around} {E : Value → Shared → Prop} {s : Shared} {h₀ : Heap} {L : Addr} {news : List (Addr × Obj)}
theorem f_ne {l b : Addr} {vs ws : List Value} {nl nb : Nat} {xs ys : List Int} {Q : Value → Shared → Prop} (N : News h₀ L s.heap news) (hl : (l, listOf vs.toArray nl) ∈ news) (hb : (b, listOf ws.toArray nb) ∈ news) (hi : IntsAre vs xs) (hj : IntsAre ws ys) (he : xs = ys) (hu : A.units < cLine)
    (h : Q (.bool false) s) : wpAny (model pr w) A (compareOp .NotEq (.ref l) (.ref b)) Q E s := by
  subst he
  have hsz : vs.toArray.size = ws.toArray.size := by simp only [List.size_toArray, hi.length, hj.length]
  refine SeqAt.RcNeAt.lists (A := A) (s := s) (e := fun _ => true) (News.isList N hl) (News.isList N hb) hsz hu (fun j h1 h2 => ?_) pr w E Q ?_
  · simp only [List.size_toArray] at h1 h2
    have h1' : j < xs.length := by rw [← hi.length]; exact h1
    obtain ⟨t, e⟩ := hi.get j xs[j] (List.getElem?_eq_getElem h1')
    obtain ⟨u, e'⟩ := hj.get j xs[j] (List.getElem?_eq_getElem h1')
    have z : vs.toArray[j] = .int xs[j] t := by simpa [List.getElem?_eq_getElem h1] using e
    have z' : ws.toArray[j] = .int xs[j] u := by simpa [List.getElem?_eq_getElem h2] using e'
    rw [z, z']
    have := SeqAt.EqAt.int_int (A := A.in1) (s := s) xs[j] t xs[j] u
    simpa using this
  · have : ((List.range vs.toArray.size).all fun _ => true) = true := by simp
    rw [this]; exact h
end
theorem nameG_B {M : Model} {A : Around} {K : Frag} {h₀ : Heap} {L : Addr} {m : Str → Option Value} {mg mb : Str → Option Value} {p : Program} {loose : List Str} {s : Shared} {env : Env} {E : Value → Shared → Prop} {x : Str} {pos : Pos} {v : Value} {Q : Value → Shared → Prop} (F : Fr h₀ L s.heap m) (X : K.In h₀) (T : TopRead p loose mg mb h₀)
    (e : nsIn K mainGlobals x = some none) (hv : bootBuiltins x = some v) (hn : x ≠ "__name__") (h : Q v s) (hg : env.globals = mainGlobals) (hb : env.builtins = builtinsNs) (hk : env.scope.kind = .function) (hx : env.kindOf x = some .globalImplicit) (hd : (x == ("__debug__" : Str)) = false) :
    wpAny M A (eval (.Name x pos) env) Q E s :=
  Name_function_global hk hx (loadGlobal_builtin (env := env) (by rw [hg]; exact T.g.keeps F.keep) (mg_none_of X T.g e) (by rw [hb]; exact T.b.keeps F.keep) ((T.builtins x hn).trans hv) h) hd
abbrev tupO (vs : List Value) : Obj := { cls := .type "tuple", data := .seq vs.toArray }
/-- a list's values: pairs of a tuple of ints and 1 -/
inductive PairsAre (news : List (Addr × Obj)) : List Value → List (List Int) → Prop
  | nil : PairsAre news [] []
  | cons {p T : Addr} {vs us : List Value} {t : Tok} {ks : List Int} {kss : List (List Int)} (h1 : (p, tupO [.ref T, .int 1 t]) ∈ news) (h2 : (T, tupO vs) ∈ news) (h3 : IntsAre vs ks) (r : PairsAre news us kss) : PairsAre news (.ref p :: us) (ks :: kss)
theorem PairsAre.mono {news news' : List (Addr × Obj)} {us : List Value} {kss : List (List Int)} (h : PairsAre news us kss) (hs : ∀ p ∈ news, p ∈ news') : PairsAre news' us kss := by
  induction h with
  | nil => exact .nil
  | cons h1 h2 h3 _ ih => exact .cons (hs _ h1) (hs _ h2) h3 ih
theorem PairsAre.append {news : List (Addr × Obj)} {us ws : List Value} {kss lss : List (List Int)} (h : PairsAre news us kss) (h' : PairsAre news ws lss) : PairsAre news (us ++ ws) (kss ++ lss) := by
  induction h with
  | nil => exact h'
  | cons h1 h2 h3 _ ih => exact .cons h1 h2 h3 ih
theorem PairsAre.length {news : List (Addr × Obj)} {us : List Value} {kss : List (List Int)} (h : PairsAre news us kss) : us.length = kss.length := by
  induction h with
  | nil => rfl
  | cons _ _ _ _ ih => simp [ih]
theorem flat_le {b : Nat} : ∀ (l : List (List Int)), (∀ xs ∈ l, xs.length ≤ b) → l.flatten.length ≤ l.length * b
  | [], _ => by simp
  | z :: l, hz => by
    have h1 := hz z (.head _)
    have h2 := flat_le l fun xs hx => hz xs (.tail _ hx)
    rw [List.flatten_cons, List.length_append, List.length_cons, Nat.succ_mul]; omega
theorem told_length_le {o : List Nat} (h : o.length ≤ 64) : (told o).length ≤ 4160 := by
  obtain ⟨h1, h2⟩ := rings_small h
  have h3 : (lotsOf ((rings o).map up)).length ≤ 64 := by
    have := lotsOf_length ((rings o).map up) []
    rw [List.length_map] at this
    unfold lotsOf
    rw [this]; simpa using h1
  have h4 : ∀ xs ∈ lotsOf ((rings o).map up), xs.length ≤ 65 := fun xs hx => by
    rcases mem_lots hx with hx | hx
    · cases hx
    · obtain ⟨r, hr, rfl⟩ := List.mem_map.mp hx
      rw [up_length]; exact h2 r hr
  refine Nat.le_trans (flat_le _ h4) ?_
  exact Nat.mul_le_mul_right 65 h3
theorem key_made {w : World} {n : Nat} {t1 t2 t3 : Tok} : TupKeyObj (mixK w) (keyOf n) { cls := .type "tuple", data := .seq #[.str (Str.ofString "so") t1, .int ((n : Nat) : Int) t2, .str (Str.ofString "many") t3] } :=
  TupKeyObj.made (vs := [.str (Str.ofString "so") t1, .int ((n : Nat) : Int) t2, .str (Str.ofString "many") t3])
    (.cons (by simp [mixK, mixIs, Value.isStrOf]) (.cons (by simp [mixK, mixIs, Value.isInt]) (.cons (by simp [mixK, mixIs, Value.isStrOf]) .nil)))
theorem empty_dict {w : World} {o : Obj} (h : Obj.IsDictOf (PySem.strKind pr w) o []) : ∃ ep, o = dictO #[] ep := by
  obtain ⟨es, ep, hc, hdat, _, hp, _⟩ := h
  have he : es.toList = [] := List.length_eq_zero_iff.mp hp.length
  have : es = #[] := Array.toList_inj.mp he
  subst this
  exact ⟨ep, dictO_of hc hdat⟩
theorem empty_tab {w : World} {news : List (Addr × Obj)} {d : Addr} {ep : Nat} (hS : (d == sysModules) = false) (hm : (d, dictO #[] ep) ∈ news) : IsTab w news (.ref d) [] :=
  ⟨d, #[], ep, [], rfl, hS, hm, ⟨rfl, List.nodup_nil⟩, (fun y hy => by simp at hy), .nil⟩
theorem mem_cell {pre post : List (Addr × Obj)} {c : Addr} {oc oc2 : Obj} {v : Option Value} {p : Addr × Obj} (h : p ∈ pre ++ (c, oc) :: post) (hoc : oc.data = .cell v) (hp : ∀ v, p.2.data ≠ .cell v) : p ∈ pre ++ (c, oc2) :: post := by
  rcases List.mem_append.mp h with h | h
  · exact List.mem_append_left _ h
  · rcases List.mem_cons.mp h with rfl | h
    · exact (hp v hoc).elim
    · exact List.mem_append_right _ (.tail _ h)
theorem IsTab.cell {w : World} {pre post : List (Addr × Obj)} {c : Addr} {oc oc2 : Obj} {v : Option Value} {t : Value} {xs : List (Nat × Nat)} (h : IsTab w (pre ++ (c, oc) :: post) t xs) (hoc : oc.data = .cell v) : IsTab w (pre ++ (c, oc2) :: post) t xs := by
  obtain ⟨d, es, ep, ys, h1, h2, h3, h4, h5, h6⟩ := h
  refine ⟨d, es, ep, ys, h1, h2, mem_cell h3 hoc (fun v e => by cases e), h4, fun y hy => ?_, h6⟩
  obtain ⟨ok, e1, e2⟩ := h5 y hy
  refine ⟨ok, mem_cell e1 hoc (fun v e => ?_), e2⟩
  obtain ⟨_, its, n, hd, _⟩ := e2
  rw [show ok.data = .cell v from e] at hd
  cases hd
theorem IsTab.drop {w : World} {news : List (Addr × Obj)} {I : Addr} {it : Obj} {t : Value} {xs : List (Nat × Nat)} (h : IsTab w ((I, it) :: news) t xs) (hit : it.cls = .type "list_iterator") : IsTab w news t xs := by
  obtain ⟨d, es, ep, ys, h1, h2, h3, h4, h5, h6⟩ := h
  have go : ∀ a o, (a, o) ∈ (I, it) :: news → o.cls ≠ .type "list_iterator" → (a, o) ∈ news := fun a o hm hc => by
    rcases List.mem_cons.mp hm with e | hm
    · injection e with _ e2; exact (hc (e2 ▸ hit)).elim
    · exact hm
  refine ⟨d, es, ep, ys, h1, h2, go _ _ h3 (fun e => by injection e with e; exact absurd e (by decide)), h4, fun y hy => ?_, h6⟩
  obtain ⟨ok, e1, e2⟩ := h5 y hy
  refine ⟨ok, go _ _ e1 (fun e => ?_), e2⟩
  have := e2.1
  rw [e] at this
  injection this with e
  exact absurd e (by decide)
theorem rangeKs_up (n : Nat) : rangeKs 0 n = up (List.range n) := by
  induction n with
  | zero => rfl
  | succ n ih => rw [List.range_succ, up_append, ← ih]; simp [rangeKs, List.range_succ]
theorem ordersN_mem : ∀ (f : Nat) (ns : List Nat) (r : List Nat), r ∈ ordersN f ns → ∀ x ∈ r, x ∈ ns
  | 0, ns, r, h, x, hx => by simp [ordersN] at h; subst h; cases hx
  | f + 1, ns, r, h, x, hx => by
    simp only [ordersN, List.mem_flatten, List.mem_map] at h
    obtain ⟨_, ⟨one, h1, rfl⟩, h⟩ := h
    obtain ⟨q, hq, rfl⟩ := List.mem_map.mp h
    rcases List.mem_cons.mp hx with rfl | hx
    · exact h1
    · exact (List.mem_filter.mp (ordersN_mem f _ q hq x hx)).1
theorem many_is (n : Int) : ∃ k : Nat, 1 ≤ k ∧ k ≤ 4 ∧ 1 + n.fmod 4 = (k : Int) := by
  refine ⟨(1 + n.fmod 4).toNat, ?_, ?_, ?_⟩ <;> rw [Int.fmod_eq_emod_of_nonneg _ (by decide)] <;> omega
end
/-! FDictF -/
section
open Sem (wp)
section
variable {w : World} {A : Around} {E : Value → Shared → Prop} {s : Shared}
theorem list_no_keys : typeLookup (.type "list") "keys" = pure none := am_miss_of_fast (by decide +kernel)
theorem ga_keys {a : Addr} {xs : Array Value} {k : Nat} {Q : Option Value → Shared → Prop} (hx : s.heap.get? a = some (listOf xs k)) (hA : A.handled = none)
    (h : ∀ h' tk, (∀ b o, s.heap.get? b = some o → h'.get? b = some o) → Q none { s with heap := h', toks := tk }) : wpAny (model pr w) A (getAttr? (.ref a) "keys") Q E s := by
  obtain ⟨hp, g, d, tk, os⟩ := s
  have hT : ∀ tk', (⟨hp, g, d, tk', os⟩ : Shared).TypeIs (.ref a) "list" := fun _ => ⟨_, hx, rfl⟩
  have f1 := sub_AttributeError
  have f3 := F.slot_list_getattribute.lookup
  have f4 := F.slot_list_getattribute.bind (.ref a)
  have f5 := am_list_getattr_none
  unfold getAttr? getAttrBy?
  refine wpAny_bind (wpAny_mkText ?_)
  refine wpAny_bind (wpAny_attempt ?_)
  unfold getAttrBy
  repeat (any_goals (first | assumption | exact hT _ | ((with_reducible show wpAny _ _ (call (Value.builtin "list.__getattribute__") _ _) _ _ _); refine call_meets F.slot_list_getattribute (hT _) am_entry_list_getattribute (F.args_list_getattribute_2 _ _) (meets_getattribute_miss_list a xs k #[] "keys" _ list_no_keys (by decide)) ⟨hx, hA, fun h' tk' e hx' => ?_⟩) | wp_step))
  obtain ⟨t', u', he⟩ := hx'.there
  show wpAny _ _ (getattributeRaised _ _ _ _ _ _ _) _ _ _
  unfold getattributeRaised
  repeat (any_goals (first | assumption | wp_step))
  exact h _ _ hx'.keeps

theorem entry_upd : entryFor table "dict.update.loop" = some Builtin.«dict.update.loop» := entryFor_of_tree (by kernel_rfl)
theorem plain_upd : plainId "dict.update.loop" = true := by decide +kernel
theorem ints_items {w : World} : ∀ {vs : List Value} {ks : List Int}, IntsAre vs ks → ItemsAre (intKind pr w) ks vs
  | _, _, .nil => .nil
  | _, _, .cons n t h => .cons (by simp [intKind, Value.isInt]) (ints_items h)
theorem pairItems_tuple {p : Addr} {vs : List Value} {Q : List Value → Shared → Prop} (hp : s.heap.get? p = some (tupO vs)) (h : Q vs s) : wpAny (model pr w) A (Builtin.Dict.pairItems (.ref p)) Q E s := by
  unfold Builtin.Dict.pairItems
  refine wpAny_bind (wpAny_typeOf (T := "tuple") ⟨_, hp, rfl⟩ ?_)
  rw [if_pos (by decide)]
  refine wpAny_bind (wpAny_seqItems hp rfl (wpAny_pure ?_))
  simpa using h

theorem _root_.Foata.PairsAre.at {news : List (Addr × Obj)} {us : List Value} {kss : List (List Int)} (h : PairsAre news us kss) : ∀ {i : Nat} {v : Value}, us[i]? = some v → ∃ p T vs t ks, v = .ref p ∧ (p, tupO [.ref T, .int 1 t]) ∈ news ∧ (T, tupO vs) ∈ news ∧ IntsAre vs ks ∧ kss[i]? = some ks := by
  induction h with
  | nil => intro i v hv; simp at hv
  | cons h1 h2 h3 _ ih =>
    intro i v hv
    cases i with
    | zero => simp only [List.getElem?_cons_zero, Option.some.injEq] at hv; subst hv; exact ⟨_, _, _, _, _, rfl, h1, h2, h3, rfl⟩
    | succ i => exact ih (by simpa using hv)
theorem upd_loop {h₀ : Heap} {L : Addr} {m : Str → Option Value} {news : List (Addr × Obj)} {I d l : Addr} {us : List Value} {nl : Nat} {kss : List (List Int)} {R : Result → Shared → Prop} (s₀ : Shared) (hh : A.handled = none) (hu : A.units + 2 < cLine)
    (hl : (l, listOf us.toArray nl) ∈ news) (hp : PairsAre news us kss) (hnd : kss.Nodup) (hlen : us.length ≤ 4000) (hId : I ≠ d) (hIn : ∀ p ∈ news, p.1 ≠ I) (hdn : ∀ p ∈ news, p.1 ≠ d) (hIL : L ≠ I) (h0I : h₀.get? I = none)
    (hR : ∀ h' tk' es ep, Fr h₀ L h' m → News h₀ L h' ((d, dictO es ep) :: news) → es.size = kss.length → R (.ok (.ret .none)) { s₀ with heap := h', toks := tk' }) (k : Nat) :
    ∀ (i : Nat) (h : Heap) (tk : Nat) (it : Obj) (es : Array DictEntry) (ep : Nat) (ys : List (List Int × Addr × Value)), us.length - i = k → i ≤ us.length → Fr h₀ L h m → News h₀ L h ((I, it) :: (d, dictO es ep) :: news) → h.IsListIter I l i →
      EntriesAre (intKind pr w) es ys → Keyed (intKind pr w) news ys → ys.map (·.1) = kss.take i →
      codeAny (model pr w) A (.builtin "dict.update.loop" ⟨[.ref d, .ref I, rawInt i, .none], []⟩) R { s₀ with heap := h, toks := tk } := by
  induction k with
  | zero =>
    intro i h tk it es ep ys hk hi F N hit he hkd hky
    refine codeAny_builtin entry_upd ?_
    rw [Around.under_plainId plain_upd _]
    unfold Builtin.«dict.update.loop»
    show wpAny _ _ (pyNext (.ref I) >>= _) _ _ _
    have hll : l ≠ I := hIn (l, listOf us.toArray nl) hl
    have W := Walks.list (prog := pr) (w := w) (A := A.in1) hh I l hll us.toArray
    have hie : i = us.toArray.size := by rw [List.size_toArray]; omega
    subst hie
    refine wpAny_bind (W.done _ _ _ ⟨hit, News.isList N (.tail _ (.tail _ hl))⟩ fun h' tk' hk' => ?_)
    have keep : ∀ b o, b ≠ I → h.get? b = some o → h'.get? b = some o := fun b o hb e => hk' b o (by simpa using hb) e
    have F' : Fr h₀ L h' m := ⟨F.ns.at' fun o e => keep _ o hIL e, fun b o e => keep b o (by rintro rfl; rw [h0I] at e; cases e) (F.keep b o e), F.above⟩
    have N' : News h₀ L h' ((d, dictO es ep) :: news) := fun p hp => by
      refine ⟨keep _ _ ?_ (N p (.tail _ hp)).1, (N p (.tail _ hp)).2⟩
      rcases List.mem_cons.mp hp with rfl | hp
      · exact hId.symm
      · exact hIn p hp
    show wpAny _ _ (Builtin.Dict.addKeywords d [] >>= _) _ _ _
    refine wpAny_bind (wpAny_pure (wpAny_pure (hR h' tk' es ep F' N' ?_)))
    have := congrArg List.length hky
    rw [List.length_map, List.length_take] at this
    rw [he.size, this, ← hp.length]; simp
  | succ k ih =>
    intro i h tk it es ep ys hk hi F N hit he hkd hky
    refine codeAny_builtin entry_upd ?_
    rw [Around.under_plainId plain_upd _]
    unfold Builtin.«dict.update.loop»
    show wpAny _ _ (pyNext (.ref I) >>= _) _ _ _
    have hll : l ≠ I := hIn (l, listOf us.toArray nl) hl
    have W := Walks.list (prog := pr) (w := w) (A := A.in1) hh I l hll us.toArray
    refine wpAny_bind (W.item i _ _ _ (by rw [List.size_toArray]; omega) ⟨hit, News.isList N (.tail _ (.tail _ hl))⟩ fun v h' tk' hP hst hk' => ?_)
    have keep : ∀ b o, b ≠ I → h.get? b = some o → h'.get? b = some o := fun b o hb e => hk' b o (by simpa using hb) e
    have F' : Fr h₀ L h' m := ⟨F.ns.at' fun o e => keep _ o hIL e, fun b o e => keep b o (by rintro rfl; rw [h0I] at e; cases e) (F.keep b o e), F.above⟩
    have N' : News h₀ L h' ((d, dictO es ep) :: news) := fun p hp => by
      refine ⟨keep _ _ ?_ (N p (.tail _ hp)).1, (N p (.tail _ hp)).2⟩
      rcases List.mem_cons.mp hp with rfl | hp
      · exact hId.symm
      · exact hIn p hp
    obtain ⟨p, T, vs, t, ks, rfl, hpm, hTm, hiv, hks⟩ := hp.at (i := i) (v := v) (by simpa using hP)
    have hTk : TupKeyObj (intKind pr w) ks (tupO vs) := TupKeyObj.made (ints_items hiv)
    have hil : i < kss.length := by rw [← hp.length]; omega
    have hksi : kss[i] = ks := by rw [List.getElem?_eq_getElem hil] at hks; exact Option.some.inj hks
    have hnot : ks ∉ ys.map (·.1) := by
      rw [hky]
      intro hm
      obtain ⟨j, hj⟩ := List.mem_iff_getElem?.mp hm
      have hji : j < i := by
        have := (List.getElem?_eq_some_iff.mp hj).1
        rw [List.length_take] at this; omega
      rw [List.getElem?_take_of_lt hji] at hj
      have := (List.getElem?_inj (by omega) hnd).mp (hj.trans hks.symm)
      omega
    have hnew : PySem.atKey ys ks = none := atKey_none_of_get fun j q hj => hnot (List.mem_map.mpr ⟨(ks, q), List.mem_of_getElem? hj, rfl⟩)
    have hyl : ys.length ≤ 4000 := by
      have := congrArg List.length hky
      rw [List.length_map, List.length_take] at this; omega
    show wpAny _ _ (holding [.ref p] _ >>= _) _ _ _
    refine wpAny_bind (wpAny_holding (wpAny_bind (wpAny_tryCatch (pairItems_tuple (N' _ (.tail _ hpm)).1 ?_))))
    refine wpAny_holding ?_
    have hm := dictOfH (knd := intKind pr w) N' (.head _) he (hkd.mono fun q hq => .tail _ hq)
    have z := N' (d, dictO es ep) (.head _)
    refine wpAny_dictSet_heap (knd := tupleKind (intKind pr w)) (k := ks) (xs := ys) (hsz := by rw [sizeLine_eq]; omega) (tupleKind_room_in1 (by omega)) (hTk.key (N' _ (.tail _ hTm)).1) hm fun h2 hm2 hs2 => ?_
    obtain ⟨o2, es2, ep2, ho2, hc2, hd2, he2, _, hn2⟩ := hm2
    obtain rfl := dictO_of hc2 hd2
    rw [storedH_new hnew] at he2 hn2
    refine wpAny_pure ⟨plainId_quiet plain_upd _, ?_⟩
    obtain ⟨⟨oi, hoi, hoi2⟩, _⟩ := hst
    have hoI2 : h2.get? I = some oi := (hs2.2 I hId).trans hoi
    have e1 : rawInt ((i : Int) + 1) = rawInt ((i + 1 : Nat) : Int) := by congr 1
    rw [e1]
    refine ih (i + 1) h2 _ oi es2 ep2 (ys ++ [(ks, T, .int 1 t)]) (by omega) (by omega) (F'.change hs2 z.2.1 z.2.2) ?_ ⟨oi, hoI2, hoi2⟩ ⟨he2, hn2⟩ ?_ ?_
    · intro q hq
      rcases List.mem_cons.mp hq with rfl | hq
      · exact ⟨hoI2, Ne.symm hIL, h0I⟩
      rcases List.mem_cons.mp hq with rfl | hq
      · exact ⟨ho2, z.2⟩
      · have zq := N' q (.tail _ hq)
        exact ⟨(hs2.2 q.1 (hdn q hq)).trans zq.1, zq.2⟩
    · intro y hy
      rcases List.mem_append.mp hy with hy | hy
      · exact hkd y hy
      · rw [List.mem_singleton.mp hy]; exact ⟨_, hTm, hTk⟩
    · rw [List.map_append, hky, List.take_add_one, hks]; rfl
theorem dict_pairs {h₀ : Heap} {L : Addr} {m : Str → Option Value} {news : List (Addr × Obj)} {l : Addr} {us : List Value} {nl : Nat} {kss : List (List Int)} {Q : Value → Shared → Prop} (Fr₀ : Fr h₀ L s.heap m) (N : News h₀ L s.heap news)
    (hl : (l, listOf us.toArray nl) ∈ news) (hp : PairsAre news us kss) (hnd : kss.Nodup) (hlen : us.length ≤ 4000) (hh : A.handled = none) (hu : A.units + 6 < cLine)
    (h : ∀ d h' tk' es ep, (∀ p ∈ news, p.1 < d) → Fr h₀ L h' m → News h₀ L h' ((d, dictO es ep) :: news) → es.size = kss.length → Q (.ref d) { s with heap := h', toks := tk' }) :
    wpAny (model pr w) A (call (.type "dict") [.ref l]) Q E s := by
  refine callType_codes (Q₁ := fun obj s₁ => obj = .ref s.heap.objs.size ∧ s₁ = { s with heap := s.heap.push (dictO #[] 0) }) F.kt_called_dict (F.kt_typeCall_dict_1 _) F.entry_dict_init (kt_code_dict_new _ ⟨rfl, rfl⟩) ?_
  rintro obj s₁ ⟨rfl, rfl⟩
  have hd0 : (s.heap.push (dictO #[] 0)).get? s.heap.objs.size = some (dictO #[] 0) := Heap.get?_push_size _ rfl
  have F1 := Fr₀.push (dictO #[] 0)
  have N1 := News.push Fr₀ N (dictO #[] 0)
  have hTd : Shared.TypeIs { s with heap := s.heap.push (dictO #[] 0) } (.ref s.heap.objs.size) "dict" := ⟨_, hd0, rfl⟩
  have ltd : ∀ p ∈ news, p.1 < s.heap.objs.size := fun p hp => Heap.lt_size (N p hp).1
  refine ⟨hTd, F.args_dict_init_2 _ _, ?_⟩
  unfold Builtin.«dict.__init__»
  refine wpAny_bind ?_
  unfold Builtin.Dict.selfAndRest
  refine wpAny_bind (wpAny_notOrdered_dict hTd ?_)
  show wpAny _ _ (pure (s.heap.objs.size, [Value.ref l])) _ _ _
  refine wpAny_pure ?_
  show wpAny _ _ (Builtin.Dict.updateFrom "dict.__init__" s.heap.objs.size (.ref l) [] .none) _ _ _
  generalize hHd : s.heap.objs.size = d at *
  generalize hH1 : s.heap.push (dictO #[] 0) = H1 at *
  have hl1 := (N1 (l, listOf us.toArray nl) (.tail _ hl)).1
  unfold Builtin.Dict.updateFrom
  refine wpAny_bind (wpAny_typeOf (T := "list") ⟨_, hl1, rfl⟩ ?_)
  rw [if_pos (by decide)]
  refine wpAny_bind (ga_keys (A := A.in1.in1) hl1 hh fun h2 tk2 hk2 => ?_)
  rw [if_pos (by rfl)]
  refine wpAny_bind (wpAny_rule ?_)
  have F2 : Fr h₀ L h2 m := F1.keeps hk2
  have N2 : News h₀ L h2 ((d, dictO #[] 0) :: news) := fun p hp => ⟨hk2 _ _ (N1 p hp).1, (N1 p hp).2⟩
  have hls2 : h2.IsList l us.toArray := News.isList N2 (.tail _ hl)
  refine wpAny_bind (wpAny_pyIter_list hls2 ?_)
  have ltI : ∀ p ∈ (d, dictO #[] 0) :: news, p.1 < h2.objs.size := fun p hp => Heap.lt_size (N2 p hp).1
  have h0I := next_is_new F2
  have hIL : L ≠ h2.objs.size := Nat.ne_of_lt F2.ns.lt
  have F3 := F2.push { cls := .type "list_iterator", data := .fields #[.ref l, .int 0 0] }
  have N3 := News.push F2 N2 { cls := .type "list_iterator", data := .fields #[.ref l, .int 0 0] }
  have hit3 : (h2.push { cls := .type "list_iterator", data := .fields #[.ref l, .int 0 0] }).IsListIter h2.objs.size l 0 := ⟨_, Heap.get?_push_size _ rfl, rfl, rfl⟩
  dsimp only
  generalize h2.objs.size = I at *
  generalize h2.push { cls := .type "list_iterator", data := .fields #[.ref l, .int 0 0] } = h3 at *
  refine wpAny_pure ⟨plainId_quiet plain_upd _, ?_⟩
  refine upd_loop (A := A.in1) s hh (by show A.units + 1 + 2 < cLine; omega) hl hp hnd hlen (Nat.ne_of_gt (ltI (d, dictO #[] 0) (.head _))) (fun p hp => Nat.ne_of_lt (ltI p (.tail _ hp))) (fun p hp => Nat.ne_of_lt (ltd p hp)) hIL h0I ?_ us.length 0 h3 _ _ #[] 0 [] rfl (Nat.zero_le _) F3 N3 hit3 ⟨rfl, List.nodup_nil⟩ (fun y hy => by simp at hy) rfl
  intro h4 tk4 es4 ep4 F4 N4 hsz4
  exact ⟨rfl, h d h4 tk4 es4 ep4 ltd F4 N4 hsz4⟩
theorem raw_len {d : Addr} {es : Array DictEntry} {ep : Nat} {Q : Value → Shared → Prop} (hd : (d == sysModules) = false) (ho : s.heap.get? d = some (dictO es ep)) (hfit : es.size ≤ 16777216)
    (h : Q (.int ((es.size : Nat) : Int) (s.toks + 1)) { s with toks := s.toks + 1 + 1 }) : wpAny (model pr w) A (call (.builtin "len") [.ref d]) Q E s := by
  refine Calls.call_function_entry kind_len plain_len entry_len (args_len1 _) ?_
  have hT : s.TypeIs (.ref d) "dict" := ⟨_, ho, rfl⟩
  unfold Builtin.«len»
  refine wpAny_bind (m := oneArg "len" _) (wpAny_pure ?_)
  refine wpAny_bind (m := callSpecial? (.ref d) (Str.ofString "__len__")) (wpAny_callSpecial?_slot (name := Str.ofString "__len__") hT F.slot_dict_len
    (wpAny_call_entry F.slot_dict_len hT F.entry_dict_len ?_ (F.args_dict_len_1 _)))
  show wpAny _ _ (dictSize d >>= _) _ _ s
  unfold dictSize
  refine wpAny_bind (wpAny_bind (wpAny_dictEntries ho rfl (wpAny_pure ?_)))
  show wpAny _ _ (Builtin.Dict.pendingCount d >>= _) _ _ s
  refine wpAny_bind (wpAny_pendingCount_other hd ?_)
  refine wpAny_ret_mkInt ?_
  have e0 : ((es.size : Nat) : Int) + ((0 : Nat) : Int) = ((es.size : Nat) : Int) := by omega
  rw [e0]
  show wpAny _ _ _ _ _ { s with toks := s.toks + 1 }
  refine wpAny_bind (wpAny_holding (wpAny_pure ?_))
  refine wpAny_bind (wpAny_letGo ?_)
  show wpAny _ _ (if ((es.size : Nat) : Int) < 0 then _ else _) _ _ _
  rw [if_neg (by omega)]
  show wpAny _ _ (if ((es.size : Nat) : Int) ≥ 2 ^ 63 then _ else _) _ _ _
  rw [if_neg (by omega)]
  exact wpAny_bind (wpAny_mkInt (wpAny_pure ⟨_, rfl, h⟩))
end
end
/-! FFacts -/
section
def ringTab (os : List (List Nat)) : List (Nat × Nat) := (os.map fun o => (rings o).length).foldl addN []
def greatTab (os : List (List Nat)) : List (Nat × Nat) := (os.map fun o => (greatest o).length).foldl addN []
theorem addN_fold_length : ∀ (ks : List Nat) (a : List (Nat × Nat)), (ks.foldl addN a).length ≤ a.length + ks.length
  | [], a => by simp
  | k :: ks, a => by
    have h1 := addN_fold_length ks (addN a k)
    have h2 := addN_length a k
    rw [List.foldl_cons, List.length_cons]; omega
theorem ringTab_length (os : List (List Nat)) : (ringTab os).length ≤ os.length := by
  have := addN_fold_length (os.map fun o => (rings o).length) []
  simpa [ringTab] using this
theorem greatTab_length (os : List (List Nat)) : (greatTab os).length ≤ os.length := by
  have := addN_fold_length (os.map fun o => (greatest o).length) []
  simpa [greatTab] using this
/-- what a table says of k -/
def saysOf (xs : List (Nat × Nat)) (k : Nat) : Nat := ((xs.find? fun x => decide (x.1 = k)).map (·.2)).getD 0
def sameTabB (xs us : List (Nat × Nat)) : Bool := (xs.length == us.length) && xs.all fun x => (us.find? fun u => decide (u.1 = x.1)) == some x
theorem sameTab_of {xs us : List (Nat × Nat)} (h : sameTabB xs us = true) : SameTab xs us := by
  simp only [sameTabB, Bool.and_eq_true, beq_iff_eq, List.all_eq_true] at h
  exact h
def nodupB : List (List Int) → Bool
  | [] => true
  | x :: xs => !(xs.contains x) && nodupB xs
theorem nodup_of : ∀ {xs : List (List Int)}, nodupB xs = true → xs.Nodup
  | [], _ => List.nodup_nil
  | x :: xs, h => by
    simp only [nodupB, Bool.and_eq_true, Bool.not_eq_true', List.contains_eq_mem, decide_eq_false_iff_not] at h
    exact List.nodup_cons.mpr ⟨h.1, nodup_of h.2⟩
def factsB (mn : Nat) : Bool :=
  let os := ordersN mn (List.range mn)
  sameTabB (ringTab os) (greatTab os) && (total (ringTab os) == os.length) && ((List.range mn).all fun k => saysOf (ringTab os) (k + 1) == ways mn (k + 1)) && nodupB (os.map told)
theorem facts1 : factsB 1 = true := by decide +kernel
theorem facts2 : factsB 2 = true := by decide +kernel
theorem facts3 : factsB 3 = true := by decide +kernel
theorem facts4 : factsB 4 = true := by decide +kernel
theorem facts {mn : Nat} (h1 : 1 ≤ mn) (h4 : mn ≤ 4) : SameTab (ringTab (ordersN mn (List.range mn))) (greatTab (ordersN mn (List.range mn))) ∧ total (ringTab (ordersN mn (List.range mn))) = (ordersN mn (List.range mn)).length ∧
    (∀ k, k < mn → saysOf (ringTab (ordersN mn (List.range mn))) (k + 1) = ways mn (k + 1)) ∧ ((ordersN mn (List.range mn)).map told).Nodup := by
  have h : factsB mn = true := by
    have : mn = 1 ∨ mn = 2 ∨ mn = 3 ∨ mn = 4 := by omega
    rcases this with rfl | rfl | rfl | rfl
    · exact facts1
    · exact facts2
    · exact facts3
    · exact facts4
  simp only [factsB, Bool.and_eq_true, beq_iff_eq, List.all_eq_true, List.mem_range] at h
  exact ⟨sameTab_of h.1.1.1, h.1.1.2, h.1.2, nodup_of h.2⟩
theorem says_get {ys : List (List (Int ⊕ Str) × Addr × Value)} {xs : List (Nat × Nat)} (h : KV ys xs) (k : Nat) (t0 : Tok) : ∃ t, (((PySem.atKey ys (keyOf k)).map (·.2)).getD (.int 0 t0)) = .int ((saysOf xs k : Nat) : Int) t := by
  have := h.atKey k
  unfold saysOf
  cases hf : xs.find? fun x => decide (x.1 = k) with
  | none => rw [hf] at this; rw [this]; exact ⟨t0, rfl⟩
  | some x => rw [hf] at this; obtain ⟨a, t, e⟩ := this; rw [e]; exact ⟨t, rfl⟩
end
/-! FDraw -/
section
section
variable {w : World} {A : Around} {E : Value → Shared → Prop} {s : Shared} {h₀ : Heap} {L : Addr} {m : Str → Option Value} {news : List (Addr × Obj)}
theorem f_pop {D : Addr} {vs : List Value} {n k : Nat} {u : Tok} {y : Value} {pre post : List (Addr × Obj)} {Q : Value → Shared → Prop} (Fm : Fr h₀ L s.heap m) (N : News h₀ L s.heap (pre ++ (D, listOf vs.toArray n) :: post))
    (h1 : ∀ p ∈ pre, p.1 ≠ D) (h2 : ∀ p ∈ post, p.1 ≠ D) (hk : vs[k]? = some y) (hsz : vs.length ≤ 16777216)
    (h : ∀ h', Fr h₀ L h' m → News h₀ L h' (pre ++ (D, listOf (vs.eraseIdx k).toArray (n + 1)) :: post) → Q y { s with heap := h' }) :
    wpAny (model pr w) A (call (.builtin "list.pop") [.ref D, .int ((k : Nat) : Int) u]) Q E s := by
  have z := N (D, listOf vs.toArray n) (List.mem_append.mpr (.inr (.head _)))
  have hlt : k < vs.length := by
    rcases Nat.lt_or_ge k vs.length with h | h
    · exact h
    · rw [List.getElem?_eq_none h] at hk; cases hk
  have hc : Builtin.List.listFitsIndex ((k : Nat) : Int) = true := by
    simp only [Builtin.List.listFitsIndex, Bool.and_eq_true, decide_eq_true_eq]
    omega
  have hsi : seqIndex? ((k : Nat) : Int) vs.toArray.size = some k := by
    rw [List.size_toArray]
    unfold seqIndex?
    simp
    omega
  have hz : vs.toArray.size ≤ sizeLine := by rw [sizeLine_eq, List.size_toArray]; exact hsz
  have hy : vs.toArray[k]? = some y := by simpa using hk
  generalize ((k : Nat) : Int) = i at hc hsi ⊢
  have hM := PySem.MeetsSeq.list_pop_at D vs.toArray n i u k y hc hsi hy hz
  refine call_meets PySem.F.slot_list_pop (T := "list") ⟨_, z.1, rfl⟩ PySem.F.entry_list_pop (PySem.F.args_list_pop_2 _ _) hM ⟨z.1, h _ (Fm.change (Heap.SameBut.update ..) z.2.1 z.2.2) (kl_turn _ N h1 h2 ?_ ?_)⟩
  · apply Array.toList_inj.mp
    simp [Array.eraseIdxIfInBounds, hlt]
  · simp [List.length_eraseIdx, hlt]
    omega
end

/-- the draw: what is left, what is drawn -/
def drawStep (st : List Nat × List Nat) (x : Int) : List Nat × List Nat :=
  (st.1.eraseIdx (Int.fmod x st.1.length).toNat, st.2 ++ [st.1.getD (Int.fmod x st.1.length).toNat 0])
def draw (xs : List Int) (st : List Nat × List Nat) : List Nat × List Nat := xs.foldl drawStep st
theorem draw_succ {xs : List Int} {st : List Nat × List Nat} {i : Nat} (h : i < xs.length) : draw (xs.take (i + 1)) st = drawStep (draw (xs.take i) st) xs[i] := by
  rw [draw, draw, List.take_add_one, List.getElem?_eq_getElem h, List.foldl_append]
  rfl
theorem fmod_lt (x : Int) {n : Nat} (h : 0 < n) : ∃ k : Nat, Int.fmod x n = k ∧ k < n := by
  have h1 : 0 ≤ Int.fmod x n := Int.fmod_nonneg_of_pos x (by omega)
  have h2 : Int.fmod x n < n := Int.fmod_lt_of_pos x (by omega)
  exact ⟨(Int.fmod x n).toNat, by omega, by omega⟩
theorem erase_get_perm {xs : List Nat} {k : Nat} (h : k < xs.length) : (xs.getD k 0 :: xs.eraseIdx k).Perm xs := by
  induction xs generalizing k with
  | nil => simp at h
  | cons x xs ih =>
    cases k with
    | zero => simp
    | succ k =>
      have := ih (k := k) (by simpa using h)
      simp only [List.getD_cons_succ, List.eraseIdx_cons_succ]
      exact (List.Perm.swap _ _ _).trans (this.cons x)
theorem drawStep_perm {st : List Nat × List Nat} {x : Int} (h : 0 < st.1.length) : ((drawStep st x).2 ++ (drawStep st x).1).Perm (st.2 ++ st.1) ∧ (drawStep st x).1.length + 1 = st.1.length ∧ (drawStep st x).2.length = st.2.length + 1 := by
  obtain ⟨k, e, hk⟩ := fmod_lt x h
  unfold drawStep
  rw [e, Int.toNat_natCast]
  refine ⟨?_, ?_, by simp⟩
  · rw [List.append_assoc]
    exact List.Perm.append_left _ (by simpa using erase_get_perm hk)
  · rw [List.length_eraseIdx, if_pos hk]; omega
theorem draw_inv {n : Nat} {xs : List Int} (hx : xs.length ≤ n) : ∀ i, i ≤ xs.length → ((draw (xs.take i) (List.range n, [])).2 ++ (draw (xs.take i) (List.range n, [])).1).Perm (List.range n) ∧ (draw (xs.take i) (List.range n, [])).1.length + i = n ∧ (draw (xs.take i) (List.range n, [])).2.length = i
  | 0, _ => by simp [draw]
  | i + 1, h => by
    have hi : i < xs.length := h
    obtain ⟨h1, h2, h3⟩ := draw_inv hx i (Nat.le_of_lt hi)
    rw [draw_succ hi]
    generalize draw (xs.take i) (List.range n, []) = st at *
    obtain ⟨g1, g2, g3⟩ := drawStep_perm (st := st) (x := xs[i]) (by omega)
    exact ⟨g1.trans h1, by omega, by omega⟩
end
/-! FPlain -/
section
/-! the plain law: an order (a permutation of range n), told and told back -/
/-- from a through l, by f, to b -/
def Path (f : Nat → Nat) : Nat → List Nat → Nat → Prop
  | a, [], b => f a = b
  | a, x :: l, b => f a = x ∧ Path f x l b
theorem Path.snoc {f : Nat → Nat} : ∀ {a : Nat} {l : List Nat} {b : Nat}, Path f a l b → Path f a (l ++ [b]) (f b)
  | _, [], _, h => ⟨h, rfl⟩
  | _, _ :: _, _, h => ⟨h.1, Path.snoc h.2⟩
theorem Path.last {f : Nat → Nat} : ∀ {a : Nat} {l : List Nat} {b : Nat}, Path f a l b → ∃ z ∈ a :: l, f z = b
  | a, [], _, h => ⟨a, .head _, h⟩
  | _, _ :: _, _, h => by
    obtain ⟨z, hz, e⟩ := Path.last h.2
    exact ⟨z, .tail _ hz, e⟩
theorem Path.next {f : Nat → Nat} : ∀ {a : Nat} {l : List Nat} {b x : Nat}, Path f a l b → x ∈ a :: l → f x ∈ l ++ [b]
  | a, [], b, x, h, hx => by
    rw [List.mem_singleton.mp hx]; simp only [List.nil_append, List.mem_singleton]; exact h
  | a, y :: l, b, x, h, hx => by
    rcases List.mem_cons.mp hx with rfl | hx
    · rw [h.1]; exact .head _
    · exact .tail _ (Path.next h.2 hx)
theorem Path.closed {f : Nat → Nat} {S : Nat → Prop} (hS : ∀ y, S y → S (f y)) : ∀ {a : Nat} {l : List Nat} {b x : Nat}, Path f a l b → x ∈ a :: l → S x → S b
  | a, [], b, x, h, hx, hs => by
    rw [List.mem_singleton.mp hx] at hs
    exact h ▸ hS _ hs
  | a, y :: l, b, x, h, hx, hs => by
    rcases List.mem_cons.mp hx with rfl | hx
    · exact Path.closed hS h.2 (.head _) (h.1 ▸ hS _ hs)
    · exact Path.closed hS h.2 hx hs
theorem Path.fresh {f : Nat → Nat} {P : Nat → Prop} (hf : ∀ x y, P x → P y → f x = f y → x = y) : ∀ {a : Nat} {l : List Nat} {b : Nat}, Path f a l b → (∀ x ∈ a :: l, P x) → (a :: l).Nodup → b ∉ l
  | _, [], _, _, _, _ => fun h => nomatch h
  | a, x :: l, b, h, hP, hn => by
    intro hb
    obtain ⟨hn1, hn2⟩ := List.nodup_cons.mp hn
    rcases List.mem_cons.mp hb with rfl | hb
    · obtain ⟨z, hz, e⟩ := Path.last h.2
      have : z = a := hf z a (hP z (.tail _ hz)) (hP a (.head _)) (e.trans h.1.symm)
      exact hn1 (this ▸ hz)
    · exact Path.fresh hf h.2 (fun x hx => hP x (.tail _ hx)) hn2 hb
theorem Path.get {f : Nat → Nat} : ∀ {a : Nat} {l : List Nat} {b : Nat} {j : Nat}, Path f a l b → j < (a :: l).length → f ((a :: l).getD j 0) = (l ++ [b]).getD j 0
  | a, [], b, j, h, hj => by
    have : j = 0 := by simp at hj; exact hj
    subst this; exact h
  | a, x :: l, b, 0, h, hj => h.1
  | a, x :: l, b, j + 1, h, hj => by
    have := Path.get (j := j) h.2 (by simpa using hj)
    simpa using this
theorem nodup_len {l : List Nat} {n : Nat} (hn : l.Nodup) (h : ∀ x ∈ l, x < n) : l.length ≤ n := by
  have := hn.length_le_of_subset (l₂ := List.range n) fun x hx => List.mem_range.mpr (h x hx)
  simpa using this

section
variable {o : List Nat}
/-- o is an order of nought to length - 1 -/
def Order (o : List Nat) : Prop := o.Perm (List.range o.length)
theorem Order.lt (h : Order o) : ∀ x ∈ o, x < o.length := fun x hx => List.mem_range.mp (h.mem_iff.mp hx)
theorem Order.nodup (h : Order o) : o.Nodup := h.nodup_iff.mpr List.nodup_range
theorem Order.inj (h : Order o) : ∀ x y, x < o.length → y < o.length → o.getD x 0 = o.getD y 0 → x = y := by
  intro x y hx hy e
  simp only [List.getD_eq_getElem?_getD, List.getElem?_eq_getElem hx, List.getElem?_eq_getElem hy, Option.getD_some] at e
  exact (List.getElem_inj h.nodup).mp e
/-- a ring: goes round, its first is its greatest -/
def Ring (o : List Nat) (r : List Nat) : Prop := ∃ a l, r = a :: l ∧ Path (fun x => o.getD x 0) a l a ∧ ∀ x ∈ l, x < a
theorem chase_is (h : Order o) {p : Nat} : ∀ (f : Nat) (l : List Nat) (here : Nat), Path (fun x => o.getD x 0) p l here → (p :: l).Nodup → (∀ x ∈ p :: l, x < o.length) → here < o.length → o.length + 1 ≤ f + l.length →
    ∃ l', chase o p f (p :: l) here = p :: l' ∧ Path (fun x => o.getD x 0) p l' p ∧ (p :: l').Nodup ∧ ∀ x ∈ p :: l', x < o.length
  | 0, l, here, hp, hn, hl, hh, hf => by
    have := nodup_len hn hl
    rw [List.length_cons] at this; omega
  | f + 1, l, here, hp, hn, hl, hh, hf => by
    by_cases he : here = p
    · subst he
      exact ⟨l, chase_stop (.inl rfl), hp, hn, hl⟩
    · have h1 := nodup_len hn hl
      rw [chase_step he h1]
      have hnl : here ∉ l := Path.fresh (P := fun x => x < o.length) h.inj hp hl hn
      have h2 := chase_is h (p := p) f (l ++ [here]) (o.getD here 0) hp.snoc ?_ ?_ (getD_lt h.lt hh) (by simp; omega)
      · exact h2
      · rw [← List.cons_append]
        refine List.nodup_append.mpr ⟨hn, List.nodup_cons.mpr ⟨(fun h => nomatch h), List.nodup_nil⟩, ?_⟩
        intro x hx y hy e
        rw [List.mem_singleton] at hy
        subst hy e
        rcases List.mem_cons.mp hx with rfl | hx
        · exact he rfl
        · exact hnl hx
      · intro x hx
        rw [← List.cons_append] at hx
        rcases List.mem_append.mp hx with hx | hx
        · exact hl x hx
        · rw [List.mem_singleton.mp hx]; exact hh
theorem ringAt_is (h : Order o) {p : Nat} (hp : p < o.length) : ∃ l, ringAt o p = p :: l ∧ Path (fun x => o.getD x 0) p l p ∧ (p :: l).Nodup ∧ ∀ x ∈ p :: l, x < o.length :=
  chase_is h _ [] _ rfl (List.nodup_cons.mpr ⟨(fun h => nomatch h), List.nodup_nil⟩) (fun x hx => by rw [List.mem_singleton.mp hx]; exact hp) (getD_lt h.lt hp) (by simp)
theorem Ring.closed {r : List Nat} (h : Ring o r) : ∀ x ∈ r, o.getD x 0 ∈ r := by
  obtain ⟨a, l, rfl, hp, _⟩ := h
  intro x hx
  rcases List.mem_append.mp (Path.next hp hx) with h | h
  · exact .tail _ h
  · rw [List.mem_singleton.mp h]; exact .head _
structure Found (o : List Nat) (i : Nat) (st : List Nat × List (List Nat)) : Prop where
  seen : st.1 = st.2.flatten
  nodup : st.1.Nodup
  lt : ∀ x ∈ st.1, x < o.length
  all : ∀ x, o.length - i ≤ x → x < o.length → x ∈ st.1
  ring : ∀ r ∈ st.2, Ring o r
  head : ∀ r ∈ st.2, o.length - i ≤ r.headD 0
  down : st.2.Pairwise fun r r' => r'.headD 0 < r.headD 0
theorem rings_found (h : Order o) : ∀ i, i ≤ o.length → Found o i (ringsN o i)
  | 0, _ => ⟨rfl, List.nodup_nil, (fun _ hx => nomatch hx), (fun x h1 h2 => by omega), (fun _ hr => nomatch hr), (fun _ hr => nomatch hr), List.Pairwise.nil⟩
  | i + 1, hi => by
    have ih := rings_found h i (Nat.le_of_succ_le hi)
    rw [ringsN]
    generalize ringsN o i = st at ih ⊢
    obtain ⟨S, R⟩ := st
    obtain ⟨hs, hn, hl, ha, hr, hh, hd⟩ := ih
    simp only at hs hn hl ha hr hh hd ⊢
    have hpl : o.length - 1 - i < o.length := by omega
    have hpi : o.length - (i + 1) = o.length - 1 - i := by omega
    have hpi2 : o.length - i = o.length - 1 - i + 1 := by omega
    rw [hpi2] at ha hh
    generalize hp : o.length - 1 - i = p at *
    split
    · rename_i hin
      refine ⟨hs, hn, hl, fun x h1 h2 => ?_, hr, fun r hr' => ?_, hd⟩
      · by_cases e : x = p
        · rw [e]; exact hin
        · exact ha x (by omega) h2
      · have := hh r hr'; omega
    · rename_i hnin
      obtain ⟨l, e, hP, hnd, hlt⟩ := ringAt_is h hpl
      rw [e]
      have hdis : ∀ x ∈ p :: l, x ∉ S := by
        intro x hx hxS
        refine hnin (Path.closed (S := fun y => y ∈ S) (fun y hy => ?_) hP hx hxS)
        show o.getD y 0 ∈ S
        simp only [hs, List.mem_flatten] at hy ⊢
        obtain ⟨r, hr1, hr2⟩ := hy
        exact ⟨r, hr1, (hr r hr1).closed y hr2⟩
      have hlp : ∀ x ∈ l, x < p := by
        intro x hx
        have h1 : x ≠ p := fun e => (List.nodup_cons.mp hnd).1 (e ▸ hx)
        have h2 := hdis x (.tail _ hx)
        have h3 := hlt x (.tail _ hx)
        rcases Nat.lt_or_ge p x with h4 | h4
        · exact absurd (ha x h4 h3) h2
        · omega
      refine ⟨by rw [List.flatten_append, hs]; simp, ?_, ?_, ?_, ?_, ?_, ?_⟩
      · exact List.nodup_append.mpr ⟨hn, hnd, fun x hx y hy e => hdis y hy (e ▸ hx)⟩
      · intro x hx
        rcases List.mem_append.mp hx with hx | hx
        · exact hl x hx
        · exact hlt x hx
      · intro x h1 h2
        by_cases e : x = p
        · rw [e]; exact List.mem_append_right _ (.head _)
        · exact List.mem_append_left _ (ha x (by omega) h2)
      · intro r hr'
        rcases List.mem_append.mp hr' with hr' | hr'
        · exact hr r hr'
        · rw [List.mem_singleton.mp hr']; exact ⟨p, l, rfl, hP, hlp⟩
      · intro r hr'
        rcases List.mem_append.mp hr' with hr' | hr'
        · have := hh r hr'; omega
        · rw [List.mem_singleton.mp hr']; simp; omega
      · refine List.pairwise_append.mpr ⟨hd, List.pairwise_singleton _ _, fun r hr' r' hr'' => ?_⟩
        rw [List.mem_singleton.mp hr'']
        have := hh r hr'
        show p < r.headD 0
        omega
theorem rings_perm (h : Order o) : (rings o).flatten.Perm (List.range o.length) := by
  have hF := rings_found h o.length (Nat.le_refl _)
  have e : (rings o).flatten = (ringsN o o.length).1 := hF.seen.symm
  rw [e]
  refine (List.perm_ext_iff_of_nodup hF.nodup List.nodup_range).mpr fun x => ⟨fun hx => List.mem_range.mpr (hF.lt x hx), fun hx => hF.all x (by omega) (List.mem_range.mp hx)⟩
/-! told -/
theorem ins_first {xss : List (List Int)} {ys : List Int} (h : ∀ xs ∈ xss, ltL xs ys = false) : insL xss ys = ys :: xss := by
  have h0 : insAt xss ys ≤ 0 := by
    refine bis_to (n := xss.length) (fun j _ hj => ?_) (Nat.le_refl _) (Nat.le_refl _)
    rw [List.getD_eq_getElem?_getD, List.getElem?_eq_getElem hj]
    exact h _ (List.getElem_mem hj)
  rw [insL, Nat.le_zero.mp h0]; rfl
theorem lots_rev : ∀ (R : List (List Nat)) (acc : List (List Int)), (∀ r ∈ R, Ring o r) → (R.Pairwise fun r r' => r'.headD 0 < r.headD 0) →
    (∀ xs ∈ acc, ∀ r ∈ R, ltL xs (up r) = false) → (R.map up).foldl insL acc = (R.map up).reverse ++ acc
  | [], acc, _, _, _ => by simp
  | r :: R, acc, hr, hd, ha => by
    rw [List.map_cons, List.foldl_cons, ins_first fun xs hx => ha xs hx r (.head _)]
    obtain ⟨hd1, hd2⟩ := List.pairwise_cons.mp hd
    rw [lots_rev R _ (fun r hx => hr r (.tail _ hx)) hd2]
    · simp
    · intro xs hx r' hr'
      rcases List.mem_cons.mp hx with rfl | hx
      · have h1 := hd1 r' hr'
        obtain ⟨a, l, rfl, _⟩ := hr r (.head _)
        obtain ⟨b, k, rfl, _⟩ := hr r' (.tail _ hr')
        simp only [List.headD_cons] at h1
        rw [up_cons, up_cons, ltL, if_neg (by omega)]
        exact decide_eq_false (by omega)
      · exact ha xs hx r' (.tail _ hr')
/-- the order told -/
def toldN (o : List Nat) : List Nat := (rings o).reverse.flatten
theorem up_flatten (R : List (List Nat)) : up R.flatten = (R.map up).flatten := by
  induction R with
  | nil => rfl
  | cons r R ih => rw [List.flatten_cons, up_append, ih]; rfl
theorem told_is (h : Order o) : told o = up (toldN o) := by
  have hF := rings_found h o.length (Nat.le_refl _)
  rw [told, lotsOf, lots_rev (o := o) (rings o) [] hF.ring hF.down (fun _ hx => nomatch hx), List.append_nil, toldN, up_flatten, List.map_reverse]
theorem toldN_perm (h : Order o) : (toldN o).Perm (List.range o.length) := by
  refine List.Perm.trans ?_ (rings_perm h)
  exact List.Perm.flatten (List.reverse_perm _)
/-! where the rings begin -/
def starts : Nat → List (List Nat) → List Nat
  | _, [] => []
  | b, r :: S => b :: starts (b + r.length) S
theorem starts_length : ∀ (b : Nat) (S : List (List Nat)), (starts b S).length = S.length
  | _, [] => rfl
  | b, r :: S => by rw [starts, List.length_cons, starts_length, List.length_cons]
/-- greatest, number by number -/
def gfrom : List Nat → List Nat → List Nat
  | _, [] => []
  | pre, x :: xs => (if (pre.filter fun y => decide (x < y)) = [] then [pre.length] else []) ++ gfrom (pre ++ [x]) xs
theorem gfrom_eq : ∀ (xs pre : List Nat), (List.range' pre.length xs.length).filter (fun k => (((pre ++ xs).take k).filter fun x => decide ((pre ++ xs).getD k 0 < x)) = []) = gfrom pre xs
  | [], pre => rfl
  | x :: xs, pre => by
    have ih := gfrom_eq xs (pre ++ [x])
    rw [List.append_assoc, List.length_append] at ih
    rw [List.length_cons, List.range'_succ, List.filter_cons, gfrom, ← ih]
    have e1 : (pre ++ x :: xs).take pre.length = pre := by simp
    have e2 : (pre ++ x :: xs).getD pre.length 0 = x := by simp [List.getD_eq_getElem?_getD]
    rw [e1, e2]
    by_cases hc : (pre.filter fun y => decide (x < y)) = []
    · simp [hc]
    · simp [hc]
theorem greatest_eq (t : List Nat) : greatest t = gfrom [] t := by
  rw [← gfrom_eq, greatest, List.range_eq_range']
  rfl
theorem gfrom_low : ∀ (l pre rest : List Nat), (∀ x ∈ l, ∃ y ∈ pre, x < y) → gfrom pre (l ++ rest) = gfrom (pre ++ l) rest
  | [], pre, rest, _ => by simp
  | x :: l, pre, rest, h => by
    obtain ⟨y, hy, hxy⟩ := h x (.head _)
    have hne : (pre.filter fun y => decide (x < y)) ≠ [] := List.ne_nil_of_mem (List.mem_filter.mpr ⟨hy, decide_eq_true hxy⟩)
    rw [List.cons_append, gfrom, if_neg hne, List.nil_append, gfrom_low l (pre ++ [x]) rest, List.append_assoc]
    · rfl
    · intro z hz
      obtain ⟨y, hy, hxy⟩ := h z (.tail _ hz)
      exact ⟨y, List.mem_append_left _ hy, hxy⟩
theorem gfrom_rings : ∀ (S : List (List Nat)) (pre : List Nat), (∀ r ∈ S, Ring o r) → (S.Pairwise fun r r' => r.headD 0 < r'.headD 0) → (∀ y ∈ pre, ∀ r ∈ S, y < r.headD 0) →
    gfrom pre S.flatten = starts pre.length S
  | [], pre, _, _, _ => rfl
  | r :: S, pre, hr, hd, hp => by
    obtain ⟨a, l, rfl, _, hla⟩ := hr r (.head _)
    obtain ⟨hd1, hd2⟩ := List.pairwise_cons.mp hd
    have hc : (pre.filter fun y => decide (a < y)) = [] := List.filter_eq_nil_iff.mpr fun y hy => by
      have := hp y hy _ (.head _)
      simp only [List.headD_cons] at this
      simp; omega
    rw [List.flatten_cons, List.cons_append, gfrom, if_pos hc, gfrom_low l _ _ (fun x hx => ⟨a, List.mem_append_right _ (.head _), hla x hx⟩), starts]
    rw [gfrom_rings S _ (fun r hx => hr r (.tail _ hx)) hd2]
    · simp [Nat.add_assoc, Nat.add_comm]
    · intro y hy r' hr'
      have h1 := hd1 r' hr'
      simp only [List.headD_cons] at h1
      simp only [List.mem_append, List.mem_cons, List.not_mem_nil, or_false] at hy
      rcases hy with (hy | rfl) | hy
      · exact hp y hy r' (.tail _ hr')
      · exact h1
      · exact Nat.lt_trans (hla y hy) h1
theorem toldN_greatest (h : Order o) : greatest (toldN o) = starts 0 (rings o).reverse := by
  have hF := rings_found h o.length (Nat.le_refl _)
  rw [greatest_eq, toldN]
  exact gfrom_rings (o := o) _ [] (fun r hr => hF.ring r (List.mem_reverse.mp hr)) (List.pairwise_reverse.mpr hF.down) (fun _ hy => nomatch hy)
theorem greatest_many (h : Order o) : (greatest (toldN o)).length = (rings o).length := by
  rw [toldN_greatest h, starts_length, List.length_reverse]
/-! told back -/
theorem starts_append : ∀ (b : Nat) (S T : List (List Nat)), starts b (S ++ T) = starts b S ++ starts (b + S.flatten.length) T
  | b, [], T => rfl
  | b, r :: S, T => by
    rw [List.cons_append, starts, starts, starts_append, List.flatten_cons, List.length_append, Nat.add_assoc]; rfl
theorem starts_between : ∀ (b : Nat) (S : List (List Nat)), (∀ r ∈ S, r ≠ []) → ∀ p ∈ starts b S, b ≤ p ∧ p < b + S.flatten.length
  | b, [], _, p, hp => nomatch hp
  | b, r :: S, h, p, hp => by
    have hr : 0 < r.length := List.length_pos_iff.mpr (h r (.head _))
    rw [List.flatten_cons, List.length_append]
    rcases List.mem_cons.mp hp with rfl | hp
    · omega
    · have := starts_between _ S (fun r hx => h r (.tail _ hx)) p hp
      omega
theorem locate : ∀ {S : List (List Nat)} {k : Nat}, k < S.flatten.length → ∃ S1 r S2 j, S = S1 ++ r :: S2 ∧ k = S1.flatten.length + j ∧ j < r.length
  | [], k, h => (by simp at h)
  | r :: S, k, h => by
    rcases Nat.lt_or_ge k r.length with h1 | h1
    · exact ⟨[], r, S, k, rfl, by simp, h1⟩
    · rw [List.flatten_cons, List.length_append] at h
      obtain ⟨S1, r', S2, j, rfl, e, hj⟩ := locate (S := S) (k := k - r.length) (by omega)
      refine ⟨r :: S1, r', S2, j, rfl, ?_, hj⟩
      rw [List.flatten_cons, List.length_append]; omega
/-- the places of the cuts: what stands about a place k of the ring r -/
theorem cuts {S : List (List Nat)} (h : ∀ r ∈ S, r ≠ []) {k : Nat} (hk : k < S.flatten.length) : ∃ A C b r j, starts 0 S ++ [S.flatten.length] = A ++ b :: (b + r.length) :: C ∧ (∀ p ∈ A, p < b) ∧ k = b + j ∧ j < r.length ∧ (∀ p ∈ C, b + r.length ≤ p) ∧ r ∈ S ∧ ∀ i, i < r.length → S.flatten.getD (b + i) 0 = r.getD i 0 := by
  obtain ⟨S1, r, S2, j, rfl, e, hj⟩ := locate hk
  have hS1 := starts_between 0 S1 (fun r hx => h r (List.mem_append_left _ hx))
  have hS2 := starts_between (S1.flatten.length + r.length) S2 (fun r hx => h r (List.mem_append_right _ (.tail _ hx)))
  have hC : ∃ C, starts (S1.flatten.length + r.length) S2 ++ [S1.flatten.length + (r.length + S2.flatten.length)] = (S1.flatten.length + r.length) :: C ∧ ∀ p ∈ C, S1.flatten.length + r.length ≤ p := by
    cases S2 with
    | nil => exact ⟨[], by simp [starts], fun _ hp => nomatch hp⟩
    | cons r' S2 =>
      refine ⟨starts (S1.flatten.length + r.length + r'.length) S2 ++ [S1.flatten.length + (r.length + (r' :: S2).flatten.length)], rfl, fun p hp => ?_⟩
      rcases List.mem_append.mp hp with hp | hp
      · exact (hS2 p (.tail _ hp)).1
      · rw [List.mem_singleton.mp hp]; omega
  obtain ⟨C, hC1, hC2⟩ := hC
  refine ⟨starts 0 S1, C, S1.flatten.length, r, j, ?_, ?_, e, hj, hC2, by simp, ?_⟩
  · rw [starts_append, starts, Nat.zero_add, List.flatten_append, List.flatten_cons, List.length_append, List.length_append, List.append_assoc, List.cons_append, hC1]
  · intro p hp
    have := hS1 p hp
    omega
  · intro i hi
    rw [List.flatten_append, List.flatten_cons]
    simp only [List.getD_eq_getElem?_getD]
    rw [List.getElem?_append_right (by omega), Nat.add_sub_cancel_left, List.getElem?_append_left hi]
theorem bis_at {p : Nat → Bool} {b : Nat} : ∀ {f lo hi : Nat}, (∀ j, j < b → p j = true) → (∀ j, b ≤ j → j < hi → p j = false) → lo ≤ b → b ≤ hi → hi ≤ f + lo → bis p f lo hi = b
  | 0, lo, hi, _, _, h1, h2, h3 => by rw [bis]; omega
  | f + 1, lo, hi, ht, hf, h1, h2, h3 => by
    rw [bis]
    split
    · rename_i hlt
      rcases Nat.lt_or_ge ((lo + hi) / 2) b with hm | hm
      · rw [if_pos (ht _ hm)]
        exact bis_at ht hf (by omega) h2 (by omega)
      · rw [if_neg (by rw [hf _ hm (by omega)]; exact Bool.false_ne_true)]
        exact bis_at ht (fun j h4 h5 => hf j h4 (by omega)) h1 hm (by omega)
    · omega
theorem next_is (h : Order o) {k : Nat} (hk : k < o.length) : nextOf (toldN o) k = o.getD ((toldN o).getD k 0) 0 := by
  have hF := rings_found h o.length (Nat.le_refl _)
  have hn : (toldN o).length = o.length := by rw [(toldN_perm h).length_eq, List.length_range]
  have hne : ∀ r ∈ (rings o).reverse, r ≠ [] := by
    intro r hr
    obtain ⟨a, l, rfl, _⟩ := hF.ring r (List.mem_reverse.mp hr)
    exact List.cons_ne_nil _ _
  obtain ⟨A, C, b, r, j, hp, hA, hkj, hj, hC, hrS, hget⟩ := cuts hne (k := k) (by rw [← toldN, hn]; exact hk)
  have hpl : placesOf (toldN o) = A ++ b :: (b + r.length) :: C := by
    rw [placesOf, toldN_greatest h, ← hp]; rfl
  have hbeg : beginOf (toldN o) k = b := by
    rw [beginOf, hpl, List.filter_append, List.filter_cons, List.filter_cons, if_pos (decide_eq_true (by omega)), if_neg (by simp; omega)]
    have e1 : (A.filter fun p => decide (p ≤ k)) = A := List.filter_eq_self.mpr fun p hp => decide_eq_true (by have := hA p hp; omega)
    have e2 : (C.filter fun p => decide (p ≤ k)) = [] := List.filter_eq_nil_iff.mpr fun p hp => by have := hC p hp; simp; omega
    rw [e1, e2]; simp
  have hend : endOf (toldN o) k = b + r.length := by
    have hb : bis (fun i => decide ((up (placesOf (toldN o))).getD i 0 < ((k + 1 : Nat) : Int))) (placesOf (toldN o)).length 0 (placesOf (toldN o)).length = A.length + 1 := by
      refine bis_at ?_ ?_ (Nat.zero_le _) (by rw [hpl]; simp) (Nat.le_refl _)
      · intro i hi
        refine decide_eq_true ?_
        rw [up_getD, hpl]
        have : (A ++ b :: (b + r.length) :: C).getD i 0 ≤ k := by
          simp only [List.getD_eq_getElem?_getD]
          rcases Nat.lt_or_ge i A.length with h1 | h1
          · rw [List.getElem?_append_left h1, List.getElem?_eq_getElem h1]
            have := hA _ (List.getElem_mem h1)
            simp; omega
          · have : i = A.length := by omega
            subst this
            simp; omega
        omega
      · intro i h1 h2
        refine decide_eq_false ?_
        rw [up_getD, hpl]
        have : b + r.length ≤ (A ++ b :: (b + r.length) :: C).getD i 0 := by
          simp only [List.getD_eq_getElem?_getD]
          rw [List.getElem?_append_right (by omega)]
          obtain ⟨i', hi'⟩ : ∃ i', i - A.length = i' + 1 := ⟨i - A.length - 1, by omega⟩
          rw [hi', List.getElem?_cons_succ]
          cases i' with
          | zero => simp
          | succ i' =>
            rw [hpl, List.length_append, List.length_cons, List.length_cons] at h2
            have h3 : i' < C.length := by omega
            rw [List.getElem?_cons_succ, List.getElem?_eq_getElem h3]
            exact hC _ (List.getElem_mem h3)
        omega
    rw [endOf, hb, hpl]
    simp [List.getD_eq_getElem?_getD]
  obtain ⟨a, l, rfl, hP, _⟩ := hF.ring r (List.mem_reverse.mp hrS)
  have hg : (toldN o).getD k 0 = (a :: l).getD j 0 := by rw [hkj]; exact hget j hj
  rw [nextOf, hbeg, hend, hg, hP.get hj]
  split
  · rename_i hlt
    have hj1 : j + 1 < (a :: l).length := by omega
    have := hget (j + 1) hj1
    rw [hkj, Nat.add_assoc]
    refine this.trans ?_
    rw [List.getD_cons_succ]
    simp only [List.getD_eq_getElem?_getD]
    rw [List.getElem?_append_left (by simpa using hj1)]
  · rename_i hge
    have hj1 : j = l.length := by
      rw [List.length_cons] at hge hj; omega
    have := hget 0 (by simp)
    rw [Nat.add_zero] at this
    refine this.trans ?_
    rw [hj1]; simp [List.getD_eq_getElem?_getD]
theorem back_get (h : Order o) : ∀ k, k ≤ o.length → ∀ j, j < k → (backN (toldN o) k).getD ((toldN o).getD j 0) 0 = o.getD ((toldN o).getD j 0) 0
  | 0, _, _, hj => nomatch hj
  | k + 1, hk, j, hj => by
    have hn : (toldN o).length = o.length := by rw [(toldN_perm h).length_eq, List.length_range]
    have hlt : ∀ i, i < o.length → (toldN o).getD i 0 < o.length := by
      intro i hi
      rw [List.getD_eq_getElem?_getD, List.getElem?_eq_getElem (by omega)]
      exact List.mem_range.mp ((toldN_perm h).mem_iff.mp (List.getElem_mem _))
    rw [backN]
    by_cases e : (toldN o).getD k 0 = (toldN o).getD j 0
    · rw [← e, ← next_is h (show k < o.length by omega)]
      simp only [List.getD_eq_getElem?_getD]
      rw [List.getElem?_set_self]
      · rfl
      · rw [backN_length, hn]
        have := hlt k (by omega)
        rwa [List.getD_eq_getElem?_getD] at this
    · have hjk : j < k := by
        rcases Nat.lt_or_ge j k with h1 | h1
        · exact h1
        · have : j = k := by omega
          exact absurd (by rw [this]) e
      have ih := back_get h k (by omega) j hjk
      rw [← ih]
      rw [List.getD_eq_getElem?_getD, List.getElem?_set_ne e, ← List.getD_eq_getElem?_getD]
theorem back_is (h : Order o) : back (toldN o) = o := by
  have hn : (toldN o).length = o.length := by rw [(toldN_perm h).length_eq, List.length_range]
  refine List.ext_getElem (by rw [back, backN_length, hn]) fun x h1 h2 => ?_
  have hx : x ∈ toldN o := (toldN_perm h).mem_iff.mpr (List.mem_range.mpr h2)
  obtain ⟨j, hj, e⟩ := List.mem_iff_getElem.mp hx
  have hb := back_get h o.length (Nat.le_refl _) j (by omega)
  have e2 : (toldN o).getD j 0 = x := by rw [List.getD_eq_getElem?_getD, List.getElem?_eq_getElem hj, Option.getD_some, e]
  rw [e2] at hb
  rw [List.getD_eq_getElem?_getD, List.getD_eq_getElem?_getD, List.getElem?_eq_getElem h2] at hb
  have h3 : x < (backN (toldN o) o.length).length := by rw [backN_length, hn]; exact h2
  rw [List.getElem?_eq_getElem h3] at hb
  simp only [Option.getD_some] at hb
  simp only [back, hn]
  exact hb
end
theorem ints_erase : ∀ {vs : List Value} {xs : List Nat}, IntsAre vs (up xs) → ∀ k, IntsAre (vs.eraseIdx k) (up (xs.eraseIdx k))
  | [], [], _, _ => by simp only [List.eraseIdx_nil]; exact .nil
  | [], _ :: _, h, _ => by cases h
  | _ :: _, [], h, _ => by cases h
  | v :: vs, x :: xs, h, k => by
    rw [up_cons] at h
    cases h with
    | cons n u h =>
      cases k with
      | zero => exact h
      | succ k => exact .cons _ _ (ints_erase h k)
theorem low8 {a i n : Nat} (h : a + i = min 8 n) : a ≤ 16777216 := by omega
theorem low8' {a i n : Nat} (h : a + i = min 8 n) : i ≤ 16777216 := by omega
theorem pos8 {a i k n : Nat} (h : a + i = min 8 n) (h1 : i < k) (h2 : k ≤ min 8 n) : 0 < a := by omega
end
/-! FLaw -/
section
theorem post_ok (a : List WData) : PySem.Challenge.rw_gh0002_01.row.claim.post a (WData.bool true) a = true := by
  refine' postW_of ?pp1 ?pp2 ?pp3
  case pp1 => rfl
  case pp2 => wtm_val
  case pp3 => rfl
theorem topOff_FLaw : True := by
  w_top off
  trivial
local macro_rules | `(tactic| walk_at "eval Dict") => `(tactic| refine Stop.out ?_)
local macro_rules | `(tactic| walk_at "exec For") => `(tactic| refine Stop.out ?_)
local macro_rules | `(tactic| walk_at "exec For Name Name cons nil") => `(tactic| refine Stop.out ?_)
local macro_rules | `(tactic| walk_at "eval Name") => `(tactic| ((with_reducible show wpAny _ _ (eval (PySem.Expr.Name (Str.ofString "rings") _) _) _ _ _); refine Stop.out ?_))
local macro_rules | `(tactic| walk_at "call builtin:len") => `(tactic| (refine f_len (by assumption) (by news_mem) (by ktr_rel) ?_))
local macro_rules | `(tactic| walk_at "compareOp NotEq ref ref") => `(tactic| refine Stop.out ?_)
local macro_rules | `(tactic| walk_at "eval Name") => `(tactic| ((with_reducible show wpAny _ _ (eval (PySem.Expr.Name (Str.ofString "many") _) _) _ _ _); (fail_if_success (rename_i FirstOnes)); refine Stop.out ?_))
local macro_rules | `(tactic| walk_at "call builtin:list.pop") => `(tactic| refine Stop.out ?_)
local macro_rules | `(tactic| walk_at "call builtin:sorted") => `(tactic| refine Stop.out ?_)
local macro_rules | `(tactic| walk_at "compareOp Eq ref ref") => `(tactic| refine Stop.out ?_)
local macro_rules | `(tactic| walk_at "compareOp Eq int int") => `(tactic| refine Stop.out ?_)
set_option rowWalk.seconds 0
theorem walk_holds : PySem.Challenge.rw_gh0002_01.Holds := by
  refine Foata.hd ?_
  k_go0
  rename_i w s₀ s₁ mg mb hG hY fa o pm doc ho hg KX MX LV GL T0 hTab hTE hTW wa wb hM wc wd hcd ns hs hlay hL hr hl2 we wf ls lvs wg hIL hra hw1 hr0 hI hrr hc1 hc2 K0 hDf h₁ tk₁ F0 o2 o1 hleft hright N0 X0
  have hlen : ns.length ≤ 63 := by omega
  clear hG hY ho MX LV GL hTab hTE hTW hM hcd hs hlay hL hr hl2 hra hw1 hr0 hrr hc1 hc2 hDf X0
  have hd1 : o1.data = .cell none := hright
  have hd2 : o2.data = .cell none := hleft
  clear hleft hright
  obtain ⟨bm, F1⟩ := Fr.canonE [(Str.ofString "script", .ref ls)] F0 (by ktr_unf)
  clear F0
  generalize hb : s₁.heap = base at *
  dsimp only
  k_steps
  refine Stop.mk ?_
  rename_i hA tA tAA dR _ oR loR hsR _ _ _ ltR dG _ oG loG hsG _ _ _ ltG dT _ ltT _ _ oM hoM _ oC hoC _ _ _ _ _ _ rgX _ lD lvs2 cD h2 tk2 F2 N2 hI2 ltD
  clear rgX
  obtain ⟨epR, rfl⟩ := empty_dict hsR
  obtain ⟨epG, rfl⟩ := empty_dict hsG
  obtain ⟨mn, hmn1, hmn4, hmn⟩ := many_is ns.sum
  rw [hmn] at hoM hI2 N2
  rw [show (((mn : Nat) : Int) - 0).toNat = mn by omega, rangeKs_up] at hI2
  have F3 := Fr.canon [(Str.ofString "script", .ref ls), (Str.ofString "greatest", .ref dG)] F2 (by ktr_unf)
  clear F2 hsR hsG
  have hRL : recursionLimit = 1000 := rfl
  have hCL : cLine = 9900 := rfl
  refine orders_ok mn (dp := 302) (un := 7) (ns := List.range mn) K0 F3 KX N2 T0 rfl ⟨lD, lvs2, cD, rfl, .head _, hI2⟩ (List.length_range) List.nodup_range hmn4 (by omega) (by omega) ?_
  rintro r tl h4 tk4 F4 N4 hf4 ⟨lo, ovs, no, rfl, hom, hoa⟩
  clear F3 N2
  have hgt : ∀ p ∈ tl, base.objs.size + 1 + 1 < p.1 := fun p hp => hf4 (base.objs.size + 1 + 1, oC) (.tail _ (.tail _ (.tail _ (.tail _ (.head _))))) p hp
  dsimp only
  k_steps
  refine Stop.mk ?_
  rename_i h5 F5 N5
  have F6 := Fr.canon [(Str.ofString "script", .ref ls), (Str.ofString "greatest", .ref dG), (Str.ofString "orders", .ref lo)] F5 (by ktr_unf)
  clear F5
  have N6 : News base base.objs.size h5 ([(dG, dictO #[] epG), (dR, dictO #[] epR)] ++ (base.objs.size + 1 + 1, oC) :: ((base.objs.size + 1, oM) :: tl)) := newsSub N5 fun p hp => by
    simp only [List.mem_cons, List.mem_append, List.not_mem_nil, or_false] at hp ⊢; grind
  clear N5
  have hos := ordersN_count mn (List.range mn) List.nodup_range List.length_range hmn4
  have hol := ordersN_len mn (List.range mn)
  have hoM2 := ordersN_mem mn (List.range mn)
  generalize hosE : ordersN mn (List.range mn) = os at *
  have hpw : 4 ^ mn ≤ 256 := Nat.pow_le_pow_right (n := 4) (by omega) hmn4
  have hovl : ovs.length = os.length := by rw [hoa.length, List.length_map]
  have hpost : ∀ p ∈ (base.objs.size + 1, oM) :: tl, p.1 ≠ base.objs.size + 1 + 1 := by
    intro p hp
    rcases List.mem_cons.mp hp with rfl | hp
    · exact Nat.ne_of_lt (Nat.lt_succ_self _)
    · exact Nat.ne_of_gt (hgt p hp)
  have hbig : sysModules < base.objs.size := modules_low T0.nolimit
  refine for_open ?_ (fun _ => rfl)
  refine nameX_L F6 (v := .ref lo) (by ktr_unf) ?_
  refine for_list (l := lo) (vs := ovs) (nn := no) (fun i m nw => ∃ tl' g r oc, m (Str.ofString "greatest") = some (.ref g) ∧ m (Str.ofString "orders") = some (.ref lo) ∧ m (Str.ofString "script") = some (.ref ls) ∧
      nw = tl' ++ (base.objs.size + 1 + 1, oc) :: ((base.objs.size + 1, oM) :: tl) ∧ (∀ p ∈ tl', base.objs.size + 1 + 1 < p.1) ∧ oc.data = .cell (some (.ref r)) ∧ IsTab w nw (.ref r) (ringTab (os.take i)) ∧ IsTab w nw (.ref g) (greatTab (os.take i)))
    rfl (List.mem_append_right _ (.tail _ (.tail _ hom))) F6 N6 ⟨_, dG, dR, oC, rfl, rfl, rfl, rfl, ?_, hoC, empty_tab loR (.tail _ (.head _)), empty_tab loG (.head _)⟩ (fun _ _ => rfl) ?_ ?_
  · intro p hp
    simp only [List.mem_cons, List.not_mem_nil, or_false] at hp
    rcases hp with rfl | rfl
    · exact ltG.2.1
    · exact ltR.1
  · rintro I i v m₁ nw h tk9 it hit hltI hvi ⟨tl', g, r, oc, hm1, hm2, hm3, rfl, htl', hocd, hT1, hT2⟩ hlm hoff F7 N7
    obtain ⟨ys, hys, hvy⟩ := hoa.get i v hvi
    have hio : i < os.length := by
      have := (List.getElem?_eq_some_iff.mp hvi).1
      omega
    have hys' : ys = up os[i] := by
      rw [List.getElem?_map, List.getElem?_eq_getElem hio, Option.map_some] at hys
      exact (Option.some.inj hys).symm
    subst hys'
    have hol' : os[i].length = mn := hol _ (List.getElem_mem hio)
    have h64 : os[i].length ≤ 64 := Nat.le_trans (Nat.le_of_eq hol') (Nat.le_trans hmn4 (by decide))
    have hmem' : ∀ x ∈ os[i], x < os[i].length := fun x hx => by
      have := hoM2 _ (List.getElem_mem hio) x hx
      rw [hol']; exact List.mem_range.mp this
    have F8 := Fr.canon [(Str.ofString "script", .ref ls), (Str.ofString "greatest", .ref g), (Str.ofString "orders", .ref lo)] F7 (by ktr_unf)
    clear F7 F6 N6
    refine wpAny_assign_Name ?_
    k_steps
    refine Stop.mk ?_
    rename_i h10 F9 N9
    have F10 := Fr.canon [(Str.ofString "script", .ref ls), (Str.ofString "greatest", .ref g), (Str.ofString "orders", .ref lo), (Str.ofString "order", v)] F9 (by ktr_unf)
    clear F9
    refine f_cell N9 rfl rfl rfl (.tail _ (List.mem_append_right _ (.head _))) hocd (by decide) ?_
    dsimp only
    k_steps
    refine Stop.mk ?_
    refine dict_key1 F10 N9 hbig fun d1 h11 ltd1 hSd1 F11 N11 => ?_
    k_steps
    refine Stop.mk ?_
    refine rings_ok (dp := 302) (un := 7) (o := os[i]) K0 F11 KX N11 T0 rfl (hvy.mono fun p hp => .tail _ (.tail _ (List.mem_append_right _ (.tail _ (.tail _ hp))))) hmem' h64 (by decide) (by decide) ?_
    rintro r1 tl1 h12 tk12 F12 N12 hf12 ⟨b1, rus1, rk1, rfl, hrm1, hra1⟩
    clear F11 N11
    have hrul : rus1.length ≤ 64 := by
      rw [hra1.length, List.length_map]; exact (rings_small (o := os[i]) h64).1
    have ltT1 : ∀ p ∈ (tl1 ++ (d1, dictO #[] 0) :: (I, it) :: (tl' ++ (base.objs.size + 1 + 1, oc) :: (base.objs.size + 1, oM) :: tl)), p.1 < h12.objs.size := fun p hp => Heap.lt_size (N12 p hp).1
    dsimp only
    k_steps
    rename_i h13 F13 N13 _ _ _
    dsimp only at N13
    generalize h12.objs.size = T1 at *
    have hd1T : T1 ≠ d1 := Nat.ne_of_gt (ltT1 (d1, dictO #[] 0) (List.mem_append_right _ (.head _)))
    have hruL : rus1.length = (rings os[i]).length := by rw [hra1.length, List.length_map]
    obtain ⟨TO, hTO, N13'⟩ : ∃ TO, TupKeyObj (mixK w) (keyOf (rings os[i]).length) TO ∧ News base base.objs.size h13 ((T1, TO) :: (tl1 ++ (d1, dictO #[] 0) :: (I, it) :: (tl' ++ (base.objs.size + 1 + 1, oc) :: (base.objs.size + 1, oM) :: tl))) := ⟨_, by rw [← hruL]; exact key_made, N13⟩
    clear N13
    refine store_one (knd := mixK w) (ks := keyOf (rings os[i]).length) (a := T1) (pre := (T1, TO) :: tl1) (post := (I, it) :: (tl' ++ (base.objs.size + 1 + 1, oc) :: (base.objs.size + 1, oM) :: tl)) F13 N13' ?_ (fun p hp => Nat.ne_of_lt (ltd1 p hp)) (.head _) hTO (show (7 : Nat) < 9900 by decide) ?_
    · intro p hp
      rcases List.mem_cons.mp hp with rfl | hp
      · exact hd1T
      · exact Nat.ne_of_gt (hf12 (d1, dictO #[] 0) (.head _) p hp)
    intro h14 es14 ep14 tk14 F14 N14 he14
    simp only [List.cons_append] at N14
    clear F13 N13'
    dsimp only
    k_steps
    refine Stop.mk ?_
    have hT3 : IsTab w ((T1, TO) :: (tl1 ++ (d1, dictO es14 ep14) :: (I, it) :: (tl' ++ (base.objs.size + 1 + 1, oc) :: (base.objs.size + 1, oM) :: tl))) (.ref d1) [((rings os[i]).length, 1)] :=
      ⟨d1, es14, ep14, _, rfl, hSd1, .tail _ (List.mem_append_right _ (.head _)), he14, (fun y hy => by rw [List.mem_singleton.mp hy]; exact ⟨_, .head _, hTO⟩), .cons ⟨rfl, _, rfl⟩ .nil⟩
    refine add_ok (dp := 302) (un := 7) K0 F14 KX N14 T0 rfl (hT1.mono fun p hp => .tail _ (List.mem_append_right _ (.tail _ (.tail _ hp)))) hT3 (by have := ringTab_length (os.take i); rw [List.length_take] at this; omega) (by decide) (by decide) ?_
    intro r2 tl2 h15 tk15 F15 N15 hf15 hT4
    clear F14 N14
    dsimp only
    have hring : addN (ringTab (os.take i)) (rings os[i]).length = ringTab (os.take (i + 1)) := by
      rw [ringTab, ringTab, List.take_add_one, List.getElem?_eq_getElem hio, List.map_append, List.foldl_append]; rfl
    rw [hring] at hT4
    have N16 : News base base.objs.size h15 (((I, it) :: (tl2 ++ (T1, TO) :: (tl1 ++ (d1, dictO es14 ep14) :: tl'))) ++ (base.objs.size + 1 + 1, oc) :: ((base.objs.size + 1, oM) :: tl)) := newsSub N15 fun p hp => by
      simp only [List.mem_cons, List.mem_append] at hp ⊢; grind
    have hTm : ∀ p ∈ (tl2 ++ (T1, TO) :: (tl1 ++ (d1, dictO es14 ep14) :: (I, it) :: (tl' ++ (base.objs.size + 1 + 1, oc) :: (base.objs.size + 1, oM) :: tl))), p ∈ (((I, it) :: (tl2 ++ (T1, TO) :: (tl1 ++ (d1, dictO es14 ep14) :: tl'))) ++ (base.objs.size + 1 + 1, oc) :: ((base.objs.size + 1, oM) :: tl)) := fun p hp => by
      simp only [List.mem_cons, List.mem_append] at hp ⊢; grind
    replace hT4 := hT4.mono hTm
    clear N15 hTm
    have hIc : I ≠ base.objs.size + 1 + 1 := fun e => hoff (base.objs.size + 1 + 1, oc) (List.mem_append_right _ (.head _)) e.symm
    have hTL : ∀ p ∈ tl2 ++ (T1, TO) :: (tl1 ++ (d1, dictO es14 ep14) :: tl'), base.objs.size + 1 + 1 < p.1 ∧ p.1 ≠ I := by
      intro p hp
      rcases List.mem_append.mp hp with hp | hp
      · exact ⟨hf15 (base.objs.size + 1 + 1, oc) (.tail _ (List.mem_append_right _ (.tail _ (.tail _ (List.mem_append_right _ (.head _)))))) p hp, Nat.ne_of_gt (hf15 (I, it) (.tail _ (List.mem_append_right _ (.tail _ (.head _)))) p hp)⟩
      rcases List.mem_cons.mp hp with rfl | hp
      · exact ⟨ltT1 (base.objs.size + 1 + 1, oc) (List.mem_append_right _ (.tail _ (.tail _ (List.mem_append_right _ (.head _))))), Nat.ne_of_gt (ltT1 (I, it) (List.mem_append_right _ (.tail _ (.head _))))⟩
      rcases List.mem_append.mp hp with hp | hp
      · exact ⟨hf12 (base.objs.size + 1 + 1, oc) (.tail _ (.tail _ (List.mem_append_right _ (.head _)))) p hp, Nat.ne_of_gt (hf12 (I, it) (.tail _ (.head _)) p hp)⟩
      rcases List.mem_cons.mp hp with rfl | hp
      · exact ⟨ltd1 (base.objs.size + 1 + 1, oc) (.tail _ (List.mem_append_right _ (.head _))), Nat.ne_of_gt (ltd1 (I, it) (.head _))⟩
      · exact ⟨htl' p hp, hoff p (List.mem_append_left _ hp)⟩
    refine store_cell' (c := base.objs.size + 1 + 1) (pre := (I, it) :: (tl2 ++ (T1, TO) :: (tl1 ++ (d1, dictO es14 ep14) :: tl'))) (post := (base.objs.size + 1, oM) :: tl) rfl rfl rfl F15 N16 hocd ?_ hpost ?_
    · intro p hp
      rcases List.mem_cons.mp hp with rfl | hp
      · exact hIc
      · exact Nat.ne_of_gt (hTL p hp).1
    intro h17 oc2 F17 N17 hoc2
    replace hT4 := IsTab.cell (pre := (I, it) :: (tl2 ++ (T1, TO) :: (tl1 ++ (d1, dictO es14 ep14) :: tl'))) (post := (base.objs.size + 1, oM) :: tl) (oc2 := oc2) hT4 hocd
    have hT2' : IsTab w (((I, it) :: (tl2 ++ (T1, TO) :: (tl1 ++ (d1, dictO es14 ep14) :: tl'))) ++ (base.objs.size + 1 + 1, oc2) :: ((base.objs.size + 1, oM) :: tl)) (.ref g) (greatTab (os.take i)) :=
      (hT2.cell (oc2 := oc2) hocd).mono fun p hp => by simp only [List.mem_cons, List.mem_append] at hp ⊢; grind
    clear F15 N16 hT1 hT2 hT3 he14 hrm1 hra1
    generalize tl2 ++ (T1, TO) :: (tl1 ++ (d1, dictO es14 ep14) :: tl') = TL at *
    clear hf15 ltT1 hf12 ltd1 hTO
    rw [List.cons_append] at N17 hT4 hT2'
    dsimp only
    k_steps
    refine Stop.mk ?_
    refine dict_key1 F17 N17 hbig fun d1 h11 ltd1 hSd1 F11 N11 => ?_
    k_steps
    refine Stop.mk ?_
    refine greatest_ok (dp := 302) (un := 7) (o := os[i]) K0 F11 KX N11 T0 rfl (hvy.mono fun p hp => .tail _ (.tail _ (List.mem_append_right _ (.tail _ (.tail _ hp))))) h64 (by decide) (by decide) ?_
    rintro r1 tl1 h12 tk12 F12 N12 hf12 ⟨b1, rus1, rk1, rfl, hrm1, hra1⟩
    clear F11 N11
    have hrul : rus1.length ≤ 64 := by
      rw [hra1.length, up_length]
      have := List.length_filter_le (fun k => decide (((os[i].take k).filter fun x => decide (os[i].getD k 0 < x)) = [])) (List.range os[i].length)
      rw [List.length_range] at this
      exact Nat.le_trans this (by omega)
    have ltT1 : ∀ p ∈ (tl1 ++ (d1, dictO #[] 0) :: (I, it) :: (TL ++ (base.objs.size + 1 + 1, oc2) :: (base.objs.size + 1, oM) :: tl)), p.1 < h12.objs.size := fun p hp => Heap.lt_size (N12 p hp).1
    dsimp only
    k_steps
    rename_i h13 F13 N13 _ _ _
    dsimp only at N13
    generalize h12.objs.size = T1 at *
    have hd1T : T1 ≠ d1 := Nat.ne_of_gt (ltT1 (d1, dictO #[] 0) (List.mem_append_right _ (.head _)))
    have hruL : rus1.length = (greatest os[i]).length := by rw [hra1.length, up_length]
    obtain ⟨TO, hTO, N13'⟩ : ∃ TO, TupKeyObj (mixK w) (keyOf (greatest os[i]).length) TO ∧ News base base.objs.size h13 ((T1, TO) :: (tl1 ++ (d1, dictO #[] 0) :: (I, it) :: (TL ++ (base.objs.size + 1 + 1, oc2) :: (base.objs.size + 1, oM) :: tl))) := ⟨_, by rw [← hruL]; exact key_made, N13⟩
    clear N13
    refine store_one (knd := mixK w) (ks := keyOf (greatest os[i]).length) (a := T1) (pre := (T1, TO) :: tl1) (post := (I, it) :: (TL ++ (base.objs.size + 1 + 1, oc2) :: (base.objs.size + 1, oM) :: tl)) F13 N13' ?_ (fun p hp => Nat.ne_of_lt (ltd1 p hp)) (.head _) hTO (show (7 : Nat) < 9900 by decide) ?_
    · intro p hp
      rcases List.mem_cons.mp hp with rfl | hp
      · exact hd1T
      · exact Nat.ne_of_gt (hf12 (d1, dictO #[] 0) (.head _) p hp)
    intro h14 es14 ep14 tk14 F14 N14 he14
    simp only [List.cons_append] at N14
    clear F13 N13'
    dsimp only
    k_steps
    refine Stop.mk ?_
    have hT3 : IsTab w ((T1, TO) :: (tl1 ++ (d1, dictO es14 ep14) :: (I, it) :: (TL ++ (base.objs.size + 1 + 1, oc2) :: (base.objs.size + 1, oM) :: tl))) (.ref d1) [((greatest os[i]).length, 1)] :=
      ⟨d1, es14, ep14, _, rfl, hSd1, .tail _ (List.mem_append_right _ (.head _)), he14, (fun y hy => by rw [List.mem_singleton.mp hy]; exact ⟨_, .head _, hTO⟩), .cons ⟨rfl, _, rfl⟩ .nil⟩
    refine add_ok (dp := 302) (un := 7) K0 F14 KX N14 T0 rfl (hT2'.mono fun p hp => .tail _ (List.mem_append_right _ (.tail _ hp))) hT3 (by have := greatTab_length (os.take i); rw [List.length_take] at this; omega) (by decide) (by decide) ?_
    intro r3 tl3 h15 tk15 F15 N15 hf15 hT5
    clear F14 N14
    have hgrt : addN (greatTab (os.take i)) (greatest os[i]).length = greatTab (os.take (i + 1)) := by
      rw [greatTab, greatTab, List.take_add_one, List.getElem?_eq_getElem hio, List.map_append, List.foldl_append]; rfl
    rw [hgrt] at hT5
    have hsub : ∀ p ∈ (I, it) :: ((tl3 ++ (T1, TO) :: (tl1 ++ (d1, dictO es14 ep14) :: TL)) ++ (base.objs.size + 1 + 1, oc2) :: ((base.objs.size + 1, oM) :: tl)), p ∈ tl3 ++ (T1, TO) :: (tl1 ++ (d1, dictO es14 ep14) :: (I, it) :: (TL ++ (base.objs.size + 1 + 1, oc2) :: (base.objs.size + 1, oM) :: tl)) := fun p hp => by
      simp only [List.mem_cons, List.mem_append] at hp ⊢; grind
    have hsub2 : ∀ p ∈ tl3 ++ (T1, TO) :: (tl1 ++ (d1, dictO es14 ep14) :: (I, it) :: (TL ++ (base.objs.size + 1 + 1, oc2) :: (base.objs.size + 1, oM) :: tl)), p ∈ (I, it) :: ((tl3 ++ (T1, TO) :: (tl1 ++ (d1, dictO es14 ep14) :: TL)) ++ (base.objs.size + 1 + 1, oc2) :: ((base.objs.size + 1, oM) :: tl)) := fun p hp => by
      simp only [List.mem_cons, List.mem_append] at hp ⊢; grind
    have N16 := newsSub N15 hsub
    replace hT5 := hT5.mono hsub2
    replace hT4 := hT4.mono (news' := (I, it) :: ((tl3 ++ (T1, TO) :: (tl1 ++ (d1, dictO es14 ep14) :: TL)) ++ (base.objs.size + 1 + 1, oc2) :: ((base.objs.size + 1, oM) :: tl))) fun p hp => by
      simp only [List.mem_cons, List.mem_append] at hp ⊢; grind
    have hTL3 : ∀ p ∈ tl3 ++ (T1, TO) :: (tl1 ++ (d1, dictO es14 ep14) :: TL), base.objs.size + 1 + 1 < p.1 ∧ p.1 ≠ I := by
      intro p hp
      rcases List.mem_append.mp hp with hp | hp
      · exact ⟨hf15 (base.objs.size + 1 + 1, oc2) (.tail _ (List.mem_append_right _ (.tail _ (.tail _ (List.mem_append_right _ (.head _)))))) p hp, Nat.ne_of_gt (hf15 (I, it) (.tail _ (List.mem_append_right _ (.tail _ (.head _)))) p hp)⟩
      rcases List.mem_cons.mp hp with rfl | hp
      · exact ⟨ltT1 (base.objs.size + 1 + 1, oc2) (List.mem_append_right _ (.tail _ (.tail _ (List.mem_append_right _ (.head _))))), Nat.ne_of_gt (ltT1 (I, it) (List.mem_append_right _ (.tail _ (.head _))))⟩
      rcases List.mem_append.mp hp with hp | hp
      · exact ⟨hf12 (base.objs.size + 1 + 1, oc2) (.tail _ (.tail _ (List.mem_append_right _ (.head _)))) p hp, Nat.ne_of_gt (hf12 (I, it) (.tail _ (.head _)) p hp)⟩
      rcases List.mem_cons.mp hp with rfl | hp
      · exact ⟨ltd1 (base.objs.size + 1 + 1, oc2) (.tail _ (List.mem_append_right _ (.head _))), Nat.ne_of_gt (ltd1 (I, it) (.head _))⟩
      · exact hTL p hp
    clear N15 hsub hsub2 hf15 ltT1 hf12 ltd1 hTO hT3 he14 hrm1 hra1 hT2' hTL
    generalize tl3 ++ (T1, TO) :: (tl1 ++ (d1, dictO es14 ep14) :: TL) = TL3 at *
    dsimp only
    k_steps
    rename_i h18 F18 N18
    have hT6 := hT4.drop hit
    have hT7 := hT5.drop hit
    obtain ⟨gr, hgr⟩ : ∃ gr, r3 = .ref gr := by
      obtain ⟨d, es, ep, ys, e, _⟩ := hT7
      exact ⟨d, e⟩
    obtain ⟨rr, hrr⟩ : ∃ rr, r2 = .ref rr := by
      obtain ⟨d, es, ep, ys, e, _⟩ := hT6
      exact ⟨d, e⟩
    subst hgr hrr
    refine ⟨_, _, _, TL3 ++ (base.objs.size + 1 + 1, oc2) :: ((base.objs.size + 1, oM) :: tl), rfl, F18, N18, ?_, ?_, TL3, gr, rr, oc2, rfl, rfl, rfl, rfl, fun p hp => (hTL3 p hp).1, hoc2, hT6, hT7⟩
    · intro q hq
      rw [List.mem_singleton.mp hq]; exact List.mem_append_right _ (.tail _ (.tail _ hom))
    · intro q hq
      rcases List.mem_append.mp hq with hq | hq
      · exact (hTL3 q hq).2
      rcases List.mem_cons.mp hq with rfl | hq
      · exact hoff (base.objs.size + 1 + 1, oc) (List.mem_append_right _ (.head _))
      · exact hoff q (List.mem_append_right _ (.tail _ hq))
  · rintro m₁ nw h tk9 ⟨tl', g, r, oc, hm1, hm2, hm3, rfl, htl', hocd, hT1, hT2⟩ F7 N7
    rw [List.take_of_length_le (by rw [hovl]; exact Nat.le_refl _)] at hT1 hT2
    have F8 := Fr.canon [(Str.ofString "script", .ref ls), (Str.ofString "greatest", .ref g), (Str.ofString "orders", .ref lo)] F7 (by ktr_unf)
    clear F7 F6 N6
    dsimp only
    k_steps
    refine Stop.mk ?_
    refine f_cell N7 rfl rfl rfl (List.mem_append_right _ (.head _)) hocd (by decide) ?_
    k_steps
    refine Stop.mk ?_
    have hF := facts hmn1 hmn4
    rw [hosE] at hF
    obtain ⟨hF1, hF2, hF3, hF4⟩ := hF
    refine f_dne N7 hT1 hT2 hF1 (show (7 : Nat) + 1 < 9900 by decide) ?_
    k_steps
    refine Stop.mk ?_
    refine f_cell N7 rfl rfl rfl (List.mem_append_right _ (.head _)) hocd (by decide) ?_
    k_steps
    refine Stop.mk ?_
    refine count_ok (dp := 302) (un := 7) K0 F8 KX N7 T0 rfl hT1 (by decide) ?_
    intro t20 h20 tk20 F20 N20
    clear F8 N7
    rw [hF2, ← hovl]
    dsimp only
    k_steps
    · rename_i hne
      exact (hne rfl).elim
    refine Stop.mk ?_
    refine comp_open (cl := [(Str.ofString "rings", base.objs.size + 1 + 1), (Str.ofString "many", base.objs.size + 1)]) rfl rfl (by decide) ?_ (fun _ => rfl)
    k_steps
    refine Stop.mk ?_
    rename_i _ _ _ h21 tk21 u1 u2 u3 hR21 F21 N21 hK21
    clear hK21
    have hmn5 : mn = 1 ∨ mn = 2 ∨ mn = 3 ∨ mn = 4 := by omega
    have hsm : Builtin.Range.small 1 (((mn : Nat) : Int) + 1) 1 = true := by rcases hmn5 with rfl | rfl | rfl | rfl <;> decide
    have hsz : Builtin.Range.rangeSize 1 (((mn : Nat) : Int) + 1) 1 = ((mn : Nat) : Int) := by rcases hmn5 with rfl | rfl | rfl | rfl <;> decide
    have hT1c := hT1
    obtain ⟨dr, esr, epr, ysr, hre, hSr, hmr, her, hkr, hkvr⟩ := hT1c
    injection hre with hre
    subst hre
    generalize hG : tl' ++ (base.objs.size + 1 + 1, oc) :: (base.objs.size + 1, oM) :: tl = G at N21 hmr hkr hT1 hT2
    have gR : (base.objs.size + 1 + 1, oc) ∈ G := by rw [← hG]; exact List.mem_append_right _ (.head _)
    have gM : (base.objs.size + 1, oM) ∈ G := by rw [← hG]; exact List.mem_append_right _ (.tail _ (.head _))
    have gO : (lo, listOf ovs.toArray no) ∈ G := by rw [← hG]; exact List.mem_append_right _ (.tail _ (.tail _ hom))
    have gT : ∀ p ∈ tl, p ∈ G := fun p hp => by rw [← hG]; exact List.mem_append_right _ (.tail _ (.tail _ hp))
    refine comp1_range (fun i acc nw => nw = G ∧ acc = []) rfl hR21 hsm hsz (by decide) rfl rfl (by omega) F21 N21 ⟨rfl, rfl⟩ ?_ ?_
    · rintro C D I it oC mC k i t acc nw h tk9 hltD hltI hID hDC hi' ⟨rfl, rfl⟩ hoff hns hmx F22 N22
      clear F21 N21 hR21
      rw [show (1 + (i : Int) * 1) = ((i + 1 : Nat) : Int) by omega] at hmx
      refine wpAny_tests_one ?_
      refine wpAny_isTrue_Compare1 ?_
      refine wpAny_Call_method (T := "dict") (id := "dict.get") rfl rfl rfl F.plainAttrs_dict F.slot_dict_get F.type_dict_get ?_
      refine f_cell N22 rfl rfl rfl (.tail _ (.tail _ (.tail _ gR))) hocd (by decide) ?_
      have hd1 := (N22 (r, dictO esr epr) (.tail _ (.tail _ (.tail _ hmr)))).1
      refine ⟨⟨_, hd1, rfl⟩, fun b e => by injection e with e; subst e; exact ⟨_, hd1, rfl⟩, ?_⟩
      refine Calls.callWith_builtin rfl (Calls.evalArgs_plain ?_)
      refine Calls.spliced_cons ?_
      refine Tuple_ (k := 0) ?_
      refine spliced_more ?_
      refine Calls.Constant_str ?_
      refine spliced_more ?_
      refine f_loc N22 rfl rfl (.tail _ (.head _)) hns hmx (by decide) ?_
      refine spliced_more ?_
      refine Calls.Constant_str ?_
      refine spliced_none ?_
      refine newTuple_N F22 N22 (fun h23 F23 N23 => ?_) (by rw [sizeLine_eq]; simp)
      refine Calls.spliced_cons ?_
      refine wpAny_Constant_int (k := 0) (pos := ⟨0, 0, 0, 0⟩) ?_
      refine Calls.spliced_nil ?_
      refine f_dgetd (k := keyOf (i + 1)) N23 (.tail _ (.tail _ (.tail _ (.tail _ hmr)))) hSr her (hkr.mono fun p hp => .tail _ (.tail _ (.tail _ (.tail _ hp)))) (.head _) key_made (show (7 : Nat) + 1 < 9900 by decide) ?_
      obtain ⟨t30, ht30⟩ := says_get hkvr (i + 1) (tk9 + 1 + 1)
      rw [ht30, hF3 i hi']
      have N24 : News base base.objs.size h23 ((I, it) :: (C, oC) :: (D, listOf [].toArray k) :: nw) := newsSub N23 fun p hp => .tail _ hp
      clear N23 N22 F22
      dsimp only
      refine Call_ ?_
      refine nameG_K (v := .ref 80) F23 KX (topRead_of T0) (by k_is) ?_ rfl rfl rfl (by decide)
      refine callWith_K KX (by k_is) ?_
      refine spliced_more ?_
      refine f_cell N24 rfl rfl rfl (.tail _ (.tail _ (.tail _ gM))) hoM (by decide) ?_
      refine spliced_more ?_
      refine f_loc N24 rfl rfl (.tail _ (.head _)) hns hmx (by decide) ?_
      refine spliced_none ?_
      refine ⟨KX.keeps F23.keep, ?_⟩
      refine ways_ok (dp := 302) (un := 7) mn (i + 1) K0 F23 KX N24 T0 rfl hmn4 (by omega) (by omega) ?_
      intro t31 h31 tk31 F31 N31
      clear F23 N24
      refine ne_int ?_
      refine wpAny_truthy_bool ?_
      rw [bne_self_eq_false]
      dsimp only
      rw [if_neg Bool.false_ne_true]
      exact Stop.mk ⟨_, _, _, rfl, F31, N31, hoff, rfl, rfl⟩
    · rintro D acc k nw h tk9 hltD ⟨rfl, rfl⟩ hoff F22 N22
      clear F21 N21 hR21
      refine List_ ?_
      refine spliced_none ?_
      refine newList_N F22 N22 (fun h23 F23 N23 => ?_) (by simp)
      refine f_ne N23 (.tail _ (.head _)) (.head _) .nil .nil rfl (show (7 : Nat) < 9900 by decide) ?_
      refine wpAny_truthy_bool ?_
      have N24 : News base base.objs.size h23 nw := newsSub N23 fun p hp => .tail _ (.tail _ hp)
      clear N23 N22 F22
      dsimp only
      k_steps
      refine Stop.mk ?_
      have gI : ∀ p ∈ nw, p ∈ nw := fun p hp => hp
      refine comp_open (cl := []) rfl rfl (by decide) ?_ (fun _ => rfl)
      refine nameX_L F23 (v := .ref lo) (by ktr_unf) ?_
      refine comp1_list (l := lo) (vs := ovs) (nn := no) (fun i acc nw2 => ∃ tl2, nw2 = tl2 ++ nw ∧ PairsAre nw2 acc ((os.take i).map told)) rfl gO (by decide) rfl rfl (by omega) F23 N24 ⟨[], rfl, .nil⟩ ?_ ?_
      · rintro C2 D2 I2 it2 oC2 mC2 k2 i v2 acc2 nw2 h6 tk6 hltD2 hltI2 hID2 hDC2 hvi ⟨tl2, rfl, hPA⟩ hlm hoff2 hns2 hmx2 F6 N6
        obtain ⟨ys, hys, hvy⟩ := hoa.get i v2 hvi
        have hio : i < os.length := by
          have := (List.getElem?_eq_some_iff.mp hvi).1
          omega
        have hys' : ys = up os[i] := by
          rw [List.getElem?_map, List.getElem?_eq_getElem hio, Option.map_some] at hys
          exact (Option.some.inj hys).symm
        subst hys'
        have hol' : os[i].length = mn := hol _ (List.getElem_mem hio)
        have h64 : os[i].length ≤ 64 := Nat.le_trans (Nat.le_of_eq hol') (Nat.le_trans hmn4 (by decide))
        have hmem' : ∀ x ∈ os[i], x < os[i].length := fun x hx => by
          have := hoM2 _ (List.getElem_mem hio) x hx
          rw [hol']; exact List.mem_range.mp this
        clear F23 N24
        refine wpAny_tests_nil ?_
        dsimp only
        rw [if_pos rfl]
        refine Tuple_ (k := 0) ?_
        refine spliced_more ?_
        refine Call_ ?_
        refine nameG_B (v := .type "tuple") F6 KX (topRead_of T0) (by k_is) (by decide +kernel) (by decide) ?_ rfl rfl rfl rfl (by decide)
        refine PyProof.Rows.callWith_type1 ?_
        refine spliced_more ?_
        refine Call_ ?_
        refine nameG_K (v := .ref 63) F6 KX (topRead_of T0) (by k_is) ?_ rfl rfl rfl (by decide)
        refine callWith_K KX (by k_is) ?_
        refine spliced_more ?_
        refine f_loc N6 rfl rfl (.tail _ (.head _)) hns2 hmx2 (by decide) ?_
        refine spliced_none ?_
        refine ⟨KX.keeps F6.keep, ?_⟩
        refine told_ok (dp := 302) (un := 7) (o := os[i]) K0 F6 KX N6 T0 rfl (hvy.mono fun p hp => .tail _ (.tail _ (.tail _ (List.mem_append_right _ (gT p hp))))) hmem' h64 (by decide) (by decide) ?_
        rintro r7 tl7 h7 tk7 F7 N7 hf7 ⟨b7, us7, kb7, rfl, hbm7, hbi7⟩
        clear F6 N6
        refine spliced_none ?_
        have hlt7 : us7.length ≤ 16384 := by
          have := told_length_le (o := os[i]) h64
          rw [hbi7.length]; omega
        refine kde_tupleOf F7 N7 (News.isList N7 (List.mem_append_left _ hbm7)) (by rw [List.size_toArray]; exact hlt7) (List.toList_toArray) (fun T8 h8 F8 N8 ltT8 => ?_)
        have ltP : ∀ p ∈ (T8, tupO us7) :: (tl7 ++ (I2, it2) :: (C2, oC2) :: (D2, listOf acc2.toArray k2) :: (tl2 ++ nw)), p.1 < h8.objs.size := fun p hp => Heap.lt_size (N8 p hp).1
        clear F7 N7
        refine spliced_more ?_
        refine wpAny_Constant_int (k := 0) (pos := ⟨91, 43, 91, 44⟩) ?_
        refine spliced_none ?_
        refine newTuple_N F8 N8 (fun h9 F9 N9 => ?_) (by rw [sizeLine_eq]; simp)
        dsimp only at N9 ⊢
        generalize h8.objs.size = P9 at *
        have hfr : ∀ p ∈ (P9, tupO [.ref T8, .int 1 tk7]) :: (T8, tupO us7) :: tl7, p.1 ≠ I2 ∧ p.1 ≠ C2 ∧ p.1 ≠ D2 := by
          have m1 : (I2, it2) ∈ tl7 ++ (I2, it2) :: (C2, oC2) :: (D2, listOf acc2.toArray k2) :: (tl2 ++ nw) := List.mem_append_right _ (.head _)
          have m2 : (C2, oC2) ∈ tl7 ++ (I2, it2) :: (C2, oC2) :: (D2, listOf acc2.toArray k2) :: (tl2 ++ nw) := List.mem_append_right _ (.tail _ (.head _))
          have m3 : (D2, listOf acc2.toArray k2) ∈ tl7 ++ (I2, it2) :: (C2, oC2) :: (D2, listOf acc2.toArray k2) :: (tl2 ++ nw) := List.mem_append_right _ (.tail _ (.tail _ (.head _)))
          intro p hp
          rcases List.mem_cons.mp hp with rfl | hp
          · exact ⟨Nat.ne_of_gt (ltP _ (.tail _ m1)), Nat.ne_of_gt (ltP _ (.tail _ m2)), Nat.ne_of_gt (ltP _ (.tail _ m3))⟩
          rcases List.mem_cons.mp hp with rfl | hp
          · exact ⟨Nat.ne_of_gt (ltT8 _ m1), Nat.ne_of_gt (ltT8 _ m2), Nat.ne_of_gt (ltT8 _ m3)⟩
          · exact ⟨Nat.ne_of_gt (hf7 _ (.head _) p hp), Nat.ne_of_gt (hf7 _ (.tail _ (.head _)) p hp), Nat.ne_of_gt (hf7 _ (.tail _ (.tail _ (.head _))) p hp)⟩
        have N10 : News base base.objs.size h9 ((I2, it2) :: (C2, oC2) :: (D2, listOf acc2.toArray k2) :: (((P9, tupO [.ref T8, .int 1 tk7]) :: (T8, tupO us7) :: tl7) ++ (tl2 ++ nw))) := newsSub N9 fun p hp => by
          simp only [List.mem_cons, List.mem_append] at hp ⊢; grind
        refine Stop.mk ⟨_, _, _, rfl, F9, N10, List.mem_append_right _ hlm, ?_, ((P9, tupO [.ref T8, .int 1 tk7]) :: (T8, tupO us7) :: tl7) ++ tl2, by rw [List.append_assoc], ?_⟩
        · intro q hq
          rcases List.mem_append.mp hq with hq | hq
          · exact hfr q hq
          · exact hoff2 q hq
        · rw [List.take_add_one, List.getElem?_eq_getElem hio, List.map_append]
          exact (hPA.mono fun p hp => List.mem_append_right _ hp).append (.cons (.head _) (.tail _ (.head _)) hbi7 .nil)
      · rintro D2 acc2 k2 nw2 h6 tk6 hltD2 ⟨tl2, rfl, hPA⟩ hoff2 F6 N6
        rw [List.take_of_length_le (by rw [hovl]; exact Nat.le_refl _)] at hPA
        clear F23 N24
        dsimp only
        refine spliced_none ?_
        have hal : acc2.length ≤ 256 := by rw [hPA.length, List.length_map]; omega
        refine dict_pairs F6 N6 (.head _) (hPA.mono fun p hp => .tail _ hp) hF4 (by omega) rfl (show (7 : Nat) + 6 < 9900 by decide) ?_
        intro d40 h40 tk40 es40 ep40 ltd40 F40 N40 hsz40
        clear F6 N6
        rw [List.length_map] at hsz40
        refine spliced_none ?_
        refine raw_len ?_ (N40 _ (.head _)).1 (by omega) ?_
        · refine beq_eq_false_iff_ne.mpr fun e => ?_
          have h1 := ltd40 (lo, listOf ovs.toArray no) (.tail _ (List.mem_append_right _ gO))
          have h2 := hgt _ hom
          rw [e] at h1
          exact absurd (Nat.lt_trans hbig (Nat.lt_trans (Nat.lt_succ_of_lt (Nat.lt_succ_self _)) (Nat.lt_trans h2 h1))) (Nat.lt_irrefl _)
        rw [hsz40, ← hovl]
        have N41 : News base base.objs.size h40 nw := newsSub N40 fun p hp => .tail _ (.tail _ (List.mem_append_right _ hp))
        clear N40
        dsimp only
        k_steps
        · rename_i hne
          exact (hne rfl).elim
        refine Stop.mk ?_
        rename_i D50 vs50 c50 _ _ lt50 hI50 d50 _ lt51 _ _ _ _ _ _ h50 F50 N50
        have hn8 : (rangeKs 0 ((if (ns.length : Int) < 8 then (ns.length : Int) else 8) - 0).toNat) = up (List.range (min 8 ns.length)) := by
          have : ((if (ns.length : Int) < 8 then (ns.length : Int) else 8) - 0).toNat = min 8 ns.length := by split <;> omega
          rw [this, rangeKs_up]
        rw [hn8] at hI50
        have N51 : News base base.objs.size h50 ((d50, listOf [].toArray 0) :: (D50, listOf vs50.toArray c50) :: nw) := newsSub N50 fun p hp => .tail _ hp
        obtain ⟨bm5, F51⟩ := Fr.canonE [(Str.ofString "script", .ref ls), (Str.ofString "left", .ref D50), (Str.ofString "drawn", .ref d50)] F50 (by ktr_unf)
        clear F50 N50 hn8
        refine for_open ?_ (fun x => rfl)
        k_steps
        refine Stop.mk ?_
        rename_i h60 F60 N60
        have hI60 : IntsAre (slicePick lvs.toArray none (some 8) none).toList (ns.take 8) := slice_ints_uptoW hI (by decide)
        have N61 : News base base.objs.size h60 ((h50.objs.size + 1, listOf (slicePick lvs.toArray none (some 8) none).toList.toArray 0) :: (d50, listOf [].toArray 0) :: (D50, listOf vs50.toArray c50) :: nw) := N60
        clear N60
        generalize (slicePick lvs.toArray none (some 8) none).toList = sv at hI60 N61
        obtain ⟨S60, hS60⟩ : ∃ S60, h50.objs.size + 1 = S60 := ⟨_, rfl⟩
        have lt60 : ∀ p ∈ (d50, listOf [].toArray 0) :: (D50, listOf vs50.toArray c50) :: nw, p.1 < S60 := fun p hp => by
          rw [← hS60]; exact Nat.lt_succ_of_lt (Heap.lt_size (N51 p hp).1)
        dsimp only
        rw [hS60] at N61 ⊢
        have hx8 : (ns.take 8).length ≤ min 8 ns.length := by rw [List.length_take]; exact Nat.le_refl _
        have hdr := draw_inv hx8
        refine for_list (l := S60) (vs := sv) (nn := 0) (fun i m nw' => ∃ vD kd vL kl, m (Str.ofString "left") = some (.ref D50) ∧ m (Str.ofString "drawn") = some (.ref d50) ∧
          nw' = (S60, listOf sv.toArray 0) :: (d50, listOf vD.toArray kd) :: (D50, listOf vL.toArray kl) :: nw ∧ IntsAre vL (up (draw ((ns.take 8).take i) (List.range (min 8 ns.length), [])).1) ∧ IntsAre vD (up (draw ((ns.take 8).take i) (List.range (min 8 ns.length), [])).2))
          rfl (.head _) F60 N61 ⟨[], 0, vs50, c50, rfl, rfl, rfl, ?_, ?_⟩ (fun _ _ => rfl) ?_ ?_
        · rw [List.take_zero]; exact hI50
        · rw [List.take_zero]; exact .nil
        · rintro I i v m6 nw6 h tk6 it hit hltI hvi ⟨vD, kd, vL, kl, hm4, hm5, rfl, hiL, hiD⟩ hlm hoff6 F62 N62
          clear F60 N61
          have hi8 : i < (ns.take 8).length := by
            have := (List.getElem?_eq_some_iff.mp hvi).1
            rw [← hI60.length]; exact this
          obtain ⟨t6, e6⟩ := hI60.get i (ns.take 8)[i] (List.getElem?_eq_getElem hi8)
          have hv6 : v = .int (ns.take 8)[i] t6 := by rw [e6] at hvi; exact (Option.some.inj hvi).symm
          subst hv6
          obtain ⟨hd1, hd2, hd3⟩ := hdr i (Nat.le_of_lt hi8)
          rw [draw_succ hi8]
          generalize (ns.take 8)[i] = x at *
          generalize draw ((ns.take 8).take i) (List.range (min 8 ns.length), []) = st at *
          have hlL : vL.length = st.1.length := by rw [hiL.length, up_length]
          have hlD : vD.length = st.2.length := by rw [hiD.length, up_length]
          have hpos : 0 < vL.length := by
            rw [hlL]; exact pos8 hd2 hi8 hx8
          have h24 : vL.length ≤ 16777216 := by
            rw [hlL]; exact low8 hd2
          have hD24 : vD.length ≤ 16777216 := by
            rw [hlD, hd3]; exact low8' hd2
          refine wpAny_assign_Name ?_
          obtain ⟨bm6, F63⟩ := Fr.canonE [(Str.ofString "left", .ref D50), (Str.ofString "drawn", .ref d50)] F62 (by ktr_unf)
          clear F62
          k_steps
          refine Stop.mk ?_
          rename_i h63 F64 N63
          obtain ⟨k6, ek6, hk6⟩ := fmod_lt x hpos
          rw [ek6]
          have hk7 : k6 < st.1.length := hlL ▸ hk6
          obtain ⟨t7, e7⟩ := hiL.get k6 ((st.1[k6] : Nat) : Int) (by simp only [up, List.getElem?_map, List.getElem?_eq_getElem hk7, Option.map_some])
          have hds : drawStep st x = (st.1.eraseIdx k6, st.2 ++ [st.1[k6]]) := by
            rw [drawStep, ← hlL, ek6, Int.toNat_natCast, List.getD_eq_getElem?_getD, List.getElem?_eq_getElem hk7]; rfl
          have hD5 : D50 ≠ d50 := Nat.ne_of_lt lt51.1
          have hnD : ∀ p ∈ nw, p.1 ≠ D50 := fun p hp => Nat.ne_of_lt (lt50 p hp)
          have hnd : ∀ p ∈ nw, p.1 ≠ d50 := fun p hp => Nat.ne_of_lt (Nat.lt_trans (lt50 p hp) lt51.1)
          have hI1 : I ≠ d50 := Nat.ne_of_gt (hltI (d50, listOf [].toArray 0) (.tail _ (.head _)))
          have hI2 : I ≠ D50 := Nat.ne_of_gt (hltI (D50, listOf vs50.toArray c50) (.tail _ (.tail _ (.head _))))
          have hS1 : S60 ≠ d50 := Nat.ne_of_gt (lt60 (d50, listOf [].toArray 0) (.head _))
          have hS2 : S60 ≠ D50 := Nat.ne_of_gt (lt60 (D50, listOf vs50.toArray c50) (.tail _ (.head _)))
          refine f_pop (D := D50) (vs := vL) (n := kl) (k := k6) (pre := [(I, it), (S60, listOf sv.toArray 0), (d50, listOf vD.toArray kd)]) (post := nw) F64 N63 ?_ hnD e7 h24 ?_
          · intro p hp
            simp only [List.mem_cons, List.not_mem_nil, or_false] at hp
            rcases hp with rfl | rfl | rfl
            · exact hI2
            · exact hS2
            · exact hD5.symm
          intro h65 F65 N65
          clear F64 N63
          dsimp only
          k_steps
          refine Stop.mk ?_
          have N67 : News base base.objs.size h65 ([(I, it), (S60, listOf sv.toArray 0)] ++ (d50, listOf vD.toArray kd) :: ((D50, listOf (vL.eraseIdx k6).toArray (kl + 1)) :: nw)) := newsSub N65 fun p hp => hp
          clear N65
          refine f_append (D := d50) (pre := [(I, it), (S60, listOf sv.toArray 0)]) (post := (D50, listOf (vL.eraseIdx k6).toArray (kl + 1)) :: nw) F65 N67 ?_ ?_ (by rw [List.size_toArray]; exact hD24) ?_
          · intro p hp
            simp only [List.mem_cons, List.not_mem_nil, or_false] at hp
            rcases hp with rfl | rfl
            · exact hI1
            · exact hS1
          · intro p hp
            rcases List.mem_cons.mp hp with rfl | hp
            · exact hD5
            · exact hnd p hp
          intro h67 F67 N68
          clear F65 N67
          rw [List.push_toArray] at N68
          dsimp only
          k_steps
          refine ⟨_, _, _, (S60, listOf sv.toArray 0) :: (d50, listOf (vD ++ [Value.int ((st.1[k6] : Nat) : Int) t7]).toArray (kd + 1)) :: (D50, listOf (vL.eraseIdx k6).toArray (kl + 1)) :: nw, rfl, F67, N68, ?_, ?_, vD ++ [Value.int ((st.1[k6] : Nat) : Int) t7], kd + 1, vL.eraseIdx k6, kl + 1, rfl, rfl, rfl, ?_, ?_⟩
          · intro q hq
            rw [List.mem_singleton.mp hq]; exact .head _
          · intro q hq
            simp only [List.mem_cons] at hq
            rcases hq with rfl | rfl | rfl | hq
            · exact hoff6 (S60, listOf sv.toArray 0) (.head _)
            · exact hI1.symm
            · exact hI2.symm
            · exact hoff6 q (.tail _ (.tail _ (.tail _ hq)))
          · rw [hds]
            exact ints_erase hiL k6
          · rw [hds]
            show IntsAre _ (up (st.2 ++ [st.1[k6]]))
            rw [up_append]
            exact hiD.append (.cons _ _ .nil)
        · rintro m6 nw6 h tk6 ⟨vD, kd, vL, kl, hm4, hm5, rfl, -, hiD⟩ F62 N62
          clear F60 N61
          have hsl : sv.length = (ns.take 8).length := hI60.length
          obtain ⟨hd1, hd2, hd3⟩ := hdr (ns.take 8).length (Nat.le_refl _)
          rw [hsl] at hiD
          generalize draw ((ns.take 8).take (ns.take 8).length) (List.range (min 8 ns.length), []) = st at *
          have hst0 : st.1 = [] := List.length_eq_zero_iff.mp (by rw [List.length_take] at hd2; omega)
          rw [hst0, List.append_nil] at hd1
          have hol8 : st.2.length = min 8 ns.length := by rw [hd1.length_eq, List.length_range]
          have hord : Order st.2 := by
            rw [Order, hol8]; exact hd1
          clear hdr hd2 hd3 hst0 hd1
          generalize st.2 = o at *
          clear hsl
          have hlD : vD.length = o.length := by rw [hiD.length, up_length]
          have ho8 : o.length ≤ 8 := by rw [hol8]; exact Nat.min_le_left _ _
          have htp := toldN_perm hord
          have htl : (toldN o).length = o.length := by rw [htp.length_eq, List.length_range]
          have ho64 : o.length ≤ 64 := Nat.le_trans ho8 (by decide)
          have ht64 : (toldN o).length ≤ 64 := Nat.le_trans (Nat.le_of_eq htl) ho64
          have htlt : ∀ x ∈ toldN o, x < (toldN o).length := fun x hx => by
            rw [htl]; exact List.mem_range.mp (htp.mem_iff.mp hx)
          obtain ⟨bm6, F63⟩ := Fr.canonE [(Str.ofString "drawn", .ref d50)] F62 (by ktr_unf)
          clear F62
          obtain ⟨nx, hnx, hdx⟩ : ∃ nx, (S60, listOf sv.toArray 0) :: (d50, listOf vD.toArray kd) :: (D50, listOf vL.toArray kl) :: nw = nx ∧ (d50, listOf vD.toArray kd) ∈ nx := ⟨_, rfl, .tail _ (.head _)⟩
          rw [hnx] at N62
          clear hnx
          dsimp only
          k_steps
          refine Stop.mk ?_
          refine told_ok (dp := 302) (un := 7) (o := o) K0 F63 KX N62 T0 rfl ⟨d50, vD, kd, rfl, hdx, hiD⟩ hord.lt ho64 (by decide) (by decide) ?_
          rintro r7 tl7 h7 tk7 F7 N7 hf7 ⟨b7, us7, kb7, rfl, hbm7, hbi7⟩
          clear F63 N62
          rw [told_is hord] at hbi7
          have htm : (b7, listOf us7.toArray kb7) ∈ tl7 ++ nx := List.mem_append_left _ hbm7
          have hdm : (d50, listOf vD.toArray kd) ∈ tl7 ++ nx := List.mem_append_right _ hdx
          generalize tl7 ++ nx = ny at N7 htm hdm
          clear hbm7 hdx hf7
          dsimp only
          k_steps
          refine Stop.mk ?_
          rename_i h8 F8 N8
          obtain ⟨bm8, F9⟩ := Fr.canonE [(Str.ofString "drawn", .ref d50), (Str.ofString "told", .ref b7)] F8 (by ktr_unf)
          clear F8
          refine kso_sorted F9 N8 (News.isList N8 htm) hbi7 (by rw [up_length, htl]; omega) ?_
          intro D9 vs9 ns9 c9 h9 F10 N9 lt9 hi9 _ hp9 hs9 _
          clear F9
          dsimp only
          k_steps
          refine Stop.mk ?_
          refine kso_sorted F10 N9 (News.isList N9 (.tail _ hdm)) hiD (by rw [up_length]; omega) ?_
          intro D10 vs10 ns10 c10 h10 F11 N10 lt10 hi10 _ hp10 hs10 _
          clear F10
          have hpd : (up (toldN o)).Perm (up o) := (htp.trans hord.symm).map _
          have hse : ns9 = ns10 := List.Perm.eq_of_pairwise (le := fun a b : Int => a ≤ b) (fun a b _ _ h1 h2 => Int.le_antisymm h1 h2) hs9 hs10 ((hp9.trans hpd).trans hp10.symm)
          dsimp only
          k_steps
          refine Stop.mk ?_
          refine f_eq N10 (.tail _ (.head _)) (.head _) hi9 hi10 (show (7 : Nat) < 9900 by decide) ?_
          rw [decide_eq_true hse]
          have N11 : News base base.objs.size h10 ny := newsSub N10 fun p hp => .tail _ (.tail _ hp)
          clear N9 N10
          k_steps
          refine Stop.mk ?_
          refine greatest_ok (dp := 302) (un := 7) (o := toldN o) K0 F11 KX N11 T0 rfl ⟨b7, us7, kb7, rfl, htm, hbi7⟩ ht64 (by decide) (by decide) ?_
          rintro r12 tl12 h12 tk12 F12 N12 hf12 ⟨b12, us12, k12, rfl, hm12, hi12⟩
          clear F11 N11 hf12
          have hgm := greatest_many hord
          have hrs := (rings_small (o := o) ho64).1
          have hl12 : us12.length = (rings o).length := by rw [hi12.length, up_length, hgm]
          dsimp only
          k_steps
          refine Stop.mk ?_
          have N13 : News base base.objs.size h12 ny := newsSub N12 fun p hp => List.mem_append_right _ hp
          clear N12
          refine rings_ok (dp := 302) (un := 7) (o := o) K0 F12 KX N13 T0 rfl ⟨d50, vD, kd, rfl, hdm, hiD⟩ hord.lt ho64 (by decide) (by decide) ?_
          rintro r13 tl13 h13 tk13 F13 N14 hf13 ⟨b13, us13, k13, rfl, hm13, ha13⟩
          clear F12 N13 hf13
          have hl13 : us13.length = (rings o).length := by rw [ha13.length, List.length_map]
          dsimp only
          k_steps
          refine Stop.mk ?_
          refine PyProof.Rows.eq_int ?_
          rw [hl12, hl13, beq_self_eq_true]
          have N15 : News base base.objs.size h13 ny := newsSub N14 fun p hp => List.mem_append_right _ hp
          clear N14
          k_steps
          refine Stop.mk ?_
          refine back_ok (dp := 302) (un := 7) (o := toldN o) K0 F13 KX N15 T0 rfl ⟨b7, us7, kb7, rfl, htm, hbi7⟩ htlt ht64 (by decide) (by decide) ?_
          rintro r16 tl16 h16 tk16 F16 N16 hf16 ⟨b16, us16, k16, rfl, hm16, hi16⟩
          clear F13 N15 hf16
          rw [back_is hord] at hi16
          dsimp only
          k_steps
          refine Stop.mk ?_
          refine f_eq N16 (List.mem_append_left _ hm16) (List.mem_append_right _ hdm) hi16 hiD (show (7 : Nat) < 9900 by decide) ?_
          rw [decide_eq_true rfl]
          k_steps
          subst hb
          refine goodW_bool F16 hg ?_ ?_
          · exact raisesW_false (by wrow_none_raised)
          · exact post_ok _
end
end Foata
end
set_option maxRecDepth 100000 in
set_option maxHeartbeats 8000000 in
theorem PySem.Challenge.cw_gh0002_01_holds : PySem.Challenge.rw_gh0002_01.Holds :=
  Foata.walk_holds
