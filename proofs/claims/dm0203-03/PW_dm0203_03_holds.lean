import PyProof.Rows.All
import Wide.All
import OpenK.AllK
import Wide.FinOn
import Lean
import PySem.Challenge.RW_dm0203_03
open PySem PySem.W PyProof.Rows PySem.Spec PySem.Calls
set_option Elab.async false
set_option maxRecDepth 100000
namespace Mine
set_option maxHeartbeats 8000000 in
open_top hd for PySem.Challenge.rw_dm0203_03
end Mine
section
namespace Mine

section
variable {prog : Program} {w : World} {A A₀ : Around} {E : Value → Shared → Prop} {s : Shared} {K : Frag} {L : Addr} {h₀ base : Heap} {m mg mb : Str → Option Value} {news : List (Addr × Obj)} {p : Program} {loose : List Str} {mean : ExcName → Option Value}

/-- entering a def of the top: all that the call's ledger does not name is kept, and the end knows it -/
theorem enter {env : Env} {outer : List Env} {R : Result → Shared → Prop} {name qual : Str} {params : Arguments} {body : List Stmt} {scope : Scope} {dV kV doc pm cdv ct oc : Value} {an od : Option Addr} {osl : Array (Option Value)} {f : Addr} {args : Args} {binds : List (Str × Value)}
    (B : Below A₀ base outer h₀) (F : Fr h₀ L s.heap m) (X₀ : K.In h₀) (N : News h₀ L s.heap news) (T : Top p loose mean mg mb h₀) (hA : A.frames = some (env :: outer)) (hf : env.frame = some L) (hke : env.scope.kind = .function)
    (ho : K.lookup f = some ⟨oc, od, .func (fnOf name qual params body scope dV kV doc pm an cdv ct), osl⟩) (hcd : codeIn K cdv qual = true) (hroom : A.depth < recursionLimit)
    (hbind : BindsTo s (fnOf name qual params body scope dV kV doc pm an cdv ct) args binds) (hloc : ∀ y ∈ binds, scope.names.lookup y.1 = some .local)
    (h : ∀ g L' h₁, (∀ b o, s.heap.get? b = some o → b ∉ news.map (·.1) → g.get? b = some o) → Fr h₀ L g m → Fr g L' h₁ (fun y => binds.reverse.lookup y) → News g L' h₁ news → Below A base (env :: outer) g → K.In g → Top p loose mean mg mb g → (∀ q ∈ news, q.1 < L') →
      wpAny (model prog w) (A.deeper (envOf qual scope L' f cdv)) (execs body (envOf qual scope L' f cdv))
        (fun fl s' => LeaveK h₀ L m g (fun r s'' => (∀ b o, g.get? b = some o → s''.heap.get? b = some o) → R r s'') (match fl with | .ret v => v | _ => .none) s')
        (fun e s' => wpAny (model prog w) (A.deeper (envOf qual scope L' f cdv)) (leaving (envOf qual scope L' f cdv) e) (fun _ s'' => R (.error e) s'') (fun e' s'' => R (.error e') s'') s')
        { s with heap := h₁, toks := s.toks + binds.length })
    (hco : scope.isCoroutine = false) (hgen : scope.isGenerator = false) (hk : scope.kind = .function)
    (hcell : ∀ x ∈ scope.names, x.2 ≠ .cell) : codeAny (model prog w) A (.call (.ref f) args) R s := by
  obtain ⟨FG, BG, st, lv⟩ := groundX (R := fun r s'' => (∀ b o, (hideAll s.heap (news.map (·.1))).get? b = some o → s''.heap.get? b = some o) → R r s'') B F N hA hf hke
  refine codeAny_call_def (fd := fnOf name qual params body scope dV kV doc pm an cdv ct) (body := body) (binds := binds) hroom ((X₀.keeps F.keep) _ _ ho) rfl (T.nolimit.keeps F.keep) (codeRec_of (X₀.keeps F.keep) hcd) rfl hbind hcell hloc (fun h₁ hns hk₁ => ?_) hco hgen hk
  refine wpAny_mono (h _ s.heap.objs.size h₁ (fun b o e n => hideAll_get _ e n) FG ⟨hns, fun b o e => hk₁ b o (of_hideAll _ e), Nat.le_of_eq (hideAll_size _ _)⟩
    (fun q hq => ⟨hk₁ _ _ (N q hq).1, Nat.ne_of_lt (Heap.lt_size (N q hq).1), hideAll_none _ (List.mem_map_of_mem hq)⟩) BG (X₀.keeps st) (T.keeps st) (fun q hq => Heap.lt_size (N q hq).1)) (fun fl s' hl => ?_) fun _ _ y => y
  have hl' := hl
  obtain ⟨L', m', news', F', N', k⟩ := hl'
  exact lv _ _ hl F'.keep
end

/-- what a call hands back to its caller: the caller's frame, all that stood, and what is new -/
def Back (h₀ : Heap) (L : Addr) (m : Str → Option Value) (s : Shared) (Q : Value → Shared → Prop) (Out : List (Addr × Obj) → Value → Prop) : Prop :=
  ∀ (r : Value) (tl : List (Addr × Obj)) (h' : Heap) (tk' : Nat), Fr h₀ L h' m → (∀ b o, s.heap.get? b = some o → h'.get? b = some o) →
    (∀ q ∈ tl, h'.get? q.1 = some q.2 ∧ s.heap.get? q.1 = none) → Out tl r → Q r { s with heap := h', toks := tk' }

/-- a call of a def of the top, from any frame: under Pre (of the caller's heap) it answers by Out -/
def Gives (prog : Program) (w : World) (K : Frag) (p : Program) (loose : List Str) (f : Addr) (vs : List Value) (Pre : Heap → Prop) (Out : List (Addr × Obj) → Value → Prop) : Prop :=
  ∀ (mean : ExcName → Option Value) (mg mb : Str → Option Value) (dp un : Nat) (gd : Option (List Code)) (cn : Str) (cs : Scope) (a : Addr) (ccd : Value) (cl : List (Str × Addr)) (outer : List Env) (A₀ : Around) (base h₀ : Heap) (L : Addr) (m : Str → Option Value) (s : Shared) (Q E : Value → Shared → Prop),
    Below A₀ base outer h₀ → Fr h₀ L s.heap m → K.In h₀ → Top p loose mean mg mb h₀ → cs.kind = .function → Pre s.heap → dp + 2 < recursionLimit → un + 16 < cLine → Back h₀ L m s Q Out →
      wpAny (model prog w) (ktrTop dp un gd cn cs L a ccd cl outer) (call (.ref f) vs) Q E s

theorem back_news {h₀ h' : Heap} {L : Addr} {m : Str → Option Value} {s : Shared} {news tl : List (Addr × Obj)} (F : Fr h₀ L s.heap m) (N : News h₀ L s.heap news)
    (hk : ∀ b o, s.heap.get? b = some o → h'.get? b = some o) (ht : ∀ q ∈ tl, h'.get? q.1 = some q.2 ∧ s.heap.get? q.1 = none) : News h₀ L h' (tl ++ news) := by
  intro q hq
  rcases List.mem_append.mp hq with hq | hq
  · refine ⟨(ht q hq).1, fun e => ?_, ?_⟩
    · obtain ⟨oL, _, _, hL, _⟩ := F.ns
      have := (ht q hq).2
      rw [e, hL] at this
      cases this
    · cases e : h₀.get? q.1 with
      | none => rfl
      | some o =>
        have := (ht q hq).2
        rw [F.keep _ _ e] at this
        cases this
  · exact ⟨hk _ _ (N q hq).1, (N q hq).2⟩
theorem back_off {h₀ h' : Heap} {L : Addr} {s : Shared} {news tl : List (Addr × Obj)} (N : News h₀ L s.heap news)
    (ht : ∀ q ∈ tl, h'.get? q.1 = some q.2 ∧ s.heap.get? q.1 = none) : ∀ q ∈ tl, ∀ r ∈ news, r.1 ≠ q.1 := by
  intro q hq r hr e
  have := (ht q hq).2
  rw [← e, (N r hr).1] at this
  cases this

/-- what holds between a loop's turns: the ledger and the frame by a datum c, and P of it -/
def Stt {σ : Type} (Led : σ → List (Addr × Obj)) (ps : σ → List (Str × Value)) (x : Str) (stored : List Str) (m₀ : Str → Option Value) (P : Nat → σ → Prop) (i : Nat) (m : Str → Option Value) (nx : List (Addr × Obj)) : Prop :=
  ∃ c : σ, nx = Led c ∧ (∀ q ∈ ps c, m q.1 = some q.2) ∧ (∀ z, z ≠ x → (∀ q ∈ ps c, z ≠ q.1) → stored.contains z = false → m z = m₀ z) ∧ P i c

section
variable {prog : Program} {w : World} {A : Around} {E : Value → Shared → Prop} {s : Shared} {env : Env} {h₀ : Heap} {x : Str} {body : List Stmt} {Q : Flow → Shared → Prop}

theorem loop_list {σ : Type} {l : Addr} {vs : List Value} {nn : Nat} {m₀ : Str → Option Value} (Led : σ → List (Addr × Obj)) (ps : σ → List (Str × Value)) (stored : List Str) (P : Nat → σ → Prop) (c₀ : σ)
    (hh : A.handled = none) (hl : ∀ c, (l, listOf vs.toArray nn) ∈ Led c) (F : Fr h₀ env.locals s.heap m₀) (N : News h₀ env.locals s.heap (Led c₀)) (hk : ∀ q ∈ ps c₀, m₀ q.1 = some q.2) (hp : P 0 c₀)
    (turn : ∀ (c : σ) (i : Nat) (v : Value) (u : Str → Option Value) (h : Heap) (tk : Nat) (own : List (Addr × Obj)), vs[i]? = some v → OwnOff own ((Led c).map (·.1)) → P i c →
      Fr h₀ env.locals h (fun y => if y = x then some v else kstB (fun z => if stored.contains z then u z else m₀ z) (ps c) y) → News h₀ env.locals h (Led c ++ own) →
      wpAny (model prog w) A (execs body env) (InvPostG h₀ env.locals (fun m' nx => (l, listOf vs.toArray nn) ∈ nx ∧ Stt Led ps x stored m₀ P (i + 1) m' nx) own { s with heap := h, toks := tk } Q) E { s with heap := h, toks := tk })
    (done : ∀ (c : σ) (u : Str → Option Value) (h : Heap) (tk : Nat), P vs.length c → Fr h₀ env.locals h (fun y => if y = x then u y else kstB (fun z => if stored.contains z then u z else m₀ z) (ps c) y) → News h₀ env.locals h (Led c) → Q .next { s with heap := h, toks := tk }) :
    wpAny (model prog w) A (pyIter (.ref l)) (fun it s₂ => LoopAtV prog w A h₀ env x body Q E it s₂) E s := by
  refine kdl_iter (fun i m nx => Stt Led ps x stored m₀ P i m nx) hh (hl c₀) F N ⟨c₀, rfl, hk, fun _ _ _ _ => rfl, hp⟩ ?_ ?_
  · rintro i v m₁ nx h tk own hv hoff _ ⟨c, rfl, h1, h2, hp'⟩ F₁ N₁
    exact turn c i v m₁ h tk own hv hoff hp' (kst_fr h1 h2 F₁) N₁
  · rintro m₁ nx h tk ⟨c, rfl, h1, h2, hp'⟩ F₁ N₁
    exact done c m₁ h tk hp' (kst_frOut h1 h2 F₁) N₁

theorem loop_end {σ : Type} {l : Addr} {vs : List Value} {nn : Nat} {m₀ : Str → Option Value} {Led : σ → List (Addr × Obj)} {ps : σ → List (Str × Value)} {stored : List Str} {P : Nat → σ → Prop} {i : Nat} (c : σ) {L : Addr} {m' : Str → Option Value} {own news' : List (Addr × Obj)} {s₁ : Shared} {h' : Heap} {tk : Nat}
    (F : Fr h₀ L h' m') (N : News h₀ L h' news') (hl : (l, listOf vs.toArray nn) ∈ Led c) (hn : ∀ q ∈ Led c, q ∈ news') (ho : ∀ q ∈ own, q ∈ news') (ha : OwnOff own ((Led c).map (·.1)))
    (hk : ∀ q ∈ ps c, m' q.1 = some q.2) (hr : ∀ z, z ≠ x → (∀ q ∈ ps c, z ≠ q.1) → stored.contains z = false → m' z = m₀ z) (hp : P i c) :
    InvEndG h₀ L (fun m' nx => (l, listOf vs.toArray nn) ∈ nx ∧ Stt Led ps x stored m₀ P i m' nx) own s₁ { s₁ with heap := h', toks := tk } :=
  InvEndG.intro F N ⟨hl, c, rfl, hk, hr, hp⟩ ha hn ho

theorem loop_range {σ : Type} {r : Addr} {a₀ b₀ : Int} {t₀ u₀ v₀ : Tok} {n : Nat} {m₀ : Str → Option Value} (Led : σ → List (Addr × Obj)) (ps : σ → List (Str × Value)) (stored : List Str) (P : Nat → σ → Prop) (c₀ : σ)
    (hh : A.handled = none) (hr : IsRange s.heap r a₀ b₀ 1 t₀ u₀ v₀) (hsmall : Builtin.Range.small a₀ b₀ 1 = true) (hsz : Builtin.Range.rangeSize a₀ b₀ 1 = (n : Int)) (F : Fr h₀ env.locals s.heap m₀) (N : News h₀ env.locals s.heap (Led c₀)) (hk : ∀ q ∈ ps c₀, m₀ q.1 = some q.2) (hp : P 0 c₀)
    (turn : ∀ (c : σ) (i : Nat) (t : Tok) (u : Str → Option Value) (h : Heap) (tk : Nat) (own : List (Addr × Obj)), i < n → OwnOff own ((Led c).map (·.1)) → P i c →
      Fr h₀ env.locals h (fun y => if y = x then some (.int (a₀ + (i : Int)) t) else kstB (fun z => if stored.contains z then u z else m₀ z) (ps c) y) → News h₀ env.locals h (Led c ++ own) →
      wpAny (model prog w) A (execs body env) (InvPostG h₀ env.locals (Stt Led ps x stored m₀ P (i + 1)) own { s with heap := h, toks := tk } Q) E { s with heap := h, toks := tk })
    (done : ∀ (c : σ) (u : Str → Option Value) (h : Heap) (tk : Nat), P n c → Fr h₀ env.locals h (fun y => if y = x then u y else kstB (fun z => if stored.contains z then u z else m₀ z) (ps c) y) → News h₀ env.locals h (Led c) → Q .next { s with heap := h, toks := tk }) :
    wpAny (model prog w) A (pyIter (.ref r)) (fun it s₂ => LoopAtV prog w A h₀ env x body Q E it s₂) E s := by
  refine wpAny_pyIter_range hr hsmall ?_
  have W : Walks prog w A s.heap.objs.size [s.heap.objs.size] [s.heap.objs.size] n (fun i v => i < n ∧ ∃ t, v = .int (a₀ + i * 1) t)
      (fun i h => IsRangeIter h s.heap.objs.size (a₀ + (i : Nat) * 1) ((n : Int) - (i : Nat)) 1) := (Walks.range hh _ a₀ 1 n).bound
  refine kdr_loop (fun i m nx => Stt Led ps x stored m₀ P i m nx) W (fun _ h => h) (fun _ h => h) ?_ ?_ ?_ ?_ (by show IsRangeIter _ _ _ _ _; rw [hsz]; simpa using Heap.get?_push_size _ rfl) (F.push _) (fun q hq => ⟨Heap.get?_push_of_some _ (N q hq).1, (N q hq).2⟩) ⟨c₀, rfl, hk, fun _ _ _ _ => rfl, hp⟩ ?_ ?_
  · intro i h hi b hb
    rw [List.mem_singleton.mp hb]
    exact ⟨_, hi⟩
  · intro hm
    exact absurd F.ns.lt ((List.mem_singleton.mp hm) ▸ Nat.lt_irrefl _)
  · intro b hb
    rw [List.mem_singleton.mp hb]
    exact next_is_new F
  · intro q hq hI
    exact absurd (Heap.lt_size (N q hq).1) ((List.mem_singleton.mp hI) ▸ Nat.lt_irrefl _)
  · rintro i v m₁ nx h tk own hin ⟨_, t, rfl⟩ hoff ⟨c, rfl, h1, h2, hp'⟩ F₁ N₁
    rw [Int.mul_one] at F₁
    exact turn c i t m₁ h tk own hin hoff hp' (kst_fr h1 h2 F₁) N₁
  · rintro m₁ nx h tk ⟨c, rfl, h1, h2, hp'⟩ F₁ N₁
    exact done c m₁ h tk hp' (kst_frOut h1 h2 F₁) N₁

theorem range_end {σ : Type} {m₀ : Str → Option Value} {Led : σ → List (Addr × Obj)} {ps : σ → List (Str × Value)} {stored : List Str} {P : Nat → σ → Prop} {i : Nat} (c : σ) {L : Addr} {m' : Str → Option Value} {own news' : List (Addr × Obj)} {s₁ : Shared} {h' : Heap} {tk : Nat}
    (F : Fr h₀ L h' m') (N : News h₀ L h' news') (hn : ∀ q ∈ Led c, q ∈ news') (ho : ∀ q ∈ own, q ∈ news') (ha : OwnOff own ((Led c).map (·.1)))
    (hk : ∀ q ∈ ps c, m' q.1 = some q.2) (hr : ∀ z, z ≠ x → (∀ q ∈ ps c, z ≠ q.1) → stored.contains z = false → m' z = m₀ z) (hp : P i c) :
    InvEndG h₀ L (Stt Led ps x stored m₀ P i) own s₁ { s₁ with heap := h', toks := tk } :=
  InvEndG.intro F N ⟨c, rfl, hk, hr, hp⟩ ha hn ho
end
end Mine

end
section
namespace Mine
/-- a goal of a walk that is proved in a theorem of its own -/
structure Hide (P : Prop) : Prop where
  out : P
theorem apT {X : Prop} (h : True → X) : X := h trivial
/-- a walk that parks one of its goals -/
def park1 {H : Prop} (P : Prop) (h : Hide P → H) : { P : Prop // Hide P → H } := ⟨P, h⟩
/-- a walk that parks two of its goals -/
def park2 {H : Prop} (P₁ P₂ : Prop) (h : Hide P₁ → Hide P₂ → H) : { P : Prop × Prop // Hide P.1 → Hide P.2 → H } := ⟨(P₁, P₂), h⟩
end Mine

end
section
namespace Mine
theorem use_gives {prog : Program} {w : World} {K : Frag} {p : Program} {loose : List Str} {f : Addr} {vs : List Value} {Pre : Heap → Prop} {Out : List (Addr × Obj) → Value → Prop} {mean : ExcName → Option Value} {mg mb : Str → Option Value} {dp un : Nat} {gd : Option (List Code)} {cn : Str} {cs : Scope} {a : Addr} {ccd : Value} {cl : List (Str × Addr)} {outer : List Env} {A₀ : Around} {base h₀ : Heap} {L : Addr} {m : Str → Option Value} {s : Shared} {Q E : Value → Shared → Prop}
    (H : Gives prog w K p loose f vs Pre Out) (B : Below A₀ base outer h₀) (F : Fr h₀ L s.heap m) (X : K.In h₀) (T : Top p loose mean mg mb h₀) (hk : cs.kind = .function) (hp : Pre s.heap) (hd : dp + 2 < recursionLimit) (hu : un + 16 < cLine) (ret : Back h₀ L m s Q Out) :
    wpAny (model prog w) (ktrTop dp un gd cn cs L a ccd cl outer) (call (.ref f) vs) Q E s :=
  H mean mg mb dp un gd cn cs a ccd cl outer A₀ base h₀ L m s Q E B F X T hk hp hd hu ret
theorem news_list {h₀ h : Heap} {L l : Addr} {news : List (Addr × Obj)} {vs : List Value} {n : Nat} (N : News h₀ L h news) (hm : (l, listOf vs.toArray n) ∈ news) : h.IsList l vs.toArray := ⟨_, (N _ hm).1, rfl, n, rfl⟩
theorem strs_at {vs : List Value} {ts : List Str} (hs : StrsAre vs ts) {k : Nat} (hk : k < ts.length) : ∃ y t, vs[k]? = some (.str y t) ∧ ts[k]? = some y := by
  obtain ⟨t, ht⟩ := hs.get k ts[k] (List.getElem?_eq_getElem hk)
  exact ⟨_, t, ht, List.getElem?_eq_getElem hk⟩
end Mine
namespace Mine
theorem gives_mono {prog : Program} {w : World} {K : Frag} {p : Program} {loose : List Str} {f : Addr} {vs : List Value} {Pre : Heap → Prop} {Out Out' : List (Addr × Obj) → Value → Prop} (H : Gives prog w K p loose f vs Pre Out) (h : ∀ tl r, Out tl r → Out' tl r) : Gives prog w K p loose f vs Pre Out' :=
  fun mean mg mb dp un gd cn cs a ccd cl outer A₀ base h₀ L m s Q E B F X T hk hp hd hu ret =>
    H mean mg mb dp un gd cn cs a ccd cl outer A₀ base h₀ L m s Q E B F X T hk hp hd hu fun r tl h' tk' F' k n o => ret r tl h' tk' F' k n (h tl r o)
end Mine

end
section
namespace Mine
section
variable {prog : Program} {w : World} {A : Around} {h₀ : Heap} {L : Addr} {m : Str → Option Value} {env : Env} {elt : Expr} {x : Str} {scope : Scope} {cl : List (Str × Addr)}
theorem comp_rest {s : Shared} {S : List (Addr × Obj) → Prop} {P : Nat → Value → Prop} {Fin : List Value → List (Addr × Obj) → Prop} {news : List (Addr × Obj)} {n : Nat} (J : Nat → List Value → List (Addr × Obj) → Prop) (h0 : J 0 [] news)
    (turn : ∀ (i : Nat) (ys : List Value) (nw : List (Addr × Obj)) (v : Value) (I : Addr) (oI : Obj) (C : Addr) (oC : Obj) (D : Addr) (m₂ : Str → Option Value) (h : Heap) (tk : Nat) (E' : Value → Shared → Prop), i < n → J i ys nw → P i v → LCg.NsObj oC m₂ → m₂ x = some v → Fr h₀ L h m → News h₀ L h ((I, oI) :: (C, oC) :: (D, LCg.lst ys) :: nw) → LCg.Off3 I C D nw → ((@Ne Nat I C) ∧ (@Ne Nat I D) ∧ (@Ne Nat C D)) →
      wpAny (model prog w) A (eval elt (compEnvC scope cl C env)) (LCg.CompEnd h₀ L m { s with heap := h, toks := tk } I oI C oC D (LCg.lst ys) S (fun y nw' => J (i + 1) (ys ++ [y]) nw')) E' { s with heap := h, toks := tk })
    (fin : ∀ ys nw, J n ys nw → Fin ys nw) : LCg.CompRest prog w A h₀ L m env elt x scope cl s S P Fin n 0 [] news := by
  have key : ∀ (j i : Nat) (ys : List Value) (nw : List (Addr × Obj)), i + j = n → J i ys nw → LCg.CompRest prog w A h₀ L m env elt x scope cl s S P Fin j i ys nw := by
    intro j
    induction j with
    | zero =>
      intro i ys nw hi hy
      exact LCg.CompRest.zero (fin ys nw ((show i = n by omega) ▸ hy))
    | succ j ih =>
      intro i ys nw hi hy
      refine LCg.CompRest.succ ?_
      intro v I oI C oC D m₂ h tk E' hv hC hx F N off ne
      refine wpAny_mono (turn i ys nw v I oI C oC D m₂ h tk E' (by omega) hy hv hC hx F N off ne) (fun y s₂ hq => ?_) fun _ _ e => e
      obtain ⟨h', tk', nw', e, F', N', off', hS, hj⟩ := hq
      exact ⟨h', tk', nw', e, F', N', off', hS, ih (i + 1) _ _ (by omega) hj⟩
  exact key n 0 [] news (by omega) h0
theorem comp_src {Fin : Shared → List Value → List (Addr × Obj) → Prop} {ax : Addr} {vs : List Value} {k : Nat} {news : List (Addr × Obj)} {s₁ : Shared} (J : Nat → List Value → List (Addr × Obj) → Prop)
    (hh : A.handled = none) (F : Fr h₀ L s₁.heap m) (N : News h₀ L s₁.heap news) (hm : (ax, listOf vs.toArray k) ∈ news) (hsz : vs.length ≤ sizeLine) (h0 : J 0 [] news)
    (turn : ∀ (i : Nat) (ys : List Value) (nw : List (Addr × Obj)) (v : Value) (I : Addr) (oI : Obj) (C : Addr) (oC : Obj) (D : Addr) (m₂ : Str → Option Value) (h : Heap) (tk : Nat) (E' : Value → Shared → Prop), J i ys nw → vs[i]? = some v → LCg.NsObj oC m₂ → m₂ x = some v → Fr h₀ L h m → News h₀ L h ((I, oI) :: (C, oC) :: (D, LCg.lst ys) :: nw) → LCg.Off3 I C D nw → ((@Ne Nat I C) ∧ (@Ne Nat I D) ∧ (@Ne Nat C D)) →
      wpAny (model prog w) A (eval elt (compEnvC scope cl C env)) (LCg.CompEnd h₀ L m { s₁ with heap := h, toks := tk } I oI C oC D (LCg.lst ys) (LCg.SrcAt h₀ ax vs.toArray) (fun y nw' => J (i + 1) (ys ++ [y]) nw')) E' { s₁ with heap := h, toks := tk })
    (fin : ∀ ys nw g, J vs.length ys nw → Fin { s₁ with heap := g } ys nw) : LCg.CompSrc prog w A h₀ L m env elt x scope cl Fin (.ref ax) s₁ := by
  refine LCg.CompSrc.ledger hh F N hm (by rw [List.size_toArray]; exact hsz) fun g => ?_
  have e : vs.toArray.size = vs.length := List.size_toArray ..
  rw [e]
  refine comp_rest J h0 (fun i ys nw v I oI C oC D m₂ h tk E' _ hJ hv hC hx F' N' off ne => ?_) fun ys nw hJ => fin ys nw g hJ
  exact turn i ys nw v I oI C oC D m₂ h tk E' hJ (by simpa using hv) hC hx F' N' off ne
end
end Mine

end
section
namespace Mine
/-- as Gives, the call's own ledger given (it reads objects of its caller's) -/
def GivesN (prog : Program) (w : World) (K : Frag) (p : Program) (loose : List Str) (f : Addr) (vs : List Value) (news₁ : List (Addr × Obj)) (Out : List (Addr × Obj) → Value → Prop) : Prop :=
  ∀ (mean : ExcName → Option Value) (mg mb : Str → Option Value) (dp un : Nat) (gd : Option (List Code)) (cn : Str) (cs : Scope) (a : Addr) (ccd : Value) (cl : List (Str × Addr)) (outer : List Env) (A₀ : Around) (base h₀ : Heap) (L : Addr) (m : Str → Option Value) (s : Shared) (Q E : Value → Shared → Prop),
    Below A₀ base outer h₀ → Fr h₀ L s.heap m → K.In h₀ → Top p loose mean mg mb h₀ → cs.kind = .function → News h₀ L s.heap news₁ → dp + 2 < recursionLimit → un + 16 < cLine → Back h₀ L m s Q Out →
      wpAny (model prog w) (ktrTop dp un gd cn cs L a ccd cl outer) (call (.ref f) vs) Q E s
theorem use_givesN {prog : Program} {w : World} {K : Frag} {p : Program} {loose : List Str} {f : Addr} {vs : List Value} {news₁ : List (Addr × Obj)} {Out : List (Addr × Obj) → Value → Prop} {mean : ExcName → Option Value} {mg mb : Str → Option Value} {dp un : Nat} {gd : Option (List Code)} {cn : Str} {cs : Scope} {a : Addr} {ccd : Value} {cl : List (Str × Addr)} {outer : List Env} {A₀ : Around} {base h₀ : Heap} {L : Addr} {m : Str → Option Value} {s : Shared} {Q E : Value → Shared → Prop}
    (H : GivesN prog w K p loose f vs news₁ Out) (B : Below A₀ base outer h₀) (F : Fr h₀ L s.heap m) (X : K.In h₀) (T : Top p loose mean mg mb h₀) (hk : cs.kind = .function) (hp : News h₀ L s.heap news₁) (hd : dp + 2 < recursionLimit) (hu : un + 16 < cLine) (ret : Back h₀ L m s Q Out) :
    wpAny (model prog w) (ktrTop dp un gd cn cs L a ccd cl outer) (call (.ref f) vs) Q E s :=
  H mean mg mb dp un gd cn cs a ccd cl outer A₀ base h₀ L m s Q E B F X T hk hp hd hu ret
theorem keep3 {h₀ s g h' : Heap} {L : Addr} {news news' : List (Addr × Obj)} (N₀ : News h₀ L s news) (h1 : ∀ b o, s.get? b = some o → b ∉ news.map (·.1) → g.get? b = some o) (h2 : ∀ b o, g.get? b = some o → h'.get? b = some o) (N' : News h₀ L h' news') (hs : ∀ q ∈ news, q ∈ news') : ∀ b o, s.get? b = some o → h'.get? b = some o := by
  intro b o e
  by_cases hb : b ∈ news.map (·.1)
  · obtain ⟨q, hq, rfl⟩ := List.mem_map.mp hb
    rw [(N₀ q hq).1] at e
    cases e
    exact (N' q (hs q hq)).1
  · exact h2 b o (h1 b o e hb)
end Mine

end
section
namespace Mine
section
variable {prog : Program} {w : World} {A : Around} {E : Value → Shared → Prop} {s : Shared} {h₀ : Heap} {L : Addr} {m : Str → Option Value} {env : Env}
/-- what a comprehension over a text's signs asks -/
def TextSrc (prog : Program) (w : World) (A : Around) (h₀ : Heap) (L : Addr) (m : Str → Option Value) (env : Env) (elt : Expr) (x : Str) (scope : Scope) (cl : List (Str × Addr)) (Fin : Shared → List Value → List (Addr × Obj) → Prop) (xv : Value) (s₁ : Shared) : Prop :=
  ∃ y t news, xv = .str y t ∧ A.handled = none ∧ Fr h₀ L s₁.heap m ∧ News h₀ L s₁.heap news ∧ y.cps.size ≤ sizeLine ∧
    ∀ s₂ : Shared, (∃ h, s₂ = { s₁ with heap := h }) → LCg.CompRest prog w A h₀ L m env elt x scope cl s₂ (fun _ => True) (SignAt y) (Fin s₂) y.cps.size 0 [] news
theorem striter_st {I : Addr} {ty : String} {y : Str} {t : Tok} : ∀ i (h h' : Heap) (o : Obj) (nw : List (Addr × Obj)), h.IsStrIter I ty y t i → h.get? I = some o → h'.get? I = some o → (∀ b o, h₀.get? b = some o → h'.get? b = some o) → News h₀ L h' nw → True → h'.IsStrIter I ty y t i :=
  fun i h h' o nw st e e' _ _ _ => by obtain ⟨o', q, r⟩ := st; rw [e] at q; cases q; exact ⟨o, e', r⟩
theorem comp_text {elt iter : Expr} {x : Str} {px : Pos} {scope : Scope} {cl : List (Str × Addr)} {pos : Pos} {Q : Value → Shared → Prop} (_F₀ : Fr h₀ L s.heap m)
    (hclos : closureFor scope env = pure cl) (hcell : ∀ y ∈ scope.names, y.2 ≠ .cell) (hkind : scope.kind = .function)
    (hnames : ∀ y ∈ scope.names, y.2 = .local → scope.names.lookup y.1 = some .local) (hx : scope.names.lookup x = some .local)
    (h : wpAny (model prog w) A (eval iter env) (TextSrc prog w A h₀ L m env elt x scope cl (fun s₂ => LCg.FinE h₀ L m s₂ Q)) E s)
    (hs : ∀ x, foldedSetIterable iter env x = pure x := by intro _; rfl) :
    wpAny (model prog w) A (eval (.ListComp elt [⟨.Name x px, iter, [], 0⟩] scope pos) env) Q E s := by
  rw [eval_ListComp]
  refine wpAny_comprehension_free (use := none) rfl hs hclos hkind hnames (wpAny_mono h (fun xv s₁ h₁ => ?_) fun _ _ e => e)
  obtain ⟨y, t, news, rfl, hh, F, N, hsz, R⟩ := h₁
  have hIL : L ≠ s₁.heap.objs.size := Nat.ne_of_lt F.ns.lt
  have hI₀ : h₀.get? s₁.heap.objs.size = none := next_is_new F
  have offI : ∀ p ∈ news, p.1 ≠ s₁.heap.objs.size := fun p hp => Nat.ne_of_lt (Heap.lt_size (N p hp).1)
  cases ha : y.cps.all (· < 128)
  · refine wpAny_pyIter_wide ha ?_
    refine LCg.block_U (Walks.strWide hh s₁.heap.objs.size y t) hsz (fun i h st => by obtain ⟨o, e, _⟩ := st; exact ⟨o, e⟩) striter_st hcell hkind hx ⟨_, Heap.get?_push_size _ rfl, rfl, rfl⟩ (fun b hb => ?_)
      (F.keeps fun _ _ e => Heap.get?_push_of_some _ e) (N.grown fun _ _ e => Heap.get?_push_of_some _ e) hIL hI₀ offI trivial (R _ ⟨_, rfl⟩) ?_
    · rw [List.mem_singleton.mp hb]
      show s₁.heap.objs.size < (s₁.heap.push _).objs.size
      rw [Heap.size_push]; exact Nat.lt_succ_self _
    · intro D C h tk m' ys news' F' N' o1 hn hC₀ hD₀ hCL hDL hCD offC fin
      refine ⟨m', hn, fun h'' hs'' => fin D h'' tk (F'.change hs'' hCL hC₀) (fun p hp => ?_) o1⟩
      refine ⟨hs''.extBut _ _ ?_ (N' p hp).1, (N' p hp).2⟩
      rcases List.mem_cons.mp hp with rfl | hp
      · exact Ne.symm hCD
      · exact offC p hp
  · refine wpAny_pyIter_ascii ha ?_
    refine LCg.block_U (Walks.strAscii hh s₁.heap.objs.size y t) hsz (fun i h st => by obtain ⟨o, e, _⟩ := st; exact ⟨o, e⟩) striter_st hcell hkind hx ⟨_, Heap.get?_push_size _ rfl, rfl, rfl⟩ (fun b hb => ?_)
      (F.keeps fun _ _ e => Heap.get?_push_of_some _ e) (N.grown fun _ _ e => Heap.get?_push_of_some _ e) hIL hI₀ offI trivial (R _ ⟨_, rfl⟩) ?_
    · rw [List.mem_singleton.mp hb]
      show s₁.heap.objs.size < (s₁.heap.push _).objs.size
      rw [Heap.size_push]; exact Nat.lt_succ_self _
    · intro D C h tk m' ys news' F' N' o1 hn hC₀ hD₀ hCL hDL hCD offC fin
      refine ⟨m', hn, fun h'' hs'' => fin D h'' tk (F'.change hs'' hCL hC₀) (fun p hp => ?_) o1⟩
      refine ⟨hs''.extBut _ _ ?_ (N' p hp).1, (N' p hp).2⟩
      rcases List.mem_cons.mp hp with rfl | hp
      · exact Ne.symm hCD
      · exact offC p hp
/-- the signs' numbers of a text, as a list of ints -/
def codes (y : Str) : List Int := y.cps.toList.map (fun (c : Nat) => (c : Int))
theorem text_codes {elt : Expr} {x : Str} {scope : Scope} {cl : List (Str × Addr)} {Fin : Shared → List Value → List (Addr × Obj) → Prop} {y : Str} {t : Tok} {news : List (Addr × Obj)} {s₁ : Shared}
    (hh : A.handled = none) (F : Fr h₀ L s₁.heap m) (N : News h₀ L s₁.heap news) (hsz : y.cps.size ≤ sizeLine)
    (turn : ∀ (c : Nat) (u : Tok) (ys : List Value) (I : Addr) (oI : Obj) (C : Addr) (oC : Obj) (D : Addr) (m₂ : Str → Option Value) (h : Heap) (tk : Nat) (E' : Value → Shared → Prop), c ∈ y.cps → LCg.NsObj oC m₂ → m₂ x = some (.str ⟨#[c]⟩ u) → Fr h₀ L h m → News h₀ L h ((I, oI) :: (C, oC) :: (D, LCg.lst ys) :: news) → LCg.Off3 I C D news → ((@Ne Nat I C) ∧ (@Ne Nat I D) ∧ (@Ne Nat C D)) →
      wpAny (model prog w) A (eval elt (compEnvC scope cl C env)) (LCg.CompEnd h₀ L m { s₁ with heap := h, toks := tk } I oI C oC D (LCg.lst ys) (fun _ => True) (fun v nw' => nw' = news ∧ ∃ t', v = .int (c : Int) t')) E' { s₁ with heap := h, toks := tk })
    (fin : ∀ ys g, IntsAre ys (codes y) → Fin { s₁ with heap := g } ys news) : TextSrc prog w A h₀ L m env elt x scope cl Fin (.str y t) s₁ := by
  refine ⟨y, t, news, rfl, hh, F, N, hsz, fun s₂ ⟨g, e⟩ => ?_⟩
  subst e
  refine comp_rest (fun i ys nw => nw = news ∧ IntsAre ys ((codes y).take i)) ⟨rfl, by simp only [List.take_zero]; exact .nil⟩ ?_ ?_
  · rintro i ys nw v I oI C oC D m₂ h tk E' hi ⟨rfl, hy⟩ ⟨c, u, hc, rfl⟩ hC hx F' N' off ne
    refine wpAny_mono (turn c u ys I oI C oC D m₂ h tk E' (Array.mem_of_getElem? hc) hC hx F' N' off ne) (fun v s₂ hq => ?_) fun _ _ e => e
    obtain ⟨h', tk', nw', e, F'', N'', off', hS, rfl, t', rfl⟩ := hq
    refine ⟨h', tk', nw', e, F'', N'', off', hS, rfl, ?_⟩
    have e1 : (codes y)[i]? = some (c : Int) := by
      unfold codes
      rw [List.getElem?_map, Array.getElem?_toList, hc]; rfl
    rw [List.take_add_one, e1]
    exact IntsAre.append hy (.cons (c : Int) t' .nil)
  · rintro ys nw ⟨rfl, hy⟩
    have e : (codes y).length = y.cps.size := by unfold codes; simp
    rw [← e, List.take_length] at hy
    exact fin ys g hy
end
end Mine

end
section
namespace Mine
open PyProof.V PySem.SeqAt
/-- a row of the law's list: [signs, count] -/
structure Ent where
  a : Addr
  b : Addr
  t : Str
  n : Int
  tn : Tok
  ka : Nat
  kb : Nat
  ys : List Value
def rowO (e : Ent) : Obj := listOf #[.ref e.b, .int e.n e.tn] e.ka
def sgO (e : Ent) : Obj := listOf e.ys.toArray e.kb
def entL (es : List Ent) : List (Addr × Obj) := es.flatMap fun e => [(e.a, rowO e), (e.b, sgO e)]
def refsOf (es : List Ent) : List Value := es.map fun e => .ref e.a
def tabOf (es : List Ent) : List (Str × Int) := es.map fun e => (e.t, e.n)
/-- a text that ord and the table take -/
def OkT (t : Str) : Prop := t.length ≤ 1000 ∧ ∀ c ∈ t.cps, c < 1114112
structure EsOk (es : List Ent) : Prop where
  iv : ∀ e ∈ es, IntsAre e.ys (codes e.t)
  ok : ∀ e ∈ es, OkT e.t
  nodup : (es.map (·.t)).Nodup
structure St3 where
  es : List Ent
  oT : Obj
  kvs : List (Str × Value)
  aR : Addr
  rn : Nat
  oS : Obj
  vS : Option Value
section
variable {prog : Program} {w : World} {A : Around} {E : Value → Shared → Prop} {s : Shared} {env : Env} {h₀ : Heap} {x : Str} {body : List Stmt} {Q : Flow → Shared → Prop}
abbrev stored3 : List Str := [Str.ofString "text", Str.ofString "there", Str.ofString "key"]
abbrev Led3 (sg aT : Addr) (rest : List (Addr × Obj)) (c : St3) : List (Addr × Obj) := (sg, c.oS) :: (aT, c.oT) :: (c.aR, listOf (refsOf c.es).toArray c.rn) :: (rest ++ entL c.es)
abbrev ps3 (c : St3) : List (Str × Value) := [(Str.ofString "rows", .ref c.aR)]
abbrev P3 (prog : Program) (w : World) (sg aT : Addr) (rest : List (Addr × Obj)) (i : Nat) (c : St3) : Prop :=
  c.es.length ≤ i ∧ EsOk c.es ∧ Obj.IsDictOf (PySem.strKind prog w) c.oT c.kvs ∧ FlatPairs PyData.str c.kvs (kdpD (tabOf c.es)) ∧ c.oS.data = .cell c.vS ∧ (∀ b ∈ sg :: aT :: rest.map (·.1), c.aR ≠ b) ∧ OwnOff (entL c.es) (sg :: aT :: c.aR :: rest.map (·.1))
abbrev J3 (prog : Program) (w : World) (lX : Addr) (vs : List Value) (nX : Nat) (sg aT : Addr) (rest : List (Addr × Obj)) (x : Str) (m₀ : Str → Option Value) (i : Nat) : (Str → Option Value) → List (Addr × Obj) → Prop :=
  fun m' nx => (lX, listOf vs.toArray nX) ∈ nx ∧ Stt (Led3 sg aT rest) ps3 x stored3 m₀ (P3 prog w sg aT rest) i m' nx
theorem tails {sg aT aR : Addr} {rest own : List (Addr × Obj)} {es : List Ent} (hd : ∀ p ∈ rest, p.1 ≠ sg ∧ p.1 ≠ aT) (hne : ∀ b ∈ sg :: aT :: rest.map (·.1), aR ≠ b) (htl : OwnOff (entL es) (sg :: aT :: aR :: rest.map (·.1))) (hoff : OwnOff own (sg :: aT :: aR :: (rest ++ entL es).map (·.1))) :
    ∀ p ∈ rest ++ (entL es ++ own), p.1 ≠ sg ∧ p.1 ≠ aT ∧ p.1 ≠ aR := by
  intro p hp
  rcases List.mem_append.mp hp with hp | hp
  · exact ⟨(hd p hp).1, (hd p hp).2, Ne.symm (hne _ (.tail _ (.tail _ (List.mem_map_of_mem hp))))⟩
  · rcases List.mem_append.mp hp with hp | hp
    · exact ⟨htl p hp _ (.head _), htl p hp _ (.tail _ (.head _)), htl p hp _ (.tail _ (.tail _ (.head _)))⟩
    · exact ⟨hoff p hp _ (.head _), hoff p hp _ (.tail _ (.head _)), hoff p hp _ (.tail _ (.tail _ (.head _)))⟩
theorem loop3 {sg aT aR lX : Addr} {vs : List Value} {ns : List Int} {nX : Nat} {m₀ : Str → Option Value} {rest : List (Addr × Obj)} {oT oS : Obj} {vS : Option Value}
    (hh : A.handled = none) (F : Fr h₀ env.locals s.heap m₀) (N : News h₀ env.locals s.heap ((sg, oS) :: (aT, oT) :: (aR, listOf #[] 0) :: rest)) (hX : (lX, listOf vs.toArray nX) ∈ rest) (hI : IntsAre vs ns) (hlen : ns.length ≤ 66)
    (hT : Obj.IsDictOf (PySem.strKind prog w) oT []) (hS : oS.data = .cell vS) (hR : m₀ (Str.ofString "rows") = some (.ref aR)) (hne : ∀ b ∈ sg :: aT :: rest.map (·.1), aR ≠ b) (hd : sg ≠ aT ∧ ∀ p ∈ rest, p.1 ≠ sg ∧ p.1 ≠ aT)
    (turn : ∀ (es : List Ent) (oT : Obj) (kvs : List (Str × Value)) (aR : Addr) (rn : Nat) (oS : Obj) (vS : Option Value) (i : Nat) (k : Int) (t : Tok) (u : Str → Option Value) (h : Heap) (tk : Nat) (own : List (Addr × Obj)), i < 66 → es.length ≤ i → EsOk es → Obj.IsDictOf (PySem.strKind prog w) oT kvs → FlatPairs PyData.str kvs (kdpD (tabOf es)) → oS.data = .cell vS →
      (∀ b ∈ sg :: aT :: rest.map (·.1), aR ≠ b) → OwnOff (entL es) (sg :: aT :: aR :: rest.map (·.1)) → OwnOff own (sg :: aT :: aR :: (rest ++ entL es).map (·.1)) → sg ≠ aT → aR ≠ sg → aR ≠ aT → (∀ p ∈ rest ++ (entL es ++ own), p.1 ≠ sg ∧ p.1 ≠ aT ∧ p.1 ≠ aR) →
      Fr h₀ env.locals h (fun z => if z = x then some (.int k t) else if z = Str.ofString "rows" then some (.ref aR) else if stored3.contains z then u z else m₀ z) → News h₀ env.locals h ((sg, oS) :: (aT, oT) :: (aR, listOf (refsOf es).toArray rn) :: (rest ++ (entL es ++ own))) →
      wpAny (model prog w) A (execs body env) (InvPostG h₀ env.locals (J3 prog w lX vs nX sg aT rest x m₀ (i + 1)) own { s with heap := h, toks := tk } Q) E { s with heap := h, toks := tk })
    (done : ∀ (es : List Ent) (oT : Obj) (kvs : List (Str × Value)) (aR : Addr) (rn : Nat) (oS : Obj) (u : Str → Option Value) (h : Heap) (tk : Nat), es.length ≤ 66 → EsOk es → Obj.IsDictOf (PySem.strKind prog w) oT kvs → FlatPairs PyData.str kvs (kdpD (tabOf es)) →
      Fr h₀ env.locals h (fun z => if z = x then u z else if z = Str.ofString "rows" then some (.ref aR) else if stored3.contains z then u z else m₀ z) → News h₀ env.locals h ((sg, oS) :: (aT, oT) :: (aR, listOf (refsOf es).toArray rn) :: (rest ++ entL es)) → Q .next { s with heap := h, toks := tk }) :
    wpAny (model prog w) A (pyIter (.ref lX)) (fun it s₂ => LoopAtV prog w A h₀ env x body Q E it s₂) E s := by
  refine loop_list (Led3 sg aT rest) ps3 stored3 (P3 prog w sg aT rest) ⟨[], oT, [], aR, 0, oS, vS⟩ hh (fun c => .tail _ (.tail _ (.tail _ (List.mem_append.mpr (.inl hX))))) F ?_ ?_ ⟨Nat.le_refl _, ⟨(fun _ h => nomatch h), (fun _ h => nomatch h), List.nodup_nil⟩, hT, .nil, hS, hne, fun _ h => nomatch h⟩ ?_ ?_
  · show News _ _ _ ((sg, oS) :: (aT, oT) :: (aR, listOf #[] 0) :: (rest ++ []))
    rw [List.append_nil]
    exact N
  · intro q hq
    rw [List.mem_singleton.mp hq]
    exact hR
  · rintro ⟨es, oT, kvs, aR, rn, oS, vS⟩ i v u h tk own hv hoff ⟨h1, h2, h3, h4, h5, h6, h7⟩ F₁ N₁
    obtain ⟨k, t, rfl, hk⟩ := IntsAre.at hI _ v hv
    have hl : i < 66 := by
      obtain ⟨q, _⟩ := List.getElem?_eq_some_iff.mp hk
      exact Nat.lt_of_lt_of_le q hlen
    refine turn es oT kvs aR rn oS vS i k t u h tk own hl h1 h2 h3 h4 h5 h6 h7 hoff hd.1 (h6 _ (.head _)) (h6 _ (.tail _ (.head _))) (tails hd.2 h6 h7 hoff) F₁ ?_
    simpa only [Led3, List.cons_append, List.append_assoc] using N₁
  · rintro ⟨es, oT, kvs, aR, rn, oS, vS⟩ u h tk ⟨h1, h2, h3, h4, h5, h6, h7⟩ F₁ N₁
    refine done es oT kvs aR rn oS u h tk ?_ h2 h3 h4 F₁ N₁
    have := hI.length
    have h1' : es.length ≤ vs.length := h1
    omega
/-- the end of a turn -/
theorem end3 {sg aT lX : Addr} {vs : List Value} {nX : Nat} {m₀ : Str → Option Value} {rest : List (Addr × Obj)} {L : Addr} {m' : Str → Option Value} {own news' : List (Addr × Obj)} {s₁ : Shared} {h' : Heap} {tk i : Nat}
    (es : List Ent) (oT : Obj) (kvs : List (Str × Value)) (aR : Addr) (rn : Nat) (oS : Obj) (vS : Option Value) (F : Fr h₀ L h' m') (N : News h₀ L h' news')
    (hn : ∀ q ∈ (sg, oS) :: (aT, oT) :: (aR, listOf (refsOf es).toArray rn) :: (rest ++ (entL es ++ own)), q ∈ news') (hX : (lX, listOf vs.toArray nX) ∈ rest)
    (h1 : es.length ≤ i) (h2 : EsOk es) (h3 : Obj.IsDictOf (PySem.strKind prog w) oT kvs) (h4 : FlatPairs PyData.str kvs (kdpD (tabOf es))) (h5 : oS.data = .cell vS) (h6 : ∀ b ∈ sg :: aT :: rest.map (·.1), aR ≠ b) (h7 : OwnOff (entL es) (sg :: aT :: aR :: rest.map (·.1)))
    (hoff : OwnOff own (sg :: aT :: aR :: (rest ++ entL es).map (·.1))) (hk : m' (Str.ofString "rows") = some (.ref aR)) (hm : ∀ z, z ≠ x → z ≠ Str.ofString "rows" → stored3.contains z = false → m' z = m₀ z) :
    InvEndG h₀ L (J3 prog w lX vs nX sg aT rest x m₀ i) own s₁ { s₁ with heap := h', toks := tk } := by
  refine loop_end (Led := Led3 sg aT rest) (ps := ps3) ⟨es, oT, kvs, aR, rn, oS, vS⟩ F N (.tail _ (.tail _ (.tail _ (List.mem_append.mpr (.inl hX))))) (fun q hq => hn q ?_) (fun q hq => hn q ?_) hoff (fun q hq => by rw [List.mem_singleton.mp hq]; exact hk) (fun z a b c => hm z a (b _ (.head _)) c) ⟨h1, h2, h3, h4, h5, h6, h7⟩
  · simp only [List.mem_cons, List.mem_append] at hq ⊢
    rcases hq with q | q | q | q | q
    · exact .inl q
    · exact .inr (.inl q)
    · exact .inr (.inr (.inl q))
    · exact .inr (.inr (.inr (.inl q)))
    · exact .inr (.inr (.inr (.inr (.inl q))))
  · simp only [List.mem_cons, List.mem_append]
    exact .inr (.inr (.inr (.inr (.inr hq))))
end
end Mine

end
section
namespace Mine
open PyProof.V PySem.SeqAt
local macro_rules | `(tactic| walk_at $s:str) => `(tactic| k_extra $s)
local macro_rules | `(tactic| walk_at "mine for") => `(tactic| ((rename Fr _ _ _ _ => lF'); (with_unfolding_all refine' For_invVF lF' ?k1 ?k2 ?_; (case k1 => exact rfl); (case k2 => exact rfl); k_whole)))
local macro_rules | `(tactic| walk_at "mine bare") => `(tactic| (repeat (rename _ => z9; revert z9)))
theorem news_rot10 {h₀ h : Heap} {L : Addr} {a b c d e f g i j k : Addr × Obj} (N : News h₀ L h [a, b, c, d, e, f, g, i, j, k]) : News h₀ L h (j :: d :: c :: [k, e, a, b, f, g, i]) := by
  intro p hp
  refine N p ?_
  simp only [List.mem_cons, List.not_mem_nil, or_false] at hp ⊢
  rcases hp with q | q | q | q | q | q | q | q | q | q <;> simp [q]
theorem len66 (ns : List Int) : (ns.take 63 ++ [3, 2, 52]).length ≤ 66 := by
  rw [List.length_append, List.length_take]; simp; omega
set_option maxHeartbeats 8000000 in
noncomputable def pk1 : { P : Prop × Prop // Hide P.1 → Hide P.2 → PySem.Challenge.rw_dm0203_03.Holds } := park2 _ _ fun hid1 hid2 => by
  k_with_none
  k_with "exec For Name BinOp cons nil" => (walk_at "mine for")
  k_with "pyIter ref" => (
    (rename Fr _ _ _ _ => lF')
    (rename News _ _ _ _ => lN')
    (rename (IntsAre _ (_ ++ _)) => hI)
    k_dflt (refine loop3 (by with_unfolding_all rfl) lF' (news_rot10 lN') (by with_unfolding_all k_memK) hI (len66 _) (by assumption) (by assumption) (by rfl) ?ln ?lm ?lt ?ld)
    case' ln =>
      simp only [List.map_cons, List.map_nil, List.forall_mem_cons, List.not_mem_nil, false_implies, implies_true, and_true]
      (repeat (with_reducible rename (_ ∧ _) => hA9; obtain ⟨hB9, hC9⟩ := hA9))
      ((repeat' apply And.intro) <;> first | exact Nat.ne_of_lt (by assumption) | exact Nat.ne_of_gt (by assumption))
    case' lm =>
      simp only [List.map_cons, List.map_nil, List.forall_mem_cons, List.not_mem_nil, false_implies, implies_true, and_true]
      (repeat (with_reducible rename (_ ∧ _) => hA9; obtain ⟨hB9, hC9⟩ := hA9))
      ((repeat' apply And.intro) <;> first | exact Nat.ne_of_lt (by assumption) | exact Nat.ne_of_gt (by assumption) | exact Nat.succ_ne_self _ | exact (Nat.succ_ne_self _).symm)
    case' lt => walk_at "mine bare"; intro h1 h2; exact apT h1.out
    walk_at "mine bare"; intro h1 h2; exact apT h2.out)
  refine Mine.hd ?_
  (k_go0; (all_goals try k_fold); k_steps)
end Mine

end
section
namespace Mine
open PyProof.V PySem.SeqAt
local macro_rules | `(tactic| walk_at "mine enter") => `(tactic| (refine wpAny_call ?_; k_dflt (refine' enter ?k1 ?k2 ?k3 ?k4 ?k5 ?kA ?kF ?kK ?k6 ?k7 ?k8 ?k9 ?kB ?_ ?c2 ?c3 ?c4 ?c5; (case kA => exact rfl); (case kF => exact rfl); (case kK => assumption); (case k1 => k_asm); (case k2 => k_asm); (case k3 => k_asm); (case k4 => exact News.nil); (case k5 => k_asm); (case k6 => k_is); (case k7 => k_is); (case k8 => ktr_room); (case k9 => exact BindsTo.of_eq rfl); (case c5 => decide); (case kB => exact locs rfl); (case c2 => exact rfl); (case c3 => exact rfl); (case c4 => exact rfl); k_whole; intro g' L' h' hG' FG' F' N' B' X' T' lt'; (try dsimp only); (try k_fold))))
abbrev G3 (w : World) (f : Addr) := Gives PySem.Challenge.rw_dm0203_03.row.prog w (Mine.hd.heap_39 w.params) Mine.hd.view_39 (looseW Mine.hd.view_39 []) f
theorem keep2 {A B C : Heap} (h1 : ∀ b o, A.get? b = some o → ¬ b ∈ List.map (fun x : Addr × Obj => x.1) [] → B.get? b = some o) (h2 : ∀ b o, B.get? b = some o → C.get? b = some o) : ∀ b o, A.get? b = some o → C.get? b = some o :=
  fun b o e => h2 b o (h1 b o e fun h => nomatch h)
set_option maxHeartbeats 8000000 in
theorem xfrm_gives (w : World) (a : Str) (ta : Tok) : G3 w 21 [.str a ta] (fun _ => True) (fun tl r => tl = [] ∧ r = .str a ta) := by
  unfold G3; k_fill
  intro mean mg mb dp un gd cn cs a₁ ccd cl outer A₀ base h₀ L m s Q E B F X T hk hp hd hu ret
  walk_at "mine enter"
  k_with_none
  k_steps
  exact ret _ [] _ _ (by k_asm) (keep2 (by assumption) (by assumption)) (fun _ h => nomatch h) ⟨rfl, rfl⟩
end Mine

end
section
namespace Mine
open PyProof.V PySem.SeqAt
/-- a short text of signs that chr can make -/
def OkS (t : Str) (n : Nat) : Prop := t.length ≤ n ∧ ∀ c ∈ t.cps.toList, c < 1114112
theorem OkS.okT {t : Str} {n : Nat} (h : OkS t n) (hn : n ≤ 1000) : OkT t := ⟨Nat.le_trans h.1 hn, fun c hc => h.2 c (Array.mem_toList_iff.mpr hc)⟩
section
variable {prog : Program} {w : World} {A : Around} {E : Value → Shared → Prop} {s : Shared} {h₀ : Heap} {L : Addr} {m : Str → Option Value} {news : List (Addr × Obj)} {Q : Value → Shared → Prop}
theorem news_tup {h : Heap} {l : Addr} {its : Array Value} {n : Nat} (N : News h₀ L h news) (hm : (l, ({ cls := .type "tuple", data := .seq its n } : Obj)) ∈ news) : IsTup h l its := ⟨_, (N _ hm).1, rfl, n, rfl⟩
theorem item_piece {value slice : PySem.Expr} {l : Addr} {vs : List Value} {ws : List Str} {i : Int} {u : Tok} {k : Nat} (ht : IsTup s.heap l vs.toArray) (hw : StrsAre vs ws) (hl : ws.length = 16) (hok : ∀ y ∈ ws, OkS y k) (h0 : 0 ≤ i) (h1 : i < 16)
    (h : ∀ y t', OkS y k → Q (.str y t') s)
    (hs : subscripted slice false (.ref l) (.int i u) = operate [.ref l, .int i u] (getItem (.ref l) (.int i u))) :
    wpAny (model prog w) A (subscriptTail value slice (.ref l) (.int i u)) Q E s :=
  KTb.item_tup ht hw h0 (by rw [hl]; exact h1) (by omega) (fun t' hlt => h _ t' (hok _ (by rw [List.getD_eq_getElem?_getD, List.getElem?_eq_getElem hlt]; exact List.getElem_mem hlt))) hs
theorem add_ok {a b : Str} {t u : Tok} {n k : Nat} (ha : OkS a n) (hb : OkS b k) (hn : n + k ≤ 1000) (h : ∀ y t' tk, OkS y (n + k) → Q (.str y t') { s with toks := tk }) : wpAny (model prog w) A (binaryOp .Add (.str a t) (.str b u)) Q E s := by
  refine add_str (fun t' tk => h _ t' tk ⟨?_, fun c hc => ?_⟩) (by rw [sizeLine_eq]; have := ha.1; have := hb.1; omega)
  · have e : (a ++ b).length = a.length + b.length := by
      show (a.cps ++ b.cps).size = a.cps.size + b.cps.size
      exact Array.size_append
    have := ha.1
    have := hb.1
    omega
  · have e : (a ++ b).cps = a.cps ++ b.cps := rfl
    rw [e, Array.toList_append, List.mem_append] at hc
    exact hc.elim (ha.2 c) (hb.2 c)
theorem mul_ok {x : Str} {t u : Tok} {i : Int} {n : Nat} (hx : OkS x n) (hn : n ≤ 16) (h0 : 0 ≤ i) (h1 : i < 2) (h : ∀ y t' tk, OkS y n → Q (.str y t') { s with toks := tk }) : wpAny (model prog w) A (binaryOp .Mult (.str x t) (.int i u)) Q E s := by
  refine SB.mul (mulOk_of 16 1048576 (Nat.le_trans hx.1 hn) (by omega) (by omega) (by decide) (by decide)) fun t' k => h _ t' k ?_
  have : i = 0 ∨ i = 1 := by omega
  rcases this with rfl | rfl
  · have e : Txt.mul x 0 = Str.empty := rfl
    rw [e]
    exact ⟨Nat.zero_le _, fun c hc => by cases hc⟩
  · have e : Txt.mul x 1 = x := rfl
    rw [e]
    exact hx
end
section
variable {prog : Program} {w : World} {A : Around} {h₀ : Heap} {L : Addr} {m : Str → Option Value} {env : Env} {ct elt : Expr} {x : Str} {scope : Scope} {cl : List (Str × Addr)}
/-- a comprehension with a test, over a list of the ledger, by an invariant -/
theorem comp_restT {s : Shared} {S : List (Addr × Obj) → Prop} {P : Nat → Value → Prop} {Fin : List Value → List (Addr × Obj) → Prop} {news : List (Addr × Obj)} {n : Nat} (J : Nat → List Value → Prop) (h0 : J 0 [])
    (turn : ∀ (i : Nat) (ys : List Value) (v : Value) (I : Addr) (oI : Obj) (C : Addr) (oC : Obj) (D : Addr) (m₂ : Str → Option Value) (h : Heap) (tk : Nat) (E' : Value → Shared → Prop), i < n → J i ys → P i v → LCg.NsObj oC m₂ → m₂ x = some v → Fr h₀ L h m → News h₀ L h ((I, oI) :: (C, oC) :: (D, LCg.lst ys) :: news) → LCg.Off3 I C D news → ((@Ne Nat I C) ∧ (@Ne Nat I D) ∧ (@Ne Nat C D)) →
      wpAny (model prog w) A (isTrue ct (compEnvC scope cl C env) (eval ct (compEnvC scope cl C env))) (fun ok s' => if ok = true then
        wpAny (model prog w) A (eval elt (compEnvC scope cl C env)) (LCg.CompEnd h₀ L m { s with heap := h, toks := tk } I oI C oC D (LCg.lst ys) S (fun y nw' => nw' = news ∧ J (i + 1) (ys ++ [y]))) E' s'
        else LCg.CompEnd h₀ L m { s with heap := h, toks := tk } I oI C oC D (LCg.lst ys) S (fun _ nw' => nw' = news ∧ J (i + 1) ys) Value.none s') E' { s with heap := h, toks := tk })
    (fin : ∀ ys, J n ys → Fin ys news) : LCt.CompRestT prog w A h₀ L m env ct elt x scope cl s S P Fin n 0 [] news := by
  have key : ∀ (j i : Nat) (ys : List Value), i + j = n → J i ys → LCt.CompRestT prog w A h₀ L m env ct elt x scope cl s S P Fin j i ys news := by
    intro j
    induction j with
    | zero =>
      intro i ys hi hy
      exact LCt.CompRestT.zero (fin ys ((show i = n by omega) ▸ hy))
    | succ j ih =>
      intro i ys hi hy
      refine LCt.CompRestT.succ ?_
      intro v I oI C oC D m₂ h tk E' hv hC hx F N off ne
      refine wpAny_mono (turn i ys v I oI C oC D m₂ h tk E' (by omega) hy hv hC hx F N off ne) (fun ok s₂ hq => ?_) fun _ _ e => e
      cases ok with
      | true =>
        simp only [if_true] at hq ⊢
        refine wpAny_mono hq (fun y s₃ hq' => ?_) fun _ _ e => e
        obtain ⟨h', tk', nw', e, F', N', off', hS, rfl, hj⟩ := hq'
        exact ⟨h', tk', _, e, F', N', off', hS, ih (i + 1) _ (by omega) hj⟩
      | false =>
        simp only [Bool.false_eq_true, if_false] at hq ⊢
        obtain ⟨h', tk', nw', e, F', N', off', hS, rfl, hj⟩ := hq
        exact ⟨h', tk', _, e, F', N', off', hS, ih (i + 1) _ (by omega) hj⟩
  exact key n 0 [] (by omega) h0
end
end Mine

end
section
namespace Mine
open PyProof.V PySem.SeqAt
/-- a row as data -/
def entD (p : Str × Int) : PyData := .list [.list ((codes p.1).map PyData.int), .int p.2]
def rowsD (c : List (Str × Int)) : List PyData := c.map entD
theorem can_ent (p : Str × Int) : PyData.canLay0 (entD p) = true := by
  simp only [entD, PyData.canLay0, PyData.canLayAll0, canLayAll0_ints, Bool.and_true]
theorem can_rows : ∀ c : List (Str × Int), PyData.canLayAll0 (rowsD c) = true
  | [] => by simp [rowsD, PyData.canLayAll0]
  | p :: c => by
    have := can_rows c
    unfold rowsD at this ⊢
    simp only [List.map_cons, PyData.canLayAll0, can_ent, this, Bool.and_self]
theorem depth_ent (p : Str × Int) : PyData.depth (entD p) ≤ 3 := by
  have := PySem.W.depthAll_ints (codes p.1)
  simp only [entD, PyData.depth, PyData.depthAll]
  omega
theorem depth_rows : ∀ c : List (Str × Int), PyData.depthAll (rowsD c) ≤ 3
  | [] => by simp [rowsD, PyData.depthAll]
  | p :: c => by
    have h1 := depth_rows c
    have h2 := depth_ent p
    unfold rowsD at h1 ⊢
    simp only [List.map_cons, PyData.depthAll]
    omega
theorem shaped_rows (c : List (Str × Int)) : shaped (.list (rowsD c)) = true := by
  have h1 := depth_rows c
  have h2 : PyData.depth (.list (rowsD c)) ≤ 64 := by simp only [PyData.depth]; omega
  show (PyData.canLay0 (.list (rowsD c)) && decide (PyData.depth (.list (rowsD c)) ≤ 64)) = true
  rw [Bool.and_eq_true]
  exact ⟨by simp only [PyData.canLay0]; exact can_rows c, decide_eq_true h2⟩
theorem mix_rows : ∀ c d : List (Str × Int), noMixAll (rowsD c) (rowsD d) = true
  | [], [] => by simp [rowsD, noMixAll]
  | [], _ :: _ => by simp [rowsD, noMixAll]
  | _ :: _, [] => by simp [rowsD, noMixAll]
  | p :: c, q :: d => by
    have := mix_rows c d
    unfold rowsD at this ⊢
    simp only [List.map_cons, noMixAll, this, Bool.and_true]
    simp only [entD, noMix, noMixAll, noMix_ints, Bool.and_true]
/-- the heap bears the rows -/
def Bears (h : Heap) (es : List Ent) : Prop := ∀ e ∈ es, h.IsList e.a #[.ref e.b, .int e.n e.tn] ∧ h.IsList e.b e.ys.toArray ∧ IntsAre e.ys (codes e.t)
theorem bears_of {h₀ h : Heap} {L : Addr} {news : List (Addr × Obj)} {es : List Ent} (N : News h₀ L h news) (hs : ∀ q ∈ entL es, q ∈ news) (hok : EsOk es) : Bears h es := by
  intro e he
  have m1 : (e.a, rowO e) ∈ entL es := List.mem_flatMap.mpr ⟨e, he, .head _⟩
  have m2 : (e.b, sgO e) ∈ entL es := List.mem_flatMap.mpr ⟨e, he, .tail _ (.head _)⟩
  exact ⟨⟨_, (N _ (hs _ m1)).1, rfl, _, rfl⟩, ⟨_, (N _ (hs _ m2)).1, rfl, _, rfl⟩, hok.iv e he⟩
theorem reads_ent {h : Heap} {e : Ent} (h1 : h.IsList e.a #[.ref e.b, .int e.n e.tn]) (h2 : h.IsList e.b e.ys.toArray) (h3 : IntsAre e.ys (codes e.t)) : ∃ as, Reads h (.ref e.a) (entD (e.t, e.n)) as := by
  obtain ⟨o, ho, hc, n, hd⟩ := h1
  exact ⟨_, Reads.list ho hc hd (ReadsAll.cons (reads_of_ints h2 h3) (ReadsAll.cons (Reads.int _ _) .nil))⟩
theorem reads_rows {h : Heap} : ∀ {es : List Ent}, Bears h es → ∃ as, ReadsAll h (refsOf es) (rowsD (tabOf es)) as
  | [], _ => ⟨[], .nil⟩
  | e :: es, hb => by
    obtain ⟨h1, h2, h3⟩ := hb e (.head _)
    obtain ⟨as, ha⟩ := reads_ent h1 h2 h3
    obtain ⟨bs, hb'⟩ := reads_rows (es := es) fun x hx => hb x (.tail _ hx)
    exact ⟨_, ReadsAll.cons ha hb'⟩
theorem reads_list {h : Heap} {l : Addr} {es : List Ent} (hl : h.IsList l (refsOf es).toArray) (hb : Bears h es) : ∃ as, Reads h (.ref l) (.list (rowsD (tabOf es))) as := by
  obtain ⟨o, ho, hc, n, hd⟩ := hl
  obtain ⟨as, ha⟩ := reads_rows hb
  exact ⟨_, Reads.list ho hc hd (by simpa using ha)⟩
section
variable {prog : Program} {w : World} {A : Around} {E : Value → Shared → Prop} {s : Shared} {Q : Value → Shared → Prop}
theorem same_len (c d : List (Str × Int)) (h : c = [] ∧ d ≠ [] ∨ c ≠ [] ∧ d = []) : PySem.Spec.sameAll (rowsD c) (rowsD d) = false := by
  rcases h with ⟨rfl, h⟩ | ⟨h, rfl⟩
  · cases d with
    | nil => exact absurd rfl h
    | cons p d => simp [rowsD, PySem.Spec.sameAll]
  · cases c with
    | nil => exact absurd rfl h
    | cons p c => simp [rowsD, PySem.Spec.sameAll]
theorem ne_nil {a b : Addr} {fs : List Ent} (hl : s.heap.IsList a (refsOf fs).toArray) (hb : Bears s.heap fs) (hn : s.heap.IsList b #[]) (hu : A.units + 64 < cLine) (h : Q (.bool (!fs.isEmpty)) s) :
    wpAny (model prog w) A (compareOp .NotEq (.ref a) (.ref b)) Q E s := by
  obtain ⟨as, r1⟩ := reads_list hl hb
  obtain ⟨bs, r2⟩ := reads_list (es := []) (l := b) (h := s.heap) hn (fun _ h => nomatch h)
  refine ne_dataH_same r1 r2 (shaped_rows _) (shaped_rows _) hu (by simp only [noMix]; exact mix_rows _ _) ?_
  simp only [PySem.Spec.same]
  cases fs with
  | nil =>
    have e : PySem.Spec.sameAll (rowsD (tabOf [])) (rowsD (tabOf [])) = true := PySem.Spec.sameAll_self _
    rw [e]; exact h
  | cons e fs =>
    have e9 : PySem.Spec.sameAll (rowsD (tabOf (e :: fs))) (rowsD (tabOf [])) = false := same_len _ _ (.inr ⟨by simp [tabOf], rfl⟩)
    rw [e9]; exact h
theorem eq_rows {a b : Addr} {es fs : List Ent} (hl : s.heap.IsList a (refsOf fs).toArray) (hb : Bears s.heap fs) (hl' : s.heap.IsList b (refsOf es).toArray) (hb' : Bears s.heap es) (he : tabOf fs = tabOf es) (hu : A.units + 64 < cLine) (h : Q (.bool true) s) :
    wpAny (model prog w) A (compareOp .Eq (.ref a) (.ref b)) Q E s := by
  obtain ⟨as, r1⟩ := reads_list hl hb
  obtain ⟨bs, r2⟩ := reads_list hl' hb'
  refine eq_dataH_same r1 r2 (shaped_rows _) (shaped_rows _) hu (by simp only [noMix]; exact mix_rows _ _) ?_
  simp only [PySem.Spec.same]
  rw [he, PySem.Spec.sameAll_self]
  exact h
end
theorem codes_inj {a b : Str} (h : codes a = codes b) : a = b := by
  obtain ⟨⟨la⟩⟩ := a
  obtain ⟨⟨lb⟩⟩ := b
  have h' : la.map (fun (c : Nat) => (c : Int)) = lb.map (fun (c : Nat) => (c : Int)) := h
  have := List.map_inj_right (f := fun (c : Nat) => (c : Int)) (fun x y e => Int.ofNat.inj e) |>.mp h'
  rw [this]
theorem codes_dec (a b : Str) : decide (codes a = codes b) = decide (a = b) := by
  by_cases h : a = b
  · rw [h]; simp
  · rw [decide_eq_false h, decide_eq_false fun e => h (codes_inj e)]
/-- is it there, and where -/
theorem there_cases {es : List Ent} (hok : EsOk es) (tt : Str) :
    (es.filter (fun e => decide (e.t = tt)) = [] ∧ kdpHas (tabOf es) tt = false ∧ es.filter (fun e => !decide (e.t = tt)) = es) ∨
    ∃ pre e post, es = pre ++ e :: post ∧ e.t = tt ∧ es.filter (fun e => decide (e.t = tt)) = [e] ∧ kdpHas (tabOf es) tt = true ∧ (∀ x ∈ pre, x.t ≠ tt) ∧ (∀ x ∈ post, x.t ≠ tt) := by
  by_cases h : ∃ e ∈ es, e.t = tt
  · right
    obtain ⟨e, he, ht⟩ := h
    obtain ⟨pre, post, rfl⟩ := List.append_of_mem he
    have nd := hok.nodup
    rw [List.map_append, List.map_cons] at nd
    obtain ⟨_, n2, n3⟩ := List.nodup_append.mp nd
    obtain ⟨n4, _⟩ := List.nodup_cons.mp n2
    have h1 : ∀ x ∈ pre, x.t ≠ tt := fun x hx => ht ▸ n3 _ (List.mem_map_of_mem hx) _ (.head _)
    have h2 : ∀ x ∈ post, x.t ≠ tt := fun x hx q => n4 (by rw [ht, ← q]; exact List.mem_map_of_mem hx)
    refine ⟨pre, e, post, rfl, ht, ?_, ?_, h1, h2⟩
    · rw [List.filter_append, List.filter_cons, if_pos (by simpa using ht)]
      have e1 : pre.filter (fun e => decide (e.t = tt)) = [] := List.filter_eq_nil_iff.mpr fun x hx => by simpa using h1 x hx
      have e2 : post.filter (fun e => decide (e.t = tt)) = [] := List.filter_eq_nil_iff.mpr fun x hx => by simpa using h2 x hx
      rw [e1, e2]
      rfl
    · unfold kdpHas tabOf
      rw [List.any_eq_true]
      exact ⟨(e.t, e.n), List.mem_map_of_mem (f := fun e : Ent => (e.t, e.n)) he, by simpa using ht⟩
  · left
    have hn : ∀ x ∈ es, x.t ≠ tt := fun x hx q => h ⟨x, hx, q⟩
    refine ⟨List.filter_eq_nil_iff.mpr fun x hx => by simpa using hn x hx, ?_, List.filter_eq_self.mpr fun x hx => by simpa using hn x hx⟩
    unfold kdpHas tabOf
    rw [List.any_map, List.any_eq_false]
    intro x hx
    simpa using hn x hx
end Mine

end
section
namespace Mine
open PyProof.V PySem.SeqAt
section
variable {prog : Program} {w : World} {A : Around} {h₀ : Heap} {L : Addr} {m : Str → Option Value} {env : Env} {ct elt : Expr} {x : Str} {scope : Scope} {cl : List (Str × Addr)}
/-- the rows that a test picks -/
theorem comp_rows {Fin : Shared → List Value → List (Addr × Obj) → Prop} {ax : Addr} {es : List Ent} {k : Nat} {news : List (Addr × Obj)} {s₁ : Shared} (p : Ent → Bool)
    (hh : A.handled = none) (F : Fr h₀ L s₁.heap m) (N : News h₀ L s₁.heap news) (hm : (ax, listOf (refsOf es).toArray k) ∈ news) (hlen : es.length ≤ 1000)
    (turn : ∀ (e : Ent) (ys : List Value) (I : Addr) (oI : Obj) (C : Addr) (oC : Obj) (D : Addr) (m₂ : Str → Option Value) (h : Heap) (tk : Nat) (E' : Value → Shared → Prop), e ∈ es → LCg.SrcAt h₀ ax (refsOf es).toArray news → LCg.NsObj oC m₂ → m₂ x = some (.ref e.a) → Fr h₀ L h m → News h₀ L h ((I, oI) :: (C, oC) :: (D, LCg.lst ys) :: news) → LCg.Off3 I C D news → ((@Ne Nat I C) ∧ (@Ne Nat I D) ∧ (@Ne Nat C D)) →
      wpAny (model prog w) A (isTrue ct (compEnvC scope cl C env) (eval ct (compEnvC scope cl C env))) (fun ok s' => if ok = true then
        wpAny (model prog w) A (eval elt (compEnvC scope cl C env)) (LCg.CompEnd h₀ L m { s₁ with heap := h, toks := tk } I oI C oC D (LCg.lst ys) (LCg.SrcAt h₀ ax (refsOf es).toArray) (fun y nw' => nw' = news ∧ p e = true ∧ y = .ref e.a)) E' s'
        else LCg.CompEnd h₀ L m { s₁ with heap := h, toks := tk } I oI C oC D (LCg.lst ys) (LCg.SrcAt h₀ ax (refsOf es).toArray) (fun _ nw' => nw' = news ∧ p e = false) Value.none s') E' { s₁ with heap := h, toks := tk })
    (fin : ∀ g, Fin { s₁ with heap := g } (refsOf (es.filter p)) news) : LCt.CompSrcT prog w A h₀ L m env ct elt x scope cl Fin (.ref ax) s₁ := by
  have hl : (refsOf es).length = es.length := by unfold refsOf; exact List.length_map ..
  refine LCt.CompSrcT.ledger hh F N hm (by rw [List.size_toArray, hl, sizeLine_eq]; omega) fun g => ?_
  have e : (refsOf es).toArray.size = es.length := by rw [List.size_toArray, hl]
  rw [e]
  refine comp_restT (fun i ys => ys = refsOf ((es.take i).filter p)) rfl ?_ ?_
  · rintro i ys v I oI C oC D m₂ h tk E' hi rfl hv hC hx F' N' off ne
    have hv' : (refsOf es)[i]? = some v := by simpa using hv
    have hv2 : v = .ref es[i].a := by
      unfold refsOf at hv'
      rw [List.getElem?_map, List.getElem?_eq_getElem hi] at hv'
      exact (Option.some.inj hv').symm
    subst hv2
    have et : es.take (i + 1) = es.take i ++ [es[i]] := by rw [List.take_add_one, List.getElem?_eq_getElem hi]; rfl
    refine wpAny_mono (turn es[i] _ I oI C oC D m₂ h tk E' (List.getElem_mem hi) (.inr ⟨_, hm, rfl, _, rfl⟩) hC hx F' N' off ne) (fun ok s₂ hq => ?_) fun _ _ e => e
    cases ok with
    | true =>
      simp only [if_true] at hq ⊢
      refine wpAny_mono hq (fun y s₃ hq' => ?_) fun _ _ e => e
      obtain ⟨h', tk', nw', e9, F'', N'', off', hS, rfl, hp, rfl⟩ := hq'
      refine ⟨h', tk', _, e9, F'', N'', off', hS, rfl, ?_⟩
      rw [et, List.filter_append, List.filter_cons, if_pos hp]
      unfold refsOf
      rw [List.map_append]
      rfl
    | false =>
      simp only [Bool.false_eq_true, if_false] at hq ⊢
      obtain ⟨h', tk', nw', e9, F'', N'', off', hS, rfl, hp⟩ := hq
      refine ⟨h', tk', _, e9, F'', N'', off', hS, rfl, ?_⟩
      rw [et, List.filter_append, List.filter_cons, if_neg (by rw [hp]; simp), List.filter_nil, List.append_nil]
  · rintro ys rfl
    rw [List.take_length]
    exact fin g
end
end Mine

end
section
namespace Mine
open PyProof.V PySem.SeqAt
local macro_rules | `(tactic| walk_at $s:str) => `(tactic| k_extra $s)
local macro_rules | `(tactic| k_all) => `(tactic| with_reducible assumption)
local macro_rules | `(tactic| walk_at "mine comp") => `(tactic| (k_dflt (refine comp_text (_F₀ := by k_asm) (by with_unfolding_all rfl) (by decide) (by rfl) (by decide) (by rfl) ?_)))
local macro_rules | `(tactic| walk_at "mine compT") => `(tactic| (k_dflt (refine LCt.ListComp_T (F₀ := by k_asm) (by with_unfolding_all rfl) (by decide) (by rfl) (by decide) (by rfl) ?_)))
theorem fmod16 (x : Int) : 0 ≤ x.fmod 16 ∧ x.fmod 16 < 16 := ⟨Int.fmod_nonneg_of_pos _ (by decide), Int.fmod_lt_of_pos _ (by decide)⟩
theorem fmod2 (x : Int) : 0 ≤ x.fmod 2 ∧ x.fmod 2 < 2 := ⟨Int.fmod_nonneg_of_pos _ (by decide), Int.fmod_lt_of_pos _ (by decide)⟩
theorem ok_nul : OkS (Str.ofString "\x00") 1 := by unfold OkS; decide
theorem abs3 {h₀ h : Heap} {L sg aT aR : Addr} {x y z d e : Addr × Obj} {r l o : List (Addr × Obj)} (N : News h₀ L h (x :: y :: z :: ((d :: e :: r) ++ (l ++ o)))) (hA : ∀ p ∈ (d :: e :: r) ++ (l ++ o), p.1 ≠ sg ∧ p.1 ≠ aT ∧ p.1 ≠ aR) :
    ∃ R, News h₀ L h (x :: y :: z :: d :: e :: R) ∧ (@Ne Nat d.1 sg ∧ @Ne Nat d.1 aT ∧ @Ne Nat d.1 aR) ∧ (@Ne Nat e.1 sg ∧ @Ne Nat e.1 aT ∧ @Ne Nat e.1 aR) ∧ (∀ p ∈ R, p.1 ≠ sg) ∧ (∀ p ∈ R, p.1 ≠ aT) ∧ (∀ p ∈ R, p.1 ≠ aR) ∧ (∀ q ∈ l, q ∈ R) ∧ (∀ q ∈ (d :: e :: r) ++ (l ++ o), q ∈ d :: e :: R) := by
  refine ⟨r ++ (l ++ o), N, hA d (.head _), hA e (.tail _ (.head _)), fun p hp => (hA p (.tail _ (.tail _ hp))).1, fun p hp => (hA p (.tail _ (.tail _ hp))).2.1, fun p hp => (hA p (.tail _ (.tail _ hp))).2.2, fun q hq => List.mem_append_right _ (List.mem_append_left _ hq), fun q hq => hq⟩
theorem row_mem {es : List Ent} {e : Ent} (he : e ∈ es) : (e.a, rowO e) ∈ entL es := List.mem_flatMap.mpr ⟨e, he, .head _⟩
theorem sg_mem {es : List Ent} {e : Ent} (he : e ∈ es) : (e.b, sgO e) ∈ entL es := List.mem_flatMap.mpr ⟨e, he, .tail _ (.head _)⟩
theorem row_list {h₀ h : Heap} {L : Addr} {news : List (Addr × Obj)} {e : Ent} (N : News h₀ L h news) (hm : (e.a, rowO e) ∈ news) : h.IsList e.a [Value.ref e.b, Value.int e.n e.tn].toArray := ⟨_, (N _ hm).1, rfl, _, rfl⟩
theorem sg_list {h₀ h : Heap} {L : Addr} {news : List (Addr × Obj)} {e : Ent} (N : News h₀ L h news) (hm : (e.b, sgO e) ∈ news) : h.IsList e.b e.ys.toArray := ⟨_, (N _ hm).1, rfl, _, rfl⟩
theorem lst_list {h₀ h : Heap} {L D : Addr} {news : List (Addr × Obj)} {ys : List Value} (N : News h₀ L h news) (hm : (D, LCg.lst ys) ∈ news) : h.IsList D ys.toArray := ⟨_, (N _ hm).1, rfl, _, rfl⟩
local macro_rules | `(tactic| walk_at "mine bare") => `(tactic| (repeat (rename _ => z9; revert z9)))
set_option maxHeartbeats 8000000 in
noncomputable def pk2 : { P : Prop × Prop // Hide P.1 → Hide P.2 → pk1.1.1 } := park2 _ _ fun hid1 hid2 => by
  intro _
  k_fill
  intros
  rename_i es oT kvs aR rn oS vS i k t u h tk own hi hl hes hTd hTf hS hne htl hoff hST hRS hRT hAll F₁ N₁
  obtain ⟨R, N₂, ⟨hd1, hd2, hd3⟩, ⟨he1, he2, he3⟩, hR1, hR2, hR3, hRe, hRm⟩ := abs3 N₁ hAll
  clear N₁
  have hST' : @Ne Nat _ _ := hST
  have hRS' : @Ne Nat _ _ := hRS
  have hRT' : @Ne Nat _ _ := hRT
  have kMark := kstMark
  k_with_none
  k_with "subscriptTail Name BinOp ref int" => (
    (k_dflt (refine item_piece (k := 2) (news_tup (by k_asm) (by with_unfolding_all k_memK)) (.cons _ _ (.cons _ _ (.cons _ _ (.cons _ _ (.cons _ _ (.cons _ _ (.cons _ _ (.cons _ _ (.cons _ _ (.cons _ _ (.cons _ _ (.cons _ _ (.cons _ _ (.cons _ _ (.cons _ _ (.cons _ _ .nil)))))))))))))))) rfl (by unfold OkS; decide +kernel) (fmod16 _).1 (fmod16 _).2 ?_ (by with_unfolding_all rfl)))
    intro y9 t9 hy9)
  k_with "binaryOp Mult str int" => (
    (refine mul_ok ok_nul (by decide) (fmod2 _).1 (fmod2 _).2 ?_)
    intro yn tn kn hyn)
  k_with "binaryOp Add str str" => (
    (refine add_ok (by assumption) (by assumption) (by decide) ?_)
    intro ya ta ka hya)
  k_with "exec Assign cons ListComp" => (
    lct_look
    k_dflt (refine LCt.Assign_ListComp_T (F₀ := by k_asm) (by rfl) (by with_unfolding_all rfl) (by with_unfolding_all rfl) (by decide) (by rfl) (by decide) (by rfl) (by rfl) (by rfl) ?_))
  k_with "CompSrcT" => (
    (k_dflt (refine comp_rows (fun e => decide (e.t = ya)) (by with_unfolding_all rfl) (by k_asm) (by k_asm) (by with_unfolding_all k_memK) (Nat.le_trans hl (by omega)) ?tt ?tf))
    case' tt =>
      intro e9 zs I oI C oC D m₂ h9 tk9 E' he9 hsrc hC hx F' N' off ne
      have hm9 := hRe _ (row_mem he9)
      have hm8 := hRe _ (sg_mem he9)
    case' tf =>
      intro g9
      rcases there_cases hes ya with ⟨hf0, hh0, hg0⟩ | ⟨pre, e0, post, hes0, het0, hf0, hh0, hpre, hpost⟩
      case' inl =>
        rw [hf0]
        walk_at "mine bare"; intro h1 h2; exact apT h1.out
      case' inr =>
        rw [hf0]
        walk_at "mine bare"; intro h1 h2; exact apT h2.out)
  k_with "subscriptTail Name Constant ref int" => (
    k_dflt (refine item_litK (row_list (by k_asm) (by (repeat' (first | exact hm9 | apply List.Mem.tail)))) (by decide) (by decide) rfl ?_ (by with_unfolding_all rfl)))
  k_with "compareOp Eq ref ref" => (
    k_dflt (refine eq_intsK (sg_list (by k_asm) (by (repeat' (first | exact hm8 | apply List.Mem.tail)))) (hes.iv _ he9) (lst_list (by k_asm) (by k_memK)) hys (by first | k_units | ktr_units) ?_)
    rw [codes_dec]
    cases hpe : decide (e9.t = ya))
  k_with "CompEnd" => ((rename News _ _ _ _ => nE); first | exact LCg.CompEnd.intro (by k_asm) nE _ (fun _ h => h) (by assumption) (by assumption) ⟨rfl, (by first | exact hpe | rfl), rfl⟩ | exact LCg.CompEnd.intro (by k_asm) nE _ (fun _ h => h) (by assumption) (by assumption) ⟨rfl, (by first | exact hpe | rfl)⟩)
  k_with "eval ListComp" => (
    (rename OkS _ _ => hTx)
    walk_at "mine comp")
  k_with "TextSrc" => (
    (refine text_codes (by with_unfolding_all rfl) (by k_asm) (by k_asm) (by (rw [sizeLine_eq]; exact Nat.le_trans hTx.1 (by decide))) ?ct ?cf)
    case' ct =>
      intro c9 u9 ys I oI C oC D m₂ h9 tk9 E' hc9 hC hx F' N' off ne
      have hc8 := (hTx.okT (by decide)).2 _ hc9
    case' cf => intro ys g hys)
  k_with "CompEnd" => ((rename News _ _ _ _ => nE); exact LCg.CompEnd.intro (by k_asm) nE _ (fun _ h => h) (by assumption) trivial ⟨rfl, _, rfl⟩)
  k_steps
end Mine

end
section
namespace Mine
open PyProof.V PySem.SeqAt
theorem off1_ne {D : Addr} : ∀ {R : List (Addr × Obj)}, LCg.Off1 D R → ∀ q ∈ R, q.1 ≠ D
  | [], _, _, h => nomatch h
  | p :: R, ⟨h1, h2⟩, q, hq => by
    rcases List.mem_cons.mp hq with rfl | hq
    · exact h1
    · exact off1_ne h2 q hq
theorem allLt_ne {D : Addr} : ∀ {R : List (Addr × Obj)}, AllLt D R → ∀ q ∈ R, q.1 ≠ D
  | [], _, _, h => nomatch h
  | p :: R, ⟨h1, h2⟩, q, hq => by
    rcases List.mem_cons.mp hq with rfl | hq
    · exact Nat.ne_of_lt h1
    · exact allLt_ne h2 q hq
theorem put_new {c : List (Str × Int)} {k : Str} {v : Int} (h : kdpHas c k = false) : kdpPut c k v = c ++ [(k, v)] := by
  unfold kdpPut
  unfold kdpHas at h
  rw [if_neg (by rw [h]; simp)]
theorem entL_append (es fs : List Ent) : entL (es ++ fs) = entL es ++ entL fs := by unfold entL; exact List.flatMap_append
theorem filter_t {es : List Ent} {ya : Str} (h : es.filter (fun e => decide (e.t = ya)) = []) : ya ∉ es.map (·.t) := by
  intro hm
  obtain ⟨e, he, ht⟩ := List.mem_map.mp hm
  have := List.filter_eq_nil_iff.mp h e he
  simp [ht] at this
section
variable {prog : Program} {w : World} {h₀ : Heap} {x : Str} {sg aT aR lX : Addr} {vs : List Value} {nX : Nat} {m₀ : Str → Option Value} {d e : Addr × Obj} {r R : List (Addr × Obj)} {L : Addr} {m' : Str → Option Value} {own news' : List (Addr × Obj)} {s₁ : Shared} {h' : Heap} {tk i rn : Nat} {es : List Ent} {oT' oS' : Obj} {kvs' : List (Str × Value)} {vS' : Option Value} {ya : Str} {ys : List Value}
/-- a turn that puts a new text in -/
theorem endIns {a1 D : Addr} {t1 : Tok} (F : Fr h₀ L h' m') (N : News h₀ L h' news')
    (n1 : (a1, listOf #[.ref D, .int 1 t1] 0) ∈ news') (n2 : (D, LCg.lst ys) ∈ news') (n3 : (sg, oS') ∈ news') (n4 : (aT, oT') ∈ news') (n5 : (aR, listOf ((refsOf es).toArray.push (.ref a1)) (rn + 1)) ∈ news') (n6 : ∀ q ∈ d :: e :: R, q ∈ news') (hRm : ∀ q ∈ (d :: e :: r) ++ (entL es ++ own), q ∈ d :: e :: R) (hX : (lX, listOf vs.toArray nX) ∈ d :: e :: r)
    (hl : es.length ≤ i) (hes : EsOk es) (hTx : OkS ya 5) (hys : IntsAre ys (codes ya)) (hf0 : es.filter (fun e => decide (e.t = ya)) = []) (hh0 : kdpHas (tabOf es) ya = false) (hTd : Obj.IsDictOf (PySem.strKind prog w) oT' kvs') (hTf : FlatPairs PyData.str kvs' (kdpD (kdpPut (tabOf es) ya 1))) (hcl : oS'.data = .cell vS')
    (hne : ∀ b ∈ sg :: aT :: (d :: e :: r).map (·.1), aR ≠ b) (htl : OwnOff (entL es) (sg :: aT :: aR :: (d :: e :: r).map (·.1))) (hoff : OwnOff own (sg :: aT :: aR :: ((d :: e :: r) ++ entL es).map (·.1)))
    (ha : (@Ne Nat a1 sg ∧ @Ne Nat a1 aT ∧ @Ne Nat a1 aR) ∧ ∀ q ∈ d :: e :: R, q.1 ≠ a1) (hd : (@Ne Nat D sg ∧ @Ne Nat D aT ∧ @Ne Nat D aR) ∧ ∀ q ∈ d :: e :: R, q.1 ≠ D)
    (hk : m' (Str.ofString "rows") = some (.ref aR)) (hm : ∀ z, z ≠ x → z ≠ Str.ofString "rows" → stored3.contains z = false → m' z = m₀ z) :
    InvEndG h₀ L (J3 prog w lX vs nX sg aT (d :: e :: r) x m₀ (i + 1)) own s₁ { s₁ with heap := h', toks := tk } := by
  have hnew : entL (es ++ [⟨a1, D, ya, 1, t1, 0, ys.length, ys⟩]) = entL es ++ [(a1, listOf #[.ref D, .int 1 t1] 0), (D, LCg.lst ys)] := by
    rw [entL_append]
    rfl
  have hrefs : (refsOf (es ++ [⟨a1, D, ya, 1, t1, 0, ys.length, ys⟩])).toArray = (refsOf es).toArray.push (.ref a1) := by
    unfold refsOf
    rw [List.map_append]
    simp
  have htab : tabOf (es ++ [⟨a1, D, ya, 1, t1, 0, ys.length, ys⟩]) = kdpPut (tabOf es) ya 1 := by
    rw [put_new hh0]
    unfold tabOf
    rw [List.map_append]
    rfl
  refine end3 (es ++ [⟨a1, D, ya, 1, t1, 0, ys.length, ys⟩]) oT' kvs' aR (rn + 1) oS' vS' F N ?_ hX (by simp; omega) ?_ hTd (by rw [htab]; exact hTf) hcl hne ?_ ?_ hk hm
  · rw [hnew, hrefs]
    intro q hq
    simp only [List.mem_cons, List.mem_append, List.not_mem_nil, or_false] at hq
    have back : q ∈ (d :: e :: r) ++ (entL es ++ own) → q ∈ news' := fun hh => n6 q (hRm q hh)
    rcases hq with q1 | q1 | q1 | ((q1 | q1 | q1) | ((q1 | q1 | q1) | q1))
    · rw [q1]; exact n3
    · rw [q1]; exact n4
    · rw [q1]; exact n5
    · exact back (by simp [q1])
    · exact back (by simp [q1])
    · exact back (by simp [q1])
    · exact back (by simp [q1])
    · rw [q1]; exact n1
    · rw [q1]; exact n2
    · exact back (by simp [q1])
  · refine ⟨fun e he => ?_, fun e he => ?_, ?_⟩
    · rcases List.mem_append.mp he with he | he
      · exact hes.iv e he
      · rw [List.mem_singleton.mp he]; exact hys
    · rcases List.mem_append.mp he with he | he
      · exact hes.ok e he
      · rw [List.mem_singleton.mp he]; exact hTx.okT (by decide)
    · rw [List.map_append]
      refine List.nodup_append.mpr ⟨hes.nodup, by simp, fun a ha b hb => ?_⟩
      have : b = ya := by simpa using hb
      rw [this]
      rintro rfl
      exact filter_t hf0 ha
  · rw [hnew]
    intro q hq b hb
    rcases List.mem_append.mp hq with hq | hq
    · exact htl q hq b hb
    · have hb' : b = sg ∨ b = aT ∨ b = aR ∨ ∃ p ∈ d :: e :: R, p.1 = b := by
        rcases List.mem_cons.mp hb with rfl | hb
        · exact .inl rfl
        · rcases List.mem_cons.mp hb with rfl | hb
          · exact .inr (.inl rfl)
          · rcases List.mem_cons.mp hb with rfl | hb
            · exact .inr (.inr (.inl rfl))
            · obtain ⟨p, hp, rfl⟩ := List.mem_map.mp hb
              exact .inr (.inr (.inr ⟨p, hRm p (List.mem_append_left _ hp), rfl⟩))
      have two : q.1 = a1 ∨ q.1 = D := by
        rcases List.mem_cons.mp hq with rfl | hq
        · exact .inl rfl
        · rw [List.mem_singleton.mp hq]; exact .inr rfl
      rcases two with e1 | e1 <;> rw [e1]
      · rcases hb' with rfl | rfl | rfl | ⟨p, hp, rfl⟩
        · exact ha.1.1
        · exact ha.1.2.1
        · exact ha.1.2.2
        · exact Ne.symm (ha.2 p hp)
      · rcases hb' with rfl | rfl | rfl | ⟨p, hp, rfl⟩
        · exact hd.1.1
        · exact hd.1.2.1
        · exact hd.1.2.2
        · exact Ne.symm (hd.2 p hp)
  · intro q hq b hb
    have hqR := hRm q (List.mem_append_right _ (List.mem_append_right _ hq))
    rw [hnew, ← List.append_assoc, List.map_append] at hb
    rcases List.mem_cons.mp hb with h1 | hb
    · exact hoff q hq b (by rw [h1]; exact .head _)
    · rcases List.mem_cons.mp hb with h1 | hb
      · exact hoff q hq b (by rw [h1]; exact .tail _ (.head _))
      · rcases List.mem_cons.mp hb with h1 | hb
        · exact hoff q hq b (by rw [h1]; exact .tail _ (.tail _ (.head _)))
        · rcases List.mem_append.mp hb with hb | hb
          · exact hoff q hq b (.tail _ (.tail _ (.tail _ hb)))
          · simp only [List.map_cons, List.map_nil, List.mem_cons, List.not_mem_nil, or_false] at hb
            rcases hb with rfl | rfl
            · exact ha.2 q hqR
            · exact hd.2 q hqR
end
end Mine

end
section
namespace Mine
open PyProof.V PySem.SeqAt
local macro_rules | `(tactic| walk_at $s:str) => `(tactic| k_extra $s)
local macro_rules | `(tactic| k_all) => `(tactic| with_reducible assumption)
local macro_rules | `(tactic| walk_at "mine xfrm") => `(tactic| (k_dflt (refine' use_gives (xfrm_gives _ _ _) ?k1 ?k2 ?k3 ?k4 ?k5 ?k6 ?k7 ?k8 ?_; (case k1 => k_asm); (case k2 => k_asm); (case k3 => k_asm); (case k4 => k_asm); (case k5 => exact rfl); (case k6 => exact trivial); (case k7 => ktr_room); (case k8 => ktr_units)); unfold Back))
theorem tab_at {prog : Program} {w : World} {h₀ h : Heap} {L d : Addr} {news : List (Addr × Obj)} {o : Obj} {kvs : List (Str × Value)} {c : List (Str × Int)} (N : News h₀ L h news) (hm : (d, o) ∈ news) (lo : (d == sysModules) = false) (hd : Obj.IsDictOf (PySem.strKind prog w) o kvs) (hf : FlatPairs PyData.str kvs (kdpD c)) : StrTab prog w h d (kdpD c) :=
  ⟨lo, kvs, Heap.dictOf_iff.mpr ⟨o, (N _ hm).1, hd⟩, hf⟩
theorem refs_len (es : List Ent) : (refsOf es).length = es.length := by unfold refsOf; exact List.length_map ..
theorem tab_len (es : List Ent) : (tabOf es).length = es.length := by unfold tabOf; exact List.length_map ..
theorem stored3_out {z : Str} (h : stored3.contains z = false) : z ≠ Str.ofString "text" ∧ z ≠ Str.ofString "there" ∧ z ≠ Str.ofString "key" := by
  refine ⟨?_, ?_, ?_⟩ <;> (rintro rfl; simp at h)
local macro_rules | `(tactic| walk_at "mine ne") => `(tactic| (with_reducible first | exact Nat.ne_of_gt (by assumption) | exact Nat.ne_of_lt (by assumption) | assumption | exact Ne.symm (by assumption)))
set_option maxHeartbeats 8000000 in
theorem c1 : pk2.1.1 := by
  intro _
  k_fill
  intros
  rename_i es oT kvs aR rn oS vS i k t u h tk own hi hl hes hTd hTf hS hne htl hoff hST hRS hRT hAll F₁ R N₂ hd1 hd2 hd3 he1 he2 he3 hR1 hR2 hR3 hRe hRm hST' hRS' hRT' kMk y1 ty1 hy1 yn tyn kyn hyn yb tyb kyb hyb y2 ty2 hy2 ya tya kya hTx hq1 ys gq hys D hq2 tkq hoD hq3 oS' Fq Nq hcl tkq2 g9 hf0 hh0 hg0
  dsimp only at hd1 hd2 hd3 he1 he2 he3
  have kLr := refs_len es
  have kMark := kstMark
  k_with_none
  k_with "call ref" => (
    walk_at "mine xfrm"
    intro r tl h3 tk3 F3 hkeep hnew hOut
    obtain ⟨rfl, rfl⟩ := hOut
    have N3 := back_news (by k_asm) (by k_asm) hkeep hnew
    simp only [List.nil_append] at N3
    clear hkeep hnew)
  k_with "compareOp In str ref" => (
    (k_dflt (refine kdp_in (tab_at (by k_asm) (by k_memK) (by assumption) hTd hTf) ?_))
    rw [hh0])
  k_with "compareOp NotEq ref ref" => (
    (k_dflt (refine ne_nil (fs := []) (lst_list (by k_asm) (by k_memK)) (fun _ h => nomatch h) (news_list (vs := []) (by k_asm) (by k_memK)) (by first | k_units | ktr_units) ?_))
    simp only [List.isEmpty_nil, Bool.not_true])
  k_with "setItem ref str" => (
    (k_dflt (refine kdp_setItem (by k_asm) (by k_asm) (by k_updF) hTd hTf (by rw [tab_len]; omega) ?_))
    intro h' oT' kvs' F' N' hTd' hTf')
  k_with "call builtin:list.append" => (
    (k_dflt (refine' append_K ?k1 ?k2 ?k3 ?_ ?z; (case k1 => k_asm); (case k2 => k_asm); (case k3 => k_upd); (case z => exact (by rw [List.size_toArray, sizeLine_eq]; omega))))
    intro h' F' N')
  k_with "InvEndG" => (
    (rename News _ _ _ _ => nE)
    (repeat (with_reducible rename (_ ∧ _) => hA9; obtain ⟨hB9, hC9⟩ := hA9))
    exact endIns (by k_asm) nE (by k_memK) (by k_memK) (by k_memK) (by k_memK) (by k_memK) (fun q9 hq9 => by (repeat' (first | exact hq9 | apply List.Mem.tail))) hRm (by with_unfolding_all k_memK) hl hes hTx hys hf0 hh0 hTd' hTf' hcl hne htl hoff ⟨⟨by walk_at "mine ne", by walk_at "mine ne", by walk_at "mine ne"⟩, List.forall_mem_cons.mpr ⟨by walk_at "mine ne", List.forall_mem_cons.mpr ⟨by walk_at "mine ne", allLt_ne (by assumption)⟩⟩⟩ ⟨⟨by walk_at "mine ne", by walk_at "mine ne", by walk_at "mine ne"⟩, List.forall_mem_cons.mpr ⟨by walk_at "mine ne", List.forall_mem_cons.mpr ⟨by walk_at "mine ne", off1_ne (by assumption)⟩⟩⟩ (by rfl) (by intro z h1 h2 h3; obtain ⟨h4, h5, h6⟩ := stored3_out h3; simp only [if_neg h1, if_neg h2, if_neg h4, if_neg h5, if_neg h6, h3, Bool.false_eq_true, if_false]))
  k_steps
end Mine

end
section
namespace Mine
open PyProof.V PySem.SeqAt
local macro_rules | `(tactic| walk_at $s:str) => `(tactic| k_extra $s)
local macro_rules | `(tactic| k_all) => `(tactic| with_reducible assumption)
local macro_rules | `(tactic| walk_at "mine xfrm") => `(tactic| (k_dflt (refine' use_gives (xfrm_gives _ _ _) ?k1 ?k2 ?k3 ?k4 ?k5 ?k6 ?k7 ?k8 ?_; (case k1 => k_asm); (case k2 => k_asm); (case k3 => k_asm); (case k4 => k_asm); (case k5 => exact rfl); (case k6 => exact trivial); (case k7 => ktr_room); (case k8 => ktr_units)); unfold Back))
local macro_rules | `(tactic| walk_at "mine ne") => `(tactic| (with_reducible first | exact Nat.ne_of_gt (by assumption) | exact Nat.ne_of_lt (by assumption) | assumption | exact Ne.symm (by assumption)))
local macro_rules | `(tactic| walk_at "mine bare") => `(tactic| (repeat (rename _ => z9; revert z9)))
theorem bears1 {h₀ h : Heap} {L : Addr} {news : List (Addr × Obj)} {e : Ent} (N : News h₀ L h news) (m1 : (e.a, rowO e) ∈ news) (m2 : (e.b, sgO e) ∈ news) (hi : IntsAre e.ys (codes e.t)) : Bears h [e] := by
  intro x hx
  rw [List.mem_singleton.mp hx]
  exact ⟨row_list N m1, sg_list N m2, hi⟩
set_option maxHeartbeats 8000000 in
noncomputable def pk3 : { P : Prop × Prop // Hide P.1 → Hide P.2 → pk2.1.2 } := park2 _ _ fun hid1 hid2 => by
  intro _
  k_fill
  intros
  rename_i es oT kvs aR rn oS vS i k t u h tk own hi hl hes hTd hTf hS hne htl hoff hST hRS hRT hAll F₁ R N₂ hd1 hd2 hd3 he1 he2 he3 hR1 hR2 hR3 hRe hRm hST' hRS' hRT' kMk y1 ty1 hy1 yn tyn kyn hyn yb tyb kyb hyb y2 ty2 hy2 ya tya kya hTx hq1 ys gq hys D hq2 tkq hoD hq3 oS' Fq Nq hcl tkq2 g9 pre e0 post hes0 het0 hf0 hh0 hpre hpost
  dsimp only at hd1 hd2 hd3 he1 he2 he3
  have kLr := refs_len es
  have he0 : e0 ∈ es := by rw [hes0]; simp
  have hm1 := hRe _ (row_mem he0)
  have hm2 := hRe _ (sg_mem he0)
  have kMark := kstMark
  k_with_none
  k_with "call ref" => (
    walk_at "mine xfrm"
    intro r tl h3 tk3 F3 hkeep hnew hOut
    obtain ⟨rfl, rfl⟩ := hOut
    have N3 := back_news (by k_asm) (by k_asm) hkeep hnew
    simp only [List.nil_append] at N3
    clear hkeep hnew)
  k_with "compareOp In str ref" => (
    (k_dflt (refine kdp_in (tab_at (by k_asm) (by k_memK) (by assumption) hTd hTf) ?_))
    rw [hh0])
  k_with "compareOp NotEq ref ref" => (
    (k_dflt (refine ne_nil (fs := [e0]) (lst_list (by k_asm) (by k_memK)) (bears1 (by k_asm) (by (repeat' (first | exact hm1 | apply List.Mem.tail))) (by (repeat' (first | exact hm2 | apply List.Mem.tail))) (hes.iv _ he0)) (news_list (vs := []) (by k_asm) (by k_memK)) (by first | k_units | ktr_units) ?_))
    simp only [List.isEmpty_cons, Bool.not_false])
  k_with "exec Delete" => (walk_at "mine bare"; intro h1 h2; exact apT h1.out)
  k_with "exec AugAssign Subscript" => (walk_at "mine bare"; intro h1 h2; exact apT h2.out)
  k_steps
end Mine

end
section
namespace Mine
open PyProof.V PySem.SeqAt
theorem del_tab (es : List Ent) (ya : Str) : kdzDel (tabOf es) ya = tabOf (es.filter fun e => !decide (e.t = ya)) := by
  unfold kdzDel tabOf
  rw [List.filter_map]
  rfl
theorem entL_sub {es fs : List Ent} (h : ∀ e ∈ fs, e ∈ es) : ∀ q ∈ entL fs, q ∈ entL es := by
  intro q hq
  obtain ⟨e, he, hq⟩ := List.mem_flatMap.mp hq
  exact List.mem_flatMap.mpr ⟨e, h e he, hq⟩
section
variable {prog : Program} {w : World} {h₀ : Heap} {x : Str} {sg aT aR lX : Addr} {vs : List Value} {nX : Nat} {m₀ : Str → Option Value} {d e : Addr × Obj} {r R : List (Addr × Obj)} {L : Addr} {m' : Str → Option Value} {own news' : List (Addr × Obj)} {s₁ : Shared} {h' : Heap} {tk i rn : Nat} {es : List Ent} {oT' oS' : Obj} {kvs' : List (Str × Value)} {vS' : Option Value} {ya : Str} {ys : List Value}
/-- a turn that takes a text out -/
theorem endDel {D : Addr} (F : Fr h₀ L h' m') (N : News h₀ L h' news')
    (n3 : (sg, oS') ∈ news') (n4 : (aT, oT') ∈ news') (n5 : (D, LCg.lst (refsOf (es.filter fun e => !decide (e.t = ya)))) ∈ news') (n6 : ∀ q ∈ d :: e :: R, q ∈ news') (hRm : ∀ q ∈ (d :: e :: r) ++ (entL es ++ own), q ∈ d :: e :: R) (hX : (lX, listOf vs.toArray nX) ∈ d :: e :: r)
    (hl : es.length ≤ i) (hes : EsOk es) (hTd : Obj.IsDictOf (PySem.strKind prog w) oT' kvs') (hTf : FlatPairs PyData.str kvs' (kdpD (kdzDel (tabOf es) ya))) (hcl : oS'.data = .cell vS')
    (htl : OwnOff (entL es) (sg :: aT :: aR :: (d :: e :: r).map (·.1))) (hoff : OwnOff own (sg :: aT :: aR :: ((d :: e :: r) ++ entL es).map (·.1)))
    (hd : (@Ne Nat D sg ∧ @Ne Nat D aT) ∧ ∀ q ∈ d :: e :: R, q.1 ≠ D)
    (hk : m' (Str.ofString "rows") = some (.ref D)) (hm : ∀ z, z ≠ x → z ≠ Str.ofString "rows" → stored3.contains z = false → m' z = m₀ z) :
    InvEndG h₀ L (J3 prog w lX vs nX sg aT (d :: e :: r) x m₀ (i + 1)) own s₁ { s₁ with heap := h', toks := tk } := by
  have hsub : ∀ y ∈ es.filter (fun e => !decide (e.t = ya)), y ∈ es := fun y hy => (List.mem_filter.mp hy).1
  have hsubL := entL_sub hsub
  refine end3 (es.filter fun e => !decide (e.t = ya)) oT' kvs' D (refsOf (es.filter fun e => !decide (e.t = ya))).length oS' vS' F N ?_ hX (Nat.le_succ_of_le (Nat.le_trans (List.length_filter_le _ _) hl)) ?_ hTd (by rw [← del_tab]; exact hTf) hcl ?_ ?_ ?_ hk hm
  · intro q hq
    have back : q ∈ (d :: e :: r) ++ (entL es ++ own) → q ∈ news' := fun hh => n6 q (hRm q hh)
    rcases List.mem_cons.mp hq with rfl | hq
    · exact n3
    · rcases List.mem_cons.mp hq with rfl | hq
      · exact n4
      · rcases List.mem_cons.mp hq with rfl | hq
        · exact n5
        · rcases List.mem_append.mp hq with hq | hq
          · exact back (List.mem_append_left _ hq)
          · rcases List.mem_append.mp hq with hq | hq
            · exact back (List.mem_append_right _ (List.mem_append_left _ (hsubL q hq)))
            · exact back (List.mem_append_right _ (List.mem_append_right _ hq))
  · exact ⟨fun y hy => hes.iv y (hsub y hy), fun y hy => hes.ok y (hsub y hy), List.Nodup.sublist (List.Sublist.map _ List.filter_sublist) hes.nodup⟩
  · intro b hb
    rcases List.mem_cons.mp hb with rfl | hb
    · exact hd.1.1
    · rcases List.mem_cons.mp hb with rfl | hb
      · exact hd.1.2
      · obtain ⟨p, hp, rfl⟩ := List.mem_map.mp hb
        exact Ne.symm (hd.2 p (hRm p (List.mem_append_left _ hp)))
  · intro q hq b hb
    have hq' := hsubL q hq
    rcases List.mem_cons.mp hb with rfl | hb
    · exact htl q hq' _ (.head _)
    · rcases List.mem_cons.mp hb with rfl | hb
      · exact htl q hq' _ (.tail _ (.head _))
      · rcases List.mem_cons.mp hb with rfl | hb
        · exact hd.2 q (hRm q (List.mem_append_right _ (List.mem_append_left _ hq')))
        · exact htl q hq' _ (.tail _ (.tail _ (.tail _ hb)))
  · intro q hq b hb
    rcases List.mem_cons.mp hb with rfl | hb
    · exact hoff q hq _ (.head _)
    · rcases List.mem_cons.mp hb with rfl | hb
      · exact hoff q hq _ (.tail _ (.head _))
      · rcases List.mem_cons.mp hb with rfl | hb
        · exact hd.2 q (hRm q (List.mem_append_right _ (List.mem_append_right _ hq)))
        · refine hoff q hq _ (.tail _ (.tail _ (.tail _ ?_)))
          obtain ⟨p, hp, rfl⟩ := List.mem_map.mp hb
          refine List.mem_map_of_mem ?_
          rcases List.mem_append.mp hp with hp | hp
          · exact List.mem_append_left _ hp
          · exact List.mem_append_right _ (hsubL p hp)
end
end Mine
namespace Mine
open PyProof.V PySem.SeqAt
section
variable {prog : Program} {w : World} {A : Around} {E : Value → Shared → Prop} {s : Shared} {h₀ : Heap} {L : Addr} {m : Str → Option Value} {news : List (Addr × Obj)} {Q : Unit → Shared → Prop}
/-- the ledger without an address -/
def offOf (a : Addr) (news : List (Addr × Obj)) : List (Addr × Obj) := news.filter fun p => decide (p.1 ≠ a)
theorem mem_off {a : Addr} {q : Addr × Obj} (h : q ∈ news) (hne : q.1 ≠ a) : q ∈ offOf a news := List.mem_filter.mpr ⟨h, by simpa using hne⟩
theorem set_row {e : Ent} {x : Int} {t u : Tok} (F : Fr h₀ L s.heap m) (N : News h₀ L s.heap news) (hm : (e.a, rowO e) ∈ news)
    (h : ∀ h', Fr h₀ L h' m → News h₀ L h' ((e.a, rowO { e with n := x, tn := u }) :: offOf e.a news) → Q () { s with heap := h' }) :
    wpAny (model prog w) A (setItem (.ref e.a) (.int 1 t) (.int x u)) Q E s := by
  have z := N _ hm
  have hs := Heap.SameBut.update s.heap e.a (Obj.mapSeq (·.setIfInBounds 1 (.int x u)))
  refine ki_setAt z.1 (by decide) (by decide) (by show (1 : Int) < ((2 : Nat) : Int); decide) (h _ (F.change hs z.2.1 z.2.2) fun p hp => ?_)
  rcases List.mem_cons.mp hp with rfl | hp
  · exact ⟨get?_update_seq z.1 _, z.2⟩
  · obtain ⟨h1, h2⟩ := List.mem_filter.mp hp
    have h3 : p.1 ≠ e.a := by simpa using h2
    exact ⟨(hs.2 p.1 h3).trans (N p h1).1, (N p h1).2⟩
end
end Mine

end
section
namespace Mine
open PyProof.V PySem.SeqAt
local macro_rules | `(tactic| walk_at $s:str) => `(tactic| k_extra $s)
local macro_rules | `(tactic| k_all) => `(tactic| with_reducible assumption)
local macro_rules | `(tactic| walk_at "mine ne") => `(tactic| (with_reducible first | exact Nat.ne_of_gt (by assumption) | exact Nat.ne_of_lt (by assumption) | assumption | exact Ne.symm (by assumption)))
set_option maxHeartbeats 8000000 in
theorem d1 : pk3.1.1 := by
  intro _
  k_fill
  intros
  rename_i es oT kvs aR rn oS vS i k t u h tk own hi hl hes hTd hTf hS hne htl hoff hST hRS hRT hAll F₁ R N₂ hd1 hd2 hd3 he1 he2 he3 hR1 hR2 hR3 hRe hRm hST' hRS' hRT' kMk y1 ty1 hy1 yn tyn kyn hyn yb tyb kyb hyb y2 ty2 hy2 ya tya kya hTx hq1 ys gq hys D hq2 tkq hoD hq3 oS' Fq Nq hcl tkq2 g9 pre e0 post hes0 het0 hf0 hh0 hpre hpost kLr he0 hm1 hm2 kMk2 D2 x1 x2 x3 x4 hoD2 x5 x6 x7 x8 x9 l1a x10 hl1 x11 l2a x12 x13 x14 hl2 hcond x15
  k_with_none
  k_with "delItem ref str" => (
    k_dflt (refine kdz_del (by k_asm) (by k_asm) (by k_updF) hTd hTf hh0 (by rw [tab_len]; omega) ?_)
    intro h' oT' kvs' F' N' hTd' hTf')
  k_with "exec Assign cons ListComp" => (
    lct_look
    k_dflt (refine LCt.Assign_ListComp_T (F₀ := by k_asm) (by rfl) (by with_unfolding_all rfl) (by with_unfolding_all rfl) (by decide) (by rfl) (by decide) (by rfl) (by rfl) (by rfl) ?_))
  k_with "CompSrcT" => (
    (k_dflt (refine comp_rows (fun e => !decide (e.t = ya)) (by with_unfolding_all rfl) (by k_asm) (by k_asm) (by with_unfolding_all k_memK) (Nat.le_trans hl (by omega)) ?tt ?tf))
    case' tt =>
      intro e9 zs I oI C oC D9 m₂ h9 tk9 E' he9 hsrc hC hx F' N' off ne
      have hm9 := hRe _ (row_mem he9)
      have hm8 := hRe _ (sg_mem he9)
    case' tf => intro g8)
  k_with "subscriptTail Name Constant ref int" => (
    k_dflt (refine item_litK (row_list (by k_asm) (by (repeat' (first | exact hm9 | apply List.Mem.tail)))) (by decide) (by decide) rfl ?_ (by with_unfolding_all rfl)))
  k_with "compareOp NotEq ref ref" => (
    k_dflt (refine ne_intsK (sg_list (by k_asm) (by (repeat' (first | exact hm8 | apply List.Mem.tail)))) (hes.iv _ he9) (lst_list (by k_asm) (by k_memK)) hys (by first | k_units | ktr_units) ?_)
    rw [codes_dec]
    cases hpe : decide (e9.t = ya)
    all_goals simp only [Bool.not_true, Bool.not_false])
  k_with "CompEnd" => ((rename News _ _ _ _ => nE); first | exact LCg.CompEnd.intro (by k_asm) nE _ (fun _ h => h) (by assumption) (by assumption) ⟨rfl, (by first | rfl | simp only [hpe, Bool.not_true, Bool.not_false]), rfl⟩ | exact LCg.CompEnd.intro (by k_asm) nE _ (fun _ h => h) (by assumption) (by assumption) ⟨rfl, (by first | rfl | simp only [hpe, Bool.not_true, Bool.not_false])⟩)
  k_with "InvEndG" => (
    (rename News _ _ _ _ => nE)
    (repeat (with_reducible rename (_ ∧ _) => hA9; obtain ⟨hB9, hC9⟩ := hA9))
    exact endDel (by k_asm) nE (by k_memK) (by k_memK) (by k_memK) (fun q9 hq9 => by (repeat' (first | exact hq9 | apply List.Mem.tail))) hRm (by with_unfolding_all k_memK) hl hes hTd' hTf' hcl htl hoff ⟨⟨by walk_at "mine ne", by walk_at "mine ne"⟩, List.forall_mem_cons.mpr ⟨by walk_at "mine ne", List.forall_mem_cons.mpr ⟨by walk_at "mine ne", off1_ne (by assumption)⟩⟩⟩ (by rfl) (by intro z h1 h2 h3; obtain ⟨h4, h5, h6⟩ := stored3_out h3; simp only [if_neg h1, if_neg h2, if_neg h4, if_neg h5, if_neg h6, h3, Bool.false_eq_true, if_false]))
  k_steps
end Mine

end
section
namespace Mine
open PyProof.V PySem.SeqAt
theorem ent_row {es : List Ent} {e : Ent} (he : e ∈ es) : (e.a, rowO e) ∈ entL es := List.mem_flatMap.mpr ⟨e, he, .head _⟩
theorem ent_sg {es : List Ent} {e : Ent} (he : e ∈ es) : (e.b, sgO e) ∈ entL es := List.mem_flatMap.mpr ⟨e, he, .tail _ (.head _)⟩
theorem listOf_inj {x y : Array Value} {n k : Nat} (h : listOf x n = listOf y k) : x = y := by
  have : (listOf x n).data = (listOf y k).data := by rw [h]
  injection this
theorem sg_ne_row {h₀ h : Heap} {L : Addr} {news : List (Addr × Obj)} {es : List Ent} (N : News h₀ L h news) (hs : ∀ q ∈ entL es, q ∈ news) (hes : EsOk es) {x y : Ent} (hx : x ∈ es) (hy : y ∈ es) : x.b ≠ y.a := by
  intro e
  have h1 := (N _ (hs _ (ent_sg hx))).1
  have h2 := (N _ (hs _ (ent_row hy))).1
  have h3 : h.get? x.b = some (sgO x) := h1
  have h4 : h.get? y.a = some (rowO y) := h2
  rw [e, h4] at h3
  have h5 := listOf_inj (Option.some.inj h3)
  have h6 : x.ys = [Value.ref y.b, Value.int y.n y.tn] := by
    have := congrArg Array.toList h5
    simpa using this.symm
  obtain ⟨n, t, h7⟩ := (hes.iv x hx).all (Value.ref y.b) (by rw [h6]; exact .head _)
  cases h7
theorem row_inj {h₀ h : Heap} {L : Addr} {news : List (Addr × Obj)} {es : List Ent} (N : News h₀ L h news) (hs : ∀ q ∈ entL es, q ∈ news) (hes : EsOk es) {x y : Ent} (hx : x ∈ es) (hy : y ∈ es) (e : x.a = y.a) : x.t = y.t := by
  have h3 : h.get? x.a = some (rowO x) := (N _ (hs _ (ent_row hx))).1
  have h4 : h.get? y.a = some (rowO y) := (N _ (hs _ (ent_row hy))).1
  rw [e, h4] at h3
  have h5 := listOf_inj (Option.some.inj h3)
  have h6 : x.b = y.b := by
    have := congrArg Array.toList h5
    simp at this
    exact this.1.symm
  have h7 : h.get? x.b = some (sgO x) := (N _ (hs _ (ent_sg hx))).1
  have h8 : h.get? y.b = some (sgO y) := (N _ (hs _ (ent_sg hy))).1
  rw [h6, h8] at h7
  have h9 := listOf_inj (Option.some.inj h7)
  have h10 : x.ys = y.ys := by
    have := congrArg Array.toList h9
    simpa using this.symm
  have i1 := (hes.iv x hx).nums
  have i2 := (hes.iv y hy).nums
  rw [h10, i2] at i1
  exact codes_inj i1.symm
theorem look_at {pre post : List Ent} {e0 : Ent} {ya : Str} (ht : e0.t = ya) (hpre : ∀ x ∈ pre, x.t ≠ ya) : kdpLook (tabOf (pre ++ e0 :: post)) ya 0 = e0.n := by
  unfold kdpLook tabOf
  rw [List.map_append, List.map_cons, List.find?_append]
  have e1 : (pre.map fun e : Ent => (e.t, e.n)).find? (fun p => decide (p.1 = ya)) = none := by
    rw [List.find?_eq_none]
    intro p hp
    obtain ⟨x, hx, rfl⟩ := List.mem_map.mp hp
    simpa using hpre x hx
  rw [e1, Option.none_or, List.find?_cons_of_pos (by simpa using ht)]
  rfl
theorem put_at {pre post : List Ent} {e0 : Ent} {ya : Str} {v : Int} {u : Tok} (ht : e0.t = ya) (hh : kdpHas (tabOf (pre ++ e0 :: post)) ya = true) (hpre : ∀ x ∈ pre, x.t ≠ ya) (hpost : ∀ x ∈ post, x.t ≠ ya) :
    kdpPut (tabOf (pre ++ e0 :: post)) ya v = tabOf (pre ++ { e0 with n := v, tn := u } :: post) := by
  unfold kdpPut
  unfold kdpHas at hh
  rw [if_pos hh]
  unfold tabOf
  rw [List.map_append, List.map_append, List.map_cons, List.map_append, List.map_cons, List.map_cons]
  have f1 : ∀ l : List Ent, (∀ x ∈ l, x.t ≠ ya) → (l.map fun e : Ent => (e.t, e.n)).map (fun p => if decide (p.1 = ya) then (p.1, v) else p) = l.map fun e : Ent => (e.t, e.n) := by
    intro l hl
    rw [List.map_map]
    refine List.map_congr_left fun x hx => ?_
    show (if decide (x.t = ya) = true then (x.t, v) else (x.t, x.n)) = _
    rw [if_neg (by simpa using hl x hx)]
  rw [f1 pre hpre, f1 post hpost]
  simp [ht]
section
variable {prog : Program} {w : World} {h₀ : Heap} {x : Str} {sg aT aR lX : Addr} {vs : List Value} {nX : Nat} {m₀ : Str → Option Value} {d e : Addr × Obj} {r R : List (Addr × Obj)} {L : Addr} {m' : Str → Option Value} {own news : List (Addr × Obj)} {s₁ : Shared} {h₁ h' : Heap} {tk i rn : Nat} {es : List Ent} {oT' oS' : Obj} {kvs' : List (Str × Value)} {vS' : Option Value} {ya : Str}
/-- a turn that counts a text once more -/
theorem endInc {pre post : List Ent} {e0 : Ent} {v : Int} {u : Tok} (F : Fr h₀ L h' m') (N₀ : News h₀ L h₁ news) (N : News h₀ L h' ((e0.a, rowO { e0 with n := v, tn := u }) :: offOf e0.a news))
    (n3 : (sg, oS') ∈ news) (n4 : (aT, oT') ∈ news) (n5 : (aR, listOf (refsOf es).toArray rn) ∈ news) (n6 : ∀ q ∈ d :: e :: R, q ∈ news) (hRm : ∀ q ∈ (d :: e :: r) ++ (entL es ++ own), q ∈ d :: e :: R) (hX : (lX, listOf vs.toArray nX) ∈ d :: e :: r)
    (hl : es.length ≤ i) (hes : EsOk es) (hes0 : es = pre ++ e0 :: post) (ht : e0.t = ya) (hh0 : kdpHas (tabOf es) ya = true) (hpre : ∀ x ∈ pre, x.t ≠ ya) (hpost : ∀ x ∈ post, x.t ≠ ya)
    (hTd : Obj.IsDictOf (PySem.strKind prog w) oT' kvs') (hTf : FlatPairs PyData.str kvs' (kdpD (kdpPut (tabOf es) ya v))) (hcl : oS'.data = .cell vS')
    (hne : ∀ b ∈ sg :: aT :: (d :: e :: r).map (·.1), aR ≠ b) (htl : OwnOff (entL es) (sg :: aT :: aR :: (d :: e :: r).map (·.1))) (hoff : OwnOff own (sg :: aT :: aR :: ((d :: e :: r) ++ entL es).map (·.1)))
    (hk : m' (Str.ofString "rows") = some (.ref aR)) (hm : ∀ z, z ≠ x → z ≠ Str.ofString "rows" → stored3.contains z = false → m' z = m₀ z) :
    InvEndG h₀ L (J3 prog w lX vs nX sg aT (d :: e :: r) x m₀ (i + 1)) own s₁ { s₁ with heap := h', toks := tk } := by
  have hsubN : ∀ q ∈ entL es, q ∈ news := fun q hq => n6 q (hRm q (List.mem_append_right _ (List.mem_append_left _ hq)))
  have he0 : e0 ∈ es := by rw [hes0]; simp
  have hr0 := ent_row he0
  have hother : ∀ y ∈ es, y.t ≠ ya → y.a ≠ e0.a := fun y hy h1 h2 => h1 (ht ▸ row_inj N₀ hsubN hes hy he0 h2)
  have hsame : ∀ q ∈ entL (pre ++ { e0 with n := v, tn := u } :: post), ∃ q' ∈ entL es, q'.1 = q.1 := by
    intro q hq
    obtain ⟨y, hy, hq⟩ := List.mem_flatMap.mp hq
    rcases List.mem_append.mp hy with hy | hy
    · exact ⟨q, List.mem_flatMap.mpr ⟨y, by rw [hes0]; exact List.mem_append_left _ hy, hq⟩, rfl⟩
    · rcases List.mem_cons.mp hy with rfl | hy
      · rcases List.mem_cons.mp hq with rfl | hq
        · exact ⟨_, hr0, rfl⟩
        · rw [List.mem_singleton.mp hq]
          exact ⟨_, ent_sg he0, rfl⟩
      · exact ⟨q, List.mem_flatMap.mpr ⟨y, by rw [hes0]; exact List.mem_append_right _ (.tail _ hy), hq⟩, rfl⟩
  have hrefs : refsOf (pre ++ { e0 with n := v, tn := u } :: post) = refsOf es := by
    rw [hes0]
    unfold refsOf
    rw [List.map_append, List.map_append]
    rfl
  refine end3 (pre ++ { e0 with n := v, tn := u } :: post) oT' kvs' aR rn oS' vS' F N ?_ hX ?_ ?_ hTd ?_ hcl hne ?_ ?_ hk hm
  · rw [hrefs]
    intro q hq
    have keep : q ∈ news → q.1 ≠ e0.a → q ∈ (e0.a, rowO { e0 with n := v, tn := u }) :: offOf e0.a news := fun h1 h2 => .tail _ (mem_off h1 h2)
    have back : q ∈ (d :: e :: r) ++ (entL es ++ own) → q ∈ news := fun hh => n6 q (hRm q hh)
    rcases List.mem_cons.mp hq with rfl | hq
    · exact keep n3 (Ne.symm (htl _ hr0 _ (.head _)))
    · rcases List.mem_cons.mp hq with rfl | hq
      · exact keep n4 (Ne.symm (htl _ hr0 _ (.tail _ (.head _))))
      · rcases List.mem_cons.mp hq with rfl | hq
        · exact keep n5 (Ne.symm (htl _ hr0 _ (.tail _ (.tail _ (.head _)))))
        · rcases List.mem_append.mp hq with hq | hq
          · exact keep (back (List.mem_append_left _ hq)) (Ne.symm (htl _ hr0 _ (.tail _ (.tail _ (.tail _ (List.mem_map_of_mem hq))))))
          · rcases List.mem_append.mp hq with hq | hq
            · obtain ⟨y, hy, hq'⟩ := List.mem_flatMap.mp hq
              have inE : y ∈ es → q ∈ news := fun hye => back (List.mem_append_right _ (List.mem_append_left _ (List.mem_flatMap.mpr ⟨y, hye, hq'⟩)))
              have go : y ∈ es → y.t ≠ ya → q ∈ (e0.a, rowO { e0 with n := v, tn := u }) :: offOf e0.a news := by
                intro hye hyt
                refine keep (inE hye) ?_
                rcases List.mem_cons.mp hq' with rfl | hq'
                · exact hother y hye hyt
                · rw [List.mem_singleton.mp hq']
                  exact sg_ne_row N₀ hsubN hes hye he0
              rcases List.mem_append.mp hy with hy | hy
              · exact go (by rw [hes0]; exact List.mem_append_left _ hy) (hpre y hy)
              · rcases List.mem_cons.mp hy with rfl | hy
                · rcases List.mem_cons.mp hq' with rfl | hq'
                  · exact .head _
                  · rw [List.mem_singleton.mp hq']
                    have hs0 : (e0.b, sgO e0) ∈ news := hsubN _ (ent_sg he0)
                    exact .tail _ (mem_off (q := (e0.b, sgO e0)) hs0 (sg_ne_row N₀ hsubN hes he0 he0))
                · exact go (by rw [hes0]; exact List.mem_append_right _ (.tail _ hy)) (hpost y hy)
            · exact keep (back (List.mem_append_right _ (List.mem_append_right _ hq))) (hoff q hq _ (.tail _ (.tail _ (.tail _ (List.mem_map_of_mem (f := fun p : Addr × Obj => p.1) (List.mem_append_right _ hr0))))))
  · rw [hes0] at hl
    simp only [List.length_append, List.length_cons] at hl ⊢
    omega
  · refine ⟨fun y hy => ?_, fun y hy => ?_, ?_⟩
    · rcases List.mem_append.mp hy with hy | hy
      · exact hes.iv y (by rw [hes0]; exact List.mem_append_left _ hy)
      · rcases List.mem_cons.mp hy with rfl | hy
        · exact hes.iv e0 he0
        · exact hes.iv y (by rw [hes0]; exact List.mem_append_right _ (.tail _ hy))
    · rcases List.mem_append.mp hy with hy | hy
      · exact hes.ok y (by rw [hes0]; exact List.mem_append_left _ hy)
      · rcases List.mem_cons.mp hy with rfl | hy
        · exact hes.ok e0 he0
        · exact hes.ok y (by rw [hes0]; exact List.mem_append_right _ (.tail _ hy))
    · have := hes.nodup
      rw [hes0, List.map_append, List.map_cons] at this
      rw [List.map_append, List.map_cons]
      exact this
  · rw [← put_at (u := u) ht (by rw [← hes0]; exact hh0) hpre hpost, ← hes0]
    exact hTf
  · intro q hq b hb
    obtain ⟨q', h1, h2⟩ := hsame q hq
    rw [← h2]
    exact htl q' h1 b hb
  · intro q hq b hb
    rcases List.mem_cons.mp hb with rfl | hb
    · exact hoff q hq _ (.head _)
    · rcases List.mem_cons.mp hb with rfl | hb
      · exact hoff q hq _ (.tail _ (.head _))
      · rcases List.mem_cons.mp hb with rfl | hb
        · exact hoff q hq _ (.tail _ (.tail _ (.head _)))
        · refine hoff q hq _ (.tail _ (.tail _ (.tail _ ?_)))
          obtain ⟨p, hp, rfl⟩ := List.mem_map.mp hb
          rcases List.mem_append.mp hp with hp | hp
          · exact List.mem_map_of_mem (List.mem_append_left _ hp)
          · obtain ⟨p', h1, h2⟩ := hsame p hp
            rw [← h2]
            exact List.mem_map_of_mem (List.mem_append_right _ h1)
end
end Mine

end
section
namespace Mine
open PyProof.V PySem.SeqAt
local macro_rules | `(tactic| walk_at $s:str) => `(tactic| k_extra $s)
local macro_rules | `(tactic| k_all) => `(tactic| with_reducible assumption)
local macro_rules | `(tactic| walk_at "mine ne") => `(tactic| (with_reducible first | exact Nat.ne_of_gt (by assumption) | exact Nat.ne_of_lt (by assumption) | assumption | exact Ne.symm (by assumption)))
set_option maxHeartbeats 8000000 in
theorem d2 : pk3.1.2 := by
  intro _
  k_fill
  intros
  rename_i es oT kvs aR rn oS vS i k t u h tk own hi hl hes hTd hTf hS hne htl hoff hST hRS hRT hAll F₁ R N₂ hd1 hd2 hd3 he1 he2 he3 hR1 hR2 hR3 hRe hRm hST' hRS' hRT' kMk y1 ty1 hy1 yn tyn kyn hyn yb tyb kyb hyb y2 ty2 hy2 ya tya kya hTx hq1 ys gq hys D hq2 tkq hoD hq3 oS' Fq Nq hcl tkq2 g9 pre e0 post hes0 het0 hf0 hh0 hpre hpost kLr he0 hm1 hm2 kMk2 D2 x1 x2 x3 x4 hoD2 x5 x6 x7 x8 x9 l1a x10 hl1 x11 l2a x12 hl2 hcond x13 l3a x14 x15 x16 hl3
  have hlook : kdpLook (tabOf es) ya 0 = e0.n := by rw [hes0]; exact look_at het0 hpre
  k_with_none
  k_with "getItem ref str" => (
    k_dflt (refine kdp_getItem (tab_at (by k_asm) (by k_memK) (by assumption) hTd hTf) hh0 ?_)
    intro tg
    rw [hlook])
  k_with "setItem ref str" => (
    k_dflt (refine kdp_setItem (by k_asm) (by k_asm) (by k_updF) hTd hTf (by rw [tab_len]; omega) ?_)
    intro h' oT' kvs' F' N' hTd' hTf')
  k_with "subscriptTail Name Constant ref int" => (
    k_dflt (refine item_litK (lst_list (ys := refsOf [e0]) (by k_asm) (by k_memK)) (by decide) (by decide) (v := .ref e0.a) rfl ?_ (by with_unfolding_all rfl)))
  k_with "getItem ref int" => (
    k_dflt (refine wpAny_getItem_list (x := .int e0.n e0.tn) (row_list (by k_asm) (by (repeat' (first | exact hm1 | apply List.Mem.tail)))) (by decide) (by decide) rfl ?_))
  k_with "setItem ref int" => (
    (rename News _ _ _ _ => nB)
    k_dflt (refine set_row (by k_asm) nB (by (repeat' (first | exact hm1 | apply List.Mem.tail))) ?_)
    intro h' F' N')
  k_with "InvEndG" => (
    (rename News _ _ _ _ => nE)
    exact endInc (by k_asm) nB nE (by k_memK) (by k_memK) (by k_memK) (fun q9 hq9 => by (repeat' (first | exact hq9 | apply List.Mem.tail))) hRm (by with_unfolding_all k_memK) hl hes hes0 het0 hh0 hpre hpost hTd' hTf' hcl hne htl hoff (by rfl) (by intro z h1 h2 h3; obtain ⟨h4, h5, h6⟩ := stored3_out h3; simp only [if_neg h1, if_neg h2, if_neg h4, if_neg h5, if_neg h6, h3, Bool.false_eq_true, if_false]))
  k_steps
end Mine

end
section
namespace Mine
open PyProof.V PySem.SeqAt
section
variable {prog : Program} {w : World} {A : Around} {E : Value → Shared → Prop} {s : Shared} {h₀ : Heap} {L : Addr} {m : Str → Option Value} {env : Env}
/-- what a comprehension over a dict's keys asks -/
def DictSrc (prog : Program) (w : World) (A : Around) (h₀ : Heap) (L : Addr) (m : Str → Option Value) (env : Env) (elt : Expr) (x : Str) (scope : Scope) (cl : List (Str × Addr)) (Fin : Shared → List Value → List (Addr × Obj) → Prop) (xv : Value) (s₁ : Shared) : Prop :=
  ∃ (d : Addr) (o : Obj) (kvs : List (Str × Value)) (news : List (Addr × Obj)), xv = .ref d ∧ A.handled = none ∧ Fr h₀ L s₁.heap m ∧ News h₀ L s₁.heap news ∧ (d == sysModules) = false ∧ (d, o) ∈ news ∧ Obj.IsDictOf (PySem.strKind prog w) o kvs ∧ kvs.length ≤ sizeLine ∧
    ∀ s₂ : Shared, (∃ h, s₂ = { s₁ with heap := h }) → LCg.CompRest prog w A h₀ L m env elt x scope cl s₂ (fun nw => (d, o) ∈ nw) (fun i v => ∃ k y, kvs[i]? = some (k, y) ∧ (PySem.strKind prog w).is k v = true) (Fin s₂) kvs.length 0 [] news
theorem comp_dict {elt iter : Expr} {x : Str} {px : Pos} {scope : Scope} {cl : List (Str × Addr)} {pos : Pos} {Q : Value → Shared → Prop} (_F₀ : Fr h₀ L s.heap m)
    (hclos : closureFor scope env = pure cl) (hcell : ∀ y ∈ scope.names, y.2 ≠ .cell) (hkind : scope.kind = .function)
    (hnames : ∀ y ∈ scope.names, y.2 = .local → scope.names.lookup y.1 = some .local) (hx : scope.names.lookup x = some .local)
    (h : wpAny (model prog w) A (eval iter env) (DictSrc prog w A h₀ L m env elt x scope cl (fun s₂ => LCg.FinE h₀ L m s₂ Q)) E s)
    (hs : ∀ x, foldedSetIterable iter env x = pure x := by intro _; rfl) :
    wpAny (model prog w) A (eval (.ListComp elt [⟨.Name x px, iter, [], 0⟩] scope pos) env) Q E s := by
  rw [eval_ListComp]
  refine wpAny_comprehension_free (use := none) rfl hs hclos hkind hnames (wpAny_mono h (fun xv s₁ h₁ => ?_) fun _ _ e => e)
  obtain ⟨d, o, kvs, news, rfl, hh, F, N, lo, hm, hd, hsz, R⟩ := h₁
  obtain ⟨ep, hat⟩ := KdkAt.of hd
  have hD : s₁.heap.DictAt (PySem.strKind prog w) d kvs ep := hat.dictAt (N _ hm).1
  have hlt : d < s₁.heap.objs.size := Heap.lt_size (N _ hm).1
  have hIL : L ≠ s₁.heap.objs.size := Nat.ne_of_lt F.ns.lt
  have hI₀ : h₀.get? s₁.heap.objs.size = none := next_is_new F
  have offI : ∀ p ∈ news, p.1 ≠ s₁.heap.objs.size := fun p hp => Nat.ne_of_lt (Heap.lt_size (N p hp).1)
  refine wpAny_pyIter_dict lo hD ?_
  refine LCg.block_U (Walks.dictKeys (knd := PySem.strKind prog w) hh s₁.heap.objs.size d (Nat.ne_of_lt hlt) kvs ep) hsz (fun i h st => by obtain ⟨o, e, _⟩ := st.1; exact ⟨o, e⟩) ?hSt hcell hkind hx ⟨⟨_, Heap.get?_push_size _ rfl, rfl, rfl⟩, hD.push _⟩ (fun b hb => ?_)
    (F.keeps fun _ _ e => Heap.get?_push_of_some _ e) (N.grown fun _ _ e => Heap.get?_push_of_some _ e) hIL hI₀ offI hm (R _ ⟨_, rfl⟩) ?_
  case hSt =>
    intro i h h' o' nw st e e' _ N' hS
    refine ⟨?_, hat.dictAt (N' _ hS).1⟩
    obtain ⟨o'', q, r⟩ := st.1
    rw [e] at q
    cases q
    exact ⟨o', e', r⟩
  · show b < (s₁.heap.push _).objs.size
    rw [Heap.size_push]
    rcases List.mem_cons.mp hb with rfl | hb
    · exact Nat.lt_succ_self _
    · rw [List.mem_singleton.mp hb]; exact Nat.lt_succ_of_lt hlt
  · intro D C h tk m' ys news' F' N' o1 hn hC₀ hD₀ hCL hDL hCD offC fin
    refine ⟨m', hn, fun h'' hs'' => fin D h'' tk (F'.change hs'' hCL hC₀) (fun p hp => ?_) o1⟩
    refine ⟨hs''.extBut _ _ ?_ (N' p hp).1, (N' p hp).2⟩
    rcases List.mem_cons.mp hp with rfl | hp
    · exact Ne.symm hCD
    · exact offC p hp
/-- the rows that the table tells -/
theorem dict_rows {elt : Expr} {x : Str} {scope : Scope} {cl : List (Str × Addr)} {Fin : Shared → List Value → List (Addr × Obj) → Prop} {d : Addr} {o : Obj} {kvs : List (Str × Value)} {c : List (Str × Int)} {pf R : List (Addr × Obj)} {s₁ : Shared}
    (hh : A.handled = none) (F : Fr h₀ L s₁.heap m) (N : News h₀ L s₁.heap (pf ++ R)) (lo : (d == sysModules) = false) (hm : (d, o) ∈ pf) (hd : Obj.IsDictOf (PySem.strKind prog w) o kvs) (hf : FlatPairs PyData.str kvs (kdpD c)) (hc : c.length ≤ 1000)
    (turn : ∀ (one : Str) (n : Int) (t : Tok) (R' : List (Addr × Obj)) (fs : List Ent) (I : Addr) (oI : Obj) (C : Addr) (oC : Obj) (D : Addr) (m₂ : Str → Option Value) (h : Heap) (tk : Nat) (E' : Value → Shared → Prop), (one, n) ∈ c → kdpLook c one 0 = n → kdpHas c one = true → LCg.NsObj oC m₂ → m₂ x = some (.str one t) → Fr h₀ L h m → News h₀ L h ((I, oI) :: (C, oC) :: (D, LCg.lst (refsOf fs)) :: (pf ++ R')) → LCg.Off3 I C D (pf ++ R') → ((@Ne Nat I C) ∧ (@Ne Nat I D) ∧ (@Ne Nat C D)) →
      wpAny (model prog w) A (eval elt (compEnvC scope cl C env)) (LCg.CompEnd h₀ L m { s₁ with heap := h, toks := tk } I oI C oC D (LCg.lst (refsOf fs)) (fun nw => (d, o) ∈ nw)
        (fun y nw' => ∃ e : Ent, y = .ref e.a ∧ e.t = one ∧ e.n = n ∧ IntsAre e.ys (codes one) ∧ ∃ R'', nw' = pf ++ R'' ∧ (∀ q ∈ R', q ∈ R'') ∧ (e.a, rowO e) ∈ R'' ∧ (e.b, sgO e) ∈ R'')) E' { s₁ with heap := h, toks := tk })
    (hnd : (c.map (·.1)).Nodup)
    (fin : ∀ (fs : List Ent) (R' : List (Addr × Obj)) g, tabOf fs = c → (∀ q ∈ R, q ∈ R') → (∀ q ∈ entL fs, q ∈ R') → (∀ e ∈ fs, IntsAre e.ys (codes e.t)) → Fin { s₁ with heap := g } (refsOf fs) (pf ++ R')) : DictSrc prog w A h₀ L m env elt x scope cl Fin (.ref d) s₁ := by
  have hlen : kvs.length = c.length := by rw [← hf.length, kdpD_length]
  refine ⟨d, o, kvs, pf ++ R, rfl, hh, F, N, lo, List.mem_append_left _ hm, hd, by rw [hlen, sizeLine_eq]; omega, fun s₂ ⟨g, e⟩ => ?_⟩
  subst e
  refine comp_rest (fun i ys nw => ∃ R' fs, nw = pf ++ R' ∧ (∀ q ∈ R, q ∈ R') ∧ (∀ q ∈ entL fs, q ∈ R') ∧ ys = refsOf fs ∧ tabOf fs = c.take i ∧ (∀ e ∈ fs, IntsAre e.ys (codes e.t))) ⟨R, [], rfl, fun _ h => h, (fun _ h => nomatch h), rfl, rfl, fun _ h => nomatch h⟩ ?_ ?_
  · rintro i ys nw v I oI C oC D m₂ h tk E' hi ⟨R', fs, rfl, hR, hE, rfl, htab, hiv⟩ ⟨k, y, hk, hkv⟩ hC hx F' N' off ne
    obtain ⟨p, hp, _⟩ := kdz_valAt hf hk
    obtain ⟨t, rfl⟩ := Value.isStrOf_shape hkv
    have hpk : p.1 = k := by
      obtain ⟨dv, hdv, _⟩ := hf.at hk
      have hd' : (c[i]?).map (fun p => (PyData.str p.1, PyData.int p.2)) = some (PyData.str k, dv) := by rw [← List.getElem?_map]; exact hdv
      rw [hp] at hd'
      have e1 : PyData.str p.1 = PyData.str k := congrArg Prod.fst (Option.some.inj hd')
      injection e1
    have hmem : (k, p.2) ∈ c := by rw [← hpk]; exact List.mem_of_getElem? hp
    have hhas : kdpHas c k = true := by
      unfold kdpHas
      rw [List.any_eq_true]
      exact ⟨_, hmem, by simp⟩
    have hlook : kdpLook c k 0 = p.2 := by
      unfold kdpLook
      obtain ⟨l1, l2, hl⟩ := List.append_of_mem hmem
      have nd := hnd
      rw [hl, List.map_append, List.map_cons] at nd
      obtain ⟨_, _, n3⟩ := List.nodup_append.mp nd
      have e1 : l1.find? (fun q => decide (q.1 = k)) = none := by
        rw [List.find?_eq_none]
        intro q hq
        have := n3 _ (List.mem_map_of_mem (f := fun q : Str × Int => q.1) hq) _ (.head _)
        simpa using this
      rw [hl, List.find?_append, e1, Option.none_or, List.find?_cons_of_pos (by simp)]
      rfl
    refine wpAny_mono (turn k p.2 t R' fs I oI C oC D m₂ h tk E' hmem hlook hhas hC hx F' N' off ne) (fun v s₂ hq => ?_) fun _ _ e => e
    obtain ⟨h', tk', nw', e9, F'', N'', off', hS, e, rfl, het, hen, hei, R'', rfl, hRR, hr1, hr2⟩ := hq
    refine ⟨h', tk', _, e9, F'', N'', off', hS, R'', fs ++ [e], rfl, fun q hq => hRR q (hR q hq), fun q hq => ?_, ?_, ?_, fun e' he' => ?_⟩
    · obtain ⟨z, hz, hq'⟩ := List.mem_flatMap.mp hq
      rcases List.mem_append.mp hz with hz | hz
      · exact hRR q (hE q (List.mem_flatMap.mpr ⟨z, hz, hq'⟩))
      · rw [List.mem_singleton.mp hz] at hq'
        rcases List.mem_cons.mp hq' with rfl | hq'
        · exact hr1
        · rw [List.mem_singleton.mp hq']; exact hr2
    · unfold refsOf
      rw [List.map_append]
      rfl
    · have hci : c[i]? = some (k, p.2) := by rw [hp, ← hpk]
      rw [List.take_add_one, hci, ← htab]
      unfold tabOf
      rw [List.map_append]
      simp [het, hen]
    · rcases List.mem_append.mp he' with he' | he'
      · exact hiv e' he'
      · rw [List.mem_singleton.mp he', het]; exact hei
  · rintro ys nw ⟨R', fs, rfl, hR, hE, rfl, htab, hiv⟩
    rw [hlen, List.take_length] at htab
    exact fin fs R' g htab hR hE hiv
end
end Mine

end
section
namespace Mine
open PyProof.V PySem.SeqAt
local macro_rules | `(tactic| walk_at $s:str) => `(tactic| k_extra $s)
local macro_rules | `(tactic| k_all) => `(tactic| with_reducible assumption)
local macro_rules | `(tactic| walk_at "mine ne") => `(tactic| (with_reducible first | exact Nat.ne_of_gt (by assumption) | exact Nat.ne_of_lt (by assumption) | assumption | exact Ne.symm (by assumption)))
local macro_rules | `(tactic| walk_at "mine comp") => `(tactic| (k_dflt (refine comp_text (_F₀ := by k_asm) (by with_unfolding_all rfl) (by decide) (by rfl) (by decide) (by rfl) ?_)))
local macro_rules | `(tactic| walk_at "mine compD") => `(tactic| (k_dflt (refine comp_dict (_F₀ := by k_asm) (by with_unfolding_all rfl) (by decide) (by rfl) (by decide) (by rfl) ?_)))
theorem absD {h₀ h : Heap} {L : Addr} {x y z d : Addr × Obj} {r l : List (Addr × Obj)} (N : News h₀ L h (x :: y :: z :: ((d :: r) ++ l))) : ∃ R, News h₀ L h (x :: y :: z :: d :: R) ∧ ∀ q ∈ l, q ∈ R :=
  ⟨r ++ l, N, fun _ hq => List.mem_append_right _ hq⟩
theorem tab_ok {es : List Ent} (hes : EsOk es) {one : Str} {n : Int} (h : (one, n) ∈ tabOf es) : OkT one := by
  obtain ⟨e, he, e1⟩ := List.mem_map.mp h
  have : e.t = one := congrArg Prod.fst e1
  rw [← this]
  exact hes.ok e he
theorem tab_nodup {es : List Ent} (hes : EsOk es) : ((tabOf es).map (·.1)).Nodup := by
  unfold tabOf
  rw [List.map_map]
  exact hes.nodup
theorem outer_end {h₀ h' : Heap} {L : Addr} {m : Str → Option Value} {s₁ : Shared} {I C D l b d : Addr} {oI oC oD o : Obj} {pf R' : List (Addr × Obj)} {one : Str} {n : Int} {t' : Tok} {ys : List Value} {tk : Nat}
    (F : Fr h₀ L h' m) (N : News h₀ L h' ((l, listOf #[.ref b, .int n t'] 0) :: (b, LCg.lst ys) :: (I, oI) :: (C, oC) :: (D, oD) :: (pf ++ R'))) (off : LCg.Off3 I C D (pf ++ R')) (hl : @Ne Nat l I ∧ @Ne Nat l C ∧ @Ne Nat l D) (hb : @Ne Nat b I ∧ @Ne Nat b C ∧ @Ne Nat b D) (hS : (d, o) ∈ pf) (hys : IntsAre ys (codes one)) :
    LCg.CompEnd h₀ L m s₁ I oI C oC D oD (fun nw => (d, o) ∈ nw) (fun y nw' => ∃ e : Ent, y = .ref e.a ∧ e.t = one ∧ e.n = n ∧ IntsAre e.ys (codes one) ∧ ∃ R'', nw' = pf ++ R'' ∧ (∀ q ∈ R', q ∈ R'') ∧ (e.a, rowO e) ∈ R'' ∧ (e.b, sgO e) ∈ R'') (.ref l) { s₁ with heap := h', toks := tk } := by
  have om := off.mem
  refine LCg.CompEnd.intro F N (pf ++ ((l, listOf #[.ref b, .int n t'] 0) :: (b, LCg.lst ys) :: R')) (fun p hp => ?_) (LCg.Off3.of fun p hp => ?_) (List.mem_append_left _ hS) ⟨⟨l, b, one, n, t', 0, ys.length, ys⟩, rfl, rfl, rfl, hys, _, rfl, fun q hq => .tail _ (.tail _ hq), .head _, .tail _ (.head _)⟩
  · simp only [List.mem_cons, List.mem_append] at hp ⊢
    rcases hp with q | q | q | q | q | q | q
    · exact .inr (.inr (.inl q))
    · exact .inr (.inr (.inr (.inl q)))
    · exact .inr (.inr (.inr (.inr (.inl q))))
    · exact .inr (.inr (.inr (.inr (.inr (.inl q)))))
    · exact .inl q
    · exact .inr (.inl q)
    · exact .inr (.inr (.inr (.inr (.inr (.inr q)))))
  · rcases List.mem_append.mp hp with hp | hp
    · exact om p (List.mem_append_left _ hp)
    · rcases List.mem_cons.mp hp with rfl | hp
      · exact hl
      · rcases List.mem_cons.mp hp with rfl | hp
        · exact hb
        · exact om p (List.mem_append_right _ hp)
theorem bears_in {h₀ h : Heap} {L : Addr} {news : List (Addr × Obj)} {es : List Ent} (N : News h₀ L h news) (hs : ∀ q ∈ entL es, q ∈ news) (hi : ∀ e ∈ es, IntsAre e.ys (codes e.t)) : Bears h es := by
  intro e he
  exact ⟨row_list N (hs _ (row_mem he)), sg_list N (hs _ (sg_mem he)), hi e he⟩
set_option maxHeartbeats 8000000 in
theorem e1 : pk1.1.2 := by
  intro _
  k_fill
  intros
  rename_i es oT kvs aR rn oS u h tk hl hes hTd hTf F₁ N₁
  obtain ⟨R, N₂, hRe⟩ := absD N₁
  clear N₁
  have kMark := kstMark
  have kLt := tab_len es
  k_with_none
  k_with "eval ListComp" => (walk_at "mine compD")
  k_with "eval ListComp" => ((have hone9 := hone); walk_at "mine comp")
  k_with "DictSrc" => (
    k_dflt (refine dict_rows (pf := [_, _, _, _]) (by with_unfolding_all rfl) (by k_asm) (by k_asm) (by assumption) (by with_unfolding_all k_memK) hTd hTf (by omega) ?dt (tab_nodup hes) ?df)
    case' dt =>
      intro one n9 t9 R' fs I oI C oC D m₂ h9 tk9 E' hone hlook hhas hC hx F' N' off ne
      have hT9 := tab_ok hes hone
      simp only [List.cons_append, List.nil_append] at N'
    case' df => intro fs R' g9 htab hRR hE hiv)
  k_with "TextSrc" => (
    (refine text_codes (by with_unfolding_all rfl) (by k_asm) (by k_asm) (by (rw [sizeLine_eq]; exact Nat.le_trans hT9.1 (by decide))) ?ct ?cf)
    case' ct =>
      intro c9 u9 ys9 I9 oI9 C9 oC9 D9 m9 h8 tk8 E9 hc9 hC9 hx9 F' N' off9 ne9
      have hc8 := hT9.2 _ hc9
    case' cf => intro ys9 g8 hys9)
  k_with "subscriptTail Name Name ref str" => (
    k_dflt (refine kdp_item (tab_at (by k_asm) (by k_memK) (by assumption) hTd hTf) hhas ?_ (by with_unfolding_all rfl) (by intro _; with_unfolding_all rfl))
    intro t8
    rw [hlook])
  k_with "CompEnd" => (
    (rename News _ _ _ _ => nE)
    (repeat (with_reducible rename (_ ∧ _) => hA9; obtain ⟨hB9, hC9⟩ := hA9))
    k_dflt (exact outer_end (pf := [_, _, _, _]) (by k_asm) nE off ⟨by walk_at "mine ne", by walk_at "mine ne", by walk_at "mine ne"⟩ ⟨by walk_at "mine ne", by walk_at "mine ne", by walk_at "mine ne"⟩ (by with_unfolding_all k_memK) hys9))
  k_with "CompEnd" => ((have hc7 := hc8); (rename News _ _ _ _ => nE); exact LCg.CompEnd.intro (by k_asm) nE _ (fun _ h => h) (by assumption) trivial ⟨rfl, _, rfl⟩)
  k_with "compareOp Eq ref ref" => (
    (rename News _ _ _ _ => nE)
    k_dflt (refine eq_rows (fs := fs) (es := es) (lst_list nE (by k_memK)) (bears_in nE (fun q hq => by (repeat' (first | exact hE q hq | apply List.Mem.tail))) hiv) (news_list nE (by k_memK)) (bears_in nE (fun q hq => by (repeat' (first | exact hRR q (hRe q hq) | apply List.Mem.tail))) hes.iv) htab (by first | k_units | ktr_units) ?_))
  k_steps
end Mine

end
theorem PySem.Challenge.cw_dm0203_03_holds : PySem.Challenge.rw_dm0203_03.Holds := by
  exact Mine.pk1.2 ⟨Mine.pk2.2 ⟨Mine.c1⟩ ⟨Mine.pk3.2 ⟨Mine.d1⟩ ⟨Mine.d2⟩⟩⟩ ⟨Mine.e1⟩
