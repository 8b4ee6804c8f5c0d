import PyProof.Rows.All
import Wide.All
import OpenK.AllK
import Wide.FinOn
import Lean
import PySem.Challenge.RW_dm0203_02
open PySem PySem.W PyProof.Rows PySem.Spec PySem.Calls
set_option Elab.async false
set_option maxRecDepth 100000
namespace Mine
set_option maxHeartbeats 8000000 in
open_top hd for PySem.Challenge.rw_dm0203_02
end Mine
section
namespace Mine

section
variable {prog : Program} {w : World} {A A₀ : Around} {E : Value → Shared → Prop} {s : Shared} {K : Frag} {L : Addr} {h₀ base : Heap} {m mg mb : Str → Option Value} {news : List (Addr × Obj)} {p : Program} {loose : List Str} {mean : ExcName → Option Value}

/-- entering a def of the top: all that the call's ledger does not name is kept, and the end knows it -/
theorem enter {env : Env} {outer : List Env} {R : Result → Shared → Prop} {name qual : Str} {params : Arguments} {body : List Stmt} {scope : Scope} {dV kV doc pm cdv ct oc : Value} {an od : Option Addr} {osl : Array (Option Value)} {f : Addr} {args : Args} {binds : List (Str × Value)}
    (B : Below A₀ base outer h₀) (F : Fr h₀ L s.heap m) (X₀ : K.In h₀) (N : News h₀ L s.heap news) (T : Top p loose mean mg mb h₀) (hA : A.frames = some (env :: outer)) (hf : env.frame = some L) (hke : env.scope.kind = .function)
    (ho : K.lookup f = some ⟨oc, od, .func (fnOf name qual params body scope dV kV doc pm an cdv ct), osl⟩) (hcd : codeIn K cdv qual = true) (hroom : A.depth < recursionLimit)
    (hbind : BindsTo s (fnOf name qual params body scope dV kV doc pm an cdv ct) args binds) (hloc : ∀ y ∈ binds, scope.names.lookup y.1 = some .local)
    (h : ∀ g L' h₁, (∀ b o, s.heap.get? b = some o → b ∉ news.map (·.1) → g.get? b = some o) → Fr h₀ L g m → Fr g L' h₁ (fun y => binds.reverse.lookup y) → News g L' h₁ news → Below A base (env :: outer) g → K.In g → Top p loose mean mg mb g → (∀ q ∈ news, q.1 < L') →
      wpAny (model prog w) (A.deeper (envOf qual scope L' f cdv)) (execs body (envOf qual scope L' f cdv))
        (fun fl s' => LeaveK h₀ L m g (fun r s'' => (∀ b o, g.get? b = some o → s''.heap.get? b = some o) → R r s'') (match fl with | .ret v => v | _ => .none) s')
        (fun e s' => wpAny (model prog w) (A.deeper (envOf qual scope L' f cdv)) (leaving (envOf qual scope L' f cdv) e) (fun _ s'' => R (.error e) s'') (fun e' s'' => R (.error e') s'') s')
        { s with heap := h₁, toks := s.toks + binds.length })
    (hco : scope.isCoroutine = false) (hgen : scope.isGenerator = false) (hk : scope.kind = .function)
    (hcell : ∀ x ∈ scope.names, x.2 ≠ .cell) : codeAny (model prog w) A (.call (.ref f) args) R s := by
  obtain ⟨FG, BG, st, lv⟩ := groundX (R := fun r s'' => (∀ b o, (hideAll s.heap (news.map (·.1))).get? b = some o → s''.heap.get? b = some o) → R r s'') B F N hA hf hke
  refine codeAny_call_def (fd := fnOf name qual params body scope dV kV doc pm an cdv ct) (body := body) (binds := binds) hroom ((X₀.keeps F.keep) _ _ ho) rfl (T.nolimit.keeps F.keep) (codeRec_of (X₀.keeps F.keep) hcd) rfl hbind hcell hloc (fun h₁ hns hk₁ => ?_) hco hgen hk
  refine wpAny_mono (h _ s.heap.objs.size h₁ (fun b o e n => hideAll_get _ e n) FG ⟨hns, fun b o e => hk₁ b o (of_hideAll _ e), Nat.le_of_eq (hideAll_size _ _)⟩
    (fun q hq => ⟨hk₁ _ _ (N q hq).1, Nat.ne_of_lt (Heap.lt_size (N q hq).1), hideAll_none _ (List.mem_map_of_mem hq)⟩) BG (X₀.keeps st) (T.keeps st) (fun q hq => Heap.lt_size (N q hq).1)) (fun fl s' hl => ?_) fun _ _ y => y
  have hl' := hl
  obtain ⟨L', m', news', F', N', k⟩ := hl'
  exact lv _ _ hl F'.keep
end

/-- what a call hands back to its caller: the caller's frame, all that stood, and what is new -/
def Back (h₀ : Heap) (L : Addr) (m : Str → Option Value) (s : Shared) (Q : Value → Shared → Prop) (Out : List (Addr × Obj) → Value → Prop) : Prop :=
  ∀ (r : Value) (tl : List (Addr × Obj)) (h' : Heap) (tk' : Nat), Fr h₀ L h' m → (∀ b o, s.heap.get? b = some o → h'.get? b = some o) →
    (∀ q ∈ tl, h'.get? q.1 = some q.2 ∧ s.heap.get? q.1 = none) → Out tl r → Q r { s with heap := h', toks := tk' }

/-- a call of a def of the top, from any frame: under Pre (of the caller's heap) it answers by Out -/
def Gives (prog : Program) (w : World) (K : Frag) (p : Program) (loose : List Str) (f : Addr) (vs : List Value) (Pre : Heap → Prop) (Out : List (Addr × Obj) → Value → Prop) : Prop :=
  ∀ (mean : ExcName → Option Value) (mg mb : Str → Option Value) (dp un : Nat) (gd : Option (List Code)) (cn : Str) (cs : Scope) (a : Addr) (ccd : Value) (cl : List (Str × Addr)) (outer : List Env) (A₀ : Around) (base h₀ : Heap) (L : Addr) (m : Str → Option Value) (s : Shared) (Q E : Value → Shared → Prop),
    Below A₀ base outer h₀ → Fr h₀ L s.heap m → K.In h₀ → Top p loose mean mg mb h₀ → cs.kind = .function → Pre s.heap → dp + 2 < recursionLimit → un + 16 < cLine → Back h₀ L m s Q Out →
      wpAny (model prog w) (ktrTop dp un gd cn cs L a ccd cl outer) (call (.ref f) vs) Q E s

theorem back_news {h₀ h' : Heap} {L : Addr} {m : Str → Option Value} {s : Shared} {news tl : List (Addr × Obj)} (F : Fr h₀ L s.heap m) (N : News h₀ L s.heap news)
    (hk : ∀ b o, s.heap.get? b = some o → h'.get? b = some o) (ht : ∀ q ∈ tl, h'.get? q.1 = some q.2 ∧ s.heap.get? q.1 = none) : News h₀ L h' (tl ++ news) := by
  intro q hq
  rcases List.mem_append.mp hq with hq | hq
  · refine ⟨(ht q hq).1, fun e => ?_, ?_⟩
    · obtain ⟨oL, _, _, hL, _⟩ := F.ns
      have := (ht q hq).2
      rw [e, hL] at this
      cases this
    · cases e : h₀.get? q.1 with
      | none => rfl
      | some o =>
        have := (ht q hq).2
        rw [F.keep _ _ e] at this
        cases this
  · exact ⟨hk _ _ (N q hq).1, (N q hq).2⟩
theorem back_off {h₀ h' : Heap} {L : Addr} {s : Shared} {news tl : List (Addr × Obj)} (N : News h₀ L s.heap news)
    (ht : ∀ q ∈ tl, h'.get? q.1 = some q.2 ∧ s.heap.get? q.1 = none) : ∀ q ∈ tl, ∀ r ∈ news, r.1 ≠ q.1 := by
  intro q hq r hr e
  have := (ht q hq).2
  rw [← e, (N r hr).1] at this
  cases this

/-- what holds between a loop's turns: the ledger and the frame by a datum c, and P of it -/
def Stt {σ : Type} (Led : σ → List (Addr × Obj)) (ps : σ → List (Str × Value)) (x : Str) (stored : List Str) (m₀ : Str → Option Value) (P : Nat → σ → Prop) (i : Nat) (m : Str → Option Value) (nx : List (Addr × Obj)) : Prop :=
  ∃ c : σ, nx = Led c ∧ (∀ q ∈ ps c, m q.1 = some q.2) ∧ (∀ z, z ≠ x → (∀ q ∈ ps c, z ≠ q.1) → stored.contains z = false → m z = m₀ z) ∧ P i c

section
variable {prog : Program} {w : World} {A : Around} {E : Value → Shared → Prop} {s : Shared} {env : Env} {h₀ : Heap} {x : Str} {body : List Stmt} {Q : Flow → Shared → Prop}

theorem loop_list {σ : Type} {l : Addr} {vs : List Value} {nn : Nat} {m₀ : Str → Option Value} (Led : σ → List (Addr × Obj)) (ps : σ → List (Str × Value)) (stored : List Str) (P : Nat → σ → Prop) (c₀ : σ)
    (hh : A.handled = none) (hl : ∀ c, (l, listOf vs.toArray nn) ∈ Led c) (F : Fr h₀ env.locals s.heap m₀) (N : News h₀ env.locals s.heap (Led c₀)) (hk : ∀ q ∈ ps c₀, m₀ q.1 = some q.2) (hp : P 0 c₀)
    (turn : ∀ (c : σ) (i : Nat) (v : Value) (u : Str → Option Value) (h : Heap) (tk : Nat) (own : List (Addr × Obj)), vs[i]? = some v → OwnOff own ((Led c).map (·.1)) → P i c →
      Fr h₀ env.locals h (fun y => if y = x then some v else kstB (fun z => if stored.contains z then u z else m₀ z) (ps c) y) → News h₀ env.locals h (Led c ++ own) →
      wpAny (model prog w) A (execs body env) (InvPostG h₀ env.locals (fun m' nx => (l, listOf vs.toArray nn) ∈ nx ∧ Stt Led ps x stored m₀ P (i + 1) m' nx) own { s with heap := h, toks := tk } Q) E { s with heap := h, toks := tk })
    (done : ∀ (c : σ) (u : Str → Option Value) (h : Heap) (tk : Nat), P vs.length c → Fr h₀ env.locals h (fun y => if y = x then u y else kstB (fun z => if stored.contains z then u z else m₀ z) (ps c) y) → News h₀ env.locals h (Led c) → Q .next { s with heap := h, toks := tk }) :
    wpAny (model prog w) A (pyIter (.ref l)) (fun it s₂ => LoopAtV prog w A h₀ env x body Q E it s₂) E s := by
  refine kdl_iter (fun i m nx => Stt Led ps x stored m₀ P i m nx) hh (hl c₀) F N ⟨c₀, rfl, hk, fun _ _ _ _ => rfl, hp⟩ ?_ ?_
  · rintro i v m₁ nx h tk own hv hoff _ ⟨c, rfl, h1, h2, hp'⟩ F₁ N₁
    exact turn c i v m₁ h tk own hv hoff hp' (kst_fr h1 h2 F₁) N₁
  · rintro m₁ nx h tk ⟨c, rfl, h1, h2, hp'⟩ F₁ N₁
    exact done c m₁ h tk hp' (kst_frOut h1 h2 F₁) N₁

theorem loop_end {σ : Type} {l : Addr} {vs : List Value} {nn : Nat} {m₀ : Str → Option Value} {Led : σ → List (Addr × Obj)} {ps : σ → List (Str × Value)} {stored : List Str} {P : Nat → σ → Prop} {i : Nat} (c : σ) {L : Addr} {m' : Str → Option Value} {own news' : List (Addr × Obj)} {s₁ : Shared} {h' : Heap} {tk : Nat}
    (F : Fr h₀ L h' m') (N : News h₀ L h' news') (hl : (l, listOf vs.toArray nn) ∈ Led c) (hn : ∀ q ∈ Led c, q ∈ news') (ho : ∀ q ∈ own, q ∈ news') (ha : OwnOff own ((Led c).map (·.1)))
    (hk : ∀ q ∈ ps c, m' q.1 = some q.2) (hr : ∀ z, z ≠ x → (∀ q ∈ ps c, z ≠ q.1) → stored.contains z = false → m' z = m₀ z) (hp : P i c) :
    InvEndG h₀ L (fun m' nx => (l, listOf vs.toArray nn) ∈ nx ∧ Stt Led ps x stored m₀ P i m' nx) own s₁ { s₁ with heap := h', toks := tk } :=
  InvEndG.intro F N ⟨hl, c, rfl, hk, hr, hp⟩ ha hn ho

theorem loop_range {σ : Type} {r : Addr} {a₀ b₀ : Int} {t₀ u₀ v₀ : Tok} {n : Nat} {m₀ : Str → Option Value} (Led : σ → List (Addr × Obj)) (ps : σ → List (Str × Value)) (stored : List Str) (P : Nat → σ → Prop) (c₀ : σ)
    (hh : A.handled = none) (hr : IsRange s.heap r a₀ b₀ 1 t₀ u₀ v₀) (hsmall : Builtin.Range.small a₀ b₀ 1 = true) (hsz : Builtin.Range.rangeSize a₀ b₀ 1 = (n : Int)) (F : Fr h₀ env.locals s.heap m₀) (N : News h₀ env.locals s.heap (Led c₀)) (hk : ∀ q ∈ ps c₀, m₀ q.1 = some q.2) (hp : P 0 c₀)
    (turn : ∀ (c : σ) (i : Nat) (t : Tok) (u : Str → Option Value) (h : Heap) (tk : Nat) (own : List (Addr × Obj)), i < n → OwnOff own ((Led c).map (·.1)) → P i c →
      Fr h₀ env.locals h (fun y => if y = x then some (.int (a₀ + (i : Int)) t) else kstB (fun z => if stored.contains z then u z else m₀ z) (ps c) y) → News h₀ env.locals h (Led c ++ own) →
      wpAny (model prog w) A (execs body env) (InvPostG h₀ env.locals (Stt Led ps x stored m₀ P (i + 1)) own { s with heap := h, toks := tk } Q) E { s with heap := h, toks := tk })
    (done : ∀ (c : σ) (u : Str → Option Value) (h : Heap) (tk : Nat), P n c → Fr h₀ env.locals h (fun y => if y = x then u y else kstB (fun z => if stored.contains z then u z else m₀ z) (ps c) y) → News h₀ env.locals h (Led c) → Q .next { s with heap := h, toks := tk }) :
    wpAny (model prog w) A (pyIter (.ref r)) (fun it s₂ => LoopAtV prog w A h₀ env x body Q E it s₂) E s := by
  refine wpAny_pyIter_range hr hsmall ?_
  have W : Walks prog w A s.heap.objs.size [s.heap.objs.size] [s.heap.objs.size] n (fun i v => i < n ∧ ∃ t, v = .int (a₀ + i * 1) t)
      (fun i h => IsRangeIter h s.heap.objs.size (a₀ + (i : Nat) * 1) ((n : Int) - (i : Nat)) 1) := (Walks.range hh _ a₀ 1 n).bound
  refine kdr_loop (fun i m nx => Stt Led ps x stored m₀ P i m nx) W (fun _ h => h) (fun _ h => h) ?_ ?_ ?_ ?_ (by show IsRangeIter _ _ _ _ _; rw [hsz]; simpa using Heap.get?_push_size _ rfl) (F.push _) (fun q hq => ⟨Heap.get?_push_of_some _ (N q hq).1, (N q hq).2⟩) ⟨c₀, rfl, hk, fun _ _ _ _ => rfl, hp⟩ ?_ ?_
  · intro i h hi b hb
    rw [List.mem_singleton.mp hb]
    exact ⟨_, hi⟩
  · intro hm
    exact absurd F.ns.lt ((List.mem_singleton.mp hm) ▸ Nat.lt_irrefl _)
  · intro b hb
    rw [List.mem_singleton.mp hb]
    exact next_is_new F
  · intro q hq hI
    exact absurd (Heap.lt_size (N q hq).1) ((List.mem_singleton.mp hI) ▸ Nat.lt_irrefl _)
  · rintro i v m₁ nx h tk own hin ⟨_, t, rfl⟩ hoff ⟨c, rfl, h1, h2, hp'⟩ F₁ N₁
    rw [Int.mul_one] at F₁
    exact turn c i t m₁ h tk own hin hoff hp' (kst_fr h1 h2 F₁) N₁
  · rintro m₁ nx h tk ⟨c, rfl, h1, h2, hp'⟩ F₁ N₁
    exact done c m₁ h tk hp' (kst_frOut h1 h2 F₁) N₁

theorem range_end {σ : Type} {m₀ : Str → Option Value} {Led : σ → List (Addr × Obj)} {ps : σ → List (Str × Value)} {stored : List Str} {P : Nat → σ → Prop} {i : Nat} (c : σ) {L : Addr} {m' : Str → Option Value} {own news' : List (Addr × Obj)} {s₁ : Shared} {h' : Heap} {tk : Nat}
    (F : Fr h₀ L h' m') (N : News h₀ L h' news') (hn : ∀ q ∈ Led c, q ∈ news') (ho : ∀ q ∈ own, q ∈ news') (ha : OwnOff own ((Led c).map (·.1)))
    (hk : ∀ q ∈ ps c, m' q.1 = some q.2) (hr : ∀ z, z ≠ x → (∀ q ∈ ps c, z ≠ q.1) → stored.contains z = false → m' z = m₀ z) (hp : P i c) :
    InvEndG h₀ L (Stt Led ps x stored m₀ P i) own s₁ { s₁ with heap := h', toks := tk } :=
  InvEndG.intro F N ⟨c, rfl, hk, hr, hp⟩ ha hn ho
end
end Mine

end
section
namespace Mine
/-- a goal of a walk that is proved in a theorem of its own -/
structure Hide (P : Prop) : Prop where
  out : P
theorem apT {X : Prop} (h : True → X) : X := h trivial
/-- a walk that parks one of its goals -/
def park1 {H : Prop} (P : Prop) (h : Hide P → H) : { P : Prop // Hide P → H } := ⟨P, h⟩
/-- a walk that parks two of its goals -/
def park2 {H : Prop} (P₁ P₂ : Prop) (h : Hide P₁ → Hide P₂ → H) : { P : Prop × Prop // Hide P.1 → Hide P.2 → H } := ⟨(P₁, P₂), h⟩
end Mine

end
section
namespace Mine
theorem use_gives {prog : Program} {w : World} {K : Frag} {p : Program} {loose : List Str} {f : Addr} {vs : List Value} {Pre : Heap → Prop} {Out : List (Addr × Obj) → Value → Prop} {mean : ExcName → Option Value} {mg mb : Str → Option Value} {dp un : Nat} {gd : Option (List Code)} {cn : Str} {cs : Scope} {a : Addr} {ccd : Value} {cl : List (Str × Addr)} {outer : List Env} {A₀ : Around} {base h₀ : Heap} {L : Addr} {m : Str → Option Value} {s : Shared} {Q E : Value → Shared → Prop}
    (H : Gives prog w K p loose f vs Pre Out) (B : Below A₀ base outer h₀) (F : Fr h₀ L s.heap m) (X : K.In h₀) (T : Top p loose mean mg mb h₀) (hk : cs.kind = .function) (hp : Pre s.heap) (hd : dp + 2 < recursionLimit) (hu : un + 16 < cLine) (ret : Back h₀ L m s Q Out) :
    wpAny (model prog w) (ktrTop dp un gd cn cs L a ccd cl outer) (call (.ref f) vs) Q E s :=
  H mean mg mb dp un gd cn cs a ccd cl outer A₀ base h₀ L m s Q E B F X T hk hp hd hu ret
theorem news_list {h₀ h : Heap} {L l : Addr} {news : List (Addr × Obj)} {vs : List Value} {n : Nat} (N : News h₀ L h news) (hm : (l, listOf vs.toArray n) ∈ news) : h.IsList l vs.toArray := ⟨_, (N _ hm).1, rfl, n, rfl⟩
theorem strs_at {vs : List Value} {ts : List Str} (hs : StrsAre vs ts) {k : Nat} (hk : k < ts.length) : ∃ y t, vs[k]? = some (.str y t) ∧ ts[k]? = some y := by
  obtain ⟨t, ht⟩ := hs.get k ts[k] (List.getElem?_eq_getElem hk)
  exact ⟨_, t, ht, List.getElem?_eq_getElem hk⟩
end Mine
namespace Mine
theorem gives_mono {prog : Program} {w : World} {K : Frag} {p : Program} {loose : List Str} {f : Addr} {vs : List Value} {Pre : Heap → Prop} {Out Out' : List (Addr × Obj) → Value → Prop} (H : Gives prog w K p loose f vs Pre Out) (h : ∀ tl r, Out tl r → Out' tl r) : Gives prog w K p loose f vs Pre Out' :=
  fun mean mg mb dp un gd cn cs a ccd cl outer A₀ base h₀ L m s Q E B F X T hk hp hd hu ret =>
    H mean mg mb dp un gd cn cs a ccd cl outer A₀ base h₀ L m s Q E B F X T hk hp hd hu fun r tl h' tk' F' k n o => ret r tl h' tk' F' k n (h tl r o)
end Mine

end
section
namespace Mine
section
variable {prog : Program} {w : World} {A : Around} {h₀ : Heap} {L : Addr} {m : Str → Option Value} {env : Env} {elt : Expr} {x : Str} {scope : Scope} {cl : List (Str × Addr)}
theorem comp_rest {s : Shared} {S : List (Addr × Obj) → Prop} {P : Nat → Value → Prop} {Fin : List Value → List (Addr × Obj) → Prop} {news : List (Addr × Obj)} {n : Nat} (J : Nat → List Value → List (Addr × Obj) → Prop) (h0 : J 0 [] news)
    (turn : ∀ (i : Nat) (ys : List Value) (nw : List (Addr × Obj)) (v : Value) (I : Addr) (oI : Obj) (C : Addr) (oC : Obj) (D : Addr) (m₂ : Str → Option Value) (h : Heap) (tk : Nat) (E' : Value → Shared → Prop), i < n → J i ys nw → P i v → LCg.NsObj oC m₂ → m₂ x = some v → Fr h₀ L h m → News h₀ L h ((I, oI) :: (C, oC) :: (D, LCg.lst ys) :: nw) → LCg.Off3 I C D nw → ((@Ne Nat I C) ∧ (@Ne Nat I D) ∧ (@Ne Nat C D)) →
      wpAny (model prog w) A (eval elt (compEnvC scope cl C env)) (LCg.CompEnd h₀ L m { s with heap := h, toks := tk } I oI C oC D (LCg.lst ys) S (fun y nw' => J (i + 1) (ys ++ [y]) nw')) E' { s with heap := h, toks := tk })
    (fin : ∀ ys nw, J n ys nw → Fin ys nw) : LCg.CompRest prog w A h₀ L m env elt x scope cl s S P Fin n 0 [] news := by
  have key : ∀ (j i : Nat) (ys : List Value) (nw : List (Addr × Obj)), i + j = n → J i ys nw → LCg.CompRest prog w A h₀ L m env elt x scope cl s S P Fin j i ys nw := by
    intro j
    induction j with
    | zero =>
      intro i ys nw hi hy
      exact LCg.CompRest.zero (fin ys nw ((show i = n by omega) ▸ hy))
    | succ j ih =>
      intro i ys nw hi hy
      refine LCg.CompRest.succ ?_
      intro v I oI C oC D m₂ h tk E' hv hC hx F N off ne
      refine wpAny_mono (turn i ys nw v I oI C oC D m₂ h tk E' (by omega) hy hv hC hx F N off ne) (fun y s₂ hq => ?_) fun _ _ e => e
      obtain ⟨h', tk', nw', e, F', N', off', hS, hj⟩ := hq
      exact ⟨h', tk', nw', e, F', N', off', hS, ih (i + 1) _ _ (by omega) hj⟩
  exact key n 0 [] news (by omega) h0
theorem comp_src {Fin : Shared → List Value → List (Addr × Obj) → Prop} {ax : Addr} {vs : List Value} {k : Nat} {news : List (Addr × Obj)} {s₁ : Shared} (J : Nat → List Value → List (Addr × Obj) → Prop)
    (hh : A.handled = none) (F : Fr h₀ L s₁.heap m) (N : News h₀ L s₁.heap news) (hm : (ax, listOf vs.toArray k) ∈ news) (hsz : vs.length ≤ sizeLine) (h0 : J 0 [] news)
    (turn : ∀ (i : Nat) (ys : List Value) (nw : List (Addr × Obj)) (v : Value) (I : Addr) (oI : Obj) (C : Addr) (oC : Obj) (D : Addr) (m₂ : Str → Option Value) (h : Heap) (tk : Nat) (E' : Value → Shared → Prop), J i ys nw → vs[i]? = some v → LCg.NsObj oC m₂ → m₂ x = some v → Fr h₀ L h m → News h₀ L h ((I, oI) :: (C, oC) :: (D, LCg.lst ys) :: nw) → LCg.Off3 I C D nw → ((@Ne Nat I C) ∧ (@Ne Nat I D) ∧ (@Ne Nat C D)) →
      wpAny (model prog w) A (eval elt (compEnvC scope cl C env)) (LCg.CompEnd h₀ L m { s₁ with heap := h, toks := tk } I oI C oC D (LCg.lst ys) (LCg.SrcAt h₀ ax vs.toArray) (fun y nw' => J (i + 1) (ys ++ [y]) nw')) E' { s₁ with heap := h, toks := tk })
    (fin : ∀ ys nw g, J vs.length ys nw → Fin { s₁ with heap := g } ys nw) : LCg.CompSrc prog w A h₀ L m env elt x scope cl Fin (.ref ax) s₁ := by
  refine LCg.CompSrc.ledger hh F N hm (by rw [List.size_toArray]; exact hsz) fun g => ?_
  have e : vs.toArray.size = vs.length := List.size_toArray ..
  rw [e]
  refine comp_rest J h0 (fun i ys nw v I oI C oC D m₂ h tk E' _ hJ hv hC hx F' N' off ne => ?_) fun ys nw hJ => fin ys nw g hJ
  exact turn i ys nw v I oI C oC D m₂ h tk E' hJ (by simpa using hv) hC hx F' N' off ne
end
end Mine

end
section
namespace Mine
section
variable {prog : Program} {w : World} {A : Around} {E : Value → Shared → Prop} {s : Shared} {env : Env} {h₀ : Heap} {x : Str} {body : List Stmt} {Q : Flow → Shared → Prop}
/-- a range loop that leaves the ledger as it is -/
abbrev JI (news : List (Addr × Obj)) (stored : List Str) (x : Str) (m₀ : Str → Option Value) (i : Nat) : (Str → Option Value) → List (Addr × Obj) → Prop :=
  Stt (fun _ : Unit => news) (fun _ => []) x stored m₀ (fun _ _ => True) i
theorem loopI {r : Addr} {n : Nat} {t₀ u₀ v₀ : Tok} {m₀ : Str → Option Value} {news : List (Addr × Obj)} (stored : List Str)
    (hh : A.handled = none) (hr : IsRange s.heap r 0 (n : Int) 1 t₀ u₀ v₀) (hn : n ≤ 1000) (F : Fr h₀ env.locals s.heap m₀) (N : News h₀ env.locals s.heap news)
    (turn : ∀ (i : Nat) (t : Tok) (u : Str → Option Value) (h : Heap) (tk : Nat) (own : List (Addr × Obj)), i < n → OwnOff own (news.map (·.1)) →
      Fr h₀ env.locals h (fun y => if y = x then some (.int (i : Int) t) else if stored.contains y then u y else m₀ y) → News h₀ env.locals h (news ++ own) →
      wpAny (model prog w) A (execs body env) (InvPostG h₀ env.locals (JI news stored x m₀ (i + 1)) own { s with heap := h, toks := tk } Q) E { s with heap := h, toks := tk })
    (done : ∀ (u : Str → Option Value) (h : Heap) (tk : Nat), Fr h₀ env.locals h (fun y => if y = x then u y else if stored.contains y then u y else m₀ y) → News h₀ env.locals h news → Q .next { s with heap := h, toks := tk }) :
    wpAny (model prog w) A (pyIter (.ref r)) (fun it s₂ => LoopAtV prog w A h₀ env x body Q E it s₂) E s := by
  refine loop_range (fun _ : Unit => news) (fun _ => []) stored (fun _ _ => True) () hh hr (small_one (by omega) (by omega) (by omega) (by omega)) (rangeSize_nat _ _) F N (fun _ h => nomatch h) trivial ?_ ?_
  · rintro ⟨⟩ i t u h tk own hi hoff _ F₁ N₁
    rw [Int.zero_add] at F₁
    exact turn i t u h tk own (by simpa using hi) hoff F₁ N₁
  · rintro ⟨⟩ u h tk _ F₁ N₁
    exact done u h tk F₁ N₁
theorem endI {m₀ : Str → Option Value} {news : List (Addr × Obj)} {stored : List Str} {i : Nat} {L : Addr} {m' : Str → Option Value} {own news' : List (Addr × Obj)} {s₁ : Shared} {h' : Heap} {tk : Nat}
    (F : Fr h₀ L h' m') (N : News h₀ L h' news') (hn : ∀ q ∈ news ++ own, q ∈ news') (ha : OwnOff own (news.map (·.1))) (hr : ∀ z, z ≠ x → stored.contains z = false → m' z = m₀ z) :
    InvEndG h₀ L (JI news stored x m₀ i) own s₁ { s₁ with heap := h', toks := tk } :=
  range_end (Led := fun _ : Unit => news) (ps := fun _ => []) () F N (fun q hq => hn q (List.mem_append.mpr (.inl hq))) (fun q hq => hn q (List.mem_append.mpr (.inr hq))) ha (fun _ h => nomatch h) (fun z a _ b => hr z a b) trivial
end
end Mine

end
section
namespace Mine
def coll (a b : Str) : Int := b2i (decide (b.cps.toList < a.cps.toList)) - b2i (decide (a.cps.toList < b.cps.toList))
def slt (a b : Str) : Prop := a.cps.toList < b.cps.toList
theorem slt_irrefl (a : Str) : ¬ slt a a := List.lt_irrefl _
theorem slt_trans {a b c : Str} (h : slt a b) (k : slt b c) : slt a c := List.lt_trans h k
theorem slt_asymm {a b : Str} (h : slt a b) (k : slt b a) : False := slt_irrefl _ (slt_trans h k)
theorem slt_ne {a b : Str} (h : slt a b) (e : a = b) : False := slt_irrefl _ (e ▸ h)
theorem slt_ne' {a b : Str} (h : slt a b) (e : b = a) : False := slt_irrefl _ (e ▸ h)
theorem str_ext {a b : Str} (h : a.cps.toList = b.cps.toList) : a = b := by
  cases a; cases b; congr 1; exact Array.toList_inj.mp h
theorem slt_tri (a b : Str) : slt a b ∨ a = b ∨ slt b a := by
  by_cases h : slt a b
  · exact .inl h
  · by_cases k : slt b a
    · exact .inr (.inr k)
    · exact .inr (.inl (str_ext (List.le_antisymm (List.not_lt.mp k) (List.not_lt.mp h))))
theorem b2i_t {p : Prop} [Decidable p] (h : p) : b2i (decide p) = 1 := by unfold b2i; rw [decide_eq_true h]; rfl
theorem b2i_f {p : Prop} [Decidable p] (h : ¬ p) : b2i (decide p) = 0 := by unfold b2i; rw [decide_eq_false h]; rfl
theorem coll_lt {a b : Str} (h : slt a b) : coll a b = -1 := by
  have k : ¬ slt b a := fun q => slt_irrefl _ (slt_trans h q)
  unfold coll
  rw [b2i_f (p := b.cps.toList < a.cps.toList) k, b2i_t (p := a.cps.toList < b.cps.toList) h]; rfl
theorem coll_gt {a b : Str} (h : slt b a) : coll a b = 1 := by
  have k : ¬ slt a b := fun q => slt_irrefl _ (slt_trans h q)
  unfold coll
  rw [b2i_t (p := b.cps.toList < a.cps.toList) h, b2i_f (p := a.cps.toList < b.cps.toList) k]; rfl
theorem coll_self (a : Str) : coll a a = 0 := by
  unfold coll
  omega
theorem coll_cases (a b : Str) : (coll a b = -1 ∧ slt a b) ∨ (coll a b = 0 ∧ a = b) ∨ (coll a b = 1 ∧ slt b a) := by
  rcases slt_tri a b with h | h | h
  · exact .inl ⟨coll_lt h, h⟩
  · exact .inr (.inl ⟨h ▸ coll_self a, h⟩)
  · exact .inr (.inr ⟨coll_gt h, h⟩)
end Mine

end
section
namespace Mine
section
variable (κ : PyProof.Rows.KeyKind) (ix : Keyed → Nat)
def ky (p : Keyed) : κ.α := (κ.keyOf p.1).getD κ.dflt
def el (xs : Array Keyed) (i : Nat) : Keyed := (xs[i]?).getD (.none, .none)
/-- the order of a stable sort: by the keys, then by the places at the start -/
def Rk (p q : Keyed) : Prop := κ.klt (ky κ p) (ky κ q) ∨ (ky κ p = ky κ q ∧ ix p ≤ ix q)
def AscR (xs : Array Keyed) (lo n : Nat) : Prop := ∀ i j, i < j → j < n → Rk κ ix (el xs (lo + i)) (el xs (lo + j))
def DescR (xs : Array Keyed) (lo n : Nat) : Prop := ∀ i j, i < j → j < n → Rk κ ix (el xs (lo + j)) (el xs (lo + i))
end
theorem el_congr {xs ys : Array Keyed} {i j : Nat} (h : xs[i]? = ys[j]?) : el xs i = el ys j := by unfold el; rw [h]
section
variable {κ : PyProof.Rows.KeyKind} {ix : Keyed → Nat}
theorem Rk.of {p q : Keyed} (h : κ.kle (ky κ p) (ky κ q)) (hi : ix p ≤ ix q) : Rk κ ix p q := by
  by_cases c : κ.klt (ky κ p) (ky κ q)
  · exact .inl c
  · exact .inr ⟨KeyOrd.kle_antisymm h (KeyOrd.kle_of_not_klt c), hi⟩
theorem Rk.kle {p q : Keyed} (h : Rk κ ix p q) : κ.kle (ky κ p) (ky κ q) := by
  rcases h with h | h
  · exact KeyOrd.kle_of_klt h
  · rw [h.1]; exact KeyOrd.kle_refl _
end
/-- the sort's state while it works on the run at lo: what is ahead stands as in b, what is behind as in a₀ -/
structure SG (a₀ b : Array Keyed) (pd : Array (Nat × Nat × Nat)) (lo hi : Nat) (st : SortSt) : Prop where
  perm : (arrOf st).Perm a₀
  kind : kindOf st = oneType'
  failed : failedOf st = none
  pend : pendingOf st = pd
  low : ∀ i, i < lo → (arrOf st)[i]? = b[i]?
  high : ∀ i, lo + hi ≤ i → (arrOf st)[i]? = a₀[i]?
  mid : ∀ i, i < hi → ∃ j, j < hi ∧ (arrOf st)[lo + i]? = a₀[lo + j]?
section
variable {a₀ b : Array Keyed} {pd : Array (Nat × Nat × Nat)} {lo hi : Nat} {st : SortSt} {κ : PyProof.Rows.KeyKind} {ix : Keyed → Nat}
theorem SG.size (h : SG a₀ b pd lo hi st) : (arrOf st).size = a₀.size := h.perm.size_eq
theorem SG.grow (h : SG a₀ b pd lo hi st) : SG a₀ b pd lo (hi + 1) st := by
  refine ⟨h.perm, h.kind, h.failed, h.pend, h.low, fun i hi' => h.high i (by omega), fun i hi' => ?_⟩
  by_cases c : i < hi
  · obtain ⟨j, hj, e⟩ := h.mid i c
    exact ⟨j, by omega, e⟩
  · have : i = hi := by omega
    subst this
    exact ⟨i, by omega, h.high _ (Nat.le_refl _)⟩
theorem SG.mir (h : SG a₀ b pd lo hi st) (hs : lo + hi ≤ a₀.size) {i j : Nat} (hj : j ≤ hi) : SG a₀ b pd lo hi (setArr st (mirror (arrOf st) (lo + i) (lo + j) ((lo + j - (lo + i)) / 2))) := by
  have hz : lo + j ≤ (arrOf st).size := by rw [h.size]; omega
  refine ⟨(mirror_perm _ _ _ _).trans h.perm, h.kind, h.failed, h.pend, fun k hk => ?_, fun k hk => ?_, fun k hk => ?_⟩
  · show (mirror _ _ _ _)[k]? = _
    rw [getElem?_mirror_all hz, if_neg (by omega)]
    exact h.low k hk
  · show (mirror _ _ _ _)[k]? = _
    rw [getElem?_mirror_all hz, if_neg (by omega)]
    exact h.high k hk
  · show ∃ q, q < hi ∧ (mirror _ _ _ _)[lo + k]? = _
    by_cases c : i ≤ k ∧ k < j
    · obtain ⟨q, hq, e⟩ := h.mid (i + j - 1 - k) (by omega)
      refine ⟨q, hq, ?_⟩
      rw [getElem?_mirror_all hz, if_pos (by omega), ← e]
      congr 1
      omega
    · obtain ⟨q, hq, e⟩ := h.mid k hk
      refine ⟨q, hq, ?_⟩
      rw [getElem?_mirror_all hz, if_neg (by omega), e]
theorem SG.bub (h : SG a₀ b pd lo hi st) (hs : lo + hi ≤ a₀.size) {k l : Nat} (hl : l ≤ k) (hk : k < hi) : SG a₀ b pd lo hi (setArr st (bubble (arrOf st) (lo + k) (lo + k - (lo + l)))) := by
  have hz : lo + k < (arrOf st).size := by rw [h.size]; omega
  refine ⟨(bubble_perm _ _ _).trans h.perm, h.kind, h.failed, h.pend, fun q hq => ?_, fun q hq => ?_, fun q hq => ?_⟩
  · show (bubble _ _ _)[q]? = _
    rw [getElem?_bubble hz _ (by omega), if_neg (by omega), if_neg (by omega)]
    exact h.low q hq
  · show (bubble _ _ _)[q]? = _
    rw [getElem?_bubble hz _ (by omega), if_neg (by omega), if_neg (by omega)]
    exact h.high q hq
  · show ∃ r, r < hi ∧ (bubble _ _ _)[lo + q]? = _
    rw [getElem?_bubble hz _ (by omega)]
    by_cases c : q = l
    · obtain ⟨r, hr, e⟩ := h.mid k hk
      exact ⟨r, hr, by rw [if_pos (by omega), e]⟩
    · by_cases c2 : l < q ∧ q ≤ k
      · obtain ⟨r, hr, e⟩ := h.mid (q - 1) (by omega)
        refine ⟨r, hr, ?_⟩
        rw [if_neg (by omega), if_pos (by omega), ← e]
        congr 1
        omega
      · obtain ⟨r, hr, e⟩ := h.mid q hq
        exact ⟨r, hr, by rw [if_neg (by omega), if_neg (by omega), e]⟩
theorem el_mir {xs : Array Keyed} {i j : Nat} (hz : lo + j ≤ xs.size) (k : Nat) : el (mirror xs (lo + i) (lo + j) ((lo + j - (lo + i)) / 2)) (lo + k) = if i ≤ k ∧ k < j then el xs (lo + (i + j - 1 - k)) else el xs (lo + k) := by
  by_cases c : i ≤ k ∧ k < j
  · rw [if_pos c]
    refine el_congr ?_
    rw [getElem?_mirror_all hz, if_pos (by omega)]
    congr 1
    omega
  · rw [if_neg c]
    refine el_congr ?_
    rw [getElem?_mirror_all hz, if_neg (by omega)]
theorem el_bub {xs : Array Keyed} {k l : Nat} (hz : lo + k < xs.size) (hl : l ≤ k) (q : Nat) : el (bubble xs (lo + k) (lo + k - (lo + l))) (lo + q) = if q = l then el xs (lo + k) else if l < q ∧ q ≤ k then el xs (lo + (q - 1)) else el xs (lo + q) := by
  by_cases c : q = l
  · rw [if_pos c]
    refine el_congr ?_
    rw [getElem?_bubble hz _ (by omega), if_pos (by omega)]
  · rw [if_neg c]
    by_cases c2 : l < q ∧ q ≤ k
    · rw [if_pos c2]
      refine el_congr ?_
      rw [getElem?_bubble hz _ (by omega), if_neg (by omega), if_pos (by omega)]
      congr 1
      omega
    · rw [if_neg c2]
      refine el_congr ?_
      rw [getElem?_bubble hz _ (by omega), if_neg (by omega), if_neg (by omega)]
/-- the places grow with the index -/
def IxUp (ix : Keyed → Nat) (a₀ : Array Keyed) : Prop := ∀ i j, i ≤ j → j < a₀.size → ix (el a₀ i) ≤ ix (el a₀ j)
theorem SG.ixle (h : SG a₀ b pd lo hi st) (hx : IxUp ix a₀) {i j : Nat} (hi' : i < hi) (hj : hi ≤ j) (hz : lo + j < a₀.size) : ix (el (arrOf st) (lo + i)) ≤ ix (el (arrOf st) (lo + j)) := by
  obtain ⟨q, hq, e⟩ := h.mid i hi'
  rw [el_congr e, el_congr (h.high (lo + j) (by omega))]
  exact hx _ _ (by omega) hz
theorem SG.at (h : SG a₀ b pd lo hi st) (h0 : KeysOf κ a₀) {i : Nat} (hi' : i < a₀.size) : ∃ x q, (arrOf st)[i]? = some (x, q) ∧ κ.keyOf x = some (ky κ (el (arrOf st) i)) := by
  have hz : i < (arrOf st).size := by rw [h.size]; exact hi'
  have hm : (arrOf st)[i] ∈ a₀.toList := (Array.perm_iff_toList_perm.mp h.perm).mem_iff.mp (by simp)
  obtain ⟨a, ha⟩ := h0 _ hm
  have e : (arrOf st)[i]? = some (arrOf st)[i] := getElem?_pos _ i hz
  refine ⟨(arrOf st)[i].1, (arrOf st)[i].2, e, ?_⟩
  unfold ky el
  rw [e]
  show κ.keyOf (arrOf st)[i].1 = some ((κ.keyOf (arrOf st)[i].1).getD κ.dflt)
  rw [ha]
  rfl
end
section
variable {prog : Program} {w : World} {A : Around} {E : Value → Shared → Prop} {s : Shared} {a₀ b : Array Keyed} {pd : Array (Nat × Nat × Nat)} {lo hi : Nat} {st : SortSt} {κ : PyProof.Rows.KeyKind} {ix : Keyed → Nat}
theorem wpS_ltG {Q : Option Bool → SortSt → Prop} (hO : κ.OneLt) (h0 : KeysOf κ a₀) (hB : SG a₀ b pd lo hi st) {i j : Nat} (hi' : i < a₀.size) (hj : j < a₀.size)
    (h : Q (some (κ.blt (ky κ (el (arrOf st) i)) (ky κ (el (arrOf st) j)))) st) : wpS (model prog w) A E s (ltAt' i j) Q st := by
  obtain ⟨x, p, e1, k1⟩ := hB.at h0 hi'
  obtain ⟨y, q, e2, k2⟩ := hB.at h0 hj
  exact wpS_ltAtK hO hB.kind e1 e2 k1 k2 h
end
end Mine

end
section
namespace Mine
section
variable {prog : Program} {w : World} {A : Around} {E : Value → Shared → Prop} {s : Shared} {a₀ b : Array Keyed} {pd : Array (Nat × Nat × Nat)} {lo hi : Nat} {st : SortSt} {κ : PyProof.Rows.KeyKind} {ix : Keyed → Nat}
theorem wpS_binG {n ok : Nat} {Q : Bool → SortSt → Prop} (hO : κ.OneLt) (h0 : KeysOf κ a₀) (hx : IxUp ix a₀) (hn : lo + n ≤ a₀.size) (ho1 : 1 ≤ ok) (hok : ok ≤ n) (hB : SG a₀ b pd lo ok st) (hs : AscR κ ix (arrOf st) lo ok)
    (h : ∀ st', SG a₀ b pd lo n st' → AscR κ ix (arrOf st') lo n → Q true st') : wpS (model prog w) A E s (binarySort' lo n ok) Q st := by
  rw [binarySort'_eq]
  refine wpS_bind (wpS_mono (wpS_forRange (I := fun k c st' => c = (none, ()) ∧ SG a₀ b pd lo (min k n) st' ∧ AscR κ ix (arrOf st') lo (min k n))
    (Q := fun c st' => c = (none, ()) ∧ SG a₀ b pd lo n st' ∧ AscR κ ix (arrOf st') lo n) ?step ?fin ?init) ?post)
  case post =>
    rintro c st' ⟨rfl, hB', hs'⟩
    exact wpS_pure (h st' hB' hs')
  case init =>
    rw [show min (max ok 1) n = ok by omega]
    exact ⟨rfl, hB, hs⟩
  case fin =>
    rintro c st' ⟨hc, hB', hs'⟩
    rw [show min (max (max ok 1) n) n = n by omega] at hB' hs'
    exact ⟨hc, hB', hs'⟩
  case step =>
    rintro k c st' hak hkn ⟨rfl, hB', hs'⟩
    rw [show min k n = k by omega] at hB' hs'
    have hk : lo + k < a₀.size := by omega
    refine wpS_bind (wpS_mono (wpS_forRange (I := fun x c st'' => st'' = st' ∧ ∃ l r, c = (none, l, r) ∧ l ≤ r ∧ r ≤ k ∧ r - l ≤ k - x ∧
        (∀ i, i < l → κ.kle (ky κ (el (arrOf st') (lo + i))) (ky κ (el (arrOf st') (lo + k)))) ∧ (∀ i, r ≤ i → i < k → κ.klt (ky κ (el (arrOf st') (lo + k))) (ky κ (el (arrOf st') (lo + i)))))
      (Q := fun c st'' => st'' = st' ∧ ∃ l r, c = (none, l, r) ∧ l ≤ k ∧
        (∀ i, i < l → κ.kle (ky κ (el (arrOf st') (lo + i))) (ky κ (el (arrOf st') (lo + k)))) ∧ (∀ i, l ≤ i → i < k → κ.klt (ky κ (el (arrOf st') (lo + k))) (ky κ (el (arrOf st') (lo + i))))) ?istep ?ifin ?iinit) ?ipost)
    case iinit => exact ⟨rfl, 0, k, rfl, by omega, by omega, by omega, fun i hi => by omega, fun i h1 h2 => by omega⟩
    case ifin =>
      rintro c st'' ⟨rfl, l, r, rfl, hlr, hrk, hm, hlo, hhi⟩
      have : l = r := by omega
      subst this
      exact ⟨rfl, l, l, rfl, hrk, hlo, hhi⟩
    case istep =>
      rintro x c st'' _ hxk ⟨rfl, l, r, rfl, hlr, hrk, hm, hlo, hhi⟩
      dsimp only
      by_cases hge : l ≥ r
      · rw [if_pos hge]
        have : l = r := by omega
        subst this
        exact wpS_pure ⟨rfl, l, l, rfl, hrk, hlo, hhi⟩
      · rw [if_neg hge]
        refine wpS_bind (wpS_ltG hO h0 hB' hk (by omega) ?_)
        have kl : ∀ i j, i ≤ j → j < k → κ.kle (ky κ (el (arrOf st'') (lo + i))) (ky κ (el (arrOf st'') (lo + j))) := by
          intro i j hij hj
          rcases Nat.lt_or_eq_of_le hij with q | q
          · exact (hs' i j q hj).kle
          · rw [q]; exact KeyOrd.kle_refl _
        cases hless : κ.blt (ky κ (el (arrOf st'') (lo + k))) (ky κ (el (arrOf st'') (lo + (l + r) / 2))) with
        | true =>
          simp only [if_true]
          refine wpS_pure ⟨rfl, l, (l + r) / 2, rfl, by omega, by omega, by omega, hlo, fun i h1 h2 => ?_⟩
          exact KeyOrd.klt_of_klt_of_kle hless (kl _ _ h1 h2)
        | false =>
          simp only [Bool.false_eq_true, if_false]
          refine wpS_pure ⟨rfl, (l + r) / 2 + 1, r, rfl, by omega, by omega, by omega, fun i h1 => ?_, hhi⟩
          exact KeyOrd.kle_trans (kl i ((l + r) / 2) (by omega) (by omega)) hless
    case ipost =>
      rintro c st'' ⟨rfl, l, r, rfl, hlk, hlo, hhi⟩
      show wpS _ _ _ _ (do moveDown' (lo + k) (lo + l); pure (ForInStep.yield (none, ()))) _ _
      rw [moveDown'_eq]
      rw [show min (k + 1) n = k + 1 by omega]
      refine wpS_bind (wpS_modify (wpS_pure ⟨rfl, hB'.grow.bub (by omega) hlk (by omega), ?_⟩))
      have hks : lo + k < (arrOf st'').size := by rw [hB'.size]; exact hk
      intro i j hij hj
      show Rk κ ix (el (bubble (arrOf st'') (lo + k) (lo + k - (lo + l))) (lo + i)) (el (bubble (arrOf st'') (lo + k) (lo + k - (lo + l))) (lo + j))
      rw [el_bub hks (by omega), el_bub hks (by omega)]
      repeat' split
      all_goals first
        | (exfalso; omega)
        | exact Rk.of (hlo _ (by omega)) (hB'.ixle hx (by omega) (Nat.le_refl _) hk)
        | exact .inl (hhi _ (by omega) (by omega))
        | exact hs' _ _ (by omega) (by omega)
/-- one item more behind a run that is in order -/
theorem AscR.more {xs : Array Keyed} {x : Nat} (hs : AscR κ ix xs lo x) (h1 : 1 ≤ x) (hle : κ.kle (ky κ (el xs (lo + (x - 1)))) (ky κ (el xs (lo + x)))) (hi : ∀ i, i < x → ix (el xs (lo + i)) ≤ ix (el xs (lo + x))) : AscR κ ix xs lo (x + 1) := by
  intro i j hij hj
  by_cases c : j < x
  · exact hs i j hij c
  · have : j = x := by omega
    subst this
    by_cases d : i = j - 1
    · subst d; exact Rk.of hle (hi _ (by omega))
    · exact Rk.of (KeyOrd.kle_trans (hs i (j - 1) (by omega) (by omega)).kle hle) (hi _ (by omega))
/-- a falling run: blocks of equal keys, all but the last one turned round -/
def DB (κ : PyProof.Rows.KeyKind) (ix : Keyed → Nat) (xs : Array Keyed) (lo m q : Nat) : Prop :=
  q + 1 ≤ m ∧ (∀ i j, i < j → j < m - (q + 1) → Rk κ ix (el xs (lo + j)) (el xs (lo + i))) ∧
    (∀ i j, i < m - (q + 1) → m - (q + 1) ≤ j → j < m → κ.klt (ky κ (el xs (lo + j))) (ky κ (el xs (lo + i)))) ∧
    (∀ i j, m - (q + 1) ≤ i → i < j → j < m → ky κ (el xs (lo + i)) = ky κ (el xs (lo + j)) ∧ ix (el xs (lo + i)) ≤ ix (el xs (lo + j)))
theorem DB.flip {xs : Array Keyed} {m q : Nat} (h : DB κ ix xs lo m q) (hz : lo + m ≤ xs.size) : DescR κ ix (mirror xs (lo + (m - (q + 1))) (lo + m) ((lo + m - (lo + (m - (q + 1)))) / 2)) lo m := by
  obtain ⟨h1, h2, h3, h4⟩ := h
  intro i j hij hj
  rw [el_mir hz, el_mir hz]
  repeat' split
  · have e := h4 (m - (q + 1) + m - 1 - j) (m - (q + 1) + m - 1 - i) (by omega) (by omega) (by omega)
    exact .inr ⟨e.1, e.2⟩
  · exact .inl (h3 _ _ (by omega) (by omega) (by omega))
  · exfalso; omega
  · exact h2 _ _ hij (by omega)
theorem DB.flat {xs : Array Keyed} {m : Nat} (h : DB κ ix xs lo m 0) : DescR κ ix xs lo m := by
  obtain ⟨h1, h2, h3, h4⟩ := h
  intro i j hij hj
  by_cases c : j < m - (0 + 1)
  · exact h2 _ _ hij c
  · exact .inl (h3 _ _ (by omega) (by omega) hj)
theorem DescR.up {xs : Array Keyed} {m : Nat} (h : DescR κ ix xs lo m) (hz : lo + m ≤ xs.size) : AscR κ ix (mirror xs (lo + 0) (lo + m) ((lo + m - (lo + 0)) / 2)) lo m := by
  intro i j hij hj
  rw [el_mir hz, el_mir hz, if_pos (by omega), if_pos (by omega)]
  exact h _ _ (by omega) (by omega)
theorem DescR.next {xs : Array Keyed} {x : Nat} (h : DescR κ ix xs lo x) (h1 : 1 ≤ x) (hlt : κ.klt (ky κ (el xs (lo + x))) (ky κ (el xs (lo + (x - 1))))) : DB κ ix xs lo (x + 1) 0 := by
  refine ⟨by omega, fun i j hij hj => h i j hij (by omega), fun i j hi hj hj' => ?_, fun i j hi hij hj => by omega⟩
  have : j = x := by omega
  subst this
  by_cases c : i = j - 1
  · subst c; exact hlt
  · exact KeyOrd.klt_of_klt_of_kle hlt (h i (j - 1) (by omega) (by omega)).kle
theorem DB.same {xs : Array Keyed} {x q : Nat} (h : DB κ ix xs lo x q) (e : ky κ (el xs (lo + (x - 1))) = ky κ (el xs (lo + x))) (hi : ∀ i, i < x → ix (el xs (lo + i)) ≤ ix (el xs (lo + x))) : DB κ ix xs lo (x + 1) (q + 1) := by
  obtain ⟨h1, h2, h3, h4⟩ := h
  refine ⟨by omega, fun i j hij hj => h2 i j hij (by omega), fun i j a1 a2 a3 => ?_, fun i j a1 a2 a3 => ?_⟩
  · by_cases c : j < x
    · exact h3 i j (by omega) (by omega) c
    · have : j = x := by omega
      subst this
      rw [← e]
      exact h3 i (j - 1) (by omega) (by omega) (by omega)
  · by_cases c : j < x
    · exact h4 i j (by omega) a2 c
    · have : j = x := by omega
      subst this
      refine ⟨?_, hi _ a2⟩
      rw [← e]
      by_cases d : i = j - 1
      · rw [d]
      · exact (h4 i (j - 1) (by omega) (by omega) (by omega)).1
set_option maxHeartbeats 4000000 in
theorem wpS_runG {nrem : Nat} {Q : Option Nat → SortSt → Prop} (hO : κ.OneLt) (h0 : KeysOf κ a₀) (hx : IxUp ix a₀) (hn : lo + nrem ≤ a₀.size) (h1 : 1 ≤ nrem) (hB : SG a₀ b pd lo 0 st)
    (h : ∀ m st', SG a₀ b pd lo m st' → 1 ≤ m → m ≤ nrem → AscR κ ix (arrOf st') lo m → Q (some m) st') :
    wpS (model prog w) A E s (countRun' lo nrem) Q st := by
  rw [countRun'_eq]
  -- the rising loop
  refine wpS_bind (wpS_mono (wpS_forRange (I := fun x c st' => st' = st ∧ c = (none, x) ∧ AscR κ ix (arrOf st) lo x ∧ SG a₀ b pd lo x st)
    (Q := fun c st' => st' = st ∧ ∃ n, c = (none, n) ∧ 1 ≤ n ∧ n ≤ nrem ∧ AscR κ ix (arrOf st) lo n ∧ SG a₀ b pd lo n st ∧ (n = nrem ∨ κ.klt (ky κ (el (arrOf st) (lo + n))) (ky κ (el (arrOf st) (lo + (n - 1)))))) ?step ?fin ?init) ?post)
  case init => exact ⟨rfl, rfl, fun i j hij hj => by omega, hB.grow⟩
  case fin =>
    rintro c st' ⟨rfl, rfl, hs', hB'⟩
    rw [show max 1 nrem = nrem by omega] at hs' hB' ⊢
    exact ⟨rfl, nrem, rfl, h1, Nat.le_refl _, hs', hB', .inl rfl⟩
  case step =>
    rintro x c st' hax hxn ⟨rfl, rfl, hs', hB'⟩
    dsimp only
    rw [Nat.add_sub_assoc hax]
    refine wpS_bind (wpS_ltG hO h0 hB' (by omega) (by omega) ?_)
    cases hless : κ.blt (ky κ (el (arrOf st') (lo + x))) (ky κ (el (arrOf st') (lo + (x - 1)))) with
    | true =>
      simp only [if_true]
      exact wpS_pure ⟨rfl, x, rfl, hax, by omega, hs', hB', .inr hless⟩
    | false =>
      simp only [Bool.false_eq_true, if_false]
      exact wpS_pure ⟨rfl, rfl, hs'.more hax hless (fun i hi => hB'.ixle hx hi (Nat.le_refl _) (by omega)), hB'.grow⟩
  case post =>
    rintro c st' ⟨rfl, n, rfl, hn1, hn2, hsn, hBn, hor⟩
    dsimp only
    by_cases hnn : n = nrem
    · rw [if_pos (by simpa using hnn)]
      exact wpS_pure (h n _ hBn hn1 hn2 hsn)
    · rw [if_neg (by simpa using hnn)]
      have hlt := hor.resolve_left hnn
      refine Classical.byCases (p := n > 1) (fun hgt => ?ca) (fun hgt => ?cb)
      case' ca =>
        rw [if_pos hgt, Nat.add_sub_assoc hn1]
        refine wpS_bind (wpS_ltG hO h0 hBn (by omega) (by omega) ?_)
        refine Classical.byCases (p := κ.klt (ky κ (el (arrOf st') lo)) (ky κ (el (arrOf st') (lo + (n - 1))))) (fun hrose => ?cx) (fun hrose => ?cy)
        case' cx =>
          rw [show κ.blt (ky κ (el (arrOf st') lo)) (ky κ (el (arrOf st') (lo + (n - 1)))) = true from hrose]
          simp only [if_true]
          exact wpS_pure (h n _ hBn hn1 hn2 hsn)
        case' cy =>
          rw [show κ.blt (ky κ (el (arrOf st') lo)) (ky κ (el (arrOf st') (lo + (n - 1)))) = false from by simpa [KeyOrd.klt] using hrose]
          simp only [Bool.false_eq_true, if_false]
          rw [reverseSlice'_eq]
          refine wpS_bind (wpS_modify ?_)
          have hz : lo + n ≤ (arrOf st').size := by rw [hBn.size]; omega
          have hall : ∀ i, i < n → ky κ (el (arrOf st') (lo + i)) = ky κ (el (arrOf st') (lo + (n - 1))) := by
            intro i hi
            have k0 : κ.kle (ky κ (el (arrOf st') lo)) (ky κ (el (arrOf st') (lo + i))) := by
              by_cases c : i = 0
              · subst c; exact KeyOrd.kle_refl _
              · exact (hsn 0 i (by omega) hi).kle
            have k1 : κ.kle (ky κ (el (arrOf st') (lo + i))) (ky κ (el (arrOf st') (lo + (n - 1)))) := by
              by_cases c : i = n - 1
              · subst c; exact KeyOrd.kle_refl _
              · exact (hsn i (n - 1) (by omega) (by omega)).kle
            exact KeyOrd.kle_antisymm k1 (KeyOrd.kle_trans (KeyOrd.kle_of_not_klt hrose) k0)
          have hD : DB κ ix (arrOf (setArr st' (mirror (arrOf st') (lo + 0) (lo + n) ((lo + n - (lo + 0)) / 2)))) lo (n + 1) 0 := by
            change DB κ ix (mirror (arrOf st') (lo + 0) (lo + n) ((lo + n - (lo + 0)) / 2)) lo (n + 1) 0
            refine DescR.next ?_ hn1 ?_
            · have hb : DB κ ix (arrOf st') lo n (n - 1) := by
                refine ⟨by omega, fun i j a1 a2 => by omega, fun i j a1 a2 => by omega, fun i j a1 a2 a3 => ?_⟩
                refine ⟨(hall i (by omega)).trans (hall j a3).symm, ?_⟩
                rcases hsn i j a2 a3 with c | c
                · exfalso
                  have e := (hall i (by omega)).trans (hall j a3).symm
                  rw [e] at c
                  have := κ.irrefl (ky κ (el (arrOf st') (lo + j)))
                  rw [show κ.blt (ky κ (el (arrOf st') (lo + j))) (ky κ (el (arrOf st') (lo + j))) = true from c] at this
                  cases this
                · exact c.2
              have hf := hb.flip hz
              rw [show n - (n - 1 + 1) = 0 by omega] at hf
              exact hf
            · rw [el_mir hz, el_mir hz, if_neg (by omega), if_pos (by omega), hall (0 + n - 1 - (n - 1)) (by omega)]
              exact hlt
          have hB1 : SG a₀ b pd lo (n + 1) (setArr st' (mirror (arrOf st') (lo + 0) (lo + n) ((lo + n - (lo + 0)) / 2))) := (hBn.mir (by omega) (Nat.le_refl _)).grow
          change wpS (model prog w) A E s _ Q (setArr st' (mirror (arrOf st') (lo + 0) (lo + n) ((lo + n - (lo + 0)) / 2)))
          generalize setArr st' (mirror (arrOf st') (lo + 0) (lo + n) ((lo + n - (lo + 0)) / 2)) = st1 at hB1 hD ⊢
      case' cb =>
        rw [if_neg hgt]
        have hD : DB κ ix (arrOf st') lo (n + 1) 0 := DescR.next (fun i j a1 a2 => by omega) hn1 hlt
        have hB1 : SG a₀ b pd lo (n + 1) st' := hBn.grow
        generalize st' = st1 at hB1 hD ⊢
      all_goals (
        refine wpS_bind (wpS_lift (wpAny_rule ⟨rfl, ?_⟩))
        -- the falling loop
        refine wpS_bind (wpS_mono (wpS_forRange (I := fun x c st2 => ∃ q, c = (none, x, q) ∧ SG a₀ b pd lo x st2 ∧ DB κ ix (arrOf st2) lo x q)
          (Q := fun c st2 => ∃ m q, c = (none, m, q) ∧ m ≤ nrem ∧ SG a₀ b pd lo m st2 ∧ DB κ ix (arrOf st2) lo m q) ?_ ?_ ⟨0, rfl, hB1, hD⟩) ?_)
        · rintro x c st2 hax hxn ⟨q, rfl, hB2, hD2⟩
          have hq := hD2.1
          have hz2 : lo + x ≤ (arrOf st2).size := by rw [hB2.size]; omega
          dsimp only
          rw [Nat.add_sub_assoc (show 1 ≤ x by omega), Nat.add_sub_assoc hq]
          refine wpS_bind (wpS_ltG hO h0 hB2 (by omega) (by omega) ?_)
          cases hless : κ.blt (ky κ (el (arrOf st2) (lo + x))) (ky κ (el (arrOf st2) (lo + (x - 1)))) with
          | true =>
            simp only [if_true]
            by_cases hq0 : q > 0
            · rw [if_pos hq0, reverseSlice'_eq]
              refine wpS_bind (wpS_modify (wpS_pure ⟨0, rfl, (hB2.mir (by omega) (Nat.le_refl _)).grow, ?_⟩))
              refine DescR.next (hD2.flip hz2) (by omega) ?_
              rw [el_mir hz2, el_mir hz2, if_neg (by omega), if_pos (by omega)]
              by_cases d : x - (q + 1) + x - 1 - (x - 1) = x - 1
              · rw [d]; exact hless
              · rw [(hD2.2.2.2 (x - (q + 1) + x - 1 - (x - 1)) (x - 1) (by omega) (by omega) (by omega)).1]; exact hless
            · rw [if_neg hq0]
              have : q = 0 := by omega
              subst this
              exact wpS_pure ⟨0, rfl, hB2.grow, DescR.next hD2.flat (by omega) hless⟩
          | false =>
            simp only [Bool.false_eq_true, if_false]
            refine wpS_bind (wpS_ltG hO h0 hB2 (by omega) (by omega) ?_)
            cases hmore : κ.blt (ky κ (el (arrOf st2) (lo + (x - 1)))) (ky κ (el (arrOf st2) (lo + x))) with
            | true =>
              simp only [if_true]
              exact wpS_pure ⟨x, q, rfl, by omega, hB2, hD2⟩
            | false =>
              simp only [Bool.false_eq_true, if_false]
              exact wpS_pure ⟨q + 1, rfl, hB2.grow, hD2.same (κ.total _ _ hmore hless) fun i hi => hB2.ixle hx hi (Nat.le_refl _) (by omega)⟩
        · rintro c st2 ⟨q, rfl, hB2, hD2⟩
          rw [show max (n + 1) nrem = nrem by omega] at hB2 hD2 ⊢
          exact ⟨nrem, q, rfl, Nat.le_refl _, hB2, hD2⟩
        · rintro c st2 ⟨m, q, rfl, hm, hB2, hD2⟩
          have hq := hD2.1
          have hz2 : lo + m ≤ (arrOf st2).size := by rw [hB2.size]; omega
          dsimp only
          rw [Nat.add_sub_assoc hq]
          by_cases hq0 : q > 0
          case' pos =>
            rw [if_pos hq0, reverseSlice'_eq]
            refine wpS_bind (wpS_modify ?_)
            have hE : DescR κ ix (arrOf (setArr st2 (mirror (arrOf st2) (lo + (m - (q + 1))) (lo + m) ((lo + m - (lo + (m - (q + 1)))) / 2)))) lo m := hD2.flip hz2
            have hB3 := hB2.mir (by omega) (i := m - (q + 1)) (Nat.le_refl m)
            generalize setArr st2 (mirror (arrOf st2) (lo + (m - (q + 1))) (lo + m) ((lo + m - (lo + (m - (q + 1)))) / 2)) = st3 at hB3 hE ⊢
          case' neg =>
            rw [if_neg hq0]
            have : q = 0 := by omega
            subst this
            have hE := hD2.flat
            have hB3 := hB2
            generalize st2 = st3 at hB3 hE ⊢
          all_goals (
            have hz3 : lo + m ≤ (arrOf st3).size := by rw [hB3.size]; omega
            rw [reverseSlice'_eq]
            refine wpS_bind (wpS_modify ?_)
            have hU : AscR κ ix (arrOf (setArr st3 (mirror (arrOf st3) (lo + 0) (lo + m) ((lo + m - (lo + 0)) / 2)))) lo m := hE.up hz3
            have hB4 := hB3.mir (by omega) (i := 0) (Nat.le_refl m)
            change wpS (model prog w) A E s _ Q (setArr st3 (mirror (arrOf st3) (lo + 0) (lo + m) ((lo + m - (lo + 0)) / 2)))
            generalize setArr st3 (mirror (arrOf st3) (lo + 0) (lo + m) ((lo + m - (lo + 0)) / 2)) = st4 at hB4 hU ⊢
            refine wpS_bind (wpS_mono (wpS_forRange (I := fun x c st5 => st5 = st4 ∧ c = (none, x) ∧ AscR κ ix (arrOf st4) lo x ∧ SG a₀ b pd lo x st4)
              (Q := fun c st5 => st5 = st4 ∧ ∃ m', c = (none, m') ∧ 1 ≤ m' ∧ m' ≤ nrem ∧ AscR κ ix (arrOf st4) lo m' ∧ SG a₀ b pd lo m' st4) ?_ ?_ ⟨rfl, rfl, hU, hB4⟩) ?_)
            · rintro x c st5 hax hxn ⟨rfl, rfl, hs5, hB5⟩
              dsimp only
              rw [Nat.add_sub_assoc (show 1 ≤ x by omega)]
              refine wpS_bind (wpS_ltG hO h0 hB5 (by omega) (by omega) ?_)
              cases hless : κ.blt (ky κ (el (arrOf st5) (lo + x))) (ky κ (el (arrOf st5) (lo + (x - 1)))) with
              | true =>
                simp only [if_true]
                exact wpS_pure ⟨rfl, x, rfl, by omega, by omega, hs5, hB5⟩
              | false =>
                simp only [Bool.false_eq_true, if_false]
                exact wpS_pure ⟨rfl, rfl, hs5.more (by omega) hless (fun i hi => hB5.ixle hx hi (Nat.le_refl _) (by omega)), hB5.grow⟩
            · rintro c st5 ⟨rfl, rfl, hs5, hB5⟩
              rw [show max m nrem = nrem by omega] at hs5 hB5 ⊢
              exact ⟨rfl, nrem, rfl, h1, Nat.le_refl _, hs5, hB5⟩
            · rintro c st5 ⟨rfl, m', rfl, hm1, hm2, hs5, hB5⟩
              exact wpS_pure (h m' _ hB5 hm1 hm2 hs5)))
end
end Mine

end
section
namespace Mine
section
variable {prog : Program} {w : World} {A : Around} {E : Value → Shared → Prop} {s : Shared} {a₀ : Array Keyed} {κ : PyProof.Rows.KeyKind} {ix : Keyed → Nat}
/-- fewer than 64 items: one run, stable -/
theorem wpS_stable {st : SortSt} {Q : Unit → SortSt → Prop} (hO : κ.OneLt) (h0 : KeysOf κ a₀) (hx : IxUp ix a₀) (hB : SBase a₀ st) (he : arrOf st = a₀) (h2 : 2 ≤ a₀.size) (h64 : a₀.size < 64)
    (h : ∀ st', (arrOf st').Perm a₀ → failedOf st' = none → AscR κ ix (arrOf st') 0 a₀.size → Q () st') : wpS (model prog w) A E s sortRuns' Q st := by
  rw [sortRuns'_eq]
  refine wpS_bind (wpS_get ?_)
  dsimp only
  have hmr : minRun' a₀.size a₀.size 0 = a₀.size := by
    obtain ⟨f, hf⟩ : ∃ f, a₀.size = f + 1 := ⟨a₀.size - 1, by omega⟩
    have : minRun' (f + 1) a₀.size 0 = a₀.size := by rw [minRun'_succ, if_pos h64]; rfl
    rwa [← hf] at this
  simp only [hB.size, hmr]
  have hB0 : SG a₀ a₀ #[] 0 0 st := ⟨hB.perm, hB.kind, hB.failed, hB.pend, fun i hi => by omega, fun i _ => by rw [he], fun i hi => by omega⟩
  have fin : ∀ st2, SG a₀ a₀ #[] 0 a₀.size st2 → AscR κ ix (arrOf st2) 0 a₀.size → (arrOf st2).Perm a₀ ∧ failedOf st2 = none ∧ ((pendingOf st2).push (0, a₀.size, 0)).size = 1 ∧ AscR κ ix (arrOf st2) 0 a₀.size :=
    fun st2 hB2 hs2 => ⟨hB2.perm, hB2.failed, by rw [hB2.pend]; rfl, hs2⟩
  refine wpS_bind (wpS_mono (wpS_forRange
    (I := fun x c st' => (x = 0 ∧ c = (none, 0) ∧ st' = st) ∨ (1 ≤ x ∧ c = (none, a₀.size) ∧ (arrOf st').Perm a₀ ∧ failedOf st' = none ∧ (pendingOf st').size = 1 ∧ AscR κ ix (arrOf st') 0 a₀.size))
    (Q := fun c st' => c = (none, a₀.size) ∧ (arrOf st').Perm a₀ ∧ failedOf st' = none ∧ (pendingOf st').size = 1 ∧ AscR κ ix (arrOf st') 0 a₀.size) ?step ?fin (.inl ⟨rfl, rfl, rfl⟩)) ?post)
  case fin =>
    rintro c st' (⟨hx, _, _⟩ | ⟨_, hc, hr⟩)
    · omega
    · exact ⟨hc, hr⟩
  case step =>
    rintro x c st' _ hx' (⟨rfl, rfl, rfl⟩ | ⟨hx1, rfl, hr⟩)
    · dsimp only
      rw [if_neg (by omega)]
      simp only [Nat.sub_zero, Nat.zero_add, Nat.min_self]
      refine wpS_bind (wpS_runG hO h0 hx (by omega) (by omega) hB0 fun n st2 hB2 hn1 hn2 hs2 => ?_)
      dsimp only
      by_cases hlt : n < a₀.size
      · rw [if_pos hlt]
        refine wpS_bind (wpS_lift (wpAny_rule ⟨rfl, ?_⟩))
        refine wpS_bind (wpS_binG hO h0 hx (by omega) hn1 (by omega) hB2 hs2 fun st3 hB3 hs3 => ?_)
        simp only [Bool.not_true, Bool.false_eq_true, if_false]
        refine wpS_bind (wpS_get ?_)
        have hb : (pendingOf st3).back? = none := by rw [hB3.pend]; rfl
        rw [hb]
        dsimp only
        exact wpS_bind (wpS_modify (wpS_pure (.inr ⟨by omega, rfl, fin st3 hB3 hs3⟩)))
      · rw [if_neg hlt]
        have e : n = a₀.size := by omega
        subst e
        refine wpS_bind (wpS_get ?_)
        have hb : (pendingOf st2).back? = none := by rw [hB2.pend]; rfl
        rw [hb]
        dsimp only
        exact wpS_bind (wpS_modify (wpS_pure (.inr ⟨by omega, rfl, fin st2 hB2 hs2⟩)))
    · dsimp only
      rw [if_pos (Nat.le_refl _)]
      exact wpS_pure ⟨rfl, hr⟩
  case post =>
    rintro c st' ⟨rfl, hp, hf, hz, hs⟩
    dsimp only
    refine wpS_bind (wpS_mono (wpS_forRange (I := fun _ c st'' => st'' = st' ∧ c = (none, ())) (Q := fun c st'' => st'' = st' ∧ c = (none, ())) ?_ (fun _ _ hh => hh) ⟨rfl, rfl⟩) ?_)
    · rintro x c st'' _ _ ⟨rfl, rfl⟩
      refine wpS_bind (wpS_get ?_)
      rw [if_pos (Nat.le_of_eq hz)]
      exact wpS_pure ⟨rfl, rfl⟩
    · rintro c st'' ⟨rfl, rfl⟩
      exact wpS_pure (h _ hp hf hs)
theorem iadd_range {r S : Addr} {n : Nat} {t u v : Tok} {b : Int} {R : Result → Shared → Prop} (hh : A.handled = none) (hr : IsRange s.heap r 0 b 1 t u v) (hsmall : Builtin.Range.small 0 b 1 = true) (hn : Builtin.Range.rangeSize 0 b 1 = (n : Int)) (hl : n ≤ 1000)
    (hS : s.heap.get? S = some { cls := .type "list", data := .seq #[] 0 })
    (hR : ∀ h' tk acc' c', (∀ b o, b ≠ S → s.heap.get? b = some o → h'.get? b = some o) → h'.get? S = some { cls := .type "list", dict := none, data := .seq acc' c', slots := #[] } →
      ItemsOf (fun i v => ∃ t, v = .int (0 + i * 1) t) acc' n → R (.ok (.ret (.ref S))) { s with heap := h', toks := tk }) :
    codeAny (model prog w) A (.builtin "list.__iadd__" ⟨[.ref S, .ref r], []⟩) R s := by
  refine codeAny_builtin F.entry_list_iadd ?_
  rw [Around.under_plainId F.plain_list_iadd _]
  exact wpAny_extend_range (n := n) hh hr hsmall hn (by omega) S _ 0 hS hR
theorem collect_range {r : Addr} {n : Nat} {t u v : Tok} {b : Int} {Q : List Value → Shared → Prop} (hh : A.handled = none) (hr : IsRange s.heap r 0 b 1 t u v) (hsmall : Builtin.Range.small 0 b 1 = true) (hn : Builtin.Range.rangeSize 0 b 1 = (n : Int)) (hl : n ≤ 1000)
    (h : ∀ h' tk (acc : Array Value), (∀ b o, s.heap.get? b = some o → h'.get? b = some o) → ItemsOf (fun i v => ∃ t, v = .int (0 + i * 1) t) acc n → Q acc.toList { s with heap := h', toks := tk }) :
    wpAny (model prog w) A (collect (.ref r)) Q E s := by
  unfold collect
  refine wpAny_bind (wpAny_runValue (codeAny_builtin F.entry_proto_collect ?_))
  rw [Around.under_plainId F.plain_proto_collect _]
  change wpAny _ A.in1 (newList [] >>= fun l => again (.builtin "list.__iadd__" ⟨[l, .ref r], []⟩)) _ _ s
  refine wpAny_bind (wpAny_newObj_type (wpAny_pure ⟨plainId_quiet F.plain_list_iadd _, ?_⟩))
  refine iadd_range (n := n) hh (Heap.get?_push_of_some _ hr) hsmall hn hl (Heap.get?_push_size _ rfl) fun h' tk acc' c' hk hS hI => ?_
  change wpAny _ A (load s.heap.objs.size >>= _) _ _ _
  exact wpAny_bind (wpAny_load hS (wpAny_pure (h h' tk acc' (fun b o e => hk b o (Nat.ne_of_lt (Heap.lt_size e)) (Heap.get?_push_of_some _ e)) hI)))
end
end Mine

end
section
namespace Mine
set_option maxHeartbeats 4000000
/-- a key function's answer: a text; all that is needed stands -/
def SrtEnd (h₀ : Heap) (L : Addr) (m : Str → Option Value) (need : List (Addr × Obj)) (k : Str) (s₁ : Shared) (v : Value) (s₂ : Shared) : Prop :=
  ∃ h' tk t', s₂ = { s₁ with heap := h', toks := tk } ∧ v = .str k t' ∧ Fr h₀ L h' m ∧ News h₀ L h' need
theorem SrtEnd.intro {h₀ h' : Heap} {L : Addr} {m : Str → Option Value} {need news' : List (Addr × Obj)} {k : Str} {s₁ : Shared} {t' : Tok} {tk : Nat} (F : Fr h₀ L h' m) (N : News h₀ L h' news') (hn : ∀ p ∈ need, p ∈ news') :
    SrtEnd h₀ L m need k s₁ (.str k t') { s₁ with heap := h', toks := tk } := ⟨h', tk, t', rfl, rfl, F, fun p hp => N p (hn p hp)⟩
/-- the place of an item that is an int -/
def ixI (p : Keyed) : Nat := (numOf p.2).toNat
/-- sorted by the keys, equal ones in their order -/
def SrtOut (ks : List Str) (vs : List Value) (out : Array Value) : Prop :=
  ∃ (keys : Array Value) (arr : Array Keyed), StrsAre keys.toList ks ∧ arr.Perm (keys.zip vs.toArray) ∧ out = arr.map (·.2) ∧ AscR PyProof.Rows.strKind ixI arr 0 arr.size
section
variable {prog : Program} {w : World} {A : Around} {E : Value → Shared → Prop} {s : Shared} {h₀ : Heap} {L : Addr} {m : Str → Option Value} {news : List (Addr × Obj)} {a kS : Addr} {vs : List Value} {ks : List Str} {keys : Array Value} {e e1 : Nat} {P : PySem.Fin → Shared → Prop}
theorem srt_tail {st : SortSt} (F : Fr h₀ L s.heap m) (N : News h₀ L s.heap (news ++ [(kS, seqObj "list" keys e), (a, seqObj "list" #[] e1)])) (hka : kS ≠ a) (hnk : ∀ p ∈ news, p.1 ≠ kS) (hna : ∀ p ∈ news, p.1 ≠ a)
    (hk : keys.size ≤ 1000) (hz : (arrOf st).size ≤ 1000) (hf : failedOf st = none)
    (h : ∀ h' tk c, Fr h₀ L h' m → News h₀ L h' ((a, seqObj "list" ((arrOf st).map (·.2)) c) :: news) → P (.done (.ret .none)) { s with heap := h', toks := tk }) :
    wpAny (model prog w) A (ksk_tail a false e1 (.ref kS) st) P E s := by
  have nk := N (kS, seqObj "list" keys e) (List.mem_append_right _ (.head _))
  have na := N (a, seqObj "list" #[] e1) (List.mem_append_right _ (.tail _ (.head _)))
  have Nn : News h₀ L s.heap news := fun p hp => N p (List.mem_append_left _ hp)
  have s1 := Heap.SameBut.update s.heap kS (Obj.mapSeq fun _ => (#[] : Array Value))
  have na1 : (s.heap.update kS (Obj.mapSeq fun _ => (#[] : Array Value))).get? a = some (seqObj "list" #[] e1) := (s1.2 a hka.symm).trans na.1
  have s2 := Heap.SameBut.update (s.heap.update kS (Obj.mapSeq fun _ => (#[] : Array Value))) a (Obj.mapSeq fun _ => (arrOf st).map (·.2))
  obtain ⟨c2, hc2⟩ : ∃ c2, ((s.heap.update kS (Obj.mapSeq fun _ => (#[] : Array Value))).update a (Obj.mapSeq fun _ => (arrOf st).map (·.2))).get? a = some (seqObj "list" ((arrOf st).map (·.2)) c2) :=
    ⟨_, get?_update_seq na1 fun _ => (arrOf st).map (·.2)⟩
  have N2 := ksk_news (ksk_news Nn s1 hnk) s2 hna
  unfold ksk_tail
  dsimp only
  refine wpAny_bind (listUpdate_at nk.1 rfl ?_ (by rw [sizeLine_eq]; omega) (Nat.zero_le _))
  refine wpAny_bind (wpAny_letGo ?_)
  refine wpAny_bind (seqEpoch_at na1 rfl ?_)
  simp only [Bool.false_eq_true, if_false]
  refine wpAny_bind (listUpdate_at na1 rfl ?_ (Nat.zero_le _) (Nat.le_trans (Nat.le_of_eq (Array.size_map ..)) (by rw [sizeLine_eq]; omega)))
  rw [hf]
  simp only [bne_self_eq_false, Bool.false_eq_true, if_false]
  refine wpAny_pure (h _ _ c2 (ksk_fr (ksk_fr F s1 nk.2.1 nk.2.2) s2 na.2.1 na.2.2) fun p hp => ?_)
  rcases List.mem_cons.mp hp with rfl | hp
  · exact ⟨hc2, na.2⟩
  · exact N2 p hp
theorem strs_kind (hk : StrsAre keys.toList ks) (h2 : 2 ≤ keys.size) : keyKind' keys = pure oneType' := by
  have ek : keys = keys.toList.toArray := (Array.toArray_toList ..).symm
  have hl : keys.toList.length = keys.size := Array.length_toList ..
  match q : keys.toList with
  | [] => rw [q] at hl; simp at hl; omega
  | [_] => rw [q] at hl; simp at hl; omega
  | v₁ :: v₂ :: rest =>
    rw [q] at hk ek
    rw [ek]
    exact keyKind_strs hk
theorem strs_keys (hk : StrsAre keys.toList ks) : KeysOf PyProof.Rows.strKind (keys.zip vs.toArray) := by
  intro p hp
  rw [ksk_zip] at hp
  obtain ⟨x, y⟩ := p
  obtain ⟨x', t, e⟩ := hk.all _ (List.of_mem_zip hp).1
  exact ⟨x'.cps.toList, by show PyProof.Rows.strKind.keyOf x = _; rw [e]⟩
theorem srt_end (F : Fr h₀ L s.heap m) (N : News h₀ L s.heap (news ++ [(kS, seqObj "list" keys e), (a, seqObj "list" #[] e1)])) (hka : kS ≠ a) (hnk : ∀ p ∈ news, p.1 ≠ kS) (hna : ∀ p ∈ news, p.1 ≠ a)
    (hk : StrsAre keys.toList ks) (hlen : ks.length = vs.length) (h64 : vs.length < 64) (hx : IxUp ixI (keys.zip vs.toArray))
    (h : ∀ h' tk out c, Fr h₀ L h' m → News h₀ L h' ((a, seqObj "list" out c) :: news) → SrtOut ks vs out → P (.done (.ret .none)) { s with heap := h', toks := tk }) :
    wpAny (model prog w) A (ksk_end a false vs.toArray e1 (.ref kS) keys) P E s := by
  have hsz : keys.size = vs.length := by
    have h1 := hk.length
    rw [Array.length_toList] at h1
    omega
  have hzs : (keys.zip vs.toArray).size = vs.length := by rw [Array.size_zip, hsz, List.size_toArray, Nat.min_self]
  unfold ksk_end
  simp only [Bool.false_eq_true, if_false]
  by_cases h2 : vs.toArray.size < 2
  · rw [if_pos h2, if_pos h2]
    refine wpAny_bind (wpAny_pure ?_)
    rw [StateT.run_pure]
    refine wpAny_bind (wpAny_pure ?_)
    dsimp only
    refine srt_tail (st := SortSt.mk' general' (keys.zip vs.toArray) #[] 7 none) F N hka hnk hna (by omega) (by show (keys.zip vs.toArray).size ≤ 1000; omega) rfl fun h' tk c F' N' => h h' tk _ c F' N' ⟨keys, keys.zip vs.toArray, hk, Array.Perm.refl _, rfl, fun i j hij hj => ?_⟩
    rw [hzs] at hj
    rw [List.size_toArray] at h2
    omega
  · rw [if_neg h2, if_neg h2]
    rw [List.size_toArray] at h2
    rw [strs_kind hk (by omega)]
    refine wpAny_bind (wpAny_pure (wpAny_bind (wpAny_mono (wpS_stable (a₀ := keys.zip vs.toArray) (ix := ixI) (st := SortSt.mk' oneType' (keys.zip vs.toArray) #[] 7 none)
      (Q := fun _ st' => (arrOf st').Perm (keys.zip vs.toArray) ∧ failedOf st' = none ∧ AscR PyProof.Rows.strKind ixI (arrOf st') 0 (keys.zip vs.toArray).size)
      strKind_oneLt (strs_keys hk) hx ⟨Array.Perm.refl _, rfl, rfl, rfl⟩ rfl (by omega) (by omega) fun st' a1 a2 a3 => ⟨a1, a2, a3⟩) ?_ fun _ _ e => e)))
    rintro ⟨⟨⟩, st'⟩ s' ⟨rfl, hp, hf, hs⟩
    dsimp only
    exact srt_tail F N hka hnk hna (by omega) (by rw [hp.size_eq]; omega) hf fun h' tk c F' N' => h h' tk _ c F' N' ⟨keys, arrOf st', hk, hp, rfl, by rw [hp.size_eq]; exact hs⟩
theorem srt_rest {f : Value} (F : Fr h₀ L s.heap m) (N : News h₀ L s.heap (news ++ [(kS, seqObj "list" #[] 0), (a, seqObj "list" #[] e1)])) (hka : kS ≠ a) (hnk : ∀ p ∈ news, p.1 ≠ kS) (hna : ∀ p ∈ news, p.1 ≠ a)
    (hlen : ks.length = vs.length) (h64 : vs.length < 64) (hx : ∀ keys : Array Value, keys.size = vs.length → IxUp ixI (keys.zip vs.toArray))
    (turn : ∀ (i : Nat) (v : Value) (k : Str), vs[i]? = some v → ks[i]? = some k → ∀ (h : Heap) (tk : Nat) (own : List (Addr × Obj)), Fr h₀ L h m → News h₀ L h (news ++ own) →
      wpAny (model prog w) A (call f [v]) (SrtEnd h₀ L m (news ++ own) k { s with heap := h, toks := tk }) (fun _ _ => False) { s with heap := h, toks := tk })
    (h : ∀ h' tk out c, Fr h₀ L h' m → News h₀ L h' ((a, seqObj "list" out c) :: news) → SrtOut ks vs out → P (.done (.ret .none)) { s with heap := h', toks := tk }) :
    wpAny (model prog w) A (ksk_rest a f false vs.toArray e1 (.ref kS)) P E s := by
  unfold ksk_rest
  refine wpAny_bind (wpAny_rule ?_)
  rw [List.forIn_toArray]
  refine wpAny_bind (ksk_fold (fun i s' => ∃ h' tk kA e, s' = { s with heap := h', toks := tk } ∧ Fr h₀ L h' m ∧ News h₀ L h' (news ++ [(kS, seqObj "list" kA e), (a, seqObj "list" #[] e1)]) ∧ StrsAre kA.toList (ks.take i)) vs 0 s
    ⟨s.heap, s.toks, #[], 0, rfl, F, N, by simpa using StrsAre.nil⟩ ?step ?done)
  case step =>
    rintro j x s' hx' ⟨h', tk, kA, e, rfl, F', N', hk⟩
    simp only [Nat.zero_add] at hk ⊢
    have hj : j < vs.length := (List.getElem?_eq_some_iff.mp hx').1
    obtain ⟨k, hkj⟩ : ∃ k, ks[j]? = some k := ⟨_, List.getElem?_eq_getElem (by omega)⟩
    have hz : kA.size ≤ vs.length := by
      have h1 := hk.length
      rw [Array.length_toList, List.length_take] at h1
      omega
    refine wpAny_bind (wpAny_attempt (wpAny_mono (turn j x k hx' hkj h' tk _ F' N') (fun v s'' he => ?_) fun _ _ hF => hF.elim))
    obtain ⟨g, tk2, t2, rfl, rfl, F2, N2⟩ := he
    dsimp only
    have nk := N2 (kS, seqObj "list" kA e) (List.mem_append_right _ (.head _))
    have na := N2 (a, seqObj "list" #[] e1) (List.mem_append_right _ (.tail _ (.head _)))
    have s1 := Heap.SameBut.update g kS (Obj.mapSeq (·.push (.str k t2)))
    obtain ⟨c2, hc2⟩ : ∃ c2, (g.update kS (Obj.mapSeq (·.push (.str k t2)))).get? kS = some (seqObj "list" (kA.push (.str k t2)) c2) := ⟨_, get?_update_seq nk.1 (·.push (.str k t2))⟩
    have ek : ks.take (j + 1) = ks.take j ++ [k] := by rw [List.take_add_one, hkj]; rfl
    have ea : (kA.push (Value.str k t2)).toList = kA.toList ++ [Value.str k t2] := by simp
    refine wpAny_bind (listUpdate_at nk.1 rfl ?_ (by rw [sizeLine_eq]; omega) (Nat.le_trans (Nat.le_of_eq (Array.size_push ..)) (by rw [sizeLine_eq]; omega)))
    refine wpAny_pure ⟨rfl, _, _, kA.push (.str k t2), c2, rfl, ksk_fr F2 s1 nk.2.1 nk.2.2, fun p hp => ?_, by rw [ea, ek]; exact StrsAre.append' hk (.cons _ _ .nil)⟩
    rcases List.mem_append.mp hp with hp | hp
    · exact ksk_news (fun q hq => N2 q (List.mem_append_left _ hq)) s1 hnk p hp
    · rcases List.mem_cons.mp hp with rfl | hp
      · exact ⟨hc2, nk.2⟩
      · rw [List.mem_singleton.mp hp]
        exact ⟨(s1.2 a hka.symm).trans na.1, na.2⟩
  case done =>
    rintro s' ⟨h', tk, kA, e, rfl, F', N', hk⟩
    have hk' : StrsAre kA.toList ks := by
      have e3 : ks.take (0 + vs.length) = ks := List.take_of_length_le (by omega)
      rw [e3] at hk
      exact hk
    have hz : kA.size = vs.length := by
      have h1 := hk'.length
      rw [Array.length_toList] at h1
      omega
    have nk := N' (kS, seqObj "list" kA e) (List.mem_append_right _ (.head _))
    try dsimp only
    refine wpAny_bind (listItems_at nk.1 rfl ?_)
    exact srt_end F' N' hka hnk hna hk' hlen h64 (hx kA hz) fun h3 tk3 out c F3 N3 k3 => h h3 tk3 out c F3 N3 k3
theorem srt_sort {f : Value} {n : Nat} (F : Fr h₀ L s.heap m) (N : News h₀ L s.heap news) (ho : s.heap.get? a = some (seqObj "list" vs.toArray n)) (haL : a ≠ L) (ha0 : h₀.get? a = none) (hna : ∀ p ∈ news, p.1 ≠ a)
    (hlen : ks.length = vs.length) (h64 : vs.length < 64) (hx : ∀ keys : Array Value, keys.size = vs.length → IxUp ixI (keys.zip vs.toArray))
    (turn : ∀ (i : Nat) (v : Value) (k : Str), vs[i]? = some v → ks[i]? = some k → ∀ (h : Heap) (tk : Nat) (own : List (Addr × Obj)), Fr h₀ L h m → News h₀ L h (news ++ own) →
      wpAny (model prog w) A (call f [v]) (SrtEnd h₀ L m (news ++ own) k { s with heap := h, toks := tk }) (fun _ _ => False) { s with heap := h, toks := tk })
    (h : ∀ h' tk out c, Fr h₀ L h' m → News h₀ L h' ((a, seqObj "list" out c) :: news) → SrtOut ks vs out → P (.done (.ret .none)) { s with heap := h', toks := tk }) :
    wpAny (model prog w) A (ksk_tree a f false) P E s := by
  have ha : a < s.heap.objs.size := Heap.lt_size ho
  have s1 := Heap.SameBut.update s.heap a (Obj.mapSeq fun _ => (#[] : Array Value))
  obtain ⟨e1, ho1⟩ : ∃ e1, (s.heap.update a (Obj.mapSeq fun _ => (#[] : Array Value))).get? a = some (seqObj "list" #[] e1) := ⟨_, get?_update_seq ho fun _ => #[]⟩
  have F1 := ksk_fr F s1 haL ha0
  have N1 := ksk_news N s1 hna
  have hkS : ((s.heap.update a (Obj.mapSeq fun _ => (#[] : Array Value))).push (seqObj "tuple" vs.toArray 0)).objs.size = s.heap.objs.size + 1 := by rw [size_push', Heap.size_update]
  have hLk : L < ((s.heap.update a (Obj.mapSeq fun _ => (#[] : Array Value))).push (seqObj "tuple" vs.toArray 0)).objs.size := (F1.push _).ns.lt
  unfold ksk_tree
  refine wpAny_bind (listItems_at ho rfl ?_)
  refine wpAny_bind (listUpdate_at ho rfl ?_ (by rw [List.size_toArray, sizeLine_eq]; omega) (Nat.zero_le _))
  refine wpAny_bind (seqEpoch_at ho1 rfl ?_)
  refine wpAny_bind (wpAny_newTuple ?_ (by show vs.length ≤ _; rw [sizeLine_eq]; omega))
  refine wpAny_bind (wpAny_newList ?_ (Nat.zero_le _))
  refine wpAny_holding ?_
  refine srt_rest (s := { s with heap := ((s.heap.update a (Obj.mapSeq fun _ => (#[] : Array Value))).push (seqObj "tuple" vs.toArray 0)).push (seqObj "list" #[] 0) }) (kS := ((s.heap.update a (Obj.mapSeq fun _ => (#[] : Array Value))).push (seqObj "tuple" vs.toArray 0)).objs.size)
    ((F1.push _).push _) (fun p hp => ?_) (by rw [hkS]; exact Nat.ne_of_gt (Nat.lt_succ_of_lt ha)) (fun p hp => by rw [hkS]; exact Nat.ne_of_lt (Nat.lt_succ_of_lt (Heap.lt_size (N p hp).1))) hna hlen h64 hx turn h
  rcases List.mem_append.mp hp with hp | hp
  · exact ⟨Heap.get?_push_of_some _ (Heap.get?_push_of_some _ (N1 p hp).1), (N1 p hp).2⟩
  · rcases List.mem_cons.mp hp with rfl | hp
    · exact ⟨Heap.get?_push_size _ rfl, Nat.ne_of_gt hLk, Heap.get?_none_of_le (Nat.le_trans F.above (Nat.le_of_lt hLk))⟩
    · rw [List.mem_singleton.mp hp]
      exact ⟨Heap.get?_push_of_some _ (Heap.get?_push_of_some _ ho1), haL, ha0⟩
end
end Mine

end
section
namespace Mine
set_option maxHeartbeats 4000000
/-- x stands ahead of y: by the texts, then by the places -/
def Ahead (ks : List Str) (x y : Nat) : Prop := ∀ a b, ks[x]? = some a → ks[y]? = some b → slt a b ∨ (a = b ∧ x ≤ y)
/-- the items of range(n) -/
def RangeIt (vs : List Value) (n : Nat) : Prop := vs.length = n ∧ ∀ i, i < n → ∃ t, vs[i]? = some (.int (i : Int) t)
theorem zip_at {keys : Array Value} {vs : List Value} {ks : List Str} {n : Nat} (hk : StrsAre keys.toList ks) (hlen : ks.length = n) (hv : RangeIt vs n) {i : Nat} (hi : i < n) :
    ∃ x t t', ks[i]? = some x ∧ (keys.zip vs.toArray)[i]? = some (.str x t, .int (i : Int) t') := by
  obtain ⟨t', ht'⟩ := hv.2 i hi
  obtain ⟨t, ht⟩ := hk.get i ks[i] (List.getElem?_eq_getElem (by omega))
  refine ⟨ks[i], t, t', List.getElem?_eq_getElem (by omega), ?_⟩
  rw [← Array.getElem?_toList, ksk_zip, List.getElem?_zip_eq_some]
  exact ⟨ht, ht'⟩
theorem zip_size {keys : Array Value} {vs : List Value} {ks : List Str} {n : Nat} (hk : StrsAre keys.toList ks) (hlen : ks.length = n) (hv : RangeIt vs n) : (keys.zip vs.toArray).size = n := by
  have h1 := hk.length
  rw [Array.length_toList] at h1
  have h2 : vs.toArray.size = vs.length := by simp
  rw [Array.size_zip, h2, hv.1]
  omega
theorem range_ix {keys : Array Value} {vs : List Value} {n : Nat} (hz : keys.size = vs.length) (hv : RangeIt vs n) : IxUp ixI (keys.zip vs.toArray) := by
  have h2 : vs.toArray.size = vs.length := by simp
  have hsz : (keys.zip vs.toArray).size = n := by rw [Array.size_zip, h2, hz, Nat.min_self]; exact hv.1
  have key : ∀ i, i < n → ixI (el (keys.zip vs.toArray) i) = i := by
    intro i hi
    obtain ⟨t', ht'⟩ := hv.2 i hi
    have hki : i < keys.size := by rw [hz, hv.1]; exact hi
    have e : (keys.zip vs.toArray)[i]? = some (keys[i], .int (i : Int) t') := by
      rw [← Array.getElem?_toList, ksk_zip, List.getElem?_zip_eq_some]
      exact ⟨by rw [Array.getElem?_toList]; exact getElem?_pos keys i hki, ht'⟩
    unfold el
    rw [e]
    rfl
  intro i j hij hj
  rw [hsz] at hj
  rw [key i (by omega), key j hj]
  exact hij
/-- what a stable sort of range(n) by texts gives -/
theorem srt_out {ks : List Str} {vs : List Value} {out : Array Value} {n : Nat} (hv : RangeIt vs n) (hlen : ks.length = n) (h : SrtOut ks vs out) :
    ∃ ns : List Nat, IntsAre out.toList (ns.map fun i : Nat => (i : Int)) ∧ ns.Perm (List.range n) ∧ ns.Pairwise (Ahead ks) := by
  obtain ⟨keys, arr, hk, hp, rfl, hs⟩ := h
  have hz := zip_size hk hlen hv
  have hl : arr.toList.Perm (keys.zip vs.toArray).toList := Array.perm_iff_toList_perm.mp hp
  have hmem : ∀ p ∈ arr.toList, ∃ i x t t', i < n ∧ ks[i]? = some x ∧ p = (.str x t, .int (i : Int) t') := by
    intro p hp'
    obtain ⟨i, hi⟩ := List.getElem?_of_mem (hl.mem_iff.mp hp')
    have hin : i < n := by
      have := (List.getElem?_eq_some_iff.mp hi).1
      rw [Array.length_toList, hz] at this
      exact this
    obtain ⟨x, t, t', h1, h2⟩ := zip_at hk hlen hv hin
    rw [Array.getElem?_toList, h2] at hi
    exact ⟨i, x, t, t', hin, h1, (Option.some.inj hi).symm⟩
  refine ⟨arr.toList.map ixI, ?_, ?_, ?_⟩
  · rw [Array.toList_map, List.map_map]
    have h1 := intsAre_map (arr.toList.map (·.2)) (by
      intro v hv'
      obtain ⟨p, hp', rfl⟩ := List.mem_map.mp hv'
      obtain ⟨i, x, t, t', _, _, rfl⟩ := hmem p hp'
      exact ⟨_, _, rfl⟩)
    rw [List.map_map] at h1
    have e : arr.toList.map (numOf ∘ fun x => x.2) = arr.toList.map ((fun i => ((i : Nat) : Int)) ∘ ixI) := by
      refine List.map_congr_left fun p hp' => ?_
      obtain ⟨i, x, t, t', _, _, rfl⟩ := hmem p hp'
      show (i : Int) = ((Int.toNat (i : Int) : Nat) : Int)
      simp
    rw [e] at h1
    exact h1
  · refine (hl.map ixI).trans (List.Perm.of_eq ?_)
    refine List.ext_getElem? fun i => ?_
    rw [List.getElem?_map, Array.getElem?_toList]
    by_cases c : i < n
    · obtain ⟨x, t, t', h1, h2⟩ := zip_at hk hlen hv c
      rw [h2, List.getElem?_range c]
      rfl
    · rw [List.getElem?_eq_none (by simp; omega), Array.getElem?_eq_none (by omega)]
      rfl
  · rw [List.pairwise_map, List.pairwise_iff_getElem]
    intro i j hi hj hij
    have e : ∀ k (hk : k < arr.toList.length), el arr (0 + k) = arr.toList[k] := by
      intro k hk
      rw [Nat.zero_add]
      unfold el
      rw [← Array.getElem?_toList, List.getElem?_eq_getElem hk]
      rfl
    have r := hs i j hij (by simpa using hj)
    rw [e i hi, e j hj] at r
    obtain ⟨p, x, t, t', _, hx, ep⟩ := hmem _ (List.getElem_mem hi)
    obtain ⟨q, y, u, u', _, hy, eq⟩ := hmem _ (List.getElem_mem hj)
    rw [ep, eq] at r ⊢
    intro a b h1 h2
    have h1' : ks[p]? = some a := by have e9 : ixI ((Value.str x t, Value.int (p : Int) t') : Keyed) = p := by show Int.toNat (p : Int) = p; simp
                                     rw [e9] at h1; exact h1
    have h2' : ks[q]? = some b := by have e9 : ixI ((Value.str y u, Value.int (q : Int) u') : Keyed) = q := by show Int.toNat (q : Int) = q; simp
                                     rw [e9] at h2; exact h2
    rw [hx] at h1'
    rw [hy] at h2'
    cases h1'
    cases h2'
    rcases r with r | r
    · exact .inl (by have : decide (x.cps.toList < y.cps.toList) = true := r
                     exact of_decide_eq_true (p := x.cps.toList < y.cps.toList) this)
    · exact .inr ⟨str_ext r.1, r.2⟩
section
variable {prog : Program} {w : World} {A : Around} {E : Value → Shared → Prop} {s : Shared} {h₀ : Heap} {L : Addr} {m : Str → Option Value} {news : List (Addr × Obj)} {Q : Value → Shared → Prop}
theorem srt_range {r q : Addr} {n : Nat} {t u v : Tok} {b : Int} (ks : List Str) (hh : A.handled = none) (F : Fr h₀ L s.heap m) (N : News h₀ L s.heap news) (hr : IsRange s.heap r 0 b 1 t u v) (hsmall : Builtin.Range.small 0 b 1 = true) (hn : Builtin.Range.rangeSize 0 b 1 = (n : Int)) (hlen : ks.length = n) (h64 : n < 64)
    (turn : ∀ (i : Nat) (t : Tok) (k : Str), ks[i]? = some k → ∀ (h : Heap) (tk : Nat) (own : List (Addr × Obj)), Fr h₀ L h m → News h₀ L h (news ++ own) →
      wpAny (model prog w) A.in1.in1 (call (.ref q) [.int (i : Int) t]) (SrtEnd h₀ L m (news ++ own) k { s with heap := h, toks := tk }) (fun _ _ => False) { s with heap := h, toks := tk })
    (h : ∀ D h' tk vs c (ns : List Nat), Fr h₀ L h' m → News h₀ L h' ((D, listOf (List.toArray vs) c) :: news) → (∀ p ∈ news, p.1 < D) → IntsAre vs (ns.map fun i : Nat => (i : Int)) → ns.Perm (List.range n) → ns.Pairwise (Ahead ks) → Q (.ref D) { s with heap := h', toks := tk }) :
    wpAny (model prog w) A (call (.builtin "sorted") [.ref r] [(Str.ofString "key", .ref q)]) Q E s := by
  refine call_function_entry_kw kind_sorted plain_sorted entry_sorted (ksk_s1 _ _) ?_
  unfold Builtin.«sorted»
  refine wpAny_bind (m := checkCount "sorted" 1 1 _) (wpAny_pure ?_)
  refine wpAny_bind (collect_range (n := n) hh hr hsmall hn (by omega) fun g tk acc keep hI => ?_)
  have hI1 := hI.1
  refine wpAny_bind (wpAny_newList ?_ (by rw [Array.length_toList, sizeLine_eq]; omega))
  have hv : RangeIt acc.toList n := by
    refine ⟨by rw [Array.length_toList]; exact hI1, fun i hi => ?_⟩
    have e : acc[i]? = some acc[i] := getElem?_pos acc i (by omega)
    obtain ⟨t9, h9⟩ := hI.2 i _ e
    exact ⟨t9, by rw [Array.getElem?_toList, e, h9]; simp⟩
  have Fg : Fr h₀ L g m := F.kept keep
  have Ng : News h₀ L g news := fun p hp => ⟨keep _ _ (N p hp).1, (N p hp).2⟩
  have hLg : L < g.objs.size := Fg.ns.lt
  have hzl : acc.toList.length < 64 := by rw [Array.length_toList]; omega
  have hoL : (g.push (seqObj "list" acc.toList.toArray 0)).get? g.objs.size = some (seqObj "list" acc.toList.toArray 0) := Heap.get?_push_size _ rfl
  change wpAny _ _ _ _ _ { s with heap := g.push (seqObj "list" acc.toList.toArray 0), toks := tk }
  refine wpAny_bind (wpAny_holding (wpAny_call_entry_kw slot_list_sort ⟨_, hoL, rfl⟩ entry_list_sort ?body (ksk_l1 _ _)))
  case body =>
    change wpAny (model prog w) A.in1.in1 (Builtin.«list.sort» ⟨[.ref g.objs.size], [(Str.ofString "key", .ref q)]⟩) _ _ _
    rw [ksk_t1]
    refine srt_sort (ks := ks) (vs := acc.toList) (n := 0) (s := { s with heap := g.push (seqObj "list" acc.toList.toArray 0), toks := tk })
      (Fg.push _) (fun p hp => ⟨Heap.get?_push_of_some _ (Ng p hp).1, (Ng p hp).2⟩) hoL (Nat.ne_of_gt hLg) (Heap.get?_none_of_le (Nat.le_trans Fg.above (Nat.le_of_lt hLg)))
      (fun p hp => Nat.ne_of_lt (Heap.lt_size (Ng p hp).1)) (by rw [hlen, Array.length_toList]; exact hI1.symm) hzl (fun keys hz => range_ix hz hv) (fun i v k h1 h2 h3 tk3 own F3 N3 => ?_) fun h' tk' out c F' N' k' => ⟨_, rfl, ?_⟩
    · have hin : i < n := by have := (List.getElem?_eq_some_iff.mp h2).1; omega
      obtain ⟨t9, h9⟩ := hv.2 i hin
      rw [h9] at h1
      cases h1
      exact turn i t9 k h2 h3 tk3 own F3 N3
    · obtain ⟨ns, a1, a2, a3⟩ := srt_out hv hlen k'
      have e : out = List.toArray out.toList := (Array.toArray_toList ..).symm
      rw [e] at N'
      exact wpAny_pure ⟨_, rfl, h g.objs.size h' tk' out.toList c ns F' N' (fun p hp => Heap.lt_size (Ng p hp).1) a1 a2 a3⟩
theorem srt_rangeN {r q : Addr} {n : Nat} {t u v : Tok} (ks : List Str) (hh : A.handled = none) (F : Fr h₀ L s.heap m) (N : News h₀ L s.heap news) (hr : IsRange s.heap r 0 (n : Int) 1 t u v) (hlen : ks.length = n) (h64 : n < 64)
    (turn : ∀ (i : Nat) (t : Tok) (k : Str), ks[i]? = some k → ∀ (h : Heap) (tk : Nat) (own : List (Addr × Obj)), Fr h₀ L h m → News h₀ L h (news ++ own) →
      wpAny (model prog w) A.in1.in1 (call (.ref q) [.int (i : Int) t]) (SrtEnd h₀ L m (news ++ own) k { s with heap := h, toks := tk }) (fun _ _ => False) { s with heap := h, toks := tk })
    (h : ∀ D h' tk vs c (ns : List Nat), Fr h₀ L h' m → News h₀ L h' ((D, listOf (List.toArray vs) c) :: news) → (∀ p ∈ news, p.1 < D) → IntsAre vs (ns.map fun i : Nat => (i : Int)) → ns.Perm (List.range n) → ns.Pairwise (Ahead ks) → Q (.ref D) { s with heap := h', toks := tk }) :
    wpAny (model prog w) A (call (.builtin "sorted") [.ref r] [(Str.ofString "key", .ref q)]) Q E s :=
  srt_range ks hh F N hr (small_one (by omega) (by omega) (by omega) (by omega)) (by have e := rangeSize_nat 0 (n : Int); simpa using e) hlen h64 turn h
/-- a range as an object of the ledger -/
abbrev rgObj (n : Int) (t u v : Tok) : Obj := { cls := .type "range", data := .fields #[.int 0 t, .int n u, .int 1 v] }
theorem range1_led {n : Int} {t : Tok} (F : Fr h₀ L s.heap m) (N : News h₀ L s.heap news)
    (h : ∀ r h' tk t₁ u₁ v₁, Fr h₀ L h' m → News h₀ L h' ((r, rgObj n t₁ u₁ v₁) :: news) → (∀ p ∈ news, p.1 < r) → Q (.ref r) { s with heap := h', toks := tk }) :
    wpAny (model prog w) A (call (.type "range") [.int n t]) Q E s :=
  range1_rows F N fun h' tk t₁ u₁ v₁ hr F' _ keep => h _ h' tk t₁ u₁ v₁ F' (N.kept_cons F keep (Nat.le_refl _) hr) fun p hp => Heap.lt_size (N p hp).1
theorem led_range {h : Heap} {r : Addr} {n : Int} {t u v : Tok} (N : News h₀ L h news) (hm : (r, rgObj n t u v) ∈ news) : IsRange h r 0 n 1 t u v := (N _ hm).1
end
end Mine

end
section
namespace Mine
local macro_rules | `(tactic| walk_at "mine enter") => `(tactic| (refine wpAny_call ?_; k_dflt (refine' enter ?k1 ?k2 ?k3 ?k4 ?k5 ?kA ?kF ?kK ?k6 ?k7 ?k8 ?k9 ?kB ?_ ?c2 ?c3 ?c4 ?c5; (case kA => exact rfl); (case kF => exact rfl); (case kK => assumption); (case k1 => k_asm); (case k2 => k_asm); (case k3 => k_asm); (case k4 => exact News.nil); (case k5 => k_asm); (case k6 => k_is); (case k7 => k_is); (case k8 => ktr_room); (case k9 => exact BindsTo.of_eq rfl); (case c5 => decide); (case kB => exact locs rfl); (case c2 => exact rfl); (case c3 => exact rfl); (case c4 => exact rfl); k_whole; intro g' L' h' hG' FG' F' N' B' X' T' lt'; (try dsimp only); (try k_fold))))
abbrev G2 (w : World) (f : Addr) := Gives PySem.Challenge.rw_dm0203_02.row.prog w (Mine.hd.heap_39 w.params) topProg (looseW Mine.hd.view_39 [] ++ (recsOf Mine.hd.view_39).map (·.name) ++ (litsOf Mine.hd.view_39).map (·.1) ++ (clssOf Mine.hd.view_39 (looseW Mine.hd.view_39 [])).map (·.name)) f
theorem keep2 {A B C : Heap} (h1 : ∀ b o, A.get? b = some o → ¬ b ∈ List.map (fun x : Addr × Obj => x.1) [] → B.get? b = some o) (h2 : ∀ b o, B.get? b = some o → C.get? b = some o) : ∀ b o, A.get? b = some o → C.get? b = some o :=
  fun b o e => h2 b o (h1 b o e fun h => nomatch h)
set_option maxHeartbeats 8000000 in
theorem coll_gives (w : World) (a : Str) (ta : Tok) (b : Str) (tb : Tok) : G2 w 21 [.str a ta, .str b tb] (fun _ => True) (fun tl r => tl = [] ∧ ∃ t, r = .int (coll a b) t) := by
  unfold G2; k_fill
  intro mean mg mb dp un gd cn cs a₁ ccd cl outer A₀ base h₀ L m s Q E B F X T hk hp hd hu ret
  walk_at "mine enter"
  k_with_none
  k_steps
  exact ret _ [] _ _ (by k_asm) (keep2 (by assumption) (by assumption)) (fun _ h => nomatch h) ⟨rfl, _, rfl⟩
theorem coll3_gives (w : World) (a : Str) (ta : Tok) (b : Str) (tb : Tok) : G2 w 21 [.str a ta, .str b tb] (fun _ => True) (fun tl r => tl = [] ∧ ∃ t, (r = .int (-1) t ∧ slt a b) ∨ (r = .int 0 t ∧ a = b) ∨ (r = .int 1 t ∧ slt b a)) :=
  gives_mono (coll_gives w a ta b tb) fun tl r h => by
    obtain ⟨h1, t, rfl⟩ := h
    refine ⟨h1, t, ?_⟩
    rcases coll_cases a b with ⟨e, h⟩ | ⟨e, h⟩ | ⟨e, h⟩
    · exact .inl ⟨by rw [e], h⟩
    · exact .inr (.inl ⟨by rw [e], h⟩)
    · exact .inr (.inr ⟨by rw [e], h⟩)
set_option maxHeartbeats 8000000 in
theorem xfrm_gives (w : World) (a : Str) (ta : Tok) : G2 w 28 [.str a ta] (fun _ => True) (fun tl r => tl = [] ∧ r = .str a ta) := by
  unfold G2; k_fill
  intro mean mg mb dp un gd cn cs a₁ ccd cl outer A₀ base h₀ L m s Q E B F X T hk hp hd hu ret
  walk_at "mine enter"
  k_with_none
  k_steps
  exact ret _ [] _ _ (by k_asm) (keep2 (by assumption) (by assumption)) (fun _ h => nomatch h) ⟨rfl, rfl⟩
end Mine
namespace Mine
local macro_rules | `(tactic| walk_at "mine enter") => `(tactic| (refine wpAny_call ?_; k_dflt (refine' enter ?k1 ?k2 ?k3 ?k4 ?k5 ?kA ?kF ?kK ?k6 ?k7 ?k8 ?k9 ?kB ?_ ?c2 ?c3 ?c4 ?c5; (case kA => exact rfl); (case kF => exact rfl); (case kK => assumption); (case k1 => k_asm); (case k2 => k_asm); (case k3 => k_asm); (case k4 => exact News.nil); (case k5 => k_asm); (case k6 => k_is); (case k7 => k_is); (case k8 => ktr_room); (case k9 => exact BindsTo.of_eq rfl); (case c5 => decide); (case kB => exact locs rfl); (case c2 => exact rfl); (case c3 => exact rfl); (case c4 => exact rfl); k_whole; intro g' L' h' hG' FG' F' N' B' X' T' lt'; (try dsimp only); (try k_fold))))
set_option maxHeartbeats 8000000 in
theorem text_gives (w : World) (x : Int) (tx : Tok) : G2 w 35 [.int x tx] (fun _ => True) (fun tl r => tl = [] ∧ ∃ y t, r = .str y t) := by
  unfold G2; k_fill
  intro mean mg mb dp un gd cn cs a₁ ccd cl outer A₀ base h₀ L m s Q E B F X T hk hp hd hu ret
  walk_at "mine enter"
  k_with_none
  k_with "call type:range" => k_rangeSizes
  k_steps
  all_goals exact ret _ [] _ _ (by k_asm) (keep2 (by assumption) (by assumption)) (fun _ h => nomatch h) ⟨rfl, _, _, rfl⟩
end Mine

end
section
namespace Mine
section
variable {prog : Program} {w : World} {A : Around} {h₀ : Heap} {L : Addr} {m : Str → Option Value} {env : Env} {elt : Expr} {x : Str} {scope : Scope} {cl : List (Str × Addr)}
/-- a comprehension over a list of the ledger, each of whose elements is a text by R -/
theorem comp_strs {Fin : Shared → List Value → List (Addr × Obj) → Prop} {ax : Addr} {vs : List Value} {k : Nat} {news : List (Addr × Obj)} {s₁ : Shared} (R : Value → Str → Prop)
    (hl : vs.length ≤ 1000) (hh : A.handled = none) (F : Fr h₀ L s₁.heap m) (N : News h₀ L s₁.heap news) (hm : (ax, listOf vs.toArray k) ∈ news)
    (turn : ∀ (v : Value) (ys : List Value) (I : Addr) (oI : Obj) (C : Addr) (oC : Obj) (D : Addr) (m₂ : Str → Option Value) (h : Heap) (tk : Nat) (E' : Value → Shared → Prop), v ∈ vs → LCg.SrcAt h₀ ax vs.toArray news → LCg.NsObj oC m₂ → m₂ x = some v → Fr h₀ L h m → News h₀ L h ((I, oI) :: (C, oC) :: (D, LCg.lst ys) :: news) → LCg.Off3 I C D news → ((@Ne Nat I C) ∧ (@Ne Nat I D) ∧ (@Ne Nat C D)) →
      wpAny (model prog w) A (eval elt (compEnvC scope cl C env)) (LCg.CompEnd h₀ L m { s₁ with heap := h, toks := tk } I oI C oC D (LCg.lst ys) (LCg.SrcAt h₀ ax vs.toArray) (fun r nw' => nw' = news ∧ ∃ y t', r = .str y t' ∧ R v y)) E' { s₁ with heap := h, toks := tk })
    (fin : ∀ ys ts g, StrsAre ys ts → ts.length = vs.length → (∀ (i : Nat) v y, vs[i]? = some v → ts[i]? = some y → R v y) → Fin { s₁ with heap := g } ys news) : LCg.CompSrc prog w A h₀ L m env elt x scope cl Fin (.ref ax) s₁ := by
  refine comp_src (fun i ys nw => nw = news ∧ ∃ ts, StrsAre ys ts ∧ ts.length = min i vs.length ∧ ∀ (j : Nat) v y, vs[j]? = some v → ts[j]? = some y → R v y) hh F N hm (by rw [sizeLine_eq]; omega) ⟨rfl, [], .nil, by simp, by simp⟩ ?_ ?_
  · rintro i ys nw v I oI C oC D m₂ h tk E' ⟨rfl, ts, hs, hlen, hR⟩ hv hC hx F' N' off ne
    have hi : i < vs.length := (List.getElem?_eq_some_iff.mp hv).1
    refine wpAny_mono (turn v ys I oI C oC D m₂ h tk E' (List.mem_of_getElem? hv) (.inr ⟨_, hm, rfl, _, rfl⟩) hC hx F' N' off ne) (fun r s₂ hq => ?_) fun _ _ e => e
    obtain ⟨h', tk', nw', e, F'', N'', off', hS, rfl, y, t', rfl, hy⟩ := hq
    refine ⟨h', tk', nw', e, F'', N'', off', hS, rfl, ts ++ [y], StrsAre.append' hs (.cons _ _ .nil), by simp; omega, fun j v' y' h1 h2 => ?_⟩
    by_cases c : j < ts.length
    · rw [List.getElem?_append_left c] at h2
      exact hR j v' y' h1 h2
    · rw [List.getElem?_append_right (by omega)] at h2
      have hj : j - ts.length = 0 := by
        have := (List.getElem?_eq_some_iff.mp h2).1
        simp at this
        omega
      have hj' : j = i := by omega
      subst hj'
      rw [hj] at h2
      simp at h2
      subst h2
      rw [hv] at h1
      cases h1
      exact hy
  · rintro ys nw g ⟨rfl, ts, hs, hlen, hR⟩
    exact fin ys ts g hs (by omega) hR
end
section
variable {prog : Program} {w : World} {A : Around} {E : Value → Shared → Prop} {s : Shared} {h₀ : Heap} {L a b : Addr} {m : Str → Option Value} {news : List (Addr × Obj)} {vs ws : List Value} {ts us : List Str} {Q : Value → Shared → Prop}
theorem lst_list {h : Heap} {D : Addr} {ys : List Value} (N : News h₀ L h news) (hm : (D, LCg.lst ys) ∈ news) : h.IsList D ys.toArray := ⟨_, (N _ hm).1, rfl, _, rfl⟩
theorem add_strs (F : Fr h₀ L s.heap m) (N : News h₀ L s.heap news) (ha : s.heap.IsList a vs.toArray) (hb : s.heap.IsList b ws.toArray) (hs : StrsAre vs ts) (hu : StrsAre ws us) (hz : ts.length + us.length ≤ 1000)
    (h : ∀ D zs h', Fr h₀ L h' m → News h₀ L h' ((D, listOf (List.toArray zs) 0) :: news) → (∀ p ∈ news, p.1 < D) → StrsAre zs (ts ++ us) → Q (.ref D) { s with heap := h' }) :
    wpAny (model prog w) A (binaryOp .Add (.ref a) (.ref b)) Q E s := by
  have e1 := hs.length
  have e2 := hu.length
  exact add_lists (hsz := by rw [sizeLine_eq]; omega) F N ha hb fun h' F' N' => h _ _ h' F' N' (fun p hp => Heap.lt_size (N p hp).1) (StrsAre.append' hs hu)
end
end Mine

end
section
namespace Mine
local macro_rules | `(tactic| walk_at $s:str) => `(tactic| (k_extra $s))
local macro_rules | `(tactic| walk_at "mine text") => `(tactic| (k_dflt (refine' use_gives (text_gives _ _ _) ?k1 ?k2 ?k3 ?k4 ?k5 ?k6 ?k7 ?k8 ?_; (case k1 => k_asm); (case k2 => k_asm); (case k3 => k_asm); (case k4 => k_asm); (case k5 => exact rfl); (case k6 => exact trivial); (case k7 => ktr_room); (case k8 => ktr_units)); unfold Back))
local macro_rules | `(tactic| walk_at "mine xfrm") => `(tactic| (k_dflt (refine' use_gives (xfrm_gives _ _ _) ?k1 ?k2 ?k3 ?k4 ?k5 ?k6 ?k7 ?k8 ?_; (case k1 => k_asm); (case k2 => k_asm); (case k3 => k_asm); (case k4 => k_asm); (case k5 => exact rfl); (case k6 => exact trivial); (case k7 => ktr_room); (case k8 => ktr_units)); unfold Back))
local macro_rules | `(tactic| walk_at "mine comp") => `(tactic| (k_dflt (refine LCg.ListComp_U (F₀ := by k_asm) (by with_unfolding_all rfl) (by decide) (by rfl) (by decide) (by rfl) ?_)))
theorem ints_mem {vs : List Value} {ns : List Int} (h : IntsAre vs ns) {v : Value} (hv : v ∈ vs) : ∃ n t, v = .int n t := h.all v hv
theorem len23 {ts us : List Str} {n k : Nat} (h : ts.length ≤ n) (h' : us.length ≤ k) : (ts ++ us).length ≤ n + k := by rw [List.length_append]; omega
local macro_rules | `(tactic| walk_at "mine bare") => `(tactic| (repeat (rename _ => z9; revert z9)))
set_option maxHeartbeats 8000000 in
noncomputable def pk1 : { P : Prop // Hide P → PySem.Challenge.rw_dm0203_02.Holds } := park1 _ fun hid1 => by
  k_with_none
  k_with "eval ListComp" => (walk_at "mine comp")
  k_with "CompSrc" => (
    (rename (IntsAre _ (List.take 20 _)) => hI9)
    have hl9 := IntsAre.length hI9
    refine comp_strs (fun _ _ => True) (Nat.le_trans (Nat.le_of_eq hl9) (by omega)) (by with_unfolding_all rfl) (by k_asm) (by k_asm) (by with_unfolding_all k_memK) ?ct ?cf
    case' ct =>
      intro v ys I oI C oC D m₂ h tk E' hv hsrc hC hx F' N' off ne
      obtain ⟨x9, t9, rfl⟩ := ints_mem hI9 hv
    case' cf => intro ys ts g hys hts _)
  k_with "call ref" => (
    walk_at "mine text"
    intro r tl h3 tk3 F3 hkeep hnew hOut
    obtain ⟨rfl, y9, t3, rfl⟩ := hOut
    have N3 := back_news (by k_asm) (by k_asm) hkeep hnew
    simp only [List.nil_append] at N3
    clear hkeep hnew)
  k_with "CompEnd" => ((rename News _ _ _ _ => nE); exact LCg.CompEnd.intro (by k_asm) nE _ (fun _ h => h) (by assumption) (by assumption) ⟨rfl, _, _, rfl, trivial⟩)
  k_with "binaryOp Add ref ref" => (
    refine add_strs (by k_asm) (by k_asm) (lst_list (by k_asm) (by k_memK)) (news_list (by k_asm) (by k_memK)) hys (.cons _ _ (.cons _ _ (.cons _ _ .nil))) (Nat.add_le_add (Nat.le_trans (Nat.le_of_eq hts) (show _ ≤ 900 by omega)) (show 3 ≤ 100 by decide)) ?_
    intro D' zs h' F' N' l1 hzs
    k_lt l1
    have hLx := len23 (us := [Str.ofString "Ab", Str.ofString "a", Str.ofString "A"]) (show ts.length ≤ 20 by omega) (Nat.le_refl 3)
    have kLz := StrsAre.length hzs
    generalize (ts ++ [Str.ofString "Ab", Str.ofString "a", Str.ofString "A"]) = tx at hzs hLx kLz)
  k_with "call builtin:len" => (refine kst_len (by k_asm) (by k_memK) kLz (by omega) ?_)
  k_with "call type:range" => (
    refine range1_led (by k_asm) (by k_asm) ?_
    intro r' h' tk' t1' u1' v1' F' N' l1
    k_lt l1)
  k_with "call builtin:sorted" => (
    (k_dflt (refine srt_rangeN tx (by with_unfolding_all rfl) (by k_asm) (by k_asm) (led_range (by k_asm) (by with_unfolding_all k_memK)) rfl (by omega) ?st ?sd))
    case' st =>
      intro i9 t9 k9 hk9 h9 tk9 own9 F9 N9
      simp only [List.cons_append, List.nil_append] at N9
      obtain ⟨tz9, hz9⟩ := hzs.get i9 k9 hk9
      have hi9 := (List.getElem?_eq_some_iff.mp hk9).1
    case' sd =>
      intro D' h' tk' vs' c' ns' F' N' l1 hi' hp' ho'
      k_lt l1
      walk_at "mine bare"; intro h1; exact apT h1.out)
  k_with "subscriptTail Name Name ref int" => (
    refine' item_litK ?ia ?ib ?ic ?id ?_ ?ie
    case ia => exact news_list (by k_asm) (by k_memK)
    case ie => with_unfolding_all rfl
    case ib => omega
    case ic => omega
    case id => exact hz9)
  k_with "call ref" => (
    (with_reducible show wpAny _ _ (call (Value.ref 28) _) _ _ _)
    walk_at "mine xfrm"
    intro r tl h3 tk3 F3 hkeep hnew hOut
    obtain ⟨rfl, rfl⟩ := hOut
    have N3 := back_news (by k_asm) (by k_asm) hkeep hnew
    simp only [List.nil_append] at N3
    clear hkeep hnew)
  k_with "SrtEnd" => (exact SrtEnd.intro (by k_asm) (by k_asm) (by k_sub))
  refine Mine.hd ?_
  (k_go0; (all_goals try k_fold); k_steps)
end Mine

end
section
namespace Mine
/-- k stands ahead of i: by the texts, then by the places -/
def befB (tx : List Str) (k i : Nat) : Bool := match tx[k]?, tx[i]? with
  | some a, some b => decide (a.cps.toList < b.cps.toList) || (decide (a.cps.toList = b.cps.toList) && decide (k < i))
  | _, _ => false
def cnt (tx : List Str) (i j : Nat) : Nat := (List.range j).countP fun k => befB tx k i
theorem cnt_succ (tx : List Str) (i j : Nat) : cnt tx i (j + 1) = cnt tx i j + (if befB tx j i then 1 else 0) := by
  unfold cnt
  rw [List.range_succ, List.countP_append, List.countP_cons, List.countP_nil]
  omega
section
variable {tx : List Str} {i j : Nat} {a b : Str}
theorem cnt_lt (ha : tx[j]? = some a) (hb : tx[i]? = some b) (h : slt a b) : ((cnt tx i j : Nat) : Int) + 1 = ((cnt tx i (j + 1) : Nat) : Int) := by
  have e : befB tx j i = true := by
    unfold befB
    rw [ha, hb]
    simp only [Bool.or_eq_true, decide_eq_true_eq]
    exact .inl h
  rw [cnt_succ, e]
  simp
theorem cnt_eq_lt (ha : tx[j]? = some a) (hb : tx[i]? = some b) (h : a = b) (hj : j < i) : ((cnt tx i j : Nat) : Int) + 1 = ((cnt tx i (j + 1) : Nat) : Int) := by
  have e : befB tx j i = true := by
    unfold befB
    rw [ha, hb, h]
    simp [hj]
  rw [cnt_succ, e]
  simp
theorem cnt_eq_ge (ha : tx[j]? = some a) (hb : tx[i]? = some b) (h : a = b) (hj : ¬ j < i) : ((cnt tx i j : Nat) : Int) = ((cnt tx i (j + 1) : Nat) : Int) := by
  have e : befB tx j i = false := by
    unfold befB
    rw [ha, hb, h]
    simp only [Bool.or_eq_false_iff, decide_eq_false_iff_not, Bool.and_eq_false_iff]
    exact ⟨List.lt_irrefl _, .inr hj⟩
  rw [cnt_succ, e]
  simp
theorem cnt_gt (ha : tx[j]? = some a) (hb : tx[i]? = some b) (h : slt b a) : ((cnt tx i j : Nat) : Int) = ((cnt tx i (j + 1) : Nat) : Int) := by
  have e : befB tx j i = false := by
    unfold befB
    rw [ha, hb]
    simp only [Bool.or_eq_false_iff, decide_eq_false_iff_not, Bool.and_eq_false_iff]
    exact ⟨fun q => slt_asymm h q, .inl fun q => slt_ne' h (str_ext q)⟩
  rw [cnt_succ, e]
  simp
end
theorem bef_of_ahead {tx : List Str} {x i : Nat} (hx : x < tx.length) (hi : i < tx.length) (h : Ahead tx x i) (hne : x ≠ i) : befB tx x i = true := by
  unfold befB
  rw [List.getElem?_eq_getElem hx, List.getElem?_eq_getElem hi]
  simp only [Bool.or_eq_true, Bool.and_eq_true, decide_eq_true_eq]
  rcases h _ _ (List.getElem?_eq_getElem hx) (List.getElem?_eq_getElem hi) with c | ⟨c, d⟩
  · exact .inl c
  · exact .inr ⟨by rw [c], by omega⟩
theorem not_bef {tx : List Str} {y i : Nat} (hy : y < tx.length) (hi : i < tx.length) (h : Ahead tx i y) : befB tx y i = false := by
  unfold befB
  rw [List.getElem?_eq_getElem hy, List.getElem?_eq_getElem hi]
  simp only [Bool.or_eq_false_iff, Bool.and_eq_false_iff, decide_eq_false_iff_not]
  rcases h _ _ (List.getElem?_eq_getElem hi) (List.getElem?_eq_getElem hy) with c | ⟨c, d⟩
  · exact ⟨fun q => slt_asymm c q, .inl fun q => slt_ne' c (str_ext q)⟩
  · exact ⟨fun q => slt_ne' q c, .inr (by omega)⟩
/-- the place that counting tells is the place where it stands -/
theorem place_at {tx : List Str} {ns : List Nat} (hp : ns.Perm (List.range tx.length)) (ho : ns.Pairwise (Ahead tx)) {i : Nat} (hi : i < tx.length) : ns[cnt tx i tx.length]? = some i := by
  have hin : i ∈ ns := hp.mem_iff.mpr (List.mem_range.mpr hi)
  obtain ⟨l1, l2, rfl⟩ := List.append_of_mem hin
  obtain ⟨o1, o2, o3⟩ := List.pairwise_append.mp ho
  obtain ⟨o4, _⟩ := List.pairwise_cons.mp o2
  have nd : (l1 ++ i :: l2).Nodup := hp.nodup_iff.mpr List.nodup_range
  obtain ⟨_, _, n3⟩ := List.nodup_append.mp nd
  have hlt : ∀ x ∈ l1 ++ i :: l2, x < tx.length := fun x hx => List.mem_range.mp (hp.mem_iff.mp hx)
  have hc : cnt tx i tx.length = l1.length := by
    unfold cnt
    rw [← hp.countP_eq, List.countP_append, List.countP_cons]
    have c1 : l1.countP (fun k => befB tx k i) = l1.length := by
      rw [List.countP_eq_length]
      intro x hx
      exact bef_of_ahead (hlt x (List.mem_append_left _ hx)) hi (o3 x hx i (.head _)) (n3 x hx i (.head _))
    have c2 : l2.countP (fun k => befB tx k i) = 0 := by
      rw [List.countP_eq_zero]
      intro y hy
      rw [not_bef (hlt y (List.mem_append_right _ (.tail _ hy))) hi (o4 y hy)]
      simp
    have c3 : befB tx i i = false := not_bef hi hi fun a b h1 h2 => .inr ⟨by rw [h1] at h2; exact Option.some.inj h2, Nat.le_refl _⟩
    rw [c1, c2, c3]
    simp
  rw [hc, List.getElem?_append_right (Nat.le_refl _), Nat.sub_self]
  rfl
section
variable {prog : Program} {w : World} {A : Around} {E : Value → Shared → Prop} {s : Shared} {env : Env} {h₀ : Heap} {x : Str} {body : List Stmt} {Q : Flow → Shared → Prop}
abbrev psP (c : Int × Tok) : List (Str × Value) := [(Str.ofString "place", .int c.1 c.2)]
abbrev stP : List Str := [Str.ofString "answer"]
abbrev JP (news : List (Addr × Obj)) (f : Nat → Nat) (x : Str) (m₀ : Str → Option Value) (i : Nat) : (Str → Option Value) → List (Addr × Obj) → Prop :=
  Stt (fun _ : Int × Tok => news) psP x stP m₀ (fun i c => c.1 = ((f i : Nat) : Int)) i
theorem loopP {r : Addr} {n : Nat} {t₀ u₀ v₀ t₁ : Tok} {m₀ : Str → Option Value} {news : List (Addr × Obj)} (f : Nat → Nat) (hf : f 0 = 0)
    (hh : A.handled = none) (hr : IsRange s.heap r 0 (n : Int) 1 t₀ u₀ v₀) (hn : n ≤ 1000) (F : Fr h₀ env.locals s.heap m₀) (N : News h₀ env.locals s.heap news) (h0 : m₀ (Str.ofString "place") = some (.int 0 t₁))
    (turn : ∀ (i : Nat) (t tp : Tok) (u : Str → Option Value) (h : Heap) (tk : Nat) (own : List (Addr × Obj)), i < n → OwnOff own (news.map (·.1)) →
      Fr h₀ env.locals h (fun y => if y = x then some (.int (i : Int) t) else if y = Str.ofString "place" then some (.int ((f i : Nat) : Int) tp) else if stP.contains y then u y else m₀ y) → News h₀ env.locals h (news ++ own) →
      wpAny (model prog w) A (execs body env) (InvPostG h₀ env.locals (JP news f x m₀ (i + 1)) own { s with heap := h, toks := tk } Q) E { s with heap := h, toks := tk })
    (done : ∀ (tp : Tok) (u : Str → Option Value) (h : Heap) (tk : Nat), Fr h₀ env.locals h (fun y => if y = x then u y else if y = Str.ofString "place" then some (.int ((f n : Nat) : Int) tp) else if stP.contains y then u y else m₀ y) → News h₀ env.locals h news → Q .next { s with heap := h, toks := tk }) :
    wpAny (model prog w) A (pyIter (.ref r)) (fun it s₂ => LoopAtV prog w A h₀ env x body Q E it s₂) E s := by
  refine loop_range (n := n) (fun _ : Int × Tok => news) psP stP (fun i c => c.1 = ((f i : Nat) : Int)) (0, t₁) hh hr (small_one (by omega) (by omega) (by omega) (by omega)) (by have e := rangeSize_nat 0 (n : Int); simpa using e) F N ?_ (by rw [hf]; rfl) ?_ ?_
  · intro q hq
    rw [List.mem_singleton.mp hq]
    exact h0
  · rintro ⟨p, tp⟩ i t u h tk own hi hoff hp F₁ N₁
    rw [Int.zero_add] at F₁
    have hp' : p = ((f i : Nat) : Int) := hp
    subst hp'
    exact turn i t tp u h tk own hi hoff F₁ N₁
  · rintro ⟨p, tp⟩ u h tk hp F₁ N₁
    have hp' : p = ((f n : Nat) : Int) := hp
    subst hp'
    exact done tp u h tk F₁ N₁
theorem endP {f : Nat → Nat} {m₀ : Str → Option Value} {news : List (Addr × Obj)} {i : Nat} {L : Addr} {m' : Str → Option Value} {own news' : List (Addr × Obj)} {s₁ : Shared} {h' : Heap} {tk : Nat} {v : Int} {tp : Tok}
    (F : Fr h₀ L h' m') (N : News h₀ L h' news') (hn : ∀ q ∈ news ++ own, q ∈ news') (ha : OwnOff own (news.map (·.1))) (hk : m' (Str.ofString "place") = some (.int v tp)) (hv : v = ((f i : Nat) : Int))
    (hr : ∀ z, z ≠ x → z ≠ Str.ofString "place" → z ≠ Str.ofString "answer" → stP.contains z = false → m' z = m₀ z) :
    InvEndG h₀ L (JP news f x m₀ i) own s₁ { s₁ with heap := h', toks := tk } :=
  range_end (Led := fun _ : Int × Tok => news) (ps := psP) (v, tp) F N (fun q hq => hn q (List.mem_append.mpr (.inl hq))) (fun q hq => hn q (List.mem_append.mpr (.inr hq))) ha
    (fun q hq => by rw [List.mem_singleton.mp hq]; exact hk) (fun z a b c => hr z a (b _ (.head _)) (by rintro rfl; simp at c) c) hv
end
end Mine

end
section
namespace Mine
local macro_rules | `(tactic| walk_at $s:str) => `(tactic| (k_extra $s))
local macro_rules | `(tactic| walk_at "mine for") => `(tactic| ((rename Fr _ _ _ _ => lF'); (with_unfolding_all refine' For_invVF lF' ?k1 ?k2 ?_; (case k1 => exact rfl); (case k2 => exact rfl); k_whole)))
local macro_rules | `(tactic| walk_at "mine xfrm") => `(tactic| (k_dflt (refine' use_gives (xfrm_gives _ _ _) ?k1 ?k2 ?k3 ?k4 ?k5 ?k6 ?k7 ?k8 ?_; (case k1 => k_asm); (case k2 => k_asm); (case k3 => k_asm); (case k4 => k_asm); (case k5 => exact rfl); (case k6 => exact trivial); (case k7 => ktr_room); (case k8 => ktr_units)); unfold Back))
local macro_rules | `(tactic| walk_at "mine coll") => `(tactic| (k_dflt (refine' use_gives (coll3_gives _ _ _ _ _) ?k1 ?k2 ?k3 ?k4 ?k5 ?k6 ?k7 ?k8 ?_; (case k1 => k_asm); (case k2 => k_asm); (case k3 => k_asm); (case k4 => k_asm); (case k5 => exact rfl); (case k6 => exact trivial); (case k7 => ktr_room); (case k8 => ktr_units)); unfold Back))
local macro_rules | `(tactic| walk_at "mine comp") => `(tactic| (k_dflt (refine LCg.ListComp_U (F₀ := by k_asm) (by with_unfolding_all rfl) (by decide) (by rfl) (by decide) (by rfl) ?_)))
theorem same_texts {zs : List Value} {tx ts : List Str} (h : StrsAre zs tx) (hl : ts.length = zs.length) (hR : ∀ (i : Nat) v y, zs[i]? = some v → ts[i]? = some y → ∃ t, v = .str y t) : ts = tx := by
  have hlen := h.length
  refine List.ext_getElem? fun i => ?_
  by_cases c : i < tx.length
  · obtain ⟨t, ht⟩ := h.get i tx[i] (List.getElem?_eq_getElem c)
    have hi : i < ts.length := by omega
    obtain ⟨t', h'⟩ := hR i _ ts[i] ht (List.getElem?_eq_getElem hi)
    rw [List.getElem?_eq_getElem hi, List.getElem?_eq_getElem c]
    injection h' with e1 e2
    rw [e1]
  · rw [List.getElem?_eq_none (by omega), List.getElem?_eq_none (by omega)]
theorem strs_mem {vs : List Value} {ts : List Str} (h : StrsAre vs ts) {v : Value} (hv : v ∈ vs) : ∃ y t, v = .str y t := h.all v hv
abbrev stO : List Str := [Str.ofString "place", Str.ofString "j", Str.ofString "answer"]
theorem endOut {h₀ : Heap} {x : Str} {m₀ : Str → Option Value} {news : List (Addr × Obj)} {i : Nat} {L : Addr} {m' : Str → Option Value} {own news' : List (Addr × Obj)} {s₁ : Shared} {h' : Heap} {tk : Nat}
    (F : Fr h₀ L h' m') (N : News h₀ L h' news') (hn : ∀ q ∈ news ++ own, q ∈ news') (ha : OwnOff own (news.map (·.1))) (hr : ∀ z, z ≠ x → z ≠ Str.ofString "j" → z ≠ Str.ofString "place" → stP.contains z = false → stO.contains z = false → m' z = m₀ z) :
    InvEndG h₀ L (JI news stO x m₀ i) own s₁ { s₁ with heap := h', toks := tk } :=
  endI F N hn ha fun z a b => hr z a (by rintro rfl; simp at b) (by rintro rfl; simp at b) (by simp only [List.contains_cons, List.contains_nil, Bool.or_false, Bool.or_eq_false_iff] at b ⊢; exact b.2.2) b
theorem at_place {vs : List Value} {ns : List Nat} {tx : List Str} (hi : IntsAre vs (ns.map fun i : Nat => (i : Int))) (hp : ns.Perm (List.range tx.length)) (ho : ns.Pairwise (Ahead tx)) {i : Nat} (h : i < tx.length) : ∃ t, vs[(((cnt tx i tx.length : Nat) : Int)).toNat]? = some (.int (i : Int) t) := by
  refine hi.get _ _ ?_
  rw [Int.toNat_natCast, List.getElem?_map, place_at hp ho h]
  rfl
theorem cnt_le {ns : List Nat} {tx : List Str} (hp : ns.Perm (List.range tx.length)) (ho : ns.Pairwise (Ahead tx)) {i : Nat} (h : i < tx.length) : cnt tx i tx.length < tx.length := by
  have e := place_at hp ho h
  have h1 := (List.getElem?_eq_some_iff.mp e).1
  rw [hp.length_eq, List.length_range] at h1
  exact h1
theorem eqs_ne {a b : Str} (h : a ≠ b) : (a == b) = false := by
  rw [← toList_beq]
  exact beq_false_of_ne fun e => h (str_ext e)
theorem eqs_lt {a b : Str} (h : slt a b) : (a == b) = false := eqs_ne fun e => slt_ne h e
theorem eqs_gt {a b : Str} (h : slt b a) : (a == b) = false := eqs_ne fun e => slt_ne' h e
theorem eqs_eq {a b : Str} (h : a = b) : (a == b) = true := by
  rw [← toList_beq, h]
  exact beq_self_eq_true _
set_option maxHeartbeats 8000000 in
theorem b1 : pk1.1 := by
  intro _
  k_fill
  intros
  rename_i D9 h9 tk9 vsT c9 nsT FT NT hiT hpT hoT lT
  (rename StrsAre _ _ => hzs)
  (rename (_ ≤ 20 + 3) => hLx)
  have kLz := hzs.length
  have kLT := hiT.length
  have kMark := kstMark
  k_with_none
  k_with "eval ListComp" => (walk_at "mine comp")
  k_with "CompSrc" => (
    refine comp_strs (fun v y => ∃ t, v = .str y t) (Nat.le_trans (Nat.le_of_eq kLz) (by omega)) (by with_unfolding_all rfl) (by k_asm) (by k_asm) (by with_unfolding_all k_memK) ?ct ?cf
    case' ct =>
      intro v ys I oI C oC D m₂ h tk E' hv hsrc hC hx F' N' off ne
      obtain ⟨x9, t9, rfl⟩ := strs_mem hzs hv
    case' cf =>
      intro ys ts g hys hts hR
      have hsame := same_texts hzs hts hR
      subst hsame
      have kLk := hys.length
      clear hR)
  k_with "call ref" => (
    (with_reducible show wpAny _ _ (call (Value.ref 28) _) _ _ _)
    walk_at "mine xfrm"
    intro r tl h3 tk3 F3 hkeep hnew hOut
    obtain ⟨rfl, rfl⟩ := hOut
    have N3 := back_news (by k_asm) (by k_asm) hkeep hnew
    simp only [List.nil_append] at N3
    clear hkeep hnew)
  k_with "CompEnd" => ((rename News _ _ _ _ => nE); exact LCg.CompEnd.intro (by k_asm) nE _ (fun _ h => h) (by assumption) (by assumption) ⟨rfl, _, _, rfl, _, rfl⟩)
  k_with "call builtin:len" => (refine kst_len (by k_asm) (by k_memK) kLz (by omega) ?_)
  k_with "exec For Name Call cons nil" => (walk_at "mine for")
  k_with "pyIter ref" => (
    (rename Fr _ _ _ _ => lF')
    (rename News _ _ _ _ => lN')
    (rename IsRange _ _ _ _ _ _ _ _ => rgX)
    k_dflt (refine loopI (x := Str.ofString "i") stO (by with_unfolding_all rfl) rgX (by omega) lF' lN' ?lt ?ld)
    case' lt =>
      intro i ti ui h1 tk1 own1 hi offi Fi Ni
      simp only [List.cons_append, List.nil_append, List.append_assoc] at Ni
      obtain ⟨nz, hnz⟩ := hzs.get i _ (List.getElem?_eq_getElem hi)
      obtain ⟨ny, hny⟩ := hys.get i _ (List.getElem?_eq_getElem hi)
      obtain ⟨nT, hnT⟩ := at_place hiT hpT hoT hi
      have hcn := cnt_le hpT hoT hi
    case' ld => intro ui h1 tk1 Fi Ni)
  k_with "pyIter ref" => (
    (rename Fr _ _ _ _ => lF')
    (rename News _ _ _ _ => lN')
    (rename IsRange _ _ _ _ _ _ _ _ => rgX)
    k_dflt (refine loopP (x := Str.ofString "j") (cnt ts i) rfl (by with_unfolding_all rfl) rgX (by omega) lF' lN' (by rfl) ?lt2 ?ld2)
    case' lt2 =>
      intro j tj tp uj h2 tk2 own2 hj offj Fj Nj
      simp only [List.cons_append, List.nil_append, List.append_assoc] at Nj
      obtain ⟨mz, hmz⟩ := hzs.get j _ (List.getElem?_eq_getElem hj)
      obtain ⟨my, hmy⟩ := hys.get j _ (List.getElem?_eq_getElem hj)
    case' ld2 => intro tp uj h2 tk2 Fj Nj)
  k_with "subscriptTail Name Name ref int" => (
    refine' item_litK ?ia ?ib ?ic ?id ?_ ?ie
    case ia => first | exact news_list (by k_asm) (by k_memK) | exact lst_list (by k_asm) (by k_memK)
    case id => first | exact hmz | exact hnz | exact hmy | exact hny | exact hnT
    case ie => with_unfolding_all rfl
    case ib => omega
    case ic => omega)
  k_with "call ref" => (
    (with_reducible show wpAny _ _ (call (Value.ref 21) _) _ _ _)
    walk_at "mine coll"
    intro r9 tl9 h3 tk3 F3 hkeep hnew hOut
    rcases hOut with ⟨rfl, t3, (⟨rfl, hc9⟩ | ⟨rfl, hc9⟩ | ⟨rfl, hc9⟩)⟩
    all_goals (
      have N3 := back_news (by k_asm) (by k_asm) hkeep hnew
      simp only [List.nil_append] at N3
      clear hkeep hnew))
  k_with "compareOp Eq str str" => (
    refine eq_str ?_
    first
      | rw [eqs_lt hc9]
      | rw [eqs_eq hc9]
      | rw [eqs_gt hc9])
  k_with "InvEndG" => (
    (rename News _ _ _ _ => nE)
    first
      | exact endP (by k_asm) nE (by intro q9 h9; simpa only [List.cons_append, List.nil_append, List.append_assoc] using h9) offj (by rfl) (by first | exact cnt_lt (List.getElem?_eq_getElem hj) (List.getElem?_eq_getElem hi) hc9 | exact cnt_eq_lt (List.getElem?_eq_getElem hj) (List.getElem?_eq_getElem hi) hc9 (by omega) | exact cnt_eq_ge (List.getElem?_eq_getElem hj) (List.getElem?_eq_getElem hi) hc9 (by omega) | exact cnt_gt (List.getElem?_eq_getElem hj) (List.getElem?_eq_getElem hi) hc9) (by intro z h1 h2 h3 h4; simp only [if_neg h1, if_neg h2, if_neg h3, h4, Bool.false_eq_true, if_false])
      | exact endOut (by k_asm) nE (by intro q9 h9; simpa only [List.cons_append, List.nil_append, List.append_assoc] using h9) offi (by intro z h1 h2 h3 h4 h5; simp only [if_neg h1, if_neg h2, if_neg h3, h4, h5, Bool.false_eq_true, if_false]))
  k_steps
end Mine

end
theorem PySem.Challenge.cw_dm0203_02_holds : PySem.Challenge.rw_dm0203_02.Holds := by
  exact Mine.pk1.2 ⟨Mine.b1⟩
