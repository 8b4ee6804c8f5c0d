import PyProof.Rows.All
import Wide.All
import OpenK.AllK
import Wide.FinOn
import Lean
import PySem.Challenge.RW_dm0203_01
open PySem PySem.W PyProof.Rows PySem.Spec PySem.Calls
set_option Elab.async false
set_option maxRecDepth 100000
namespace Mine
set_option maxHeartbeats 8000000 in
open_top hd for PySem.Challenge.rw_dm0203_01
end Mine
section
namespace Mine

section
variable {prog : Program} {w : World} {A A₀ : Around} {E : Value → Shared → Prop} {s : Shared} {K : Frag} {L : Addr} {h₀ base : Heap} {m mg mb : Str → Option Value} {news : List (Addr × Obj)} {p : Program} {loose : List Str} {mean : ExcName → Option Value}

/-- entering a def of the top: all that the call's ledger does not name is kept, and the end knows it -/
theorem enter {env : Env} {outer : List Env} {R : Result → Shared → Prop} {name qual : Str} {params : Arguments} {body : List Stmt} {scope : Scope} {dV kV doc pm cdv ct oc : Value} {an od : Option Addr} {osl : Array (Option Value)} {f : Addr} {args : Args} {binds : List (Str × Value)}
    (B : Below A₀ base outer h₀) (F : Fr h₀ L s.heap m) (X₀ : K.In h₀) (N : News h₀ L s.heap news) (T : Top p loose mean mg mb h₀) (hA : A.frames = some (env :: outer)) (hf : env.frame = some L) (hke : env.scope.kind = .function)
    (ho : K.lookup f = some ⟨oc, od, .func (fnOf name qual params body scope dV kV doc pm an cdv ct), osl⟩) (hcd : codeIn K cdv qual = true) (hroom : A.depth < recursionLimit)
    (hbind : BindsTo s (fnOf name qual params body scope dV kV doc pm an cdv ct) args binds) (hloc : ∀ y ∈ binds, scope.names.lookup y.1 = some .local)
    (h : ∀ g L' h₁, (∀ b o, s.heap.get? b = some o → b ∉ news.map (·.1) → g.get? b = some o) → Fr h₀ L g m → Fr g L' h₁ (fun y => binds.reverse.lookup y) → News g L' h₁ news → Below A base (env :: outer) g → K.In g → Top p loose mean mg mb g → (∀ q ∈ news, q.1 < L') →
      wpAny (model prog w) (A.deeper (envOf qual scope L' f cdv)) (execs body (envOf qual scope L' f cdv))
        (fun fl s' => LeaveK h₀ L m g (fun r s'' => (∀ b o, g.get? b = some o → s''.heap.get? b = some o) → R r s'') (match fl with | .ret v => v | _ => .none) s')
        (fun e s' => wpAny (model prog w) (A.deeper (envOf qual scope L' f cdv)) (leaving (envOf qual scope L' f cdv) e) (fun _ s'' => R (.error e) s'') (fun e' s'' => R (.error e') s'') s')
        { s with heap := h₁, toks := s.toks + binds.length })
    (hco : scope.isCoroutine = false) (hgen : scope.isGenerator = false) (hk : scope.kind = .function)
    (hcell : ∀ x ∈ scope.names, x.2 ≠ .cell) : codeAny (model prog w) A (.call (.ref f) args) R s := by
  obtain ⟨FG, BG, st, lv⟩ := groundX (R := fun r s'' => (∀ b o, (hideAll s.heap (news.map (·.1))).get? b = some o → s''.heap.get? b = some o) → R r s'') B F N hA hf hke
  refine codeAny_call_def (fd := fnOf name qual params body scope dV kV doc pm an cdv ct) (body := body) (binds := binds) hroom ((X₀.keeps F.keep) _ _ ho) rfl (T.nolimit.keeps F.keep) (codeRec_of (X₀.keeps F.keep) hcd) rfl hbind hcell hloc (fun h₁ hns hk₁ => ?_) hco hgen hk
  refine wpAny_mono (h _ s.heap.objs.size h₁ (fun b o e n => hideAll_get _ e n) FG ⟨hns, fun b o e => hk₁ b o (of_hideAll _ e), Nat.le_of_eq (hideAll_size _ _)⟩
    (fun q hq => ⟨hk₁ _ _ (N q hq).1, Nat.ne_of_lt (Heap.lt_size (N q hq).1), hideAll_none _ (List.mem_map_of_mem hq)⟩) BG (X₀.keeps st) (T.keeps st) (fun q hq => Heap.lt_size (N q hq).1)) (fun fl s' hl => ?_) fun _ _ y => y
  have hl' := hl
  obtain ⟨L', m', news', F', N', k⟩ := hl'
  exact lv _ _ hl F'.keep
end

/-- what a call hands back to its caller: the caller's frame, all that stood, and what is new -/
def Back (h₀ : Heap) (L : Addr) (m : Str → Option Value) (s : Shared) (Q : Value → Shared → Prop) (Out : List (Addr × Obj) → Value → Prop) : Prop :=
  ∀ (r : Value) (tl : List (Addr × Obj)) (h' : Heap) (tk' : Nat), Fr h₀ L h' m → (∀ b o, s.heap.get? b = some o → h'.get? b = some o) →
    (∀ q ∈ tl, h'.get? q.1 = some q.2 ∧ s.heap.get? q.1 = none) → Out tl r → Q r { s with heap := h', toks := tk' }

/-- a call of a def of the top, from any frame: under Pre (of the caller's heap) it answers by Out -/
def Gives (prog : Program) (w : World) (K : Frag) (p : Program) (loose : List Str) (f : Addr) (vs : List Value) (Pre : Heap → Prop) (Out : List (Addr × Obj) → Value → Prop) : Prop :=
  ∀ (mean : ExcName → Option Value) (mg mb : Str → Option Value) (dp un : Nat) (gd : Option (List Code)) (cn : Str) (cs : Scope) (a : Addr) (ccd : Value) (cl : List (Str × Addr)) (outer : List Env) (A₀ : Around) (base h₀ : Heap) (L : Addr) (m : Str → Option Value) (s : Shared) (Q E : Value → Shared → Prop),
    Below A₀ base outer h₀ → Fr h₀ L s.heap m → K.In h₀ → Top p loose mean mg mb h₀ → cs.kind = .function → Pre s.heap → dp + 2 < recursionLimit → un + 16 < cLine → Back h₀ L m s Q Out →
      wpAny (model prog w) (ktrTop dp un gd cn cs L a ccd cl outer) (call (.ref f) vs) Q E s

theorem back_news {h₀ h' : Heap} {L : Addr} {m : Str → Option Value} {s : Shared} {news tl : List (Addr × Obj)} (F : Fr h₀ L s.heap m) (N : News h₀ L s.heap news)
    (hk : ∀ b o, s.heap.get? b = some o → h'.get? b = some o) (ht : ∀ q ∈ tl, h'.get? q.1 = some q.2 ∧ s.heap.get? q.1 = none) : News h₀ L h' (tl ++ news) := by
  intro q hq
  rcases List.mem_append.mp hq with hq | hq
  · refine ⟨(ht q hq).1, fun e => ?_, ?_⟩
    · obtain ⟨oL, _, _, hL, _⟩ := F.ns
      have := (ht q hq).2
      rw [e, hL] at this
      cases this
    · cases e : h₀.get? q.1 with
      | none => rfl
      | some o =>
        have := (ht q hq).2
        rw [F.keep _ _ e] at this
        cases this
  · exact ⟨hk _ _ (N q hq).1, (N q hq).2⟩
theorem back_off {h₀ h' : Heap} {L : Addr} {s : Shared} {news tl : List (Addr × Obj)} (N : News h₀ L s.heap news)
    (ht : ∀ q ∈ tl, h'.get? q.1 = some q.2 ∧ s.heap.get? q.1 = none) : ∀ q ∈ tl, ∀ r ∈ news, r.1 ≠ q.1 := by
  intro q hq r hr e
  have := (ht q hq).2
  rw [← e, (N r hr).1] at this
  cases this

/-- what holds between a loop's turns: the ledger and the frame by a datum c, and P of it -/
def Stt {σ : Type} (Led : σ → List (Addr × Obj)) (ps : σ → List (Str × Value)) (x : Str) (stored : List Str) (m₀ : Str → Option Value) (P : Nat → σ → Prop) (i : Nat) (m : Str → Option Value) (nx : List (Addr × Obj)) : Prop :=
  ∃ c : σ, nx = Led c ∧ (∀ q ∈ ps c, m q.1 = some q.2) ∧ (∀ z, z ≠ x → (∀ q ∈ ps c, z ≠ q.1) → stored.contains z = false → m z = m₀ z) ∧ P i c

section
variable {prog : Program} {w : World} {A : Around} {E : Value → Shared → Prop} {s : Shared} {env : Env} {h₀ : Heap} {x : Str} {body : List Stmt} {Q : Flow → Shared → Prop}

theorem loop_list {σ : Type} {l : Addr} {vs : List Value} {nn : Nat} {m₀ : Str → Option Value} (Led : σ → List (Addr × Obj)) (ps : σ → List (Str × Value)) (stored : List Str) (P : Nat → σ → Prop) (c₀ : σ)
    (hh : A.handled = none) (hl : ∀ c, (l, listOf vs.toArray nn) ∈ Led c) (F : Fr h₀ env.locals s.heap m₀) (N : News h₀ env.locals s.heap (Led c₀)) (hk : ∀ q ∈ ps c₀, m₀ q.1 = some q.2) (hp : P 0 c₀)
    (turn : ∀ (c : σ) (i : Nat) (v : Value) (u : Str → Option Value) (h : Heap) (tk : Nat) (own : List (Addr × Obj)), vs[i]? = some v → OwnOff own ((Led c).map (·.1)) → P i c →
      Fr h₀ env.locals h (fun y => if y = x then some v else kstB (fun z => if stored.contains z then u z else m₀ z) (ps c) y) → News h₀ env.locals h (Led c ++ own) →
      wpAny (model prog w) A (execs body env) (InvPostG h₀ env.locals (fun m' nx => (l, listOf vs.toArray nn) ∈ nx ∧ Stt Led ps x stored m₀ P (i + 1) m' nx) own { s with heap := h, toks := tk } Q) E { s with heap := h, toks := tk })
    (done : ∀ (c : σ) (u : Str → Option Value) (h : Heap) (tk : Nat), P vs.length c → Fr h₀ env.locals h (fun y => if y = x then u y else kstB (fun z => if stored.contains z then u z else m₀ z) (ps c) y) → News h₀ env.locals h (Led c) → Q .next { s with heap := h, toks := tk }) :
    wpAny (model prog w) A (pyIter (.ref l)) (fun it s₂ => LoopAtV prog w A h₀ env x body Q E it s₂) E s := by
  refine kdl_iter (fun i m nx => Stt Led ps x stored m₀ P i m nx) hh (hl c₀) F N ⟨c₀, rfl, hk, fun _ _ _ _ => rfl, hp⟩ ?_ ?_
  · rintro i v m₁ nx h tk own hv hoff _ ⟨c, rfl, h1, h2, hp'⟩ F₁ N₁
    exact turn c i v m₁ h tk own hv hoff hp' (kst_fr h1 h2 F₁) N₁
  · rintro m₁ nx h tk ⟨c, rfl, h1, h2, hp'⟩ F₁ N₁
    exact done c m₁ h tk hp' (kst_frOut h1 h2 F₁) N₁

theorem loop_end {σ : Type} {l : Addr} {vs : List Value} {nn : Nat} {m₀ : Str → Option Value} {Led : σ → List (Addr × Obj)} {ps : σ → List (Str × Value)} {stored : List Str} {P : Nat → σ → Prop} {i : Nat} (c : σ) {L : Addr} {m' : Str → Option Value} {own news' : List (Addr × Obj)} {s₁ : Shared} {h' : Heap} {tk : Nat}
    (F : Fr h₀ L h' m') (N : News h₀ L h' news') (hl : (l, listOf vs.toArray nn) ∈ Led c) (hn : ∀ q ∈ Led c, q ∈ news') (ho : ∀ q ∈ own, q ∈ news') (ha : OwnOff own ((Led c).map (·.1)))
    (hk : ∀ q ∈ ps c, m' q.1 = some q.2) (hr : ∀ z, z ≠ x → (∀ q ∈ ps c, z ≠ q.1) → stored.contains z = false → m' z = m₀ z) (hp : P i c) :
    InvEndG h₀ L (fun m' nx => (l, listOf vs.toArray nn) ∈ nx ∧ Stt Led ps x stored m₀ P i m' nx) own s₁ { s₁ with heap := h', toks := tk } :=
  InvEndG.intro F N ⟨hl, c, rfl, hk, hr, hp⟩ ha hn ho

theorem loop_range {σ : Type} {r : Addr} {a₀ b₀ : Int} {t₀ u₀ v₀ : Tok} {n : Nat} {m₀ : Str → Option Value} (Led : σ → List (Addr × Obj)) (ps : σ → List (Str × Value)) (stored : List Str) (P : Nat → σ → Prop) (c₀ : σ)
    (hh : A.handled = none) (hr : IsRange s.heap r a₀ b₀ 1 t₀ u₀ v₀) (hsmall : Builtin.Range.small a₀ b₀ 1 = true) (hsz : Builtin.Range.rangeSize a₀ b₀ 1 = (n : Int)) (F : Fr h₀ env.locals s.heap m₀) (N : News h₀ env.locals s.heap (Led c₀)) (hk : ∀ q ∈ ps c₀, m₀ q.1 = some q.2) (hp : P 0 c₀)
    (turn : ∀ (c : σ) (i : Nat) (t : Tok) (u : Str → Option Value) (h : Heap) (tk : Nat) (own : List (Addr × Obj)), i < n → OwnOff own ((Led c).map (·.1)) → P i c →
      Fr h₀ env.locals h (fun y => if y = x then some (.int (a₀ + (i : Int)) t) else kstB (fun z => if stored.contains z then u z else m₀ z) (ps c) y) → News h₀ env.locals h (Led c ++ own) →
      wpAny (model prog w) A (execs body env) (InvPostG h₀ env.locals (Stt Led ps x stored m₀ P (i + 1)) own { s with heap := h, toks := tk } Q) E { s with heap := h, toks := tk })
    (done : ∀ (c : σ) (u : Str → Option Value) (h : Heap) (tk : Nat), P n c → Fr h₀ env.locals h (fun y => if y = x then u y else kstB (fun z => if stored.contains z then u z else m₀ z) (ps c) y) → News h₀ env.locals h (Led c) → Q .next { s with heap := h, toks := tk }) :
    wpAny (model prog w) A (pyIter (.ref r)) (fun it s₂ => LoopAtV prog w A h₀ env x body Q E it s₂) E s := by
  refine wpAny_pyIter_range hr hsmall ?_
  have W : Walks prog w A s.heap.objs.size [s.heap.objs.size] [s.heap.objs.size] n (fun i v => i < n ∧ ∃ t, v = .int (a₀ + i * 1) t)
      (fun i h => IsRangeIter h s.heap.objs.size (a₀ + (i : Nat) * 1) ((n : Int) - (i : Nat)) 1) := (Walks.range hh _ a₀ 1 n).bound
  refine kdr_loop (fun i m nx => Stt Led ps x stored m₀ P i m nx) W (fun _ h => h) (fun _ h => h) ?_ ?_ ?_ ?_ (by show IsRangeIter _ _ _ _ _; rw [hsz]; simpa using Heap.get?_push_size _ rfl) (F.push _) (fun q hq => ⟨Heap.get?_push_of_some _ (N q hq).1, (N q hq).2⟩) ⟨c₀, rfl, hk, fun _ _ _ _ => rfl, hp⟩ ?_ ?_
  · intro i h hi b hb
    rw [List.mem_singleton.mp hb]
    exact ⟨_, hi⟩
  · intro hm
    exact absurd F.ns.lt ((List.mem_singleton.mp hm) ▸ Nat.lt_irrefl _)
  · intro b hb
    rw [List.mem_singleton.mp hb]
    exact next_is_new F
  · intro q hq hI
    exact absurd (Heap.lt_size (N q hq).1) ((List.mem_singleton.mp hI) ▸ Nat.lt_irrefl _)
  · rintro i v m₁ nx h tk own hin ⟨_, t, rfl⟩ hoff ⟨c, rfl, h1, h2, hp'⟩ F₁ N₁
    rw [Int.mul_one] at F₁
    exact turn c i t m₁ h tk own hin hoff hp' (kst_fr h1 h2 F₁) N₁
  · rintro m₁ nx h tk ⟨c, rfl, h1, h2, hp'⟩ F₁ N₁
    exact done c m₁ h tk hp' (kst_frOut h1 h2 F₁) N₁

theorem range_end {σ : Type} {m₀ : Str → Option Value} {Led : σ → List (Addr × Obj)} {ps : σ → List (Str × Value)} {stored : List Str} {P : Nat → σ → Prop} {i : Nat} (c : σ) {L : Addr} {m' : Str → Option Value} {own news' : List (Addr × Obj)} {s₁ : Shared} {h' : Heap} {tk : Nat}
    (F : Fr h₀ L h' m') (N : News h₀ L h' news') (hn : ∀ q ∈ Led c, q ∈ news') (ho : ∀ q ∈ own, q ∈ news') (ha : OwnOff own ((Led c).map (·.1)))
    (hk : ∀ q ∈ ps c, m' q.1 = some q.2) (hr : ∀ z, z ≠ x → (∀ q ∈ ps c, z ≠ q.1) → stored.contains z = false → m' z = m₀ z) (hp : P i c) :
    InvEndG h₀ L (Stt Led ps x stored m₀ P i) own s₁ { s₁ with heap := h', toks := tk } :=
  InvEndG.intro F N ⟨c, rfl, hk, hr, hp⟩ ha hn ho
end
end Mine

end
section
namespace Mine
/-- a goal of a walk that is proved in a theorem of its own -/
structure Hide (P : Prop) : Prop where
  out : P
theorem apT {X : Prop} (h : True → X) : X := h trivial
/-- a walk that parks one of its goals -/
def park1 {H : Prop} (P : Prop) (h : Hide P → H) : { P : Prop // Hide P → H } := ⟨P, h⟩
/-- a walk that parks two of its goals -/
def park2 {H : Prop} (P₁ P₂ : Prop) (h : Hide P₁ → Hide P₂ → H) : { P : Prop × Prop // Hide P.1 → Hide P.2 → H } := ⟨(P₁, P₂), h⟩
end Mine

end
section
namespace Mine
theorem use_gives {prog : Program} {w : World} {K : Frag} {p : Program} {loose : List Str} {f : Addr} {vs : List Value} {Pre : Heap → Prop} {Out : List (Addr × Obj) → Value → Prop} {mean : ExcName → Option Value} {mg mb : Str → Option Value} {dp un : Nat} {gd : Option (List Code)} {cn : Str} {cs : Scope} {a : Addr} {ccd : Value} {cl : List (Str × Addr)} {outer : List Env} {A₀ : Around} {base h₀ : Heap} {L : Addr} {m : Str → Option Value} {s : Shared} {Q E : Value → Shared → Prop}
    (H : Gives prog w K p loose f vs Pre Out) (B : Below A₀ base outer h₀) (F : Fr h₀ L s.heap m) (X : K.In h₀) (T : Top p loose mean mg mb h₀) (hk : cs.kind = .function) (hp : Pre s.heap) (hd : dp + 2 < recursionLimit) (hu : un + 16 < cLine) (ret : Back h₀ L m s Q Out) :
    wpAny (model prog w) (ktrTop dp un gd cn cs L a ccd cl outer) (call (.ref f) vs) Q E s :=
  H mean mg mb dp un gd cn cs a ccd cl outer A₀ base h₀ L m s Q E B F X T hk hp hd hu ret
theorem news_list {h₀ h : Heap} {L l : Addr} {news : List (Addr × Obj)} {vs : List Value} {n : Nat} (N : News h₀ L h news) (hm : (l, listOf vs.toArray n) ∈ news) : h.IsList l vs.toArray := ⟨_, (N _ hm).1, rfl, n, rfl⟩
theorem strs_at {vs : List Value} {ts : List Str} (hs : StrsAre vs ts) {k : Nat} (hk : k < ts.length) : ∃ y t, vs[k]? = some (.str y t) ∧ ts[k]? = some y := by
  obtain ⟨t, ht⟩ := hs.get k ts[k] (List.getElem?_eq_getElem hk)
  exact ⟨_, t, ht, List.getElem?_eq_getElem hk⟩
end Mine
namespace Mine
theorem gives_mono {prog : Program} {w : World} {K : Frag} {p : Program} {loose : List Str} {f : Addr} {vs : List Value} {Pre : Heap → Prop} {Out Out' : List (Addr × Obj) → Value → Prop} (H : Gives prog w K p loose f vs Pre Out) (h : ∀ tl r, Out tl r → Out' tl r) : Gives prog w K p loose f vs Pre Out' :=
  fun mean mg mb dp un gd cn cs a ccd cl outer A₀ base h₀ L m s Q E B F X T hk hp hd hu ret =>
    H mean mg mb dp un gd cn cs a ccd cl outer A₀ base h₀ L m s Q E B F X T hk hp hd hu fun r tl h' tk' F' k n o => ret r tl h' tk' F' k n (h tl r o)
end Mine

end
section
namespace Mine
section
variable {prog : Program} {w : World} {A : Around} {h₀ : Heap} {L : Addr} {m : Str → Option Value} {env : Env} {elt : Expr} {x : Str} {scope : Scope} {cl : List (Str × Addr)}
theorem comp_rest {s : Shared} {S : List (Addr × Obj) → Prop} {P : Nat → Value → Prop} {Fin : List Value → List (Addr × Obj) → Prop} {news : List (Addr × Obj)} {n : Nat} (J : Nat → List Value → List (Addr × Obj) → Prop) (h0 : J 0 [] news)
    (turn : ∀ (i : Nat) (ys : List Value) (nw : List (Addr × Obj)) (v : Value) (I : Addr) (oI : Obj) (C : Addr) (oC : Obj) (D : Addr) (m₂ : Str → Option Value) (h : Heap) (tk : Nat) (E' : Value → Shared → Prop), i < n → J i ys nw → P i v → LCg.NsObj oC m₂ → m₂ x = some v → Fr h₀ L h m → News h₀ L h ((I, oI) :: (C, oC) :: (D, LCg.lst ys) :: nw) → LCg.Off3 I C D nw → ((@Ne Nat I C) ∧ (@Ne Nat I D) ∧ (@Ne Nat C D)) →
      wpAny (model prog w) A (eval elt (compEnvC scope cl C env)) (LCg.CompEnd h₀ L m { s with heap := h, toks := tk } I oI C oC D (LCg.lst ys) S (fun y nw' => J (i + 1) (ys ++ [y]) nw')) E' { s with heap := h, toks := tk })
    (fin : ∀ ys nw, J n ys nw → Fin ys nw) : LCg.CompRest prog w A h₀ L m env elt x scope cl s S P Fin n 0 [] news := by
  have key : ∀ (j i : Nat) (ys : List Value) (nw : List (Addr × Obj)), i + j = n → J i ys nw → LCg.CompRest prog w A h₀ L m env elt x scope cl s S P Fin j i ys nw := by
    intro j
    induction j with
    | zero =>
      intro i ys nw hi hy
      exact LCg.CompRest.zero (fin ys nw ((show i = n by omega) ▸ hy))
    | succ j ih =>
      intro i ys nw hi hy
      refine LCg.CompRest.succ ?_
      intro v I oI C oC D m₂ h tk E' hv hC hx F N off ne
      refine wpAny_mono (turn i ys nw v I oI C oC D m₂ h tk E' (by omega) hy hv hC hx F N off ne) (fun y s₂ hq => ?_) fun _ _ e => e
      obtain ⟨h', tk', nw', e, F', N', off', hS, hj⟩ := hq
      exact ⟨h', tk', nw', e, F', N', off', hS, ih (i + 1) _ _ (by omega) hj⟩
  exact key n 0 [] news (by omega) h0
theorem comp_src {Fin : Shared → List Value → List (Addr × Obj) → Prop} {ax : Addr} {vs : List Value} {k : Nat} {news : List (Addr × Obj)} {s₁ : Shared} (J : Nat → List Value → List (Addr × Obj) → Prop)
    (hh : A.handled = none) (F : Fr h₀ L s₁.heap m) (N : News h₀ L s₁.heap news) (hm : (ax, listOf vs.toArray k) ∈ news) (hsz : vs.length ≤ sizeLine) (h0 : J 0 [] news)
    (turn : ∀ (i : Nat) (ys : List Value) (nw : List (Addr × Obj)) (v : Value) (I : Addr) (oI : Obj) (C : Addr) (oC : Obj) (D : Addr) (m₂ : Str → Option Value) (h : Heap) (tk : Nat) (E' : Value → Shared → Prop), J i ys nw → vs[i]? = some v → LCg.NsObj oC m₂ → m₂ x = some v → Fr h₀ L h m → News h₀ L h ((I, oI) :: (C, oC) :: (D, LCg.lst ys) :: nw) → LCg.Off3 I C D nw → ((@Ne Nat I C) ∧ (@Ne Nat I D) ∧ (@Ne Nat C D)) →
      wpAny (model prog w) A (eval elt (compEnvC scope cl C env)) (LCg.CompEnd h₀ L m { s₁ with heap := h, toks := tk } I oI C oC D (LCg.lst ys) (LCg.SrcAt h₀ ax vs.toArray) (fun y nw' => J (i + 1) (ys ++ [y]) nw')) E' { s₁ with heap := h, toks := tk })
    (fin : ∀ ys nw g, J vs.length ys nw → Fin { s₁ with heap := g } ys nw) : LCg.CompSrc prog w A h₀ L m env elt x scope cl Fin (.ref ax) s₁ := by
  refine LCg.CompSrc.ledger hh F N hm (by rw [List.size_toArray]; exact hsz) fun g => ?_
  have e : vs.toArray.size = vs.length := List.size_toArray ..
  rw [e]
  refine comp_rest J h0 (fun i ys nw v I oI C oC D m₂ h tk E' _ hJ hv hC hx F' N' off ne => ?_) fun ys nw hJ => fin ys nw g hJ
  exact turn i ys nw v I oI C oC D m₂ h tk E' hJ (by simpa using hv) hC hx F' N' off ne
end
end Mine

end
section
namespace Mine
section
variable (κ : PyProof.Rows.KeyKind) (ix : Keyed → Nat)
def ky (p : Keyed) : κ.α := (κ.keyOf p.1).getD κ.dflt
def el (xs : Array Keyed) (i : Nat) : Keyed := (xs[i]?).getD (.none, .none)
/-- the order of a stable sort: by the keys, then by the places at the start -/
def Rk (p q : Keyed) : Prop := κ.klt (ky κ p) (ky κ q) ∨ (ky κ p = ky κ q ∧ ix p ≤ ix q)
def AscR (xs : Array Keyed) (lo n : Nat) : Prop := ∀ i j, i < j → j < n → Rk κ ix (el xs (lo + i)) (el xs (lo + j))
def DescR (xs : Array Keyed) (lo n : Nat) : Prop := ∀ i j, i < j → j < n → Rk κ ix (el xs (lo + j)) (el xs (lo + i))
end
theorem el_congr {xs ys : Array Keyed} {i j : Nat} (h : xs[i]? = ys[j]?) : el xs i = el ys j := by unfold el; rw [h]
section
variable {κ : PyProof.Rows.KeyKind} {ix : Keyed → Nat}
theorem Rk.of {p q : Keyed} (h : κ.kle (ky κ p) (ky κ q)) (hi : ix p ≤ ix q) : Rk κ ix p q := by
  by_cases c : κ.klt (ky κ p) (ky κ q)
  · exact .inl c
  · exact .inr ⟨KeyOrd.kle_antisymm h (KeyOrd.kle_of_not_klt c), hi⟩
theorem Rk.kle {p q : Keyed} (h : Rk κ ix p q) : κ.kle (ky κ p) (ky κ q) := by
  rcases h with h | h
  · exact KeyOrd.kle_of_klt h
  · rw [h.1]; exact KeyOrd.kle_refl _
end
/-- the sort's state while it works on the run at lo: what is ahead stands as in b, what is behind as in a₀ -/
structure SG (a₀ b : Array Keyed) (pd : Array (Nat × Nat × Nat)) (lo hi : Nat) (st : SortSt) : Prop where
  perm : (arrOf st).Perm a₀
  kind : kindOf st = oneType'
  failed : failedOf st = none
  pend : pendingOf st = pd
  low : ∀ i, i < lo → (arrOf st)[i]? = b[i]?
  high : ∀ i, lo + hi ≤ i → (arrOf st)[i]? = a₀[i]?
  mid : ∀ i, i < hi → ∃ j, j < hi ∧ (arrOf st)[lo + i]? = a₀[lo + j]?
section
variable {a₀ b : Array Keyed} {pd : Array (Nat × Nat × Nat)} {lo hi : Nat} {st : SortSt} {κ : PyProof.Rows.KeyKind} {ix : Keyed → Nat}
theorem SG.size (h : SG a₀ b pd lo hi st) : (arrOf st).size = a₀.size := h.perm.size_eq
theorem SG.grow (h : SG a₀ b pd lo hi st) : SG a₀ b pd lo (hi + 1) st := by
  refine ⟨h.perm, h.kind, h.failed, h.pend, h.low, fun i hi' => h.high i (by omega), fun i hi' => ?_⟩
  by_cases c : i < hi
  · obtain ⟨j, hj, e⟩ := h.mid i c
    exact ⟨j, by omega, e⟩
  · have : i = hi := by omega
    subst this
    exact ⟨i, by omega, h.high _ (Nat.le_refl _)⟩
theorem SG.mir (h : SG a₀ b pd lo hi st) (hs : lo + hi ≤ a₀.size) {i j : Nat} (hj : j ≤ hi) : SG a₀ b pd lo hi (setArr st (mirror (arrOf st) (lo + i) (lo + j) ((lo + j - (lo + i)) / 2))) := by
  have hz : lo + j ≤ (arrOf st).size := by rw [h.size]; omega
  refine ⟨(mirror_perm _ _ _ _).trans h.perm, h.kind, h.failed, h.pend, fun k hk => ?_, fun k hk => ?_, fun k hk => ?_⟩
  · show (mirror _ _ _ _)[k]? = _
    rw [getElem?_mirror_all hz, if_neg (by omega)]
    exact h.low k hk
  · show (mirror _ _ _ _)[k]? = _
    rw [getElem?_mirror_all hz, if_neg (by omega)]
    exact h.high k hk
  · show ∃ q, q < hi ∧ (mirror _ _ _ _)[lo + k]? = _
    by_cases c : i ≤ k ∧ k < j
    · obtain ⟨q, hq, e⟩ := h.mid (i + j - 1 - k) (by omega)
      refine ⟨q, hq, ?_⟩
      rw [getElem?_mirror_all hz, if_pos (by omega), ← e]
      congr 1
      omega
    · obtain ⟨q, hq, e⟩ := h.mid k hk
      refine ⟨q, hq, ?_⟩
      rw [getElem?_mirror_all hz, if_neg (by omega), e]
theorem SG.bub (h : SG a₀ b pd lo hi st) (hs : lo + hi ≤ a₀.size) {k l : Nat} (hl : l ≤ k) (hk : k < hi) : SG a₀ b pd lo hi (setArr st (bubble (arrOf st) (lo + k) (lo + k - (lo + l)))) := by
  have hz : lo + k < (arrOf st).size := by rw [h.size]; omega
  refine ⟨(bubble_perm _ _ _).trans h.perm, h.kind, h.failed, h.pend, fun q hq => ?_, fun q hq => ?_, fun q hq => ?_⟩
  · show (bubble _ _ _)[q]? = _
    rw [getElem?_bubble hz _ (by omega), if_neg (by omega), if_neg (by omega)]
    exact h.low q hq
  · show (bubble _ _ _)[q]? = _
    rw [getElem?_bubble hz _ (by omega), if_neg (by omega), if_neg (by omega)]
    exact h.high q hq
  · show ∃ r, r < hi ∧ (bubble _ _ _)[lo + q]? = _
    rw [getElem?_bubble hz _ (by omega)]
    by_cases c : q = l
    · obtain ⟨r, hr, e⟩ := h.mid k hk
      exact ⟨r, hr, by rw [if_pos (by omega), e]⟩
    · by_cases c2 : l < q ∧ q ≤ k
      · obtain ⟨r, hr, e⟩ := h.mid (q - 1) (by omega)
        refine ⟨r, hr, ?_⟩
        rw [if_neg (by omega), if_pos (by omega), ← e]
        congr 1
        omega
      · obtain ⟨r, hr, e⟩ := h.mid q hq
        exact ⟨r, hr, by rw [if_neg (by omega), if_neg (by omega), e]⟩
theorem el_mir {xs : Array Keyed} {i j : Nat} (hz : lo + j ≤ xs.size) (k : Nat) : el (mirror xs (lo + i) (lo + j) ((lo + j - (lo + i)) / 2)) (lo + k) = if i ≤ k ∧ k < j then el xs (lo + (i + j - 1 - k)) else el xs (lo + k) := by
  by_cases c : i ≤ k ∧ k < j
  · rw [if_pos c]
    refine el_congr ?_
    rw [getElem?_mirror_all hz, if_pos (by omega)]
    congr 1
    omega
  · rw [if_neg c]
    refine el_congr ?_
    rw [getElem?_mirror_all hz, if_neg (by omega)]
theorem el_bub {xs : Array Keyed} {k l : Nat} (hz : lo + k < xs.size) (hl : l ≤ k) (q : Nat) : el (bubble xs (lo + k) (lo + k - (lo + l))) (lo + q) = if q = l then el xs (lo + k) else if l < q ∧ q ≤ k then el xs (lo + (q - 1)) else el xs (lo + q) := by
  by_cases c : q = l
  · rw [if_pos c]
    refine el_congr ?_
    rw [getElem?_bubble hz _ (by omega), if_pos (by omega)]
  · rw [if_neg c]
    by_cases c2 : l < q ∧ q ≤ k
    · rw [if_pos c2]
      refine el_congr ?_
      rw [getElem?_bubble hz _ (by omega), if_neg (by omega), if_pos (by omega)]
      congr 1
      omega
    · rw [if_neg c2]
      refine el_congr ?_
      rw [getElem?_bubble hz _ (by omega), if_neg (by omega), if_neg (by omega)]
/-- the places grow with the index -/
def IxUp (ix : Keyed → Nat) (a₀ : Array Keyed) : Prop := ∀ i j, i ≤ j → j < a₀.size → ix (el a₀ i) ≤ ix (el a₀ j)
theorem SG.ixle (h : SG a₀ b pd lo hi st) (hx : IxUp ix a₀) {i j : Nat} (hi' : i < hi) (hj : hi ≤ j) (hz : lo + j < a₀.size) : ix (el (arrOf st) (lo + i)) ≤ ix (el (arrOf st) (lo + j)) := by
  obtain ⟨q, hq, e⟩ := h.mid i hi'
  rw [el_congr e, el_congr (h.high (lo + j) (by omega))]
  exact hx _ _ (by omega) hz
theorem SG.at (h : SG a₀ b pd lo hi st) (h0 : KeysOf κ a₀) {i : Nat} (hi' : i < a₀.size) : ∃ x q, (arrOf st)[i]? = some (x, q) ∧ κ.keyOf x = some (ky κ (el (arrOf st) i)) := by
  have hz : i < (arrOf st).size := by rw [h.size]; exact hi'
  have hm : (arrOf st)[i] ∈ a₀.toList := (Array.perm_iff_toList_perm.mp h.perm).mem_iff.mp (by simp)
  obtain ⟨a, ha⟩ := h0 _ hm
  have e : (arrOf st)[i]? = some (arrOf st)[i] := getElem?_pos _ i hz
  refine ⟨(arrOf st)[i].1, (arrOf st)[i].2, e, ?_⟩
  unfold ky el
  rw [e]
  show κ.keyOf (arrOf st)[i].1 = some ((κ.keyOf (arrOf st)[i].1).getD κ.dflt)
  rw [ha]
  rfl
end
section
variable {prog : Program} {w : World} {A : Around} {E : Value → Shared → Prop} {s : Shared} {a₀ b : Array Keyed} {pd : Array (Nat × Nat × Nat)} {lo hi : Nat} {st : SortSt} {κ : PyProof.Rows.KeyKind} {ix : Keyed → Nat}
theorem wpS_ltG {Q : Option Bool → SortSt → Prop} (hO : κ.OneLt) (h0 : KeysOf κ a₀) (hB : SG a₀ b pd lo hi st) {i j : Nat} (hi' : i < a₀.size) (hj : j < a₀.size)
    (h : Q (some (κ.blt (ky κ (el (arrOf st) i)) (ky κ (el (arrOf st) j)))) st) : wpS (model prog w) A E s (ltAt' i j) Q st := by
  obtain ⟨x, p, e1, k1⟩ := hB.at h0 hi'
  obtain ⟨y, q, e2, k2⟩ := hB.at h0 hj
  exact wpS_ltAtK hO hB.kind e1 e2 k1 k2 h
end
end Mine

end
section
namespace Mine
section
variable {prog : Program} {w : World} {A : Around} {E : Value → Shared → Prop} {s : Shared} {a₀ b : Array Keyed} {pd : Array (Nat × Nat × Nat)} {lo hi : Nat} {st : SortSt} {κ : PyProof.Rows.KeyKind} {ix : Keyed → Nat}
theorem wpS_binG {n ok : Nat} {Q : Bool → SortSt → Prop} (hO : κ.OneLt) (h0 : KeysOf κ a₀) (hx : IxUp ix a₀) (hn : lo + n ≤ a₀.size) (ho1 : 1 ≤ ok) (hok : ok ≤ n) (hB : SG a₀ b pd lo ok st) (hs : AscR κ ix (arrOf st) lo ok)
    (h : ∀ st', SG a₀ b pd lo n st' → AscR κ ix (arrOf st') lo n → Q true st') : wpS (model prog w) A E s (binarySort' lo n ok) Q st := by
  rw [binarySort'_eq]
  refine wpS_bind (wpS_mono (wpS_forRange (I := fun k c st' => c = (none, ()) ∧ SG a₀ b pd lo (min k n) st' ∧ AscR κ ix (arrOf st') lo (min k n))
    (Q := fun c st' => c = (none, ()) ∧ SG a₀ b pd lo n st' ∧ AscR κ ix (arrOf st') lo n) ?step ?fin ?init) ?post)
  case post =>
    rintro c st' ⟨rfl, hB', hs'⟩
    exact wpS_pure (h st' hB' hs')
  case init =>
    rw [show min (max ok 1) n = ok by omega]
    exact ⟨rfl, hB, hs⟩
  case fin =>
    rintro c st' ⟨hc, hB', hs'⟩
    rw [show min (max (max ok 1) n) n = n by omega] at hB' hs'
    exact ⟨hc, hB', hs'⟩
  case step =>
    rintro k c st' hak hkn ⟨rfl, hB', hs'⟩
    rw [show min k n = k by omega] at hB' hs'
    have hk : lo + k < a₀.size := by omega
    refine wpS_bind (wpS_mono (wpS_forRange (I := fun x c st'' => st'' = st' ∧ ∃ l r, c = (none, l, r) ∧ l ≤ r ∧ r ≤ k ∧ r - l ≤ k - x ∧
        (∀ i, i < l → κ.kle (ky κ (el (arrOf st') (lo + i))) (ky κ (el (arrOf st') (lo + k)))) ∧ (∀ i, r ≤ i → i < k → κ.klt (ky κ (el (arrOf st') (lo + k))) (ky κ (el (arrOf st') (lo + i)))))
      (Q := fun c st'' => st'' = st' ∧ ∃ l r, c = (none, l, r) ∧ l ≤ k ∧
        (∀ i, i < l → κ.kle (ky κ (el (arrOf st') (lo + i))) (ky κ (el (arrOf st') (lo + k)))) ∧ (∀ i, l ≤ i → i < k → κ.klt (ky κ (el (arrOf st') (lo + k))) (ky κ (el (arrOf st') (lo + i))))) ?istep ?ifin ?iinit) ?ipost)
    case iinit => exact ⟨rfl, 0, k, rfl, by omega, by omega, by omega, fun i hi => by omega, fun i h1 h2 => by omega⟩
    case ifin =>
      rintro c st'' ⟨rfl, l, r, rfl, hlr, hrk, hm, hlo, hhi⟩
      have : l = r := by omega
      subst this
      exact ⟨rfl, l, l, rfl, hrk, hlo, hhi⟩
    case istep =>
      rintro x c st'' _ hxk ⟨rfl, l, r, rfl, hlr, hrk, hm, hlo, hhi⟩
      dsimp only
      by_cases hge : l ≥ r
      · rw [if_pos hge]
        have : l = r := by omega
        subst this
        exact wpS_pure ⟨rfl, l, l, rfl, hrk, hlo, hhi⟩
      · rw [if_neg hge]
        refine wpS_bind (wpS_ltG hO h0 hB' hk (by omega) ?_)
        have kl : ∀ i j, i ≤ j → j < k → κ.kle (ky κ (el (arrOf st'') (lo + i))) (ky κ (el (arrOf st'') (lo + j))) := by
          intro i j hij hj
          rcases Nat.lt_or_eq_of_le hij with q | q
          · exact (hs' i j q hj).kle
          · rw [q]; exact KeyOrd.kle_refl _
        cases hless : κ.blt (ky κ (el (arrOf st'') (lo + k))) (ky κ (el (arrOf st'') (lo + (l + r) / 2))) with
        | true =>
          simp only [if_true]
          refine wpS_pure ⟨rfl, l, (l + r) / 2, rfl, by omega, by omega, by omega, hlo, fun i h1 h2 => ?_⟩
          exact KeyOrd.klt_of_klt_of_kle hless (kl _ _ h1 h2)
        | false =>
          simp only [Bool.false_eq_true, if_false]
          refine wpS_pure ⟨rfl, (l + r) / 2 + 1, r, rfl, by omega, by omega, by omega, fun i h1 => ?_, hhi⟩
          exact KeyOrd.kle_trans (kl i ((l + r) / 2) (by omega) (by omega)) hless
    case ipost =>
      rintro c st'' ⟨rfl, l, r, rfl, hlk, hlo, hhi⟩
      show wpS _ _ _ _ (do moveDown' (lo + k) (lo + l); pure (ForInStep.yield (none, ()))) _ _
      rw [moveDown'_eq]
      rw [show min (k + 1) n = k + 1 by omega]
      refine wpS_bind (wpS_modify (wpS_pure ⟨rfl, hB'.grow.bub (by omega) hlk (by omega), ?_⟩))
      have hks : lo + k < (arrOf st'').size := by rw [hB'.size]; exact hk
      intro i j hij hj
      show Rk κ ix (el (bubble (arrOf st'') (lo + k) (lo + k - (lo + l))) (lo + i)) (el (bubble (arrOf st'') (lo + k) (lo + k - (lo + l))) (lo + j))
      rw [el_bub hks (by omega), el_bub hks (by omega)]
      repeat' split
      all_goals first
        | (exfalso; omega)
        | exact Rk.of (hlo _ (by omega)) (hB'.ixle hx (by omega) (Nat.le_refl _) hk)
        | exact .inl (hhi _ (by omega) (by omega))
        | exact hs' _ _ (by omega) (by omega)
/-- one item more behind a run that is in order -/
theorem AscR.more {xs : Array Keyed} {x : Nat} (hs : AscR κ ix xs lo x) (h1 : 1 ≤ x) (hle : κ.kle (ky κ (el xs (lo + (x - 1)))) (ky κ (el xs (lo + x)))) (hi : ∀ i, i < x → ix (el xs (lo + i)) ≤ ix (el xs (lo + x))) : AscR κ ix xs lo (x + 1) := by
  intro i j hij hj
  by_cases c : j < x
  · exact hs i j hij c
  · have : j = x := by omega
    subst this
    by_cases d : i = j - 1
    · subst d; exact Rk.of hle (hi _ (by omega))
    · exact Rk.of (KeyOrd.kle_trans (hs i (j - 1) (by omega) (by omega)).kle hle) (hi _ (by omega))
/-- a falling run: blocks of equal keys, all but the last one turned round -/
def DB (κ : PyProof.Rows.KeyKind) (ix : Keyed → Nat) (xs : Array Keyed) (lo m q : Nat) : Prop :=
  q + 1 ≤ m ∧ (∀ i j, i < j → j < m - (q + 1) → Rk κ ix (el xs (lo + j)) (el xs (lo + i))) ∧
    (∀ i j, i < m - (q + 1) → m - (q + 1) ≤ j → j < m → κ.klt (ky κ (el xs (lo + j))) (ky κ (el xs (lo + i)))) ∧
    (∀ i j, m - (q + 1) ≤ i → i < j → j < m → ky κ (el xs (lo + i)) = ky κ (el xs (lo + j)) ∧ ix (el xs (lo + i)) ≤ ix (el xs (lo + j)))
theorem DB.flip {xs : Array Keyed} {m q : Nat} (h : DB κ ix xs lo m q) (hz : lo + m ≤ xs.size) : DescR κ ix (mirror xs (lo + (m - (q + 1))) (lo + m) ((lo + m - (lo + (m - (q + 1)))) / 2)) lo m := by
  obtain ⟨h1, h2, h3, h4⟩ := h
  intro i j hij hj
  rw [el_mir hz, el_mir hz]
  repeat' split
  · have e := h4 (m - (q + 1) + m - 1 - j) (m - (q + 1) + m - 1 - i) (by omega) (by omega) (by omega)
    exact .inr ⟨e.1, e.2⟩
  · exact .inl (h3 _ _ (by omega) (by omega) (by omega))
  · exfalso; omega
  · exact h2 _ _ hij (by omega)
theorem DB.flat {xs : Array Keyed} {m : Nat} (h : DB κ ix xs lo m 0) : DescR κ ix xs lo m := by
  obtain ⟨h1, h2, h3, h4⟩ := h
  intro i j hij hj
  by_cases c : j < m - (0 + 1)
  · exact h2 _ _ hij c
  · exact .inl (h3 _ _ (by omega) (by omega) hj)
theorem DescR.up {xs : Array Keyed} {m : Nat} (h : DescR κ ix xs lo m) (hz : lo + m ≤ xs.size) : AscR κ ix (mirror xs (lo + 0) (lo + m) ((lo + m - (lo + 0)) / 2)) lo m := by
  intro i j hij hj
  rw [el_mir hz, el_mir hz, if_pos (by omega), if_pos (by omega)]
  exact h _ _ (by omega) (by omega)
theorem DescR.next {xs : Array Keyed} {x : Nat} (h : DescR κ ix xs lo x) (h1 : 1 ≤ x) (hlt : κ.klt (ky κ (el xs (lo + x))) (ky κ (el xs (lo + (x - 1))))) : DB κ ix xs lo (x + 1) 0 := by
  refine ⟨by omega, fun i j hij hj => h i j hij (by omega), fun i j hi hj hj' => ?_, fun i j hi hij hj => by omega⟩
  have : j = x := by omega
  subst this
  by_cases c : i = j - 1
  · subst c; exact hlt
  · exact KeyOrd.klt_of_klt_of_kle hlt (h i (j - 1) (by omega) (by omega)).kle
theorem DB.same {xs : Array Keyed} {x q : Nat} (h : DB κ ix xs lo x q) (e : ky κ (el xs (lo + (x - 1))) = ky κ (el xs (lo + x))) (hi : ∀ i, i < x → ix (el xs (lo + i)) ≤ ix (el xs (lo + x))) : DB κ ix xs lo (x + 1) (q + 1) := by
  obtain ⟨h1, h2, h3, h4⟩ := h
  refine ⟨by omega, fun i j hij hj => h2 i j hij (by omega), fun i j a1 a2 a3 => ?_, fun i j a1 a2 a3 => ?_⟩
  · by_cases c : j < x
    · exact h3 i j (by omega) (by omega) c
    · have : j = x := by omega
      subst this
      rw [← e]
      exact h3 i (j - 1) (by omega) (by omega) (by omega)
  · by_cases c : j < x
    · exact h4 i j (by omega) a2 c
    · have : j = x := by omega
      subst this
      refine ⟨?_, hi _ a2⟩
      rw [← e]
      by_cases d : i = j - 1
      · rw [d]
      · exact (h4 i (j - 1) (by omega) (by omega) (by omega)).1
set_option maxHeartbeats 4000000 in
theorem wpS_runG {nrem : Nat} {Q : Option Nat → SortSt → Prop} (hO : κ.OneLt) (h0 : KeysOf κ a₀) (hx : IxUp ix a₀) (hn : lo + nrem ≤ a₀.size) (h1 : 1 ≤ nrem) (hB : SG a₀ b pd lo 0 st)
    (h : ∀ m st', SG a₀ b pd lo m st' → 1 ≤ m → m ≤ nrem → AscR κ ix (arrOf st') lo m → Q (some m) st') :
    wpS (model prog w) A E s (countRun' lo nrem) Q st := by
  rw [countRun'_eq]
  -- the rising loop
  refine wpS_bind (wpS_mono (wpS_forRange (I := fun x c st' => st' = st ∧ c = (none, x) ∧ AscR κ ix (arrOf st) lo x ∧ SG a₀ b pd lo x st)
    (Q := fun c st' => st' = st ∧ ∃ n, c = (none, n) ∧ 1 ≤ n ∧ n ≤ nrem ∧ AscR κ ix (arrOf st) lo n ∧ SG a₀ b pd lo n st ∧ (n = nrem ∨ κ.klt (ky κ (el (arrOf st) (lo + n))) (ky κ (el (arrOf st) (lo + (n - 1)))))) ?step ?fin ?init) ?post)
  case init => exact ⟨rfl, rfl, fun i j hij hj => by omega, hB.grow⟩
  case fin =>
    rintro c st' ⟨rfl, rfl, hs', hB'⟩
    rw [show max 1 nrem = nrem by omega] at hs' hB' ⊢
    exact ⟨rfl, nrem, rfl, h1, Nat.le_refl _, hs', hB', .inl rfl⟩
  case step =>
    rintro x c st' hax hxn ⟨rfl, rfl, hs', hB'⟩
    dsimp only
    rw [Nat.add_sub_assoc hax]
    refine wpS_bind (wpS_ltG hO h0 hB' (by omega) (by omega) ?_)
    cases hless : κ.blt (ky κ (el (arrOf st') (lo + x))) (ky κ (el (arrOf st') (lo + (x - 1)))) with
    | true =>
      simp only [if_true]
      exact wpS_pure ⟨rfl, x, rfl, hax, by omega, hs', hB', .inr hless⟩
    | false =>
      simp only [Bool.false_eq_true, if_false]
      exact wpS_pure ⟨rfl, rfl, hs'.more hax hless (fun i hi => hB'.ixle hx hi (Nat.le_refl _) (by omega)), hB'.grow⟩
  case post =>
    rintro c st' ⟨rfl, n, rfl, hn1, hn2, hsn, hBn, hor⟩
    dsimp only
    by_cases hnn : n = nrem
    · rw [if_pos (by simpa using hnn)]
      exact wpS_pure (h n _ hBn hn1 hn2 hsn)
    · rw [if_neg (by simpa using hnn)]
      have hlt := hor.resolve_left hnn
      refine Classical.byCases (p := n > 1) (fun hgt => ?ca) (fun hgt => ?cb)
      case' ca =>
        rw [if_pos hgt, Nat.add_sub_assoc hn1]
        refine wpS_bind (wpS_ltG hO h0 hBn (by omega) (by omega) ?_)
        refine Classical.byCases (p := κ.klt (ky κ (el (arrOf st') lo)) (ky κ (el (arrOf st') (lo + (n - 1))))) (fun hrose => ?cx) (fun hrose => ?cy)
        case' cx =>
          rw [show κ.blt (ky κ (el (arrOf st') lo)) (ky κ (el (arrOf st') (lo + (n - 1)))) = true from hrose]
          simp only [if_true]
          exact wpS_pure (h n _ hBn hn1 hn2 hsn)
        case' cy =>
          rw [show κ.blt (ky κ (el (arrOf st') lo)) (ky κ (el (arrOf st') (lo + (n - 1)))) = false from by simpa [KeyOrd.klt] using hrose]
          simp only [Bool.false_eq_true, if_false]
          rw [reverseSlice'_eq]
          refine wpS_bind (wpS_modify ?_)
          have hz : lo + n ≤ (arrOf st').size := by rw [hBn.size]; omega
          have hall : ∀ i, i < n → ky κ (el (arrOf st') (lo + i)) = ky κ (el (arrOf st') (lo + (n - 1))) := by
            intro i hi
            have k0 : κ.kle (ky κ (el (arrOf st') lo)) (ky κ (el (arrOf st') (lo + i))) := by
              by_cases c : i = 0
              · subst c; exact KeyOrd.kle_refl _
              · exact (hsn 0 i (by omega) hi).kle
            have k1 : κ.kle (ky κ (el (arrOf st') (lo + i))) (ky κ (el (arrOf st') (lo + (n - 1)))) := by
              by_cases c : i = n - 1
              · subst c; exact KeyOrd.kle_refl _
              · exact (hsn i (n - 1) (by omega) (by omega)).kle
            exact KeyOrd.kle_antisymm k1 (KeyOrd.kle_trans (KeyOrd.kle_of_not_klt hrose) k0)
          have hD : DB κ ix (arrOf (setArr st' (mirror (arrOf st') (lo + 0) (lo + n) ((lo + n - (lo + 0)) / 2)))) lo (n + 1) 0 := by
            change DB κ ix (mirror (arrOf st') (lo + 0) (lo + n) ((lo + n - (lo + 0)) / 2)) lo (n + 1) 0
            refine DescR.next ?_ hn1 ?_
            · have hb : DB κ ix (arrOf st') lo n (n - 1) := by
                refine ⟨by omega, fun i j a1 a2 => by omega, fun i j a1 a2 => by omega, fun i j a1 a2 a3 => ?_⟩
                refine ⟨(hall i (by omega)).trans (hall j a3).symm, ?_⟩
                rcases hsn i j a2 a3 with c | c
                · exfalso
                  have e := (hall i (by omega)).trans (hall j a3).symm
                  rw [e] at c
                  have := κ.irrefl (ky κ (el (arrOf st') (lo + j)))
                  rw [show κ.blt (ky κ (el (arrOf st') (lo + j))) (ky κ (el (arrOf st') (lo + j))) = true from c] at this
                  cases this
                · exact c.2
              have hf := hb.flip hz
              rw [show n - (n - 1 + 1) = 0 by omega] at hf
              exact hf
            · rw [el_mir hz, el_mir hz, if_neg (by omega), if_pos (by omega), hall (0 + n - 1 - (n - 1)) (by omega)]
              exact hlt
          have hB1 : SG a₀ b pd lo (n + 1) (setArr st' (mirror (arrOf st') (lo + 0) (lo + n) ((lo + n - (lo + 0)) / 2))) := (hBn.mir (by omega) (Nat.le_refl _)).grow
          change wpS (model prog w) A E s _ Q (setArr st' (mirror (arrOf st') (lo + 0) (lo + n) ((lo + n - (lo + 0)) / 2)))
          generalize setArr st' (mirror (arrOf st') (lo + 0) (lo + n) ((lo + n - (lo + 0)) / 2)) = st1 at hB1 hD ⊢
      case' cb =>
        rw [if_neg hgt]
        have hD : DB κ ix (arrOf st') lo (n + 1) 0 := DescR.next (fun i j a1 a2 => by omega) hn1 hlt
        have hB1 : SG a₀ b pd lo (n + 1) st' := hBn.grow
        generalize st' = st1 at hB1 hD ⊢
      all_goals (
        refine wpS_bind (wpS_lift (wpAny_rule ⟨rfl, ?_⟩))
        -- the falling loop
        refine wpS_bind (wpS_mono (wpS_forRange (I := fun x c st2 => ∃ q, c = (none, x, q) ∧ SG a₀ b pd lo x st2 ∧ DB κ ix (arrOf st2) lo x q)
          (Q := fun c st2 => ∃ m q, c = (none, m, q) ∧ m ≤ nrem ∧ SG a₀ b pd lo m st2 ∧ DB κ ix (arrOf st2) lo m q) ?_ ?_ ⟨0, rfl, hB1, hD⟩) ?_)
        · rintro x c st2 hax hxn ⟨q, rfl, hB2, hD2⟩
          have hq := hD2.1
          have hz2 : lo + x ≤ (arrOf st2).size := by rw [hB2.size]; omega
          dsimp only
          rw [Nat.add_sub_assoc (show 1 ≤ x by omega), Nat.add_sub_assoc hq]
          refine wpS_bind (wpS_ltG hO h0 hB2 (by omega) (by omega) ?_)
          cases hless : κ.blt (ky κ (el (arrOf st2) (lo + x))) (ky κ (el (arrOf st2) (lo + (x - 1)))) with
          | true =>
            simp only [if_true]
            by_cases hq0 : q > 0
            · rw [if_pos hq0, reverseSlice'_eq]
              refine wpS_bind (wpS_modify (wpS_pure ⟨0, rfl, (hB2.mir (by omega) (Nat.le_refl _)).grow, ?_⟩))
              refine DescR.next (hD2.flip hz2) (by omega) ?_
              rw [el_mir hz2, el_mir hz2, if_neg (by omega), if_pos (by omega)]
              by_cases d : x - (q + 1) + x - 1 - (x - 1) = x - 1
              · rw [d]; exact hless
              · rw [(hD2.2.2.2 (x - (q + 1) + x - 1 - (x - 1)) (x - 1) (by omega) (by omega) (by omega)).1]; exact hless
            · rw [if_neg hq0]
              have : q = 0 := by omega
              subst this
              exact wpS_pure ⟨0, rfl, hB2.grow, DescR.next hD2.flat (by omega) hless⟩
          | false =>
            simp only [Bool.false_eq_true, if_false]
            refine wpS_bind (wpS_ltG hO h0 hB2 (by omega) (by omega) ?_)
            cases hmore : κ.blt (ky κ (el (arrOf st2) (lo + (x - 1)))) (ky κ (el (arrOf st2) (lo + x))) with
            | true =>
              simp only [if_true]
              exact wpS_pure ⟨x, q, rfl, by omega, hB2, hD2⟩
            | false =>
              simp only [Bool.false_eq_true, if_false]
              exact wpS_pure ⟨q + 1, rfl, hB2.grow, hD2.same (κ.total _ _ hmore hless) fun i hi => hB2.ixle hx hi (Nat.le_refl _) (by omega)⟩
        · rintro c st2 ⟨q, rfl, hB2, hD2⟩
          rw [show max (n + 1) nrem = nrem by omega] at hB2 hD2 ⊢
          exact ⟨nrem, q, rfl, Nat.le_refl _, hB2, hD2⟩
        · rintro c st2 ⟨m, q, rfl, hm, hB2, hD2⟩
          have hq := hD2.1
          have hz2 : lo + m ≤ (arrOf st2).size := by rw [hB2.size]; omega
          dsimp only
          rw [Nat.add_sub_assoc hq]
          by_cases hq0 : q > 0
          case' pos =>
            rw [if_pos hq0, reverseSlice'_eq]
            refine wpS_bind (wpS_modify ?_)
            have hE : DescR κ ix (arrOf (setArr st2 (mirror (arrOf st2) (lo + (m - (q + 1))) (lo + m) ((lo + m - (lo + (m - (q + 1)))) / 2)))) lo m := hD2.flip hz2
            have hB3 := hB2.mir (by omega) (i := m - (q + 1)) (Nat.le_refl m)
            generalize setArr st2 (mirror (arrOf st2) (lo + (m - (q + 1))) (lo + m) ((lo + m - (lo + (m - (q + 1)))) / 2)) = st3 at hB3 hE ⊢
          case' neg =>
            rw [if_neg hq0]
            have : q = 0 := by omega
            subst this
            have hE := hD2.flat
            have hB3 := hB2
            generalize st2 = st3 at hB3 hE ⊢
          all_goals (
            have hz3 : lo + m ≤ (arrOf st3).size := by rw [hB3.size]; omega
            rw [reverseSlice'_eq]
            refine wpS_bind (wpS_modify ?_)
            have hU : AscR κ ix (arrOf (setArr st3 (mirror (arrOf st3) (lo + 0) (lo + m) ((lo + m - (lo + 0)) / 2)))) lo m := hE.up hz3
            have hB4 := hB3.mir (by omega) (i := 0) (Nat.le_refl m)
            change wpS (model prog w) A E s _ Q (setArr st3 (mirror (arrOf st3) (lo + 0) (lo + m) ((lo + m - (lo + 0)) / 2)))
            generalize setArr st3 (mirror (arrOf st3) (lo + 0) (lo + m) ((lo + m - (lo + 0)) / 2)) = st4 at hB4 hU ⊢
            refine wpS_bind (wpS_mono (wpS_forRange (I := fun x c st5 => st5 = st4 ∧ c = (none, x) ∧ AscR κ ix (arrOf st4) lo x ∧ SG a₀ b pd lo x st4)
              (Q := fun c st5 => st5 = st4 ∧ ∃ m', c = (none, m') ∧ 1 ≤ m' ∧ m' ≤ nrem ∧ AscR κ ix (arrOf st4) lo m' ∧ SG a₀ b pd lo m' st4) ?_ ?_ ⟨rfl, rfl, hU, hB4⟩) ?_)
            · rintro x c st5 hax hxn ⟨rfl, rfl, hs5, hB5⟩
              dsimp only
              rw [Nat.add_sub_assoc (show 1 ≤ x by omega)]
              refine wpS_bind (wpS_ltG hO h0 hB5 (by omega) (by omega) ?_)
              cases hless : κ.blt (ky κ (el (arrOf st5) (lo + x))) (ky κ (el (arrOf st5) (lo + (x - 1)))) with
              | true =>
                simp only [if_true]
                exact wpS_pure ⟨rfl, x, rfl, by omega, by omega, hs5, hB5⟩
              | false =>
                simp only [Bool.false_eq_true, if_false]
                exact wpS_pure ⟨rfl, rfl, hs5.more (by omega) hless (fun i hi => hB5.ixle hx hi (Nat.le_refl _) (by omega)), hB5.grow⟩
            · rintro c st5 ⟨rfl, rfl, hs5, hB5⟩
              rw [show max m nrem = nrem by omega] at hs5 hB5 ⊢
              exact ⟨rfl, nrem, rfl, h1, Nat.le_refl _, hs5, hB5⟩
            · rintro c st5 ⟨rfl, m', rfl, hm1, hm2, hs5, hB5⟩
              exact wpS_pure (h m' _ hB5 hm1 hm2 hs5)))
end
end Mine

end
section
namespace Mine
def gallop' : Bool → Keyed → Array Keyed → Nat → Nat → Nat → StateT SortSt Sem (Option Nat) := sortPriv% PySem.Builtin.gallop
def kz (p : Keyed) : Int := numOf p.1
def IntP (p : Keyed) : Prop := ∃ n t, p.1 = .int n t
def bey (left : Bool) (key p : Keyed) : Bool := if left then decide (kz p < kz key) else !decide (kz key < kz p)
section
variable {prog : Program} {w : World} {A : Around} {E : Value → Shared → Prop} {s : Shared} {st : SortSt}
theorem wpS_lt {x y : Keyed} {Q : Option Bool → SortSt → Prop} (hk : kindOf st = oneType') (hx : IntP x) (hy : IntP y) (h : Q (some (decide (kz x < kz y))) st) : wpS (model prog w) A E s (lt' x y) Q st := by
  obtain ⟨x1, x2⟩ := x
  obtain ⟨y1, y2⟩ := y
  obtain ⟨a, t, rfl⟩ := hx
  obtain ⟨b, u, rfl⟩ := hy
  rw [lt'_eq]
  refine wpS_bind (wpS_get ?_)
  rw [hk, keyLt'_oneType]
  refine wpS_bind (wpS_lift (wpAny_attempt (oneLt_int ⟨rfl, ?_⟩)))
  exact wpS_pure h
theorem wpS_elem {xs : Array Keyed} {i : Nat} {Q : Keyed → SortSt → Prop} (hi : i < xs.size) (h : Q (el xs i) st) : wpS (model prog w) A E s (elem' xs i) Q st := by
  rw [elem'_eq]
  have e : xs[i]? = some xs[i] := getElem?_pos xs i hi
  have e2 : el xs i = xs[i] := by unfold el; rw [e]; rfl
  rw [e]
  rw [e2] at h
  exact wpS_pure h
theorem wpS_bey {left : Bool} {key : Keyed} {arr : Array Keyed} {i : Nat} {Q : Option Bool → SortSt → Prop} (hk : kindOf st = oneType') (hkey : IntP key) (hz : i < arr.size) (hi : IntP (el arr i))
    (h : Q (some (bey left key (el arr i))) st) : wpS (model prog w) A E s (do let x ← elem' arr i; if left = true then lt' x key else do let r ← lt' key x; pure (Option.map (fun x => !x) r)) Q st := by
  refine wpS_bind (wpS_elem hz ?_)
  cases left with
  | true =>
    rw [if_pos rfl]
    exact wpS_lt hk hi hkey h
  | false =>
    rw [if_neg (by decide)]
    exact wpS_bind (wpS_lt hk hkey hi (wpS_pure h))
theorem bey_mono {left : Bool} {key p q : Keyed} (h : kz p ≤ kz q) (hb : bey left key q = true) : bey left key p = true := by
  unfold bey at hb ⊢
  cases left <;> simp at hb ⊢ <;> omega
theorem bey_mono' {left : Bool} {key p q : Keyed} (h : kz p ≤ kz q) (hb : bey left key p = false) : bey left key q = false := by
  unfold bey at hb ⊢
  cases left <;> simp at hb ⊢ <;> omega
set_option maxHeartbeats 4000000 in
theorem wpS_gallop {left : Bool} {key : Keyed} {arr : Array Keyed} {base n hint : Nat} {Q : Option Nat → SortSt → Prop} (hk : kindOf st = oneType') (hkey : IntP key) (hz : base + n ≤ arr.size) (hi : ∀ i, i < n → IntP (el arr (base + i)))
    (hs : ∀ i j, i ≤ j → j < n → kz (el arr (base + i)) ≤ kz (el arr (base + j))) (hh : hint < n)
    (h : ∀ k, k ≤ n → (∀ i, i < k → bey left key (el arr (base + i)) = true) → (∀ i, k ≤ i → i < n → bey left key (el arr (base + i)) = false) → Q (some k) st) :
    wpS (model prog w) A E s (gallop' left key arr base n hint) Q st := by
  unfold gallop'
  refine wpS_bind ?_
  refine wpS_bey (i := base + hint) hk hkey (by omega) (hi _ hh) ?_
  cases hb : bey left key (el arr (base + hint)) with
  | true =>
    dsimp only
    rw [if_pos rfl]
    refine wpS_bind (wpS_mono (wpS_forRange (I := fun x c st' => st' = st ∧ ∃ la of, c = (none, la, of) ∧ x + 1 ≤ of ∧ la < of ∧ hint + la < n ∧ bey left key (el arr (base + (hint + la))) = true)
      (Q := fun c st' => st' = st ∧ ∃ la of, c = (none, la, of) ∧ la < of ∧ hint + la < n ∧ bey left key (el arr (base + (hint + la))) = true ∧ (of ≥ n - hint ∨ (hint + of < n ∧ bey left key (el arr (base + (hint + of))) = false))) ?_ ?_ ⟨rfl, 0, 1, rfl, by omega, by omega, by omega, hb⟩) ?_)
    · rintro x c st' _ hxn ⟨rfl, la, of, rfl, h1, h2, h3, h4⟩
      dsimp only
      by_cases c1 : of ≥ n - hint
      · rw [if_pos c1]
        exact wpS_pure ⟨rfl, la, of, rfl, h2, h3, h4, .inl c1⟩
      · rw [if_neg c1]
        refine wpS_bind (wpS_bey (i := base + (hint + of)) hk hkey (by omega) (hi _ (by omega)) ?_)
        cases hb2 : bey left key (el arr (base + (hint + of))) with
        | true =>
          simp only [Bool.not_true, Bool.false_eq_true, if_false]
          exact wpS_pure ⟨rfl, of, 2 * of + 1, rfl, by omega, by omega, by omega, hb2⟩
        | false =>
          simp only [Bool.not_false, if_true]
          exact wpS_pure ⟨rfl, la, of, rfl, h2, h3, h4, .inr ⟨by omega, hb2⟩⟩
    · rintro c st' ⟨rfl, la, of, rfl, h1, h2, h3, h4⟩
      exact ⟨rfl, la, of, rfl, h2, h3, h4, .inl (by omega)⟩
    · rintro c st' ⟨rfl, la, of, rfl, h2, h3, h4, h5⟩
      dsimp only
      refine wpS_bind (wpS_mono (wpS_forRange (I := fun x c st'' => st'' = st' ∧ ∃ lo hi, c = (none, lo, hi) ∧ lo ≤ hi ∧ hi ≤ n ∧ hi - lo ≤ n - x ∧ (∀ i, i < lo → bey left key (el arr (base + i)) = true) ∧ (∀ i, hi ≤ i → i < n → bey left key (el arr (base + i)) = false))
        (Q := fun c st'' => st'' = st' ∧ ∃ lo hi, c = (none, lo, hi) ∧ hi ≤ n ∧ (∀ i, i < hi → bey left key (el arr (base + i)) = true) ∧ (∀ i, hi ≤ i → i < n → bey left key (el arr (base + i)) = false)) ?_ ?_ ⟨rfl, _, _, rfl, by omega, by omega, by omega, ?_, ?_⟩) ?_)
      · rintro x c st'' _ hxn ⟨rfl, lo, hi', rfl, k1, k2, k3, k4, k5⟩
        dsimp only
        by_cases c1 : lo ≥ hi'
        · rw [if_pos c1]
          have : lo = hi' := by omega
          subst this
          exact wpS_pure ⟨rfl, lo, lo, rfl, k2, k4, k5⟩
        · rw [if_neg c1]
          refine wpS_bind (wpS_bey (i := base + (lo + (hi' - lo) / 2)) hk hkey (by omega) (hi _ (by omega)) ?_)
          cases hb2 : bey left key (el arr (base + (lo + (hi' - lo) / 2))) with
          | true =>
            simp only [if_true]
            exact wpS_pure ⟨rfl, _, hi', rfl, by omega, k2, by omega, fun i q => bey_mono (hs _ _ (by omega) (by omega)) hb2, k5⟩
          | false =>
            simp only [Bool.false_eq_true, if_false]
            exact wpS_pure ⟨rfl, lo, _, rfl, by omega, by omega, by omega, k4, fun i q q' => bey_mono' (hs _ _ q q') hb2⟩
      · rintro c st'' ⟨rfl, lo, hi', rfl, k1, k2, k3, k4, k5⟩
        have : lo = hi' := by omega
        subst this
        exact ⟨rfl, lo, lo, rfl, k2, k4, k5⟩
      · intro i q
        exact bey_mono (hs _ _ (by omega) h3) h4
      · intro i q q'
        rcases h5 with h5 | h5
        · omega
        · exact bey_mono' (hs _ _ (by omega) q') h5.2
      · rintro c st'' ⟨rfl, lo, hi', rfl, k2, k4, k5⟩
        exact wpS_pure (h hi' k2 k4 k5)
  | false =>
    dsimp only
    rw [if_neg (by decide)]
    refine wpS_bind (wpS_mono (wpS_forRange (I := fun x c st' => st' = st ∧ ∃ la of, c = (none, la, of) ∧ x + 1 ≤ of ∧ la < of ∧ la ≤ hint ∧ bey left key (el arr (base + (hint - la))) = false)
      (Q := fun c st' => st' = st ∧ ∃ la of, c = (none, la, of) ∧ la < of ∧ la ≤ hint ∧ bey left key (el arr (base + (hint - la))) = false ∧ (of ≥ hint + 1 ∨ (of ≤ hint ∧ bey left key (el arr (base + (hint - of))) = true))) ?_ ?_ ⟨rfl, 0, 1, rfl, by omega, by omega, by omega, hb⟩) ?_)
    · rintro x c st' _ hxn ⟨rfl, la, of, rfl, h1, h2, h3, h4⟩
      dsimp only
      by_cases c1 : of ≥ hint + 1
      · rw [if_pos c1]
        exact wpS_pure ⟨rfl, la, of, rfl, h2, h3, h4, .inl c1⟩
      · rw [if_neg c1]
        refine wpS_bind (wpS_bey (i := base + (hint - of)) hk hkey (by omega) (hi _ (by omega)) ?_)
        cases hb2 : bey left key (el arr (base + (hint - of))) with
        | false =>
          simp only [Bool.false_eq_true, if_false]
          exact wpS_pure ⟨rfl, of, 2 * of + 1, rfl, by omega, by omega, by omega, hb2⟩
        | true =>
          simp only [if_true]
          exact wpS_pure ⟨rfl, la, of, rfl, h2, h3, h4, .inr ⟨by omega, hb2⟩⟩
    · rintro c st' ⟨rfl, la, of, rfl, h1, h2, h3, h4⟩
      exact ⟨rfl, la, of, rfl, h2, h3, h4, .inl (by omega)⟩
    · rintro c st' ⟨rfl, la, of, rfl, h2, h3, h4, h5⟩
      dsimp only
      refine wpS_bind (wpS_mono (wpS_forRange (I := fun x c st'' => st'' = st' ∧ ∃ lo hi, c = (none, lo, hi) ∧ lo ≤ hi ∧ hi ≤ n ∧ hi - lo ≤ n - x ∧ (∀ i, i < lo → bey left key (el arr (base + i)) = true) ∧ (∀ i, hi ≤ i → i < n → bey left key (el arr (base + i)) = false))
        (Q := fun c st'' => st'' = st' ∧ ∃ lo hi, c = (none, lo, hi) ∧ hi ≤ n ∧ (∀ i, i < hi → bey left key (el arr (base + i)) = true) ∧ (∀ i, hi ≤ i → i < n → bey left key (el arr (base + i)) = false)) ?_ ?_ ⟨rfl, _, _, rfl, by omega, by omega, by omega, ?_, ?_⟩) ?_)
      · rintro x c st'' _ hxn ⟨rfl, lo, hi', rfl, k1, k2, k3, k4, k5⟩
        dsimp only
        by_cases c1 : lo ≥ hi'
        · rw [if_pos c1]
          have : lo = hi' := by omega
          subst this
          exact wpS_pure ⟨rfl, lo, lo, rfl, k2, k4, k5⟩
        · rw [if_neg c1]
          refine wpS_bind (wpS_bey (i := base + (lo + (hi' - lo) / 2)) hk hkey (by omega) (hi _ (by omega)) ?_)
          cases hb2 : bey left key (el arr (base + (lo + (hi' - lo) / 2))) with
          | true =>
            simp only [if_true]
            exact wpS_pure ⟨rfl, _, hi', rfl, by omega, k2, by omega, fun i q => bey_mono (hs _ _ (by omega) (by omega)) hb2, k5⟩
          | false =>
            simp only [Bool.false_eq_true, if_false]
            exact wpS_pure ⟨rfl, lo, _, rfl, by omega, by omega, by omega, k4, fun i q q' => bey_mono' (hs _ _ q q') hb2⟩
      · rintro c st'' ⟨rfl, lo, hi', rfl, k1, k2, k3, k4, k5⟩
        have : lo = hi' := by omega
        subst this
        exact ⟨rfl, lo, lo, rfl, k2, k4, k5⟩
      · intro i q
        rcases h5 with h5 | h5
        · omega
        · exact bey_mono (hs _ _ (by omega) (by omega)) h5.2
      · intro i q q'
        exact bey_mono' (hs _ _ q q') h4
      · rintro c st'' ⟨rfl, lo, hi', rfl, k2, k4, k5⟩
        exact wpS_pure (h hi' k2 k4 k5)
end
end Mine

end
section
namespace Mine
def mergeLo' : Array Keyed → Array Keyed → StateT SortSt Sem (Array Keyed) := sortPriv% PySem.Builtin.mergeLo
abbrev kle (p q : Keyed) : Prop := kz p ≤ kz q
/-- a merge under way: O holds the first i of A and the first j of B -/
structure ML (A B O : List Keyed) (i j : Nat) : Prop where
  perm : O.Perm (A.take i ++ B.take j)
  srt : O.Pairwise kle
  bnd : ∀ x ∈ O, ∀ y, y ∈ A.drop i ∨ y ∈ B.drop j → kle x y
section
variable {A B O : List Keyed} {i j k : Nat}
theorem ML.swap (h : ML A B O i j) : ML B A O j i := ⟨h.perm.trans List.perm_append_comm, h.srt, fun x hx y hy => h.bnd x hx y hy.symm⟩
theorem ML.chunk (h : ML A B O i j) (hA : A.Pairwise kle) (hb : ∀ x ∈ (A.drop i).take k, ∀ y ∈ B.drop j, kle x y) : ML A B (O ++ (A.drop i).take k) (i + k) j := by
  have hd : (A.drop i).Pairwise kle := hA.sublist (List.drop_sublist ..)
  have hsplit : A.drop i = (A.drop i).take k ++ A.drop (i + k) := by rw [← List.drop_drop, List.take_append_drop]
  have hp := hd
  rw [hsplit] at hp
  obtain ⟨p1, p2, p3⟩ := List.pairwise_append.mp hp
  refine ⟨?_, List.pairwise_append.mpr ⟨h.srt, p1, fun x hx y hy => h.bnd x hx y (.inl (List.mem_of_mem_take hy))⟩, fun x hx y hy => ?_⟩
  · have e : A.take (i + k) = A.take i ++ (A.drop i).take k := List.take_add ..
    rw [e]
    refine (h.perm.append_right _).trans ?_
    rw [List.append_assoc, List.append_assoc]
    exact List.Perm.append_left _ List.perm_append_comm
  · rcases List.mem_append.mp hx with hx | hx
    · rcases hy with hy | hy
      · exact h.bnd x hx y (.inl (by rw [hsplit]; exact List.mem_append_right _ hy))
      · exact h.bnd x hx y (.inr hy)
    · rcases hy with hy | hy
      · exact p3 x hx y hy
      · exact hb x hx y hy
/-- the whole: sorted, and of the same items -/
def Merged (A B R : List Keyed) : Prop := R.Perm (A ++ B) ∧ R.Pairwise kle
theorem ML.last (h : ML A B O i j) (hA : A.Pairwise kle) (hB : B.Pairwise kle) (hb : ∀ x ∈ A.drop i, ∀ y ∈ B.drop j, kle x y) : Merged A B (O ++ A.drop i ++ B.drop j) := by
  have dA : (A.drop i).Pairwise kle := hA.sublist (List.drop_sublist ..)
  have dB : (B.drop j).Pairwise kle := hB.sublist (List.drop_sublist ..)
  refine ⟨?_, ?_⟩
  · have e1 : A = A.take i ++ A.drop i := (List.take_append_drop ..).symm
    have e2 : B = B.take j ++ B.drop j := (List.take_append_drop ..).symm
    conv => rhs; rw [e1, e2]
    refine ((h.perm.append_right _).append_right _).trans ?_
    rw [List.append_assoc, List.append_assoc, List.append_assoc]
    refine List.Perm.append_left _ ?_
    rw [← List.append_assoc, ← List.append_assoc]
    exact List.perm_append_comm.append_right _
  · rw [List.append_assoc]
    refine List.pairwise_append.mpr ⟨h.srt, List.pairwise_append.mpr ⟨dA, dB, hb⟩, fun x hx y hy => h.bnd x hx y ?_⟩
    exact List.mem_append.mp hy
theorem Merged.swap {R : List Keyed} (h : Merged B A R) : Merged A B R := ⟨h.1.trans List.perm_append_comm, h.2⟩
end
section
variable {a b : Array Keyed}
theorem ext_tl (a : Array Keyed) (i : Nat) : (a.extract i a.size).toList = a.toList.drop i := by
  rw [Array.toList_extract, List.extract_eq_take_drop, List.take_of_length_le (by simp)]
theorem ext_tk (a : Array Keyed) (i k : Nat) : (a.extract i (i + k)).toList = (a.toList.drop i).take k := by
  rw [Array.toList_extract, List.extract_eq_take_drop, Nat.add_sub_cancel_left]
theorem el_get {i : Nat} (h : i < a.size) : a.toList[i]? = some (el a i) := by
  have e : a[i]? = some a[i] := getElem?_pos a i h
  rw [Array.getElem?_toList]
  unfold el
  rw [e]
  rfl
theorem take1 {i : Nat} (h : i < a.size) : (a.toList.drop i).take 1 = [el a i] := by
  have e := el_get h
  obtain ⟨h', e'⟩ := List.getElem?_eq_some_iff.mp e
  rw [List.drop_eq_getElem_cons h', e']
  rfl
theorem mem_el {i k : Nat} {x : Keyed} (h : x ∈ (a.toList.drop i).take k) : ∃ q, q < k ∧ i + q < a.size ∧ x = el a (i + q) := by
  obtain ⟨q, hq⟩ := List.getElem?_of_mem h
  rw [List.getElem?_take] at hq
  split at hq
  · rename_i c
    rw [List.getElem?_drop] at hq
    have hl : i + q < a.size := by
      have := (List.getElem?_eq_some_iff.mp hq).1
      simpa using this
    rw [el_get hl] at hq
    exact ⟨q, c, hl, (Option.some.inj hq).symm⟩
  · cases hq
theorem mem_dr {i : Nat} {x : Keyed} (h : x ∈ a.toList.drop i) : ∃ q, i + q < a.size ∧ x = el a (i + q) := by
  have e : a.toList.drop i = (a.toList.drop i).take (a.toList.drop i).length := (List.take_length ..).symm
  rw [e] at h
  obtain ⟨q, _, h1, h2⟩ := mem_el h
  exact ⟨q, h1, h2⟩
theorem el_le (sa : a.toList.Pairwise kle) {i j : Nat} (h : i ≤ j) (hj : j < a.size) : kle (el a i) (el a j) := by
  rcases Nat.lt_or_eq_of_le h with c | c
  · have e1 := el_get (show i < a.size by omega)
    have e2 := el_get hj
    obtain ⟨h1, q1⟩ := List.getElem?_eq_some_iff.mp e1
    obtain ⟨h2, q2⟩ := List.getElem?_eq_some_iff.mp e2
    have := List.pairwise_iff_getElem.mp sa i j h1 h2 c
    rw [q1, q2] at this
    exact this
  · subst c; exact Int.le_refl _
theorem dr_ge (sa : a.toList.Pairwise kle) {i : Nat} {y : Keyed} (hy : y ∈ a.toList.drop i) : kle (el a i) y := by
  obtain ⟨q, h1, rfl⟩ := mem_dr hy
  exact el_le sa (by omega) h1
theorem ML.pushA {O : List Keyed} {i j : Nat} (h : ML a.toList b.toList O i j) (sa : a.toList.Pairwise kle) (sb : b.toList.Pairwise kle) (hi : i < a.size) (hb : kle (el a i) (el b j)) : ML a.toList b.toList (O ++ [el a i]) (i + 1) j := by
  rw [← take1 hi]
  refine h.chunk sa fun x hx y hy => ?_
  rw [take1 hi, List.mem_singleton] at hx
  subst hx
  exact Int.le_trans hb (dr_ge sb hy)
theorem ML.pushB {O : List Keyed} {i j : Nat} (h : ML a.toList b.toList O i j) (sa : a.toList.Pairwise kle) (sb : b.toList.Pairwise kle) (hj : j < b.size) (hb : kle (el b j) (el a i)) : ML a.toList b.toList (O ++ [el b j]) i (j + 1) :=
  (ML.pushA h.swap sb sa hj hb).swap
theorem ML.chunkA {O : List Keyed} {i j k : Nat} (h : ML a.toList b.toList O i j) (sa : a.toList.Pairwise kle) (sb : b.toList.Pairwise kle) (hb : ∀ q, q < k → kle (el a (i + q)) (el b j)) : ML a.toList b.toList (O ++ (a.toList.drop i).take k) (i + k) j := by
  refine h.chunk sa fun x hx y hy => ?_
  obtain ⟨q, h1, h2, rfl⟩ := mem_el hx
  exact Int.le_trans (hb q h1) (dr_ge sb hy)
theorem ML.chunkB {O : List Keyed} {i j k : Nat} (h : ML a.toList b.toList O i j) (sa : a.toList.Pairwise kle) (sb : b.toList.Pairwise kle) (hb : ∀ q, q < k → kle (el b (j + q)) (el a i)) : ML a.toList b.toList (O ++ (b.toList.drop j).take k) i (j + k) :=
  (ML.chunkA h.swap sb sa hb).swap
theorem ML.doneB {O : Array Keyed} {i j : Nat} (h : ML a.toList b.toList O.toList i j) (sa : a.toList.Pairwise kle) (sb : b.toList.Pairwise kle) (e : j = b.size) : Merged a.toList b.toList (O ++ a.extract i a.size ++ b.extract j b.size).toList := by
  rw [Array.toList_append, Array.toList_append, ext_tl, ext_tl]
  refine h.last sa sb fun x _ y hy => ?_
  rw [e, List.drop_of_length_le (by simp)] at hy
  cases hy
theorem ML.doneA {O : Array Keyed} {i j : Nat} (h : ML a.toList b.toList O.toList i j) (sa : a.toList.Pairwise kle) (sb : b.toList.Pairwise kle) (e : i = a.size) : Merged a.toList b.toList (O ++ a.extract i a.size ++ b.extract j b.size).toList := by
  rw [Array.toList_append, Array.toList_append, ext_tl, ext_tl]
  refine h.last sa sb fun x hx y hy => ?_
  rw [e, List.drop_of_length_le (by simp)] at hx
  cases hx
theorem ML.lastA {O : Array Keyed} {i j : Nat} (h : ML a.toList b.toList O.toList i j) (sa : a.toList.Pairwise kle) (sb : b.toList.Pairwise kle) (hl : ∀ y ∈ b.toList, kle y (el a (a.size - 1))) (e : i + 1 = a.size) : Merged a.toList b.toList (O ++ b.extract j b.size ++ a.extract i a.size).toList := by
  rw [Array.toList_append, Array.toList_append, ext_tl, ext_tl]
  refine (h.swap.last sb sa fun y hy x hx => ?_).swap
  obtain ⟨q, h1, rfl⟩ := mem_dr hx
  have : i + q = a.size - 1 := by omega
  rw [this]
  exact hl y (List.mem_of_mem_drop hy)
end
/-- the state but for the gallop's number -/
def Sam (st st' : SortSt) : Prop := PyProof.Rows.kindOf st' = PyProof.Rows.kindOf st ∧ arrOf st' = arrOf st ∧ pendingOf st' = pendingOf st ∧ failedOf st' = failedOf st
def setMinGallop' : Nat → StateT SortSt Sem Unit := sortPriv% PySem.Builtin.setMinGallop
section
variable {prog : Program} {w : World} {A : Around} {E : Value → Shared → Prop} {s : Shared} {st : SortSt}
theorem wpS_setMin {g : Nat} {Q : Unit → SortSt → Prop} (h : ∀ st', Sam st st' → Q () st') : wpS (model prog w) A E s (setMinGallop' g) Q st := by
  unfold setMinGallop'
  exact wpS_modify (h _ ⟨rfl, rfl, rfl, rfl⟩)
theorem Sam.trans {st st' st'' : SortSt} (h : Sam st st') (k : Sam st' st'') : Sam st st'' := ⟨k.1.trans h.1, k.2.1.trans h.2.1, k.2.2.1.trans h.2.2.1, k.2.2.2.trans h.2.2.2⟩
theorem bey_ff {key p : Keyed} (h : bey false key p = true) : kle p key := by simp [bey] at h; omega
theorem bey_fn {key p : Keyed} (h : bey false key p = false) : kle key p := by simp [bey] at h; omega
theorem bey_tf {key p : Keyed} (h : bey true key p = true) : kle p key := by simp [bey] at h; omega
theorem bey_tn {key p : Keyed} (h : bey true key p = false) : kle key p := by simp [bey] at h; omega
set_option maxHeartbeats 8000000 in
theorem wpS_mergeLo {a b : Array Keyed} {Q : Array Keyed → SortSt → Prop} (hk : PyProof.Rows.kindOf st = oneType') (ha : ∀ i, i < a.size → IntP (el a i)) (hb : ∀ i, i < b.size → IntP (el b i))
    (sa : a.toList.Pairwise kle) (sb : b.toList.Pairwise kle) (a1 : 1 ≤ a.size) (b1 : 1 ≤ b.size)
    (hf : ∀ x ∈ a.toList, kle (el b 0) x) (hl : ∀ y ∈ b.toList, kle y (el a (a.size - 1)))
    (h : ∀ r st', Sam st st' → Merged a.toList b.toList r.toList → Q r st') :
    wpS (model prog w) A E s (mergeLo' a b) Q st := by
  have m0 : ML a.toList b.toList (#[el b 0] : Array Keyed).toList 0 1 := by
    refine ⟨?_, List.pairwise_singleton .., fun x hx y hy => ?_⟩
    · have := take1 b1
      rw [List.drop_zero] at this
      rw [this]
      exact List.Perm.refl _
    · have hx' : x = el b 0 := by simpa using hx
      subst hx'
      rcases hy with hy | hy
      · exact hf y (List.mem_of_mem_drop hy)
      · obtain ⟨q, h1, rfl⟩ := mem_dr hy
        exact el_le sb (by omega) h1
  unfold mergeLo'
  refine wpS_bind (wpS_lift (wpAny_rule ⟨rfl, ?_⟩))
  refine wpS_bind (wpS_elem b1 ?_)
  dsimp only
  by_cases c1 : 1 = b.size
  · rw [if_pos (by simpa using c1)]
    exact wpS_pure (h _ _ ⟨rfl, rfl, rfl, rfl⟩ (m0.doneB sa sb c1))
  rw [if_neg (by simpa using c1)]
  by_cases c2 : 0 + 1 = a.size
  · rw [if_pos (by simpa using c2)]
    exact wpS_pure (h _ _ ⟨rfl, rfl, rfl, rfl⟩ (m0.lastA sa sb hl c2))
  rw [if_neg (by simpa using c2)]
  refine wpS_bind (wpS_get ?_)
  refine wpS_bind (wpS_mono (wpS_forRange (I := fun x c st' => Sam st st' ∧ ∃ out ia ib mg, c = (none, out, ia, ib, mg) ∧ ML a.toList b.toList out.toList ia ib ∧ ia + 1 < a.size ∧ ib < b.size ∧ x + 1 ≤ ia + ib)
    (Q := fun c st' => Sam st st' ∧ ∃ r rest, c = (some r, rest) ∧ Merged a.toList b.toList r.toList) ?ostep ?ofin ⟨⟨rfl, rfl, rfl, rfl⟩, _, 0, 1, _, rfl, m0, by omega, by omega, by omega⟩) ?opost)
  case ofin =>
    rintro c st' ⟨_, out, ia, ib, mg, rfl, _, h1, h2, h3⟩
    exfalso; omega
  case opost =>
    rintro c st' ⟨hS, r, rest, rfl, hM⟩
    exact wpS_pure (h r st' hS hM)
  case ostep =>
    rintro x c st1 _ hx ⟨hS1, out, ia, ib, mg, rfl, hM1, g1, g2, g3⟩
    dsimp only
    -- one by one
    refine wpS_bind (wpS_mono (wpS_forRange (I := fun y c st' => st' = st1 ∧ ∃ out ia ib ac bc, c = (none, out, ia, ib, ac, bc) ∧ ML a.toList b.toList out.toList ia ib ∧ ia + 1 < a.size ∧ ib < b.size ∧ x + 1 + y ≤ ia + ib)
      (Q := fun c st' => st' = st1 ∧ ((∃ r rest, c = (some r, rest) ∧ Merged a.toList b.toList r.toList) ∨ (∃ out ia ib ac bc, c = (none, out, ia, ib, ac, bc) ∧ ML a.toList b.toList out.toList ia ib ∧ ia + 1 < a.size ∧ ib < b.size ∧ x + 2 ≤ ia + ib))) ?pstep ?pfin ⟨rfl, out, ia, ib, 0, 0, rfl, hM1, g1, g2, by omega⟩) ?ppost)
    case pfin =>
      rintro c st' ⟨rfl, out, ia, ib, ac, bc, rfl, hM, k1, k2, k3⟩
      exact ⟨rfl, .inr ⟨out, ia, ib, ac, bc, rfl, hM, k1, k2, by omega⟩⟩
    case pstep =>
      rintro y c st' _ hy ⟨rfl, out, ia, ib, ac, bc, rfl, hM, k1, k2, k3⟩
      dsimp only
      refine wpS_bind (wpS_elem k2 (wpS_bind (wpS_elem (show ia < a.size by omega) (wpS_bind (wpS_lt (hS1.1.trans hk) (hb _ k2) (ha _ (by omega)) ?_)))))
      by_cases c3 : kz (el b ib) < kz (el a ia)
      · simp only [decide_eq_true c3, if_true]
        refine wpS_bind (wpS_elem k2 ?_)
        have hM' : ML a.toList b.toList (out.push (el b ib)).toList ia (ib + 1) := by rw [Array.toList_push]; exact hM.pushB sa sb k2 (Int.le_of_lt c3)
        by_cases c4 : ib + 1 = b.size
        · rw [if_pos (by simpa using c4)]
          exact wpS_pure ⟨rfl, .inl ⟨_, _, rfl, hM'.doneB sa sb c4⟩⟩
        · rw [if_neg (by simpa using c4)]
          by_cases c5 : bc + 1 ≥ mg
          · rw [if_pos c5]
            exact wpS_pure ⟨rfl, .inr ⟨_, _, _, _, _, rfl, hM', k1, by omega, by omega⟩⟩
          · rw [if_neg c5]
            exact wpS_pure ⟨rfl, _, _, _, _, _, rfl, hM', k1, by omega, by omega⟩
      · simp only [decide_eq_false c3, Bool.false_eq_true, if_false]
        refine wpS_bind (wpS_elem (show ia < a.size by omega) ?_)
        have hM' : ML a.toList b.toList (out.push (el a ia)).toList (ia + 1) ib := by rw [Array.toList_push]; exact hM.pushA sa sb (by omega) (Int.not_lt.mp c3)
        by_cases c4 : ia + 1 + 1 = a.size
        · rw [if_pos (by simpa using c4)]
          exact wpS_pure ⟨rfl, .inl ⟨_, _, rfl, hM'.lastA sa sb hl c4⟩⟩
        · rw [if_neg (by simpa using c4)]
          by_cases c5 : ac + 1 ≥ mg
          · rw [if_pos c5]
            exact wpS_pure ⟨rfl, .inr ⟨_, _, _, _, _, rfl, hM', by omega, k2, by omega⟩⟩
          · rw [if_neg c5]
            exact wpS_pure ⟨rfl, _, _, _, _, _, rfl, hM', by omega, k2, by omega⟩
    case ppost =>
      rintro c st' ⟨rfl, (⟨r, rest, rfl, hM⟩ | ⟨out, ia, ib, ac, bc, rfl, hM2, k1, k2, k3⟩)⟩
      · exact wpS_pure ⟨hS1, r, _, rfl, hM⟩
      dsimp only
      refine wpS_bind (wpS_lift (wpAny_rule ⟨rfl, ?_⟩))
      -- galloping
      refine wpS_bind (wpS_mono (wpS_forRange (I := fun y c st'' => Sam st st'' ∧ ∃ out ia ib mg ac bc, c = (none, out, ia, ib, mg, ac, bc) ∧ ML a.toList b.toList out.toList ia ib ∧ ia + 1 < a.size ∧ ib < b.size ∧ x + 2 ≤ ia + ib)
        (Q := fun c st'' => Sam st st'' ∧ ((∃ r rest, c = (some r, rest) ∧ Merged a.toList b.toList r.toList) ∨ (∃ out ia ib mg ac bc, c = (none, out, ia, ib, mg, ac, bc) ∧ ML a.toList b.toList out.toList ia ib ∧ ia + 1 < a.size ∧ ib < b.size ∧ x + 2 ≤ ia + ib))) ?gstep ?gfin ⟨hS1, out, ia, ib, _, ac, bc, rfl, hM2, k1, k2, k3⟩) ?gpost)
      case gfin =>
        rintro c st'' ⟨hS, out, ia, ib, mg, ac, bc, rfl, hM, q1, q2, q3⟩
        exact ⟨hS, .inr ⟨out, ia, ib, mg, ac, bc, rfl, hM, q1, q2, q3⟩⟩
      case gpost =>
        rintro c st'' ⟨hS, (⟨r, rest, rfl, hM⟩ | ⟨out, ia, ib, mg, ac, bc, rfl, hM, q1, q2, q3⟩)⟩
        · exact wpS_pure ⟨hS, r, _, rfl, hM⟩
        · dsimp only
          exact wpS_bind (wpS_setMin fun st3 hS3 => wpS_pure ⟨hS.trans hS3, _, _, _, _, rfl, hM, q1, q2, by omega⟩)
      case gstep =>
        rintro y c st2 _ hy ⟨hS2, out, ia, ib, mg, ac, bc, rfl, hM, q1, q2, q3⟩
        dsimp only
        by_cases hmg : mg > 1
        case' pos => rw [if_pos hmg]
        case' neg => rw [if_neg hmg]
        all_goals (
          refine wpS_bind (wpS_setMin fun st3 hS3 => ?_)
          have hS := hS2.trans hS3
          have hk3 := hS.1.trans hk
          refine wpS_bind (wpS_elem q2 ?_)
          refine wpS_bind (wpS_gallop (base := ia) (n := a.size - ia) (hint := 0) hk3 (hb _ q2) (by omega) (fun i hi => ha _ (by omega)) (fun i j hij hj => el_le sa (by omega) (by omega)) (by omega) fun k hk1 hk2 hk4 => ?_)
          dsimp only
          have hC := hM.chunkA (k := k) sa sb fun q hq => bey_ff (hk2 q hq)
          -- the state behind the first gallop, one for both ways
          have hgo : ∀ (out' : Array Keyed) (ia' : Nat), ML a.toList b.toList out'.toList ia' ib → ia' + 1 < a.size → ia' = ia + k → ML a.toList b.toList (out'.push (el b ib)).toList ia' (ib + 1) := by
            intro out' ia' hM' e1 e2
            rw [Array.toList_push]
            refine hM'.pushB sa sb q2 ?_
            rw [e2]
            exact bey_fn (hk4 k (Nat.le_refl _) (by omega))
          have hgo2 : ∀ (out' : Array Keyed) (ia' k' : Nat), ML a.toList b.toList out'.toList ia' (ib + 1 + k') → ia' < a.size → kle (el a ia') (el b (ib + 1 + k')) → ML a.toList b.toList (out'.push (el a ia')).toList (ia' + 1) (ib + 1 + k') := by
            intro out' ia' k' hM' e1 e2
            rw [Array.toList_push]
            exact hM'.pushA sa sb e1 e2
          by_cases c6 : k > 0
          case' pos =>
            rw [if_pos c6]
            have hC' : ML a.toList b.toList (out ++ a.extract ia (ia + k)).toList (ia + k) ib := by rw [Array.toList_append, ext_tk]; exact hC
            by_cases c7 : ia + k + 1 = a.size
            case' pos =>
              rw [if_pos (by simpa using c7)]
              exact wpS_pure ⟨hS, .inl ⟨_, _, rfl, hC'.lastA sa sb hl c7⟩⟩
            case' neg =>
              rw [if_neg (by simpa using c7)]
              by_cases c8 : ia + k = a.size
              case' pos =>
                rw [if_pos (by simpa using c8)]
                exact wpS_pure ⟨hS, .inl ⟨_, _, rfl, hC'.doneA sa sb c8⟩⟩
              case' neg =>
                rw [if_neg (by simpa using c8)]
                have hD := hgo _ _ hC' (by omega) rfl
                have hia : ia + k + 1 < a.size := by omega
                generalize hout : out ++ a.extract ia (ia + k) = out2 at hD ⊢
                generalize hia2 : ia + k = ia2 at hD hia ⊢
          case' neg =>
            rw [if_neg c6]
            have hk0 : k = 0 := by omega
            have hD := hgo _ _ hM q1 (by omega)
            have hia : ia + 1 < a.size := q1
            generalize hout : out = out2 at hD ⊢
            generalize hia2 : ia = ia2 at hD hia ⊢
          all_goals (
            have hgr : ia ≤ ia2 := by omega
            refine wpS_bind (wpS_elem q2 ?_)
            by_cases c9 : ib + 1 = b.size
            · rw [if_pos (by simpa using c9)]
              exact wpS_pure ⟨hS, .inl ⟨_, _, rfl, hD.doneB sa sb c9⟩⟩
            rw [if_neg (by simpa using c9)]
            refine wpS_bind (wpS_elem (show ia2 < a.size by omega) ?_)
            refine wpS_bind (wpS_gallop (base := ib + 1) (n := b.size - (ib + 1)) (hint := 0) hk3 (ha _ (by omega)) (by omega) (fun i hi => hb _ (by omega)) (fun i j hij hj => el_le sb (by omega) (by omega)) (by omega) fun k' hk1' hk2' hk4' => ?_)
            dsimp only
            have hC2 := hD.chunkB (k := k') sa sb fun q hq => bey_tf (hk2' q hq)
            by_cases d6 : k' > 0
            case' pos =>
              rw [if_pos d6]
              have hC3 : ML a.toList b.toList (out2.push (el b ib) ++ b.extract (ib + 1) (ib + 1 + k')).toList ia2 (ib + 1 + k') := by rw [Array.toList_append, ext_tk]; exact hC2
              by_cases d7 : ib + 1 + k' = b.size
              case' pos =>
                rw [if_pos (by simpa using d7)]
                exact wpS_pure ⟨hS, .inl ⟨_, _, rfl, hC3.doneB sa sb d7⟩⟩
              case' neg =>
                rw [if_neg (by simpa using d7)]
                have hF := hgo2 _ _ _ hC3 (by omega) (bey_tn (hk4' k' (Nat.le_refl _) (by omega)))
                have hib : ib + 1 + k' < b.size := by omega
                generalize hout3 : out2.push (el b ib) ++ b.extract (ib + 1) (ib + 1 + k') = out3 at hF ⊢
                generalize hib2 : ib + 1 + k' = ib2 at hF hib ⊢
            case' neg =>
              rw [if_neg d6]
              have hk0' : k' = 0 := by omega
              have hF := hgo2 _ _ 0 hD (by omega) (bey_tn (hk4' 0 (by omega) (by omega)))
              have hib : ib + 1 + 0 < b.size := by omega
              rw [Nat.add_zero] at hF hib
              generalize hout3 : out2.push (el b ib) = out3 at hF ⊢
              generalize hib2 : ib + 1 = ib2 at hF hib ⊢
            all_goals (
              refine wpS_bind (wpS_elem (show ia2 < a.size by omega) ?_)
              by_cases d8 : ia2 + 1 + 1 = a.size
              · rw [if_pos (by simpa using d8)]
                exact wpS_pure ⟨hS, .inl ⟨_, _, rfl, hF.lastA sa sb hl d8⟩⟩
              rw [if_neg (by simpa using d8)]
              split
              · exact wpS_pure ⟨hS, .inr ⟨_, _, _, _, _, _, rfl, hF, by omega, hib, by omega⟩⟩
              · exact wpS_pure ⟨hS, _, _, _, _, _, _, rfl, hF, by omega, hib, by omega⟩)))
end
end Mine

end
section
namespace Mine
def mergeHi' : Array Keyed → Array Keyed → StateT SortSt Sem (Array Keyed) := sortPriv% PySem.Builtin.mergeHi
abbrev kge (p q : Keyed) : Prop := kz q ≤ kz p
/-- a merge from behind under way: O holds what lies behind the first i of A and the first j of B, the largest first -/
structure MH (A B O : List Keyed) (i j : Nat) : Prop where
  perm : O.Perm (A.drop i ++ B.drop j)
  srt : O.Pairwise kge
  bnd : ∀ x ∈ O, ∀ y, y ∈ A.take i ∨ y ∈ B.take j → kle y x
section
variable {A B O : List Keyed} {i i' j : Nat}
theorem MH.swap (h : MH A B O i j) : MH B A O j i := ⟨h.perm.trans List.perm_append_comm, h.srt, fun x hx y hy => h.bnd x hx y hy.symm⟩
theorem MH.chunk (h : MH A B O i j) (hA : A.Pairwise kle) (hi : i' ≤ i) (hb : ∀ x ∈ (A.drop i').take (i - i'), ∀ y ∈ B.take j, kle y x) : MH A B (O ++ ((A.drop i').take (i - i')).reverse) i' j := by
  have e1 : A.drop i' = (A.drop i').take (i - i') ++ A.drop i := by
    conv => lhs; rw [← List.take_append_drop (i - i') (A.drop i')]
    rw [List.drop_drop, Nat.add_sub_cancel' hi]
  have e2 : A.take i = A.take i' ++ (A.drop i').take (i - i') := by
    conv => lhs; rw [← Nat.add_sub_cancel' hi]
    exact List.take_add ..
  have hp : (A.take i).Pairwise kle := hA.sublist (List.take_sublist ..)
  rw [e2] at hp
  obtain ⟨p1, p2, p3⟩ := List.pairwise_append.mp hp
  refine ⟨?_, List.pairwise_append.mpr ⟨h.srt, List.pairwise_reverse.mpr p2, fun x hx y hy => h.bnd x hx y (.inl ?_)⟩, fun x hx y hy => ?_⟩
  · conv => rhs; rw [e1]
    refine (h.perm.append_right _).trans ?_
    refine (List.perm_append_comm).trans ?_
    rw [List.append_assoc]
    exact (List.reverse_perm _).append_right _
  · rw [e2]; exact List.mem_append_right _ (List.mem_reverse.mp hy)
  · rcases List.mem_append.mp hx with hx | hx
    · rcases hy with hy | hy
      · exact h.bnd x hx y (.inl (by rw [e2]; exact List.mem_append_left _ hy))
      · exact h.bnd x hx y (.inr hy)
    · have hx' := List.mem_reverse.mp hx
      rcases hy with hy | hy
      · exact p3 y hy x hx'
      · exact hb x hx' y hy
theorem MH.last (h : MH A B O i j) (hA : A.Pairwise kle) (hB : B.Pairwise kle) (hb : ∀ x ∈ A.take i, ∀ y ∈ B.take j, kle x y) : Merged A B (A.take i ++ B.take j ++ O.reverse) := by
  have dA : (A.take i).Pairwise kle := hA.sublist (List.take_sublist ..)
  have dB : (B.take j).Pairwise kle := hB.sublist (List.take_sublist ..)
  refine ⟨?_, ?_⟩
  · have e1 : A = A.take i ++ A.drop i := (List.take_append_drop ..).symm
    have e2 : B = B.take j ++ B.drop j := (List.take_append_drop ..).symm
    conv => rhs; rw [e1, e2]
    refine (((List.reverse_perm O).trans h.perm).append_left _).trans ?_
    rw [List.append_assoc, List.append_assoc]
    refine List.Perm.append_left _ ?_
    rw [← List.append_assoc, ← List.append_assoc]
    exact List.perm_append_comm.append_right _
  · refine List.pairwise_append.mpr ⟨List.pairwise_append.mpr ⟨dA, dB, hb⟩, List.pairwise_reverse.mpr h.srt, fun x hx y hy => h.bnd y (List.mem_reverse.mp hy) x ?_⟩
    exact List.mem_append.mp hx
end
section
variable {a b : Array Keyed}
theorem ext_hd (a : Array Keyed) (i : Nat) : (a.extract 0 i).toList = a.toList.take i := by
  rw [Array.toList_extract, List.extract_eq_take_drop, List.drop_zero, Nat.sub_zero]
theorem ext_md (a : Array Keyed) (i j : Nat) : (a.extract i j).reverse.toList = ((a.toList.drop i).take (j - i)).reverse := by
  rw [Array.toList_reverse, Array.toList_extract, List.extract_eq_take_drop]
theorem mem_tk {i : Nat} {x : Keyed} (h : x ∈ a.toList.take i) : ∃ q, q < i ∧ q < a.size ∧ x = el a q := by
  obtain ⟨q, hq, hs, e⟩ := mem_el (a := a) (i := 0) (k := i) (by rw [List.drop_zero]; exact h)
  rw [Nat.zero_add] at hs e
  exact ⟨q, hq, hs, e⟩
theorem MH.chunkA {O : List Keyed} {i i' j : Nat} (h : MH a.toList b.toList O i j) (sa : a.toList.Pairwise kle) (hi : i' ≤ i) (hb : ∀ p, i' ≤ p → p < i → ∀ q, q < j → q < b.size → kle (el b q) (el a p)) : MH a.toList b.toList (O ++ ((a.toList.drop i').take (i - i')).reverse) i' j := by
  refine h.chunk sa hi fun x hx y hy => ?_
  obtain ⟨p, h1, h2, rfl⟩ := mem_el hx
  obtain ⟨q, h3, h4, rfl⟩ := mem_tk hy
  exact hb _ (by omega) (by omega) q h3 h4
theorem MH.chunkB {O : List Keyed} {i j j' : Nat} (h : MH a.toList b.toList O i j) (sb : b.toList.Pairwise kle) (hj : j' ≤ j) (hb : ∀ p, j' ≤ p → p < j → ∀ q, q < i → q < a.size → kle (el a q) (el b p)) : MH a.toList b.toList (O ++ ((b.toList.drop j').take (j - j')).reverse) i j' :=
  (MH.chunkA h.swap sb hj hb).swap
theorem MH.pushA {O : List Keyed} {i j : Nat} (h : MH a.toList b.toList O (i + 1) j) (sa : a.toList.Pairwise kle) (hi : i < a.size) (hb : ∀ q, q < j → q < b.size → kle (el b q) (el a i)) : MH a.toList b.toList (O ++ [el a i]) i j := by
  have e := h.chunkA (i' := i) sa (by omega) (fun p h1 h2 q h3 h4 => by have : p = i := by omega
                                                                        subst this; exact hb q h3 h4)
  rw [Nat.add_sub_cancel_left, take1 hi] at e
  exact e
theorem MH.pushB {O : List Keyed} {i j : Nat} (h : MH a.toList b.toList O i (j + 1)) (sb : b.toList.Pairwise kle) (hj : j < b.size) (hb : ∀ q, q < i → q < a.size → kle (el a q) (el b j)) : MH a.toList b.toList (O ++ [el b j]) i j :=
  (MH.pushA h.swap sb hj hb).swap
theorem MH.done {O : Array Keyed} {i j : Nat} (h : MH a.toList b.toList O.toList i j) (sa : a.toList.Pairwise kle) (sb : b.toList.Pairwise kle) (e : i = 0 ∨ j = 0) : Merged a.toList b.toList (a.extract 0 i ++ b.extract 0 j ++ O.reverse).toList := by
  rw [Array.toList_append, Array.toList_append, ext_hd, ext_hd, Array.toList_reverse]
  refine h.last sa sb fun x hx y hy => ?_
  rcases e with e | e
  · rw [e, List.take_zero] at hx; cases hx
  · rw [e, List.take_zero] at hy; cases hy
theorem MH.firstB {O : Array Keyed} {i j : Nat} (h : MH a.toList b.toList O.toList i j) (sa : a.toList.Pairwise kle) (sb : b.toList.Pairwise kle) (hf : ∀ x ∈ a.toList, kle (el b 0) x) (e : j = 1) : Merged a.toList b.toList (b.extract 0 j ++ a.extract 0 i ++ O.reverse).toList := by
  rw [Array.toList_append, Array.toList_append, ext_hd, ext_hd, Array.toList_reverse]
  refine (h.swap.last sb sa fun y hy x hx => ?_).swap
  obtain ⟨q, h1, h2, rfl⟩ := mem_tk hy
  have : q = 0 := by omega
  subst this
  exact hf x (List.mem_of_mem_take hx)
end
section
variable {prog : Program} {w : World} {A : Around} {E : Value → Shared → Prop} {s : Shared} {st : SortSt}
set_option maxHeartbeats 8000000 in
theorem wpS_mergeHi {a b : Array Keyed} {Q : Array Keyed → SortSt → Prop} (hk : PyProof.Rows.kindOf st = oneType') (ha : ∀ i, i < a.size → IntP (el a i)) (hb : ∀ i, i < b.size → IntP (el b i))
    (sa : a.toList.Pairwise kle) (sb : b.toList.Pairwise kle) (a1 : 1 ≤ a.size) (b1 : 1 ≤ b.size)
    (hf : ∀ x ∈ a.toList, kle (el b 0) x) (hl : ∀ y ∈ b.toList, kle y (el a (a.size - 1)))
    (h : ∀ r st', Sam st st' → Merged a.toList b.toList r.toList → Q r st') :
    wpS (model prog w) A E s (mergeHi' a b) Q st := by
  have m0 : MH a.toList b.toList (#[el a (a.size - 1)] : Array Keyed).toList (a.size - 1) b.size := by
    have e0 : MH a.toList b.toList [] (a.size - 1 + 1) b.size := by
      refine ⟨?_, .nil, fun x hx => nomatch hx⟩
      rw [List.drop_of_length_le (by simp; omega), List.drop_of_length_le (by simp)]
      exact List.Perm.refl _
    have e1 := e0.pushA sa (by omega) (fun q h1 h2 => hl _ (List.mem_of_getElem? (el_get h2)))
    exact e1
  unfold mergeHi'
  refine wpS_bind (wpS_lift (wpAny_rule ⟨rfl, ?_⟩))
  dsimp only
  refine wpS_bind (wpS_elem (show a.size - 1 < a.size by omega) ?_)
  by_cases c1 : a.size - 1 = 0
  · rw [if_pos (by simpa using c1)]
    exact wpS_pure (h _ _ ⟨rfl, rfl, rfl, rfl⟩ (m0.done sa sb (.inl c1)))
  rw [if_neg (by simpa using c1)]
  by_cases c2 : b.size = 1
  · rw [if_pos (by simpa using c2)]
    exact wpS_pure (h _ _ ⟨rfl, rfl, rfl, rfl⟩ (m0.firstB sa sb hf c2))
  rw [if_neg (by simpa using c2)]
  refine wpS_bind (wpS_get ?_)
  refine wpS_bind (wpS_mono (wpS_forRange (I := fun x c st' => Sam st st' ∧ ∃ na nb out mg, c = (none, na, nb, out, mg) ∧ MH a.toList b.toList out.toList na nb ∧ 1 ≤ na ∧ na ≤ a.size ∧ 2 ≤ nb ∧ nb ≤ b.size ∧ na + nb + x + 1 ≤ a.size + b.size)
    (Q := fun c st' => Sam st st' ∧ ∃ r rest, c = (some r, rest) ∧ Merged a.toList b.toList r.toList) ?ostep ?ofin ⟨⟨rfl, rfl, rfl, rfl⟩, _, _, _, _, rfl, m0, by omega, by omega, by omega, by omega, by omega⟩) ?opost)
  case ofin =>
    rintro c st' ⟨_, na, nb, out, mg, rfl, _, h1, h2, h3, h4, h5⟩
    exfalso; omega
  case opost =>
    rintro c st' ⟨hS, r, rest, rfl, hM⟩
    exact wpS_pure (h r st' hS hM)
  case ostep =>
    rintro x c st1 _ hx ⟨hS1, na, nb, out, mg, rfl, hM1, g1, g2, g3, g4, g5⟩
    dsimp only
    -- one by one
    refine wpS_bind (wpS_mono (wpS_forRange (I := fun y c st' => st' = st1 ∧ ∃ na nb out ac bc, c = (none, na, nb, out, ac, bc) ∧ MH a.toList b.toList out.toList na nb ∧ 1 ≤ na ∧ na ≤ a.size ∧ 2 ≤ nb ∧ nb ≤ b.size ∧ na + nb + x + 1 + y ≤ a.size + b.size)
      (Q := fun c st' => st' = st1 ∧ ((∃ r rest, c = (some r, rest) ∧ Merged a.toList b.toList r.toList) ∨ (∃ na nb out ac bc, c = (none, na, nb, out, ac, bc) ∧ MH a.toList b.toList out.toList na nb ∧ 1 ≤ na ∧ na ≤ a.size ∧ 2 ≤ nb ∧ nb ≤ b.size ∧ na + nb + x + 2 ≤ a.size + b.size))) ?pstep ?pfin ⟨rfl, na, nb, out, 0, 0, rfl, hM1, g1, g2, g3, g4, by omega⟩) ?ppost)
    case pfin =>
      rintro c st' ⟨rfl, na, nb, out, ac, bc, rfl, hM, k1, k2, k3, k4, k5⟩
      exact ⟨rfl, .inr ⟨na, nb, out, ac, bc, rfl, hM, k1, k2, k3, k4, by omega⟩⟩
    case pstep =>
      rintro y c st' _ hy ⟨rfl, na, nb, out, ac, bc, rfl, hM, k1, k2, k3, k4, k5⟩
      obtain ⟨na, rfl⟩ : ∃ p, na = p + 1 := ⟨na - 1, by omega⟩
      obtain ⟨nb, rfl⟩ : ∃ p, nb = p + 1 := ⟨nb - 1, by omega⟩
      dsimp only
      simp only [Nat.add_sub_cancel]
      refine wpS_bind (wpS_elem (show nb < b.size by omega) (wpS_bind (wpS_elem (show na < a.size by omega) (wpS_bind (wpS_lt (hS1.1.trans hk) (hb _ (by omega)) (ha _ (by omega)) ?_)))))
      by_cases c3 : kz (el b nb) < kz (el a na)
      · simp only [decide_eq_true c3, if_true]
        refine wpS_bind (wpS_elem (show na < a.size by omega) ?_)
        have hM' : MH a.toList b.toList (out.push (el a na)).toList na (nb + 1) := by
          rw [Array.toList_push]
          exact hM.pushA sa (by omega) fun q h1 h2 => Int.le_trans (el_le sb (by omega) (by omega)) (Int.le_of_lt c3)
        by_cases c4 : na = 0
        · rw [if_pos (by simpa using c4)]
          exact wpS_pure ⟨rfl, .inl ⟨_, _, rfl, hM'.done sa sb (.inl c4)⟩⟩
        · rw [if_neg (by simpa using c4)]
          by_cases c5 : ac + 1 ≥ mg
          · rw [if_pos c5]
            exact wpS_pure ⟨rfl, .inr ⟨_, _, _, _, _, rfl, hM', by omega, by omega, by omega, by omega, by omega⟩⟩
          · rw [if_neg c5]
            exact wpS_pure ⟨rfl, _, _, _, _, _, rfl, hM', by omega, by omega, by omega, by omega, by omega⟩
      · simp only [decide_eq_false c3, Bool.false_eq_true, if_false]
        refine wpS_bind (wpS_elem (show nb < b.size by omega) ?_)
        have hM' : MH a.toList b.toList (out.push (el b nb)).toList (na + 1) nb := by
          rw [Array.toList_push]
          exact hM.pushB sb (by omega) fun q h1 h2 => Int.le_trans (el_le sa (by omega) (by omega)) (Int.not_lt.mp c3)
        by_cases c4 : nb = 1
        · rw [if_pos (by simpa using c4)]
          exact wpS_pure ⟨rfl, .inl ⟨_, _, rfl, hM'.firstB sa sb hf c4⟩⟩
        · rw [if_neg (by simpa using c4)]
          by_cases c5 : bc + 1 ≥ mg
          · rw [if_pos c5]
            exact wpS_pure ⟨rfl, .inr ⟨_, _, _, _, _, rfl, hM', by omega, by omega, by omega, by omega, by omega⟩⟩
          · rw [if_neg c5]
            exact wpS_pure ⟨rfl, _, _, _, _, _, rfl, hM', by omega, by omega, by omega, by omega, by omega⟩
    case ppost =>
      rintro c st' ⟨rfl, (⟨r, rest, rfl, hM⟩ | ⟨na, nb, out, ac, bc, rfl, hM2, k1, k2, k3, k4, k5⟩)⟩
      · exact wpS_pure ⟨hS1, r, _, rfl, hM⟩
      dsimp only
      refine wpS_bind (wpS_lift (wpAny_rule ⟨rfl, ?_⟩))
      -- galloping
      refine wpS_bind (wpS_mono (wpS_forRange (I := fun y c st'' => Sam st st'' ∧ ∃ na nb out mg ac bc, c = (none, na, nb, out, mg, ac, bc) ∧ MH a.toList b.toList out.toList na nb ∧ 1 ≤ na ∧ na ≤ a.size ∧ 2 ≤ nb ∧ nb ≤ b.size ∧ na + nb + x + 2 ≤ a.size + b.size)
        (Q := fun c st'' => Sam st st'' ∧ ((∃ r rest, c = (some r, rest) ∧ Merged a.toList b.toList r.toList) ∨ (∃ na nb out mg ac bc, c = (none, na, nb, out, mg, ac, bc) ∧ MH a.toList b.toList out.toList na nb ∧ 1 ≤ na ∧ na ≤ a.size ∧ 2 ≤ nb ∧ nb ≤ b.size ∧ na + nb + x + 2 ≤ a.size + b.size))) ?gstep ?gfin ⟨hS1, na, nb, out, _, ac, bc, rfl, hM2, k1, k2, k3, k4, k5⟩) ?gpost)
      case gfin =>
        rintro c st'' ⟨hS, na, nb, out, mg, ac, bc, rfl, hM, q1, q2, q3, q4, q5⟩
        exact ⟨hS, .inr ⟨na, nb, out, mg, ac, bc, rfl, hM, q1, q2, q3, q4, q5⟩⟩
      case gpost =>
        rintro c st'' ⟨hS, (⟨r, rest, rfl, hM⟩ | ⟨na, nb, out, mg, ac, bc, rfl, hM, q1, q2, q3, q4, q5⟩)⟩
        · exact wpS_pure ⟨hS, r, _, rfl, hM⟩
        · dsimp only
          exact wpS_bind (wpS_setMin fun st3 hS3 => wpS_pure ⟨hS.trans hS3, _, _, _, _, rfl, hM, q1, q2, q3, q4, by omega⟩)
      case gstep =>
        rintro y c st2 _ hy ⟨hS2, na, nb, out, mg, ac, bc, rfl, hM, q1, q2, q3, q4, q5⟩
        obtain ⟨nb, rfl⟩ : ∃ p, nb = p + 1 := ⟨nb - 1, by omega⟩
        dsimp only
        simp only [Nat.add_sub_cancel]
        by_cases hmg : mg > 1
        case' pos => rw [if_pos hmg]
        case' neg => rw [if_neg hmg]
        all_goals (
          refine wpS_bind (wpS_setMin fun st3 hS3 => ?_)
          have hS := hS2.trans hS3
          have hk3 := hS.1.trans hk
          refine wpS_bind (wpS_elem (show nb < b.size by omega) ?_)
          refine wpS_bind (wpS_gallop (base := 0) (n := na) (hint := na - 1) hk3 (hb _ (by omega)) (by omega) (fun i hi => ha _ (by omega)) (fun i j hij hj => el_le sa (by omega) (by omega)) (by omega) fun k hk1 hk2 hk4 => ?_)
          dsimp only
          simp only [Nat.zero_add] at hk2 hk4
          have hC := hM.chunkA (i' := k) sa hk1 fun p h1 h2 q h3 h4 => Int.le_trans (el_le sb (show q ≤ nb by omega) (by omega)) (bey_fn (hk4 p h1 h2))
          by_cases c6 : na - k > 0
          case' pos =>
            rw [if_pos c6]
            have hC' : MH a.toList b.toList (out ++ (a.extract k na).reverse).toList k (nb + 1) := by rw [Array.toList_append, ext_md]; exact hC
            by_cases c7 : k = 0
            case' pos =>
              rw [if_pos (by simpa using c7)]
              exact wpS_pure ⟨hS, .inl ⟨_, _, rfl, hC'.done sa sb (.inl c7)⟩⟩
            case' neg =>
              rw [if_neg (by simpa using c7)]
              have hD : MH a.toList b.toList ((out ++ (a.extract k na).reverse).push (el b nb)).toList k nb := by
                rw [Array.toList_push]
                exact hC'.pushB sb (by omega) fun q h1 h2 => bey_ff (hk2 q h1)
              generalize hout : out ++ (a.extract k na).reverse = out2 at hD ⊢
              have hn2 : 1 ≤ k ∧ k ≤ na := ⟨by omega, hk1⟩
              generalize hna2 : k = na2 at hD hn2 ⊢
          case' neg =>
            rw [if_neg c6]
            have hk0 : k = na := by omega
            have hD : MH a.toList b.toList (out.push (el b nb)).toList na nb := by
              rw [Array.toList_push]
              exact hM.pushB sb (by omega) fun q h1 h2 => bey_ff (hk2 q (by omega))
            generalize hout : out = out2 at hD ⊢
            have hn2 : 1 ≤ na ∧ na ≤ na := ⟨q1, Nat.le_refl _⟩
            generalize hna2 : na = na2 at hD hn2 ⊢
          all_goals (
            obtain ⟨na2, rfl⟩ : ∃ p, na2 = p + 1 := ⟨na2 - 1, by omega⟩
            simp only [Nat.add_sub_cancel]
            refine wpS_bind (wpS_elem (show nb < b.size by omega) ?_)
            by_cases c9 : nb = 1
            · rw [if_pos (by simpa using c9)]
              exact wpS_pure ⟨hS, .inl ⟨_, _, rfl, hD.firstB sa sb hf c9⟩⟩
            rw [if_neg (by simpa using c9)]
            refine wpS_bind (wpS_elem (show na2 < a.size by omega) ?_)
            refine wpS_bind (wpS_gallop (base := 0) (n := nb) (hint := nb - 1) hk3 (ha _ (by omega)) (by omega) (fun i hi => hb _ (by omega)) (fun i j hij hj => el_le sb (by omega) (by omega)) (by omega) fun k' hk1' hk2' hk4' => ?_)
            dsimp only
            simp only [Nat.zero_add] at hk2' hk4'
            have hC2 := hD.chunkB (j' := k') sb hk1' fun p h1 h2 q h3 h4 => Int.le_trans (el_le sa (show q ≤ na2 by omega) (by omega)) (bey_tn (hk4' p h1 h2))
            by_cases d6 : nb - k' > 0
            case' pos =>
              rw [if_pos d6]
              have hC3 : MH a.toList b.toList (out2.push (el b nb) ++ (b.extract k' nb).reverse).toList (na2 + 1) k' := by rw [Array.toList_append, ext_md]; exact hC2
              by_cases d7 : k' = 1
              case' pos =>
                rw [if_pos (by simpa using d7)]
                exact wpS_pure ⟨hS, .inl ⟨_, _, rfl, hC3.firstB sa sb hf d7⟩⟩
              case' neg =>
                rw [if_neg (by simpa using d7)]
                by_cases d8 : k' = 0
                case' pos =>
                  rw [if_pos (by simpa using d8)]
                  exact wpS_pure ⟨hS, .inl ⟨_, _, rfl, hC3.done sa sb (.inr d8)⟩⟩
                case' neg =>
                  rw [if_neg (by simpa using d8)]
                  have hF : MH a.toList b.toList ((out2.push (el b nb) ++ (b.extract k' nb).reverse).push (el a na2)).toList na2 k' := by
                    rw [Array.toList_push]
                    exact hC3.pushA sa (by omega) fun q h1 h2 => bey_tf (hk2' q h1)
                  generalize hout3 : out2.push (el b nb) ++ (b.extract k' nb).reverse = out3 at hF ⊢
                  have hb2 : 2 ≤ k' ∧ k' ≤ nb := ⟨by omega, hk1'⟩
                  generalize hnb2 : k' = nb2 at hF hb2 ⊢
            case' neg =>
              rw [if_neg d6]
              have hk0' : k' = nb := by omega
              have hF : MH a.toList b.toList ((out2.push (el b nb)).push (el a na2)).toList na2 nb := by
                rw [Array.toList_push]
                exact hD.pushA sa (by omega) fun q h1 h2 => bey_tf (hk2' q (by omega))
              generalize hout3 : out2.push (el b nb) = out3 at hF ⊢
              have hb2 : 2 ≤ nb ∧ nb ≤ nb := ⟨by omega, Nat.le_refl _⟩
              generalize hnb2 : nb = nb2 at hF hb2 ⊢
            all_goals (
              refine wpS_bind (wpS_elem (show na2 < a.size by omega) ?_)
              by_cases d9 : na2 = 0
              · rw [if_pos (by simpa using d9)]
                exact wpS_pure ⟨hS, .inl ⟨_, _, rfl, hF.done sa sb (.inl d9)⟩⟩
              rw [if_neg (by simpa using d9)]
              split
              · exact wpS_pure ⟨hS, .inr ⟨_, _, _, _, _, _, rfl, hF, by omega, by omega, by omega, by omega, by omega⟩⟩
              · exact wpS_pure ⟨hS, _, _, _, _, _, _, rfl, hF, by omega, by omega, by omega, by omega, by omega⟩)))
end
end Mine

end
section
namespace Mine
theorem fold_at (off : Nat) : ∀ (L : List Keyed) (s : Nat) (arr : Array Keyed), off + s + L.length ≤ arr.size → ∀ i : Nat,
    ((L.zipIdx s).foldl (fun a (x : Keyed × Nat) => a.setIfInBounds (off + x.2) x.1) arr)[i]? = if off + s ≤ i ∧ i < off + s + L.length then L[i - (off + s)]? else arr[i]?
  | [], s, arr, h, i => by
    rw [if_neg (by simp)]
    rfl
  | p :: L, s, arr, h, i => by
    rw [List.zipIdx_cons, List.foldl_cons, fold_at off L (s + 1) _ (by rw [Array.size_setIfInBounds]; simp at h; omega)]
    simp only [List.length_cons] at h ⊢
    by_cases c1 : off + (s + 1) ≤ i ∧ i < off + (s + 1) + L.length
    · rw [if_pos c1, if_pos (by omega), show i - (off + s) = (i - (off + (s + 1))) + 1 by omega, List.getElem?_cons_succ]
    · rw [if_neg c1]
      by_cases c2 : i = off + s
      · subst c2
        rw [if_pos (by omega), Nat.sub_self, Array.getElem?_setIfInBounds_self_of_lt (by omega)]
        rfl
      · rw [if_neg (by omega), Array.getElem?_setIfInBounds_ne (by omega)]
theorem fold_list {off : Nat} {L : List Keyed} {arr : Array Keyed} (h : off + L.length ≤ arr.size) :
    (L.zipIdx.foldl (fun a (x : Keyed × Nat) => a.setIfInBounds (off + x.2) x.1) arr).toList = arr.toList.take off ++ L ++ arr.toList.drop (off + L.length) := by
  refine List.ext_getElem? fun i => ?_
  rw [Array.getElem?_toList, fold_at off L 0 arr (by omega)]
  simp only [Nat.add_zero]
  have hl : (arr.toList.take off).length = off := by rw [List.length_take, Array.length_toList]; omega
  by_cases c1 : off ≤ i ∧ i < off + L.length
  · rw [if_pos c1, List.getElem?_append_left (by rw [List.length_append, hl]; omega), List.getElem?_append_right (by omega), hl]
  · rw [if_neg c1]
    by_cases c2 : i < off
    · rw [List.getElem?_append_left (by rw [List.length_append, hl]; omega), List.getElem?_append_left (by omega), List.getElem?_take, if_pos c2, Array.getElem?_toList]
    · rw [List.getElem?_append_right (by rw [List.length_append, hl]; omega), List.length_append, hl, List.getElem?_drop, Array.getElem?_toList]
      congr 1
      omega
theorem el_ext {arr : Array Keyed} {i j q : Nat} (hj : j ≤ arr.size) (hq : q < j - i) : el (arr.extract i j) q = el arr (i + q) := by
  refine el_congr ?_
  rw [Array.getElem?_extract, if_pos (by rw [Nat.min_eq_left hj]; exact hq)]
/-- what is put together of two sorted parts, their middle merged -/
theorem parts_sorted {A1 A2 B1 B2 M : List Keyed} (hA : (A1 ++ A2).Pairwise kle) (hB : (B1 ++ B2).Pairwise kle) (hM : Merged A2 B1 M) (h1 : ∀ x ∈ A1, ∀ y, y ∈ B1 ∨ y ∈ B2 → kle x y) (h2 : ∀ x ∈ A2, ∀ y ∈ B2, kle x y) :
    (A1 ++ M ++ B2).Pairwise kle ∧ (A1 ++ M ++ B2).Perm (A1 ++ A2 ++ (B1 ++ B2)) := by
  obtain ⟨a1, a2, a3⟩ := List.pairwise_append.mp hA
  obtain ⟨b1, b2, b3⟩ := List.pairwise_append.mp hB
  refine ⟨List.pairwise_append.mpr ⟨List.pairwise_append.mpr ⟨a1, hM.2, fun x hx y hy => ?_⟩, b2, fun x hx y hy => ?_⟩, ?_⟩
  · rcases List.mem_append.mp (hM.1.mem_iff.mp hy) with q | q
    · exact a3 x hx y q
    · exact h1 x hx y (.inl q)
  · rcases List.mem_append.mp hx with q | q
    · exact h1 x q y (.inr hy)
    · rcases List.mem_append.mp (hM.1.mem_iff.mp q) with r | r
      · exact h2 x r y hy
      · exact b3 x r y hy
  · rw [List.append_assoc, List.append_assoc]
    refine List.Perm.append_left _ ?_
    rw [← List.append_assoc]
    exact hM.1.append_right _
section
variable {prog : Program} {w : World} {A : Around} {E : Value → Shared → Prop} {s : Shared} {st : SortSt}
theorem wpS_set {st₁ : SortSt} {Q : PUnit → SortSt → Prop} (h : Q ⟨⟩ st₁) : wpS (model prog w) A E s (set st₁ : StateT SortSt Sem PUnit) Q st := by
  unfold wpS
  rw [StateT.run_set]
  exact wpAny_pure ⟨rfl, h⟩
theorem ext_sz {arr : Array Keyed} {i j : Nat} (h : j ≤ arr.size) : (arr.extract i j).size = j - i := by rw [Array.size_extract, Nat.min_eq_left h]
theorem ext_li (arr : Array Keyed) (i j : Nat) : (arr.extract i j).toList = (arr.toList.drop i).take (j - i) := by rw [Array.toList_extract, List.extract_eq_take_drop]
set_option maxHeartbeats 8000000 in
theorem wpS_mergeAt {m q p p' : Nat} {Q : Bool → SortSt → Prop} (hk : PyProof.Rows.kindOf st = oneType') (hf : failedOf st = none) (hP : pendingOf st = #[(0, m, p), (m, q, p')]) (hz : (arrOf st).size = m + q) (hm : 1 ≤ m) (hq : 1 ≤ q)
    (hi : ∀ i, i < m + q → IntP (el (arrOf st) i)) (hA : ((arrOf st).toList.take m).Pairwise kle) (hB : ((arrOf st).toList.drop m).Pairwise kle)
    (h : ∀ st', failedOf st' = none → (pendingOf st').size = 1 → (arrOf st').Perm (arrOf st) → (arrOf st').toList.Pairwise kle → Q true st') :
    wpS (model prog w) A E s (mergeAt' 0) Q st := by
  obtain ⟨kd, arr, pd, mg, fl⟩ := st
  change kd = oneType' at hk
  change fl = none at hf
  change pd = _ at hP
  change arr.size = m + q at hz
  change ∀ i, i < m + q → IntP (el arr i) at hi
  change (arr.toList.take m).Pairwise kle at hA
  change (arr.toList.drop m).Pairwise kle at hB
  change ∀ st', failedOf st' = none → (pendingOf st').size = 1 → (arrOf st').Perm arr → (arrOf st').toList.Pairwise kle → Q true st' at h
  subst hk hf hP
  have hs1 : ∀ i j, i ≤ j → j < m → kle (el arr i) (el arr j) := by
    intro i j hij hj
    have := el_le (a := arr.extract 0 m) (by rw [ext_hd]; exact hA) hij (by rw [ext_sz (by omega)]; omega)
    rw [el_ext (by omega) (by omega), el_ext (by omega) (by omega), Nat.zero_add, Nat.zero_add] at this
    exact this
  have hs2 : ∀ i j, i ≤ j → j < q → kle (el arr (m + i)) (el arr (m + j)) := by
    intro i j hij hj
    have := el_le (a := arr.extract m arr.size) (by rw [ext_tl]; exact hB) hij (by rw [ext_sz (Nat.le_refl _)]; omega)
    rw [el_ext (Nat.le_refl _) (by omega), el_ext (Nat.le_refl _) (by omega)] at this
    exact this
  have hwhole : (∀ i j, i < m → j < q → kle (el arr i) (el arr (m + j))) → arr.toList.Pairwise kle := by
    intro hc
    rw [← List.take_append_drop m arr.toList]
    refine List.pairwise_append.mpr ⟨hA, hB, fun x hx y hy => ?_⟩
    obtain ⟨i, h1, h2, rfl⟩ := mem_tk hx
    obtain ⟨j, h3, rfl⟩ := mem_dr hy
    exact hc i j h1 (by omega)
  unfold mergeAt'
  refine wpS_bind (wpS_get ?_)
  dsimp only
  rw [show (#[(0, m, p), (m, q, p')] : Array (Nat × Nat × Nat))[0]? = some (0, m, p) from rfl, show (#[(0, m, p), (m, q, p')] : Array (Nat × Nat × Nat))[0 + 1]? = some (m, q, p') from rfl]
  dsimp only
  refine wpS_bind (wpS_set ?_)
  refine wpS_bind (wpS_elem (show m < arr.size by omega) ?_)
  refine wpS_bind (wpS_gallop (base := 0) (n := m) (hint := 0) rfl (hi _ (by omega)) (by omega) (fun i hi' => hi _ (by omega)) (fun i j hij hj => hs1 _ _ (by omega) (by omega)) (by omega) fun k hk1 hk2 hk3 => ?_)
  dsimp only
  simp only [Nat.zero_add] at hk2 hk3 ⊢
  have hpsz : ((#[(0, m, p), (m, q, p')] : Array (Nat × Nat × Nat)).setIfInBounds 0 (0, m + q, p)).eraseIdxIfInBounds (0 + 1) = #[(0, m + q, p)] := by simp [Array.eraseIdxIfInBounds]
  by_cases c1 : m - k = 0
  · rw [if_pos (by simpa using c1)]
    refine wpS_pure (h _ rfl (by show Array.size (Array.eraseIdxIfInBounds _ _) = 1; rw [hpsz]; rfl) (Array.Perm.refl _) (hwhole fun i j h1 h2 => ?_))
    exact Int.le_trans (bey_ff (hk2 i (by omega))) (hs2 0 j (by omega) h2)
  rw [if_neg (by simpa using c1), show k + (m - k) - 1 = m - 1 by omega]
  refine wpS_bind (wpS_elem (show m - 1 < arr.size by omega) ?_)
  refine wpS_bind (wpS_gallop (base := m) (n := q) (hint := q - 1) rfl (hi _ (by omega)) (by omega) (fun i hi' => hi _ (by omega)) hs2 (by omega) fun r hr1 hr2 hr3 => ?_)
  dsimp only
  by_cases c2 : r = 0
  · rw [if_pos (by simpa using c2)]
    refine wpS_pure (h _ rfl (by show Array.size (Array.eraseIdxIfInBounds _ _) = 1; rw [hpsz]; rfl) (Array.Perm.refl _) (hwhole fun i j h1 h2 => ?_))
    exact Int.le_trans (hs1 i (m - 1) (by omega) (by omega)) (bey_tn (hr3 j (by omega) h2))
  rw [if_neg (by simpa using c2)]
  have zx : (arr.extract k m).size = m - k := ext_sz (by omega)
  have zy : (arr.extract m (m + r)).size = r := by rw [ext_sz (by omega)]; omega
  have ha : ∀ i, i < (arr.extract k m).size → IntP (el (arr.extract k m) i) := by
    intro i h1
    rw [zx] at h1
    rw [el_ext (by omega) h1]
    exact hi _ (by omega)
  have hb : ∀ i, i < (arr.extract m (m + r)).size → IntP (el (arr.extract m (m + r)) i) := by
    intro i h1
    rw [zy] at h1
    rw [el_ext (by omega) (by omega)]
    exact hi _ (by omega)
  have lx : (arr.extract k m).toList = (arr.toList.drop k).take (m - k) := ext_li ..
  have ly : (arr.extract m (m + r)).toList = (arr.toList.drop m).take r := by rw [ext_li, Nat.add_sub_cancel_left]
  have eA : arr.toList.take m = arr.toList.take k ++ (arr.extract k m).toList := by
    rw [lx]
    conv => lhs; rw [← Nat.add_sub_cancel' hk1]
    exact List.take_add ..
  have eB : arr.toList.drop m = (arr.extract m (m + r)).toList ++ arr.toList.drop (m + r) := by
    rw [ly, ← List.drop_drop, List.take_append_drop]
  have sA := hA
  rw [eA] at sA
  have sB := hB
  rw [eB] at sB
  have sx := (List.pairwise_append.mp sA).2.1
  have sy := (List.pairwise_append.mp sB).1
  have hfst : ∀ x ∈ (arr.extract k m).toList, kle (el (arr.extract m (m + r)) 0) x := by
    intro x hx
    rw [lx] at hx
    obtain ⟨i, h1, h2, rfl⟩ := mem_el hx
    rw [el_ext (by omega) (by omega), Nat.add_zero]
    exact bey_fn (hk3 (k + i) (by omega) (by omega))
  have hlst : ∀ y ∈ (arr.extract m (m + r)).toList, kle y (el (arr.extract k m) ((arr.extract k m).size - 1)) := by
    intro y hy
    rw [ly] at hy
    obtain ⟨i, h1, h2, rfl⟩ := mem_el hy
    rw [zx, el_ext (by omega) (by omega), show k + (m - k - 1) = m - 1 by omega]
    exact bey_tf (hr2 i h1)
  have fin : ∀ (r' : Array Keyed) (st' : SortSt), PyProof.Rows.kindOf st' = oneType' → arrOf st' = arr → pendingOf st' = #[(0, m + q, p)] → failedOf st' = none → Merged (arr.extract k m).toList (arr.extract m (m + r)).toList r'.toList →
      Q true (SortSt.mk' (PyProof.Rows.kindOf st') (List.foldl (fun a (x : Keyed × Nat) => a.setIfInBounds (k + x.2) x.1) (arrOf st') r'.toList.zipIdx) (pendingOf st') (gallopOf st') (failedOf st')) := by
    intro r' st' s1 s2 s3 s4 hM
    have hlen : r'.toList.length = (m - k) + r := by
      rw [hM.1.length_eq, List.length_append, Array.length_toList, Array.length_toList, zx, zy]
    have hL : (List.foldl (fun a (x : Keyed × Nat) => a.setIfInBounds (k + x.2) x.1) (arrOf st') r'.toList.zipIdx).toList = arr.toList.take k ++ r'.toList ++ arr.toList.drop (m + r) := by
      rw [s2, fold_list (by omega), hlen, show k + (m - k + r) = m + r by omega]
    have hps := parts_sorted sA sB hM (fun x hx y hy => by
      obtain ⟨i, h1, h2, rfl⟩ := mem_tk hx
      have hy' : y ∈ arr.toList.drop m := by rw [eB]; exact List.mem_append.mpr hy
      obtain ⟨j, h3, rfl⟩ := mem_dr hy'
      exact Int.le_trans (bey_ff (hk2 i h1)) (hs2 0 j (by omega) (by omega))) (fun x hx y hy => by
      rw [lx] at hx
      obtain ⟨i, h1, h2, rfl⟩ := mem_el hx
      obtain ⟨j, h3, rfl⟩ := mem_dr hy
      rw [Nat.add_assoc]
      exact Int.le_trans (hs1 (k + i) (m - 1) (by omega) (by omega)) (bey_tn (hr3 (r + j) (by omega) (by omega))))
    refine h _ s4 (by rw [show pendingOf (SortSt.mk' _ _ (pendingOf st') _ _) = pendingOf st' from rfl, s3]; rfl) (Array.perm_iff_toList_perm.mpr ?_) ?_
    · show (Array.toList (List.foldl _ _ _)).Perm arr.toList
      rw [hL]
      refine hps.2.trans ?_
      rw [← eA, ← eB, List.take_append_drop]
    · show (Array.toList (List.foldl _ _ _)).Pairwise kle
      rw [hL]
      exact hps.1
  by_cases c3 : m - k ≤ r
  · rw [if_pos c3]
    refine wpS_bind (wpS_mergeLo rfl ha hb sx sy (by omega) (by omega) hfst hlst fun r' st' hS hM => ?_)
    refine wpS_bind (wpS_modify ?_)
    refine wpS_bind (wpS_get ?_)
    have hfl : failedOf st' = none := hS.2.2.2
    refine wpS_pure ?_
    show Q (failedOf st').isNone _
    rw [hfl]
    exact fin r' st' hS.1 hS.2.1 (hS.2.2.1.trans hpsz) hfl hM
  · rw [if_neg c3]
    refine wpS_bind (wpS_mergeHi rfl ha hb sx sy (by omega) (by omega) hfst hlst fun r' st' hS hM => ?_)
    refine wpS_bind (wpS_modify ?_)
    refine wpS_bind (wpS_get ?_)
    have hfl : failedOf st' = none := hS.2.2.2
    refine wpS_pure ?_
    show Q (failedOf st').isNone _
    rw [hfl]
    exact fin r' st' hS.1 hS.2.1 (hS.2.2.1.trans hpsz) hfl hM
end
end Mine

end
section
namespace Mine
/-- ints as keys -/
@[reducible] def intK : PyProof.Rows.KeyKind where
  α := Int
  blt a b := decide (a < b)
  irrefl a := by simp
  trans a b c h1 h2 := by simp only [decide_eq_true_eq] at *; omega
  negTrans a b c h := by simp only [decide_eq_true_eq] at *; omega
  total a b h1 h2 := by simp only [decide_eq_false_iff_not] at *; omega
  keyOf v := match v with | .int n _ => some n | _ => none
  dflt := 0
theorem intK_oneLt : intK.OneLt := by
  intro prog w A E s x y a b Q ha hb h
  cases x <;> simp only [intK, reduceCtorEq, Option.some.injEq] at ha
  cases y <;> simp only [intK, reduceCtorEq, Option.some.injEq] at hb
  cases ha; cases hb
  exact oneLt_int h
theorem ky_int {p : Keyed} (h : IntP p) : ky intK p = kz p := by
  obtain ⟨p1, p2⟩ := p
  obtain ⟨n, t, rfl⟩ := h
  rfl
theorem intK_keys {a₀ : Array Keyed} (h : IntKeys a₀) : KeysOf intK a₀ := by
  intro p hp
  obtain ⟨n, t, e⟩ := h p hp
  exact ⟨n, by rw [e]⟩
abbrev ix0 : Keyed → Nat := fun _ => 0
theorem ix0_up (a₀ : Array Keyed) : IxUp ix0 a₀ := fun _ _ _ _ => Nat.le_refl _
theorem mem_int {a₀ xs : Array Keyed} (h0 : IntKeys a₀) (hp : xs.Perm a₀) {i : Nat} (hi : i < xs.size) : IntP (el xs i) := by
  have e : xs.toList[i]? = some (el xs i) := el_get hi
  exact h0 _ ((Array.perm_iff_toList_perm.mp hp).mem_iff.mp (List.mem_of_getElem? e))
theorem asc_kle {a₀ xs : Array Keyed} (h0 : IntKeys a₀) (hp : xs.Perm a₀) {lo n : Nat} (hs : AscR intK ix0 xs lo n) (hz : lo + n ≤ xs.size) {i j : Nat} (hij : i ≤ j) (hj : j < n) : kle (el xs (lo + i)) (el xs (lo + j)) := by
  rcases Nat.lt_or_eq_of_le hij with c | c
  · have := (hs i j c hj).kle
    rw [ky_int (mem_int h0 hp (by omega)), ky_int (mem_int h0 hp (by omega))] at this
    have h2 : decide (kz (el xs (lo + j)) < kz (el xs (lo + i))) = false := this
    simp only [decide_eq_false_iff_not] at h2
    exact Int.not_lt.mp h2
  · subst c; exact Int.le_refl _
theorem asc_list {a₀ xs : Array Keyed} (h0 : IntKeys a₀) (hp : xs.Perm a₀) {lo n : Nat} (hs : AscR intK ix0 xs lo n) (hz : lo + n ≤ xs.size) : ((xs.toList.drop lo).take n).Pairwise kle := by
  rw [List.pairwise_iff_getElem]
  intro i j hi hj hij
  have hl : ((xs.toList.drop lo).take n).length = n := by rw [List.length_take, List.length_drop, Array.length_toList]; omega
  have g : ∀ k (hk : k < ((xs.toList.drop lo).take n).length), ((xs.toList.drop lo).take n)[k] = el xs (lo + k) := by
    intro k hk
    have e : ((xs.toList.drop lo).take n)[k]? = some (el xs (lo + k)) := by
      rw [List.getElem?_take, if_pos (by omega), List.getElem?_drop]
      exact el_get (by omega)
    rw [List.getElem?_eq_getElem hk] at e
    exact Option.some.inj e
  rw [g i hi, g j hj]
  exact asc_kle h0 hp hs hz (Nat.le_of_lt hij) (by omega)
section
variable {prog : Program} {w : World} {A : Around} {E : Value → Shared → Prop} {s : Shared} {st : SortSt} {a₀ : Array Keyed}
theorem min_run {n : Nat} (h1 : 64 ≤ n) (h2 : n ≤ 66) : minRun' n n 0 ≤ n ∧ n ≤ 2 * minRun' n n 0 ∧ 1 ≤ minRun' n n 0 := by
  have : n = 64 ∨ n = 65 ∨ n = 66 := by omega
  rcases this with rfl | rfl | rfl <;> decide
set_option maxHeartbeats 8000000 in
theorem wpS_runs66 {Q : Unit → SortSt → Prop} (h0 : IntKeys a₀) (hB : SBase a₀ st) (he : arrOf st = a₀) (h64 : 64 ≤ a₀.size) (h66 : a₀.size ≤ 66)
    (h : ∀ st', (arrOf st').Perm a₀ → failedOf st' = none → (arrOf st').toList.Pairwise kle → Q () st') : wpS (model prog w) A E s sortRuns' Q st := by
  rw [sortRuns'_eq]
  refine wpS_bind (wpS_get ?_)
  dsimp only
  obtain ⟨r1, r2, r3⟩ := min_run h64 h66
  simp only [hB.size]
  generalize minRun' a₀.size a₀.size 0 = mr at r1 r2 r3
  have hKs := intK_keys h0
  -- runs so far: none, one, or two
  refine wpS_bind (wpS_mono (wpS_forRange
    (I := fun x c st' => (x = 0 ∧ c = (none, 0) ∧ st' = st) ∨
      (x = 1 ∧ ∃ m, c = (none, m) ∧ mr ≤ m ∧ m < a₀.size ∧ SG a₀ a₀ #[(0, m, 0)] 0 m st' ∧ AscR intK ix0 (arrOf st') 0 m) ∨
      (c = (none, a₀.size) ∧ 1 ≤ x ∧ (arrOf st').Perm a₀ ∧ PyProof.Rows.kindOf st' = oneType' ∧ failedOf st' = none ∧
        (((pendingOf st').size = 1 ∧ (arrOf st').toList.Pairwise kle) ∨ ∃ m p p', 1 ≤ m ∧ m < a₀.size ∧ pendingOf st' = #[(0, m, p), (m, a₀.size - m, p')] ∧ ((arrOf st').toList.take m).Pairwise kle ∧ ((arrOf st').toList.drop m).Pairwise kle)))
    (Q := fun c st' => c = (none, a₀.size) ∧ (arrOf st').Perm a₀ ∧ PyProof.Rows.kindOf st' = oneType' ∧ failedOf st' = none ∧
        (((pendingOf st').size = 1 ∧ (arrOf st').toList.Pairwise kle) ∨ ∃ m p p', 1 ≤ m ∧ m < a₀.size ∧ pendingOf st' = #[(0, m, p), (m, a₀.size - m, p')] ∧ ((arrOf st').toList.take m).Pairwise kle ∧ ((arrOf st').toList.drop m).Pairwise kle)) ?step ?fin (.inl ⟨rfl, rfl, rfl⟩)) ?post)
  case fin =>
    rintro c st' (⟨hx, _, _⟩ | ⟨hx, _⟩ | ⟨hc, _, hr⟩)
    · omega
    · omega
    · exact ⟨hc, hr⟩
  case step =>
    rintro x c st' _ hx (⟨rfl, rfl, rfl⟩ | ⟨rfl, m, rfl, hm1, hm2, hB1, hs1⟩ | ⟨rfl, hx1, hr⟩)
    · dsimp only
      rw [if_neg (by omega)]
      simp only [Nat.sub_zero, Nat.zero_add, Nat.min_eq_right r1]
      have hB0 : SG a₀ a₀ #[] 0 0 st' := ⟨hB.perm, hB.kind, hB.failed, hB.pend, fun i hi => by omega, fun i _ => by rw [he], fun i hi => by omega⟩
      -- the end of the turn, for a run of n
      have fin : ∀ n st2, mr ≤ n → n ≤ a₀.size → SG a₀ a₀ #[] 0 n st2 → AscR intK ix0 (arrOf st2) 0 n →
          (∃ m, ((none, n) : Option Unit × Nat) = (none, m) ∧ mr ≤ m ∧ m < a₀.size ∧ SG a₀ a₀ #[(0, m, 0)] 0 m (setPending st2 ((pendingOf st2).push (0, n, 0))) ∧ AscR intK ix0 (arrOf st2) 0 m) ∨
          (((none, n) : Option Unit × Nat) = (none, a₀.size) ∧ (arrOf st2).Perm a₀ ∧ PyProof.Rows.kindOf st2 = oneType' ∧ failedOf st2 = none ∧
            ((((pendingOf st2).push (0, n, 0)).size = 1 ∧ (arrOf st2).toList.Pairwise kle) ∨ ∃ m p p', 1 ≤ m ∧ m < a₀.size ∧ (pendingOf st2).push (0, n, 0) = #[(0, m, p), (m, a₀.size - m, p')] ∧ ((arrOf st2).toList.take m).Pairwise kle ∧ ((arrOf st2).toList.drop m).Pairwise kle)) := by
        intro n st2 g1 g2 hB2 hs2
        by_cases c1 : n < a₀.size
        · refine .inl ⟨n, rfl, g1, c1, ⟨hB2.perm, hB2.kind, hB2.failed, ?_, hB2.low, hB2.high, hB2.mid⟩, hs2⟩
          show (pendingOf st2).push _ = _
          rw [hB2.pend]
          rfl
        · have e : n = a₀.size := by omega
          subst e
          refine .inr ⟨rfl, hB2.perm, hB2.kind, hB2.failed, .inl ⟨?_, ?_⟩⟩
          · rw [hB2.pend]; rfl
          · have := asc_list h0 hB2.perm hs2 (by rw [hB2.size]; omega)
            rw [List.drop_zero, List.take_of_length_le (by rw [Array.length_toList, hB2.size]; exact Nat.le_refl _)] at this
            exact this
      refine wpS_bind (wpS_runG intK_oneLt hKs (ix0_up a₀) (by omega) (by omega) hB0 fun n st2 hB2 hn1 hn2 hs2 => ?_)
      dsimp only
      by_cases hlt : n < mr
      · rw [if_pos hlt]
        refine wpS_bind (wpS_lift (wpAny_rule ⟨rfl, ?_⟩))
        refine wpS_bind (wpS_binG intK_oneLt hKs (ix0_up a₀) (by omega) hn1 (by omega) hB2 hs2 fun st3 hB3 hs3 => ?_)
        simp only [Bool.not_true, Bool.false_eq_true, if_false]
        refine wpS_bind (wpS_get ?_)
        have hb : (pendingOf st3).back? = none := by rw [hB3.pend]; rfl
        rw [hb]
        dsimp only
        exact wpS_bind (wpS_modify (wpS_pure ((fin mr st3 (Nat.le_refl _) r1 hB3 hs3).elim (fun q => .inr (.inl ⟨by first | trivial | rfl, q⟩)) fun q => .inr (.inr ⟨q.1, by omega, q.2⟩))))
      · rw [if_neg hlt]
        refine wpS_bind (wpS_get ?_)
        have hb : (pendingOf st2).back? = none := by rw [hB2.pend]; rfl
        rw [hb]
        dsimp only
        exact wpS_bind (wpS_modify (wpS_pure ((fin n st2 (by omega) hn2 hB2 hs2).elim (fun q => .inr (.inl ⟨by first | trivial | rfl, q⟩)) fun q => .inr (.inr ⟨q.1, by omega, q.2⟩))))
    · dsimp only
      rw [if_neg (by omega)]
      have hB0 : SG a₀ (arrOf st') #[(0, m, 0)] m 0 st' := ⟨hB1.perm, hB1.kind, hB1.failed, hB1.pend, fun i hi => rfl, fun i hi => hB1.high i (by omega), fun i hi => by omega⟩
      have fin : ∀ st2 pw, SG a₀ (arrOf st') #[(0, m, 0)] m (a₀.size - m) st2 → AscR intK ix0 (arrOf st2) m (a₀.size - m) →
          ∃ m' p p', 1 ≤ m' ∧ m' < a₀.size ∧ ((pendingOf st2).modify ((pendingOf st2).size - 1) fun (st, len, _) => (st, len, pw)).push (m, a₀.size - m, 0) = #[(0, m', p), (m', a₀.size - m', p')] ∧ ((arrOf st2).toList.take m').Pairwise kle ∧ ((arrOf st2).toList.drop m').Pairwise kle := by
        intro st2 pw hB2 hs2
        refine ⟨m, pw, 0, by omega, hm2, ?_, ?_, ?_⟩
        · rw [hB2.pend]; rfl
        · have e : (arrOf st2).toList.take m = (arrOf st').toList.take m := by
            refine List.ext_getElem? fun i => ?_
            rw [List.getElem?_take, List.getElem?_take]
            split
            · rename_i c
              rw [Array.getElem?_toList, Array.getElem?_toList]
              exact hB2.low i c
            · rfl
          rw [e]
          have := asc_list h0 hB1.perm hs1 (by rw [hB1.size]; omega)
          rw [List.drop_zero] at this
          exact this
        · have := asc_list h0 hB2.perm hs2 (by rw [hB2.size]; omega)
          rw [List.take_of_length_le (by rw [List.length_drop, Array.length_toList, hB2.size]; exact Nat.le_refl _)] at this
          exact this
      refine wpS_bind (wpS_runG intK_oneLt hKs (ix0_up a₀) (by omega) (by omega) hB0 fun n st2 hB2 hn1 hn2 hs2 => ?_)
      dsimp only
      by_cases hlt : n < mr
      case' pos =>
        rw [if_pos hlt]
        simp only [Nat.min_eq_left (show a₀.size - m ≤ mr by omega)]
        refine wpS_bind (wpS_lift (wpAny_rule ⟨rfl, ?_⟩))
        refine wpS_bind (wpS_binG intK_oneLt hKs (ix0_up a₀) (by omega) hn1 hn2 hB2 hs2 fun st3 hB3 hs3 => ?_)
        simp only [Bool.not_true, Bool.false_eq_true, if_false]
      case' neg =>
        rw [if_neg hlt]
        have e : n = a₀.size - m := by omega
        subst e
        generalize st2 = st3 at hB2 hs2 ⊢
        have hB3 := hB2
        have hs3 := hs2
      all_goals (
        refine wpS_bind (wpS_get ?_)
        have hb : (pendingOf st3).back? = some (0, m, 0) := by rw [hB3.pend]; rfl
        rw [hb]
        dsimp only
        refine wpS_bind (wpS_mono (wpS_forRange (I := fun _ c st4 => st4 = st3 ∧ c = (none, ())) (Q := fun c st4 => st4 = st3 ∧ c = (none, ())) ?_ (fun _ _ hh => hh) ⟨rfl, rfl⟩) ?_)
        · rintro y c st4 _ _ ⟨rfl, rfl⟩
          refine wpS_bind (wpS_get ?_)
          rw [if_neg (by rw [hB3.pend]; exact Nat.lt_irrefl _)]
          exact wpS_pure ⟨rfl, rfl⟩
        · rintro c st4 ⟨rfl, rfl⟩
          dsimp only
          refine wpS_bind (wpS_modify (wpS_bind (wpS_modify (wpS_pure (.inr (.inr ⟨?_, by omega, hB3.perm, hB3.kind, hB3.failed, .inr (fin _ _ hB3 hs3)⟩))))))
          rw [Nat.add_sub_cancel' (Nat.le_of_lt hm2)])
    · dsimp only
      rw [if_pos (Nat.le_refl _)]
      exact wpS_pure ⟨rfl, hr⟩
  case post =>
    rintro c st1 ⟨rfl, hp1, hk1, hf1, hor⟩
    dsimp only
    refine wpS_bind (wpS_mono (wpS_forRange (I := fun x c st' => c = (none, ()) ∧ (((pendingOf st').size = 1 ∧ (arrOf st').Perm a₀ ∧ failedOf st' = none ∧ (arrOf st').toList.Pairwise kle) ∨ (x = 0 ∧ st' = st1)))
      (Q := fun c st' => c = (none, ()) ∧ (arrOf st').Perm a₀ ∧ failedOf st' = none ∧ (arrOf st').toList.Pairwise kle) ?_ ?_ ⟨rfl, .inr ⟨rfl, rfl⟩⟩) ?_)
    · rintro x c st' _ hx ⟨rfl, (⟨hz, hp, hf, hs⟩ | ⟨rfl, rfl⟩)⟩
      · refine wpS_bind (wpS_get ?_)
        rw [if_pos (by omega)]
        exact wpS_pure ⟨rfl, hp, hf, hs⟩
      · rcases hor with ⟨hz, hs⟩ | ⟨m, p, p', g1, g2, hP, sA, sB⟩
        · refine wpS_bind (wpS_get ?_)
          rw [if_pos (by omega)]
          exact wpS_pure ⟨rfl, hp1, hf1, hs⟩
        · refine wpS_bind (wpS_get ?_)
          have hsz : (pendingOf st').size = 2 := by rw [hP]; rfl
          rw [if_neg (by omega)]
          simp only [hsz, Nat.sub_self, Nat.lt_irrefl, gt_iff_lt, if_false, Option.any_none, Bool.false_eq_true]
          have hzz := hp1.size_eq
          refine wpS_bind (wpS_mergeAt hk1 hf1 hP (by omega) g1 (by omega) (fun i hi => mem_int h0 hp1 (by omega)) sA sB fun st2 a1 a2 a3 a4 => ?_)
          simp only [Bool.not_true, Bool.false_eq_true, if_false]
          exact wpS_pure ⟨rfl, .inl ⟨a2, a3.trans hp1, a1, a4⟩⟩
    · rintro c st' ⟨rfl, (⟨hz, hp, hf, hs⟩ | ⟨hx, _⟩)⟩
      · exact ⟨rfl, hp, hf, hs⟩
      · exfalso; omega
    · rintro c st' ⟨rfl, hp, hf, hs⟩
      exact wpS_pure (h st' hp hf hs)
end
end Mine

end
section
namespace Mine
theorem sortedTo_of {xs : Array Keyed} (h : xs.toList.Pairwise kle) : SortedTo xs xs.size := by
  intro i j hij hj
  have e : ∀ k, k < xs.size → K xs k = kz (el xs k) := by
    intro k hk
    rw [K_eq hk]
    have := el_get hk
    rw [Array.getElem?_toList, getElem?_pos xs k hk] at this
    rw [← Option.some.inj this]
    rfl
  rw [e i (by omega), e j hj]
  exact el_le h hij hj
section
variable {prog : Program} {w : World} {A : Around} {E : Value → Shared → Prop} {s : Shared}
set_option maxHeartbeats 4000000 in
theorem sort66 {a : Addr} {vs : List Value} {ns : List Int} {n : Nat} {P : PySem.Fin → Shared → Prop} (ho : s.heap.get? a = some (seqObj "list" vs.toArray n)) (hI : IntsAre vs ns) (h64 : 64 ≤ vs.length) (h66 : vs.length ≤ 66)
    (h : ∀ (out : Array Value) (ns' : List Int), IntsAre out.toList ns' → ns'.Perm ns → ns'.Pairwise (· ≤ ·) → P (.done (.ret .none)) { s with heap := sortedHeap s.heap a vs out }) :
    wpAny (model prog w) A (Builtin.«list.sort» ⟨[.ref a], []⟩) P E s := by
  have ha : a < s.heap.objs.size := Heap.lt_size ho
  have hz : vs.toArray.size = vs.length := by simp
  rw [list_sort_plain]
  refine wpAny_bind (listItems_at ho rfl (wpAny_bind (listUpdate_at ho rfl ?_)))
  obtain ⟨e1, o1⟩ : ∃ e1, (s.heap.update a (Obj.mapSeq fun _ => #[])).get? a = some (seqObj "list" #[] e1) := ⟨_, get?_update_seq ho (fun _ => #[])⟩
  refine wpAny_bind (seqEpoch_at o1 rfl (wpAny_bind (wpAny_newTuple (wpAny_bind (wpAny_newList (wpAny_holding ?_))))))
  have o6 : (((s.heap.update a (Obj.mapSeq fun _ => #[])).push (seqObj "tuple" vs.toArray 0)).push (seqObj "list" #[] 0)).get? a = some (seqObj "list" #[] e1) := by
    rw [Heap.get?_push_ne _ _ _ (by rw [size_push', Heap.size_update]; exact Nat.ne_of_lt (Nat.lt_succ_of_lt ha)), Heap.get?_push_ne _ _ _ (by rw [Heap.size_update]; exact Nat.ne_of_lt ha)]
    exact o1
  change wpAny (model prog w) A _ P E { s with heap := ((s.heap.update a (Obj.mapSeq fun _ => #[])).push (seqObj "tuple" vs.toArray 0)).push (seqObj "list" #[] 0) }
  dsimp only
  have h2 : ¬ vs.toArray.size < 2 := by omega
  rw [if_neg h2, if_neg h2]
  obtain ⟨v₁, v₂, rest, rfl⟩ : ∃ v₁ v₂ rest, vs = v₁ :: v₂ :: rest := by
    match vs, h64 with
    | v₁ :: v₂ :: rest, _ => exact ⟨v₁, v₂, rest, rfl⟩
  rw [keyKind_ints hI]
  refine wpAny_bind (wpAny_pure (wpAny_bind (wpAny_mono (wpS_runs66 (a₀ := pairsOf (v₁ :: v₂ :: rest)) (st := SortSt.mk' oneType' (pairsOf (v₁ :: v₂ :: rest)) #[] 7 none)
    (Q := fun _ st' => (arrOf st').Perm (pairsOf (v₁ :: v₂ :: rest)) ∧ failedOf st' = none ∧ (arrOf st').toList.Pairwise kle)
    hI.intKeys ⟨Array.Perm.refl _, rfl, rfl, rfl⟩ rfl (by rw [pairsOf_size]; exact h64) (by rw [pairsOf_size]; exact h66) fun st' a1 a2 a3 => ⟨a1, a2, a3⟩) ?_ fun _ _ e => e)))
  rintro ⟨⟨⟩, st'⟩ s' ⟨rfl, hp, hf, hs⟩
  dsimp only
  refine wpAny_bind (seqEpoch_at o6 rfl (wpAny_bind (listUpdate_at o6 rfl ?_ (hsz2 := by refine Nat.le_trans (Nat.le_of_eq ((Array.size_map ..).trans (hp.size_eq.trans (pairsOf_size _)))) ?_; rw [sizeLine_eq]; omega))))
  rw [hf]
  simp only [bne_self_eq_false, Bool.false_eq_true, if_false]
  obtain ⟨ns', h1, h3, h4⟩ := sorted_out hI hp (by rw [← hp.size_eq]; exact sortedTo_of hs)
  exact wpAny_pure (h _ ns' h1 h3 h4)
theorem sorted66 {l : Addr} {vs : List Value} {ns : List Int} {Q : Value → Shared → Prop} (hl : s.heap.IsList l vs.toArray) (hI : IntsAre vs ns) (h64 : 64 ≤ vs.length) (h66 : vs.length ≤ 66)
    (h : ∀ (out : Array Value) (ns' : List Int), IntsAre out.toList ns' → ns'.Perm ns → ns'.Pairwise (· ≤ ·) → Q (.ref (s.heap.objs.size + 1)) { s with heap := sortedAll s.heap vs out }) :
    wpAny (model prog w) A (call (.builtin "sorted") [.ref l]) Q E s := by
  refine Calls.call_function_entry kind_sorted plain_sorted entry_sorted (args_sorted1 _) ?_
  unfold Builtin.«sorted»
  refine wpAny_bind (m := checkCount "sorted" 1 1 _) (wpAny_pure (wpAny_bind (collect_list hl (wpAny_bind (wpAny_newList ?_)) (by rw [sizeLine_eq]; omega))))
  have hz : ((s.heap.push (seqObj "list" #[] 0)).update s.heap.objs.size (Obj.mapSeq (· ++ vs.toArray))).objs.size = s.heap.objs.size + 1 := by rw [Heap.size_update, size_push']
  have oL : (((s.heap.push (seqObj "list" #[] 0)).update s.heap.objs.size (Obj.mapSeq (· ++ vs.toArray))).push (seqObj "list" vs.toArray 0)).get? (s.heap.objs.size + 1) = some (seqObj "list" vs.toArray 0) := by
    rw [← hz]; exact Heap.get?_push_size _ rfl
  change wpAny _ _ _ _ _ { s with heap := ((s.heap.push (seqObj "list" #[] 0)).update s.heap.objs.size (Obj.mapSeq (· ++ vs.toArray))).push (seqObj "list" vs.toArray 0) }
  rw [hz]
  refine wpAny_bind (wpAny_holding (wpAny_call_entry slot_list_sort ⟨_, oL, rfl⟩ entry_list_sort (sort66 oL hI h64 h66 fun out ns' a1 a2 a3 => ⟨_, rfl, ?_⟩) (args_list_sort _)))
  exact wpAny_pure ⟨_, rfl, h out ns' a1 a2 a3⟩
theorem sorted_any {h₀ : Heap} {L l : Addr} {m : Str → Option Value} {news : List (Addr × Obj)} {vs : List Value} {ns : List Int} {Q : Value → Shared → Prop} (F : Fr h₀ L s.heap m) (N : News h₀ L s.heap news) (hl : s.heap.IsList l vs.toArray) (hi : IntsAre vs ns) (h66 : ns.length ≤ 66)
    (h : ∀ D vs' ns' c h', Fr h₀ L h' m → News h₀ L h' ((D, PySem.W.listOf vs'.toArray c) :: news) → (∀ q ∈ news, q.1 < D) → IntsAre vs' ns' → ns'.Perm ns → ns'.Pairwise (· ≤ ·) → Q (.ref D) { s with heap := h' }) :
    wpAny (model prog w) A (call (.builtin "sorted") [.ref l]) Q E s := by
  have e1 := IntsAre.length hi
  by_cases c : ns.length < 64
  · exact kso_sorted F N hl hi c fun D vs' ns' c' h' F' N' l1 i' _ p' o' _ => h D vs' ns' c' h' F' N' l1 i' p' o'
  · refine sorted66 hl hi (by omega) (by omega) fun out ns' a1 a2 a3 => ?_
    obtain ⟨e, he⟩ := sortedAll_at s.heap vs out
    exact h _ out.toList ns' e _ (F.kept fun _ _ => sortedAll_old) (N.kept_cons F (fun _ _ => sortedAll_old) (Nat.le_succ _) he) (fun p hp => Nat.lt_succ_of_lt (Heap.lt_size (N p hp).1)) a1 a2 a3
end
end Mine

end
section
namespace Mine
local macro_rules | `(tactic| walk_at "mine enter") => `(tactic| (refine wpAny_call ?_; k_dflt (refine' enter ?k1 ?k2 ?k3 ?k4 ?k5 ?kA ?kF ?kK ?k6 ?k7 ?k8 ?k9 ?kB ?_ ?c2 ?c3 ?c4 ?c5; (case kA => exact rfl); (case kF => exact rfl); (case kK => assumption); (case k1 => k_asm); (case k2 => k_asm); (case k3 => k_asm); (case k4 => exact News.nil); (case k5 => k_asm); (case k6 => k_is); (case k7 => k_is); (case k8 => ktr_room); (case k9 => exact BindsTo.of_eq rfl); (case c5 => decide); (case kB => exact locs rfl); (case c2 => exact rfl); (case c3 => exact rfl); (case c4 => exact rfl); k_whole; intro g' L' h' hG' FG' F' N' B' X' T' lt'; (try dsimp only); (try k_fold))))
def coll (a b : Str) : Int := b2i (decide (b.cps.toList < a.cps.toList)) - b2i (decide (a.cps.toList < b.cps.toList))
abbrev G1 (w : World) (f : Addr) := Gives PySem.Challenge.rw_dm0203_01.row.prog w (Mine.hd.heap_39 w.params) Mine.hd.view_39 (looseW Mine.hd.view_39 []) f
def digit (a : Str) (k : Int) : Int := if k < (a.length : Int) then ((Txt.item a k).cps.getD 0 0 : Int) + 1 else 0
def number (a : Str) : Int := 1114113 * (1114113 * (1114113 * (1114113 * 0 + digit a 0) + digit a 1) + digit a 2) + digit a 3
local macro_rules | `(tactic| walk_at "mine keep") => `(tactic| exact fun b9 o9 e9 => (by assumption : ∀ (b : Addr) (o : Obj), _ → _) b9 o9 ((by assumption : ∀ (b : Addr) (o : Obj), _ → ¬ _ → _) b9 o9 e9 (fun h9 => nomatch h9)))
theorem keep2 {A B C : Heap} (h1 : ∀ b o, A.get? b = some o → ¬ b ∈ List.map (fun x : Addr × Obj => x.1) [] → B.get? b = some o) (h2 : ∀ b o, B.get? b = some o → C.get? b = some o) : ∀ b o, A.get? b = some o → C.get? b = some o :=
  fun b o e => h2 b o (h1 b o e fun h => nomatch h)
set_option maxHeartbeats 8000000 in
theorem coll_gives (w : World) (a : Str) (ta : Tok) (b : Str) (tb : Tok) : G1 w 21 [.str a ta, .str b tb] (fun _ => True) (fun tl r => tl = [] ∧ ∃ t, r = .int (coll a b) t) := by
  unfold G1; k_fill
  intro mean mg mb dp un gd cn cs a₁ ccd cl outer A₀ base h₀ L m s Q E B F X T hk hp hd hu ret
  walk_at "mine enter"
  k_steps
  exact ret _ [] _ _ (by k_asm) (keep2 (by assumption) (by assumption)) (fun _ h => nomatch h) ⟨rfl, _, rfl⟩
theorem digit_pos {a : Str} {k : Int} (h : k < (a.length : Int)) : digit a k = ((Txt.item a k).cps.getD 0 0 : Int) + 1 := if_pos h
theorem digit_neg {a : Str} {k : Int} (h : ¬ k < (a.length : Int)) : digit a k = 0 := if_neg h
theorem num0 {a : Str} (h : ¬ 0 + ((0 : Nat) : Int) < (a.length : Int)) : number a = 1114113 * (1114113 * (1114113 * (1114113 * 0))) := by
  unfold number; rw [digit_neg (by omega), digit_neg (by omega), digit_neg (by omega), digit_neg (by omega)]; omega
theorem num1 {a : Str} (h : 0 + ((0 : Nat) : Int) < (a.length : Int)) (h' : ¬ 0 + ((0 + 1 : Nat) : Int) < (a.length : Int)) : number a = 1114113 * (1114113 * (1114113 * (1114113 * 0 + (((Txt.item a (0 + ((0 : Nat) : Int))).cps.getD 0 0 : Int) + 1)))) := by
  show number a = 1114113 * (1114113 * (1114113 * (1114113 * 0 + (((Txt.item a 0).cps.getD 0 0 : Int) + 1))))
  unfold number; rw [digit_pos (by omega), digit_neg (by omega), digit_neg (by omega), digit_neg (by omega)]; omega
theorem num2 {a : Str} (h : 0 + ((0 + 1 : Nat) : Int) < (a.length : Int)) (h' : ¬ 0 + ((0 + 1 + 1 : Nat) : Int) < (a.length : Int)) : number a = 1114113 * (1114113 * (1114113 * (1114113 * 0 + (((Txt.item a (0 + ((0 : Nat) : Int))).cps.getD 0 0 : Int) + 1)) + (((Txt.item a (0 + ((0 + 1 : Nat) : Int))).cps.getD 0 0 : Int) + 1))) := by
  show number a = 1114113 * (1114113 * (1114113 * (1114113 * 0 + (((Txt.item a 0).cps.getD 0 0 : Int) + 1)) + (((Txt.item a 1).cps.getD 0 0 : Int) + 1)))
  unfold number; rw [digit_pos (by omega), digit_pos (by omega), digit_neg (by omega), digit_neg (by omega)]; omega
theorem num3 {a : Str} (h : 0 + ((0 + 1 + 1 : Nat) : Int) < (a.length : Int)) (h' : ¬ 0 + ((0 + 1 + 1 + 1 : Nat) : Int) < (a.length : Int)) : number a = 1114113 * (1114113 * (1114113 * (1114113 * 0 + (((Txt.item a (0 + ((0 : Nat) : Int))).cps.getD 0 0 : Int) + 1)) + (((Txt.item a (0 + ((0 + 1 : Nat) : Int))).cps.getD 0 0 : Int) + 1)) + (((Txt.item a (0 + ((0 + 1 + 1 : Nat) : Int))).cps.getD 0 0 : Int) + 1)) := by
  show number a = 1114113 * (1114113 * (1114113 * (1114113 * 0 + (((Txt.item a 0).cps.getD 0 0 : Int) + 1)) + (((Txt.item a 1).cps.getD 0 0 : Int) + 1)) + (((Txt.item a 2).cps.getD 0 0 : Int) + 1))
  unfold number; rw [digit_pos (by omega), digit_pos (by omega), digit_pos (by omega), digit_neg (by omega)]; omega
theorem num4 {a : Str} (h : 0 + ((0 + 1 + 1 + 1 : Nat) : Int) < (a.length : Int)) : number a = 1114113 * (1114113 * (1114113 * (1114113 * 0 + (((Txt.item a (0 + ((0 : Nat) : Int))).cps.getD 0 0 : Int) + 1)) + (((Txt.item a (0 + ((0 + 1 : Nat) : Int))).cps.getD 0 0 : Int) + 1)) + (((Txt.item a (0 + ((0 + 1 + 1 : Nat) : Int))).cps.getD 0 0 : Int) + 1)) + (((Txt.item a (0 + ((0 + 1 + 1 + 1 : Nat) : Int))).cps.getD 0 0 : Int) + 1) := by
  show number a = 1114113 * (1114113 * (1114113 * (1114113 * 0 + (((Txt.item a 0).cps.getD 0 0 : Int) + 1)) + (((Txt.item a 1).cps.getD 0 0 : Int) + 1)) + (((Txt.item a 2).cps.getD 0 0 : Int) + 1)) + (((Txt.item a 3).cps.getD 0 0 : Int) + 1)
  unfold number; rw [digit_pos (by omega), digit_pos (by omega), digit_pos (by omega), digit_pos (by omega)]
set_option maxHeartbeats 8000000 in
theorem number_gives (w : World) (a : Str) (ta : Tok) (hl : a.length ≤ 4) : G1 w 28 [.str a ta] (fun _ => True) (fun tl r => tl = [] ∧ ∃ t, r = .int (number a) t) := by
  unfold G1; k_fill
  intro mean mg mb dp un gd cn cs a₁ ccd cl outer A₀ base h₀ L m s Q E B F X T hk hp hd hu ret
  walk_at "mine enter"
  k_steps
  all_goals (
    refine ret _ [] _ _ (by k_asm) (keep2 (by assumption) (by assumption)) (fun _ h => nomatch h) ⟨rfl, _, congrArg (fun v => Value.int v _) ?_⟩
    first | (have hN := num4 (a := a) (by assumption); exact hN.symm) | (have hN := num3 (a := a) (by assumption) (by assumption); exact hN.symm) | (have hN := num2 (a := a) (by assumption) (by assumption); exact hN.symm) | (have hN := num1 (a := a) (by assumption) (by assumption); exact hN.symm) | (have hN := num0 (a := a) (by assumption); exact hN.symm))
end Mine

end
section
namespace Mine
def slt (a b : Str) : Prop := a.cps.toList < b.cps.toList
theorem slt_irrefl (a : Str) : ¬ slt a a := List.lt_irrefl _
theorem slt_trans {a b c : Str} (h : slt a b) (k : slt b c) : slt a c := List.lt_trans h k
theorem str_ext {a b : Str} (h : a.cps.toList = b.cps.toList) : a = b := by
  cases a; cases b; congr 1; exact Array.toList_inj.mp h
theorem slt_tri (a b : Str) : slt a b ∨ a = b ∨ slt b a := by
  by_cases h : slt a b
  · exact .inl h
  · by_cases k : slt b a
    · exact .inr (.inr k)
    · exact .inr (.inl (str_ext (List.le_antisymm (List.not_lt.mp k) (List.not_lt.mp h))))
theorem b2i_t {p : Prop} [Decidable p] (h : p) : b2i (decide p) = 1 := by unfold b2i; rw [decide_eq_true h]; rfl
theorem b2i_f {p : Prop} [Decidable p] (h : ¬ p) : b2i (decide p) = 0 := by unfold b2i; rw [decide_eq_false h]; rfl
theorem coll_lt {a b : Str} (h : slt a b) : coll a b = -1 := by
  have k : ¬ slt b a := fun q => slt_irrefl _ (slt_trans h q)
  unfold coll
  rw [b2i_f (p := b.cps.toList < a.cps.toList) k, b2i_t (p := a.cps.toList < b.cps.toList) h]; rfl
theorem coll_gt {a b : Str} (h : slt b a) : coll a b = 1 := by
  have k : ¬ slt a b := fun q => slt_irrefl _ (slt_trans h q)
  unfold coll
  rw [b2i_t (p := b.cps.toList < a.cps.toList) h, b2i_f (p := a.cps.toList < b.cps.toList) k]; rfl
theorem coll_self (a : Str) : coll a a = 0 := by
  unfold coll
  omega
theorem coll_cases (a b : Str) : (coll a b = -1 ∧ slt a b) ∨ (coll a b = 0 ∧ a = b) ∨ (coll a b = 1 ∧ slt b a) := by
  rcases slt_tri a b with h | h | h
  · exact .inl ⟨coll_lt h, h⟩
  · exact .inr (.inl ⟨h ▸ coll_self a, h⟩)
  · exact .inr (.inr ⟨coll_gt h, h⟩)
theorem coll_turn (a b : Str) : coll b a = - coll a b := by
  unfold coll; omega

def Good (t : Str) : Prop := t.length ≤ 4 ∧ ∀ c ∈ t.cps.toList, c < 1114112
def SortedS (tb : List Str) : Prop := tb.Pairwise slt
def TB (xs tb : List Str) : Prop := SortedS tb ∧ (∀ x, x ∈ tb ↔ x ∈ xs) ∧ tb.length ≤ xs.length
def SB (tb : List Str) (x : Str) (lo hi : Int) (b : Bool) : Prop :=
  0 ≤ lo ∧ lo ≤ hi ∧ hi ≤ (tb.length : Int) ∧ (b = true → x ∈ tb) ∧ (b = false → (∀ (j : Nat) y, (j : Int) < lo → tb[j]? = some y → slt y x) ∧ (∀ (j : Nat) y, hi ≤ (j : Int) → tb[j]? = some y → slt x y))

theorem sb_start (tb : List Str) (x : Str) : SB tb x 0 (tb.length : Int) false := by
  refine ⟨by omega, by omega, by omega, by simp, fun _ => ⟨fun j y h => absurd h (by omega), fun j y h e => ?_⟩⟩
  have := List.getElem?_eq_some_iff.mp e
  obtain ⟨h', _⟩ := this
  omega
theorem pair_lt {tb : List Str} (h : SortedS tb) {i j : Nat} {y z : Str} (hij : i < j) (hi : tb[i]? = some y) (hj : tb[j]? = some z) : slt y z := by
  obtain ⟨h1, rfl⟩ := List.getElem?_eq_some_iff.mp hi
  obtain ⟨h2, rfl⟩ := List.getElem?_eq_some_iff.mp hj
  exact List.pairwise_iff_getElem.mp h i j h1 h2 hij
theorem mid_bounds {lo hi : Int} (h0 : 0 ≤ lo) (h : lo < hi) : lo ≤ (lo + hi).fdiv 2 ∧ (lo + hi).fdiv 2 < hi := by
  rw [Int.fdiv_eq_ediv_of_nonneg _ (by decide)]
  omega
theorem sb_less {tb : List Str} {x y : Str} {lo hi mi : Int} (hs : SortedS tb) (h : SB tb x lo hi false) (h1 : lo ≤ mi) (h2 : mi < hi) (hy : tb[mi.toNat]? = some y) (hl : slt y x) : SB tb x (mi + 1) hi false := by
  obtain ⟨a, b, c, _, e⟩ := h
  refine ⟨by omega, by omega, c, by simp, fun _ => ⟨fun j z hj hz => ?_, (e rfl).2⟩⟩
  rcases Int.lt_or_eq_of_le (show (j : Int) ≤ mi by omega) with q | q
  · exact slt_trans (pair_lt hs (show j < mi.toNat by omega) hz hy) hl
  · have : mi.toNat = j := by omega
    rw [this, hz] at hy
    cases hy
    exact hl
theorem sb_more {tb : List Str} {x y : Str} {lo hi mi : Int} (hs : SortedS tb) (h : SB tb x lo hi false) (h1 : lo ≤ mi) (h2 : mi < hi) (hy : tb[mi.toNat]? = some y) (hl : slt x y) : SB tb x lo mi false := by
  obtain ⟨a, b, c, _, e⟩ := h
  refine ⟨a, by omega, by omega, by simp, fun _ => ⟨(e rfl).1, fun j z hj hz => ?_⟩⟩
  rcases Int.lt_or_eq_of_le hj with q | q
  · exact slt_trans hl (pair_lt hs (show mi.toNat < j by omega) hy hz)
  · have : mi.toNat = j := by omega
    rw [this, hz] at hy
    cases hy
    exact hl
theorem sb_found {tb : List Str} {x : Str} {lo hi : Int} {k : Nat} (h : SB tb x lo hi false) (hy : tb[k]? = some x) : SB tb x lo hi true := by
  obtain ⟨a, b, c, _, _⟩ := h
  exact ⟨a, b, c, fun _ => List.mem_of_getElem? hy, by simp⟩

def insAt (tb : List Str) (k : Nat) (x : Str) : List Str := tb.take k ++ x :: tb.drop k
theorem tb_there {xs tb : List Str} {x : Str} (h : TB xs tb) (hx : x ∈ tb) : TB (xs ++ [x]) tb := by
  refine ⟨h.1, fun y => ?_, by have := h.2.2; simp; omega⟩
  rw [List.mem_append, List.mem_singleton, h.2.1]
  constructor
  · exact .inl
  · rintro (q | rfl)
    · exact q
    · exact (h.2.1 _).mp hx
theorem tb_ins {xs tb : List Str} {x : Str} {lo hi : Int} (h : TB xs tb) (hb : SB tb x lo hi false) (hle : ¬ lo < hi) : TB (xs ++ [x]) (insAt tb lo.toNat x) := by
  obtain ⟨a, b, c, _, e⟩ := hb
  obtain ⟨e1, e2⟩ := e rfl
  have hlt : ∀ y ∈ tb.take lo.toNat, slt y x := by
    intro y hy
    obtain ⟨j, hj⟩ := List.getElem?_of_mem hy
    rw [List.getElem?_take] at hj
    split at hj
    · exact e1 j y (by omega) hj
    · cases hj
  have hgt : ∀ y ∈ tb.drop lo.toNat, slt x y := by
    intro y hy
    obtain ⟨j, hj⟩ := List.getElem?_of_mem hy
    rw [List.getElem?_drop] at hj
    exact e2 _ y (by omega) hj
  have hs : SortedS (tb.take lo.toNat ++ tb.drop lo.toNat) := by rw [List.take_append_drop]; exact h.1
  obtain ⟨s1, s2, s3⟩ := List.pairwise_append.mp hs
  refine ⟨List.pairwise_append.mpr ⟨s1, List.pairwise_cons.mpr ⟨hgt, s2⟩, fun y hy z hz => ?_⟩, fun y => ?_, ?_⟩
  · rcases List.mem_cons.mp hz with rfl | hz
    · exact hlt y hy
    · exact s3 y hy z hz
  · unfold insAt
    rw [List.mem_append, List.mem_cons, List.mem_append, List.mem_singleton, ← h.2.1]
    conv => rhs; rw [← List.take_append_drop lo.toNat tb, List.mem_append]
    constructor
    · rintro (q | q | q)
      · exact .inl (.inl q)
      · exact .inr q
      · exact .inl (.inr q)
    · rintro ((q | q) | q)
      · exact .inl q
      · exact .inr (.inr q)
      · exact .inr (.inl q)
  · have := h.2.2
    unfold insAt
    simp
    omega
theorem ext_ok {a b : Array Value} (ha : a.size ≤ 1000) (hb : b.size ≤ 1000) : ¬(!a.isEmpty && Builtin.List.listTooLong (a.size + b.size)) = true := by
  unfold Builtin.List.listTooLong
  rw [sizeLine_eq]
  simp
  intro _
  omega
theorem le_line {n : Nat} (h : n ≤ 2000) : n ≤ sizeLine := by rw [sizeLine_eq]; omega
theorem idx_le4 (n : Nat) : (Builtin.Str.strSliceIndices (some (-4)) none 1 n).length ≤ 4 := by
  unfold Builtin.Str.strSliceIndices sliceRange
  simp only [show (1 : Int) > 0 by decide, if_true, List.length_map, List.length_range]
  split <;> simp only [Int.ediv_one] <;> omega
theorem slice_good {a b : Str} (ha : Good a) (hb : Good b) : Good (Txt.slice (a ++ b) (some (-4)) none) := by
  have hc : ∀ c ∈ (a ++ b).cps.toList, c < 1114112 := by
    intro c hc
    have : (a ++ b).cps = a.cps ++ b.cps := rfl
    rw [this, Array.toList_append, List.mem_append] at hc
    exact hc.elim (ha.2 c) (hb.2 c)
  unfold Txt.slice
  split
  · rename_i h
    refine ⟨?_, hc⟩
    simp at h
    rw [← h]
    exact idx_le4 _
  · refine ⟨?_, ?_⟩
    · show (List.filterMap _ _).toArray.size ≤ 4
      rw [List.size_toArray]
      exact Nat.le_trans (List.length_filterMap_le _ _) (idx_le4 _)
    · intro c h
      simp only [List.toList_toArray, List.mem_filterMap] at h
      obtain ⟨k, _, hk⟩ := h
      exact hc c (Array.mem_toList_iff.mpr (Array.mem_of_getElem? hk))
theorem sign_good {c : Nat} (hc : c < 1114112) : Good ⟨#[c]⟩ := by
  refine ⟨by show 1 ≤ 4; decide, ?_⟩
  intro d hd
  simp at hd
  omega
theorem stA {texts : List Str} {pre : List Int} {n : Int} {a : Str} (h : ∀ t ∈ texts, Good t) (h' : texts.length = pre.length) (ha : Good a) : a.length ≤ 4 ∧ (∀ c ∈ a.cps.toList, c < 1114112) ∧ (∀ t ∈ texts ++ [a], Good t) ∧ (texts ++ [a]).length = (pre ++ [n]).length := by
  refine ⟨ha.1, ha.2, fun t ht => ?_, by simp [h']⟩
  rcases List.mem_append.mp ht with ht | ht
  · exact h t ht
  · rw [List.mem_singleton.mp ht]; exact ha
theorem code_lt (x : Int) : ((((if x < 0 then -x else x).fdiv 3).fmod 1114112).toNat) < 1114112 := by
  have h0 := Int.fmod_nonneg_of_pos ((if x < 0 then -x else x).fdiv 3) (b := 1114112) (by decide)
  have h1 := Int.fmod_lt_of_pos ((if x < 0 then -x else x).fdiv 3) (b := 1114112) (by decide)
  omega
theorem stA0 : (Str.ofString "").length ≤ 4 ∧ (∀ c ∈ (Str.ofString "").cps.toList, c < 1114112) ∧ (∀ t ∈ ([] : List Str), Good t) ∧ ([] : List Str).length = ([] : List Int).length := by
  refine ⟨by decide, by decide, by simp, rfl⟩
end Mine

end
section
namespace Mine
section
variable {prog : Program} {w : World} {A : Around} {E : Value → Shared → Prop} {s : Shared} {env : Env} {h₀ : Heap} {x : Str} {body : List Stmt} {Q : Flow → Shared → Prop}

abbrev storedB : List Str := [Str.ofString "low", Str.ofString "high", Str.ofString "there", Str.ofString "middle", Str.ofString "told"]
abbrev LedB (lT : Addr) (rest : List (Addr × Obj)) (c : List Value × List Str × Nat) : List (Addr × Obj) := (lT, listOf c.1.toArray c.2.2) :: rest
abbrev PB (ts : List Str) (i : Nat) (c : List Value × List Str × Nat) : Prop := StrsAre c.1 c.2.1 ∧ TB (ts.take i) c.2.1
abbrev JB (lX : Addr) (vs : List Value) (nn : Nat) (lT : Addr) (rest : List (Addr × Obj)) (ts : List Str) (x : Str) (m₀ : Str → Option Value) (i : Nat) : (Str → Option Value) → List (Addr × Obj) → Prop :=
  fun m' nx => (lX, listOf vs.toArray nn) ∈ nx ∧ Stt (LedB lT rest) (fun _ => []) x storedB m₀ (PB ts) i m' nx

theorem loopB {lT lX : Addr} {vs : List Value} {ts : List Str} {nn : Nat} {m₀ : Str → Option Value} {rest : List (Addr × Obj)}
    (hh : A.handled = none) (F : Fr h₀ env.locals s.heap m₀) (N : News h₀ env.locals s.heap ((lT, listOf #[] 0) :: rest)) (hX : (lX, listOf vs.toArray nn) ∈ rest) (hS : StrsAre vs ts) (hG : ∀ t ∈ ts, Good t) (hlen : ts.length ≤ 66)
    (turn : ∀ (tvs : List Value) (tb : List Str) (n : Nat) (pre : List Str) (y : Str) (t : Tok) (u : Str → Option Value) (h : Heap) (tk : Nat) (own : List (Addr × Obj)) (i : Nat), ts.take (i + 1) = pre ++ [y] → Good y → OwnOff own (lT :: rest.map (·.1)) → StrsAre tvs tb → TB pre tb → tb.length ≤ 66 →
      Fr h₀ env.locals h (fun z => if z = x then some (.str y t) else if storedB.contains z then u z else m₀ z) → News h₀ env.locals h ((lT, listOf tvs.toArray n) :: (rest ++ own)) →
      wpAny (model prog w) A (execs body env) (InvPostG h₀ env.locals (JB lX vs nn lT rest ts x m₀ (i + 1)) own { s with heap := h, toks := tk } Q) E { s with heap := h, toks := tk })
    (done : StrsAre vs ts → (∀ t ∈ ts, Good t) → ts.length ≤ 66 → ∀ (tvs : List Value) (tb : List Str) (n : Nat) (u : Str → Option Value) (h : Heap) (tk : Nat), StrsAre tvs tb → TB ts tb → tb.length ≤ 66 → (∀ t ∈ tb, Good t) →
      Fr h₀ env.locals h (fun z => if z = x then u z else if storedB.contains z then u z else m₀ z) → News h₀ env.locals h ((lT, listOf tvs.toArray n) :: rest) → Q .next { s with heap := h, toks := tk }) :
    wpAny (model prog w) A (pyIter (.ref lX)) (fun it s₂ => LoopAtV prog w A h₀ env x body Q E it s₂) E s := by
  refine loop_list (LedB lT rest) (fun _ => []) storedB (PB ts) ([], [], 0) hh (fun c => List.mem_cons.mpr (.inr hX)) F N (fun _ h => nomatch h) ⟨.nil, ?_⟩ ?_ ?_
  · exact ⟨.nil, by simp, by simp⟩
  · rintro ⟨tvs, tb, n⟩ i v u h tk own hv hoff ⟨hs, ht⟩ F₁ N₁
    obtain ⟨y, t, rfl, hy⟩ := hS.item i v hv
    have e : ts.take (i + 1) = ts.take i ++ [y] := by rw [List.take_add_one, hy]; rfl
    have hl : tb.length ≤ 66 := by
      have h1 := ht.2.2
      have h2 : (ts.take i).length ≤ ts.length := by rw [List.length_take]; omega
      exact Nat.le_trans (Nat.le_trans h1 h2) hlen
    exact turn tvs tb n (ts.take i) y t u h tk own i e (hG y (List.mem_of_getElem? hy)) hoff hs ht hl F₁ N₁
  · rintro ⟨tvs, tb, n⟩ u h tk ⟨hs, ht⟩ F₁ N₁
    have e : vs.length = ts.length := hS.length
    rw [e, List.take_length] at ht
    exact done hS hG hlen tvs tb n u h tk hs ht (Nat.le_trans ht.2.2 hlen) (fun t h => hG t ((ht.2.1 t).mp h)) F₁ N₁

theorem endB {lT lX : Addr} {vs : List Value} {ts : List Str} {nn : Nat} {m₀ : Str → Option Value} {rest : List (Addr × Obj)} {tvs : List Value} {n : Nat} {L : Addr} {m' : Str → Option Value} {own : List (Addr × Obj)} {s₁ : Shared} {h' : Heap} {tk : Nat} {i : Nat} {pre : List Str} {y : Str}
    (tb : List Str) (F : Fr h₀ L h' m') (N : News h₀ L h' ((lT, listOf tvs.toArray n) :: (rest ++ own))) (hX : (lX, listOf vs.toArray nn) ∈ rest) (hoff : OwnOff own (lT :: rest.map (·.1))) (hs : StrsAre tvs tb) (ht : TB (pre ++ [y]) tb) (e : ts.take (i + 1) = pre ++ [y])
    (hr : ∀ z, z ≠ x → storedB.contains z = false → m' z = m₀ z) :
    InvEndG h₀ L (JB lX vs nn lT rest ts x m₀ (i + 1)) own s₁ { s₁ with heap := h', toks := tk } := by
  refine loop_end (Led := LedB lT rest) (ps := fun _ => []) (tvs, tb, n) F N (List.mem_cons.mpr (.inr hX)) (fun q hq => ?_) (fun q hq => List.mem_cons.mpr (.inr (List.mem_append.mpr (.inr hq)))) hoff (fun _ h => nomatch h) (fun z h1 _ h3 => hr z h1 h3) ⟨hs, by rw [e]; exact ht⟩
  rcases List.mem_cons.mp hq with rfl | hq
  · exact .head _
  · exact List.mem_cons.mpr (.inr (List.mem_append.mpr (.inl hq)))

abbrev psW (c : Int × Tok × Int × Tok × Bool) : List (Str × Value) := [(Str.ofString "low", .int c.1 c.2.1), (Str.ofString "high", .int c.2.2.1 c.2.2.2.1), (Str.ofString "there", .bool c.2.2.2.2)]
abbrev storedW : List Str := [Str.ofString "middle", Str.ofString "told"]
abbrev muW (c : Int × Tok × Int × Tok × Bool) : Nat := (c.2.2.1 - c.1).toNat + (if c.2.2.2.2 then 0 else 1)
abbrev PW (tb : List Str) (y : Str) (c : Int × Tok × Int × Tok × Bool) : Prop := SB tb y c.1 c.2.2.1 c.2.2.2.2
theorem whileB {L : Addr} {test : Expr} {pos : Pos} {m₀ : Str → Option Value} {news : List (Addr × Obj)} (tb : List Str) (y : Str) {t1 t2 : Tok}
    (F : Fr h₀ L s.heap m₀) (N : News h₀ L s.heap news) (h1 : m₀ (Str.ofString "low") = some (.int 0 t1)) (h2 : m₀ (Str.ofString "high") = some (.int (tb.length : Int) t2)) (h3 : m₀ (Str.ofString "there") = some (.bool false))
    (turn : ∀ (lo hi : Int) (u1 u2 : Tok) (b : Bool) (u : Str → Option Value) h tk, SB tb y lo hi b →
      Fr h₀ L h (fun z => if z = Str.ofString "low" then some (.int lo u1) else if z = Str.ofString "high" then some (.int hi u2) else if z = Str.ofString "there" then some (.bool b) else if storedW.contains z then u z else m₀ z) → News h₀ L h news →
      wpAny (model prog w) A (isTrue test env (eval test env)) (fun b' s₂ =>
        if b' = true then wpAny (model prog w) A (execs body env) (KswPost h₀ L s (fun _ => news) psW (fun _ => True) storedW m₀ (PW tb y) muW Q (lo, u1, hi, u2, b)) E s₂ else Q .next s₂) E { s with heap := h, toks := tk })
    (hE : PassesOwn (model prog w) A env E := by passes_own) :
    wpAny (model prog w) A (exec (.While test body [] pos) env) Q E s := by
  refine ksw_while (σ := Int × Tok × Int × Tok × Bool) (fun _ => news) psW (fun _ => True) storedW (PW tb y) muW (0, t1, (tb.length : Int), t2, false) F N trivial ?_ (sb_start tb y) ?_ hE
  · intro q hq
    simp only [List.mem_cons, List.not_mem_nil, or_false] at hq
    rcases hq with rfl | rfl | rfl
    · exact h1
    · exact h2
    · exact h3
  · rintro ⟨lo, u1, hi, u2, b⟩ u h tk _ hp F₁ N₁
    exact turn lo hi u1 u2 b u h tk hp F₁ N₁
end
end Mine

end
section
namespace Mine
theorem coll3_gives (w : World) (a : Str) (ta : Tok) (b : Str) (tb : Tok) : G1 w 21 [.str a ta, .str b tb] (fun _ => True) (fun tl r => tl = [] ∧ ∃ t, (r = .int (-1) t ∧ slt a b) ∨ (r = .int 0 t ∧ a = b) ∨ (r = .int 1 t ∧ slt b a)) :=
  gives_mono (coll_gives w a ta b tb) fun tl r h => by
    obtain ⟨h1, t, rfl⟩ := h
    refine ⟨h1, t, ?_⟩
    rcases coll_cases a b with ⟨e, h⟩ | ⟨e, h⟩ | ⟨e, h⟩
    · exact .inl ⟨by rw [e], h⟩
    · exact .inr (.inl ⟨by rw [e], h⟩)
    · exact .inr (.inr ⟨by rw [e], h⟩)
theorem slt_asymm {a b : Str} (h : slt a b) (k : slt b a) : False := slt_irrefl _ (slt_trans h k)
theorem slt_ne {a b : Str} (h : slt a b) (e : a = b) : False := slt_irrefl _ (e ▸ h)
theorem slt_ne' {a b : Str} (h : slt a b) (e : b = a) : False := slt_irrefl _ (e ▸ h)
end Mine

end
section
namespace Mine
section
variable {prog : Program} {w : World} {A : Around} {h₀ : Heap} {L : Addr} {m : Str → Option Value} {env : Env} {elt : Expr} {x : Str} {scope : Scope} {cl : List (Str × Addr)}
theorem comp_nums {Fin : Shared → List Value → List (Addr × Obj) → Prop} {ax : Addr} {vs : List Value} {ts : List Str} {k : Nat} {news : List (Addr × Obj)} {s₁ : Shared}
    (hs : StrsAre vs ts) (hg : ∀ t ∈ ts, Good t) (hl : ts.length ≤ 66) (hh : A.handled = none) (F : Fr h₀ L s₁.heap m) (N : News h₀ L s₁.heap news) (hm : (ax, listOf vs.toArray k) ∈ news)
    (turn : ∀ (y : Str) (t : Tok) (ys : List Value) (I : Addr) (oI : Obj) (C : Addr) (oC : Obj) (D : Addr) (m₂ : Str → Option Value) (h : Heap) (tk : Nat) (E' : Value → Shared → Prop), Good y → LCg.SrcAt h₀ ax vs.toArray news → LCg.NsObj oC m₂ → m₂ x = some (.str y t) → Fr h₀ L h m → News h₀ L h ((I, oI) :: (C, oC) :: (D, LCg.lst ys) :: news) → LCg.Off3 I C D news → ((@Ne Nat I C) ∧ (@Ne Nat I D) ∧ (@Ne Nat C D)) →
      wpAny (model prog w) A (eval elt (compEnvC scope cl C env)) (LCg.CompEnd h₀ L m { s₁ with heap := h, toks := tk } I oI C oC D (LCg.lst ys) (LCg.SrcAt h₀ ax vs.toArray) (fun v nw' => nw' = news ∧ ∃ t', v = .int (number y) t')) E' { s₁ with heap := h, toks := tk })
    (fin : ∀ ys g, IntsAre ys (ts.map number) → Fin { s₁ with heap := g } ys news) : LCg.CompSrc prog w A h₀ L m env elt x scope cl Fin (.ref ax) s₁ := by
  have hlen := hs.length
  refine comp_src (fun i ys nw => nw = news ∧ IntsAre ys ((ts.take i).map number)) hh F N hm (le_line (by omega)) ⟨rfl, by simp only [List.take_zero, List.map_nil]; exact .nil⟩ ?_ ?_
  · rintro i ys nw v I oI C oC D m₂ h tk E' ⟨rfl, hy⟩ hv hC hx F' N' off ne
    obtain ⟨y, t, rfl, hy'⟩ := hs.item i v hv
    refine wpAny_mono (turn y t ys I oI C oC D m₂ h tk E' (hg y (List.mem_of_getElem? hy')) (.inr ⟨_, hm, rfl, _, rfl⟩) hC hx F' N' off ne) (fun v s₂ hq => ?_) fun _ _ e => e
    obtain ⟨h', tk', nw', e, F'', N'', off', hS, rfl, t', rfl⟩ := hq
    refine ⟨h', tk', nw', e, F'', N'', off', hS, rfl, ?_⟩
    rw [List.take_add_one, hy']
    simpa using IntsAre.append hy (.cons (number y) t' .nil)
  · rintro ys nw g ⟨rfl, hy⟩
    rw [hlen, List.take_length] at hy
    exact fin ys g hy
end
end Mine

end
section
namespace Mine
section
variable {prog : Program} {w : World} {A : Around} {E : Value → Shared → Prop} {s : Shared} {h₀ : Heap} {L l : Addr} {m : Str → Option Value} {news : List (Addr × Obj)} {vs : List Value} {ns : List Int} {Q : Value → Shared → Prop}
theorem lst_list {h : Heap} {D : Addr} {ys : List Value} (N : News h₀ L h news) (hm : (D, LCg.lst ys) ∈ news) : h.IsList D ys.toArray := ⟨_, (N _ hm).1, rfl, _, rfl⟩
end
def ddStep (acc : List Int) (n : Int) : List Int := if acc = [] ∨ acc.getLast? ≠ some n then acc ++ [n] else acc
def dd (ns : List Int) : List Int := ns.foldl ddStep []
theorem dd_snoc (ns : List Int) (n : Int) : dd (ns ++ [n]) = ddStep (dd ns) n := by unfold dd; rw [List.foldl_append]; rfl
end Mine
namespace Mine
section
variable {prog : Program} {w : World} {A : Around} {E : Value → Shared → Prop} {s : Shared}
theorem ints_last {vs : List Value} {ns : List Int} (hi : IntsAre vs ns) (hne : decide (ns = []) = false) : ∃ x t, ns.getLast? = some x ∧ vs[vs.length - 1]? = some (.int x t) := by
  have h0 : ns ≠ [] := by simpa using hne
  have hl := hi.length
  have hp : 0 < ns.length := List.length_pos_iff.mpr h0
  obtain ⟨t, ht⟩ := hi.get (ns.length - 1) (ns.getLast h0) (by rw [← List.getLast?_eq_getElem?, List.getLast?_eq_some_getLast h0])
  exact ⟨_, t, List.getLast?_eq_some_getLast h0, by rw [hl]; exact ht⟩
theorem item_last {value slice : PySem.Expr} {l : Addr} {vs : List Value} {ns : List Int} {u : Tok} {Q : Value → Shared → Prop} (hl : s.heap.IsList l vs.toArray) (hi : IntsAre vs ns) (hne : decide (ns = []) = false) (h : ∀ x t, ns.getLast? = some x → Q (.int x t) s)
    (hs : subscripted slice false (.ref l) (.int (-1) u) = operate [.ref l, .int (-1) u] (getItem (.ref l) (.int (-1) u))) :
    wpAny (model prog w) A (subscriptTail value slice (.ref l) (.int (-1) u)) Q E s := by
  obtain ⟨x, t, h1, h2⟩ := ints_last hi hne
  have hp : 0 < vs.length := by
    rcases Nat.eq_zero_or_pos vs.length with e | e
    · rw [List.getElem?_eq_none (by omega)] at h2; cases h2
    · exact e
  refine tail_any hl.typeIs slot_list_getitem.lookup (wpAny_getItem_list_neg hl (by decide) (by rw [List.size_toArray]; omega) (by decide) ?_ (h x t h1)) hs
  rw [List.size_toArray, List.getElem?_toArray, show ((-1 : Int) + (vs.length : Int)).toNat = vs.length - 1 by omega]
  exact h2
end
theorem perm_len {ns : List Int} {ts : List Str} {n : Nat} (hp : ns.Perm (ts.map number)) (hl : ts.length ≤ n) : ns.length ≤ n := by rw [hp.length_eq, List.length_map]; exact hl
theorem dd0 : ([] : List Int) = dd [] ∧ ([] : List Int).length ≤ ([] : List Int).length := ⟨rfl, Nat.le_refl _⟩
theorem dd_first {acc pre : List Int} {n : Int} (h : acc = dd pre) (hl : acc.length ≤ pre.length) (e : decide (acc = []) = true) : acc ++ [n] = dd (pre ++ [n]) ∧ (acc ++ [n]).length ≤ (pre ++ [n]).length := by
  refine ⟨?_, by simp; exact hl⟩
  rw [dd_snoc, ← h]
  unfold ddStep
  rw [if_pos (.inl (by simpa using e))]
theorem dd_more {acc pre : List Int} {n x : Int} (h : acc = dd pre) (hl : acc.length ≤ pre.length) (e : acc.getLast? = some x) (hx : x ≠ n) : acc ++ [n] = dd (pre ++ [n]) ∧ (acc ++ [n]).length ≤ (pre ++ [n]).length := by
  refine ⟨?_, by simp; exact hl⟩
  rw [dd_snoc, ← h]
  unfold ddStep
  rw [if_pos (.inr (by rw [e]; simpa using hx))]
theorem dd_same {acc pre : List Int} {n x : Int} (h : acc = dd pre) (hl : acc.length ≤ pre.length) (hne : decide (acc = []) = false) (e : acc.getLast? = some x) (hx : x = n) : acc = dd (pre ++ [n]) ∧ acc.length ≤ (pre ++ [n]).length := by
  refine ⟨?_, by simp; omega⟩
  rw [dd_snoc, ← h]
  unfold ddStep
  rw [if_neg]
  rintro (q | q)
  · simp [q] at hne
  · rw [e, hx] at q; exact q rfl
end Mine

end
section
namespace Mine
theorem nm0 : number ⟨⟨[]⟩⟩ = 0 := rfl
theorem nm1 (x : Nat) : number ⟨⟨[x]⟩⟩ = 1114113 * (1114113 * (1114113 * ((x : Int) + 1))) := by
  have e0 : digit ⟨⟨[x]⟩⟩ 0 = (x : Int) + 1 := rfl
  have e1 : digit ⟨⟨[x]⟩⟩ 1 = 0 := rfl
  have e2 : digit ⟨⟨[x]⟩⟩ 2 = 0 := rfl
  have e3 : digit ⟨⟨[x]⟩⟩ 3 = 0 := rfl
  unfold number; rw [e0, e1, e2, e3]; omega
theorem nm2 (x y : Nat) : number ⟨⟨[x, y]⟩⟩ = 1114113 * (1114113 * (1114113 * ((x : Int) + 1) + (y + 1))) := by
  have e0 : digit ⟨⟨[x, y]⟩⟩ 0 = (x : Int) + 1 := rfl
  have e1 : digit ⟨⟨[x, y]⟩⟩ 1 = (y : Int) + 1 := rfl
  have e2 : digit ⟨⟨[x, y]⟩⟩ 2 = 0 := rfl
  have e3 : digit ⟨⟨[x, y]⟩⟩ 3 = 0 := rfl
  unfold number; rw [e0, e1, e2, e3]; omega
theorem nm3 (x y z : Nat) : number ⟨⟨[x, y, z]⟩⟩ = 1114113 * (1114113 * (1114113 * ((x : Int) + 1) + (y + 1)) + (z + 1)) := by
  have e0 : digit ⟨⟨[x, y, z]⟩⟩ 0 = (x : Int) + 1 := rfl
  have e1 : digit ⟨⟨[x, y, z]⟩⟩ 1 = (y : Int) + 1 := rfl
  have e2 : digit ⟨⟨[x, y, z]⟩⟩ 2 = (z : Int) + 1 := rfl
  have e3 : digit ⟨⟨[x, y, z]⟩⟩ 3 = 0 := rfl
  unfold number; rw [e0, e1, e2, e3]; omega
theorem nm4 (x y z t : Nat) : number ⟨⟨[x, y, z, t]⟩⟩ = 1114113 * (1114113 * (1114113 * ((x : Int) + 1) + (y + 1)) + (z + 1)) + (t + 1) := by
  have e0 : digit ⟨⟨[x, y, z, t]⟩⟩ 0 = (x : Int) + 1 := rfl
  have e1 : digit ⟨⟨[x, y, z, t]⟩⟩ 1 = (y : Int) + 1 := rfl
  have e2 : digit ⟨⟨[x, y, z, t]⟩⟩ 2 = (z : Int) + 1 := rfl
  have e3 : digit ⟨⟨[x, y, z, t]⟩⟩ 3 = (t : Int) + 1 := rfl
  unfold number; rw [e0, e1, e2, e3]; omega
theorem number_lt {a b : Str} (ha : Good a) (hb : Good b) (h : slt a b) : number a < number b := by
  obtain ⟨⟨la⟩⟩ := a
  obtain ⟨⟨lb⟩⟩ := b
  obtain ⟨ha1, ha2⟩ := ha
  obtain ⟨hb1, hb2⟩ := hb
  change la < lb at h
  change la.length ≤ 4 at ha1
  change lb.length ≤ 4 at hb1
  change ∀ c ∈ la, c < 1114112 at ha2
  change ∀ c ∈ lb, c < 1114112 at hb2
  rcases la with _ | ⟨a0, _ | ⟨a1, _ | ⟨a2, _ | ⟨a3, _ | ⟨a4, la⟩⟩⟩⟩⟩ <;> rcases lb with _ | ⟨b0, _ | ⟨b1, _ | ⟨b2, _ | ⟨b3, _ | ⟨b4, lb⟩⟩⟩⟩⟩ <;>
    simp only [List.length_cons, List.length_nil] at ha1 hb1 <;> (try omega) <;>
    simp only [List.mem_cons, List.not_mem_nil, or_false, forall_eq_or_imp, forall_eq, false_implies, implies_true] at ha2 hb2 <;>
    simp only [List.cons_lt_cons_iff, List.nil_lt_cons, List.not_lt_nil, List.lt_irrefl, and_true, and_false, or_false] at h <;>
    simp only [nm0, nm1, nm2, nm3, nm4] <;> omega
end Mine

end
section
namespace Mine
theorem eq_of_mem : ∀ {l k : List Int}, l.Pairwise (· < ·) → k.Pairwise (· < ·) → (∀ x, x ∈ l ↔ x ∈ k) → l = k
  | [], [], _, _, _ => rfl
  | [], b :: k, _, _, h => absurd ((h b).mpr (.head _)) (by simp)
  | a :: l, [], _, _, h => absurd ((h a).mp (.head _)) (by simp)
  | a :: l, b :: k, hl, hk, h => by
    obtain ⟨l1, l2⟩ := List.pairwise_cons.mp hl
    obtain ⟨k1, k2⟩ := List.pairwise_cons.mp hk
    have e : a = b := by
      rcases List.mem_cons.mp ((h a).mp (.head _)) with q | q
      · exact q
      · rcases List.mem_cons.mp ((h b).mpr (.head _)) with r | r
        · exact r.symm
        · have := l1 b r; have := k1 a q; omega
    subst e
    congr 1
    refine eq_of_mem l2 k2 fun x => ⟨fun hx => ?_, fun hx => ?_⟩
    · rcases List.mem_cons.mp ((h x).mp (.tail _ hx)) with q | q
      · have := l1 x hx; omega
      · exact q
    · rcases List.mem_cons.mp ((h x).mpr (.tail _ hx)) with q | q
      · have := k1 x hx; omega
      · exact q
theorem lt_last {acc : List Int} {l : Int} (h : acc.Pairwise (· < ·)) (e : acc.getLast? = some l) : ∀ x ∈ acc, x ≤ l := by
  intro x hx
  obtain ⟨ys, rfl⟩ := List.getLast?_eq_some_iff.mp e
  rcases List.mem_append.mp hx with q | q
  · have := (List.pairwise_append.mp h).2.2 x q l (by simp); omega
  · rw [List.mem_singleton.mp q]; omega
theorem dd_inv : ∀ (rest acc : List Int), acc.Pairwise (· < ·) → rest.Pairwise (· ≤ ·) → (∀ x ∈ acc, ∀ y ∈ rest, x ≤ y) → (rest.foldl ddStep acc).Pairwise (· < ·) ∧ ∀ x, x ∈ rest.foldl ddStep acc ↔ x ∈ acc ∨ x ∈ rest
  | [], acc, h, _, _ => ⟨h, fun x => by simp⟩
  | n :: rest, acc, h, hr, hm => by
    obtain ⟨r1, r2⟩ := List.pairwise_cons.mp hr
    rw [List.foldl_cons]
    by_cases c : acc = [] ∨ acc.getLast? ≠ some n
    · have e : ddStep acc n = acc ++ [n] := if_pos c
      rw [e]
      have hlt : ∀ x ∈ acc, x < n := by
        intro x hx
        have h1 := hm x hx n (.head _)
        cases q : acc.getLast? with
        | none => rw [List.getLast?_eq_none_iff.mp q] at hx; cases hx
        | some l =>
          have h2 := lt_last h q x hx
          have h3 := hm l (List.mem_of_getLast? q) n (.head _)
          have h4 : l ≠ n := by
            rcases c with c | c
            · rw [c] at hx; cases hx
            · intro e; rw [q, e] at c; exact c rfl
          omega
      obtain ⟨a1, a2⟩ := dd_inv rest (acc ++ [n]) (List.pairwise_append.mpr ⟨h, List.pairwise_singleton .., fun x hx y hy => by rw [List.mem_singleton.mp hy]; exact hlt x hx⟩) r2 (fun x hx y hy => by
        rcases List.mem_append.mp hx with q | q
        · exact hm x q y (.tail _ hy)
        · rw [List.mem_singleton.mp q]; exact r1 y hy)
      refine ⟨a1, fun x => (a2 x).trans ?_⟩
      simp only [List.mem_append, List.mem_cons, List.not_mem_nil, or_false]
      constructor
      · rintro ((q | q) | q)
        · exact .inl q
        · exact .inr (.inl q)
        · exact .inr (.inr q)
      · rintro (q | q | q)
        · exact .inl (.inl q)
        · exact .inl (.inr q)
        · exact .inr q
    · have e : ddStep acc n = acc := if_neg c
      rw [e]
      have hn : n ∈ acc := by
        have q : acc.getLast? = some n := Classical.byContradiction fun q => c (.inr q)
        exact List.mem_of_getLast? q
      obtain ⟨a1, a2⟩ := dd_inv rest acc h r2 (fun x hx y hy => hm x hx y (.tail _ hy))
      refine ⟨a1, fun x => (a2 x).trans ?_⟩
      simp only [List.mem_cons]
      constructor
      · rintro (q | q)
        · exact .inl q
        · exact .inr (.inr q)
      · rintro (q | q | q)
        · exact .inl q
        · exact .inl (q ▸ hn)
        · exact .inr q
theorem law1_end {ts tb : List Str} {ns : List Int} (ht : TB ts tb) (hg : ∀ t ∈ tb, Good t) (hp : ns.Perm (ts.map number)) (ho : ns.Pairwise (· ≤ ·)) : tb.map number = dd ns := by
  obtain ⟨a1, a2⟩ := dd_inv ns [] .nil ho (by simp)
  refine eq_of_mem (List.pairwise_map.mpr (ht.1.imp_of_mem fun ha hb h => number_lt (hg _ ha) (hg _ hb) h)) a1 fun x => ?_
  show x ∈ tb.map number ↔ x ∈ dd ns
  rw [show (x ∈ dd ns) = (x ∈ ns.foldl ddStep []) from rfl, a2 x]
  simp only [List.not_mem_nil, false_or]
  rw [hp.mem_iff, List.mem_map, List.mem_map]
  constructor
  · rintro ⟨y, hy, e⟩; exact ⟨y, (ht.2.1 y).mp hy, e⟩
  · rintro ⟨y, hy, e⟩; exact ⟨y, (ht.2.1 y).mpr hy, e⟩
end Mine

end
section
namespace Mine
local macro_rules | `(tactic| walk_at "mine bare") => `(tactic| (repeat (rename _ => z9; revert z9)))
set_option maxHeartbeats 8000000 in
noncomputable def pk1 : { P : Prop // Hide P → PySem.Challenge.rw_dm0203_01.Holds } := park1 _ fun hid1 => by
  k_with "pyIter ref" => k_state (fun pre last texts => last.length ≤ 4 ∧ (∀ c ∈ last.cps.toList, c < 1114112) ∧ (∀ t ∈ texts, Good t) ∧ texts.length = pre.length) "last" "texts$"
  k_with "state" => first | exact stA0 | exact stA (by assumption) (by assumption) (slice_good ⟨by assumption, by assumption⟩ (sign_good (code_lt _))) | exact stA (by assumption) (by assumption) (sign_good (code_lt _))
  refine Mine.hd ?_
  (k_go0; (all_goals try k_fold); k_steps)
  walk_at "mine bare"; intro h1; exact apT h1.out
end Mine

end
section
namespace Mine
theorem good3 {ts : List Str} (h : ∀ t ∈ ts, Good t) : ∀ t ∈ ts ++ [Str.ofString "", Str.ofString "b", Str.ofString "B"], Good t := by
  intro t ht
  rcases List.mem_append.mp ht with ht | ht
  · exact h t ht
  · simp only [List.mem_cons, List.not_mem_nil, or_false] at ht
    rcases ht with rfl | rfl | rfl <;> exact ⟨by decide, by decide⟩
theorem lenX {vs : List Value} {ts : List Str} {n : Nat} (_ : StrsAre vs ts) (h : ts.length ≤ n) : (ts ++ [Str.ofString "", Str.ofString "b", Str.ofString "B"]).length ≤ n + 3 := by
  simp only [List.length_append, List.length_cons, List.length_nil]; omega
local macro_rules | `(tactic| walk_at "mine bare") => `(tactic| (repeat (rename _ => z9; revert z9)))
set_option maxHeartbeats 8000000 in
noncomputable def pk2 : { P : Prop × Prop // Hide P.1 → Hide P.2 → pk1.1 } := park2 _ _ fun hid1 hid2 => by
  intro _
  intros
  k_fill
  (have hS9 := StrsAre.length (by assumption))
  k_dflt (refine' kl_extend ?F ?N ?b ?e ?ne ?U ?d ?z ?y ?_; (case F => k_asm); (case N => k_asm); (case b => k_mem); (case U => k_upd); (case e => rfl); (case ne => exact Nat.succ_ne_zero _); (case d => exact ext_ok (by (rw [List.size_toArray]; omega)) (by show 3 ≤ 1000; decide)); (case z => exact le_line (by (rw [List.toList_toArray]; omega))); (case y => exact Nat.le_succ_of_le (le_line (by (rw [List.size_toArray]; simp only [List.size_toArray, List.length_cons, List.length_nil]; omega)))))
  intro h' F' N'
  k_steps
  (rename Fr _ _ _ _ => lF')
  (rename News _ _ _ _ => lN')
  (rename StrsAre _ _ => hS)
  (rename (∀ t ∈ _, Good t) => hG)
  refine loopB (by rfl) lF' lN' (by with_unfolding_all k_memK) (StrsAre.append' hS (.cons _ _ (.cons _ _ (.cons _ _ .nil)))) (good3 hG) (lenX hS (n := 63) (by omega)) ?_ ?_
  · walk_at "mine bare"; intro h1 h2; exact apT h1.out
  · walk_at "mine bare"; intro h1 h2; exact apT h2.out
end Mine

end
section
namespace Mine
section
variable {tb : List Str} {x y : Str} {lo hi mi : Int} {b : Bool} {t t' u u' : Tok}
theorem sbf_less (hs : SortedS tb) (h : SB tb x lo hi b) (hb : b = false) (h1 : lo ≤ mi ∧ mi < hi) (hy : tb[mi.toNat]? = some y) (hl : slt y x) : SB tb x (mi + 1) hi b := by subst hb; exact sb_less hs h h1.1 h1.2 hy hl
theorem sbf_more (hs : SortedS tb) (h : SB tb x lo hi b) (hb : b = false) (h1 : lo ≤ mi ∧ mi < hi) (hy : tb[mi.toNat]? = some y) (hl : slt x y) : SB tb x lo mi b := by subst hb; exact sb_more hs h h1.1 h1.2 hy hl
theorem sbf_found {k : Nat} (h : SB tb x lo hi b) (hb : b = false) (hy : tb[k]? = some y) (e : y = x) : SB tb x lo hi true := sb_found (hb ▸ h) (e ▸ hy)
theorem mu_less (hb : b = false) (h1 : lo ≤ mi ∧ mi < hi) : muW (mi + 1, t, hi, u, b) < muW (lo, t', hi, u', b) := by subst hb; simp only [muW]; omega
theorem mu_more (hb : b = false) (h1 : lo ≤ mi ∧ mi < hi) : muW (lo, t, mi, u, b) < muW (lo, t', hi, u', b) := by subst hb; simp only [muW]; omega
theorem mu_found (hb : b = false) : muW (lo, t, hi, u, true) < muW (lo, t', hi, u', b) := by subst hb; simp [muW]
end
section
variable {h₀ : Heap} {Q : Flow → Shared → Prop}
theorem endW {L : Addr} {s : Shared} {m₀ m' : Str → Option Value} {news news' : List (Addr × Obj)} {tb : List Str} {y : Str} {lo hi lo' hi' : Int} {u1 u2 t1 t2 : Tok} {b b' : Bool} {h' : Heap} {tk : Nat}
    (F : Fr h₀ L h' m') (N : News h₀ L h' news') (hn : ∀ q ∈ news, q ∈ news') (k1 : m' (Str.ofString "low") = some (.int lo' t1)) (k2 : m' (Str.ofString "high") = some (.int hi' t2)) (k3 : m' (Str.ofString "there") = some (.bool b'))
    (hr : ∀ z, z ≠ Str.ofString "low" → z ≠ Str.ofString "high" → z ≠ Str.ofString "there" → z ≠ Str.ofString "middle" → z ≠ Str.ofString "told" → storedW.contains z = false → m' z = m₀ z) (hp : SB tb y lo' hi' b') (hm : muW (lo', t1, hi', t2, b') < muW (lo, u1, hi, u2, b)) :
    KswEnd h₀ L s (fun _ => news) psW (fun _ => True) storedW m₀ (PW tb y) muW (lo, u1, hi, u2, b) { s with heap := h', toks := tk } := by
  refine ksw_end (lo', t1, hi', t2, b') F N hn trivial ?_ ?_ hp hm
  · intro q hq
    simp only [List.mem_cons, List.not_mem_nil, or_false] at hq
    rcases hq with rfl | rfl | rfl
    · exact k1
    · exact k2
    · exact k3
  · intro z h1 h2
    have e1 := h1 (Str.ofString "low", .int lo' t1) (by simp)
    have e2 := h1 (Str.ofString "high", .int hi' t2) (by simp)
    have e3 := h1 (Str.ofString "there", .bool b') (by simp)
    have e4 : z ≠ Str.ofString "middle" := by rintro rfl; simp at h2
    have e5 : z ≠ Str.ofString "told" := by rintro rfl; simp at h2
    exact hr z e1 e2 e3 e4 e5 h2
end
local macro_rules | `(tactic| walk_at "mine same") => `(tactic| (intro z h1 h2 h3 h4 h5 h6; simp only [if_neg h1, if_neg h2, if_neg h3, if_neg h4, if_neg h5, h6, Bool.false_eq_true, if_false]))

theorem storedB_out {z : Str} (h : storedB.contains z = false) : z ≠ Str.ofString "low" ∧ z ≠ Str.ofString "high" ∧ z ≠ Str.ofString "there" ∧ storedW.contains z = false := by
  refine ⟨?_, ?_, ?_, ?_⟩
  · rintro rfl; simp at h
  · rintro rfl; simp at h
  · rintro rfl; simp at h
  · simp only [List.contains_cons, List.contains_nil, Bool.or_false, Bool.or_eq_false_iff] at h ⊢
    exact ⟨h.2.2.2.1, h.2.2.2.2⟩
theorem endB' {h₀ : Heap} {x : Str} {lT lX : Addr} {vs : List Value} {ts : List Str} {nn : Nat} {m₀ : Str → Option Value} {rest : List (Addr × Obj)} {tvs : List Value} {n : Nat} {L : Addr} {m' : Str → Option Value} {own : List (Addr × Obj)} {s₁ : Shared} {h' : Heap} {tk : Nat} {i : Nat} {pre : List Str} {y : Str}
    (tb : List Str) (F : Fr h₀ L h' m') (N : News h₀ L h' ((lT, listOf tvs.toArray n) :: (rest ++ own))) (hX : (lX, listOf vs.toArray nn) ∈ rest) (hoff : OwnOff own (lT :: rest.map (·.1))) (hs : StrsAre tvs tb) (ht : TB (pre ++ [y]) tb) (e : ts.take (i + 1) = pre ++ [y])
    (hr : ∀ z, z ≠ x → z ≠ Str.ofString "low" → z ≠ Str.ofString "high" → z ≠ Str.ofString "there" → storedW.contains z = false → storedB.contains z = false → m' z = m₀ z) :
    InvEndG h₀ L (JB lX vs nn lT rest ts x m₀ (i + 1)) own s₁ { s₁ with heap := h', toks := tk } :=
  endB tb F N hX hoff hs ht e fun z h1 h2 => hr z h1 (storedB_out h2).1 (storedB_out h2).2.1 (storedB_out h2).2.2.1 (storedB_out h2).2.2.2 h2
theorem sbf_there {tb : List Str} {x : Str} {lo hi : Int} {b : Bool} (h : SB tb x lo hi b) (hb : b = true) : x ∈ tb := h.2.2.2.1 hb
theorem ins_vals {tvs : List Value} {tb : List Str} (hs : StrsAre tvs tb) (k : Nat) (y : Str) (t : Tok) : StrsAre (tvs.take k ++ Value.str y t :: tvs.drop k) (insAt tb k y) :=
  StrsAre.append' (hs.take' k) (.cons _ _ (hs.drop' k))
theorem kl_ins_at {tvs : List Value} {lo : Int} {v : Value} (h0 : 0 ≤ lo) (h1 : lo ≤ (tvs.length : Int)) : kl_ins tvs lo v = tvs.take lo.toNat ++ v :: tvs.drop lo.toNat := by
  unfold kl_ins
  rw [if_neg (by omega), Nat.min_eq_left (by omega)]
theorem kl_ins_of {tvs : List Value} {tb : List Str} {lo : Int} {v : Value} (_ : StrsAre tvs tb) (h0 : 0 ≤ lo) (h1 : lo ≤ (tvs.length : Int)) : kl_ins tvs.toArray.toList lo v = tvs.take lo.toNat ++ v :: tvs.drop lo.toNat := kl_ins_at h0 h1
theorem tbf_ins {xs tb : List Str} {x : Str} {lo hi : Int} {b : Bool} (h : TB xs tb) (hb : SB tb x lo hi b) (e : b = false) (hle : ¬ lo < hi) : TB (xs ++ [x]) (insAt tb lo.toNat x) := tb_ins h (e ▸ hb) hle
theorem fits_idx {k : Int} (h0 : 0 ≤ k) (h1 : k ≤ 1000) : Builtin.List.listFitsIndex k = true := by
  unfold Builtin.List.listFitsIndex
  simp only [Bool.and_eq_true, decide_eq_true_eq]
  omega
local macro_rules | `(tactic| walk_at "mine sameB") => `(tactic| (intro z h1 h2 h3 h4 h5 h6; simp only [if_neg h1, if_neg h2, if_neg h3, if_neg h4, h5, h6, Bool.false_eq_true, if_false]))

local macro_rules | `(tactic| walk_at $s:str) => `(tactic| k_extra $s)
local macro_rules | `(tactic| walk_at "mine coll") => `(tactic| (k_dflt (refine' use_gives (coll3_gives _ _ _ _ _) ?k1 ?k2 ?k3 ?k4 ?k5 ?k6 ?k7 ?k8 ?_; (case k1 => k_asm); (case k2 => k_asm); (case k3 => k_asm); (case k4 => k_asm); (case k5 => exact rfl); (case k6 => exact trivial); (case k7 => ktr_room); (case k8 => ktr_units)); unfold Back))
set_option maxHeartbeats 8000000 in
theorem t2 : pk2.1.1 := by
  intro _
  k_fill
  intros
  rename_i tvs tb n pre y t u h tk own i e hg hoff hs ht hl F₁ N₁
  have kMark := kstMark
  simp only [List.map_cons, List.map_nil, List.cons_append, List.nil_append] at hoff N₁
  have kLen := StrsAre.length hs
  k_with_none
  k_with "exec While BoolOp cons nil" => (
    refine whileB tb y (by k_asm) (by k_asm) (by rfl) (by rfl) (by rfl) ?_
    intro lo hi u1 u2 b v h2 tk2 hSB F2 N2
    have hlo := hSB.1
    have hhi := hSB.2.2.1)
  k_with "subscriptTail Name Name ref int" => (
    first
      | (rename (tvs[_]? = some _) => hzz; have hz1 := hzz)
      | (have hmid := mid_bounds hSB.1 (by assumption)
         obtain ⟨z, tz, hz1, hz2⟩ := strs_at hs (k := (Int.fdiv (lo + hi) 2).toNat) (by omega))
    refine' item_litK ?ia ?ib ?ic ?id ?_ ?ie
    case ia => exact news_list (by k_asm) (by k_memK)
    case ie => with_unfolding_all rfl
    case ib => omega
    case ic => omega
    case id => exact hz1)
  k_with "call ref" => (
    walk_at "mine coll"
    intro r tl h3 tk3 F3 hkeep hnew hOut
    rcases hOut with ⟨rfl, t3, (⟨rfl, hc⟩ | ⟨rfl, hc⟩ | ⟨rfl, hc⟩)⟩
    all_goals (
      have N3 := back_news (by k_asm) (by k_asm) hkeep hnew
      simp only [List.nil_append] at N3
      clear hkeep hnew)
    all_goals try (exfalso; exact slt_irrefl _ (by assumption))
    all_goals try (exfalso; exact slt_asymm (by assumption) (by assumption))
    all_goals try (exfalso; exact slt_ne (by assumption) (by assumption))
    all_goals try (exfalso; exact slt_ne' (by assumption) (by assumption)))
  k_with "InvEndG" => (
    (rename SB _ _ _ _ _ => hSBe)
    (rename News _ _ _ _ => nE)
    first
      | exact endB' _ (by k_asm) nE (by k_memK) (by assumption) hs (tb_there ht (sbf_there hSBe (by assumption))) (by assumption) (by walk_at "mine sameB")
      | exact endB' _ (by k_asm) nE (by k_memK) (by assumption) (ins_vals hs _ _ _) (tbf_ins ht hSBe (by assumption) (by assumption)) (by assumption) (by walk_at "mine sameB"))
  k_with "KswEnd" => (
    (rename SB _ _ _ _ _ => hSBe)
    (rename (_ ≤ Int.fdiv _ _ ∧ _) => hmidE)
    (rename News _ _ _ _ => nE)
    first
      | exact endW (by k_asm) nE (by first | exact fun _ h => h | exact fun _ h => List.Mem.tail _ h) (by rfl) (by rfl) (by rfl) (by walk_at "mine same") (sbf_less ht.1 hSBe (by assumption) hmidE (by assumption) (by assumption)) (mu_less (by assumption) hmidE)
      | exact endW (by k_asm) nE (by first | exact fun _ h => h | exact fun _ h => List.Mem.tail _ h) (by rfl) (by rfl) (by rfl) (by walk_at "mine same") (sbf_found hSBe (by assumption) (by assumption) (by assumption)) (mu_found (by assumption))
      | exact endW (by k_asm) nE (by first | exact fun _ h => h | exact fun _ h => List.Mem.tail _ h) (by rfl) (by rfl) (by rfl) (by walk_at "mine same") (sbf_more ht.1 hSBe (by assumption) hmidE (by assumption) (by assumption)) (mu_more (by assumption) hmidE))
  k_with "call builtin:list.insert" => (
    (rename SB _ _ _ _ _ => hSBe)
    have hleI := hSBe.2.1
    k_dflt (refine' kl_insert ?F ?N ?f ?e ?U ?z ?_; (case F => k_asm); (case N => k_asm); (case U => k_upd); (case f => exact fits_idx hSBe.1 (by omega)); (case e => exact kl_ins_of hs hSBe.1 (by omega)); (case z => exact le_line (by (rw [List.toList_toArray]; omega))))
    intro h' F' N')
  k_steps

end Mine

end
section
namespace Mine
local macro_rules | `(tactic| walk_at $s:str) => `(tactic| (k_extra $s))
local macro_rules | `(tactic| walk_at "mine number") => `(tactic| (k_dflt (refine' use_gives (number_gives _ _ _ ?kg) ?k1 ?k2 ?k3 ?k4 ?k5 ?k6 ?k7 ?k8 ?_; (case k1 => k_asm); (case k2 => k_asm); (case k3 => k_asm); (case k4 => k_asm); (case k5 => exact rfl); (case k6 => exact trivial); (case k7 => ktr_room); (case k8 => ktr_units); (case kg => exact And.left (by assumption : Good _))); unfold Back))
local macro_rules | `(tactic| walk_at "mine comp") => `(tactic| (k_dflt (refine LCg.ListComp_U (F₀ := by k_asm) (by with_unfolding_all rfl) (by decide) (by rfl) (by decide) (by rfl) ?_)))
local macro_rules | `(tactic| walk_at "mine bare") => `(tactic| (repeat (rename _ => z9; revert z9)))
set_option maxHeartbeats 8000000 in
noncomputable def pk3 : { P : Prop // Hide P → pk2.1.2 } := park1 _ fun hid1 => by
  intro _
  k_fill
  intros
  rename_i hSX hGX hlX tvs tb n u h tk hs ht hl hg F₁ N₁
  have kMark := kstMark
  have kLen := StrsAre.length hs
  k_with_none
  k_with "eval ListComp" => (walk_at "mine comp")
  k_with "CompSrc" => (
    first
      | refine comp_nums hSX hGX hlX (by rfl) (by k_asm) (by k_asm) (by k_memK) ?ct ?cf
      | refine comp_nums hs hg hl (by rfl) (by k_asm) (by k_asm) (by k_memK) ?ct ?cf
    case' ct => intro y t ys I oI C oC D m₂ h tk E' hgy hsrc hC hx F' N' off ne
    case' cf => intro ys g hys)
  k_with "call ref" => (
    walk_at "mine number"
    intro r tl h3 tk3 F3 hkeep hnew hOut
    obtain ⟨rfl, t3, rfl⟩ := hOut
    have N3 := back_news (by k_asm) (by k_asm) hkeep hnew
    simp only [List.nil_append] at N3
    clear hkeep hnew)
  k_with "CompEnd" => ((rename News _ _ _ _ => nE); exact LCg.CompEnd.intro (by k_asm) nE _ (fun _ h => h) (by assumption) (by assumption) ⟨rfl, _, rfl⟩)
  k_with "call builtin:sorted" => (
    refine sorted_any (by k_asm) (by k_asm) (lst_list (by k_asm) (by k_memK)) hys (by rw [List.length_map]; exact hlX) ?_
    intro D' vs' ns' c' h' F' N' l1 hi' hp' ho'
    have hLs := perm_len hp' hlX
    k_lt l1)
  k_with "pyIter ref" => (walk_at "mine bare"; intro h1; exact apT h1.out)

  k_steps
end Mine

end
section
namespace Mine
local macro_rules | `(tactic| walk_at $s:str) => `(tactic| (k_extra $s))
local macro_rules | `(tactic| walk_at "mine bare") => `(tactic| (repeat (rename _ => z9; revert z9)))
set_option maxHeartbeats 8000000 in
noncomputable def pk6 : { P : Prop × Prop // Hide P.1 → Hide P.2 → pk3.1 } := park2 _ _ fun hid1 hid2 => by
  intro _
  k_fill
  intros
  k_with_none
  k_state (fun pre nums => nums = dd pre ∧ nums.length ≤ pre.length) "numbers"
  · walk_at "mine bare"; intro h1 h2; exact apT h1.out
  · walk_at "mine bare"; intro h1 h2; exact apT h2.out
end Mine

end
section
namespace Mine
local macro_rules | `(tactic| walk_at $s:str) => `(tactic| (k_extra $s))
set_option maxHeartbeats 8000000 in
theorem t6t : pk6.1.1 := by
  intro _
  k_fill
  intros
  k_with_none
  k_with "subscriptTail Name UnaryOp ref int" => (
    refine item_last (news_list (by k_asm) (by k_memK)) (by assumption) (by assumption) ?_ (by with_unfolding_all rfl)
    intro xl tl hlast)
  k_with "state" => first | exact dd_first (by assumption) (by assumption) (by assumption) | exact dd_more (by assumption) (by assumption) (by assumption) (by assumption) | exact dd_same (by assumption) (by assumption) (by assumption) (by assumption) (by assumption)
  k_steps
end Mine

end
section
namespace Mine
local macro_rules | `(tactic| walk_at $s:str) => `(tactic| (k_extra $s))
local macro_rules | `(tactic| walk_at "mine number") => `(tactic| (k_dflt (refine' use_gives (number_gives _ _ _ ?kg) ?k1 ?k2 ?k3 ?k4 ?k5 ?k6 ?k7 ?k8 ?_; (case k1 => k_asm); (case k2 => k_asm); (case k3 => k_asm); (case k4 => k_asm); (case k5 => exact rfl); (case k6 => exact trivial); (case k7 => ktr_room); (case k8 => ktr_units); (case kg => exact And.left (by assumption : Good _))); unfold Back))
local macro_rules | `(tactic| walk_at "mine comp") => `(tactic| (k_dflt (refine LCg.ListComp_U (F₀ := by k_asm) (by with_unfolding_all rfl) (by decide) (by rfl) (by decide) (by rfl) ?_)))
set_option maxHeartbeats 8000000 in
theorem t6d : pk6.1.2 := by
  intro _
  k_fill
  intros
  k_with_none
  (rename TB _ _ => ht)
  (rename (∀ t ∈ _, Good t) => hg)
  (rename (List.Perm _ _) => hp')
  (rename (List.Pairwise _ _) => ho')
  k_with "eval ListComp" => (walk_at "mine comp")
  k_with "CompSrc" => (
    refine comp_nums (by assumption) hg (by assumption) (by rfl) (by k_asm) (by k_asm) (by k_memK) ?ct ?cf
    case' ct => intro y t ys I oI C oC D m₂ h tk E' hgy hsrc hC hx F' N' off ne
    case' cf => intro ys g hys)
  k_with "call ref" => (
    walk_at "mine number"
    intro r tl h3 tk3 F3 hkeep hnew hOut
    obtain ⟨rfl, t3, rfl⟩ := hOut
    have N3 := back_news (by k_asm) (by k_asm) hkeep hnew
    simp only [List.nil_append] at N3
    clear hkeep hnew)
  k_with "CompEnd" => ((rename News _ _ _ _ => nE); exact LCg.CompEnd.intro (by k_asm) nE _ (fun _ h => h) (by assumption) (by assumption) ⟨rfl, _, rfl⟩)
  (rename (_ = dd _) => hdd)
  k_with "GoodW cons ok" => (rw [decide_eq_true ((law1_end ht hg hp' ho').trans hdd.symm)])
  k_steps
end Mine

end
theorem PySem.Challenge.cw_dm0203_01_holds : PySem.Challenge.rw_dm0203_01.Holds := by
  exact Mine.pk1.2 ⟨Mine.pk2.2 ⟨Mine.t2⟩ ⟨Mine.pk3.2 ⟨Mine.pk6.2 ⟨Mine.t6t⟩ ⟨Mine.t6d⟩⟩⟩⟩
