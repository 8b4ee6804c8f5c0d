import PyProof.Rows.All
import Wide.All
import OpenK.AllK
import Wide.FinOn
import Lean
import PySem.Challenge.RW_dm0203_04
open PySem PySem.W PyProof.Rows PySem.Spec PySem.Calls
set_option Elab.async false
set_option maxRecDepth 100000
namespace Mine
set_option maxHeartbeats 8000000 in
open_top hd for PySem.Challenge.rw_dm0203_04
end Mine
section
namespace Mine

section
variable {prog : Program} {w : World} {A A₀ : Around} {E : Value → Shared → Prop} {s : Shared} {K : Frag} {L : Addr} {h₀ base : Heap} {m mg mb : Str → Option Value} {news : List (Addr × Obj)} {p : Program} {loose : List Str} {mean : ExcName → Option Value}

/-- entering a def of the top: all that the call's ledger does not name is kept, and the end knows it -/
theorem enter {env : Env} {outer : List Env} {R : Result → Shared → Prop} {name qual : Str} {params : Arguments} {body : List Stmt} {scope : Scope} {dV kV doc pm cdv ct oc : Value} {an od : Option Addr} {osl : Array (Option Value)} {f : Addr} {args : Args} {binds : List (Str × Value)}
    (B : Below A₀ base outer h₀) (F : Fr h₀ L s.heap m) (X₀ : K.In h₀) (N : News h₀ L s.heap news) (T : Top p loose mean mg mb h₀) (hA : A.frames = some (env :: outer)) (hf : env.frame = some L) (hke : env.scope.kind = .function)
    (ho : K.lookup f = some ⟨oc, od, .func (fnOf name qual params body scope dV kV doc pm an cdv ct), osl⟩) (hcd : codeIn K cdv qual = true) (hroom : A.depth < recursionLimit)
    (hbind : BindsTo s (fnOf name qual params body scope dV kV doc pm an cdv ct) args binds) (hloc : ∀ y ∈ binds, scope.names.lookup y.1 = some .local)
    (h : ∀ g L' h₁, (∀ b o, s.heap.get? b = some o → b ∉ news.map (·.1) → g.get? b = some o) → Fr h₀ L g m → Fr g L' h₁ (fun y => binds.reverse.lookup y) → News g L' h₁ news → Below A base (env :: outer) g → K.In g → Top p loose mean mg mb g → (∀ q ∈ news, q.1 < L') →
      wpAny (model prog w) (A.deeper (envOf qual scope L' f cdv)) (execs body (envOf qual scope L' f cdv))
        (fun fl s' => LeaveK h₀ L m g (fun r s'' => (∀ b o, g.get? b = some o → s''.heap.get? b = some o) → R r s'') (match fl with | .ret v => v | _ => .none) s')
        (fun e s' => wpAny (model prog w) (A.deeper (envOf qual scope L' f cdv)) (leaving (envOf qual scope L' f cdv) e) (fun _ s'' => R (.error e) s'') (fun e' s'' => R (.error e') s'') s')
        { s with heap := h₁, toks := s.toks + binds.length })
    (hco : scope.isCoroutine = false) (hgen : scope.isGenerator = false) (hk : scope.kind = .function)
    (hcell : ∀ x ∈ scope.names, x.2 ≠ .cell) : codeAny (model prog w) A (.call (.ref f) args) R s := by
  obtain ⟨FG, BG, st, lv⟩ := groundX (R := fun r s'' => (∀ b o, (hideAll s.heap (news.map (·.1))).get? b = some o → s''.heap.get? b = some o) → R r s'') B F N hA hf hke
  refine codeAny_call_def (fd := fnOf name qual params body scope dV kV doc pm an cdv ct) (body := body) (binds := binds) hroom ((X₀.keeps F.keep) _ _ ho) rfl (T.nolimit.keeps F.keep) (codeRec_of (X₀.keeps F.keep) hcd) rfl hbind hcell hloc (fun h₁ hns hk₁ => ?_) hco hgen hk
  refine wpAny_mono (h _ s.heap.objs.size h₁ (fun b o e n => hideAll_get _ e n) FG ⟨hns, fun b o e => hk₁ b o (of_hideAll _ e), Nat.le_of_eq (hideAll_size _ _)⟩
    (fun q hq => ⟨hk₁ _ _ (N q hq).1, Nat.ne_of_lt (Heap.lt_size (N q hq).1), hideAll_none _ (List.mem_map_of_mem hq)⟩) BG (X₀.keeps st) (T.keeps st) (fun q hq => Heap.lt_size (N q hq).1)) (fun fl s' hl => ?_) fun _ _ y => y
  have hl' := hl
  obtain ⟨L', m', news', F', N', k⟩ := hl'
  exact lv _ _ hl F'.keep
end

/-- what a call hands back to its caller: the caller's frame, all that stood, and what is new -/
def Back (h₀ : Heap) (L : Addr) (m : Str → Option Value) (s : Shared) (Q : Value → Shared → Prop) (Out : List (Addr × Obj) → Value → Prop) : Prop :=
  ∀ (r : Value) (tl : List (Addr × Obj)) (h' : Heap) (tk' : Nat), Fr h₀ L h' m → (∀ b o, s.heap.get? b = some o → h'.get? b = some o) →
    (∀ q ∈ tl, h'.get? q.1 = some q.2 ∧ s.heap.get? q.1 = none) → Out tl r → Q r { s with heap := h', toks := tk' }

/-- a call of a def of the top, from any frame: under Pre (of the caller's heap) it answers by Out -/
def Gives (prog : Program) (w : World) (K : Frag) (p : Program) (loose : List Str) (f : Addr) (vs : List Value) (Pre : Heap → Prop) (Out : List (Addr × Obj) → Value → Prop) : Prop :=
  ∀ (mean : ExcName → Option Value) (mg mb : Str → Option Value) (dp un : Nat) (gd : Option (List Code)) (cn : Str) (cs : Scope) (a : Addr) (ccd : Value) (cl : List (Str × Addr)) (outer : List Env) (A₀ : Around) (base h₀ : Heap) (L : Addr) (m : Str → Option Value) (s : Shared) (Q E : Value → Shared → Prop),
    Below A₀ base outer h₀ → Fr h₀ L s.heap m → K.In h₀ → Top p loose mean mg mb h₀ → cs.kind = .function → Pre s.heap → dp + 2 < recursionLimit → un + 16 < cLine → Back h₀ L m s Q Out →
      wpAny (model prog w) (ktrTop dp un gd cn cs L a ccd cl outer) (call (.ref f) vs) Q E s

theorem back_news {h₀ h' : Heap} {L : Addr} {m : Str → Option Value} {s : Shared} {news tl : List (Addr × Obj)} (F : Fr h₀ L s.heap m) (N : News h₀ L s.heap news)
    (hk : ∀ b o, s.heap.get? b = some o → h'.get? b = some o) (ht : ∀ q ∈ tl, h'.get? q.1 = some q.2 ∧ s.heap.get? q.1 = none) : News h₀ L h' (tl ++ news) := by
  intro q hq
  rcases List.mem_append.mp hq with hq | hq
  · refine ⟨(ht q hq).1, fun e => ?_, ?_⟩
    · obtain ⟨oL, _, _, hL, _⟩ := F.ns
      have := (ht q hq).2
      rw [e, hL] at this
      cases this
    · cases e : h₀.get? q.1 with
      | none => rfl
      | some o =>
        have := (ht q hq).2
        rw [F.keep _ _ e] at this
        cases this
  · exact ⟨hk _ _ (N q hq).1, (N q hq).2⟩
theorem back_off {h₀ h' : Heap} {L : Addr} {s : Shared} {news tl : List (Addr × Obj)} (N : News h₀ L s.heap news)
    (ht : ∀ q ∈ tl, h'.get? q.1 = some q.2 ∧ s.heap.get? q.1 = none) : ∀ q ∈ tl, ∀ r ∈ news, r.1 ≠ q.1 := by
  intro q hq r hr e
  have := (ht q hq).2
  rw [← e, (N r hr).1] at this
  cases this

/-- what holds between a loop's turns: the ledger and the frame by a datum c, and P of it -/
def Stt {σ : Type} (Led : σ → List (Addr × Obj)) (ps : σ → List (Str × Value)) (x : Str) (stored : List Str) (m₀ : Str → Option Value) (P : Nat → σ → Prop) (i : Nat) (m : Str → Option Value) (nx : List (Addr × Obj)) : Prop :=
  ∃ c : σ, nx = Led c ∧ (∀ q ∈ ps c, m q.1 = some q.2) ∧ (∀ z, z ≠ x → (∀ q ∈ ps c, z ≠ q.1) → stored.contains z = false → m z = m₀ z) ∧ P i c

section
variable {prog : Program} {w : World} {A : Around} {E : Value → Shared → Prop} {s : Shared} {env : Env} {h₀ : Heap} {x : Str} {body : List Stmt} {Q : Flow → Shared → Prop}

theorem loop_list {σ : Type} {l : Addr} {vs : List Value} {nn : Nat} {m₀ : Str → Option Value} (Led : σ → List (Addr × Obj)) (ps : σ → List (Str × Value)) (stored : List Str) (P : Nat → σ → Prop) (c₀ : σ)
    (hh : A.handled = none) (hl : ∀ c, (l, listOf vs.toArray nn) ∈ Led c) (F : Fr h₀ env.locals s.heap m₀) (N : News h₀ env.locals s.heap (Led c₀)) (hk : ∀ q ∈ ps c₀, m₀ q.1 = some q.2) (hp : P 0 c₀)
    (turn : ∀ (c : σ) (i : Nat) (v : Value) (u : Str → Option Value) (h : Heap) (tk : Nat) (own : List (Addr × Obj)), vs[i]? = some v → OwnOff own ((Led c).map (·.1)) → P i c →
      Fr h₀ env.locals h (fun y => if y = x then some v else kstB (fun z => if stored.contains z then u z else m₀ z) (ps c) y) → News h₀ env.locals h (Led c ++ own) →
      wpAny (model prog w) A (execs body env) (InvPostG h₀ env.locals (fun m' nx => (l, listOf vs.toArray nn) ∈ nx ∧ Stt Led ps x stored m₀ P (i + 1) m' nx) own { s with heap := h, toks := tk } Q) E { s with heap := h, toks := tk })
    (done : ∀ (c : σ) (u : Str → Option Value) (h : Heap) (tk : Nat), P vs.length c → Fr h₀ env.locals h (fun y => if y = x then u y else kstB (fun z => if stored.contains z then u z else m₀ z) (ps c) y) → News h₀ env.locals h (Led c) → Q .next { s with heap := h, toks := tk }) :
    wpAny (model prog w) A (pyIter (.ref l)) (fun it s₂ => LoopAtV prog w A h₀ env x body Q E it s₂) E s := by
  refine kdl_iter (fun i m nx => Stt Led ps x stored m₀ P i m nx) hh (hl c₀) F N ⟨c₀, rfl, hk, fun _ _ _ _ => rfl, hp⟩ ?_ ?_
  · rintro i v m₁ nx h tk own hv hoff _ ⟨c, rfl, h1, h2, hp'⟩ F₁ N₁
    exact turn c i v m₁ h tk own hv hoff hp' (kst_fr h1 h2 F₁) N₁
  · rintro m₁ nx h tk ⟨c, rfl, h1, h2, hp'⟩ F₁ N₁
    exact done c m₁ h tk hp' (kst_frOut h1 h2 F₁) N₁

theorem loop_end {σ : Type} {l : Addr} {vs : List Value} {nn : Nat} {m₀ : Str → Option Value} {Led : σ → List (Addr × Obj)} {ps : σ → List (Str × Value)} {stored : List Str} {P : Nat → σ → Prop} {i : Nat} (c : σ) {L : Addr} {m' : Str → Option Value} {own news' : List (Addr × Obj)} {s₁ : Shared} {h' : Heap} {tk : Nat}
    (F : Fr h₀ L h' m') (N : News h₀ L h' news') (hl : (l, listOf vs.toArray nn) ∈ Led c) (hn : ∀ q ∈ Led c, q ∈ news') (ho : ∀ q ∈ own, q ∈ news') (ha : OwnOff own ((Led c).map (·.1)))
    (hk : ∀ q ∈ ps c, m' q.1 = some q.2) (hr : ∀ z, z ≠ x → (∀ q ∈ ps c, z ≠ q.1) → stored.contains z = false → m' z = m₀ z) (hp : P i c) :
    InvEndG h₀ L (fun m' nx => (l, listOf vs.toArray nn) ∈ nx ∧ Stt Led ps x stored m₀ P i m' nx) own s₁ { s₁ with heap := h', toks := tk } :=
  InvEndG.intro F N ⟨hl, c, rfl, hk, hr, hp⟩ ha hn ho

theorem loop_range {σ : Type} {r : Addr} {a₀ b₀ : Int} {t₀ u₀ v₀ : Tok} {n : Nat} {m₀ : Str → Option Value} (Led : σ → List (Addr × Obj)) (ps : σ → List (Str × Value)) (stored : List Str) (P : Nat → σ → Prop) (c₀ : σ)
    (hh : A.handled = none) (hr : IsRange s.heap r a₀ b₀ 1 t₀ u₀ v₀) (hsmall : Builtin.Range.small a₀ b₀ 1 = true) (hsz : Builtin.Range.rangeSize a₀ b₀ 1 = (n : Int)) (F : Fr h₀ env.locals s.heap m₀) (N : News h₀ env.locals s.heap (Led c₀)) (hk : ∀ q ∈ ps c₀, m₀ q.1 = some q.2) (hp : P 0 c₀)
    (turn : ∀ (c : σ) (i : Nat) (t : Tok) (u : Str → Option Value) (h : Heap) (tk : Nat) (own : List (Addr × Obj)), i < n → OwnOff own ((Led c).map (·.1)) → P i c →
      Fr h₀ env.locals h (fun y => if y = x then some (.int (a₀ + (i : Int)) t) else kstB (fun z => if stored.contains z then u z else m₀ z) (ps c) y) → News h₀ env.locals h (Led c ++ own) →
      wpAny (model prog w) A (execs body env) (InvPostG h₀ env.locals (Stt Led ps x stored m₀ P (i + 1)) own { s with heap := h, toks := tk } Q) E { s with heap := h, toks := tk })
    (done : ∀ (c : σ) (u : Str → Option Value) (h : Heap) (tk : Nat), P n c → Fr h₀ env.locals h (fun y => if y = x then u y else kstB (fun z => if stored.contains z then u z else m₀ z) (ps c) y) → News h₀ env.locals h (Led c) → Q .next { s with heap := h, toks := tk }) :
    wpAny (model prog w) A (pyIter (.ref r)) (fun it s₂ => LoopAtV prog w A h₀ env x body Q E it s₂) E s := by
  refine wpAny_pyIter_range hr hsmall ?_
  have W : Walks prog w A s.heap.objs.size [s.heap.objs.size] [s.heap.objs.size] n (fun i v => i < n ∧ ∃ t, v = .int (a₀ + i * 1) t)
      (fun i h => IsRangeIter h s.heap.objs.size (a₀ + (i : Nat) * 1) ((n : Int) - (i : Nat)) 1) := (Walks.range hh _ a₀ 1 n).bound
  refine kdr_loop (fun i m nx => Stt Led ps x stored m₀ P i m nx) W (fun _ h => h) (fun _ h => h) ?_ ?_ ?_ ?_ (by show IsRangeIter _ _ _ _ _; rw [hsz]; simpa using Heap.get?_push_size _ rfl) (F.push _) (fun q hq => ⟨Heap.get?_push_of_some _ (N q hq).1, (N q hq).2⟩) ⟨c₀, rfl, hk, fun _ _ _ _ => rfl, hp⟩ ?_ ?_
  · intro i h hi b hb
    rw [List.mem_singleton.mp hb]
    exact ⟨_, hi⟩
  · intro hm
    exact absurd F.ns.lt ((List.mem_singleton.mp hm) ▸ Nat.lt_irrefl _)
  · intro b hb
    rw [List.mem_singleton.mp hb]
    exact next_is_new F
  · intro q hq hI
    exact absurd (Heap.lt_size (N q hq).1) ((List.mem_singleton.mp hI) ▸ Nat.lt_irrefl _)
  · rintro i v m₁ nx h tk own hin ⟨_, t, rfl⟩ hoff ⟨c, rfl, h1, h2, hp'⟩ F₁ N₁
    rw [Int.mul_one] at F₁
    exact turn c i t m₁ h tk own hin hoff hp' (kst_fr h1 h2 F₁) N₁
  · rintro m₁ nx h tk ⟨c, rfl, h1, h2, hp'⟩ F₁ N₁
    exact done c m₁ h tk hp' (kst_frOut h1 h2 F₁) N₁

theorem range_end {σ : Type} {m₀ : Str → Option Value} {Led : σ → List (Addr × Obj)} {ps : σ → List (Str × Value)} {stored : List Str} {P : Nat → σ → Prop} {i : Nat} (c : σ) {L : Addr} {m' : Str → Option Value} {own news' : List (Addr × Obj)} {s₁ : Shared} {h' : Heap} {tk : Nat}
    (F : Fr h₀ L h' m') (N : News h₀ L h' news') (hn : ∀ q ∈ Led c, q ∈ news') (ho : ∀ q ∈ own, q ∈ news') (ha : OwnOff own ((Led c).map (·.1)))
    (hk : ∀ q ∈ ps c, m' q.1 = some q.2) (hr : ∀ z, z ≠ x → (∀ q ∈ ps c, z ≠ q.1) → stored.contains z = false → m' z = m₀ z) (hp : P i c) :
    InvEndG h₀ L (Stt Led ps x stored m₀ P i) own s₁ { s₁ with heap := h', toks := tk } :=
  InvEndG.intro F N ⟨c, rfl, hk, hr, hp⟩ ha hn ho
end
end Mine

end
section
namespace Mine
/-- a goal of a walk that is proved in a theorem of its own -/
structure Hide (P : Prop) : Prop where
  out : P
theorem apT {X : Prop} (h : True → X) : X := h trivial
/-- a walk that parks two of its goals -/
def park2 {H : Prop} (P₁ P₂ : Prop) (h : Hide P₁ → Hide P₂ → H) : { P : Prop × Prop // Hide P.1 → Hide P.2 → H } := ⟨(P₁, P₂), h⟩
end Mine

end
section
namespace Mine
theorem use_gives {prog : Program} {w : World} {K : Frag} {p : Program} {loose : List Str} {f : Addr} {vs : List Value} {Pre : Heap → Prop} {Out : List (Addr × Obj) → Value → Prop} {mean : ExcName → Option Value} {mg mb : Str → Option Value} {dp un : Nat} {gd : Option (List Code)} {cn : Str} {cs : Scope} {a : Addr} {ccd : Value} {cl : List (Str × Addr)} {outer : List Env} {A₀ : Around} {base h₀ : Heap} {L : Addr} {m : Str → Option Value} {s : Shared} {Q E : Value → Shared → Prop}
    (H : Gives prog w K p loose f vs Pre Out) (B : Below A₀ base outer h₀) (F : Fr h₀ L s.heap m) (X : K.In h₀) (T : Top p loose mean mg mb h₀) (hk : cs.kind = .function) (hp : Pre s.heap) (hd : dp + 2 < recursionLimit) (hu : un + 16 < cLine) (ret : Back h₀ L m s Q Out) :
    wpAny (model prog w) (ktrTop dp un gd cn cs L a ccd cl outer) (call (.ref f) vs) Q E s :=
  H mean mg mb dp un gd cn cs a ccd cl outer A₀ base h₀ L m s Q E B F X T hk hp hd hu ret
theorem news_list {h₀ h : Heap} {L l : Addr} {news : List (Addr × Obj)} {vs : List Value} {n : Nat} (N : News h₀ L h news) (hm : (l, listOf vs.toArray n) ∈ news) : h.IsList l vs.toArray := ⟨_, (N _ hm).1, rfl, n, rfl⟩
theorem strs_at {vs : List Value} {ts : List Str} (hs : StrsAre vs ts) {k : Nat} (hk : k < ts.length) : ∃ y t, vs[k]? = some (.str y t) ∧ ts[k]? = some y := by
  obtain ⟨t, ht⟩ := hs.get k ts[k] (List.getElem?_eq_getElem hk)
  exact ⟨_, t, ht, List.getElem?_eq_getElem hk⟩
end Mine
namespace Mine
theorem gives_mono {prog : Program} {w : World} {K : Frag} {p : Program} {loose : List Str} {f : Addr} {vs : List Value} {Pre : Heap → Prop} {Out Out' : List (Addr × Obj) → Value → Prop} (H : Gives prog w K p loose f vs Pre Out) (h : ∀ tl r, Out tl r → Out' tl r) : Gives prog w K p loose f vs Pre Out' :=
  fun mean mg mb dp un gd cn cs a ccd cl outer A₀ base h₀ L m s Q E B F X T hk hp hd hu ret =>
    H mean mg mb dp un gd cn cs a ccd cl outer A₀ base h₀ L m s Q E B F X T hk hp hd hu fun r tl h' tk' F' k n o => ret r tl h' tk' F' k n (h tl r o)
end Mine

end
section
namespace Mine
section
variable {prog : Program} {w : World} {A : Around} {h₀ : Heap} {L : Addr} {m : Str → Option Value} {env : Env} {elt : Expr} {x : Str} {scope : Scope} {cl : List (Str × Addr)}
theorem comp_rest {s : Shared} {S : List (Addr × Obj) → Prop} {P : Nat → Value → Prop} {Fin : List Value → List (Addr × Obj) → Prop} {news : List (Addr × Obj)} {n : Nat} (J : Nat → List Value → List (Addr × Obj) → Prop) (h0 : J 0 [] news)
    (turn : ∀ (i : Nat) (ys : List Value) (nw : List (Addr × Obj)) (v : Value) (I : Addr) (oI : Obj) (C : Addr) (oC : Obj) (D : Addr) (m₂ : Str → Option Value) (h : Heap) (tk : Nat) (E' : Value → Shared → Prop), i < n → J i ys nw → P i v → LCg.NsObj oC m₂ → m₂ x = some v → Fr h₀ L h m → News h₀ L h ((I, oI) :: (C, oC) :: (D, LCg.lst ys) :: nw) → LCg.Off3 I C D nw → ((@Ne Nat I C) ∧ (@Ne Nat I D) ∧ (@Ne Nat C D)) →
      wpAny (model prog w) A (eval elt (compEnvC scope cl C env)) (LCg.CompEnd h₀ L m { s with heap := h, toks := tk } I oI C oC D (LCg.lst ys) S (fun y nw' => J (i + 1) (ys ++ [y]) nw')) E' { s with heap := h, toks := tk })
    (fin : ∀ ys nw, J n ys nw → Fin ys nw) : LCg.CompRest prog w A h₀ L m env elt x scope cl s S P Fin n 0 [] news := by
  have key : ∀ (j i : Nat) (ys : List Value) (nw : List (Addr × Obj)), i + j = n → J i ys nw → LCg.CompRest prog w A h₀ L m env elt x scope cl s S P Fin j i ys nw := by
    intro j
    induction j with
    | zero =>
      intro i ys nw hi hy
      exact LCg.CompRest.zero (fin ys nw ((show i = n by omega) ▸ hy))
    | succ j ih =>
      intro i ys nw hi hy
      refine LCg.CompRest.succ ?_
      intro v I oI C oC D m₂ h tk E' hv hC hx F N off ne
      refine wpAny_mono (turn i ys nw v I oI C oC D m₂ h tk E' (by omega) hy hv hC hx F N off ne) (fun y s₂ hq => ?_) fun _ _ e => e
      obtain ⟨h', tk', nw', e, F', N', off', hS, hj⟩ := hq
      exact ⟨h', tk', nw', e, F', N', off', hS, ih (i + 1) _ _ (by omega) hj⟩
  exact key n 0 [] news (by omega) h0
theorem comp_src {Fin : Shared → List Value → List (Addr × Obj) → Prop} {ax : Addr} {vs : List Value} {k : Nat} {news : List (Addr × Obj)} {s₁ : Shared} (J : Nat → List Value → List (Addr × Obj) → Prop)
    (hh : A.handled = none) (F : Fr h₀ L s₁.heap m) (N : News h₀ L s₁.heap news) (hm : (ax, listOf vs.toArray k) ∈ news) (hsz : vs.length ≤ sizeLine) (h0 : J 0 [] news)
    (turn : ∀ (i : Nat) (ys : List Value) (nw : List (Addr × Obj)) (v : Value) (I : Addr) (oI : Obj) (C : Addr) (oC : Obj) (D : Addr) (m₂ : Str → Option Value) (h : Heap) (tk : Nat) (E' : Value → Shared → Prop), J i ys nw → vs[i]? = some v → LCg.NsObj oC m₂ → m₂ x = some v → Fr h₀ L h m → News h₀ L h ((I, oI) :: (C, oC) :: (D, LCg.lst ys) :: nw) → LCg.Off3 I C D nw → ((@Ne Nat I C) ∧ (@Ne Nat I D) ∧ (@Ne Nat C D)) →
      wpAny (model prog w) A (eval elt (compEnvC scope cl C env)) (LCg.CompEnd h₀ L m { s₁ with heap := h, toks := tk } I oI C oC D (LCg.lst ys) (LCg.SrcAt h₀ ax vs.toArray) (fun y nw' => J (i + 1) (ys ++ [y]) nw')) E' { s₁ with heap := h, toks := tk })
    (fin : ∀ ys nw g, J vs.length ys nw → Fin { s₁ with heap := g } ys nw) : LCg.CompSrc prog w A h₀ L m env elt x scope cl Fin (.ref ax) s₁ := by
  refine LCg.CompSrc.ledger hh F N hm (by rw [List.size_toArray]; exact hsz) fun g => ?_
  have e : vs.toArray.size = vs.length := List.size_toArray ..
  rw [e]
  refine comp_rest J h0 (fun i ys nw v I oI C oC D m₂ h tk E' _ hJ hv hC hx F' N' off ne => ?_) fun ys nw hJ => fin ys nw g hJ
  exact turn i ys nw v I oI C oC D m₂ h tk E' hJ (by simpa using hv) hC hx F' N' off ne
end
end Mine

end
section
namespace Mine
/-- as Gives, the call's own ledger given (it reads objects of its caller's) -/
def GivesN (prog : Program) (w : World) (K : Frag) (p : Program) (loose : List Str) (f : Addr) (vs : List Value) (news₁ : List (Addr × Obj)) (Out : List (Addr × Obj) → Value → Prop) : Prop :=
  ∀ (mean : ExcName → Option Value) (mg mb : Str → Option Value) (dp un : Nat) (gd : Option (List Code)) (cn : Str) (cs : Scope) (a : Addr) (ccd : Value) (cl : List (Str × Addr)) (outer : List Env) (A₀ : Around) (base h₀ : Heap) (L : Addr) (m : Str → Option Value) (s : Shared) (Q E : Value → Shared → Prop),
    Below A₀ base outer h₀ → Fr h₀ L s.heap m → K.In h₀ → Top p loose mean mg mb h₀ → cs.kind = .function → News h₀ L s.heap news₁ → dp + 2 < recursionLimit → un + 16 < cLine → Back h₀ L m s Q Out →
      wpAny (model prog w) (ktrTop dp un gd cn cs L a ccd cl outer) (call (.ref f) vs) Q E s
theorem use_givesN {prog : Program} {w : World} {K : Frag} {p : Program} {loose : List Str} {f : Addr} {vs : List Value} {news₁ : List (Addr × Obj)} {Out : List (Addr × Obj) → Value → Prop} {mean : ExcName → Option Value} {mg mb : Str → Option Value} {dp un : Nat} {gd : Option (List Code)} {cn : Str} {cs : Scope} {a : Addr} {ccd : Value} {cl : List (Str × Addr)} {outer : List Env} {A₀ : Around} {base h₀ : Heap} {L : Addr} {m : Str → Option Value} {s : Shared} {Q E : Value → Shared → Prop}
    (H : GivesN prog w K p loose f vs news₁ Out) (B : Below A₀ base outer h₀) (F : Fr h₀ L s.heap m) (X : K.In h₀) (T : Top p loose mean mg mb h₀) (hk : cs.kind = .function) (hp : News h₀ L s.heap news₁) (hd : dp + 2 < recursionLimit) (hu : un + 16 < cLine) (ret : Back h₀ L m s Q Out) :
    wpAny (model prog w) (ktrTop dp un gd cn cs L a ccd cl outer) (call (.ref f) vs) Q E s :=
  H mean mg mb dp un gd cn cs a ccd cl outer A₀ base h₀ L m s Q E B F X T hk hp hd hu ret
theorem keep3 {h₀ s g h' : Heap} {L : Addr} {news news' : List (Addr × Obj)} (N₀ : News h₀ L s news) (h1 : ∀ b o, s.get? b = some o → b ∉ news.map (·.1) → g.get? b = some o) (h2 : ∀ b o, g.get? b = some o → h'.get? b = some o) (N' : News h₀ L h' news') (hs : ∀ q ∈ news, q ∈ news') : ∀ b o, s.get? b = some o → h'.get? b = some o := by
  intro b o e
  by_cases hb : b ∈ news.map (·.1)
  · obtain ⟨q, hq, rfl⟩ := List.mem_map.mp hb
    rw [(N₀ q hq).1] at e
    cases e
    exact (N' q (hs q hq)).1
  · exact h2 b o (h1 b o e hb)
end Mine

end
section
namespace Mine
section
variable {prog : Program} {w : World} {A : Around} {E : Value → Shared → Prop} {s : Shared} {h₀ : Heap} {L : Addr} {m : Str → Option Value} {env : Env}
/-- what a comprehension over a text's signs asks -/
def TextSrc (prog : Program) (w : World) (A : Around) (h₀ : Heap) (L : Addr) (m : Str → Option Value) (env : Env) (elt : Expr) (x : Str) (scope : Scope) (cl : List (Str × Addr)) (Fin : Shared → List Value → List (Addr × Obj) → Prop) (xv : Value) (s₁ : Shared) : Prop :=
  ∃ y t news, xv = .str y t ∧ A.handled = none ∧ Fr h₀ L s₁.heap m ∧ News h₀ L s₁.heap news ∧ y.cps.size ≤ sizeLine ∧
    ∀ s₂ : Shared, (∃ h, s₂ = { s₁ with heap := h }) → LCg.CompRest prog w A h₀ L m env elt x scope cl s₂ (fun _ => True) (SignAt y) (Fin s₂) y.cps.size 0 [] news
theorem striter_st {I : Addr} {ty : String} {y : Str} {t : Tok} : ∀ i (h h' : Heap) (o : Obj) (nw : List (Addr × Obj)), h.IsStrIter I ty y t i → h.get? I = some o → h'.get? I = some o → (∀ b o, h₀.get? b = some o → h'.get? b = some o) → News h₀ L h' nw → True → h'.IsStrIter I ty y t i :=
  fun i h h' o nw st e e' _ _ _ => by obtain ⟨o', q, r⟩ := st; rw [e] at q; cases q; exact ⟨o, e', r⟩
theorem comp_text {elt iter : Expr} {x : Str} {px : Pos} {scope : Scope} {cl : List (Str × Addr)} {pos : Pos} {Q : Value → Shared → Prop} (_F₀ : Fr h₀ L s.heap m)
    (hclos : closureFor scope env = pure cl) (hcell : ∀ y ∈ scope.names, y.2 ≠ .cell) (hkind : scope.kind = .function)
    (hnames : ∀ y ∈ scope.names, y.2 = .local → scope.names.lookup y.1 = some .local) (hx : scope.names.lookup x = some .local)
    (h : wpAny (model prog w) A (eval iter env) (TextSrc prog w A h₀ L m env elt x scope cl (fun s₂ => LCg.FinE h₀ L m s₂ Q)) E s)
    (hs : ∀ x, foldedSetIterable iter env x = pure x := by intro _; rfl) :
    wpAny (model prog w) A (eval (.ListComp elt [⟨.Name x px, iter, [], 0⟩] scope pos) env) Q E s := by
  rw [eval_ListComp]
  refine wpAny_comprehension_free (use := none) rfl hs hclos hkind hnames (wpAny_mono h (fun xv s₁ h₁ => ?_) fun _ _ e => e)
  obtain ⟨y, t, news, rfl, hh, F, N, hsz, R⟩ := h₁
  have hIL : L ≠ s₁.heap.objs.size := Nat.ne_of_lt F.ns.lt
  have hI₀ : h₀.get? s₁.heap.objs.size = none := next_is_new F
  have offI : ∀ p ∈ news, p.1 ≠ s₁.heap.objs.size := fun p hp => Nat.ne_of_lt (Heap.lt_size (N p hp).1)
  cases ha : y.cps.all (· < 128)
  · refine wpAny_pyIter_wide ha ?_
    refine LCg.block_U (Walks.strWide hh s₁.heap.objs.size y t) hsz (fun i h st => by obtain ⟨o, e, _⟩ := st; exact ⟨o, e⟩) striter_st hcell hkind hx ⟨_, Heap.get?_push_size _ rfl, rfl, rfl⟩ (fun b hb => ?_)
      (F.keeps fun _ _ e => Heap.get?_push_of_some _ e) (N.grown fun _ _ e => Heap.get?_push_of_some _ e) hIL hI₀ offI trivial (R _ ⟨_, rfl⟩) ?_
    · rw [List.mem_singleton.mp hb]
      show s₁.heap.objs.size < (s₁.heap.push _).objs.size
      rw [Heap.size_push]; exact Nat.lt_succ_self _
    · intro D C h tk m' ys news' F' N' o1 hn hC₀ hD₀ hCL hDL hCD offC fin
      refine ⟨m', hn, fun h'' hs'' => fin D h'' tk (F'.change hs'' hCL hC₀) (fun p hp => ?_) o1⟩
      refine ⟨hs''.extBut _ _ ?_ (N' p hp).1, (N' p hp).2⟩
      rcases List.mem_cons.mp hp with rfl | hp
      · exact Ne.symm hCD
      · exact offC p hp
  · refine wpAny_pyIter_ascii ha ?_
    refine LCg.block_U (Walks.strAscii hh s₁.heap.objs.size y t) hsz (fun i h st => by obtain ⟨o, e, _⟩ := st; exact ⟨o, e⟩) striter_st hcell hkind hx ⟨_, Heap.get?_push_size _ rfl, rfl, rfl⟩ (fun b hb => ?_)
      (F.keeps fun _ _ e => Heap.get?_push_of_some _ e) (N.grown fun _ _ e => Heap.get?_push_of_some _ e) hIL hI₀ offI trivial (R _ ⟨_, rfl⟩) ?_
    · rw [List.mem_singleton.mp hb]
      show s₁.heap.objs.size < (s₁.heap.push _).objs.size
      rw [Heap.size_push]; exact Nat.lt_succ_self _
    · intro D C h tk m' ys news' F' N' o1 hn hC₀ hD₀ hCL hDL hCD offC fin
      refine ⟨m', hn, fun h'' hs'' => fin D h'' tk (F'.change hs'' hCL hC₀) (fun p hp => ?_) o1⟩
      refine ⟨hs''.extBut _ _ ?_ (N' p hp).1, (N' p hp).2⟩
      rcases List.mem_cons.mp hp with rfl | hp
      · exact Ne.symm hCD
      · exact offC p hp
/-- the signs' numbers of a text, as a list of ints -/
def codes (y : Str) : List Int := y.cps.toList.map (fun (c : Nat) => (c : Int))
theorem text_codes {elt : Expr} {x : Str} {scope : Scope} {cl : List (Str × Addr)} {Fin : Shared → List Value → List (Addr × Obj) → Prop} {y : Str} {t : Tok} {news : List (Addr × Obj)} {s₁ : Shared}
    (hh : A.handled = none) (F : Fr h₀ L s₁.heap m) (N : News h₀ L s₁.heap news) (hsz : y.cps.size ≤ sizeLine)
    (turn : ∀ (c : Nat) (u : Tok) (ys : List Value) (I : Addr) (oI : Obj) (C : Addr) (oC : Obj) (D : Addr) (m₂ : Str → Option Value) (h : Heap) (tk : Nat) (E' : Value → Shared → Prop), c ∈ y.cps → LCg.NsObj oC m₂ → m₂ x = some (.str ⟨#[c]⟩ u) → Fr h₀ L h m → News h₀ L h ((I, oI) :: (C, oC) :: (D, LCg.lst ys) :: news) → LCg.Off3 I C D news → ((@Ne Nat I C) ∧ (@Ne Nat I D) ∧ (@Ne Nat C D)) →
      wpAny (model prog w) A (eval elt (compEnvC scope cl C env)) (LCg.CompEnd h₀ L m { s₁ with heap := h, toks := tk } I oI C oC D (LCg.lst ys) (fun _ => True) (fun v nw' => nw' = news ∧ ∃ t', v = .int (c : Int) t')) E' { s₁ with heap := h, toks := tk })
    (fin : ∀ ys g, IntsAre ys (codes y) → Fin { s₁ with heap := g } ys news) : TextSrc prog w A h₀ L m env elt x scope cl Fin (.str y t) s₁ := by
  refine ⟨y, t, news, rfl, hh, F, N, hsz, fun s₂ ⟨g, e⟩ => ?_⟩
  subst e
  refine comp_rest (fun i ys nw => nw = news ∧ IntsAre ys ((codes y).take i)) ⟨rfl, by simp only [List.take_zero]; exact .nil⟩ ?_ ?_
  · rintro i ys nw v I oI C oC D m₂ h tk E' hi ⟨rfl, hy⟩ ⟨c, u, hc, rfl⟩ hC hx F' N' off ne
    refine wpAny_mono (turn c u ys I oI C oC D m₂ h tk E' (Array.mem_of_getElem? hc) hC hx F' N' off ne) (fun v s₂ hq => ?_) fun _ _ e => e
    obtain ⟨h', tk', nw', e, F'', N'', off', hS, rfl, t', rfl⟩ := hq
    refine ⟨h', tk', nw', e, F'', N'', off', hS, rfl, ?_⟩
    have e1 : (codes y)[i]? = some (c : Int) := by
      unfold codes
      rw [List.getElem?_map, Array.getElem?_toList, hc]; rfl
    rw [List.take_add_one, e1]
    exact IntsAre.append hy (.cons (c : Int) t' .nil)
  · rintro ys nw ⟨rfl, hy⟩
    have e : (codes y).length = y.cps.size := by unfold codes; simp
    rw [← e, List.take_length] at hy
    exact fin ys g hy
end
end Mine

end
section
namespace Mine
open PySem.SeqAt PySem.MeetsSeq PySem.MeetsSeq2 PySem.MeetsSeq3
open PySem.AutoSeq1 (wpAny_loadPart')
def RcGtAt (A : Around) (s : Shared) (y x : Value) (b : Bool) : Prop :=
  ∀ (prog : Program) (w : World) (E : Value → Shared → Prop) (Q : Value → Shared → Prop), Q (.bool b) s → wpAny (model prog w) A (richCompare .Gt y x) Q E s
def gtFrom (e g : Nat → Bool) (m n : Nat) : Nat → Nat → Bool
  | 0, _ => decide (m > n)
  | k + 1, i => if e i then gtFrom e g m n k (i + 1) else g i
set_option maxHeartbeats 1000000 in
theorem gt_loopAt (l b : Addr) (items items2 : Array Value) (n n2 : Nat) (dd dd2 : Option Addr) (sl sl2 : Array (Option Value)) (e g : Nat → Bool) (k : Nat) :
    ∀ i : Nat, min items.size items2.size - i = k → Meets (Builtin.«list.__eq__.loop» ⟨[.ref l, .ref b, rawInt i, rawInt 4], []⟩)
      (fun A R s => s.heap.get? l = some { cls := .type "list", dict := dd, data := .seq items n, slots := sl } ∧ s.heap.get? b = some { cls := .type "list", dict := dd2, data := .seq items2 n2, slots := sl2 } ∧
        (∀ j (h1 : j < items.size) (h2 : j < items2.size), EqAt A.in1 s items[j] items2[j] (e j)) ∧ (∀ j (h1 : j < items.size) (h2 : j < items2.size), e j = false → RcGtAt A.in1 s items[j] items2[j] (g j)) ∧
        R (.ok (.ret (.bool (gtFrom e g items.size items2.size k i)))) s) := by
  induction k with
  | zero =>
    intro i hk prog w A R s h
    obtain ⟨hp, gg, d, tk, os⟩ := s; obtain ⟨hl, hb, he, hg, h⟩ := h
    wp_walk using wpAny_loadPart' hl, wpAny_loadPart' hb
    rcases Nat.lt_or_ge i items.size with q | q
    · have hi1 : items[((i : Nat) : Int).toNat]? = some items[i] := by simp [q]
      have hi2 : items2[((i : Nat) : Int).toNat]? = none := by simp; omega
      rw [hi1, hi2]
      wp_walk using wpAny_loadPart' hl, wpAny_loadPart' hb
      exact h
    · have hi1 : items[((i : Nat) : Int).toNat]? = none := by simp; omega
      rw [hi1]
      wp_walk using wpAny_loadPart' hl, wpAny_loadPart' hb
      exact h
  | succ k ih =>
    intro i hk prog w A R s h
    obtain ⟨hp, gg, d, tk, os⟩ := s; obtain ⟨hl, hb, he, hg, h⟩ := h
    wp_walk using wpAny_loadPart' hl, wpAny_loadPart' hb
    have hlt : i < items.size := by omega
    have hlt2 : i < items2.size := by omega
    have hi1 : items[((i : Nat) : Int).toNat]? = some items[i] := by simp [hlt]
    have hi2 : items2[((i : Nat) : Int).toNat]? = some items2[i] := by simp [hlt2]
    have hc : ((i : Int) + 1) = ((i + 1 : Nat) : Int) := by push_cast; rfl
    rw [hi1, hi2]
    refine wpAny_bind (he i hlt hlt2 prog w _ _ ?_)
    rw [gtFrom] at h
    cases hb' : e i with
    | true =>
      rw [hb'] at h
      wp_walk
      rw [hc]
      exact ⟨plainId_quiet plain_eq_loop _, codeAny_builtin entry_eq_loop (by
        rw [Around.under_plainId plain_eq_loop _]
        exact ih (i + 1) (by omega) prog w A R _ ⟨hl, hb, he, hg, by simpa using h⟩)⟩
    | false =>
      rw [hb'] at h
      wp_walk using wpAny_loadPart' hl, wpAny_loadPart' hb
      rw [hi1, hi2]
      refine wpAny_bind (hg i hlt hlt2 hb' prog w _ _ ?_)
      wp_walk
      simpa using h

set_option maxHeartbeats 1000000 in
theorem list_gtAt (l b : Addr) (items items2 : Array Value) (n n2 : Nat) (dd dd2 : Option Addr) (sl sl2 : Array (Option Value)) (e g : Nat → Bool) :
    Meets (Builtin.«list.__gt__» ⟨[.ref l, .ref b], []⟩)
      (fun A R s => s.heap.get? l = some { cls := .type "list", dict := dd, data := .seq items n, slots := sl } ∧ s.heap.get? b = some { cls := .type "list", dict := dd2, data := .seq items2 n2, slots := sl2 } ∧
        (∀ j (h1 : j < items.size) (h2 : j < items2.size), EqAt A.in1 s items[j] items2[j] (e j)) ∧ (∀ j (h1 : j < items.size) (h2 : j < items2.size), e j = false → RcGtAt A.in1 s items[j] items2[j] (g j)) ∧
        R (.ok (.ret (.bool (gtFrom e g items.size items2.size (min items.size items2.size) 0)))) s) := by
  intro prog w A R s h
  obtain ⟨hp, gg, d, tk, os⟩ := s; obtain ⟨hl, hb, he, hg, h⟩ := h
  have f3 := AutoSeq1.sub_list_list
  wp_walk using wpAny_loadPart' hl, wpAny_loadPart' hb
  exact ⟨plainId_quiet plain_eq_loop _, codeAny_builtin entry_eq_loop (by
    rw [Around.under_plainId plain_eq_loop _]
    exact gt_loopAt l b items items2 n n2 dd dd2 sl sl2 e g _ 0 rfl prog w A R _ ⟨hl, hb, he, hg, by simpa using h⟩)⟩
section
variable {A : Around} {s : Shared}
theorem RcGtAt.lists {l b : Addr} {items items2 : Array Value} {e g : Nat → Bool} (hl : s.heap.IsList l items) (hb : s.heap.IsList b items2) (hu : A.units < cLine)
    (he : ∀ j (h1 : j < items.size) (h2 : j < items2.size), EqAt A.in1 s items[j] items2[j] (e j)) (hg : ∀ j (h1 : j < items.size) (h2 : j < items2.size), e j = false → RcGtAt A.in1 s items[j] items2[j] (g j)) :
    RcGtAt A s (.ref l) (.ref b) (gtFrom e g items.size items2.size (min items.size items2.size) 0) := fun prog w E Q h => by
  obtain ⟨⟨cls, dd, data, sl⟩, ho, hc, n, hd⟩ := id hl
  obtain ⟨⟨cls2, dd2, data2, sl2⟩, ho2, hc2, n2, hd2⟩ := id hb
  simp only at hc hd hc2 hd2
  subst hc hd hc2 hd2
  exact richCompare_meets_room (op := .Gt) ⟨_, ho, rfl⟩ ⟨_, ho2, rfl⟩ F.slot_list_gt F.entry_list_gt (F.args_list_gt_2 _ _) (list_gtAt l b items items2 n n2 dd dd2 sl sl2 e g)
    ⟨ho, ho2, he, hg, show Value.bool _ ≠ Value.notImplemented ∧ Q (.bool _) s from ⟨(fun x => nomatch x), h⟩⟩ hu
theorem RcGtAt.ints (x y : Int) (t u : Tok) : RcGtAt A s (.int x t) (.int y u) (decide (y < x)) := fun prog w E Q h => PyProof.Rows.gt_int (A := A) (s := s) h
end
end Mine

end
section
namespace Mine
open PySem.SeqAt
section
variable {prog : Program} {w : World} {A : Around} {E : Value → Shared → Prop} {s : Shared} {h₀ : Heap} {L : Addr} {news : List (Addr × Obj)}
theorem ne_same {l b : Addr} {items : Array Value} {n k : Nat} {Q : Value → Shared → Prop} (N : News h₀ L s.heap news) (h1 : (l, listOf items n) ∈ news) (h2 : (b, listOf items k) ∈ news) (hu : A.units < cLine) (h : Q (.bool false) s) :
    wpAny (model prog w) A (compareOp .NotEq (.ref l) (.ref b)) Q E s := by
  have hl : s.heap.IsList l items := ⟨_, (N _ h1).1, rfl, n, rfl⟩
  have hb : s.heap.IsList b items := ⟨_, (N _ h2).1, rfl, k, rfl⟩
  refine RcNeAt.lists (e := fun _ => true) hl hb rfl hu (fun j h1 h2 => EqAt.same _) prog w E Q ?_
  have e : (!(List.range items.size).all fun _ => true) = false := by simp
  rw [e]
  exact h
end
end Mine
namespace Mine
theorem back_offN {h₀ h' : Heap} {L : Addr} {s : Shared} {news tl : List (Addr × Obj)} (N : News h₀ L s.heap news)
    (ht : ∀ q ∈ tl, h'.get? q.1 = some q.2 ∧ s.heap.get? q.1 = none) : ∀ q ∈ tl, ∀ r ∈ news, @Ne Nat r.1 q.1 := back_off N ht
end Mine

end
section
namespace Mine
section
variable {prog : Program} {w : World} {A : Around} {E : Value → Shared → Prop} {s : Shared} {env : Env} {h₀ : Heap} {x : Str} {body : List Stmt} {Q : Flow → Shared → Prop}
/-- a range loop that leaves the ledger as it is -/
abbrev JI (news : List (Addr × Obj)) (stored : List Str) (x : Str) (m₀ : Str → Option Value) (i : Nat) : (Str → Option Value) → List (Addr × Obj) → Prop :=
  Stt (fun _ : Unit => news) (fun _ => []) x stored m₀ (fun _ _ => True) i
theorem loopI {r : Addr} {n : Nat} {t₀ u₀ v₀ : Tok} {m₀ : Str → Option Value} {news : List (Addr × Obj)} (stored : List Str)
    (hh : A.handled = none) (hr : IsRange s.heap r 0 (n : Int) 1 t₀ u₀ v₀) (hn : n ≤ 1000) (F : Fr h₀ env.locals s.heap m₀) (N : News h₀ env.locals s.heap news)
    (turn : ∀ (i : Nat) (t : Tok) (u : Str → Option Value) (h : Heap) (tk : Nat) (own : List (Addr × Obj)), i < n → OwnOff own (news.map (·.1)) →
      Fr h₀ env.locals h (fun y => if y = x then some (.int (i : Int) t) else if stored.contains y then u y else m₀ y) → News h₀ env.locals h (news ++ own) →
      wpAny (model prog w) A (execs body env) (InvPostG h₀ env.locals (JI news stored x m₀ (i + 1)) own { s with heap := h, toks := tk } Q) E { s with heap := h, toks := tk })
    (done : ∀ (u : Str → Option Value) (h : Heap) (tk : Nat), Fr h₀ env.locals h (fun y => if y = x then u y else if stored.contains y then u y else m₀ y) → News h₀ env.locals h news → Q .next { s with heap := h, toks := tk }) :
    wpAny (model prog w) A (pyIter (.ref r)) (fun it s₂ => LoopAtV prog w A h₀ env x body Q E it s₂) E s := by
  refine loop_range (fun _ : Unit => news) (fun _ => []) stored (fun _ _ => True) () hh hr (small_one (by omega) (by omega) (by omega) (by omega)) (rangeSize_nat _ _) F N (fun _ h => nomatch h) trivial ?_ ?_
  · rintro ⟨⟩ i t u h tk own hi hoff _ F₁ N₁
    rw [Int.zero_add] at F₁
    exact turn i t u h tk own (by simpa using hi) hoff F₁ N₁
  · rintro ⟨⟩ u h tk _ F₁ N₁
    exact done u h tk F₁ N₁
theorem endI {m₀ : Str → Option Value} {news : List (Addr × Obj)} {stored : List Str} {i : Nat} {L : Addr} {m' : Str → Option Value} {own news' : List (Addr × Obj)} {s₁ : Shared} {h' : Heap} {tk : Nat}
    (F : Fr h₀ L h' m') (N : News h₀ L h' news') (hn : ∀ q ∈ news ++ own, q ∈ news') (ha : OwnOff own (news.map (·.1))) (hr : ∀ z, z ≠ x → stored.contains z = false → m' z = m₀ z) :
    InvEndG h₀ L (JI news stored x m₀ i) own s₁ { s₁ with heap := h', toks := tk } :=
  range_end (Led := fun _ : Unit => news) (ps := fun _ => []) () F N (fun q hq => hn q (List.mem_append.mpr (.inl hq))) (fun q hq => hn q (List.mem_append.mpr (.inr hq))) ha (fun _ h => nomatch h) (fun z a _ b => hr z a b) trivial
end
end Mine

end
section
namespace Mine
def coll (a b : Str) : Int := b2i (decide (b.cps.toList < a.cps.toList)) - b2i (decide (a.cps.toList < b.cps.toList))
def slt (a b : Str) : Prop := a.cps.toList < b.cps.toList
theorem slt_irrefl (a : Str) : ¬ slt a a := List.lt_irrefl _
theorem slt_trans {a b c : Str} (h : slt a b) (k : slt b c) : slt a c := List.lt_trans h k
theorem slt_asymm {a b : Str} (h : slt a b) (k : slt b a) : False := slt_irrefl _ (slt_trans h k)
theorem slt_ne {a b : Str} (h : slt a b) (e : a = b) : False := slt_irrefl _ (e ▸ h)
theorem slt_ne' {a b : Str} (h : slt a b) (e : b = a) : False := slt_irrefl _ (e ▸ h)
theorem str_ext {a b : Str} (h : a.cps.toList = b.cps.toList) : a = b := by
  cases a; cases b; congr 1; exact Array.toList_inj.mp h
theorem slt_tri (a b : Str) : slt a b ∨ a = b ∨ slt b a := by
  by_cases h : slt a b
  · exact .inl h
  · by_cases k : slt b a
    · exact .inr (.inr k)
    · exact .inr (.inl (str_ext (List.le_antisymm (List.not_lt.mp k) (List.not_lt.mp h))))
theorem b2i_t {p : Prop} [Decidable p] (h : p) : b2i (decide p) = 1 := by unfold b2i; rw [decide_eq_true h]; rfl
theorem b2i_f {p : Prop} [Decidable p] (h : ¬ p) : b2i (decide p) = 0 := by unfold b2i; rw [decide_eq_false h]; rfl
theorem coll_lt {a b : Str} (h : slt a b) : coll a b = -1 := by
  have k : ¬ slt b a := fun q => slt_irrefl _ (slt_trans h q)
  unfold coll
  rw [b2i_f (p := b.cps.toList < a.cps.toList) k, b2i_t (p := a.cps.toList < b.cps.toList) h]; rfl
theorem coll_gt {a b : Str} (h : slt b a) : coll a b = 1 := by
  have k : ¬ slt a b := fun q => slt_irrefl _ (slt_trans h q)
  unfold coll
  rw [b2i_t (p := b.cps.toList < a.cps.toList) h, b2i_f (p := a.cps.toList < b.cps.toList) k]; rfl
theorem coll_self (a : Str) : coll a a = 0 := by
  unfold coll
  omega
theorem coll_cases (a b : Str) : (coll a b = -1 ∧ slt a b) ∨ (coll a b = 0 ∧ a = b) ∨ (coll a b = 1 ∧ slt b a) := by
  rcases slt_tri a b with h | h | h
  · exact .inl ⟨coll_lt h, h⟩
  · exact .inr (.inl ⟨h ▸ coll_self a, h⟩)
  · exact .inr (.inr ⟨coll_gt h, h⟩)
end Mine

end
section
namespace Mine
local macro_rules | `(tactic| walk_at "mine enter") => `(tactic| (refine wpAny_call ?_; k_dflt (refine' enter ?k1 ?k2 ?k3 ?k4 ?k5 ?kA ?kF ?kK ?k6 ?k7 ?k8 ?k9 ?kB ?_ ?c2 ?c3 ?c4 ?c5; (case kA => exact rfl); (case kF => exact rfl); (case kK => assumption); (case k1 => k_asm); (case k2 => k_asm); (case k3 => k_asm); (case k4 => exact News.nil); (case k5 => k_asm); (case k6 => k_is); (case k7 => k_is); (case k8 => ktr_room); (case k9 => exact BindsTo.of_eq rfl); (case c5 => decide); (case kB => exact locs rfl); (case c2 => exact rfl); (case c3 => exact rfl); (case c4 => exact rfl); k_whole; intro g' L' h' hG' FG' F' N' B' X' T' lt'; (try dsimp only); (try k_fold))))
abbrev G4 (w : World) (f : Addr) := Gives PySem.Challenge.rw_dm0203_04.row.prog w (Mine.hd.heap_39 w.params) Mine.hd.view_39 (looseW Mine.hd.view_39 []) f
theorem keep2 {A B C : Heap} (h1 : ∀ b o, A.get? b = some o → ¬ b ∈ List.map (fun x : Addr × Obj => x.1) [] → B.get? b = some o) (h2 : ∀ b o, B.get? b = some o → C.get? b = some o) : ∀ b o, A.get? b = some o → C.get? b = some o :=
  fun b o e => h2 b o (h1 b o e fun h => nomatch h)
def word (n : Int) (sg : Str) : Option Str := if n = 0 then none else if n = 1 then some (Str.ofString "") else if n < 7 then some (Txt.item sg (n - 2)) else some (Txt.item sg ((n - 7).fdiv 5) ++ Txt.item sg ((n - 7).fmod 5))
def optV (o : Option Str) (t : Tok) : Value := match o with | none => .none | some s => .str s t
theorem wv0 {n : Int} {sg : Str} (h : n = 0) : Value.none = optV (word n sg) 0 := by unfold word; rw [if_pos h]; rfl
theorem wv1 {n : Int} {sg : Str} (h : n = 1) (t : Tok) : Value.str (Str.ofString "") t = optV (word n sg) t := by unfold word; rw [if_neg (by omega), if_pos h]; rfl
theorem wv2 {n : Int} {sg : Str} (h : ¬ n = 0) (h1 : ¬ n = 1) (h2 : n < 7) (t : Tok) : Value.str (Txt.item sg (n - 2)) t = optV (word n sg) t := by unfold word; rw [if_neg h, if_neg h1, if_pos h2]; rfl
theorem wv3 {n : Int} {sg : Str} (h : ¬ n = 0) (h1 : ¬ n = 1) (h2 : ¬ n < 7) (t : Tok) : Value.str (Txt.item sg ((n - 7).fdiv 5) ++ Txt.item sg ((n - 7).fmod 5)) t = optV (word n sg) t := by unfold word; rw [if_neg h, if_neg h1, if_neg h2]; rfl
set_option maxHeartbeats 8000000 in
theorem word_gives (w : World) (n : Int) (tn : Tok) (sg : Str) (ts : Tok) (h0 : 0 ≤ n) (h1 : n ≤ 30) (hs : sg.length = 5) : G4 w 35 [.int n tn, .str sg ts] (fun _ => True) (fun tl r => tl = [] ∧ ∃ t, r = optV (word n sg) t) := by
  unfold G4; k_fill
  intro mean mg mb dp un gd cn cs a₁ ccd cl outer A₀ base h₀ L m s Q E B F X T hk hp hd hu ret
  have hf1 := Int.fmod_nonneg_of_pos (n - 7) (b := 5) (by decide)
  have hf2 := Int.fmod_lt_of_pos (n - 7) (b := 5) (by decide)
  walk_at "mine enter"
  k_with_none
  k_steps
  all_goals (
    refine ret _ [] _ _ (by k_asm) (keep2 (by assumption) (by assumption)) (fun _ h => nomatch h) ⟨rfl, ?_⟩
    first
      | (have hw := wv0 (sg := sg) (n := n) (by assumption); exact ⟨0, hw⟩)
      | (have hw := wv1 (sg := sg) (n := n) (by assumption); exact ⟨_, hw _⟩)
      | (have hw := wv2 (sg := sg) (n := n) (by assumption) (by assumption) (by assumption); exact ⟨_, hw _⟩)
      | (have hw := wv3 (sg := sg) (n := n) (by assumption) (by assumption) (by assumption); exact ⟨_, hw _⟩))
end Mine

end
section
namespace Mine
local macro_rules | `(tactic| walk_at $s:str) => `(tactic| k_extra $s)
local macro_rules | `(tactic| walk_at "mine enter") => `(tactic| (refine wpAny_call ?_; k_dflt (refine' enter ?k1 ?k2 ?k3 ?k4 ?k5 ?kA ?kF ?kK ?k6 ?k7 ?k8 ?k9 ?kB ?_ ?c2 ?c3 ?c4 ?c5; (case kA => exact rfl); (case kF => exact rfl); (case kK => assumption); (case k1 => k_asm); (case k2 => k_asm); (case k3 => k_asm); (case k4 => exact News.nil); (case k5 => k_asm); (case k6 => k_is); (case k7 => k_is); (case k8 => ktr_room); (case k9 => exact BindsTo.of_eq rfl); (case c5 => decide); (case kB => exact locs rfl); (case c2 => exact rfl); (case c3 => exact rfl); (case c4 => exact rfl); k_whole; intro g' L' h' hG' FG' F' N' B' X' T' lt'; (try dsimp only); (try k_fold))))
local macro_rules | `(tactic| walk_at "mine text") => `(tactic| (k_dflt (refine comp_text (_F₀ := by k_asm) (by with_unfolding_all rfl) (by decide) (by rfl) (by decide) (by rfl) ?_)))
theorem new_none {s g h : Heap} {L' : Addr} {tl : List (Addr × Obj)} (hG : ∀ b o, s.get? b = some o → ¬ b ∈ List.map (fun x : Addr × Obj => x.1) [] → g.get? b = some o) (N : News g L' h tl) : ∀ q ∈ tl, h.get? q.1 = some q.2 ∧ s.get? q.1 = none := by
  intro q hq
  refine ⟨(N q hq).1, ?_⟩
  cases e : s.get? q.1 with
  | none => rfl
  | some o => have := hG _ _ e (fun h => nomatch h); rw [(N q hq).2.2] at this; cases this
set_option maxHeartbeats 8000000 in
theorem rank_none (w : World) : G4 w 40 [.none] (fun _ => True) (fun tl r => ∃ a, tl = [(a, listOf #[] 0)] ∧ r = .ref a) := by
  unfold G4; k_fill
  intro mean mg mb dp un gd cn cs a₁ ccd cl outer A₀ base h₀ L m s Q E B F X T hk hp hd hu ret
  walk_at "mine enter"
  k_with_none
  k_steps
  (rename News _ _ _ _ => kN)
  exact ret _ _ _ _ (by k_asm) (keep2 (by assumption) (by assumption)) (new_none (by assumption) (by k_asm)) ⟨_, rfl, rfl⟩
set_option maxHeartbeats 8000000 in
theorem rank_some (w : World) (x : Str) (t : Tok) (hx : x.length ≤ 4) (hc : ∀ c ∈ x.cps, c < 1114112) : G4 w 40 [.str x t] (fun _ => True) (fun tl r => ∃ a b ys, tl = [(a, listOf #[.ref b] 0), (b, LCg.lst ys)] ∧ IntsAre ys (codes x) ∧ r = .ref a) := by
  unfold G4; k_fill
  intro mean mg mb dp un gd cn cs a₁ ccd cl outer A₀ base h₀ L m s Q E B F X T hk hp hd hu ret
  walk_at "mine enter"
  k_with_none
  k_with "eval ListComp" => (walk_at "mine text")
  k_with "TextSrc" => (
    refine text_codes (by rfl) (by k_asm) (by k_asm) (by (rw [sizeLine_eq]; exact Nat.le_trans hx (by decide))) ?ct ?cf
    case' ct => intro c u ys I oI C oC D m₂ h tk E' hc hC hx F' N' off ne
    case' cf => intro ys g hys)
  k_with "CompEnd" => ((rename News _ _ _ _ => nE); exact LCg.CompEnd.intro (by k_asm) nE _ (fun _ h => h) (by assumption) trivial ⟨rfl, _, rfl⟩)
  k_steps
  exact ret _ _ _ _ (by k_asm) (keep2 (by assumption) (by assumption)) (new_none (by assumption) (by k_asm)) ⟨_, _, _, rfl, by assumption, rfl⟩
end Mine

end
section
namespace Mine
local macro_rules | `(tactic| walk_at $s:str) => `(tactic| k_extra $s)
local macro_rules | `(tactic| walk_at "mine enterN") => `(tactic| (refine wpAny_call ?_; k_dflt (refine' enter ?k1 ?k2 ?k3 ?k4 ?k5 ?kA ?kF ?kK ?k6 ?k7 ?k8 ?k9 ?kB ?_ ?c2 ?c3 ?c4 ?c5; (case kA => exact rfl); (case kF => exact rfl); (case kK => assumption); (case k1 => k_asm); (case k2 => k_asm); (case k3 => k_asm); (case k4 => k_asm); (case k5 => k_asm); (case k6 => k_is); (case k7 => k_is); (case k8 => ktr_room); (case k9 => exact BindsTo.of_eq rfl); (case c5 => decide); (case kB => exact locs rfl); (case c2 => exact rfl); (case c3 => exact rfl); (case c4 => exact rfl); k_whole; intro g' L' h' hG' FG' F' N' B' X' T' lt'; (try dsimp only); (try k_fold))))
abbrev G4N (w : World) (f : Addr) := GivesN PySem.Challenge.rw_dm0203_04.row.prog w (Mine.hd.heap_39 w.params) Mine.hd.view_39 (looseW Mine.hd.view_39 []) f
def nameOf (lang enc : Option Str) : Str := match enc with | none => lang.getD (Str.ofString "C") | some e => lang.getD (Str.ofString "C") ++ Str.ofString "." ++ e
def Short (o : Option Str) : Prop := ∀ x, o = some x → x.length ≤ 4
set_option maxHeartbeats 8000000 in
theorem build_gives (w : World) (l : Addr) (lang enc : Option Str) (t u : Tok) (n : Nat) (hx : Short lang) (hy : Short enc) : G4N w 28 [.ref l] [(l, listOf #[optV lang t, optV enc u] n)] (fun tl r => tl = [] ∧ ∃ t, r = .str (nameOf lang enc) t) := by
  unfold G4N; k_fill
  intro mean mg mb dp un gd cn cs a₁ ccd cl outer A₀ base h₀ L m s Q E B F X T hk N hd hu ret
  have N₀ := N
  k_with_none
  rcases lang with _ | x <;> rcases enc with _ | y <;> simp only [optV] at N N₀
  · walk_at "mine enterN"
    k_steps
    exact ret _ [] _ _ (by k_asm) (keep3 N₀ (by assumption) (by assumption) (by k_asm) (fun _ h => h)) (fun _ h => nomatch h) ⟨rfl, _, rfl⟩
  · have hyl := hy y rfl
    walk_at "mine enterN"
    k_steps
    exact ret _ [] _ _ (by k_asm) (keep3 N₀ (by assumption) (by assumption) (by k_asm) (fun _ h => h)) (fun _ h => nomatch h) ⟨rfl, _, rfl⟩
  · have hxl := hx x rfl
    walk_at "mine enterN"
    k_steps
    exact ret _ [] _ _ (by k_asm) (keep3 N₀ (by assumption) (by assumption) (by k_asm) (fun _ h => h)) (fun _ h => nomatch h) ⟨rfl, _, rfl⟩
  · have hxl := hx x rfl
    have hyl := hy y rfl
    walk_at "mine enterN"
    k_steps
    exact ret _ [] _ _ (by k_asm) (keep3 N₀ (by assumption) (by assumption) (by k_asm) (fun _ h => h)) (fun _ h => nomatch h) ⟨rfl, _, rfl⟩
end Mine

end
section
namespace Mine
inductive IntLists (news : List (Addr × Obj)) : List Value → List (List Int) → Prop
  | nil : IntLists news [] []
  | cons {b : Addr} {ys : List Value} {k : Nat} {ws : List Value} {c : List Int} {r : List (List Int)} : (b, listOf ys.toArray k) ∈ news → IntsAre ys c → IntLists news ws r → IntLists news (.ref b :: ws) (c :: r)
inductive Ranks (news : List (Addr × Obj)) : List Value → List (List (List Int)) → Prop
  | nil : Ranks news [] []
  | cons {a : Addr} {ws : List Value} {n : Nat} {r : List (List Int)} {vs : List Value} {rs : List (List (List Int))} : (a, listOf ws.toArray n) ∈ news → IntLists news ws r → Ranks news vs rs → Ranks news (.ref a :: vs) (r :: rs)
theorem IntLists.mono {news news' : List (Addr × Obj)} (hs : ∀ p ∈ news, p ∈ news') : ∀ {ws r}, IntLists news ws r → IntLists news' ws r
  | _, _, .nil => .nil
  | _, _, .cons h i r => .cons (hs _ h) i (r.mono hs)
theorem Ranks.mono {news news' : List (Addr × Obj)} (hs : ∀ p ∈ news, p ∈ news') : ∀ {ws r}, Ranks news ws r → Ranks news' ws r
  | _, _, .nil => .nil
  | _, _, .cons h i r => .cons (hs _ h) (i.mono hs) (r.mono hs)
theorem Ranks.append {news : List (Addr × Obj)} : ∀ {vs rs ws qs}, Ranks news vs rs → Ranks news ws qs → Ranks news (vs ++ ws) (rs ++ qs)
  | _, _, _, _, .nil, k => k
  | _, _, _, _, .cons h i r, k => .cons h i (r.append k)
theorem Ranks.length {news : List (Addr × Obj)} : ∀ {vs rs}, Ranks news vs rs → vs.length = rs.length
  | _, _, .nil => rfl
  | _, _, .cons _ _ r => by rw [List.length_cons, List.length_cons, r.length]
abbrev Pair := Option Str × Option Str
def rankOf (p : Pair) : List (List Int) := codes (p.1.getD (Str.ofString "C")) :: (match p.2 with | none => [] | some e => [codes e])
def nmOf (p : Pair) : Str := nameOf p.1 p.2
def LangOk (o : Option Str) : Prop := ∀ x, o = some x → x.length ≤ 2 ∧ ∀ c ∈ x.cps, 46 < c ∧ c < 1114112
def EncOk (o : Option Str) : Prop := ∀ x, o = some x → x.length ≤ 2 ∧ ∀ c ∈ x.cps, c < 1114112
def OkP (p : Pair) : Prop := LangOk p.1 ∧ EncOk p.2
structure StA where
  nvs : List Value
  nn : Nat
  rvs : List Value
  rn : Nat
  tl : List (Addr × Obj)
  ps : List Pair
section
variable {prog : Program} {w : World} {A : Around} {E : Value → Shared → Prop} {s : Shared} {env : Env} {h₀ : Heap} {x : Str} {body : List Stmt} {Q : Flow → Shared → Prop}
abbrev storedA : List Str := [Str.ofString "language", Str.ofString "encoding", Str.ofString "pair"]
abbrev LedA (aN aR : Addr) (rest : List (Addr × Obj)) (c : StA) : List (Addr × Obj) := (aN, listOf c.nvs.toArray c.nn) :: (aR, listOf c.rvs.toArray c.rn) :: (rest ++ c.tl)
abbrev PA (aN aR : Addr) (rest : List (Addr × Obj)) (i : Nat) (c : StA) : Prop := StrsAre c.nvs (c.ps.map nmOf) ∧ Ranks c.tl c.rvs (c.ps.map rankOf) ∧ c.ps.length = i ∧ (∀ p ∈ c.ps, OkP p) ∧ OwnOff c.tl (aN :: aR :: rest.map (·.1))
abbrev JA (lX : Addr) (vs : List Value) (nX : Nat) (aN aR : Addr) (rest : List (Addr × Obj)) (x : Str) (m₀ : Str → Option Value) (i : Nat) : (Str → Option Value) → List (Addr × Obj) → Prop :=
  fun m' nx => (lX, listOf vs.toArray nX) ∈ nx ∧ Stt (LedA aN aR rest) (fun _ => []) x storedA m₀ (PA aN aR rest) i m' nx
theorem loopA {aN aR lX : Addr} {vs : List Value} {ns : List Int} {nX : Nat} {m₀ : Str → Option Value} {rest : List (Addr × Obj)}
    (hh : A.handled = none) (F : Fr h₀ env.locals s.heap m₀) (N : News h₀ env.locals s.heap ((aN, listOf #[] 0) :: (aR, listOf #[] 0) :: rest)) (hX : (lX, listOf vs.toArray nX) ∈ rest) (hI : IntsAre vs ns) (hlen : ns.length ≤ 18)
    (turn : ∀ (nvs : List Value) (nn : Nat) (rvs : List Value) (rn : Nat) (tl : List (Addr × Obj)) (ps : List Pair) (k : Int) (t : Tok) (u : Str → Option Value) (h : Heap) (tk : Nat) (own : List (Addr × Obj)), ps.length < 18 → StrsAre nvs (ps.map nmOf) → Ranks tl rvs (ps.map rankOf) → (∀ p ∈ ps, OkP p) → OwnOff tl (aN :: aR :: rest.map (·.1)) → OwnOff own (aN :: aR :: (rest ++ tl).map (·.1)) →
      Fr h₀ env.locals h (fun z => if z = x then some (.int k t) else if storedA.contains z then u z else m₀ z) → News h₀ env.locals h ((aN, listOf nvs.toArray nn) :: (aR, listOf rvs.toArray rn) :: (rest ++ (tl ++ own))) →
      wpAny (model prog w) A (execs body env) (InvPostG h₀ env.locals (JA lX vs nX aN aR rest x m₀ (ps.length + 1)) own { s with heap := h, toks := tk } Q) E { s with heap := h, toks := tk })
    (done : ∀ (nvs : List Value) (nn : Nat) (rvs : List Value) (rn : Nat) (tl : List (Addr × Obj)) (ps : List Pair) (u : Str → Option Value) (h : Heap) (tk : Nat), ps.length ≤ 18 → StrsAre nvs (ps.map nmOf) → Ranks tl rvs (ps.map rankOf) → (∀ p ∈ ps, OkP p) →
      Fr h₀ env.locals h (fun z => if z = x then u z else if storedA.contains z then u z else m₀ z) → News h₀ env.locals h ((aN, listOf nvs.toArray nn) :: (aR, listOf rvs.toArray rn) :: (rest ++ tl)) → Q .next { s with heap := h, toks := tk }) :
    wpAny (model prog w) A (pyIter (.ref lX)) (fun it s₂ => LoopAtV prog w A h₀ env x body Q E it s₂) E s := by
  refine loop_list (LedA aN aR rest) (fun _ => []) storedA (PA aN aR rest) ⟨[], 0, [], 0, [], []⟩ hh (fun c => .tail _ (.tail _ (List.mem_append.mpr (.inl hX)))) F (by show News _ _ _ ((aN, listOf ([] : List Value).toArray 0) :: (aR, listOf ([] : List Value).toArray 0) :: (rest ++ [])); rw [List.append_nil]; exact N) (fun _ h => nomatch h) ⟨.nil, .nil, rfl, (fun _ h => nomatch h), fun _ h => nomatch h⟩ ?_ ?_
  · rintro ⟨nvs, nn, rvs, rn, tl, ps⟩ i v u h tk own hv hoff ⟨h1, h2, rfl, h4, h5⟩ F₁ N₁
    obtain ⟨k, t, rfl, hk⟩ := IntsAre.at hI _ v hv
    have hl : ps.length < 18 := by
      obtain ⟨q, _⟩ := List.getElem?_eq_some_iff.mp hk
      exact Nat.lt_of_lt_of_le q hlen
    refine turn nvs nn rvs rn tl ps k t u h tk own hl h1 h2 h4 h5 hoff F₁ ?_
    simpa only [LedA, List.cons_append, List.append_assoc] using N₁
  · rintro ⟨nvs, nn, rvs, rn, tl, ps⟩ u h tk ⟨h1, h2, h3, h4, h5⟩ F₁ N₁
    refine done nvs nn rvs rn tl ps u h tk ?_ h1 h2 h4 F₁ N₁
    have := hI.length
    have h3' : ps.length = vs.length := h3
    omega
theorem endA {aN aR lX : Addr} {vs : List Value} {nX : Nat} {m₀ : Str → Option Value} {rest : List (Addr × Obj)} {nvs rvs : List Value} {nn rn : Nat} {tl : List (Addr × Obj)} {L : Addr} {m' : Str → Option Value} {own news' : List (Addr × Obj)} {s₁ : Shared} {h' : Heap} {tk : Nat} {ps : List Pair} {rv : Value} {ts : Tok}
    (add : List (Addr × Obj)) (p : Pair) (F : Fr h₀ L h' m') (N : News h₀ L h' news') (hn : ∀ q ∈ (aN, listOf (nvs ++ [Value.str (nmOf p) ts]).toArray (nn + 1)) :: (aR, listOf (rvs ++ [rv]).toArray (rn + 1)) :: (rest ++ (add ++ (tl ++ own))), q ∈ news') (hX : (lX, listOf vs.toArray nX) ∈ rest)
    (hoff : OwnOff own (aN :: aR :: (rest ++ tl).map (·.1))) (htl : OwnOff tl (aN :: aR :: rest.map (·.1))) (hadd : OwnOff add (aN :: aR :: rest.map (·.1))) (hown : ∀ q ∈ add, ∀ r ∈ own, r.1 ≠ q.1)
    (h1 : StrsAre nvs (ps.map nmOf)) (h2 : Ranks tl rvs (ps.map rankOf)) (h4 : ∀ p ∈ ps, OkP p) (hp : OkP p) (hr : Ranks add [rv] [rankOf p])
    (hm : ∀ z, z ≠ x → storedA.contains z = false → m' z = m₀ z) :
    InvEndG h₀ L (JA lX vs nX aN aR rest x m₀ (ps.length + 1)) own s₁ { s₁ with heap := h', toks := tk } := by
  refine loop_end (Led := LedA aN aR rest) (ps := fun _ => []) ⟨nvs ++ [Value.str (nmOf p) ts], nn + 1, rvs ++ [rv], rn + 1, add ++ tl, ps ++ [p]⟩ F N (.tail _ (.tail _ (List.mem_append.mpr (.inl hX)))) (fun q hq => hn q ?_) (fun q hq => hn q ?_) ?_ (fun _ h => nomatch h) (fun z a _ b => hm z a b) ⟨?_, ?_, ?_, ?_, ?_⟩
  · simp only [LedA, List.mem_cons, List.mem_append] at hq ⊢
    rcases hq with q | q | q | q | q
    · exact .inl q
    · exact .inr (.inl q)
    · exact .inr (.inr (.inl q))
    · exact .inr (.inr (.inr (.inl q)))
    · exact .inr (.inr (.inr (.inr (.inl q))))
  · simp only [List.mem_cons, List.mem_append]
    exact .inr (.inr (.inr (.inr (.inr hq))))
  · intro r hr b hb
    simp only [LedA, List.map_cons, List.map_append, List.mem_cons, List.mem_append] at hb
    have ho := hoff r hr
    rcases hb with q | q | q | q | q
    · exact ho b (by simp [q])
    · exact ho b (by simp [q])
    · exact ho b (by simp only [List.map_append, List.mem_cons, List.mem_append]; exact .inr (.inr (.inl q)))
    · obtain ⟨y, hy, rfl⟩ := List.mem_map.mp q
      exact hown y hy r hr
    · exact ho b (by simp only [List.map_append, List.mem_cons, List.mem_append]; exact .inr (.inr (.inr q)))
  · rw [List.map_append]; exact StrsAre.append' h1 (.cons _ _ .nil)
  · rw [List.map_append]; exact (h2.mono fun q hq => List.mem_append.mpr (.inr hq)).append (hr.mono fun q hq => List.mem_append.mpr (.inl hq))
  · simp
  · intro q hq
    rcases List.mem_append.mp hq with hq | hq
    · exact h4 q hq
    · rw [List.mem_singleton.mp hq]; exact hp
  · intro q hq b hb
    rcases List.mem_append.mp hq with hq | hq
    · exact hadd q hq b hb
    · exact htl q hq b hb
end
end Mine

end
section
namespace Mine
theorem fmod30 (x : Int) : x.fmod 31 ≤ 30 := by have := Int.fmod_lt_of_pos x (b := 31) (by decide); omega
theorem word2_gives (w : World) (n : Int) (tn : Tok) (sg : Str) (ts : Tok) (h0 : 0 ≤ n) (h1 : n ≤ 30) (hs : sg.length = 5) : G4 w 35 [.int n tn, .str sg ts] (fun _ => True) (fun tl r => tl = [] ∧ ((r = .none ∧ word n sg = none) ∨ ∃ x t, r = .str x t ∧ word n sg = some x)) :=
  gives_mono (word_gives w n tn sg ts h0 h1 hs) fun tl r h => by
    obtain ⟨h1, t, rfl⟩ := h
    refine ⟨h1, ?_⟩
    cases e : word n sg with
    | none => exact .inl ⟨rfl, rfl⟩
    | some x => exact .inr ⟨x, t, rfl, rfl⟩
section
variable (w : World) (l : Addr) (x y : Str) (t u : Tok) (n : Nat)
theorem build_nn : G4N w 28 [.ref l] [(l, listOf #[.none, .none] n)] (fun tl r => tl = [] ∧ ∃ t, r = .str (nmOf (none, none)) t) := build_gives w l none none 0 0 n (by intro x h; cases h) (by intro x h; cases h)
theorem build_ns (hy : y.length ≤ 4) : G4N w 28 [.ref l] [(l, listOf #[.none, .str y u] n)] (fun tl r => tl = [] ∧ ∃ t, r = .str (nmOf (none, some y)) t) := build_gives w l none (some y) 0 u n (by intro x h; cases h) (by intro x h; cases h; exact hy)
theorem build_sn (hx : x.length ≤ 4) : G4N w 28 [.ref l] [(l, listOf #[.str x t, .none] n)] (fun tl r => tl = [] ∧ ∃ t, r = .str (nmOf (some x, none)) t) := build_gives w l (some x) none t 0 n (by intro x h; cases h; exact hx) (by intro x h; cases h)
theorem build_ss (hx : x.length ≤ 4) (hy : y.length ≤ 4) : G4N w 28 [.ref l] [(l, listOf #[.str x t, .str y u] n)] (fun tl r => tl = [] ∧ ∃ t, r = .str (nmOf (some x, some y)) t) := build_gives w l (some x) (some y) t u n (by intro x h; cases h; exact hx) (by intro x h; cases h; exact hy)
end
theorem item_mem {sg : Str} {k : Int} (h0 : 0 ≤ k) (h1 : k < (sg.length : Int)) : ∀ c ∈ (Txt.item sg k).cps, c ∈ sg.cps := by
  intro c hc
  obtain ⟨v, hv⟩ : ∃ v, sg.cps[k.toNat]? = some v := ⟨sg.cps[k.toNat]'(by show k.toNat < sg.length; omega), by simp⟩
  have e := PyProof.Rows.item_meets h0 hv
  rw [e] at hc
  have : c = v := by simpa using hc
  rw [this]
  exact Array.mem_of_getElem? hv
theorem word_cps {n : Int} {sg x : Str} (h0 : 0 ≤ n) (h1 : n ≤ 30) (hs : sg.length = 5) (h : word n sg = some x) : x.length ≤ 2 ∧ ∀ c ∈ x.cps, c ∈ sg.cps := by
  unfold word at h
  split at h
  · cases h
  · split at h
    · cases h
      exact ⟨by decide, fun c hc => absurd hc (by simp [show (Str.ofString "").cps = #[] from by decide])⟩
    · split at h
      · cases h
        exact ⟨Nat.le_succ 1, item_mem (by omega) (by omega)⟩
      · cases h
        have f1 := Int.fmod_nonneg_of_pos (n - 7) (b := 5) (by decide)
        have f2 := Int.fmod_lt_of_pos (n - 7) (b := 5) (by decide)
        have f3 : 0 ≤ (n - 7).fdiv 5 ∧ (n - 7).fdiv 5 < 5 := by rw [Int.fdiv_eq_ediv_of_nonneg _ (by decide)]; omega
        refine ⟨Nat.le_refl 2, fun c hc => ?_⟩
        have e : (Txt.item sg ((n - 7).fdiv 5) ++ Txt.item sg ((n - 7).fmod 5)).cps = (Txt.item sg ((n - 7).fdiv 5)).cps ++ (Txt.item sg ((n - 7).fmod 5)).cps := rfl
        rw [e, Array.mem_append] at hc
        rcases hc with hc | hc
        · exact item_mem f3.1 (by rw [hs]; exact f3.2) c hc
        · exact item_mem f1 (by rw [hs]; exact f2) c hc
theorem lang_cps : ∀ c ∈ (Str.ofString "/0Cz_").cps, 46 < c ∧ c < 1114112 := by decide
theorem enc_cps : ∀ c ∈ (Str.ofString ". -0z").cps, c < 1114112 := by decide
theorem lang_word {k : Int} {x : Str} (h : word (k.fmod 31) (Str.ofString "/0Cz_") = some x) : x.length ≤ 2 ∧ ∀ c ∈ x.cps, 46 < c ∧ c < 1114112 :=
  let ⟨a, b⟩ := word_cps (Int.fmod_nonneg_of_pos _ (by decide)) (fmod30 _) (by decide) h
  ⟨a, fun c hc => lang_cps c (b c hc)⟩
theorem enc_word {k : Int} {x : Str} (h : word (k.fmod 31) (Str.ofString ". -0z") = some x) : x.length ≤ 2 ∧ ∀ c ∈ x.cps, c < 1114112 :=
  let ⟨a, b⟩ := word_cps (Int.fmod_nonneg_of_pos _ (by decide)) (fmod30 _) (by decide) h
  ⟨a, fun c hc => enc_cps c (b c hc)⟩
end Mine
namespace Mine
theorem lang_codes {k : Int} {x : Str} (h : word (k.fmod 31) (Str.ofString "/0Cz_") = some x) : ∀ c ∈ x.cps, c < 1114112 := fun c hc => ((lang_word h).2 c hc).2
theorem enc_codes {k : Int} {x : Str} (h : word (k.fmod 31) (Str.ofString ". -0z") = some x) : ∀ c ∈ x.cps, c < 1114112 := (enc_word h).2
end Mine

end
section
namespace Mine
theorem okp {k k' : Int} {a b : Option Str} (ha : word (k.fmod 31) (Str.ofString "/0Cz_") = a) (hb : word (k'.fmod 31) (Str.ofString ". -0z") = b) : OkP (a, b) := by
  refine ⟨fun x e => ?_, fun x e => ?_⟩
  · exact lang_word (ha.trans e)
  · exact enc_word (hb.trans e)
theorem storedA_out {z : Str} (h : storedA.contains z = false) : z ≠ Str.ofString "language" ∧ z ≠ Str.ofString "encoding" ∧ z ≠ Str.ofString "pair" := by
  refine ⟨?_, ?_, ?_⟩ <;> (rintro rfl; simp at h)
section
variable {h₀ : Heap} {x : Str} {aN aR lX : Addr} {vs : List Value} {nX : Nat} {m₀ : Str → Option Value} {rest : List (Addr × Obj)} {nvs rvs : List Value} {nn rn : Nat} {tl : List (Addr × Obj)} {L : Addr} {m' : Str → Option Value} {own : List (Addr × Obj)} {s₁ : Shared} {h' : Heap} {tk : Nat} {ps : List Pair} {ts : Tok} {p : Pair}
  {d a1 a2 b1 b2 : Addr} {o1 o2 : Obj} {x1 x2 : Addr × Obj} {ys1 ys2 : List Value} {kd : Nat} {c1 c2 : List Int}
theorem endE1 (F : Fr h₀ L h' m') (N : News h₀ L h' ((d, listOf #[.ref b1, .ref b2] kd) :: (a2, o2) :: (b2, LCg.lst ys2) :: (a1, o1) :: (b1, LCg.lst ys1) :: x1 :: x2 :: (aN, listOf (nvs.toArray.push (Value.str (nmOf p) ts)) (nn + 1)) :: (aR, listOf (rvs.toArray.push (.ref d)) (rn + 1)) :: (rest ++ (tl ++ own)))) (hX : (lX, listOf vs.toArray nX) ∈ rest)
    (hoff : OwnOff own (aN :: aR :: (rest ++ tl).map (·.1))) (htl : OwnOff tl (aN :: aR :: rest.map (·.1)))
    (hd : ∀ b ∈ aN :: aR :: rest.map (·.1), @LT.lt Nat _ b d) (hdo : AllLt d (tl ++ own)) (hb1 : ∀ b ∈ aN :: aR :: rest.map (·.1), @Ne Nat b b1) (hb2 : ∀ b ∈ aN :: aR :: rest.map (·.1), @Ne Nat b b2) (ho1 : ∀ r ∈ own, @Ne Nat r.1 b1) (ho2 : ∀ r ∈ own, @Ne Nat r.1 b2)
    (h1 : StrsAre nvs (ps.map nmOf)) (h2 : Ranks tl rvs (ps.map rankOf)) (h4 : ∀ p ∈ ps, OkP p) (hp : OkP p) (hi1 : IntsAre ys1 c1) (hi2 : IntsAre ys2 c2) (hr : rankOf p = [c1, c2])
    (hm : ∀ z, z ≠ x → z ≠ Str.ofString "language" → z ≠ Str.ofString "encoding" → z ≠ Str.ofString "pair" → storedA.contains z = false → m' z = m₀ z) :
    InvEndG h₀ L (JA lX vs nX aN aR rest x m₀ (ps.length + 1)) own s₁ { s₁ with heap := h', toks := tk } := by
  simp only [List.push_toArray] at N
  refine endA (add := [(d, listOf #[.ref b1, .ref b2] kd), (b1, LCg.lst ys1), (b2, LCg.lst ys2)]) (p := p) (rv := .ref d) (ts := ts) (nn := nn) (rn := rn) F N ?_ hX hoff htl ?_ ?_ h1 h2 h4 hp ?_ (fun z q1 q2 => hm z q1 (storedA_out q2).1 (storedA_out q2).2.1 (storedA_out q2).2.2 q2)
  · intro q hq
    simp only [List.mem_cons, List.mem_append, List.not_mem_nil, or_false] at hq ⊢
    rcases hq with q | q | q | (q | q | q) | q | q <;> simp [q]
  · intro q hq b hb
    simp only [List.mem_cons, List.not_mem_nil, or_false] at hq
    rcases hq with rfl | rfl | rfl
    · exact Nat.ne_of_gt (hd b hb)
    · exact Ne.symm (hb1 b hb)
    · exact Ne.symm (hb2 b hb)
  · intro q hq r hr
    simp only [List.mem_cons, List.not_mem_nil, or_false] at hq
    rcases hq with rfl | rfl | rfl
    · exact Nat.ne_of_lt (kst_ltOf hdo r (List.mem_append.mpr (.inr hr)))
    · exact ho1 r hr
    · exact ho2 r hr
  · rw [hr]
    exact .cons (ws := [.ref b1, .ref b2]) (.head _) (.cons (.tail _ (.head _)) hi1 (.cons (.tail _ (.tail _ (.head _))) hi2 .nil)) .nil
theorem endE2 (F : Fr h₀ L h' m') (N : News h₀ L h' ((d, listOf #[.ref b1] kd) :: (a2, o2) :: (a1, o1) :: (b1, LCg.lst ys1) :: x1 :: x2 :: (aN, listOf (nvs.toArray.push (Value.str (nmOf p) ts)) (nn + 1)) :: (aR, listOf (rvs.toArray.push (.ref d)) (rn + 1)) :: (rest ++ (tl ++ own)))) (hX : (lX, listOf vs.toArray nX) ∈ rest)
    (hoff : OwnOff own (aN :: aR :: (rest ++ tl).map (·.1))) (htl : OwnOff tl (aN :: aR :: rest.map (·.1)))
    (hd : ∀ b ∈ aN :: aR :: rest.map (·.1), @LT.lt Nat _ b d) (hdo : AllLt d (tl ++ own)) (hb1 : ∀ b ∈ aN :: aR :: rest.map (·.1), @Ne Nat b b1) (ho1 : ∀ r ∈ own, @Ne Nat r.1 b1)
    (h1 : StrsAre nvs (ps.map nmOf)) (h2 : Ranks tl rvs (ps.map rankOf)) (h4 : ∀ p ∈ ps, OkP p) (hp : OkP p) (hi1 : IntsAre ys1 c1) (hr : rankOf p = [c1])
    (hm : ∀ z, z ≠ x → z ≠ Str.ofString "language" → z ≠ Str.ofString "encoding" → z ≠ Str.ofString "pair" → storedA.contains z = false → m' z = m₀ z) :
    InvEndG h₀ L (JA lX vs nX aN aR rest x m₀ (ps.length + 1)) own s₁ { s₁ with heap := h', toks := tk } := by
  simp only [List.push_toArray] at N
  refine endA (add := [(d, listOf #[.ref b1] kd), (b1, LCg.lst ys1)]) (p := p) (rv := .ref d) (ts := ts) (nn := nn) (rn := rn) F N ?_ hX hoff htl ?_ ?_ h1 h2 h4 hp ?_ (fun z q1 q2 => hm z q1 (storedA_out q2).1 (storedA_out q2).2.1 (storedA_out q2).2.2 q2)
  · intro q hq
    simp only [List.mem_cons, List.mem_append, List.not_mem_nil, or_false] at hq ⊢
    rcases hq with q | q | q | (q | q) | q | q <;> simp [q]
  · intro q hq b hb
    simp only [List.mem_cons, List.not_mem_nil, or_false] at hq
    rcases hq with rfl | rfl
    · exact Nat.ne_of_gt (hd b hb)
    · exact Ne.symm (hb1 b hb)
  · intro q hq r hr
    simp only [List.mem_cons, List.not_mem_nil, or_false] at hq
    rcases hq with rfl | rfl
    · exact Nat.ne_of_lt (kst_ltOf hdo r (List.mem_append.mpr (.inr hr)))
    · exact ho1 r hr
  · rw [hr]
    exact .cons (ws := [.ref b1]) (.head _) (.cons (.tail _ (.head _)) hi1 .nil) .nil
end
end Mine

end
section
namespace Mine
open PySem.SeqAt
def RankAt (news : List (Addr × Obj)) (a : Addr) (r : List (List Int)) : Prop := ∃ ws n, (a, listOf ws.toArray n) ∈ news ∧ IntLists news ws r
theorem rank_at {news : List (Addr × Obj)} : ∀ {vs : List Value} {rs : List (List (List Int))}, Ranks news vs rs → ∀ {i : Nat} {r : List (List Int)}, rs[i]? = some r → ∃ a, vs[i]? = some (.ref a) ∧ RankAt news a r
  | _, _, .nil, _, _, h => by simp at h
  | _, _, .cons hm hi _, 0, _, h => by simp at h; subst h; exact ⟨_, rfl, _, _, hm, hi⟩
  | _, _, .cons _ _ k, i + 1, _, h => rank_at k (by simpa using h)
def dataI (c : List Int) : PyData := .list (c.map .int)
def dataR (r : List (List Int)) : PyData := .list (r.map dataI)
theorem intlists_reads {h₀ h : Heap} {L : Addr} {news : List (Addr × Obj)} (N : News h₀ L h news) : ∀ {ws : List Value} {r : List (List Int)}, IntLists news ws r → ∃ as, ReadsAll h ws (r.map dataI) as
  | _, _, .nil => ⟨_, .nil⟩
  | _, _, .cons (ys := ys) hm hi k => by
    obtain ⟨as, ha⟩ := intlists_reads N k
    exact ⟨_, .cons (.list (N _ hm).1 rfl rfl (by rw [List.toList_toArray]; exact IntsAre.reads h hi)) ha⟩
theorem rank_reads {h₀ h : Heap} {L a : Addr} {news : List (Addr × Obj)} {r : List (List Int)} (N : News h₀ L h news) (x : RankAt news a r) : ∃ as, Reads h (.ref a) (dataR r) as := by
  obtain ⟨ws, n, hm, hi⟩ := x
  obtain ⟨as, ha⟩ := intlists_reads N hi
  exact ⟨_, .list (N _ hm).1 rfl rfl (by rw [List.toList_toArray]; exact ha)⟩
theorem can_ints : ∀ c : List Int, PyData.canLayAll0 (c.map .int) = true
  | [] => rfl
  | _ :: c => by rw [List.map_cons, PyData.canLayAll0, can_ints c]; rfl
theorem can_ranks : ∀ r : List (List Int), PyData.canLayAll0 (r.map dataI) = true
  | [] => rfl
  | c :: r => by
    rw [List.map_cons, PyData.canLayAll0, can_ranks r]
    show (PyData.canLayAll0 (c.map .int) && true) = true
    rw [can_ints]; rfl
theorem eqv_dataI (c d : List Int) : PyData.eqv (dataI c) (dataI d) = decide (c = d) := by
  unfold dataI
  rw [PyData.eqv, ked_eqvAll]
theorem eqvAll_ranks : ∀ r q : List (List Int), PyData.eqvAll (r.map dataI) (q.map dataI) = decide (r = q)
  | [], [] => by simp [PyData.eqvAll]
  | [], _ :: _ => by simp [PyData.eqvAll]
  | _ :: _, [] => by simp [PyData.eqvAll]
  | a :: r, b :: t => by
    simp only [List.map_cons, PyData.eqvAll, eqv_dataI, eqvAll_ranks r t]
    by_cases h : a = b <;> by_cases h' : r = t <;> simp [h, h']
theorem eqv_dataR (r q : List (List Int)) : PyData.eqv (dataR r) (dataR q) = decide (r = q) := by
  unfold dataR
  rw [PyData.eqv, eqvAll_ranks]
theorem depthAll_ints : ∀ c : List Int, PyData.depthAll (c.map .int) ≤ 1
  | [] => by simp [PyData.depthAll]
  | _ :: c => by
    have := depthAll_ints c
    rw [List.map_cons, PyData.depthAll]
    simp only [PyData.depth]
    omega
theorem depth_dataI (c : List Int) : (dataI c).depth ≤ 2 := by
  have := depthAll_ints c
  unfold dataI
  rw [PyData.depth]
  omega
theorem depthAll_ranks : ∀ r : List (List Int), PyData.depthAll (r.map dataI) ≤ 2
  | [] => by simp [PyData.depthAll]
  | c :: r => by
    have h1 := depthAll_ranks r
    have h2 := depth_dataI c
    rw [List.map_cons, PyData.depthAll]
    omega
theorem depth_dataR (r : List (List Int)) : (dataR r).depth ≤ 3 := by
  have := depthAll_ranks r
  unfold dataR
  rw [PyData.depth]
  omega
section
variable {prog : Program} {w : World} {A : Around} {E : Value → Shared → Prop} {s : Shared} {h₀ : Heap} {L : Addr} {news : List (Addr × Obj)}
theorem ne_ranks {a b : Addr} {r q : List (List Int)} {Q : Value → Shared → Prop} (N : News h₀ L s.heap news) (ha : RankAt news a r) (hb : RankAt news b q) (hu : A.units + 8 < cLine) (h : Q (.bool (!decide (r = q))) s) :
    wpAny (model prog w) A (compareOp .NotEq (.ref a) (.ref b)) Q E s := by
  obtain ⟨as, ra⟩ := rank_reads N ha
  obtain ⟨bs, rb⟩ := rank_reads N hb
  refine compareNe_reads ra rb (can_ranks r) (can_ranks q) ?_ (by rw [eqv_dataR]; exact h)
  have := depth_dataR r
  have := depth_dataR q
  omega
end
end Mine

end
section
namespace Mine
open PySem.SeqAt
def gtL {α : Type} (eq gt : α → α → Bool) : List α → List α → Bool
  | x :: xs, y :: ys => if eq x y then gtL eq gt xs ys else gt x y
  | xs, ys => decide (xs.length > ys.length)
def at2 {α : Type} (f : α → α → Bool) (xs ys : List α) (j : Nat) : Bool := match xs[j]?, ys[j]? with | some x, some y => f x y | _, _ => false
theorem gtFrom_gtL {α : Type} (eq gt : α → α → Bool) (xs ys : List α) : ∀ k i, min xs.length ys.length - i = k → i ≤ min xs.length ys.length → gtFrom (at2 eq xs ys) (at2 gt xs ys) xs.length ys.length k i = gtL eq gt (xs.drop i) (ys.drop i)
  | 0, i, hk, hi => by
    rw [gtFrom]
    rcases Nat.lt_or_ge i xs.length with q | q
    · have e2 : ys.drop i = [] := List.drop_of_length_le (by omega)
      have h1 : xs.length > ys.length := by omega
      rw [e2, decide_eq_true h1]
      cases hx : xs.drop i with
      | nil => have := List.length_drop (i := i) (l := xs); rw [hx] at this; simp at this; omega
      | cons x r => simp [gtL]
    · have e1 : xs.drop i = [] := List.drop_of_length_le q
      have h1 : ¬ xs.length > ys.length := by omega
      rw [e1, decide_eq_false h1]
      simp [gtL]
  | k + 1, i, hk, hi => by
    have h1 : i < xs.length := by omega
    have h2 : i < ys.length := by omega
    rw [gtFrom, List.drop_eq_getElem_cons h1, List.drop_eq_getElem_cons h2, gtL]
    have e1 : ∀ f : α → α → Bool, at2 f xs ys i = f xs[i] ys[i] := fun f => by unfold at2; rw [List.getElem?_eq_getElem h1, List.getElem?_eq_getElem h2]
    rw [e1, e1, gtFrom_gtL eq gt xs ys k (i + 1) (by omega) (by omega)]
abbrev gtI : List Int → List Int → Bool := gtL (fun x y => decide (x = y)) (fun x y => decide (y < x))
abbrev gtR : List (List Int) → List (List Int) → Bool := gtL (fun x y => decide (x = y)) gtI
section
variable {A : Around} {s : Shared}
theorem eqAt_int (x y : Int) (t u : Tok) (hu : A.units + 2 < cLine) : EqAt A s (.int x t) (.int y u) (decide (x = y)) := by
  have h := eqAt_reads (.int x) (.int y) A s _ _ _ _ (.int x t) (.int y u) rfl rfl (by simp only [PyData.depth]; omega)
  have e : PyData.eqv (.int x) (.int y) = decide (x = y) := by rw [PyData.eqv]; rfl
  rw [e] at h
  exact h
theorem gtAt_ints {a b : Addr} {ys zs : List Value} {c d : List Int} (hl : s.heap.IsList a ys.toArray) (hb : s.heap.IsList b zs.toArray) (hc : IntsAre ys c) (hd : IntsAre zs d) (hu : A.units + 4 < cLine) : RcGtAt A s (.ref a) (.ref b) (gtI c d) := by
  have e1 := hc.length
  have e2 := hd.length
  have key := RcGtAt.lists (A := A) (e := at2 (fun x y => decide (x = y)) c d) (g := at2 (fun x y => decide (y < x)) c d) hl hb (by omega) (fun j h1 h2 => ?_) (fun j h1 h2 _ => ?_)
  · rw [List.size_toArray, List.size_toArray, e1, e2, gtFrom_gtL _ _ _ _ _ _ (by omega) (by omega)] at key
    exact key
  · have j1 : j < c.length := by rw [List.size_toArray] at h1; omega
    have j2 : j < d.length := by rw [List.size_toArray] at h2; omega
    obtain ⟨t, ht⟩ := hc.get j c[j] (List.getElem?_eq_getElem j1)
    obtain ⟨u, hu'⟩ := hd.get j d[j] (List.getElem?_eq_getElem j2)
    have v1 : ys.toArray[j] = .int c[j] t := by
      have := List.getElem?_eq_some_iff.mp ht
      obtain ⟨q, e⟩ := this
      simpa using e
    have v2 : zs.toArray[j] = .int d[j] u := by
      obtain ⟨q, e⟩ := List.getElem?_eq_some_iff.mp hu'
      simpa using e
    rw [v1, v2]
    have e3 : at2 (fun x y : Int => decide (x = y)) c d j = decide (c[j] = d[j]) := by unfold at2; rw [List.getElem?_eq_getElem j1, List.getElem?_eq_getElem j2]
    rw [e3]
    exact eqAt_int _ _ _ _ (by simp only [units_in1]; omega)
  · have j1 : j < c.length := by rw [List.size_toArray] at h1; omega
    have j2 : j < d.length := by rw [List.size_toArray] at h2; omega
    obtain ⟨t, ht⟩ := hc.get j c[j] (List.getElem?_eq_getElem j1)
    obtain ⟨u, hu'⟩ := hd.get j d[j] (List.getElem?_eq_getElem j2)
    have v1 : ys.toArray[j] = .int c[j] t := by
      obtain ⟨q, e⟩ := List.getElem?_eq_some_iff.mp ht
      simpa using e
    have v2 : zs.toArray[j] = .int d[j] u := by
      obtain ⟨q, e⟩ := List.getElem?_eq_some_iff.mp hu'
      simpa using e
    rw [v1, v2]
    have e3 : at2 (fun x y : Int => decide (y < x)) c d j = decide (d[j] < c[j]) := by unfold at2; rw [List.getElem?_eq_getElem j1, List.getElem?_eq_getElem j2]
    rw [e3]
    exact RcGtAt.ints _ _ _ _
theorem intlists_at {h₀ h : Heap} {L : Addr} {news : List (Addr × Obj)} (N : News h₀ L h news) : ∀ {ws : List Value} {r : List (List Int)}, IntLists news ws r → ∀ {j : Nat} (hj : j < r.length), ∃ b ys, ws[j]? = some (.ref b) ∧ h.IsList b ys.toArray ∧ IntsAre ys r[j]
  | _, _, .nil, _, hj => absurd hj (Nat.not_lt_zero _)
  | _, _, .cons hm hi _, 0, _ => ⟨_, _, rfl, ⟨_, (N _ hm).1, rfl, _, rfl⟩, hi⟩
  | _, _, .cons _ _ k, j + 1, hj => intlists_at N k (Nat.lt_of_succ_lt_succ hj)
theorem IntLists.length {news : List (Addr × Obj)} : ∀ {vs rs}, IntLists news vs rs → vs.length = rs.length
  | _, _, .nil => rfl
  | _, _, .cons _ _ r => by rw [List.length_cons, List.length_cons, r.length]
theorem gtAt_ranks {h₀ : Heap} {L a b : Addr} {news : List (Addr × Obj)} {r q : List (List Int)} (N : News h₀ L s.heap news) (ha : RankAt news a r) (hb : RankAt news b q) (hu : A.units + 8 < cLine) : RcGtAt A s (.ref a) (.ref b) (gtR r q) := by
  obtain ⟨ws, n, hm, hi⟩ := ha
  obtain ⟨vs, k, hm', hi'⟩ := hb
  have e1 := hi.length
  have e2 := hi'.length
  have key := RcGtAt.lists (A := A) (e := at2 (fun x y => decide (x = y)) r q) (g := at2 gtI r q) (news_list N hm) (news_list N hm') (by omega) (fun j h1 h2 => ?_) (fun j h1 h2 _ => ?_)
  · rw [List.size_toArray, List.size_toArray, e1, e2, gtFrom_gtL _ _ _ _ _ _ (by omega) (by omega)] at key
    exact key
  · have j1 : j < r.length := by rw [List.size_toArray] at h1; omega
    have j2 : j < q.length := by rw [List.size_toArray] at h2; omega
    obtain ⟨b1, y1, w1, l1, i1⟩ := intlists_at N hi j1
    obtain ⟨b2, y2, w2, l2, i2⟩ := intlists_at N hi' j2
    have v1 : ws.toArray[j] = .ref b1 := by
      obtain ⟨_, e⟩ := List.getElem?_eq_some_iff.mp w1
      simpa using e
    have v2 : vs.toArray[j] = .ref b2 := by
      obtain ⟨_, e⟩ := List.getElem?_eq_some_iff.mp w2
      simpa using e
    rw [v1, v2]
    have e3 : at2 (fun x y : List Int => decide (x = y)) r q j = decide (r[j] = q[j]) := by unfold at2; rw [List.getElem?_eq_getElem j1, List.getElem?_eq_getElem j2]
    rw [e3, ← eqv_dataI]
    obtain ⟨o1, ho1, hc1, n1, hd1⟩ := l1
    obtain ⟨o2, ho2, hc2, n2, hd2⟩ := l2
    refine eqAt_reads (dataI r[j]) (dataI q[j]) A.in1 s _ _ _ _ (.list ho1 hc1 hd1 (by rw [List.toList_toArray]; exact IntsAre.reads _ i1)) (.list ho2 hc2 hd2 (by rw [List.toList_toArray]; exact IntsAre.reads _ i2)) (can_ints _) (can_ints _) ?_
    have := depth_dataI r[j]
    have := depth_dataI q[j]
    simp only [units_in1]
    omega
  · have j1 : j < r.length := by rw [List.size_toArray] at h1; omega
    have j2 : j < q.length := by rw [List.size_toArray] at h2; omega
    obtain ⟨b1, y1, w1, l1, i1⟩ := intlists_at N hi j1
    obtain ⟨b2, y2, w2, l2, i2⟩ := intlists_at N hi' j2
    have v1 : ws.toArray[j] = .ref b1 := by
      obtain ⟨_, e⟩ := List.getElem?_eq_some_iff.mp w1
      simpa using e
    have v2 : vs.toArray[j] = .ref b2 := by
      obtain ⟨_, e⟩ := List.getElem?_eq_some_iff.mp w2
      simpa using e
    rw [v1, v2]
    have e3 : at2 gtI r q j = gtI r[j] q[j] := by unfold at2; rw [List.getElem?_eq_getElem j1, List.getElem?_eq_getElem j2]
    rw [e3]
    exact gtAt_ints l1 l2 i1 i2 (by simp only [units_in1]; omega)
theorem gt_ranks {prog : Program} {w : World} {E : Value → Shared → Prop} {h₀ : Heap} {L a b : Addr} {news : List (Addr × Obj)} {r q : List (List Int)} {Q : Value → Shared → Prop} (N : News h₀ L s.heap news) (ha : RankAt news a r) (hb : RankAt news b q) (hu : A.units + 8 < cLine) (h : Q (.bool (gtR r q)) s) :
    wpAny (model prog w) A (compareOp .Gt (.ref a) (.ref b)) Q E s := gtAt_ranks N ha hb hu prog w E Q h
end
end Mine

end
section
namespace Mine
def castL (l : List Nat) : List Int := l.map (fun (c : Nat) => (c : Int))
theorem castL_inj {l k : List Nat} (h : castL l = castL k) : l = k := by
  induction l generalizing k with
  | nil => cases k with | nil => rfl | cons => simp [castL] at h
  | cons a l ih =>
    cases k with
    | nil => simp [castL] at h
    | cons b k =>
      simp only [castL, List.map_cons, List.cons.injEq] at h
      rw [ih (by simpa [castL] using h.2), Int.ofNat.inj (show Int.ofNat a = Int.ofNat b from h.1)]
theorem gtI_cast : ∀ l k : List Nat, gtI (castL l) (castL k) = decide (k < l)
  | [], [] => by simp [castL, gtL]
  | [], b :: k => by simp [castL, gtL]
  | a :: l, [] => by simp [castL, gtL]
  | a :: l, b :: k => by
    have ih : gtL (fun x y : Int => decide (x = y)) (fun x y => decide (y < x)) (castL l) (castL k) = decide (k < l) := gtI_cast l k
    show gtL _ _ ((a : Int) :: castL l) ((b : Int) :: castL k) = _
    rw [gtL, ih]
    by_cases h : a = b
    · subst h
      simp [List.cons_lt_cons_iff]
    · have h1 : ¬ (a : Int) = (b : Int) := by omega
      rw [decide_eq_false h1]
      simp only [Bool.false_eq_true, if_false, List.cons_lt_cons_iff]
      have h2 : ¬ b = a := fun e => h e.symm
      by_cases h3 : b < a
      · rw [decide_eq_true (by omega : (b : Int) < (a : Int)), decide_eq_true (Or.inl h3)]
      · rw [decide_eq_false (by omega : ¬ (b : Int) < (a : Int)), decide_eq_false]
        rintro (q | q)
        · exact h3 q
        · exact h2 q.1
def Tail (t : List Nat) : Prop := t = [] ∨ ∃ e, t = 46 :: e
theorem app_lt : ∀ {la lb ta tb : List Nat}, (∀ c ∈ la, 46 < c) → (∀ c ∈ lb, 46 < c) → Tail ta → Tail tb → (la ++ ta < lb ++ tb ↔ la < lb ∨ (la = lb ∧ ta < tb))
  | [], [], ta, tb, _, _, _, _ => by simp
  | [], b :: lb, ta, tb, _, hb, h, _ => by
    have := hb b (.head _)
    rcases h with rfl | ⟨e, rfl⟩
    · simp
    · simp [List.cons_lt_cons_iff]; omega
  | a :: la, [], ta, tb, ha, _, _, h => by
    have := ha a (.head _)
    rcases h with rfl | ⟨e, rfl⟩
    · simp
    · simp [List.cons_lt_cons_iff]; omega
  | a :: la, b :: lb, ta, tb, ha, hb, h, h' => by
    have ih := app_lt (fun c hc => ha c (.tail _ hc)) (fun c hc => hb c (.tail _ hc)) h h' (la := la) (lb := lb)
    simp only [List.cons_append, List.cons_lt_cons_iff, ih, List.cons.injEq]
    constructor
    · rintro (q | ⟨q, r | ⟨r, s⟩⟩)
      · exact .inl (.inl q)
      · exact .inl (.inr ⟨q, r⟩)
      · exact .inr ⟨⟨q, r⟩, s⟩
    · rintro ((q | ⟨q, r⟩) | ⟨⟨q, r⟩, s⟩)
      · exact .inl q
      · exact .inr ⟨q, .inl r⟩
      · exact .inr ⟨q, .inr ⟨r, s⟩⟩
def langL (p : Pair) : List Nat := (p.1.getD (Str.ofString "C")).cps.toList
def tailL (p : Pair) : List Nat := match p.2 with | none => [] | some e => 46 :: e.cps.toList
theorem nm_list (p : Pair) : (nmOf p).cps.toList = langL p ++ tailL p := by
  obtain ⟨a, b⟩ := p
  unfold nmOf nameOf langL tailL
  cases b with
  | none => simp
  | some e =>
    show ((a.getD (Str.ofString "C")).cps ++ (Str.ofString ".").cps ++ e.cps).toList = _
    rw [show (Str.ofString ".").cps = #[46] from by decide]
    simp
theorem tail_ok (p : Pair) : Tail (tailL p) := by
  unfold tailL
  cases p.2 with
  | none => exact .inl rfl
  | some e => exact .inr ⟨_, rfl⟩
theorem lang_ok {p : Pair} (h : OkP p) : ∀ c ∈ langL p, 46 < c := by
  unfold langL
  intro c hc
  cases e : p.1 with
  | none => rw [e] at hc; revert c; decide
  | some x => rw [e] at hc; exact ((h.1 x e).2 c (Array.mem_toList_iff.mp hc)).1
def tailR (p : Pair) : List (List Int) := match p.2 with | none => [] | some e => [castL e.cps.toList]
theorem rank_list (p : Pair) : rankOf p = castL (langL p) :: tailR p := by
  unfold rankOf tailR langL castL codes
  cases p.2 <;> rfl
theorem tail_eq (p q : Pair) : tailR p = tailR q ↔ tailL p = tailL q := by
  unfold tailR tailL
  cases p.2 with
  | none => cases q.2 with
    | none => exact ⟨fun _ => rfl, fun _ => rfl⟩
    | some f => exact ⟨(fun h => nomatch h), (fun h => nomatch h)⟩
  | some e => cases q.2 with
    | none => exact ⟨(fun h => nomatch h), (fun h => nomatch h)⟩
    | some f =>
      constructor
      · intro h
        show 46 :: e.cps.toList = 46 :: f.cps.toList
        rw [castL_inj (List.cons.inj h).1]
      · intro h
        show [castL e.cps.toList] = [castL f.cps.toList]
        rw [(List.cons.inj h).2]
theorem tail_gt (p q : Pair) : gtR (tailR p) (tailR q) = decide (tailL q < tailL p) := by
  unfold tailR tailL
  cases p.2 with
  | none => cases q.2 with
    | none => rfl
    | some f => simp [gtL]
  | some e => cases q.2 with
    | none => simp [gtL]
    | some f =>
      show gtL _ _ [castL e.cps.toList] [castL f.cps.toList] = decide (46 :: f.cps.toList < 46 :: e.cps.toList)
      rw [gtL]
      by_cases h : e.cps.toList = f.cps.toList
      · rw [h, decide_eq_true rfl, decide_eq_false (List.lt_irrefl _)]
        rfl
      · rw [decide_eq_false (fun k => h (castL_inj k))]
        show gtI _ _ = _
        rw [gtI_cast]
        have e : (46 :: f.cps.toList < 46 :: e.cps.toList) ↔ f.cps.toList < e.cps.toList := by
          rw [List.cons_lt_cons_iff]
          constructor
          · rintro (q | q)
            · exact absurd q (Nat.lt_irrefl _)
            · exact q.2
          · exact fun q => .inr ⟨rfl, q⟩
        exact (decide_eq_decide.mpr e).symm
theorem cmp3 {p q : Pair} (hp : OkP p) (hq : OkP q) : (rankOf p = rankOf q ∧ nmOf p = nmOf q) ∨ (rankOf p ≠ rankOf q ∧ gtR (rankOf p) (rankOf q) = true ∧ slt (nmOf q) (nmOf p)) ∨ (rankOf p ≠ rankOf q ∧ gtR (rankOf p) (rankOf q) = false ∧ slt (nmOf p) (nmOf q)) := by
  have e1 : rankOf p = rankOf q ↔ langL p = langL q ∧ tailL p = tailL q := by
    rw [rank_list, rank_list, List.cons.injEq, tail_eq]
    exact ⟨fun h => ⟨castL_inj h.1, h.2⟩, fun h => ⟨by rw [h.1], h.2⟩⟩
  have lt (a b : Pair) (ha : OkP a) (hb : OkP b) : slt (nmOf a) (nmOf b) ↔ langL a < langL b ∨ (langL a = langL b ∧ tailL a < tailL b) := by
    unfold slt
    rw [nm_list, nm_list]
    exact app_lt (lang_ok ha) (lang_ok hb) (tail_ok a) (tail_ok b)
  have e2 : gtR (rankOf p) (rankOf q) = true ↔ langL q < langL p ∨ (langL q = langL p ∧ tailL q < tailL p) := by
    rw [rank_list, rank_list]
    show gtL _ _ (castL (langL p) :: tailR p) (castL (langL q) :: tailR q) = true ↔ _
    rw [gtL]
    by_cases h : langL p = langL q
    · rw [h, decide_eq_true rfl]
      show gtR (tailR p) (tailR q) = true ↔ _
      rw [tail_gt, decide_eq_true_iff]
      constructor
      · exact fun k => .inr ⟨rfl, k⟩
      · rintro (k | k)
        · exact absurd k (List.lt_irrefl _)
        · exact k.2
    · rw [decide_eq_false (fun k => h (castL_inj k))]
      show gtI _ _ = true ↔ _
      rw [gtI_cast, decide_eq_true_iff]
      constructor
      · exact .inl
      · rintro (k | k)
        · exact k
        · exact absurd k.1.symm h
  by_cases he : rankOf p = rankOf q
  · refine .inl ⟨he, str_ext ?_⟩
    obtain ⟨a, b⟩ := e1.mp he
    rw [nm_list, nm_list, a, b]
  · cases hg : gtR (rankOf p) (rankOf q) with
    | true => exact .inr (.inl ⟨he, rfl, (lt q p hq hp).mpr (e2.mp hg)⟩)
    | false =>
      refine .inr (.inr ⟨he, rfl, ?_⟩)
      rcases slt_tri (nmOf p) (nmOf q) with k | k | k
      · exact k
      · exfalso
        have k' : langL p ++ tailL p = langL q ++ tailL q := by rw [← nm_list, ← nm_list, k]
        have n1 : ¬ (langL p < langL q ∨ (langL p = langL q ∧ tailL p < tailL q)) := fun h => List.lt_irrefl _ (k' ▸ (app_lt (lang_ok hp) (lang_ok hq) (tail_ok p) (tail_ok q)).mpr h)
        have n2 : ¬ (langL q < langL p ∨ (langL q = langL p ∧ tailL q < tailL p)) := fun h => List.lt_irrefl _ (k' ▸ (app_lt (lang_ok hq) (lang_ok hp) (tail_ok q) (tail_ok p)).mpr h)
        have a : langL p = langL q := List.le_antisymm (List.not_lt.mp fun h => n2 (.inl h)) (List.not_lt.mp fun h => n1 (.inl h))
        have b : tailL p = tailL q := List.le_antisymm (List.not_lt.mp fun h => n2 (.inr ⟨a.symm, h⟩)) (List.not_lt.mp fun h => n1 (.inr ⟨a, h⟩))
        exact he (e1.mpr ⟨a, b⟩)
      · exfalso
        have := e2.mpr ((lt q p hq hp).mp k)
        rw [hg] at this
        cases this
end Mine

end
section
namespace Mine
local macro_rules | `(tactic| walk_at "mine enter") => `(tactic| (refine wpAny_call ?_; k_dflt (refine' enter ?k1 ?k2 ?k3 ?k4 ?k5 ?kA ?kF ?kK ?k6 ?k7 ?k8 ?k9 ?kB ?_ ?c2 ?c3 ?c4 ?c5; (case kA => exact rfl); (case kF => exact rfl); (case kK => assumption); (case k1 => k_asm); (case k2 => k_asm); (case k3 => k_asm); (case k4 => exact News.nil); (case k5 => k_asm); (case k6 => k_is); (case k7 => k_is); (case k8 => ktr_room); (case k9 => exact BindsTo.of_eq rfl); (case c5 => decide); (case kB => exact locs rfl); (case c2 => exact rfl); (case c3 => exact rfl); (case c4 => exact rfl); k_whole; intro g' L' h' hG' FG' F' N' B' X' T' lt'; (try dsimp only); (try k_fold))))
set_option maxHeartbeats 8000000 in
theorem coll_gives (w : World) (a : Str) (ta : Tok) (b : Str) (tb : Tok) : G4 w 21 [.str a ta, .str b tb] (fun _ => True) (fun tl r => tl = [] ∧ ∃ t, r = .int (coll a b) t) := by
  unfold G4; k_fill
  intro mean mg mb dp un gd cn cs a₁ ccd cl outer A₀ base h₀ L m s Q E B F X T hk hp hd hu ret
  walk_at "mine enter"
  k_with_none
  k_steps
  exact ret _ [] _ _ (by k_asm) (keep2 (by assumption) (by assumption)) (fun _ h => nomatch h) ⟨rfl, _, rfl⟩
theorem coll3_gives (w : World) (a : Str) (ta : Tok) (b : Str) (tb : Tok) : G4 w 21 [.str a ta, .str b tb] (fun _ => True) (fun tl r => tl = [] ∧ ∃ t, (r = .int (-1) t ∧ slt a b) ∨ (r = .int 0 t ∧ a = b) ∨ (r = .int 1 t ∧ slt b a)) :=
  gives_mono (coll_gives w a ta b tb) fun tl r h => by
    obtain ⟨h1, t, rfl⟩ := h
    refine ⟨h1, t, ?_⟩
    rcases coll_cases a b with ⟨e, h⟩ | ⟨e, h⟩ | ⟨e, h⟩
    · exact .inl ⟨by rw [e], h⟩
    · exact .inr (.inl ⟨by rw [e], h⟩)
    · exact .inr (.inr ⟨by rw [e], h⟩)
end Mine

end
section
namespace Mine
local macro_rules | `(tactic| walk_at $s:str) => `(tactic| k_extra $s)
local macro_rules | `(tactic| walk_at "mine for") => `(tactic| ((rename Fr _ _ _ _ => lF'); (with_unfolding_all refine' For_invVF lF' ?k1 ?k2 ?_; (case k1 => exact rfl); (case k2 => exact rfl); k_whole)))
theorem news_rot5 {h₀ h : Heap} {L : Addr} {a b c d e : Addr × Obj} (N : News h₀ L h [a, b, c, d, e]) : News h₀ L h (e :: d :: [a, b, c]) := by
  intro p hp
  refine N p ?_
  simp only [List.mem_cons, List.not_mem_nil, or_false] at hp ⊢
  rcases hp with q | q | q | q | q <;> simp [q]
theorem len18 (ns : List Int) : (ns.take 16 ++ [64, 33]).length ≤ 18 := by
  rw [List.length_append, List.length_take]; simp; omega
local macro_rules | `(tactic| walk_at "mine bare") => `(tactic| (repeat (rename _ => z9; revert z9)))
set_option maxHeartbeats 8000000 in
noncomputable def pk4 : { P : Prop × Prop // Hide P.1 → Hide P.2 → PySem.Challenge.rw_dm0203_04.Holds } := park2 _ _ fun hid1 hid2 => by
  k_with_none
  k_with "exec For Name BinOp cons nil" => (walk_at "mine for")
  k_with "pyIter ref" => (
    (rename Fr _ _ _ _ => lF')
    (rename News _ _ _ _ => lN')
    (rename (IntsAre _ (_ ++ _)) => hI)
    refine loopA (by rfl) lF' (news_rot5 lN') (by with_unfolding_all k_memK) hI (len18 _) ?lt ?ld
    case' lt => walk_at "mine bare"; intro h1 h2; exact apT h1.out
    walk_at "mine bare"; intro h1 h2; exact apT h2.out)
  refine Mine.hd ?_
  (k_go0; (all_goals try k_fold); k_steps)
end Mine

end
section
namespace Mine
local macro_rules | `(tactic| k_ne) => `(tactic| (refine neN ?_; (try dsimp only); with_reducible first | assumption | exact Ne.symm (by assumption) | exact Nat.ne_of_lt (by assumption) | exact Nat.ne_of_gt (by assumption)))
local macro_rules | `(tactic| walk_at $s:str) => `(tactic| k_extra $s)
local macro_rules | `(tactic| walk_at "mine word") => `(tactic| ((with_reducible show wpAny _ _ (call (Value.ref 35) _) _ _ _); k_dflt (refine' use_gives (word2_gives _ _ _ _ _ ?ka ?kb ?kc) ?k1 ?k2 ?k3 ?k4 ?k5 ?k6 ?k7 ?k8 ?_; (case k1 => k_asm); (case k2 => k_asm); (case k3 => k_asm); (case k4 => k_asm); (case k5 => exact rfl); (case k6 => exact trivial); (case k7 => ktr_room); (case k8 => ktr_units); (case ka => exact Int.fmod_nonneg_of_pos _ (by decide)); (case kb => exact fmod30 _); (case kc => decide)); unfold Back))
local macro_rules | `(tactic| walk_at "mine b1") => `(tactic| (k_dflt (refine' use_givesN (build_nn _ _ _) ?k1 ?k2 ?k3 ?k4 ?k5 ?k6 ?k7 ?k8 ?_; (case k1 => k_asm); (case k2 => k_asm); (case k3 => k_asm); (case k4 => k_asm); (case k5 => exact rfl); (case k6 => exact kst_newsOf (by k_asm) (by kst_inAny)); (case k7 => ktr_room); (case k8 => ktr_units)); unfold Back))
local macro_rules | `(tactic| walk_at "mine b2") => `(tactic| (k_dflt (refine' use_givesN (build_ns _ _ _ _ _ ?ka) ?k1 ?k2 ?k3 ?k4 ?k5 ?k6 ?k7 ?k8 ?_; (case k1 => k_asm); (case k2 => k_asm); (case k3 => k_asm); (case k4 => k_asm); (case k5 => exact rfl); (case k6 => exact kst_newsOf (by k_asm) (by kst_inAny)); (case k7 => ktr_room); (case k8 => ktr_units); (case ka => omega)); unfold Back))
local macro_rules | `(tactic| walk_at "mine b3") => `(tactic| (k_dflt (refine' use_givesN (build_sn _ _ _ _ _ ?ka) ?k1 ?k2 ?k3 ?k4 ?k5 ?k6 ?k7 ?k8 ?_; (case k1 => k_asm); (case k2 => k_asm); (case k3 => k_asm); (case k4 => k_asm); (case k5 => exact rfl); (case k6 => exact kst_newsOf (by k_asm) (by kst_inAny)); (case k7 => ktr_room); (case k8 => ktr_units); (case ka => omega)); unfold Back))
local macro_rules | `(tactic| walk_at "mine b4") => `(tactic| (k_dflt (refine' use_givesN (build_ss _ _ _ _ _ _ _ ?ka ?kb) ?k1 ?k2 ?k3 ?k4 ?k5 ?k6 ?k7 ?k8 ?_; (case k1 => k_asm); (case k2 => k_asm); (case k3 => k_asm); (case k4 => k_asm); (case k5 => exact rfl); (case k6 => exact kst_newsOf (by k_asm) (by kst_inAny)); (case k7 => ktr_room); (case k8 => ktr_units); (case ka => omega); (case kb => omega)); unfold Back))
local macro_rules | `(tactic| walk_at "mine r1") => `(tactic| ((with_reducible show wpAny _ _ (call (Value.ref 40) [Value.none]) _ _ _); k_dflt (refine' use_gives (rank_none _) ?k1 ?k2 ?k3 ?k4 ?k5 ?k6 ?k7 ?k8 ?_; (case k1 => k_asm); (case k2 => k_asm); (case k3 => k_asm); (case k4 => k_asm); (case k5 => exact rfl); (case k6 => exact trivial); (case k7 => ktr_room); (case k8 => ktr_units)); unfold Back))
local macro_rules | `(tactic| walk_at "mine r2") => `(tactic| ((with_reducible show wpAny _ _ (call (Value.ref 40) [Value.str _ _]) _ _ _); k_dflt (refine' use_gives (rank_some _ _ _ ?ka ?kb) ?k1 ?k2 ?k3 ?k4 ?k5 ?k6 ?k7 ?k8 ?_; (case k1 => k_asm); (case k2 => k_asm); (case k3 => k_asm); (case k4 => k_asm); (case k5 => exact rfl); (case k6 => exact trivial); (case k7 => ktr_room); (case k8 => ktr_units); (case ka => first | omega | decide); (case kb => first | assumption | decide)); unfold Back))
local macro_rules | `(tactic| walk_at "mine lits") => `(tactic| (simp only [List.forall_mem_cons, List.map_cons, List.map_nil, List.not_mem_nil, false_implies, implies_true, and_true]; (repeat' apply And.intro) <;> first | assumption | exact Ne.symm (by assumption)))
local macro_rules | `(tactic| walk_at "mine sameA") => `(tactic| (intro z h1 h2 h3 h4 h5; simp only [if_neg h1, if_neg h2, if_neg h3, if_neg h4, h5, Bool.false_eq_true, if_false]))
set_option maxHeartbeats 8000000 in
theorem a1 : pk4.1.1 := by
  intro _
  k_fill
  intros
  rename_i nvs nn rvs rn tl ps k t u h tk own hl hs hr hok htl hoff F₁ N₁
  have kMark := kstMark
  have kLenR : rvs.length = ps.length := by rw [hr.length, List.length_map]
  have kLenN : nvs.length = ps.length := by rw [StrsAre.length hs, List.length_map]
  simp only [List.map_cons, List.map_nil, List.cons_append, List.nil_append] at htl hoff N₁
  k_with_none
  k_with "call ref" => (
    walk_at "mine word"
    intro r tl' h3 tk3 F3 hkeep hnew hOut
    rcases hOut with ⟨rfl, (⟨rfl, hw⟩ | ⟨xw, t3, rfl, hw⟩)⟩
    all_goals (
      have N3 := back_news (by k_asm) (by k_asm) hkeep hnew
      simp only [List.nil_append] at N3
      clear hkeep hnew)
    all_goals try (have hwl := (lang_word hw).1; have hwc := lang_codes hw)
    all_goals try (have hwe := (enc_word hw).1; have hwd := enc_codes hw))
  k_with "call ref" => (
    (with_reducible show wpAny _ _ (call (Value.ref 28) _) _ _ _)
    first | walk_at "mine b1" | walk_at "mine b2" | walk_at "mine b3" | walk_at "mine b4"
    intro r tl' h3 tk3 F3 hkeep hnew hOut
    obtain ⟨rfl, t3, rfl⟩ := hOut
    have N3 := back_news (by k_asm) (by k_asm) hkeep hnew
    simp only [List.nil_append] at N3
    clear hkeep hnew)
  k_with "compareOp NotEq ref ref" => (
    refine ne_same (by k_asm) (by k_memK) (by k_memK) (by k_units) ?_)
  k_with "call ref" => (
    walk_at "mine r2"
    intro r tl' h4 tk4 F4 hkeep hnew hOut
    obtain ⟨ra, rb, rys, rfl, hri, rfl⟩ := hOut
    have N4 := back_news (by k_asm) (by k_asm) hkeep hnew
    have ho4 := back_offN (by k_asm) hnew
    simp only [List.cons_append, List.nil_append] at N4
    simp only [List.forall_mem_cons, List.not_mem_nil, false_implies, implies_true, and_true, List.forall_mem_append] at ho4
    (repeat (with_reducible rename (_ ∧ _) => hA9; obtain ⟨hB9, hC9⟩ := hA9))
    clear hkeep hnew)
  k_with "call ref" => (
    walk_at "mine r1"
    intro r tl' h4 tk4 F4 hkeep hnew hOut
    obtain ⟨ra, rfl, rfl⟩ := hOut
    have N4 := back_news (by k_asm) (by k_asm) hkeep hnew
    have ho4 := back_offN (by k_asm) hnew
    simp only [List.cons_append, List.nil_append] at N4
    simp only [List.forall_mem_cons, List.not_mem_nil, false_implies, implies_true, and_true, List.forall_mem_append] at ho4
    (repeat (with_reducible rename (_ ∧ _) => hA9; obtain ⟨hB9, hC9⟩ := hA9))
    clear hkeep hnew)
  k_with "InvEndG" => (
    (rename News _ _ _ _ => nE)
    (repeat (with_reducible rename (_ ∧ _) => hA9; obtain ⟨hB9, hC9⟩ := hA9))
    first
      | exact endE1 (by k_asm) nE (by k_memK) (by assumption) (by assumption) (by walk_at "mine lits") (by assumption) (by walk_at "mine lits") (by walk_at "mine lits") (by assumption) (by assumption) (by assumption) (by assumption) (by assumption) (okp (by assumption) (by assumption)) (by assumption) (by assumption) rfl (by walk_at "mine sameA")
      | exact endE2 (by k_asm) nE (by k_memK) (by assumption) (by assumption) (by walk_at "mine lits") (by assumption) (by walk_at "mine lits") (by assumption) (by assumption) (by assumption) (by assumption) (okp (by assumption) (by assumption)) (by assumption) rfl (by walk_at "mine sameA"))
  k_steps
end Mine

end
section
namespace Mine
local macro_rules | `(tactic| walk_at $s:str) => `(tactic| k_extra $s)
local macro_rules | `(tactic| walk_at "mine for") => `(tactic| ((rename Fr _ _ _ _ => lF'); (with_unfolding_all refine' For_invVF lF' ?k1 ?k2 ?_; (case k1 => exact rfl); (case k2 => exact rfl); k_whole)))
local macro_rules | `(tactic| walk_at "mine coll") => `(tactic| (k_dflt (refine' use_gives (coll3_gives _ _ _ _ _) ?k1 ?k2 ?k3 ?k4 ?k5 ?k6 ?k7 ?k8 ?_; (case k1 => k_asm); (case k2 => k_asm); (case k3 => k_asm); (case k4 => k_asm); (case k5 => exact rfl); (case k6 => exact trivial); (case k7 => ktr_room); (case k8 => ktr_units)); unfold Back))
abbrev stO : List Str := [Str.ofString "j", Str.ofString "due"]
abbrev stI : List Str := [Str.ofString "due"]
section
variable {h₀ : Heap} {x : Str} {m₀ : Str → Option Value} {news : List (Addr × Obj)} {i : Nat} {L : Addr} {m' : Str → Option Value} {own news' : List (Addr × Obj)} {s₁ : Shared} {h' : Heap} {tk : Nat}
theorem endIn (F : Fr h₀ L h' m') (N : News h₀ L h' news') (hn : ∀ q ∈ news ++ own, q ∈ news') (ha : OwnOff own (news.map (·.1))) (hr : ∀ z, z ≠ x → z ≠ Str.ofString "due" → stI.contains z = false → m' z = m₀ z) :
    InvEndG h₀ L (JI news stI x m₀ i) own s₁ { s₁ with heap := h', toks := tk } :=
  endI F N hn ha fun z a b => hr z a (by rintro rfl; simp at b) b
theorem endOut (F : Fr h₀ L h' m') (N : News h₀ L h' news') (hn : ∀ q ∈ news ++ own, q ∈ news') (ha : OwnOff own (news.map (·.1))) (hr : ∀ z, z ≠ x → z ≠ Str.ofString "j" → stI.contains z = false → stO.contains z = false → m' z = m₀ z) :
    InvEndG h₀ L (JI news stO x m₀ i) own s₁ { s₁ with heap := h', toks := tk } :=
  endI F N hn ha fun z a b => hr z a (by rintro rfl; simp at b) (by simp only [List.contains_cons, List.contains_nil, Bool.or_false, Bool.or_eq_false_iff] at b ⊢; exact b.2) b
end
theorem at_i {ps : List Pair} {i : Nat} (h : i < ps.length) {α : Type} (f : Pair → α) : (ps.map f)[i]? = some (f ps[i]) := by simp [h]
set_option maxHeartbeats 8000000 in
theorem a2 : pk4.1.2 := by
  intro _
  k_fill
  intros
  rename_i nvs nn rvs rn tl ps u h tk hl hs hr hok F₁ N₁
  have kMark := kstMark
  have hn9 : ps.length ≤ 1000 := by omega
  have kLenR : rvs.length = ps.length := by rw [hr.length, List.length_map]
  have kLenN : nvs.length = ps.length := by rw [StrsAre.length hs, List.length_map]
  simp only [List.cons_append, List.nil_append] at N₁
  k_with_none
  k_with "exec For Name Call cons nil" => (walk_at "mine for")
  k_with "call builtin:len" => (refine kst_len (by k_asm) (by k_memK) kLenN (by omega) ?_)
  k_with "pyIter ref" => (
    (rename Fr _ _ _ _ => lF')
    (rename News _ _ _ _ => lN')
    (rename IsRange _ _ _ _ _ _ _ _ => rgX)
    k_dflt (refine loopI (x := Str.ofString "i") stO rfl rgX hn9 lF' lN' ?lt ?ld)
    case' lt =>
      intro i ti ui h1 tk1 own1 hi offi Fi Ni
      simp only [List.cons_append, List.nil_append, List.append_assoc] at Ni
    case' ld => intro ui h1 tk1 Fi Ni)
  k_with "pyIter ref" => (
    (rename Fr _ _ _ _ => lF')
    (rename News _ _ _ _ => lN')
    (rename IsRange _ _ _ _ _ _ _ _ => rgX)
    k_dflt (refine loopI (x := Str.ofString "j") stI rfl rgX hn9 lF' lN' ?lt2 ?ld2)
    case' lt2 =>
      intro j tj uj h2 tk2 own2 hj offj Fj Nj
      simp only [List.cons_append, List.nil_append, List.append_assoc] at Nj
      obtain ⟨ai, hai, hRi⟩ := rank_at hr (at_i hi rankOf)
      obtain ⟨aj, haj, hRj⟩ := rank_at hr (at_i hj rankOf)
      obtain ⟨ni, hni⟩ := hs.get _ _ (at_i hi nmOf)
      obtain ⟨nj, hnj⟩ := hs.get _ _ (at_i hj nmOf)
      rcases cmp3 (hok _ (List.getElem_mem hi)) (hok _ (List.getElem_mem hj)) with ⟨hq, hc⟩ | ⟨hq, hg, hc⟩ | ⟨hq, hg, hc⟩
    case' ld2 => intro uj h2 tk2 Fj Nj)
  k_with "subscriptTail Name Name ref int" => (
    refine' item_litK ?ia ?ib ?ic ?id ?_ ?ie
    case ia => exact news_list (by k_asm) (by k_memK)
    case id => first | exact hai | exact haj | exact hni | exact hnj
    case ie => with_unfolding_all rfl
    case ib => omega
    case ic => omega)
  k_with "compareOp NotEq ref ref" => (
    refine ne_ranks (news := tl) (kst_newsOf (by k_asm) (by intro p9 h9; simp [h9])) hRi hRj (by first | k_units | ktr_units) ?_
    first | rw [decide_eq_true hq] | rw [decide_eq_false hq]
    simp only [Bool.not_true, Bool.not_false])
  k_with "compareOp Gt ref ref" => (
    refine gt_ranks (news := tl) (kst_newsOf (by k_asm) (by intro p9 h9; simp [h9])) hRi hRj (by first | k_units | ktr_units) ?_
    rw [hg])
  k_with "call ref" => (
    walk_at "mine coll"
    intro r9 tl9 h3 tk3 F3 hkeep hnew hOut
    rcases hOut with ⟨rfl, t3, (⟨rfl, hc9⟩ | ⟨rfl, hc9⟩ | ⟨rfl, hc9⟩)⟩
    all_goals (
      have N3 := back_news (by k_asm) (by k_asm) hkeep hnew
      simp only [List.nil_append] at N3
      clear hkeep hnew)
    all_goals try (exfalso; exact slt_asymm (by assumption) (by assumption))
    all_goals try (exfalso; exact slt_ne (by assumption) (by assumption))
    all_goals try (exfalso; exact slt_ne' (by assumption) (by assumption)))
  k_with "InvEndG" => (
    (rename News _ _ _ _ => nE)
    first
      | exact endIn (by k_asm) nE (by intro q9 h9; simpa only [List.cons_append, List.nil_append, List.append_assoc] using h9) offj (by intro z h1 h2 h3; simp only [if_neg h1, if_neg h2, h3, Bool.false_eq_true, if_false])
      | exact endOut (by k_asm) nE (by intro q9 h9; simpa only [List.cons_append, List.nil_append, List.append_assoc] using h9) offi (by intro z h1 h2 h3 h4; simp only [if_neg h1, if_neg h2, h3, h4, Bool.false_eq_true, if_false]))
  k_steps
end Mine

end
theorem PySem.Challenge.cw_dm0203_04_holds : PySem.Challenge.rw_dm0203_04.Holds := by
  exact Mine.pk4.2 ⟨Mine.a1⟩ ⟨Mine.a2⟩
