import PyProof.Rows.All
import Wide.All
import OpenK.AllK
import Wide.FinOn
import PySem.Challenge.RW_pe0200_02
open PySem PySem.W PyProof.Rows
set_option Elab.async false
set_option maxRecDepth 100000
set_option maxHeartbeats 8000000
set_option linter.unusedVariables false
namespace Mine
local macro_rules | `(tactic| walk_at "pad 0") => `(tactic| fail "pad")
open_top hd for PySem.Challenge.rw_pe0200_02
end Mine
namespace Mine
local macro_rules | `(tactic| walk_at "pad 0") => `(tactic| fail "pad")
local macro_rules | `(tactic| walk_at "pad 1") => `(tactic| fail "pad")
noncomputable abbrev Ls : List Str := looseW hd.view_39 [Str.ofString "Whitespace"]
section
variable {prog : Program} {w : World} {A₀ A : Around} {s : Shared} {base h₀ : Heap} {outer : List Env} {L : Addr} {m mg mb : Str → Option Value} {env : Env} {objs news : List (Addr × Obj)} {K : Frag} {p : Program} {loose : List Str} {mean : ExcName → Option Value}
  {R : Result → Shared → Prop} {name qual : Str} {params : Arguments} {body : List Stmt} {scope : Scope} {dV kV doc pm cdv ct oc : Value} {an od : Option Addr} {osl : Array (Option Value)} {f : Addr} {args : Args} {binds : List (Str × Value)}
/-- into a def: the objects named in objs are handed over, all else stays as it is -/
theorem enterS (B : Below A₀ base outer h₀) (F : Fr h₀ L s.heap m) (X₀ : K.In h₀) (N : News h₀ L s.heap objs) (T : Top p loose mean mg mb h₀) (hA : A.frames = some (env :: outer)) (hf : env.frame = some L) (hke : env.scope.kind = .function)
    (ho : K.lookup f = some ⟨oc, od, .func (fnOf name qual params body scope dV kV doc pm an cdv ct), osl⟩) (hcd : codeIn K cdv qual = true) (hroom : A.depth < recursionLimit)
    (hbind : BindsTo s (fnOf name qual params body scope dV kV doc pm an cdv ct) args binds) (hloc : ∀ y ∈ binds, scope.names.lookup y.1 = some .local)
    (h : ∀ g L' h₁ tk, Fr g L' h₁ (fun y => binds.reverse.lookup y) → News g L' h₁ objs → Below A base (env :: outer) g → K.In g → Top p loose mean mg mb g → (∀ p ∈ objs, p.1 < L') →
      (∀ h', g.StaysIn h' → (∀ p ∈ objs, h'.get? p.1 = some p.2) → s.heap.StaysIn h') → (∀ a, g.get? a = none → (∀ p ∈ objs, p.1 ≠ a) → s.heap.get? a = none) →
      wpAny (model prog w) (A.deeper (envOf qual scope L' f cdv)) (execs body (envOf qual scope L' f cdv))
        (fun fl s' => R (.ok (.ret (match fl with | .ret v => v | _ => .none))) s')
        (fun e s' => wpAny (model prog w) (A.deeper (envOf qual scope L' f cdv)) (leaving (envOf qual scope L' f cdv) e) (fun _ s'' => R (.error e) s'') (fun e' s'' => R (.error e') s'') s')
        { s with heap := h₁, toks := tk })
    (hco : scope.isCoroutine = false) (hgen : scope.isGenerator = false) (hk : scope.kind = .function)
    (hcell : ∀ x ∈ scope.names, x.2 ≠ .cell) : codeAny (model prog w) A (.call (.ref f) args) R s := by
  obtain ⟨FG, BG, st, lv⟩ := groundX (R := R) B F N hA hf hke
  have XS := X₀.keeps F.keep
  refine codeAny_call_def (fd := fnOf name qual params body scope dV kV doc pm an cdv ct) (body := body) (binds := binds) hroom (XS _ _ ho) rfl (T.nolimit.keeps F.keep) (codeRec_of XS hcd) rfl hbind hcell hloc (fun h₁ hns hk₁ => ?_) hco hgen hk
  refine h _ s.heap.objs.size h₁ _ ⟨hns, fun b o e => hk₁ b o (of_hideAll _ e), Nat.le_of_eq (hideAll_size _ _)⟩
    (fun p hp => ⟨hk₁ _ _ (N p hp).1, Nat.ne_of_lt (Heap.lt_size (N p hp).1), hideAll_none _ (List.mem_map_of_mem hp)⟩) BG (X₀.keeps st) (T.keeps st) (fun p hp => Heap.lt_size (N p hp).1) ?_ ?_
  · intro h' k ho b o e
    by_cases hb : b ∈ objs.map (·.1)
    · obtain ⟨p, hp, rfl⟩ := List.mem_map.mp hb
      have := (N p hp).1
      rw [e] at this
      cases this
      exact ho p hp
    · exact k b o (hideAll_get _ e hb)
  · intro a ha hn
    cases q : s.heap.get? a with
    | none => rfl
    | some o =>
      have := hideAll_get (objs.map (·.1)) q (fun hb => by
        obtain ⟨p, hp, e⟩ := List.mem_map.mp hb
        exact hn p hp e)
      rw [ha] at this; cases this
end
/-- a call of the def at f, wherever it stands: what stood stands, and what comes back is told by post -/
abbrev Gives (w : World) (mean : ExcName → Option Value) (mg mb : Str → Option Value) (d : Nat) (f : Addr) (objs : List (Addr × Obj)) (vs : List Value) (post : Heap → Heap → Value → Prop) : Prop :=
  ∀ (dp un : Nat) (gd : Option (List Code)) (cn : Str) (cs : Scope) (a : Addr) (ccd : Value) (cl : List (Str × Addr)) (outer : List Env) (A₀ : Around) (base h₀ : Heap) (L : Addr) (m : Str → Option Value) (s : Shared) (R : Result → Shared → Prop),
    Below A₀ base outer h₀ → Fr h₀ L s.heap m → (hd.heap_39 w.params).In h₀ → News h₀ L s.heap objs → Top hd.view_39 Ls mean mg mb h₀ → cs.kind = .function → dp + d < recursionLimit → un + 8 * d < cLine →
    (∀ (v : Value) (h' : Heap) (tk' : Nat), s.heap.StaysIn h' → post s.heap h' v → R (.ok (.ret v)) { s with heap := h', toks := tk' }) →
    codeAny (model PySem.Challenge.rw_pe0200_02.row.prog w) (ktrTop dp un gd cn cs L a ccd cl outer) (.call (.ref f) ⟨vs, []⟩) R s
theorem frStays {h₀ h h' : Heap} {L : Addr} {m : Str → Option Value} (F : Fr h₀ L h m) (k : h.StaysIn h') : Fr h₀ L h' m := by
  obtain ⟨oL, es, ep, hL, r⟩ := F.ns
  exact ⟨⟨oL, es, ep, k _ _ hL, r⟩, fun b o e => k _ _ (F.keep b o e), F.above⟩
theorem newsStays {h₀ h h' : Heap} {L : Addr} {news : List (Addr × Obj)} (N : News h₀ L h news) (k : h.StaysIn h') : News h₀ L h' news := fun p hp => ⟨k _ _ (N p hp).1, (N p hp).2⟩
theorem newsMore {h₀ h h' : Heap} {L a : Addr} {o : Obj} {m : Str → Option Value} {news : List (Addr × Obj)} (F : Fr h₀ L h m) (N : News h₀ L h' news) (ha : h'.get? a = some o) (hn : h.get? a = none) : News h₀ L h' ((a, o) :: news) := by
  intro p hp
  rcases List.mem_cons.mp hp with rfl | hp
  · refine ⟨ha, ?_, ?_⟩
    · rintro rfl
      obtain ⟨oL, _, _, hL, _⟩ := F.ns
      rw [hn] at hL; cases hL
    · cases q : h₀.get? a with
      | none => rfl
      | some o' => rw [F.keep _ _ q] at hn; cases hn
  · exact N p hp
theorem newsApart {h₀ h : Heap} {L a : Addr} {news : List (Addr × Obj)} (N : News h₀ L h news) (hn : h.get? a = none) : ∀ p ∈ news, p.1 ≠ a := fun p hp e => by
  have := (N p hp).1
  rw [e, hn] at this; cases this
end Mine
namespace Mine
local macro_rules | `(tactic| walk_at "pad 0") => `(tactic| fail "pad")
local macro_rules | `(tactic| walk_at "pad 1") => `(tactic| fail "pad")
local macro_rules | `(tactic| walk_at "pad 2") => `(tactic| fail "pad")
/-- names of a frame, laid over the rest -/
def ovr : List (Str × Value) → (Str → Option Value) → Str → Option Value
  | [], u => u
  | (k, v) :: r, u => fun y => if y = k then some v else ovr r u y
theorem ovr_self {m : Str → Option Value} : ∀ {ps : List (Str × Value)}, (∀ p ∈ ps, m p.1 = some p.2) → m = ovr ps m
  | [], _ => rfl
  | (k, v) :: r, h => by
    have hr := ovr_self fun q hq => h q (.tail _ hq)
    have hk : m k = some v := h (k, v) (.head _)
    funext y
    show m y = if y = k then some v else ovr r m y
    split
    · rename_i e; rw [e]; exact hk
    · rw [← hr]
theorem newsSub {h₀ h : Heap} {L : Addr} {n n' : List (Addr × Obj)} (N : News h₀ L h n) (hs : ∀ p ∈ n', p ∈ n) : News h₀ L h n' := fun p hp => N p (hs p hp)
theorem newsDrop2 {h₀ h : Heap} {L : Addr} {a b : Addr × Obj} {n : List (Addr × Obj)} (N : News h₀ L h (a :: b :: n)) : News h₀ L h (a :: n) := newsSub N fun p hp => by
  rcases List.mem_cons.mp hp with rfl | hp
  · exact .head _
  · exact .tail _ (.tail _ hp)
theorem newsDrop1 {h₀ h : Heap} {L : Addr} {a : Addr × Obj} {n : List (Addr × Obj)} (N : News h₀ L h (a :: n)) : News h₀ L h n := newsSub N fun p hp => .tail _ hp
section
variable {prog : Program} {w : World} {A₀ A : Around} {s : Shared} {base h₀ : Heap} {outer : List Env} {L : Addr} {m mg mb : Str → Option Value} {env : Env} {objs news : List (Addr × Obj)} {K : Frag} {p : Program} {loose : List Str} {mean : ExcName → Option Value}
  {R : Result → Shared → Prop} {name qual : Str} {params : Arguments} {body : List Stmt} {scope : Scope} {dV kV doc pm cdv ct oc : Value} {an od : Option Addr} {osl : Array (Option Value)} {f C : Addr} {args : Args} {binds : List (Str × Value)}
/-- into a def that may turn the objects handed over -/
theorem enterW (B : Below A₀ base outer h₀) (F : Fr h₀ L s.heap m) (X₀ : K.In h₀) (N : News h₀ L s.heap objs) (T : Top p loose mean mg mb h₀) (hA : A.frames = some (env :: outer)) (hf : env.frame = some L) (hke : env.scope.kind = .function)
    (ho : K.lookup f = some ⟨oc, od, .func (fnOf name qual params body scope dV kV doc pm an cdv ct), osl⟩) (hcd : codeIn K cdv qual = true) (hroom : A.depth < recursionLimit)
    (hbind : BindsTo s (fnOf name qual params body scope dV kV doc pm an cdv ct) args binds) (hloc : ∀ y ∈ binds, scope.names.lookup y.1 = some .local)
    (h : ∀ g L' h₁ tk, Fr g L' h₁ (fun y => binds.reverse.lookup y) → News g L' h₁ objs → Below A base (env :: outer) g → K.In g → Top p loose mean mg mb g → (∀ p ∈ objs, p.1 < L') →
      (∀ b o, s.heap.get? b = some o → (∀ p ∈ objs, p.1 ≠ b) → g.get? b = some o) →
      wpAny (model prog w) (A.deeper (envOf qual scope L' f cdv)) (execs body (envOf qual scope L' f cdv))
        (fun fl s' => R (.ok (.ret (match fl with | .ret v => v | _ => .none))) s')
        (fun e s' => wpAny (model prog w) (A.deeper (envOf qual scope L' f cdv)) (leaving (envOf qual scope L' f cdv) e) (fun _ s'' => R (.error e) s'') (fun e' s'' => R (.error e') s'') s')
        { s with heap := h₁, toks := tk })
    (hco : scope.isCoroutine = false) (hgen : scope.isGenerator = false) (hk : scope.kind = .function)
    (hcell : ∀ x ∈ scope.names, x.2 ≠ .cell) : codeAny (model prog w) A (.call (.ref f) args) R s := by
  obtain ⟨FG, BG, st, lv⟩ := groundX (R := R) B F N hA hf hke
  have XS := X₀.keeps F.keep
  refine codeAny_call_def (fd := fnOf name qual params body scope dV kV doc pm an cdv ct) (body := body) (binds := binds) hroom (XS _ _ ho) rfl (T.nolimit.keeps F.keep) (codeRec_of XS hcd) rfl hbind hcell hloc (fun h₁ hns hk₁ => ?_) hco hgen hk
  refine h _ s.heap.objs.size h₁ _ ⟨hns, fun b o e => hk₁ b o (of_hideAll _ e), Nat.le_of_eq (hideAll_size _ _)⟩
    (fun p hp => ⟨hk₁ _ _ (N p hp).1, Nat.ne_of_lt (Heap.lt_size (N p hp).1), hideAll_none _ (List.mem_map_of_mem hp)⟩) BG (X₀.keeps st) (T.keeps st) (fun p hp => Heap.lt_size (N p hp).1) ?_
  intro b o e hn
  refine hideAll_get _ e fun hb => ?_
  obtain ⟨p, hp, q⟩ := List.mem_map.mp hb
  exact hn p hp q
/-- an object of a class is made, and its __init__ called -/
theorem makeS {rest : List Value} {kw : List (Str × Value)} {fI : Addr} (F : Fr h₀ L s.heap m) (X₀ : K.In h₀) (hm : makesIn K C = true)
    (hi : findIn K (.ref C) "__init__" = some (some (.ref fI))) (hf : typeIn K (.ref fI) = some (.type "function"))
    (h : ∀ x dx h', Fr h₀ L h' m → News h₀ L h' [(x, instObj C dx), (dx, dictOf [] 0)] → dx < x → s.heap.StaysIn h' → s.heap.get? x = none → s.heap.get? dx = none →
      codeAny (model prog w) (A.under (.builtin "type.__call__" ⟨.ref C :: rest, kw⟩)) (.call (.ref fI) ⟨.ref x :: rest, kw⟩) (InitBack x R) { s with heap := h' }) :
    codeAny (model prog w) A (.call (.ref C) ⟨rest, kw⟩) R s := by
  have X := X₀.keeps F.keep
  obtain ⟨hh, g, d, t, os⟩ := s
  have q1 : hh.get? hh.objs.size = none := by
    cases q : hh.get? hh.objs.size with
    | none => rfl
    | some o => exact absurd (Heap.lt_size q) (Nat.lt_irrefl _)
  have q2 : hh.get? (hh.objs.size + 1) = none := by
    cases q : hh.get? (hh.objs.size + 1) with
    | none => rfl
    | some o => exact absurd (Nat.lt_of_succ_lt (Heap.lt_size q)) (Nat.lt_irrefl _)
  refine make_core (makes_of X hm) (looks_findIn X hi) (fun self => bind_fn X self hf) (.inl rfl) (h _ hh.objs.size _ ((F.push _).push _) ?_ (Nat.lt_succ_self _) (fun b o e => Heap.get?_push_of_some _ (Heap.get?_push_of_some _ e)) q2 q1)
  have := ((News.nil (h₀ := h₀) (L := L) (h := hh)).push F emptyDict).push (F.push _) (instObj C hh.objs.size)
  rwa [Heap.size_push] at this
end
section
variable {prog : Program} {w : World} {A : Around} {E : Value → Shared → Prop} {s : Shared} {env : Env} {h₀ : Heap} {x : Str} {body : List Stmt} {Q : Flow → Shared → Prop}
/-- a loop over what walks, by what holds between its turns -/
theorem loopAll {I : Addr} {o₀ : Obj} {fp wr : List Addr} {n : Nat} {P : Nat → Value → Prop} {St : Nat → Heap → Prop} {m₀ : Str → Option Value} {news : List (Addr × Obj)} (J : Nat → (Str → Option Value) → List (Addr × Obj) → Prop)
    (W : Walks prog w A I fp wr n P St) (hI : I = s.heap.objs.size) (hfp : ∀ b ∈ fp, b ≠ env.locals) (hwr : wr = [I]) (hIf : I ∈ fp) (hex : ∀ i h, St i h → ∃ o, h.get? I = some o) (hst : St 0 (s.heap.push o₀))
    (F : Fr h₀ env.locals s.heap m₀) (N : News h₀ env.locals s.heap news) (hj : J 0 m₀ news)
    (turn : ∀ (it : Obj) (i : Nat) (v : Value) (m₁ : Str → Option Value) (news₁ : List (Addr × Obj)) (h : Heap) (tk : Nat), i < n → P i v → J i m₁ news₁ → (∀ p ∈ news₁, p.1 ≠ I) →
      Fr h₀ env.locals h (fun y => if y = x then some v else m₁ y) → News h₀ env.locals h ((I, it) :: news₁) →
      wpAny (model prog w) A (execs body env) (fun f s₂ => UnrPost h₀ env.locals { s with heap := h, toks := tk } I it (fun m' n' => J (i + 1) m' n' ∧ ∀ b ∈ fp, b ≠ I → ∀ o, h.get? b = some o → s₂.heap.get? b = some o) Q f s₂) E { s with heap := h, toks := tk })
    (done : ∀ (m₁ : Str → Option Value) (news₁ : List (Addr × Obj)) (h : Heap) (tk : Nat), J n m₁ news₁ → Fr h₀ env.locals h m₁ → News h₀ env.locals h news₁ → Q .next { s with heap := h, toks := tk }) :
    LoopAtV prog w A h₀ env x body Q E (.ref I) { s with heap := s.heap.push o₀ } := by
  have hnew : h₀.get? I = none := hI ▸ next_is_new F
  subst hwr
  refine ⟨_, _, _, n, _, _, m₀, news, J, rfl, W, (fun hm => hfp _ hm rfl), ?_, ?_, hst, F.push _, (fun p hp => ⟨Heap.get?_push_of_some _ (N p hp).1, (N p hp).2⟩), hj, ?_, ?_⟩
  · intro b hb
    rw [List.mem_singleton.mp hb]
    exact hnew
  · intro p hp hm
    exact absurd (Heap.lt_size (N p hp).1) (by rw [List.mem_singleton.mp hm, hI]; exact Nat.lt_irrefl _)
  · rintro i v m₁ news₁ s₁ own ⟨h1, tk1, rfl⟩ hi hP hJ hoff hown hget hall hst1 F₁ N₁
    obtain ⟨it, hit⟩ := hex _ _ hst1
    have hmem := hall I hIf hnew it hit
    have off : ∀ p ∈ news₁, p.1 ≠ I := fun p hp e => hoff p hp (by rw [e]; exact List.mem_singleton.mpr rfl)
    refine wpAny_mono (turn it i v m₁ news₁ h1 tk1 hi hP hJ off F₁ (fun p hp => ?_)) (fun f s₂ q => ?_) fun _ _ e => e
    · rcases List.mem_cons.mp hp with rfl | hp
      · exact N₁ _ (List.mem_append_left _ hmem)
      · exact N₁ _ (List.mem_append_right _ hp)
    · have fin : UnrEnd h₀ env.locals { s with heap := h1, toks := tk1 } I it (fun m' n' => J (i + 1) m' n' ∧ ∀ b ∈ fp, b ≠ I → ∀ o, h1.get? b = some o → s₂.heap.get? b = some o) s₂ →
          LoopStepU h₀ env.locals [I] own (J (i + 1)) { s with heap := h1, toks := tk1 } .next s₂ := by
        rintro ⟨h', tk, m', news', e, F', N', off', hJ', hk'⟩
        refine ⟨rfl, h', tk, m', news', e, F', fun p hp => ?_, fun p hp hm => off' p hp (List.mem_singleton.mp hm), hJ'⟩
        rcases List.mem_append.mp hp with hp | hp
        · have hs := hget p hp
          by_cases hpI : p.1 = I
          · rw [hpI, hit] at hs
            have e1 : p = (I, it) := by
              cases p; cases hpI; cases hs; rfl
            rw [e1]
            exact N' _ (List.Mem.head _)
          · have q := hk' p.1 (hown p hp) hpI _ hs
            rw [e] at q
            exact ⟨q, (N₁ p (List.mem_append_left _ hp)).2⟩
        · exact N' p (List.Mem.tail _ hp)
      cases f with
      | ret v => exact q
      | brk => exact q
      | next => exact fin q
      | cont => exact fin q
  · rintro h' tk m' news' F' N' _ hJ
    exact done m' news' h' tk hJ F' N'
/-- a loop over a text's signs -/
theorem loopText {xt : Str} {tx : Tok} {m₀ : Str → Option Value} {news : List (Addr × Obj)} (J : Nat → (Str → Option Value) → List (Addr × Obj) → Prop)
    (hh : A.handled = none) (F : Fr h₀ env.locals s.heap m₀) (N : News h₀ env.locals s.heap news) (hj : J 0 m₀ news)
    (turn : ∀ (I : Addr) (it : Obj) (i c : Nat) (t : Tok) (m₁ : Str → Option Value) (news₁ : List (Addr × Obj)) (h : Heap) (tk : Nat), xt.cps[i]? = some c → J i m₁ news₁ → (∀ p ∈ news₁, p.1 ≠ I) →
      Fr h₀ env.locals h (fun y => if y = x then some (.str ⟨#[c]⟩ t) else m₁ y) → News h₀ env.locals h ((I, it) :: news₁) →
      wpAny (model prog w) A (execs body env) (UnrPost h₀ env.locals { s with heap := h, toks := tk } I it (J (i + 1)) Q) E { s with heap := h, toks := tk })
    (done : ∀ (m₁ : Str → Option Value) (news₁ : List (Addr × Obj)) (h : Heap) (tk : Nat), J xt.cps.size m₁ news₁ → Fr h₀ env.locals h m₁ → News h₀ env.locals h news₁ → Q .next { s with heap := h, toks := tk }) :
    wpAny (model prog w) A (pyIter (.str xt tx)) (fun it s₂ => LoopAtV prog w A h₀ env x body Q E it s₂) E s := by
  have hL : ∀ b ∈ [s.heap.objs.size], b ≠ env.locals := fun b hb e => absurd F.ns.lt (by rw [← e, List.mem_singleton.mp hb]; exact Nat.lt_irrefl _)
  have tn : ∀ (it : Obj) (i : Nat) (v : Value) (m₁ : Str → Option Value) (news₁ : List (Addr × Obj)) (h : Heap) (tk : Nat), i < xt.cps.size → SignAt xt i v → J i m₁ news₁ → (∀ p ∈ news₁, p.1 ≠ s.heap.objs.size) →
      Fr h₀ env.locals h (fun y => if y = x then some v else m₁ y) → News h₀ env.locals h ((s.heap.objs.size, it) :: news₁) →
      wpAny (model prog w) A (execs body env) (fun f s₂ => UnrPost h₀ env.locals { s with heap := h, toks := tk } s.heap.objs.size it (fun m' n' => J (i + 1) m' n' ∧ ∀ b ∈ [s.heap.objs.size], b ≠ s.heap.objs.size → ∀ o, h.get? b = some o → s₂.heap.get? b = some o) Q f s₂) E { s with heap := h, toks := tk } := by
    rintro it i v m₁ news₁ h tk _ ⟨c, u, hc, rfl⟩ hJ off F₁ N₁
    refine wpAny_mono (turn _ it i c u m₁ news₁ h tk hc hJ off F₁ N₁) (fun f s₂ q => ?_) fun _ _ e => e
    have fin : UnrEnd h₀ env.locals { s with heap := h, toks := tk } s.heap.objs.size it (J (i + 1)) s₂ → UnrEnd h₀ env.locals { s with heap := h, toks := tk } s.heap.objs.size it (fun m' n' => J (i + 1) m' n' ∧ ∀ b ∈ [s.heap.objs.size], b ≠ s.heap.objs.size → ∀ o, h.get? b = some o → s₂.heap.get? b = some o) s₂ := by
      rintro ⟨h', tk, m', news', e, F', N', off', hJ'⟩
      exact ⟨h', tk, m', news', e, F', N', off', hJ', fun b hb hn => absurd (List.mem_singleton.mp hb) hn⟩
    cases f with
    | ret v => exact q
    | brk => exact q
    | next => exact fin q
    | cont => exact fin q
  cases ha : xt.cps.all (· < 128)
  · exact wpAny_pyIter_wide ha (loopAll J (Walks.strWide hh _ xt tx) rfl hL rfl (List.mem_singleton.mpr rfl) (fun i h st => let ⟨o, ho, _⟩ := st; ⟨o, ho⟩) ⟨_, Heap.get?_push_size _ rfl, rfl, rfl⟩ F N hj tn done)
  · exact wpAny_pyIter_ascii ha (loopAll J (Walks.strAscii hh _ xt tx) rfl hL rfl (List.mem_singleton.mpr rfl) (fun i h st => let ⟨o, ho, _⟩ := st; ⟨o, ho⟩) ⟨_, Heap.get?_push_size _ rfl, rfl, rfl⟩ F N hj tn done)
/-- a loop over a range by ones -/
theorem loopRange {r : Addr} {a₀ b₀ : Int} {t₀ u₀ v₀ : Tok} {n : Nat} {m₀ : Str → Option Value} {news : List (Addr × Obj)} (J : Nat → (Str → Option Value) → List (Addr × Obj) → Prop)
    (hh : A.handled = none) (hr : IsRange s.heap r a₀ b₀ 1 t₀ u₀ v₀) (hsmall : Builtin.Range.small a₀ b₀ 1 = true) (hn : Builtin.Range.rangeSize a₀ b₀ 1 = (n : Int)) (F : Fr h₀ env.locals s.heap m₀) (N : News h₀ env.locals s.heap news) (hj : J 0 m₀ news)
    (turn : ∀ (I : Addr) (it : Obj) (i : Nat) (t : Tok) (m₁ : Str → Option Value) (news₁ : List (Addr × Obj)) (h : Heap) (tk : Nat), i < n → J i m₁ news₁ → (∀ p ∈ news₁, p.1 ≠ I) →
      Fr h₀ env.locals h (fun y => if y = x then some (.int (a₀ + (i : Int)) t) else m₁ y) → News h₀ env.locals h ((I, it) :: news₁) →
      wpAny (model prog w) A (execs body env) (UnrPost h₀ env.locals { s with heap := h, toks := tk } I it (J (i + 1)) Q) E { s with heap := h, toks := tk })
    (done : ∀ (m₁ : Str → Option Value) (news₁ : List (Addr × Obj)) (h : Heap) (tk : Nat), J n m₁ news₁ → Fr h₀ env.locals h m₁ → News h₀ env.locals h news₁ → Q .next { s with heap := h, toks := tk }) :
    wpAny (model prog w) A (pyIter (.ref r)) (fun it s₂ => LoopAtV prog w A h₀ env x body Q E it s₂) E s := by
  have hL : ∀ b ∈ [s.heap.objs.size], b ≠ env.locals := fun b hb e => absurd F.ns.lt (by rw [← e, List.mem_singleton.mp hb]; exact Nat.lt_irrefl _)
  refine wpAny_pyIter_range hr hsmall ?_
  have W : Walks prog w A s.heap.objs.size [s.heap.objs.size] [s.heap.objs.size] n (fun i v => i < n ∧ ∃ t, v = .int (a₀ + i * 1) t)
      (fun i h => IsRangeIter h s.heap.objs.size (a₀ + (i : Nat) * 1) ((n : Int) - (i : Nat)) 1) := (Walks.range hh _ a₀ 1 n).bound
  refine loopAll J W rfl hL rfl (List.mem_singleton.mpr rfl) (fun i h st => ⟨_, st⟩) (by show IsRangeIter _ _ _ _ _; rw [hn]; simpa using Heap.get?_push_size _ rfl) F N hj ?_ done
  rintro it i v m₁ news₁ h tk hi ⟨_, t, rfl⟩ hJ off F₁ N₁
  rw [Int.mul_one] at F₁
  refine wpAny_mono (turn _ it i t m₁ news₁ h tk hi hJ off F₁ N₁) (fun f s₂ q => ?_) fun _ _ e => e
  have fin : UnrEnd h₀ env.locals { s with heap := h, toks := tk } s.heap.objs.size it (J (i + 1)) s₂ → UnrEnd h₀ env.locals { s with heap := h, toks := tk } s.heap.objs.size it (fun m' n' => J (i + 1) m' n' ∧ ∀ b ∈ [s.heap.objs.size], b ≠ s.heap.objs.size → ∀ o, h.get? b = some o → s₂.heap.get? b = some o) s₂ := by
    rintro ⟨h', tk, m', news', e, F', N', off', hJ'⟩
    exact ⟨h', tk, m', news', e, F', N', off', hJ', fun b hb hn => absurd (List.mem_singleton.mp hb) hn⟩
  cases f with
  | ret v => exact q
  | brk => exact q
  | next => exact fin q
  | cont => exact fin q
/-- a loop over a list of the ledger, which the turns leave as it is -/
theorem loopList {l : Addr} {lo : Obj} {vs : List Value} {k : Nat} {m₀ : Str → Option Value} {news : List (Addr × Obj)} (J : Nat → (Str → Option Value) → List (Addr × Obj) → Prop)
    (hh : A.handled = none) (F : Fr h₀ env.locals s.heap m₀) (N : News h₀ env.locals s.heap news) (hc : lo.cls = .type "list") (hd : lo.data = .seq vs.toArray k) (hin : ∀ i m n, J i m n → (l, lo) ∈ n) (hj : J 0 m₀ news)
    (turn : ∀ (I : Addr) (it : Obj) (i : Nat) (v : Value) (m₁ : Str → Option Value) (news₁ : List (Addr × Obj)) (h : Heap) (tk : Nat), vs[i]? = some v → J i m₁ news₁ → (∀ p ∈ news₁, p.1 ≠ I) →
      Fr h₀ env.locals h (fun y => if y = x then some v else m₁ y) → News h₀ env.locals h ((I, it) :: news₁) →
      wpAny (model prog w) A (execs body env) (UnrPost h₀ env.locals { s with heap := h, toks := tk } I it (J (i + 1)) Q) E { s with heap := h, toks := tk })
    (done : ∀ (m₁ : Str → Option Value) (news₁ : List (Addr × Obj)) (h : Heap) (tk : Nat), J vs.length m₁ news₁ → Fr h₀ env.locals h m₁ → News h₀ env.locals h news₁ → Q .next { s with heap := h, toks := tk }) :
    wpAny (model prog w) A (pyIter (.ref l)) (fun it s₂ => LoopAtV prog w A h₀ env x body Q E it s₂) E s := by
  have hm := N _ (hin _ _ _ hj)
  have hl : s.heap.IsList l vs.toArray := ⟨lo, hm.1, hc, k, hd⟩
  have hne : l ≠ s.heap.objs.size := Nat.ne_of_lt (Heap.lt_size hm.1)
  have hL : ∀ b ∈ [s.heap.objs.size, l], b ≠ env.locals := fun b hb e => by
    rcases List.mem_cons.mp hb with hb | hb
    · exact absurd F.ns.lt (by rw [← e, hb]; exact Nat.lt_irrefl _)
    · exact hm.2.1 ((List.mem_singleton.mp hb).symm.trans e)
  refine wpAny_pyIter_list hl ?_
  have W := Walks.list (prog := prog) (w := w) hh s.heap.objs.size l hne vs.toArray
  have hlen : vs.toArray.size = vs.length := by simp
  rw [hlen] at W
  refine loopAll J W rfl hL rfl (List.Mem.head _) (fun i h st => let ⟨o, ho, _⟩ := st.1; ⟨o, ho⟩) ⟨⟨_, Heap.get?_push_size _ rfl, rfl, rfl⟩, hl.at fun o e => Heap.get?_push_of_some _ e⟩ F N hj ?_ done
  rintro it i v m₁ news₁ h tk hi hP hJ off F₁ N₁
  refine wpAny_mono (turn _ it i v m₁ news₁ h tk (by simpa using hP) hJ off F₁ N₁) (fun f s₂ q => ?_) fun _ _ e => e
  have hlo : h.get? l = some lo := (N₁ _ (List.Mem.tail _ (hin _ _ _ hJ))).1
  have fin : UnrEnd h₀ env.locals { s with heap := h, toks := tk } s.heap.objs.size it (J (i + 1)) s₂ → UnrEnd h₀ env.locals { s with heap := h, toks := tk } s.heap.objs.size it (fun m' n' => J (i + 1) m' n' ∧ ∀ b ∈ [s.heap.objs.size, l], b ≠ s.heap.objs.size → ∀ o, h.get? b = some o → s₂.heap.get? b = some o) s₂ := by
    rintro ⟨h', tk, m', news', e, F', N', off', hJ'⟩
    refine ⟨h', tk, m', news', e, F', N', off', hJ', fun b hb hn o ho => ?_⟩
    rcases List.mem_cons.mp hb with hb | hb
    · exact absurd hb hn
    · rw [List.mem_singleton.mp hb] at ho ⊢
      rw [hlo] at ho
      cases ho
      rw [e]
      exact (N' _ (List.Mem.tail _ (hin _ _ _ hJ'))).1
  cases f with
  | ret v => exact q
  | brk => exact q
  | next => exact fin q
  | cont => exact fin q
end
def AllNe (d : Nat) : List (Addr × Obj) → Prop
  | [] => True
  | p :: r => @Ne Nat p.1 d ∧ AllNe d r
theorem allNe_of {d : Addr} : ∀ {l : List (Addr × Obj)}, (∀ p ∈ l, p.1 ≠ d) → AllNe d l
  | [], _ => trivial
  | p :: _, h => ⟨h p (.head _), allNe_of fun q hq => h q (.tail _ hq)⟩
theorem of_allNe {d : Addr} (l : List (Addr × Obj)) (h : AllNe d l) : ∀ p ∈ l, p.1 ≠ d := by
  induction l with
  | nil => intro p hp; exact nomatch hp
  | cons q r ih =>
    intro p hp
    rcases List.mem_cons.mp hp with e | hp
    · rw [e]; exact h.1
    · exact ih h.2 p hp
section
variable {prog : Program} {w : World} {A : Around} {E : Value → Shared → Prop} {s : Shared} {h₀ : Heap} {L l : Addr} {m : Str → Option Value} {news : List (Addr × Obj)}
/-- tuple(a list of the ledger) -/
theorem tupleS {vs : List Value} {k : Nat} {Q : Value → Shared → Prop} (F : Fr h₀ L s.heap m) (N : News h₀ L s.heap news) (hm : (l, W.listOf vs.toArray k) ∈ news) (hsz : vs.length ≤ 1000)
    (h : ∀ D h', Fr h₀ L h' m → News h₀ L h' ((D, { cls := .type "tuple", data := .seq vs.toArray }) :: news) → (∀ p ∈ news, p.1 < D) → Q (.ref D) { s with heap := h' }) :
    wpAny (model prog w) A (call (.type "tuple") [.ref l]) Q E s := by
  have hl : s.heap.IsList l vs.toArray := ⟨_, (N _ hm).1, rfl, k, rfl⟩
  have hs : vs.toArray.size ≤ sizeLine := by
    rw [sizeLine_eq, List.size_toArray]
    exact Nat.le_trans hsz (by decide)
  refine call_tuple_list hl (fun h' st => ?_) hs
  have F' := frStays F st
  have N' := newsStays N st
  have N2 := News.push F' N' ({ cls := .type "tuple", data := .seq vs.toArray } : Obj) rfl
  exact h _ _ (F'.push _) N2 fun p hp => Heap.lt_size (N' p hp).1
/-- len of a tuple of ints of the ledger -/
theorem lenTupS {vs : List Value} {ns : List Int} {Q : Value → Shared → Prop} (N : News h₀ L s.heap news) (hm : (l, ({ cls := .type "tuple", data := .seq vs.toArray } : Obj)) ∈ news) (hi : IntsAre vs ns) (hfit : (ns.length : Int) < 2 ^ 63)
    (h : Q (.int (ns.length : Int) (s.toks + 1)) { s with toks := s.toks + 1 + 1 }) : wpAny (model prog w) A (call (.builtin "len") [.ref l]) Q E s := by
  have e : vs.toArray.size = ns.length := by rw [List.size_toArray, hi.length]
  exact len_tuple (News.isTup N hm) (by rw [e]; exact hfit) (by rw [e]; exact h)
/-- an item of a tuple of ints of the ledger -/
theorem itemTupS {value slice : PySem.Expr} {vs : List Value} {ns : List Int} {k : Int} {u : Tok} {Q : Value → Shared → Prop} (N : News h₀ L s.heap news) (hm : (l, ({ cls := .type "tuple", data := .seq vs.toArray } : Obj)) ∈ news) (hi : IntsAre vs ns) (h0 : 0 ≤ k) (h1 : k < (ns.length : Int)) (hfit : (ns.length : Int) < 2 ^ 63)
    (h : ∀ t, Q (.int (ns.getD k.toNat 0) t) s)
    (hs : subscripted slice false (.ref l) (.int k u) = operate [.ref l, .int k u] (getItem (.ref l) (.int k u)) := by with_unfolding_all rfl) :
    wpAny (model prog w) A (subscriptTail value slice (.ref l) (.int k u)) Q E s := by
  have hk : k.toNat < ns.length := by omega
  obtain ⟨t, ht⟩ := hi.get k.toNat ns[k.toNat] (by simp [hk])
  have e : ns.getD k.toNat 0 = ns[k.toNat] := by simp [List.getD, hk]
  have hj : seqIndex? k vs.length = some k.toNat := by
    rw [hi.length]
    simp [seqIndex?, show ¬ k < 0 by omega, h0, h1]
  exact item_tupleT (News.isTup N hm) (by omega) (by omega) hj ht (e ▸ h t) hs
end
theorem rangeS (a b : Int) : Builtin.Range.rangeSize a b 1 = ((b - a).toNat : Int) := by
  unfold Builtin.Range.rangeSize
  rw [if_pos (by decide)]
  split
  · rw [Int.ediv_one]; omega
  · omega
theorem smallS {a b : Int} (h1 : -1000000 ≤ a ∧ a ≤ 1000000) (h2 : -1000000 ≤ b ∧ b ≤ 1000000) : Builtin.Range.small a b 1 = true := small_one (by omega) (by omega) (by omega) (by omega)
theorem newsApp {h₀ h h' : Heap} {L : Addr} {m : Str → Option Value} {objs news : List (Addr × Obj)} (F : Fr h₀ L h m) (N : News h₀ L h' news) (hp : ∀ p ∈ objs, h'.get? p.1 = some p.2 ∧ h.get? p.1 = none) : News h₀ L h' (objs ++ news) := by
  intro p hm
  rcases List.mem_append.mp hm with q | q
  · exact newsMore F N (hp p q).1 (hp p q).2 p (List.Mem.head _)
  · exact N p q
/-- a call by its contract's code -/
theorem callG {M : Model} {A : Around} {E : Value → Shared → Prop} {s : Shared} {f : Addr} {vs : List Value} {Q : Value → Shared → Prop} (h : codeAny M A (.call (.ref f) ⟨vs, []⟩) (fun r s' => match r with | .ok (.ret v) => Q v s' | .ok _ => False | .error e => E e s') s) : wpAny M A (call (.ref f) vs) Q E s := wpAny_call h
theorem unrEndT {h₀ h' : Heap} {L I : Addr} {it : Obj} {rest : (Str → Option Value) → List (Addr × Obj) → Prop} {s₁ : Shared} {tk : Nat} {m' : Str → Option Value} {news : List (Addr × Obj)} (F : Fr h₀ L h' m') (N : News h₀ L h' ((I, it) :: news)) (off : ∀ p ∈ news, p.1 ≠ I) (r : rest m' news) :
    UnrEnd h₀ L s₁ I it rest { s₁ with heap := h', toks := tk } := UnrEnd.intro F N news (fun _ hp => hp) off r
end Mine
namespace Mine
local macro_rules | `(tactic| walk_at "pad 0") => `(tactic| fail "pad")
local macro_rules | `(tactic| walk_at "pad 1") => `(tactic| fail "pad")
local macro_rules | `(tactic| walk_at "pad 2") => `(tactic| fail "pad")
local macro_rules | `(tactic| walk_at "pad 3") => `(tactic| fail "pad")
local macro_rules | `(tactic| k_room) => `(tactic| ktr_room)
set_option linter.unusedVariables false
def kOne : UInt64 := 4607182418800017408
def kSix : UInt64 := 4618441417868443648
def hI (x : UInt64) : Int := Flt.toInt Float64.truncOf (Float64.mul x 4618441417868443648)
def hF (x : UInt64) : UInt64 := Float64.sub (Float64.mul x 4618441417868443648) (Float64.ofInt (hI x))
def hP : UInt64 := Float64.mul 4607182418800017408 (Float64.sub 4607182418800017408 4607182418800017408)
def hQ (x : UInt64) : UInt64 := Float64.mul 4607182418800017408 (Float64.sub 4607182418800017408 (Float64.mul 4607182418800017408 (hF x)))
def hT (x : UInt64) : UInt64 := Float64.mul 4607182418800017408 (Float64.sub 4607182418800017408 (Float64.mul 4607182418800017408 (Float64.sub 4607182418800017408 (hF x))))
def hRed (x : UInt64) : UInt64 := let i := (hI x).fmod 6; if i = 0 then 4607182418800017408 else if i = 1 then hQ x else if i = 2 then hP else if i = 3 then hP else if i = 4 then hT x else 4607182418800017408
def hGreen (x : UInt64) : UInt64 := let i := (hI x).fmod 6; if i = 0 then hT x else if i = 1 then 4607182418800017408 else if i = 2 then 4607182418800017408 else if i = 3 then hQ x else if i = 4 then hP else hP
def hBlue (x : UInt64) : UInt64 := let i := (hI x).fmod 6; if i = 0 then hP else if i = 1 then hP else if i = 2 then hT x else if i = 3 then 4607182418800017408 else if i = 4 then 4607182418800017408 else hQ x
def tup3 (a b c : Value) : Obj := { cls := .type "tuple", data := .seq #[a, b, c] }
/-- what hsv_to_rgb wants of a full colour's hue, to raise nothing -/
def Hue (x : UInt64) : Prop := Float64.isNaN (Float64.mul x 4618441417868443648) = false ∧ Float64.isInf (Float64.mul x 4618441417868443648) = false ∧ (hI x).natAbs ≤ 1000
theorem hue_big {n : Nat} (h : n ≤ 1000) (q : 2 ^ 1024 - 2 ^ 970 ≤ n) : False := by
  have : ¬ (2 ^ 1024 - 2 ^ 970 ≤ 1000) := by decide +kernel
  exact this (Nat.le_trans q h)
theorem tup3_post {x : UInt64} {h h' : Heap} {D : Addr} {a b c : UInt64} {ta tb tc : Tok} (q : h'.get? D = some (tup3 (.float a ta) (.float b tb) (.float c tc))) (hn : h.get? D = none) (e : a = hRed x ∧ b = hGreen x ∧ c = hBlue x) :
    ∃ D' t1 t2 t3, Value.ref D = .ref D' ∧ h.get? D' = none ∧ h'.get? D' = some (tup3 (.float (hRed x) t1) (.float (hGreen x) t2) (.float (hBlue x) t3)) := by
  obtain ⟨ea, eb, ec⟩ := e
  subst ea eb ec
  exact ⟨D, ta, tb, tc, rfl, hn, q⟩
theorem rgb0 {x : UInt64} (q : (hI x).fmod 6 = 0) : 4607182418800017408 = hRed x ∧ hT x = hGreen x ∧ hP = hBlue x := by simp [hRed, hGreen, hBlue, q]
theorem rgb1 {x : UInt64} (q : (hI x).fmod 6 = 1) : hQ x = hRed x ∧ 4607182418800017408 = hGreen x ∧ hP = hBlue x := by simp [hRed, hGreen, hBlue, q]
theorem rgb2 {x : UInt64} (q : (hI x).fmod 6 = 2) : hP = hRed x ∧ 4607182418800017408 = hGreen x ∧ hT x = hBlue x := by simp [hRed, hGreen, hBlue, q]
theorem rgb3 {x : UInt64} (q : (hI x).fmod 6 = 3) : hP = hRed x ∧ hQ x = hGreen x ∧ 4607182418800017408 = hBlue x := by simp [hRed, hGreen, hBlue, q]
theorem rgb4 {x : UInt64} (q : (hI x).fmod 6 = 4) : hT x = hRed x ∧ hP = hGreen x ∧ 4607182418800017408 = hBlue x := by simp [hRed, hGreen, hBlue, q]
theorem rgb5 {x : UInt64} (q : (hI x).fmod 6 = 5) : 4607182418800017408 = hRed x ∧ hP = hGreen x ∧ hQ x = hBlue x := by simp [hRed, hGreen, hBlue, q]
theorem rgbNo {i : Int} (h0 : i.fmod 6 ≠ 0) (h1 : i.fmod 6 ≠ 1) (h2 : i.fmod 6 ≠ 2) (h3 : i.fmod 6 ≠ 3) (h4 : i.fmod 6 ≠ 4) (h5 : i.fmod 6 ≠ 5) : False := by
  have := Int.fmod_nonneg_of_pos i (show (0:Int) < 6 by decide)
  have := Int.fmod_lt_of_pos i (show (0:Int) < 6 by decide)
  omega

theorem hsv_is (w : World) (mean : ExcName → Option Value) (mg mb : Str → Option Value) (x : UInt64) (t u z : Tok) (hx : Hue x) : Gives w mean mg mb 1 28 [] [.float x t, .float 4607182418800017408 u, .float 4607182418800017408 z] (fun h h' v => ∃ D t1 t2 t3, v = .ref D ∧ h.get? D = none ∧ h'.get? D = some (tup3 (.float (hRed x) t1) (.float (hGreen x) t2) (.float (hBlue x) t3))) := by
  w_on
  unfold Gives
  k_fill
  intro dp un gd cn cs a ccd cl outer A₀ base h₀ L m s R B F X N T hk hdp hun hret
  k_dflt (refine' enterS (binds := [(Str.ofString "h", .float x t), (Str.ofString "s", .float 4607182418800017408 u), (Str.ofString "v", .float 4607182418800017408 z)]) B F X N T ?kA ?kF ?kK ?k6 ?k7 ?k8 ?k9 ?kB ?_ ?c2 ?c3 ?c4 ?c5; (case kA => exact rfl); (case kF => exact rfl); (case kK => exact hk); (case k6 => k_is); (case k7 => k_is); (case k8 => ktr_room); (case k9 => exact BindsTo.of_eq rfl); (case c5 => decide); (case kB => exact locs rfl); (case c2 => exact rfl); (case c3 => exact rfl); (case c4 => exact rfl); k_whole)
  intro g L' h₁ tk₁ F' N' B' X' T' lt' hgs hnew
  clear B F X N T
  (try dsimp only)
  (try k_fold)
  k_steps
  all_goals first
    | (exfalso; rename (Float64.cmp _ _ == some Ordering.eq) = true => q; exact absurd q (by decide +kernel))
    | (exfalso; rename Float64.isNaN _ = true => q; exact absurd (q.symm.trans hx.1) (by decide))
    | (exfalso; rename Float64.isInf _ = true => q; exact absurd (q.symm.trans hx.2.1) (by decide))
    | (exfalso; rename 2 ^ 1024 - 2 ^ 970 ≤ _ => q; exact hue_big hx.2.2 q)
    | (exfalso; exact rgbNo (by assumption) (by assumption) (by assumption) (by assumption) (by assumption) (by assumption))
    | (show R (.ok (.ret (.ref _))) _
       (rename News _ _ _ _ => NN)
       (rename Int.fmod _ _ = _ => q)
       refine hret _ _ _ (hgs _ (Fr.keep (by k_asm)) (fun p hp => nomatch hp)) (tup3_post (NN _ (List.Mem.head _)).1 (hnew _ (NN _ (List.Mem.head _)).2.2 (fun p hp => nomatch hp)) ?_)
       first | exact rgb0 q | exact rgb1 q | exact rgb2 q | exact rgb3 q | exact rgb4 q | exact rgb5 q)

end Mine
namespace Mine
local macro_rules | `(tactic| walk_at "pad 0") => `(tactic| fail "pad")
local macro_rules | `(tactic| walk_at "pad 1") => `(tactic| fail "pad")
local macro_rules | `(tactic| walk_at "pad 2") => `(tactic| fail "pad")
local macro_rules | `(tactic| k_room) => `(tactic| ktr_room)
structure Sc where
  cs : List Int
  b : Int
  n : Int
  nt : Int
/-- the counts, long enough for a run of b blanks -/
def grown (cs : List Int) (b : Int) : List Int := if (cs.length : Int) ≤ b then cs ++ (List.replicate (b - (cs.length : Int) + 1).toNat [0]).flatten else cs
/-- one sign of the lead -/
def stp (st : Sc) (c : Nat) : Sc :=
  if c = 32 then { st with n := st.n + 1, b := st.b + 1 }
  else { cs := (grown st.cs st.b).set st.b.toNat ((grown st.cs st.b).getD st.b.toNat 0 + 1), b := 0, n := st.n + 1, nt := st.nt + 1 }
def sc0 : Sc := ⟨[], 0, 0, 0⟩
/-- the whole lead -/
def scan : List Nat → Sc → Sc
  | [], st => st
  | c :: r, st => if c = 32 ∨ c = 9 then scan r (stp st c) else st
def CtM (ox l : Addr) (b n nt : Int) (tb tn tt : Tok) (u : Str → Option Value) : Str → Option Value :=
  ovr [(Str.ofString "nt", .int nt tt), (Str.ofString "n", .int n tn), (Str.ofString "b", .int b tb), (Str.ofString "count", .ref l), (Str.ofString "T", .str (Str.ofString "\t") 242), (Str.ofString "S", .str (Str.ofString " ") 241), (Str.ofString "self", .ref ox)] u
/-- between two signs -/
def CtJ (ws : Str) (ox dx : Addr) (DX : Obj) (i : Nat) (m : Str → Option Value) (news : List (Addr × Obj)) : Prop :=
  ∃ (cs : List Int) (b n nt : Int) (l : Addr) (vs : List Value) (k : Nat) (tb tn tt : Tok) (u : Str → Option Value), m = CtM ox l b n nt tb tn tt u ∧ news = [(l, W.listOf vs.toArray k), (ox, instObj 97 dx), (dx, DX)] ∧ IntsAre vs cs ∧
    @Ne Nat l ox ∧ @Ne Nat l dx ∧ 0 ≤ b ∧ b ≤ i ∧ (cs.length : Int) ≤ i ∧ scan ws.cps.toList sc0 = scan (ws.cps.toList.drop i) ⟨cs, b, n, nt⟩
theorem ctJ_of {ws : Str} {ox dx l : Addr} {DX : Obj} {i k : Nat} {m : Str → Option Value} {cs : List Int} {b n nt : Int} {vs : List Value} {tb tn tt : Tok} (m1 : m (Str.ofString "nt") = some (.int nt tt)) (m2 : m (Str.ofString "n") = some (.int n tn)) (m3 : m (Str.ofString "b") = some (.int b tb)) (m4 : m (Str.ofString "count") = some (.ref l))
    (m5 : m (Str.ofString "T") = some (.str (Str.ofString "\t") 242)) (m6 : m (Str.ofString "S") = some (.str (Str.ofString " ") 241)) (m7 : m (Str.ofString "self") = some (.ref ox)) (hints : IntsAre vs cs) (h1 : @Ne Nat l ox ∧ @Ne Nat l dx) (h2 : 0 ≤ b ∧ b ≤ i) (h3 : (cs.length : Int) ≤ i)
    (h4 : scan ws.cps.toList sc0 = scan (ws.cps.toList.drop i) ⟨cs, b, n, nt⟩) : CtJ ws ox dx DX i m [(l, W.listOf vs.toArray k), (ox, instObj 97 dx), (dx, DX)] := by
  refine ⟨cs, b, n, nt, l, vs, k, tb, tn, tt, m, ovr_self ?_, rfl, hints, h1.1, h1.2, h2.1, h2.2, h3, h4⟩
  intro p hp
  simp only [List.mem_cons, List.not_mem_nil, or_false] at hp
  rcases hp with rfl | rfl | rfl | rfl | rfl | rfl | rfl <;> assumption
theorem one_is {c d : Nat} {x : Str} (hx : x = ⟨#[d]⟩) {b : Bool} (h : ((⟨#[c]⟩ : Str) == x) = b) : b = true ↔ c = d := by
  subst hx
  rw [← h]
  constructor
  · intro e
    have := eq_of_beq e
    have q : (#[c] : Array Nat) = #[d] := congrArg Str.cps this
    simpa using q
  · intro e; subst e; exact beq_self_eq_true _
theorem scan_more {ws : Str} {i c : Nat} {st : Sc} (hc : ws.cps[i]? = some c) (hs : c = 32 ∨ c = 9) : scan (ws.cps.toList.drop i) st = scan (ws.cps.toList.drop (i + 1)) (stp st c) := by
  have hl : ws.cps.toList[i]? = some c := by simpa using hc
  obtain ⟨hi, e⟩ := List.getElem?_eq_some_iff.mp hl
  rw [List.drop_eq_getElem_cons hi, e]
  show (if c = 32 ∨ c = 9 then scan _ (stp st c) else st) = _
  rw [if_pos hs]
theorem scan_less {ws : Str} {i c : Nat} {st : Sc} (hc : ws.cps[i]? = some c) (hs : ¬ (c = 32 ∨ c = 9)) : scan (ws.cps.toList.drop i) st = st := by
  have hl : ws.cps.toList[i]? = some c := by simpa using hc
  obtain ⟨hi, e⟩ := List.getElem?_eq_some_iff.mp hl
  rw [List.drop_eq_getElem_cons hi, e]
  show (if c = 32 ∨ c = 9 then scan _ (stp st c) else st) = _
  rw [if_neg hs]
theorem idx_lt {ws : Str} {i c n : Nat} (hc : ws.cps[i]? = some c) (h : ws.length ≤ n) : (i : Int) < (n : Int) := by
  have : i < ws.cps.size := by
    rcases Nat.lt_or_ge i ws.cps.size with q | q
    · exact q
    · rw [Array.getElem?_eq_none q] at hc; cases hc
  have e : ws.length = ws.cps.size := rfl
  omega
theorem grown_pos {cs : List Int} {b : Int} (h : (cs.length : Int) ≤ b) : grown cs b = cs ++ (List.replicate (b - (cs.length : Int) + 1).toNat [0]).flatten := if_pos h
theorem grown_neg {cs : List Int} {b : Int} (h : ¬ (cs.length : Int) ≤ b) : grown cs b = cs := if_neg h
theorem flat0 (n : Nat) : ((List.replicate n [(0 : Int)]).flatten).length = n := by
  induction n with
  | zero => rfl
  | succ n ih => rw [List.replicate_succ, List.flatten_cons, List.length_append, ih]; simp; omega
theorem grown_len {cs : List Int} {b : Int} {i : Int} (hb : b ≤ i) (h0 : 0 ≤ b) (h : (cs.length : Int) ≤ i) (x : Int) : (((grown cs b).set b.toNat x).length : Int) ≤ i + 1 := by
  rw [List.length_set]
  unfold grown
  split
  · rw [List.length_append, flat0]; omega
  · omega
theorem unrEndL {h₀ h' : Heap} {L I l ox dx : Addr} {it lo o1 o2 : Obj} {rest : (Str → Option Value) → List (Addr × Obj) → Prop} {s₁ : Shared} {tk : Nat} {m' : Str → Option Value} {all : List (Addr × Obj)} (F : Fr h₀ L h' m') (N : News h₀ L h' all)
    (h1 : (I, it) ∈ all) (h2 : (l, lo) ∈ all) (h3 : (ox, o1) ∈ all) (h4 : (dx, o2) ∈ all) (off : @Ne Nat l I ∧ @Ne Nat ox I ∧ @Ne Nat dx I) (r : rest m' [(l, lo), (ox, o1), (dx, o2)]) : UnrEnd h₀ L s₁ I it rest { s₁ with heap := h', toks := tk } := by
  refine UnrEnd.intro F N _ ?_ ?_ r
  · intro p hp
    rcases List.mem_cons.mp hp with rfl | hp
    · exact h1
    rcases List.mem_cons.mp hp with rfl | hp
    · exact h2
    rcases List.mem_cons.mp hp with rfl | hp
    · exact h3
    rw [List.mem_singleton.mp hp]
    exact h4
  · intro p hp
    rcases List.mem_cons.mp hp with rfl | hp
    · exact off.1
    rcases List.mem_cons.mp hp with rfl | hp
    · exact off.2.1
    rw [List.mem_singleton.mp hp]
    exact off.2.2
/-- an object of Whitespace, laid out -/
def wsObjs (w : World) (x dx D C : Addr) (ws : Str) (st : Sc) (vs : List Value) (t0 t1 t2 t3 t4 t5 t6 t7 t8 : Tok) : List (Addr × Obj) :=
  [(x, instObj 97 dx),
   (dx, dictOf [⟨PyData.keyHash w.params (Str.ofString "raw"), .str (Str.ofString "raw") t0, .str ws t1⟩, ⟨PyData.keyHash w.params (Str.ofString "n"), .str (Str.ofString "n") t2, .int st.n t3⟩, ⟨PyData.keyHash w.params (Str.ofString "nt"), .str (Str.ofString "nt") t4, .int st.nt t5⟩,
      ⟨PyData.keyHash w.params (Str.ofString "norm"), .str (Str.ofString "norm") t6, .ref D⟩, ⟨PyData.keyHash w.params (Str.ofString "is_simple"), .str (Str.ofString "is_simple") t7, .bool (decide ((st.cs.length : Int) ≤ 1))⟩] 5),
   (D, { cls := .type "tuple", data := .seq #[.ref C, .int st.b t8] }), (C, { cls := .type "tuple", data := .seq vs.toArray })]
def WsMade (w : World) (ws : Str) (h h' : Heap) (v : Value) : Prop :=
  ∃ x dx D C vs t0 t1 t2 t3 t4 t5 t6 t7 t8, v = .ref x ∧ IntsAre vs (scan ws.cps.toList sc0).cs ∧ ∀ p ∈ wsObjs w x dx D C ws (scan ws.cps.toList sc0) vs t0 t1 t2 t3 t4 t5 t6 t7 t8, h'.get? p.1 = some p.2 ∧ h.get? p.1 = none
theorem made_of {w : World} {ws : Str} {h h1 h' g : Heap} {L x dx D C : Addr} {vs : List Value} {t0 t1 t2 t3 t4 t5 t6 t7 t8 : Tok} {st : Sc} {all : List (Addr × Obj)} (hst : scan ws.cps.toList sc0 = st) (hints : IntsAre vs st.cs) (N : News g L h' all)
    (stx : h.StaysIn h1) (nx : h.get? x = none) (ndx : h.get? dx = none) (hg : ∀ b o, h1.get? b = some o → (∀ p ∈ [(x, instObj 97 dx), (dx, dictOf [] 0)], p.1 ≠ b) → g.get? b = some o)
    (mD : (D, ({ cls := .type "tuple", data := .seq #[.ref C, .int st.b t8] } : Obj)) ∈ all) (mC : (C, ({ cls := .type "tuple", data := .seq vs.toArray } : Obj)) ∈ all) (mx : (x, instObj 97 dx) ∈ all)
    (md : (dx, dictOf [⟨PyData.keyHash w.params (Str.ofString "raw"), .str (Str.ofString "raw") t0, .str ws t1⟩, ⟨PyData.keyHash w.params (Str.ofString "n"), .str (Str.ofString "n") t2, .int st.n t3⟩, ⟨PyData.keyHash w.params (Str.ofString "nt"), .str (Str.ofString "nt") t4, .int st.nt t5⟩,
      ⟨PyData.keyHash w.params (Str.ofString "norm"), .str (Str.ofString "norm") t6, .ref D⟩, ⟨PyData.keyHash w.params (Str.ofString "is_simple"), .str (Str.ofString "is_simple") t7, .bool (decide ((st.cs.length : Int) ≤ 1))⟩] 5) ∈ all)
    (ne : @Ne Nat x D ∧ @Ne Nat dx D ∧ @Ne Nat x C ∧ @Ne Nat dx C) : WsMade w ws h h' (.ref x) := by
  subst hst
  have fresh : ∀ a, g.get? a = none → @Ne Nat x a → @Ne Nat dx a → h.get? a = none := fun a ha n1 n2 => by
    cases q : h.get? a with
    | none => rfl
    | some o =>
      have := hg a o (stx a o q) fun p hp => by
        rcases List.mem_cons.mp hp with rfl | hp
        · exact n1
        rw [List.mem_singleton.mp hp]; exact n2
      rw [ha] at this; cases this
  refine ⟨x, dx, D, C, vs, t0, t1, t2, t3, t4, t5, t6, t7, t8, rfl, hints, fun p hp => ?_⟩
  rcases List.mem_cons.mp hp with rfl | hp
  · exact ⟨(N _ mx).1, nx⟩
  rcases List.mem_cons.mp hp with rfl | hp
  · exact ⟨(N _ md).1, ndx⟩
  rcases List.mem_cons.mp hp with rfl | hp
  · exact ⟨(N _ mD).1, fresh _ (N _ mD).2.2 ne.1 ne.2.1⟩
  rw [List.mem_singleton.mp hp]
  exact ⟨(N _ mC).1, fresh _ (N _ mC).2.2 ne.2.2.1 ne.2.2.2⟩
theorem made_stays {h h1 h' g : Heap} {x dx : Addr} (stx : h.StaysIn h1) (nx : h.get? x = none) (ndx : h.get? dx = none) (hg : ∀ b o, h1.get? b = some o → (∀ p ∈ [(x, instObj 97 dx), (dx, dictOf [] 0)], p.1 ≠ b) → g.get? b = some o) (k : ∀ b o, g.get? b = some o → h'.get? b = some o) : h.StaysIn h' := by
  intro b o e
  refine k b o (hg b o (stx b o e) fun p hp q => ?_)
  rcases List.mem_cons.mp hp with rfl | hp
  · rw [← q, nx] at e; cases e
  · rw [List.mem_singleton.mp hp] at q; rw [← q, ndx] at e; cases e

local macro_rules | `(tactic| walk_at "call builtin:len") => `(tactic| (k_here; (with_reducible show wpAny _ _ (call (Value.builtin "len") [Value.ref _]) _ _ _); k_dflt (refine' kst_len ?k1 ?k2 (IntsAre.length (by assumption)) ?k4 ?_; (case k1 => k_asm); (case k2 => k_mem); (case k4 => omega); k_whole)))
local macro_rules | `(tactic| walk_at "call type:tuple") => `(tactic| (k_here; (with_reducible show wpAny _ _ (call (Value.type _) [Value.ref _]) _ _ _); k_dflt (refine' tupleS ?k1 ?k2 ?k3 ?k4 ?_; (case k1 => k_asm); (case k2 => k_asm); (case k3 => k_mem); (case k4 => (have q9 := IntsAre.length (by assumption)); omega); k_whole); intro D' h' F' N' l1; (try k_lt l1); (try k_sweep)))

theorem ctor_is (w : World) (mean : ExcName → Option Value) (mg mb : Str → Option Value) (ws : Str) (t : Tok) (hlen : ws.length ≤ 200) : Gives w mean mg mb 2 97 [] [.str ws t] (fun h h' v => WsMade w ws h h' v) := by
  w_on
  unfold Gives
  k_fill
  intro dp un gd cn cs a ccd cl outer A₀ base h₀ L m s R B F X N T hk hdp hun hret
  k_dflt (refine' makeS F X ?m1 ?m2 ?m3 ?_; (case m1 => k_is); (case m2 => k_is); (case m3 => k_is); k_whole)
  intro ox dx h1 F1 N1 ltx stx nx ndx
  k_dflt (refine' enterW (binds := [(Str.ofString "self", .ref ox), (Str.ofString "ws", .str ws t)]) B F1 X N1 T ?kA ?kF ?kK ?k6 ?k7 ?k8 ?k9 ?kB ?_ ?c2 ?c3 ?c4 ?c5; (case kA => exact rfl); (case kF => exact rfl); (case kK => exact hk); (case k6 => k_is); (case k7 => k_is); (case k8 => ktr_room); (case k9 => exact BindsTo.of_eq rfl); (case c5 => decide); (case kB => exact locs rfl); (case c2 => exact rfl); (case c3 => exact rfl); (case c4 => exact rfl); k_whole)
  intro g L' h₁ tk₁ F' N' B' X' T' lt' hg
  clear B F X N T F1 N1
  (try k_lt lt')
  (try k_lt2 ltx)
  (try dsimp only)
  (try k_fold)
  repeat' ((fail_if_success (with_reducible show wpAny _ _ (pyIter _) _ _ _)); (first | (k_unfold; (try dsimp only)) | (k_end; wrow_close) | walk1 | (dsimp only; walk1) | (leave1; walk_say "STEP leave1"; try dsimp only) | fail "no step"))
  k_dflt (refine loopText (CtJ ws ox dx _) rfl (by k_asm) (newsDrop2 (by k_asm)) ⟨[], 0, 0, 0, _, [], _, _, _, _, _, ovr_self (List.forall_mem_cons.mpr ⟨rfl, (List.forall_mem_cons.mpr ⟨rfl, (List.forall_mem_cons.mpr ⟨rfl, (List.forall_mem_cons.mpr ⟨rfl, (List.forall_mem_cons.mpr ⟨rfl, (List.forall_mem_cons.mpr ⟨rfl, (List.forall_mem_cons.mpr ⟨rfl, List.forall_mem_nil _⟩)⟩)⟩)⟩)⟩)⟩)⟩), rfl, .nil, by omega, by omega, by omega, by omega, by simp, rfl⟩ ?turn ?done)
  case done =>
    (rename Fr _ _ _ _ => Fo); (rename News _ _ _ _ => No); clear Fo No
    intro m₁ news₁ h2 tk2 hJ F2 N2
    obtain ⟨cs, b, n, nt, l, vs, k, tb, tn, tt, u, rfl, rfl, hints, hl1, hl2, hb0, hbi, hli, hscan⟩ := hJ
    have hsz : (ws.cps.size : Int) ≤ 200 := Int.ofNat_le.mpr hlen
    have hs0 : scan ws.cps.toList sc0 = ⟨cs, b, n, nt⟩ := by rw [hscan, List.drop_eq_nil_of_le (by simp)]; rfl
    (try dsimp only)
    (try k_fold)
    k_steps
    refine And.intro rfl ?_
    show R (.ok (.ret (.ref ox))) _
    refine hret _ _ _ (made_stays stx nx ndx hg (Fr.keep (by k_asm))) ?_
    refine' made_of ?q1a ?q2a ?q3a stx nx ndx hg ?q4a ?q5a ?q6a ?q7a ?q8a
    case q1a => exact hs0
    case q3a => k_asm
    case q6a => k_mem
    case q7a => k_mem
    case q4a => k_mem
    case q5a => k_mem
    case q2a => assumption
    case q8a => omega

  case turn =>
    (rename Fr _ _ _ _ => Fo); (rename News _ _ _ _ => No); clear Fo No
    intro I it i c tc m₁ news₁ h2 tk2 hc hJ hoff F2 N2
    obtain ⟨cs, b, n, nt, l, vs, k, tb, tn, tt, u, rfl, rfl, hints, hl1, hl2, hb0, hbi, hli, hscan⟩ := hJ
    replace hoff := allNe_of hoff
    simp only [AllNe, and_true] at hoff
    have hi200 : (i : Int) < 200 := idx_lt hc hlen
    (try dsimp only)
    (try k_fold)
    k_steps
    · (rename (_ == Str.ofString " ") = true => e1)
      have e1 := (one_is (d := 32) rfl e1).mp rfl
      subst e1
      refine' unrEndL ?r1b ?r2b ?r3b ?r4b ?r5b ?r6b ?r7b ?r8b
      case r1b => k_asm
      case r2b => k_asm
      case r8b => exact ctJ_of (k := k) rfl rfl rfl rfl rfl rfl rfl (by assumption) (by omega) (by omega) (by show (cs.length : Int) ≤ _; omega) (hscan.trans ((scan_more hc (.inl rfl)).trans rfl))
      case r3b => k_mem
      case r4b => k_mem
      case r5b => k_mem
      case r6b => k_mem
      case r7b => omega

    · (rename (_ == Str.ofString "\t") = true => e1)
      have e1 := (one_is (d := 9) rfl e1).mp rfl
      subst e1
      (rename (_ : Int) ≤ b => e2)
      have e3 := grown_len hbi hb0 hli ((grown cs b).getD b.toNat 0 + 1)
      have e4 : stp ⟨cs, b, n, nt⟩ 9 = ⟨(grown cs b).set b.toNat ((grown cs b).getD b.toNat 0 + 1), 0, n + 1, nt + 1⟩ := rfl
      rw [grown_pos e2] at e3 e4
      refine' unrEndL ?r1c ?r2c ?r3c ?r4c ?r5c ?r6c ?r7c ?r8c
      case r1c => k_asm
      case r2c => k_asm
      case r8c => exact ctJ_of (k := 0) rfl rfl rfl rfl rfl rfl rfl (by assumption) (by omega) (by omega) e3 (hscan.trans ((scan_more hc (.inr rfl)).trans (congrArg (scan _) e4)))
      case r3c => k_mem
      case r4c => k_mem
      case r5c => k_mem
      case r6c => k_mem
      case r7c => omega

    · (rename (_ == Str.ofString "\t") = true => e1)
      have e1 := (one_is (d := 9) rfl e1).mp rfl
      subst e1
      (rename ¬ (_ : Int) ≤ b => e2)
      have e3 := grown_len hbi hb0 hli ((grown cs b).getD b.toNat 0 + 1)
      have e4 : stp ⟨cs, b, n, nt⟩ 9 = ⟨(grown cs b).set b.toNat ((grown cs b).getD b.toNat 0 + 1), 0, n + 1, nt + 1⟩ := rfl
      rw [grown_neg e2] at e3 e4
      refine' unrEndL ?r1d ?r2d ?r3d ?r4d ?r5d ?r6d ?r7d ?r8d
      case r1d => k_asm
      case r2d => k_asm
      case r8d => exact ctJ_of (k := k) rfl rfl rfl rfl rfl rfl rfl (by assumption) (by omega) (by omega) e3 (hscan.trans ((scan_more hc (.inr rfl)).trans (congrArg (scan _) e4)))
      case r3d => k_mem
      case r4d => k_mem
      case r5d => k_mem
      case r6d => k_mem
      case r7d => omega

    · (rename (_ == Str.ofString " ") = false => e1)
      (rename (_ == Str.ofString "\t") = false => e2)
      have e1 := one_is (d := 32) rfl e1
      have e2 := one_is (d := 9) rfl e2
      have hs0 : scan ws.cps.toList sc0 = ⟨cs, b, n, nt⟩ := hscan.trans (scan_less hc (by simp at e1 e2; omega))
      refine And.intro rfl ?_
      show R (.ok (.ret (.ref ox))) _
      refine hret _ _ _ (made_stays stx nx ndx hg (Fr.keep (by k_asm))) ?_
      refine' made_of ?q1e ?q2e ?q3e stx nx ndx hg ?q4e ?q5e ?q6e ?q7e ?q8e
      case q1e => exact hs0
      case q3e => k_asm
      case q6e => k_mem
      case q7e => k_mem
      case q4e => k_mem
      case q5e => k_mem
      case q2e => assumption
      case q8e => omega




end Mine
namespace Mine
local macro_rules | `(tactic| walk_at "pad 0") => `(tactic| fail "pad")
local macro_rules | `(tactic| walk_at "pad 1") => `(tactic| fail "pad")
local macro_rules | `(tactic| walk_at "pad 2") => `(tactic| fail "pad")
local macro_rules | `(tactic| walk_at "pad 3") => `(tactic| fail "pad")
local macro_rules | `(tactic| k_room) => `(tactic| ktr_room)
/-- what the long runs of blanks give -/
def ilSum (cs : List Int) (q : Int) : Nat → Int
  | 0 => 0
  | k + 1 => ilSum cs q k + Int.fdiv (q + (k : Int)) q * cs.getD (q + (k : Int)).toNat 0
def indentOf (st : Sc) (q : Int) : Int := st.b + q * (ilSum st.cs q ((st.cs.length : Int) - q).toNat + st.nt)
def IlM (x C : Addr) (il b q : Int) (ti tb tq : Tok) (u : Str → Option Value) : Str → Option Value :=
  ovr [(Str.ofString "il", .int il ti), (Str.ofString "trailing", .int b tb), (Str.ofString "count", .ref C), (Str.ofString "self", .ref x), (Str.ofString "tabsize", .int q tq)] u
def IlJ (x C : Addr) (b q : Int) (tb tq : Tok) (cs : List Int) (led : List (Addr × Obj)) (i : Nat) (m : Str → Option Value) (news : List (Addr × Obj)) : Prop :=
  ∃ (ti : Tok) (u : Str → Option Value), m = IlM x C (ilSum cs q i) b q ti tb tq u ∧ news = led
theorem ilJ_of {x C : Addr} {il b q : Int} {ti tb tq : Tok} {cs : List Int} {led : List (Addr × Obj)} {i : Nat} {m : Str → Option Value} (m1 : m (Str.ofString "il") = some (.int il ti)) (m2 : m (Str.ofString "trailing") = some (.int b tb)) (m3 : m (Str.ofString "count") = some (.ref C)) (m4 : m (Str.ofString "self") = some (.ref x)) (m5 : m (Str.ofString "tabsize") = some (.int q tq))
    (h : il = ilSum cs q i) : IlJ x C b q tb tq cs led i m led := by
  subst h
  refine ⟨ti, m, ovr_self ?_, rfl⟩
  intro p hp
  simp only [List.mem_cons, List.not_mem_nil, or_false] at hp
  rcases hp with rfl | rfl | rfl | rfl | rfl <;> assumption
theorem fdivS {a q : Int} (ha : 0 ≤ a) (hq : 1 ≤ q) : 0 ≤ Int.fdiv a q ∧ Int.fdiv a q ≤ a := by
  rw [Int.fdiv_eq_ediv_of_nonneg _ (by omega)]
  exact ⟨Int.ediv_nonneg ha (by omega), Int.ediv_le_self _ ha⟩
local macro_rules | `(tactic| mul_fits) => `(tactic| exact PySem.IntMulOk.of_left (PySem.intBits_le_64 (by omega) (by omega)))

local macro_rules | `(tactic| walk_at "call builtin:len") => `(tactic| (k_here; (with_reducible show wpAny _ _ (call (Value.builtin "len") [Value.ref _]) _ _ _); k_dflt (refine' lenTupS ?k1 ?k2 ?k3 ?k4 ?_; (case k1 => k_asm); (case k2 => k_mem); (case k3 => assumption); (case k4 => omega); k_whole)))
local macro_rules | `(tactic| walk_at "subscriptTail") => `(tactic| (k_here; (with_reducible show wpAny _ _ (subscriptTail _ _ (Value.ref _) (Value.int _ _)) _ _ _); (with_unfolding_all refine' itemTupS ?k1 ?k2 ?k3 ?k4 ?k5 ?k6 ?_ ?k7; (case k1 => k_asm); (case k2 => k_mem); (case k3 => assumption); (case k4 => omega); (case k5 => omega); (case k6 => omega); (case k7 => with_unfolding_all rfl); k_whole); intro _))
theorem indent_is (w : World) (mean : ExcName → Option Value) (mg mb : Str → Option Value) (x dx D C : Addr) (ws : Str) (st : Sc) (vs : List Value) (t0 t1 t2 t3 t4 t5 t6 t7 t8 : Tok) (hv : IntsAre vs st.cs) (hl : (st.cs.length : Int) ≤ 201) (q : Int) (hq : 1 ≤ q ∧ q ≤ 100) (t : Tok) : Gives w mean mg mb 2 66 (wsObjs w x dx D C ws st vs t0 t1 t2 t3 t4 t5 t6 t7 t8) [.ref x, .int q t] (fun h h' v => ∃ t, v = .int (indentOf st q) t) := by
  w_on
  unfold Gives
  k_fill
  intro dp un gd cn cs a ccd cl outer A₀ base h₀ L m s R B F X N T hk hdp hun hret
  k_dflt (refine' enterS (binds := [(Str.ofString "self", .ref x), (Str.ofString "tabsize", .int q t)]) B F X N T ?kA ?kF ?kK ?k6 ?k7 ?k8 ?k9 ?kB ?_ ?c2 ?c3 ?c4 ?c5; (case kA => exact rfl); (case kF => exact rfl); (case kK => exact hk); (case k6 => k_is); (case k7 => k_is); (case k8 => ktr_room); (case k9 => exact BindsTo.of_eq rfl); (case c5 => decide); (case kB => exact locs rfl); (case c2 => exact rfl); (case c3 => exact rfl); (case c4 => exact rfl); k_whole)
  intro g L' h₁ tk₁ F' N' B' X' T' lt' hgs hnew
  clear B F X N T
  unfold wsObjs at N' lt'
  (try k_lt lt')
  (try dsimp only)
  (try k_fold)
  repeat' ((fail_if_success (with_reducible show wpAny _ _ (pyIter _) _ _ _)); (first | (k_unfold; (try dsimp only)) | (k_end; wrow_close) | walk1 | (dsimp only; walk1) | (leave1; walk_say "STEP leave1"; try dsimp only) | fail "no step"))
  k_dflt (refine loopRange (IlJ x C st.b q t8 t st.cs _) rfl (by assumption) (smallS (by omega) (by omega)) (rangeS _ _) (by k_asm) (by k_asm) (ilJ_of rfl rfl rfl rfl rfl rfl) ?turn ?done)
  case done =>
    (rename Fr _ _ _ _ => Fo); (rename News _ _ _ _ => No); clear Fo No
    intro m₁ news₁ h2 tk2 hJ F2 N2
    obtain ⟨ti, u, rfl, rfl⟩ := hJ
    (try dsimp only)
    (try k_fold)
    k_steps
    show R (.ok (.ret (.int _ _))) _
    refine hret _ _ _ (hgs _ (Fr.keep (by k_asm)) (fun p hp => ((by k_asm : News _ _ _ _) p hp).1)) ⟨_, rfl⟩
  case turn =>
    (rename Fr _ _ _ _ => Fo); (rename News _ _ _ _ => No); clear Fo No
    intro I it i ti m₁ news₁ h2 tk2 hi hJ hoff F2 N2
    obtain ⟨til, u, rfl, rfl⟩ := hJ
    have hi' : (i : Int) < (st.cs.length : Int) - q := by omega
    have hi0 : 0 ≤ (i : Int) := by omega
    have hfd := fdivS (a := q + (i : Int)) (q := q) (by omega) (by omega)
    (try dsimp only)
    (try k_fold)
    k_steps
    refine unrEndT (by k_asm) (by k_asm) hoff (ilJ_of rfl rfl rfl rfl rfl rfl)



end Mine
namespace Mine
local macro_rules | `(tactic| walk_at "pad 0") => `(tactic| fail "pad")
local macro_rules | `(tactic| walk_at "pad 1") => `(tactic| fail "pad")
local macro_rules | `(tactic| walk_at "pad 2") => `(tactic| fail "pad")
local macro_rules | `(tactic| walk_at "pad 3") => `(tactic| fail "pad")
local macro_rules | `(tactic| walk_at "pad 4") => `(tactic| fail "pad")
local macro_rules | `(tactic| walk_at "pad 5") => `(tactic| fail "pad")
local macro_rules | `(tactic| k_room) => `(tactic| ktr_room)
/-- the longest run of blanks -/
def longOf (st : Sc) : Int := if st.b > (st.cs.length : Int) - 1 then st.b else (st.cs.length : Int) - 1

local macro_rules | `(tactic| walk_at "call builtin:len") => `(tactic| (k_here; (with_reducible show wpAny _ _ (call (Value.builtin "len") [Value.ref _]) _ _ _); k_dflt (refine' lenTupS ?k1 ?k2 ?k3 ?k4 ?_; (case k1 => k_asm); (case k2 => k_mem); (case k3 => assumption); (case k4 => omega); k_whole)))
theorem long_is (w : World) (mean : ExcName → Option Value) (mg mb : Str → Option Value) (x dx D C : Addr) (ws : Str) (st : Sc) (vs : List Value) (t0 t1 t2 t3 t4 t5 t6 t7 t8 : Tok) (hv : IntsAre vs st.cs) (hl : (st.cs.length : Int) ≤ 201) : Gives w mean mg mb 2 59 (wsObjs w x dx D C ws st vs t0 t1 t2 t3 t4 t5 t6 t7 t8) [.ref x] (fun h h' v => ∃ t, v = .int (longOf st) t) := by
  w_on
  unfold Gives
  k_fill
  intro dp un gd cn cs a ccd cl outer A₀ base h₀ L m s R B F X N T hk hdp hun hret
  k_dflt (refine' enterS (binds := [(Str.ofString "self", .ref x)]) B F X N T ?kA ?kF ?kK ?k6 ?k7 ?k8 ?k9 ?kB ?_ ?c2 ?c3 ?c4 ?c5; (case kA => exact rfl); (case kF => exact rfl); (case kK => exact hk); (case k6 => k_is); (case k7 => k_is); (case k8 => ktr_room); (case k9 => exact BindsTo.of_eq rfl); (case c5 => decide); (case kB => exact locs rfl); (case c2 => exact rfl); (case c3 => exact rfl); (case c4 => exact rfl); k_whole)
  intro g L' h₁ tk₁ F' N' B' X' T' lt' hgs hnew
  clear B F X N T
  unfold wsObjs at N' lt'
  (try k_lt lt')
  (try dsimp only)
  (try k_fold)
  k_steps
  show R (.ok (.ret (.int _ _))) _
  exact hret _ _ _ (hgs _ (Fr.keep (by k_asm)) (fun p hp => ((by k_asm : News _ _ _ _) p hp).1)) ⟨_, rfl⟩


end Mine
namespace Mine
local macro_rules | `(tactic| walk_at "pad 0") => `(tactic| fail "pad")
local macro_rules | `(tactic| walk_at "pad 1") => `(tactic| fail "pad")
local macro_rules | `(tactic| walk_at "pad 2") => `(tactic| fail "pad")
local macro_rules | `(tactic| walk_at "pad 3") => `(tactic| fail "pad")
local macro_rules | `(tactic| walk_at "pad 4") => `(tactic| fail "pad")
local macro_rules | `(tactic| walk_at "pad 5") => `(tactic| fail "pad")
local macro_rules | `(tactic| k_room) => `(tactic| ktr_room)
def nOf (s1 s2 : Sc) : Int := (if longOf s2 > longOf s1 then longOf s2 else longOf s1) + 1
def allL (s1 s2 : Sc) (m : Nat) : Bool := (List.range m).all fun i => decide (indentOf s1 (2 + (i : Int)) < indentOf s2 (2 + (i : Int)))
def lessOf (s1 s2 : Sc) : Bool := if s1.n ≥ s2.n then false else if (s1.cs.length : Int) ≤ 1 ∧ (s2.cs.length : Int) ≤ 1 then decide (s1.nt ≤ s2.nt) else allL s1 s2 (nOf s1 s2 + 1 - 2).toNat
theorem allL_no {s1 s2 : Sc} {i m : Nat} (h : indentOf s1 (2 + (i : Int)) ≥ indentOf s2 (2 + (i : Int))) (hi : i < m) : allL s1 s2 m = false := by
  unfold allL
  rw [List.all_eq_false]
  exact ⟨i, List.mem_range.mpr hi, by simp; omega⟩
theorem allL_yes {s1 s2 : Sc} {i : Nat} (h : ¬ indentOf s1 (2 + (i : Int)) ≥ indentOf s2 (2 + (i : Int))) (hm : allL s1 s2 i = true) : allL s1 s2 (i + 1) = true := by
  unfold allL at *
  rw [List.range_succ, List.all_append, hm]
  simp; omega
def LsM (x y : Addr) (u : Str → Option Value) : Str → Option Value := ovr [(Str.ofString "self", .ref x), (Str.ofString "other", .ref y)] u
def LsJ (x y : Addr) (s1 s2 : Sc) (led : List (Addr × Obj)) (i : Nat) (m : Str → Option Value) (news : List (Addr × Obj)) : Prop :=
  ∃ (u : Str → Option Value), m = LsM x y u ∧ news = led ∧ allL s1 s2 i = true
theorem lsJ_of {x y : Addr} {s1 s2 : Sc} {led : List (Addr × Obj)} {i : Nat} {m : Str → Option Value} (m1 : m (Str.ofString "self") = some (.ref x)) (m2 : m (Str.ofString "other") = some (.ref y)) (h : allL s1 s2 i = true) : LsJ x y s1 s2 led i m led := by
  refine ⟨m, ovr_self ?_, rfl, h⟩
  intro p hp
  simp only [List.mem_cons, List.not_mem_nil, or_false] at hp
  rcases hp with rfl | rfl <;> assumption
theorem nOf_b {s1 s2 : Sc} {n : Int} (h1 : 0 ≤ longOf s1 ∧ longOf s1 ≤ 50) (h2 : 0 ≤ longOf s2 ∧ longOf s2 ≤ 50) (e : nOf s1 s2 = n) : 1 ≤ n ∧ n ≤ 51 := by
  unfold nOf at e
  split at e <;> omega
theorem lessOf1 {s1 s2 : Sc} (h : s2.n ≤ s1.n) : lessOf s1 s2 = false := if_pos h
theorem lessOf2 {s1 s2 : Sc} (h : ¬ s2.n ≤ s1.n) (h1 : (s1.cs.length : Int) ≤ 1) (h2 : (s2.cs.length : Int) ≤ 1) : lessOf s1 s2 = decide (s1.nt ≤ s2.nt) := by
  unfold lessOf
  rw [if_neg h, if_pos ⟨h1, h2⟩]
theorem lessOf3 {s1 s2 : Sc} (h : ¬ s2.n ≤ s1.n) (h1 : ¬ ((s1.cs.length : Int) ≤ 1 ∧ (s2.cs.length : Int) ≤ 1)) : lessOf s1 s2 = allL s1 s2 (nOf s1 s2 + 1 - 2).toNat := by
  unfold lessOf
  rw [if_neg h, if_neg h1]

local macro_rules | `(tactic| walk_at "call ref") => `(tactic| ((with_reducible show wpAny _ _ (call (Value.ref 59) _) _ _ _); (with_reducible rename Fr _ _ _ _ => lF'); (with_reducible rename News _ _ _ _ => lN'); k_dflt (refine' wpAny_call (long_is _ _ _ _ _ _ _ _ _ _ _ _ _ _ _ _ _ _ _ _ ?hv ?hl _ _ _ _ _ _ _ _ _ _ _ _ _ _ _ _ ?k1 lF' ?k3 ?k4 ?k5 ?kK ?kd ?ku ?_); (case k1 => k_asm); (case k3 => k_asm); (case k4 => exact newsSub lN' (List.forall_mem_cons.mpr ⟨by k_mem, List.forall_mem_cons.mpr ⟨by k_mem, List.forall_mem_cons.mpr ⟨by k_mem, List.forall_mem_cons.mpr ⟨by k_mem, List.forall_mem_nil _⟩⟩⟩⟩)); (case k5 => k_asm); (case kK => first | exact rfl | assumption); (case kd => ktr_room); (case ku => ktr_units); (case hv => assumption); (case hl => tb_rel); k_whole; intro v9 h9 tk9 st9 post9; (obtain ⟨ta9, e9⟩ := post9); subst e9; (have F9 := frStays lF' st9); (have N9 := newsStays lN' st9); clear lF' lN' st9; (try dsimp only); (try k_fold))))

local macro_rules | `(tactic| walk_at "call ref") => `(tactic| ((with_reducible show wpAny _ _ (call (Value.ref 66) _) _ _ _); (with_reducible rename Fr _ _ _ _ => lF'); (with_reducible rename News _ _ _ _ => lN'); k_dflt (refine' wpAny_call (indent_is _ _ _ _ _ _ _ _ _ _ _ _ _ _ _ _ _ _ _ _ ?hv ?hl _ ?hq _ _ _ _ _ _ _ _ _ _ _ _ _ _ _ _ _ ?k1 lF' ?k3 ?k4 ?k5 ?kK ?kd ?ku ?_); (case k1 => k_asm); (case k3 => k_asm); (case k4 => exact newsSub lN' (List.forall_mem_cons.mpr ⟨by k_mem, List.forall_mem_cons.mpr ⟨by k_mem, List.forall_mem_cons.mpr ⟨by k_mem, List.forall_mem_cons.mpr ⟨by k_mem, List.forall_mem_nil _⟩⟩⟩⟩)); (case k5 => k_asm); (case kK => first | exact rfl | assumption); (case kd => ktr_room); (case ku => ktr_units); (case hv => assumption); (case hl => tb_rel); (case hq => omega); k_whole; intro v9 h9 tk9 st9 post9; (obtain ⟨ta9, e9⟩ := post9); subst e9; (have F9 := frStays lF' st9); (have N9 := newsStays lN' st9); clear lF' lN' st9; (try dsimp only); (try k_fold))))

local macro_rules | `(tactic| tb_rel) => `(tactic| assumption)
theorem less_is (w : World) (mean : ExcName → Option Value) (mg mb : Str → Option Value) (x dx D C : Addr) (ws : Str) (s1 : Sc) (vs : List Value) (t0 t1 t2 t3 t4 t5 t6 t7 t8 : Tok) (y dy E G : Addr) (wt : Str) (s2 : Sc) (us : List Value) (r0 r1 r2 r3 r4 r5 r6 r7 r8 : Tok) (hv : IntsAre vs s1.cs) (hl : (s1.cs.length : Int) ≤ 201) (hu : IntsAre us s2.cs) (hk2 : (s2.cs.length : Int) ≤ 201) (hb1 : 0 ≤ longOf s1 ∧ longOf s1 ≤ 50) (hb2 : 0 ≤ longOf s2 ∧ longOf s2 ≤ 50) : Gives w mean mg mb 4 87 (wsObjs w x dx D C ws s1 vs t0 t1 t2 t3 t4 t5 t6 t7 t8 ++ wsObjs w y dy E G wt s2 us r0 r1 r2 r3 r4 r5 r6 r7 r8) [.ref x, .ref y] (fun h h' v => v = .bool (lessOf s1 s2)) := by
  w_on
  unfold Gives
  k_fill
  intro dp un gd cn cs a ccd cl outer A₀ base h₀ L m s R B F X N T hk hdp hun hret
  k_dflt (refine' enterS (binds := [(Str.ofString "self", .ref x), (Str.ofString "other", .ref y)]) B F X N T ?kA ?kF ?kK ?k6 ?k7 ?k8 ?k9 ?kB ?_ ?c2 ?c3 ?c4 ?c5; (case kA => exact rfl); (case kF => exact rfl); (case kK => exact hk); (case k6 => k_is); (case k7 => k_is); (case k8 => ktr_room); (case k9 => exact BindsTo.of_eq rfl); (case c5 => decide); (case kB => exact locs rfl); (case c2 => exact rfl); (case c3 => exact rfl); (case c4 => exact rfl); k_whole)
  intro g L' h₁ tk₁ F' N' B' X' T' lt' hgs hnew
  clear B F X N T
  simp only [wsObjs, List.cons_append, List.nil_append] at N' lt'
  (try k_lt lt')
  (try dsimp only)
  (try k_fold)
  repeat' ((fail_if_success (with_reducible show wpAny _ _ (pyIter _) _ _ _)); (first | (k_unfold; (try dsimp only)) | (k_end; wrow_close) | walk1 | (dsimp only; walk1) | (leave1; walk_say "STEP leave1"; try dsimp only) | fail "no step"))
  · show R (.ok (.ret (.bool _))) _
    exact hret _ _ _ (hgs _ (Fr.keep (by k_asm)) (fun p hp => ((by k_asm : News _ _ _ _) p hp).1)) (congrArg Value.bool (lessOf1 (by assumption)).symm)
  · show R (.ok (.ret (.bool _))) _
    exact hret _ _ _ (hgs _ (Fr.keep (by k_asm)) (fun p hp => ((by k_asm : News _ _ _ _) p hp).1)) (congrArg Value.bool (lessOf2 (by assumption) (by assumption) (by assumption)).symm)
  · have hLs : lessOf s1 s2 = allL s1 s2 (nOf s1 s2 + 1 - 2).toNat := lessOf3 (by assumption) (by first | (intro q; exact absurd q.1 (by assumption)) | (intro q; exact absurd q.2 (by assumption)))
    have hnb : 1 ≤ (if longOf s2 > longOf s1 then longOf s2 else longOf s1) + 1 ∧ (if longOf s2 > longOf s1 then longOf s2 else longOf s1) + 1 ≤ 51 := nOf_b hb1 hb2 rfl
    k_dflt (refine loopRange (LsJ x y s1 s2 _) rfl (by assumption) (smallS (by omega) (by omega)) (rangeS _ _) (by k_asm) (by k_asm) (lsJ_of rfl rfl rfl) ?turnA ?doneA)
    case doneA =>
      (rename Fr _ _ _ _ => Fo); (rename News _ _ _ _ => No); clear Fo No
      intro m₁ news₁ h2 tk2 hJ F2 N2
      obtain ⟨u, rfl, rfl, hJ⟩ := hJ
      (try dsimp only)
      (try k_fold)
      k_steps
      show R (.ok (.ret (.bool _))) _
      exact hret _ _ _ (hgs _ (Fr.keep (by k_asm)) (fun p hp => ((by k_asm : News _ _ _ _) p hp).1)) (congrArg Value.bool (hLs.trans hJ).symm)
    case turnA =>
      (rename Fr _ _ _ _ => Fo); (rename News _ _ _ _ => No); clear Fo No
      intro I it i ti m₁ news₁ h2 tk2 hi hJ hoff F2 N2
      obtain ⟨u, rfl, rfl, hJ⟩ := hJ
      have hi2 : 0 ≤ (i : Int) ∧ (i : Int) ≤ 60 := by omega
      (try dsimp only)
      (try k_fold)
      k_steps
      · show R (.ok (.ret (.bool _))) _
        exact hret _ _ _ (hgs _ (Fr.keep (by k_asm)) (fun p hp => ((by k_asm : News _ _ _ _) p (List.Mem.tail _ hp)).1)) (congrArg Value.bool (hLs.trans (allL_no (by assumption) hi)).symm)
      · exact unrEndT (by k_asm) (by k_asm) hoff (lsJ_of rfl rfl (allL_yes (by assumption) hJ))
  · have hLs : lessOf s1 s2 = allL s1 s2 (nOf s1 s2 + 1 - 2).toNat := lessOf3 (by assumption) (by first | (intro q; exact absurd q.1 (by assumption)) | (intro q; exact absurd q.2 (by assumption)))
    have hnb : 1 ≤ (if longOf s2 > longOf s1 then longOf s2 else longOf s1) + 1 ∧ (if longOf s2 > longOf s1 then longOf s2 else longOf s1) + 1 ≤ 51 := nOf_b hb1 hb2 rfl
    k_dflt (refine loopRange (LsJ x y s1 s2 _) rfl (by assumption) (smallS (by omega) (by omega)) (rangeS _ _) (by k_asm) (by k_asm) (lsJ_of rfl rfl rfl) ?turnB ?doneB)
    case doneB =>
      (rename Fr _ _ _ _ => Fo); (rename News _ _ _ _ => No); clear Fo No
      intro m₁ news₁ h2 tk2 hJ F2 N2
      obtain ⟨u, rfl, rfl, hJ⟩ := hJ
      (try dsimp only)
      (try k_fold)
      k_steps
      show R (.ok (.ret (.bool _))) _
      exact hret _ _ _ (hgs _ (Fr.keep (by k_asm)) (fun p hp => ((by k_asm : News _ _ _ _) p hp).1)) (congrArg Value.bool (hLs.trans hJ).symm)
    case turnB =>
      (rename Fr _ _ _ _ => Fo); (rename News _ _ _ _ => No); clear Fo No
      intro I it i ti m₁ news₁ h2 tk2 hi hJ hoff F2 N2
      obtain ⟨u, rfl, rfl, hJ⟩ := hJ
      have hi2 : 0 ≤ (i : Int) ∧ (i : Int) ≤ 60 := by omega
      (try dsimp only)
      (try k_fold)
      k_steps
      · show R (.ok (.ret (.bool _))) _
        exact hret _ _ _ (hgs _ (Fr.keep (by k_asm)) (fun p hp => ((by k_asm : News _ _ _ _) p (List.Mem.tail _ hp)).1)) (congrArg Value.bool (hLs.trans (allL_no (by assumption) hi)).symm)
      · exact unrEndT (by k_asm) (by k_asm) hoff (lsJ_of rfl rfl (allL_yes (by assumption) hJ))



end Mine
namespace Mine
local macro_rules | `(tactic| walk_at "pad 0") => `(tactic| fail "pad")
local macro_rules | `(tactic| walk_at "pad 1") => `(tactic| fail "pad")
local macro_rules | `(tactic| walk_at "pad 2") => `(tactic| fail "pad")
local macro_rules | `(tactic| walk_at "pad 3") => `(tactic| fail "pad")
local macro_rules | `(tactic| walk_at "pad 4") => `(tactic| fail "pad")
local macro_rules | `(tactic| walk_at "pad 5") => `(tactic| fail "pad")
local macro_rules | `(tactic| k_room) => `(tactic| ktr_room)
theorem tupNe : Value.type "tuple" ≠ Value.type "list" := by
  intro h
  injection h with h
  revert h; decide
theorem dicNe : Value.type "dict" ≠ Value.type "list" := by
  intro h
  injection h with h
  revert h; decide
/-- the rows of not_less_witness, for tab sizes 1 to m -/
def wRows (s1 s2 : Sc) : Nat → List (Int × Int × Int)
  | 0 => []
  | i + 1 => wRows s1 s2 i ++ (if indentOf s1 (1 + (i : Int)) ≥ indentOf s2 (1 + (i : Int)) then [(1 + (i : Int), indentOf s1 (1 + (i : Int)), indentOf s2 (1 + (i : Int)))] else [])
theorem wRows_yes {s1 s2 : Sc} {i : Nat} (h : indentOf s1 (1 + (i : Int)) ≥ indentOf s2 (1 + (i : Int))) : wRows s1 s2 (i + 1) = wRows s1 s2 i ++ [(1 + (i : Int), indentOf s1 (1 + (i : Int)), indentOf s2 (1 + (i : Int)))] := by
  show _ ++ _ = _
  rw [if_pos h]
theorem wRows_no {s1 s2 : Sc} {i : Nat} (h : ¬ indentOf s1 (1 + (i : Int)) ≥ indentOf s2 (1 + (i : Int))) : wRows s1 s2 (i + 1) = wRows s1 s2 i := by
  show _ ++ _ = _
  rw [if_neg h, List.append_nil]
/-- one row, laid out -/
def RowIs (led : List (Addr × Obj)) (v : Value) (r : Int × Int × Int) : Prop := ∃ a t0 t1 t2, v = .ref a ∧ (a, tup3 (.int r.1 t0) (.int r.2.1 t1) (.int r.2.2 t2)) ∈ led
inductive RowsAre (led : List (Addr × Obj)) : List Value → List (Int × Int × Int) → Prop
  | nil : RowsAre led [] []
  | cons {v : Value} {r : Int × Int × Int} {vs : List Value} {rs : List (Int × Int × Int)} : RowIs led v r → RowsAre led vs rs → RowsAre led (v :: vs) (r :: rs)
theorem RowIs.more {led : List (Addr × Obj)} {p : Addr × Obj} {v : Value} {r : Int × Int × Int} (h : RowIs led v r) : RowIs (p :: led) v r := by
  obtain ⟨a, t0, t1, t2, e, hm⟩ := h
  exact ⟨a, t0, t1, t2, e, .tail _ hm⟩
theorem RowsAre.snoc {led : List (Addr × Obj)} {p : Addr × Obj} {v : Value} {r : Int × Int × Int} {vs : List Value} {rs : List (Int × Int × Int)} (h : RowsAre led vs rs) (hr : RowIs (p :: led) v r) : RowsAre (p :: led) (vs ++ [v]) (rs ++ [r]) := by
  induction h with
  | nil => exact .cons hr .nil
  | cons h1 _ ih => exact .cons h1.more ih
theorem RowsAre.length {led : List (Addr × Obj)} {vs : List Value} {rs : List (Int × Int × Int)} (h : RowsAre led vs rs) : vs.length = rs.length := by
  induction h with
  | nil => rfl
  | cons _ _ ih => simp [ih]
theorem RowsAre.at {led : List (Addr × Obj)} {vs : List Value} {rs : List (Int × Int × Int)} (h : RowsAre led vs rs) : ∀ {i : Nat} {v : Value}, vs[i]? = some v → ∃ r, rs[i]? = some r ∧ RowIs led v r := by
  induction h with
  | nil => intro i v e; simp at e
  | cons h1 _ ih =>
    intro i v e
    cases i with
    | zero =>
      simp only [List.getElem?_cons_zero, Option.some.injEq] at e
      subst e
      exact ⟨_, rfl, h1⟩
    | succ i => exact ih e
theorem wRows_len (s1 s2 : Sc) : ∀ i : Nat, (wRows s1 s2 i).length ≤ i
  | 0 => Nat.le_refl _
  | i + 1 => by
    have := wRows_len s1 s2 i
    show (wRows s1 s2 i ++ _).length ≤ _
    rw [List.length_append]
    split <;> simp <;> omega
def WtM (A x y : Addr) (u : Str → Option Value) : Str → Option Value := ovr [(Str.ofString "a", .ref A), (Str.ofString "self", .ref x), (Str.ofString "other", .ref y)] u
def WtJ (x y : Addr) (s1 s2 : Sc) (obs : List (Addr × Obj)) (i : Nat) (m : Str → Option Value) (news : List (Addr × Obj)) : Prop :=
  ∃ (A : Addr) (vs : List Value) (k : Nat) (led : List (Addr × Obj)) (u : Str → Option Value), m = WtM A x y u ∧ news = (A, W.listOf vs.toArray k) :: (obs ++ led) ∧ RowsAre led vs (wRows s1 s2 i) ∧ (∀ p ∈ led, p.2.cls = .type "tuple" ∧ ∀ o ∈ obs, o.1 ≠ p.1)
theorem wtJ_of {x y A : Addr} {s1 s2 : Sc} {obs led : List (Addr × Obj)} {i k : Nat} {vs : List Value} {m : Str → Option Value} (m0 : m (Str.ofString "a") = some (.ref A)) (m1 : m (Str.ofString "self") = some (.ref x)) (m2 : m (Str.ofString "other") = some (.ref y)) (h : RowsAre led vs (wRows s1 s2 i)) (hl : ∀ p ∈ led, p.2.cls = .type "tuple" ∧ ∀ o ∈ obs, o.1 ≠ p.1) : WtJ x y s1 s2 obs i m ((A, W.listOf vs.toArray k) :: (obs ++ led)) := by
  refine ⟨A, vs, k, led, m, ovr_self ?_, rfl, h, hl⟩
  intro p hp
  simp only [List.mem_cons, List.not_mem_nil, or_false] at hp
  rcases hp with rfl | rfl | rfl <;> assumption
/-- what not_less_witness hands back -/
def WitMade (rows : List (Int × Int × Int)) (h h' : Heap) (v : Value) : Prop :=
  ∃ D vs k led, v = .ref D ∧ (∀ p ∈ (D, W.listOf vs.toArray k) :: led, h'.get? p.1 = some p.2 ∧ h.get? p.1 = none) ∧ RowsAre led vs rows
section
variable {prog : Program} {w : World} {A : Around} {E : Value → Shared → Prop} {s : Shared} {h₀ : Heap} {L l : Addr} {m : Str → Option Value}
theorem updThird {D I l : Addr} {tp it o o' : Obj} {rest : List (Addr × Obj)} (h1 : D ≠ l) (h2 : I ≠ l) (h3 : ∀ p ∈ rest, p.1 ≠ l) : Upd l o o' ((D, tp) :: (I, it) :: (l, o) :: rest) ((D, tp) :: (I, it) :: (l, o') :: rest) :=
  .tail h1 (.tail h2 (.head h3))
theorem appendRow {D I l : Addr} {tp it : Obj} {rest : List (Addr × Obj)} {vs : List Value} {k : Nat} {Q : Value → Shared → Prop} (F : Fr h₀ L s.heap m) (N : News h₀ L s.heap ((D, tp) :: (I, it) :: (l, W.listOf vs.toArray k) :: rest)) (hD : tp.cls = .type "tuple") (hI : I ≠ l) (hr : ∀ p ∈ rest, p.2.cls ≠ .type "list") (hl : vs.length ≤ 1000)
    (h : ∀ h', Fr h₀ L h' m → News h₀ L h' ((D, tp) :: (I, it) :: (l, W.listOf (vs ++ [Value.ref D]).toArray (k + 1)) :: rest) → Q .none { s with heap := h' }) :
    wpAny (model prog w) A (call (.builtin "list.append") [.ref l, .ref D]) Q E s := by
  have hlo := (N _ (.tail _ (.tail _ (.head _)))).1
  have n1 : D ≠ l := fun e => by
    have := (N _ (.head _)).1
    rw [show ((D, tp) : Addr × Obj).1 = l from e, hlo] at this
    have e2 : W.listOf vs.toArray k = tp := Option.some.inj this
    rw [← e2] at hD
    exact tupNe hD.symm
  have n3 : ∀ p ∈ rest, p.1 ≠ l := fun p hp e => by
    have := (N p (.tail _ (.tail _ (.tail _ hp)))).1
    rw [e, hlo] at this
    have e2 := Option.some.inj this
    exact hr p hp (by rw [← e2])
  refine append_K (its := vs.toArray) F N (updThird n1 hI n3) (fun h' F' N' => ?_) ?_
  · refine h h' F' ?_
    have e : (vs ++ [Value.ref D]).toArray = vs.toArray.push (.ref D) := by simp
    rw [e]; exact N'
  · rw [sizeLine_eq, List.size_toArray]; omega
end
theorem newsRot {h₀ h : Heap} {L : Addr} {d i a : Addr × Obj} {obs led : List (Addr × Obj)} (N : News h₀ L h (d :: i :: a :: (obs ++ led))) : News h₀ L h (i :: a :: (obs ++ (d :: led))) := newsSub N fun p hp => by
  simp only [List.mem_cons, List.mem_append] at hp ⊢
  rcases hp with h | h | h | h | h
  · exact .inr (.inl h)
  · exact .inr (.inr (.inl h))
  · exact .inr (.inr (.inr (.inl h)))
  · exact .inl h
  · exact .inr (.inr (.inr (.inr h)))
theorem offRot {I a d : Addr} {o o' tp : Obj} {obs led : List (Addr × Obj)} (h : ∀ p ∈ (a, o) :: (obs ++ led), p.1 ≠ I) (hd : d ≠ I) : ∀ p ∈ (a, o') :: (obs ++ ((d, tp) :: led)), p.1 ≠ I := by
  intro p hp
  simp only [List.mem_cons, List.mem_append] at hp h
  rcases hp with rfl | hp | rfl | hp
  · exact h (a, o) (.inl rfl)
  · exact h p (.inr (.inl hp))
  · exact hd
  · exact h p (.inr (.inr hp))
theorem ledMore {d : Addr} {tp : Obj} {obs led : List (Addr × Obj)} (h : ∀ p ∈ led, p.2.cls = .type "tuple" ∧ ∀ o ∈ obs, o.1 ≠ p.1) (ht : tp.cls = .type "tuple") (hd : ∀ o ∈ obs, o.1 ≠ d) : ∀ p ∈ (d, tp) :: led, p.2.cls = .type "tuple" ∧ ∀ o ∈ obs, o.1 ≠ p.1 := by
  intro p hp
  rcases List.mem_cons.mp hp with rfl | hp
  · exact ⟨ht, hd⟩
  · exact h p hp
theorem noList (w : World) (x dx D C : Addr) (ws : Str) (st : Sc) (vs : List Value) (t0 t1 t2 t3 t4 t5 t6 t7 t8 : Tok) : ∀ p ∈ wsObjs w x dx D C ws st vs t0 t1 t2 t3 t4 t5 t6 t7 t8, p.2.cls ≠ .type "list" := by
  refine List.forall_mem_cons.mpr ⟨fun h => ?_, List.forall_mem_cons.mpr ⟨fun h => ?_, List.forall_mem_cons.mpr ⟨fun h => ?_, List.forall_mem_cons.mpr ⟨fun h => ?_, List.forall_mem_nil _⟩⟩⟩⟩
  · cases h
  · exact dicNe h
  · exact tupNe h
  · exact tupNe h
theorem noList2 {obs obt led : List (Addr × Obj)} {P : Addr × Obj → Prop} (h1 : ∀ p ∈ obs, p.2.cls ≠ .type "list") (h2 : ∀ p ∈ obt, p.2.cls ≠ .type "list") (h3 : ∀ p ∈ led, p.2.cls = .type "tuple" ∧ P p) : ∀ p ∈ (obs ++ obt) ++ led, p.2.cls ≠ .type "list" := by
  intro p hp
  rcases List.mem_append.mp hp with hp | hp
  · rcases List.mem_append.mp hp with hp | hp
    · exact h1 p hp
    · exact h2 p hp
  · rw [(h3 p hp).1]; exact tupNe
theorem apartList {h₀ h : Heap} {L a : Addr} {vs : List Value} {k : Nat} {obs : List (Addr × Obj)} {rest : List (Addr × Obj)} (N : News h₀ L h ((a, W.listOf vs.toArray k) :: rest)) (hs : ∀ p ∈ obs, p ∈ rest) (hr : ∀ p ∈ obs, p.2.cls ≠ .type "list") : ∀ p ∈ obs, p.1 ≠ a := by
  intro p hp e
  have h1 := (N p (.tail _ (hs p hp))).1
  rw [e, (N _ (.head _)).1] at h1
  have e2 := Option.some.inj h1
  exact hr p hp (by rw [← e2])

local macro_rules | `(tactic| walk_at "call ref") => `(tactic| ((with_reducible show wpAny _ _ (call (Value.ref 59) _) _ _ _); (with_reducible rename Fr _ _ _ _ => lF'); (with_reducible rename News _ _ _ _ => lN'); k_dflt (refine' wpAny_call (long_is _ _ _ _ _ _ _ _ _ _ _ _ _ _ _ _ _ _ _ _ ?hv ?hl _ _ _ _ _ _ _ _ _ _ _ _ _ _ _ _ ?k1 lF' ?k3 ?k4 ?k5 ?kK ?kd ?ku ?_); (case k1 => k_asm); (case k3 => k_asm); (case k4 => exact newsSub lN' (List.forall_mem_cons.mpr ⟨by k_mem, List.forall_mem_cons.mpr ⟨by k_mem, List.forall_mem_cons.mpr ⟨by k_mem, List.forall_mem_cons.mpr ⟨by k_mem, List.forall_mem_nil _⟩⟩⟩⟩)); (case k5 => k_asm); (case kK => first | exact rfl | assumption); (case kd => ktr_room); (case ku => ktr_units); (case hv => assumption); (case hl => tb_rel); k_whole; intro v9 h9 tk9 st9 post9; (obtain ⟨ta9, e9⟩ := post9); subst e9; (have F9 := frStays lF' st9); (have N9 := newsStays lN' st9); clear lF' lN' st9; (try dsimp only); (try k_fold))))

local macro_rules | `(tactic| walk_at "call ref") => `(tactic| ((with_reducible show wpAny _ _ (call (Value.ref 66) _) _ _ _); (with_reducible rename Fr _ _ _ _ => lF'); (with_reducible rename News _ _ _ _ => lN'); k_dflt (refine' wpAny_call (indent_is _ _ _ _ _ _ _ _ _ _ _ _ _ _ _ _ _ _ _ _ ?hv ?hl _ ?hq _ _ _ _ _ _ _ _ _ _ _ _ _ _ _ _ _ ?k1 lF' ?k3 ?k4 ?k5 ?kK ?kd ?ku ?_); (case k1 => k_asm); (case k3 => k_asm); (case k4 => exact newsSub lN' (List.forall_mem_cons.mpr ⟨by k_mem, List.forall_mem_cons.mpr ⟨by k_mem, List.forall_mem_cons.mpr ⟨by k_mem, List.forall_mem_cons.mpr ⟨by k_mem, List.forall_mem_nil _⟩⟩⟩⟩)); (case k5 => k_asm); (case kK => first | exact rfl | assumption); (case kd => ktr_room); (case ku => ktr_units); (case hv => assumption); (case hl => tb_rel); (case hq => omega); k_whole; intro v9 h9 tk9 st9 post9; (obtain ⟨ta9, e9⟩ := post9); subst e9; (have F9 := frStays lF' st9); (have N9 := newsStays lN' st9); clear lF' lN' st9; (try dsimp only); (try k_fold))))

local macro_rules | `(tactic| tb_rel) => `(tactic| assumption)
local macro_rules | `(tactic| walk_at "call builtin:list.append") => `(tactic| (k_here; k_dflt (refine' appendRow ?k1 ?k2 ?k3 ?k4 ?k5 ?k6 ?_; (case k1 => k_asm); (case k2 => k_asm); (case k3 => exact rfl); (case k4 => assumption); (case k5 => assumption); (case k6 => assumption); k_whole); intro h' F' N'))
theorem wit_is (w : World) (mean : ExcName → Option Value) (mg mb : Str → Option Value) (x dx D C : Addr) (ws : Str) (s1 : Sc) (vs : List Value) (t0 t1 t2 t3 t4 t5 t6 t7 t8 : Tok) (y dy E G : Addr) (wt : Str) (s2 : Sc) (us : List Value) (r0 r1 r2 r3 r4 r5 r6 r7 r8 : Tok) (hv : IntsAre vs s1.cs) (hl : (s1.cs.length : Int) ≤ 201) (hu : IntsAre us s2.cs) (hk2 : (s2.cs.length : Int) ≤ 201) (hb1 : 0 ≤ longOf s1 ∧ longOf s1 ≤ 50) (hb2 : 0 ≤ longOf s2 ∧ longOf s2 ≤ 50) : Gives w mean mg mb 4 94 (wsObjs w x dx D C ws s1 vs t0 t1 t2 t3 t4 t5 t6 t7 t8 ++ wsObjs w y dy E G wt s2 us r0 r1 r2 r3 r4 r5 r6 r7 r8) [.ref x, .ref y] (fun h h' v => WitMade (wRows s1 s2 (nOf s1 s2 + 1 - 1).toNat) h h' v) := by
  w_on
  unfold Gives
  k_fill
  intro dp un gd cn cs a ccd cl outer A₀ base h₀ L m s R B F X N T hk hdp hun hret
  k_dflt (refine' enterS (binds := [(Str.ofString "self", .ref x), (Str.ofString "other", .ref y)]) B F X N T ?kA ?kF ?kK ?k6 ?k7 ?k8 ?k9 ?kB ?_ ?c2 ?c3 ?c4 ?c5; (case kA => exact rfl); (case kF => exact rfl); (case kK => exact hk); (case k6 => k_is); (case k7 => k_is); (case k8 => ktr_room); (case k9 => exact BindsTo.of_eq rfl); (case c5 => decide); (case kB => exact locs rfl); (case c2 => exact rfl); (case c3 => exact rfl); (case c4 => exact rfl); k_whole)
  intro g L' h₁ tk₁ F' N' B' X' T' lt' hgs hnew
  clear B F X N T
  simp only [wsObjs, List.cons_append, List.nil_append] at N' lt'
  (try k_lt lt')
  (try dsimp only)
  (try k_fold)
  repeat' ((fail_if_success (with_reducible show wpAny _ _ (pyIter _) _ _ _)); (first | (k_unfold; (try dsimp only)) | (k_end; wrow_close) | walk1 | (dsimp only; walk1) | (leave1; walk_say "STEP leave1"; try dsimp only) | fail "no step"))
  have hnb : 1 ≤ (if longOf s2 > longOf s1 then longOf s2 else longOf s1) + 1 ∧ (if longOf s2 > longOf s1 then longOf s2 else longOf s1) + 1 ≤ 51 := nOf_b hb1 hb2 rfl
  k_dflt (refine loopRange (WtJ x y s1 s2 (wsObjs w x dx D C ws s1 vs t0 t1 t2 t3 t4 t5 t6 t7 t8 ++ wsObjs w y dy E G wt s2 us r0 r1 r2 r3 r4 r5 r6 r7 r8)) rfl (by assumption) (smallS (by omega) (by omega)) (rangeS _ _) (by k_asm) (by k_asm) (wtJ_of (led := []) (vs := []) (k := 0) rfl rfl rfl .nil (fun p hp => nomatch hp)) ?turn ?done)
  case done =>
    (rename Fr _ _ _ _ => Fo); (rename News _ _ _ _ => No); clear Fo No
    intro m₁ news₁ h2 tk2 hJ F2 N2
    obtain ⟨A, ws9, k, led, u, rfl, rfl, hrows, hled⟩ := hJ
    (try dsimp only)
    (try k_fold)
    k_steps
    show R (.ok (.ret (.ref A))) _
    rename News _ _ _ _ => Nz
    have hob : ∀ p ∈ (wsObjs w x dx D C ws s1 vs t0 t1 t2 t3 t4 t5 t6 t7 t8 ++ wsObjs w y dy E G wt s2 us r0 r1 r2 r3 r4 r5 r6 r7 r8), p.1 ≠ A := apartList (rest := (wsObjs w x dx D C ws s1 vs t0 t1 t2 t3 t4 t5 t6 t7 t8 ++ wsObjs w y dy E G wt s2 us r0 r1 r2 r3 r4 r5 r6 r7 r8) ++ led) Nz (fun p hp => List.mem_append_left _ hp) (fun p hp => noList2 (led := []) (P := fun _ => True) (noList w x dx D C ws s1 vs t0 t1 t2 t3 t4 t5 t6 t7 t8) (noList w y dy E G wt s2 us r0 r1 r2 r3 r4 r5 r6 r7 r8) (fun p hp => nomatch hp) p (List.mem_append_left _ hp))
    refine hret _ _ _ (hgs _ (Fr.keep (by k_asm)) (fun p hp => (Nz p (List.Mem.tail _ (List.mem_append_left led hp))).1)) ⟨A, ws9, k, led, rfl, ?_, hrows⟩
    intro p hp
    rcases List.mem_cons.mp hp with rfl | hp
    · exact ⟨(Nz _ (.head _)).1, hnew A (Nz _ (.head _)).2.2 hob⟩
    · have hm : p ∈ (A, W.listOf ws9.toArray k) :: ((wsObjs w x dx D C ws s1 vs t0 t1 t2 t3 t4 t5 t6 t7 t8 ++ wsObjs w y dy E G wt s2 us r0 r1 r2 r3 r4 r5 r6 r7 r8) ++ led) := List.Mem.tail _ (List.mem_append_right _ hp)
      exact ⟨(Nz p hm).1, hnew p.1 (Nz p hm).2.2 (hled p hp).2⟩
  case turn =>
    (rename Fr _ _ _ _ => Fo); (rename News _ _ _ _ => No); clear Fo No
    intro I it i ti m₁ news₁ h2 tk2 hi hJ hoff F2 N2
    obtain ⟨A, ws9, k, led, u, rfl, rfl, hrows, hled⟩ := hJ
    have hIA : I ≠ A := (hoff _ (.head _)).symm
    have hi2 : 0 ≤ (i : Int) ∧ (i : Int) ≤ 60 := by omega
    have hwl : ws9.length ≤ 1000 := by rw [hrows.length]; exact Nat.le_trans (wRows_len s1 s2 i) (by omega)
    have hnl := noList2 (noList w x dx D C ws s1 vs t0 t1 t2 t3 t4 t5 t6 t7 t8) (noList w y dy E G wt s2 us r0 r1 r2 r3 r4 r5 r6 r7 r8) hled
    simp only [wsObjs, List.cons_append, List.nil_append] at N2
    (try dsimp only)
    (try k_fold)
    k_steps
    · rename News _ _ _ _ => Nz
      rename _ < _ ∧ _ => lx
      have hob : ∀ o ∈ (wsObjs w x dx D C ws s1 vs t0 t1 t2 t3 t4 t5 t6 t7 t8 ++ wsObjs w y dy E G wt s2 us r0 r1 r2 r3 r4 r5 r6 r7 r8), o.1 ≠ _ := of_allNe _ ⟨Nat.ne_of_lt lx.2.2.1, Nat.ne_of_lt lx.2.2.2.1, Nat.ne_of_lt lx.2.2.2.2.1, Nat.ne_of_lt lx.2.2.2.2.2.1, Nat.ne_of_lt lx.2.2.2.2.2.2.1, Nat.ne_of_lt lx.2.2.2.2.2.2.2.1, Nat.ne_of_lt lx.2.2.2.2.2.2.2.2.1, Nat.ne_of_lt lx.2.2.2.2.2.2.2.2.2.1, trivial⟩
      have Ny := newsRot (obs := wsObjs w x dx D C ws s1 vs t0 t1 t2 t3 t4 t5 t6 t7 t8 ++ wsObjs w y dy E G wt s2 us r0 r1 r2 r3 r4 r5 r6 r7 r8) Nz
      refine unrEndT (by k_asm) Ny (offRot hoff (Nat.ne_of_gt lx.1)) (wtJ_of rfl rfl rfl ?_ (ledMore hled rfl hob))
      rw [wRows_yes (by assumption)]
      exact hrows.snoc ⟨_, _, _, _, rfl, .head _⟩
    · rename News _ _ _ _ => Nz
      refine unrEndT (news := (A, W.listOf ws9.toArray k) :: ((wsObjs w x dx D C ws s1 vs t0 t1 t2 t3 t4 t5 t6 t7 t8 ++ wsObjs w y dy E G wt s2 us r0 r1 r2 r3 r4 r5 r6 r7 r8) ++ led)) (by k_asm) Nz hoff (wtJ_of rfl rfl rfl ?_ hled)
      rw [wRows_no (by assumption)]
      exact hrows



end Mine
namespace Mine
local macro_rules | `(tactic| walk_at "pad 0") => `(tactic| fail "pad")
local macro_rules | `(tactic| walk_at "pad 1") => `(tactic| fail "pad")
local macro_rules | `(tactic| walk_at "pad 2") => `(tactic| fail "pad")
local macro_rules | `(tactic| walk_at "pad 3") => `(tactic| fail "pad")
local macro_rules | `(tactic| walk_at "pad 4") => `(tactic| fail "pad")
local macro_rules | `(tactic| walk_at "pad 5") => `(tactic| fail "pad")
local macro_rules | `(tactic| walk_at "pad 6") => `(tactic| fail "pad")
local macro_rules | `(tactic| walk_at "pad 7") => `(tactic| fail "pad")
local macro_rules | `(tactic| walk_at "pad 8") => `(tactic| fail "pad")
local macro_rules | `(tactic| walk_at "pad 9") => `(tactic| fail "pad")
local macro_rules | `(tactic| k_room) => `(tactic| ktr_room)
def primeOf (s : Int) : Int := if s = 2 ∨ s = 4 ∨ s = 8 then 2 else if s = 3 ∨ s = 9 then 3 else if s = 5 ∨ s = 7 ∨ s = 11 ∨ s = 13 then s else 1
def onesOf (s : Int) : Int := if s = 0 then 0 else if s = 1 ∨ s = 2 ∨ s = 4 ∨ s = 8 then 1 else if s = 7 ∨ s = 11 then 3 else 2
def waysOf (x : Int) : Nat → Int
  | 0 => 1
  | i + 1 => Int.fdiv (waysOf x i * (x + (1 + (i : Int)))) (1 + (i : Int))
def WyM (x : Int) (wv : Int) (tx tw : Tok) (u : Str → Option Value) : Str → Option Value := ovr [(Str.ofString "ways", .int wv tw), (Str.ofString "x", .int x tx)] u
def WyJ (x : Int) (tx : Tok) (i : Nat) (m : Str → Option Value) (news : List (Addr × Obj)) : Prop := ∃ (tw : Tok) (u : Str → Option Value), m = WyM x (waysOf x i) tx tw u ∧ news = []
theorem wyJ_of {x wv : Int} {tx tw : Tok} {i : Nat} {m : Str → Option Value} (m1 : m (Str.ofString "ways") = some (.int wv tw)) (m2 : m (Str.ofString "x") = some (.int x tx)) (h : wv = waysOf x i) : WyJ x tx i m [] := by
  subst h
  refine ⟨tw, m, ovr_self ?_, rfl⟩
  intro p hp
  simp only [List.mem_cons, List.not_mem_nil, or_false] at hp
  rcases hp with rfl | rfl <;> assumption
local macro_rules | `(tactic| mul_fits) => `(tactic| exact PySem.IntMulOk.of_right (PySem.intBits_le_64 (by omega) (by omega)))

theorem prime_is (w : World) (mean : ExcName → Option Value) (mg mb : Str → Option Value) (s : Int) (t : Tok) (hs : 1 ≤ s ∧ s ≤ 13) : Gives w mean mg mb 1 115 [] [.int s t] (fun h h' v => ∃ t, v = .int (primeOf s) t) := by
  w_on
  unfold Gives
  k_fill
  intro dp un gd cn cs a ccd cl outer A₀ base h₀ L m s₀ R B F X N T hk hdp hun hret
  k_dflt (refine' enterS (binds := [(Str.ofString "size", .int s t)]) B F X N T ?kA ?kF ?kK ?k6 ?k7 ?k8 ?k9 ?kB ?_ ?c2 ?c3 ?c4 ?c5; (case kA => exact rfl); (case kF => exact rfl); (case kK => exact hk); (case k6 => k_is); (case k7 => k_is); (case k8 => ktr_room); (case k9 => exact BindsTo.of_eq rfl); (case c5 => decide); (case kB => exact locs rfl); (case c2 => exact rfl); (case c3 => exact rfl); (case c4 => exact rfl); k_whole)
  intro g L' h₁ tk₁ F' N' B' X' T' lt' hgs hnew
  clear B F X N T
  (try dsimp only)
  (try k_fold)
  have hcs : s = 1 ∨ s = 2 ∨ s = 3 ∨ s = 4 ∨ s = 5 ∨ s = 6 ∨ s = 7 ∨ s = 8 ∨ s = 9 ∨ s = 10 ∨ s = 11 ∨ s = 12 ∨ s = 13 := by omega
  rcases hcs with rfl | rfl | rfl | rfl | rfl | rfl | rfl | rfl | rfl | rfl | rfl | rfl | rfl
  all_goals k_steps
  all_goals (show R (.ok (.ret (.int _ _))) _)
  all_goals exact hret _ _ _ (hgs _ (Fr.keep (by k_asm)) (fun p hp => nomatch hp)) ⟨_, rfl⟩


theorem ones_is (w : World) (mean : ExcName → Option Value) (mg mb : Str → Option Value) (s : Int) (t : Tok) (hs : 0 ≤ s ∧ s ≤ 12) : Gives w mean mg mb 1 122 [] [.int s t] (fun h h' v => ∃ t, v = .int (onesOf s) t) := by
  w_on
  unfold Gives
  k_fill
  intro dp un gd cn cs a ccd cl outer A₀ base h₀ L m s₀ R B F X N T hk hdp hun hret
  k_dflt (refine' enterS (binds := [(Str.ofString "number", .int s t)]) B F X N T ?kA ?kF ?kK ?k6 ?k7 ?k8 ?k9 ?kB ?_ ?c2 ?c3 ?c4 ?c5; (case kA => exact rfl); (case kF => exact rfl); (case kK => exact hk); (case k6 => k_is); (case k7 => k_is); (case k8 => ktr_room); (case k9 => exact BindsTo.of_eq rfl); (case c5 => decide); (case kB => exact locs rfl); (case c2 => exact rfl); (case c3 => exact rfl); (case c4 => exact rfl); k_whole)
  intro g L' h₁ tk₁ F' N' B' X' T' lt' hgs hnew
  clear B F X N T
  (try dsimp only)
  (try k_fold)
  have hcs : s = 0 ∨ s = 1 ∨ s = 2 ∨ s = 3 ∨ s = 4 ∨ s = 5 ∨ s = 6 ∨ s = 7 ∨ s = 8 ∨ s = 9 ∨ s = 10 ∨ s = 11 ∨ s = 12 := by omega
  rcases hcs with rfl | rfl | rfl | rfl | rfl | rfl | rfl | rfl | rfl | rfl | rfl | rfl | rfl
  all_goals k_steps
  all_goals (show R (.ok (.ret (.int _ _))) _)
  all_goals exact hret _ _ _ (hgs _ (Fr.keep (by k_asm)) (fun p hp => nomatch hp)) ⟨_, rfl⟩


theorem ways_is (w : World) (mean : ExcName → Option Value) (mg mb : Str → Option Value) (x y : Int) (t u : Tok) (hx : 0 ≤ x ∧ x ≤ 40) (hy : 0 ≤ y ∧ y ≤ 40) : Gives w mean mg mb 1 129 [] [.int x t, .int y u] (fun h h' v => ∃ t, v = .int (waysOf x (y + 1 - 1).toNat) t) := by
  w_on
  unfold Gives
  k_fill
  intro dp un gd cn cs a ccd cl outer A₀ base h₀ L m s R B F X N T hk hdp hun hret
  k_dflt (refine' enterS (binds := [(Str.ofString "x", .int x t), (Str.ofString "y", .int y u)]) B F X N T ?kA ?kF ?kK ?k6 ?k7 ?k8 ?k9 ?kB ?_ ?c2 ?c3 ?c4 ?c5; (case kA => exact rfl); (case kF => exact rfl); (case kK => exact hk); (case k6 => k_is); (case k7 => k_is); (case k8 => ktr_room); (case k9 => exact BindsTo.of_eq rfl); (case c5 => decide); (case kB => exact locs rfl); (case c2 => exact rfl); (case c3 => exact rfl); (case c4 => exact rfl); k_whole)
  intro g L' h₁ tk₁ F' N' B' X' T' lt' hgs hnew
  clear B F X N T
  (try dsimp only)
  (try k_fold)
  repeat' ((fail_if_success (with_reducible show wpAny _ _ (pyIter _) _ _ _)); (first | (k_unfold; (try dsimp only)) | (k_end; wrow_close) | walk1 | (dsimp only; walk1) | (leave1; walk_say "STEP leave1"; try dsimp only) | fail "no step"))
  k_dflt (refine loopRange (WyJ x t) rfl (by assumption) (smallS (by omega) (by omega)) (rangeS _ _) (by k_asm) (by k_asm) (wyJ_of rfl rfl rfl) ?turn ?done)
  case done =>
    (rename Fr _ _ _ _ => Fo); (rename News _ _ _ _ => No); clear Fo No
    intro m₁ news₁ h2 tk2 hJ F2 N2
    obtain ⟨tw, u', rfl, rfl⟩ := hJ
    (try dsimp only)
    (try k_fold)
    k_steps
    show R (.ok (.ret (.int _ _))) _
    exact hret _ _ _ (hgs _ (Fr.keep (by k_asm)) (fun p hp => nomatch hp)) ⟨_, rfl⟩
  case turn =>
    (rename Fr _ _ _ _ => Fo); (rename News _ _ _ _ => No); clear Fo No
    intro I it i ti m₁ news₁ h2 tk2 hi hJ hoff F2 N2
    obtain ⟨tw, u', rfl, rfl⟩ := hJ
    have hi2 : 0 ≤ (i : Int) ∧ (i : Int) ≤ 60 := by omega
    (try dsimp only)
    (try k_fold)
    k_steps
    exact wyJ_of (wv := Int.fdiv (waysOf x i * (x + (1 + (i : Int)))) (1 + (i : Int))) rfl rfl rfl



end Mine
namespace Mine
local macro_rules | `(tactic| walk_at "pad 0") => `(tactic| fail "pad")
local macro_rules | `(tactic| walk_at "pad 1") => `(tactic| fail "pad")
local macro_rules | `(tactic| walk_at "pad 2") => `(tactic| fail "pad")
local macro_rules | `(tactic| walk_at "pad 3") => `(tactic| fail "pad")
local macro_rules | `(tactic| walk_at "pad 4") => `(tactic| fail "pad")
local macro_rules | `(tactic| walk_at "pad 5") => `(tactic| fail "pad")
local macro_rules | `(tactic| walk_at "pad 6") => `(tactic| fail "pad")
local macro_rules | `(tactic| walk_at "pad 7") => `(tactic| fail "pad")
local macro_rules | `(tactic| k_room) => `(tactic| ktr_room)
set_option linter.unusedVariables false
local macro_rules | `(tactic| walk_at "call ref") => `(tactic| (
  (with_reducible show wpAny _ _ (call (Value.ref 28) _) _ _ _)
  (with_reducible rename Fr _ _ _ _ => lF')
  (with_reducible rename News _ _ _ _ => lN')
  k_dflt (refine' wpAny_call (hsv_is _ _ _ _ _ _ _ _ ?hx _ _ _ _ _ _ _ _ _ _ _ _ _ _ _ _ ?k1 lF' ?k3 ?k4 ?k5 ?kK ?kd ?ku ?_); (case k1 => k_asm); (case k3 => k_asm); (case k4 => exact News.nil); (case k5 => k_asm); (case kK => first | exact rfl | assumption); (case kd => ktr_room); (case ku => ktr_units); (case hx => tb_start); k_whole)
  intro v9 h9 tk9 st9 post9
  obtain ⟨D9, ta9, tb9, tc9, e9, n9, g9⟩ := post9
  subst e9
  have F9 := frStays lF' st9
  have N9 := newsMore lF' (newsStays lN' st9) g9 n9
  have ap9 := allNe_of (newsApart lN' n9)
  clear lF' lN' st9 n9 g9
  (try simp only [AllNe, and_true] at ap9)
  (try dsimp only)
  (try dsimp only [tup3] at N9)
  (try k_fold)))

def hueOf (p q : Int) : UInt64 := Float64.ofFrac (decide (p < 0) != decide (q < 0)) p.natAbs q.natAbs
def sgI (c : UInt64) : Int := Flt.toInt Float64.truncOf (Float64.mul 4616189618054758400 c)
def sgC (p q : Int) : Int := 65 + 25 * sgI (hRed (hueOf p q)) + 5 * sgI (hGreen (hueOf p q)) + sgI (hBlue (hueOf p q))
def quiet (c : UInt64) : Bool := Float64.isNaN (Float64.mul 4616189618054758400 c) == false && Float64.isInf (Float64.mul 4616189618054758400 c) == false
def signB (p q : Int) : Bool :=
  Float64.isInf (hueOf p q) == false && (Float64.isNaN (Float64.mul (hueOf p q) 4618441417868443648) == false && Float64.isInf (Float64.mul (hueOf p q) 4618441417868443648) == false && decide ((hI (hueOf p q)).natAbs ≤ 1000)) &&
  (quiet (hRed (hueOf p q)) && quiet (hGreen (hueOf p q)) && quiet (hBlue (hueOf p q))) && ((decide (sgC p q < 0) || decide (sgC p q > 0x10FFFF)) == false)
structure SignOk (p q : Int) : Prop where
  inf : Float64.isInf (hueOf p q) = false
  hue : Hue (hueOf p q)
  r1 : Float64.isNaN (Float64.mul 4616189618054758400 (hRed (hueOf p q))) = false
  r2 : Float64.isInf (Float64.mul 4616189618054758400 (hRed (hueOf p q))) = false
  g1 : Float64.isNaN (Float64.mul 4616189618054758400 (hGreen (hueOf p q))) = false
  g2 : Float64.isInf (Float64.mul 4616189618054758400 (hGreen (hueOf p q))) = false
  b1 : Float64.isNaN (Float64.mul 4616189618054758400 (hBlue (hueOf p q))) = false
  b2 : Float64.isInf (Float64.mul 4616189618054758400 (hBlue (hueOf p q))) = false
  c : (decide (sgC p q < 0) || decide (sgC p q > 0x10FFFF)) = false
theorem signOk_of {p q : Int} (h : signB p q = true) : SignOk p q := by
  simp only [signB, quiet, Bool.and_eq_true, beq_iff_eq, decide_eq_true_eq] at h
  obtain ⟨⟨⟨h1, ⟨h2, h3⟩, h4⟩, ⟨⟨h5, h6⟩, h7, h8⟩, h9, h10⟩, h11⟩ := h
  exact ⟨h1, ⟨h2, h3, h4⟩, h5, h6, h7, h8, h9, h10, h11⟩

theorem road_tab : (List.range 17).all (fun p => signB p 2 && signB p 4 && signB p 8) = true := by decide +kernel
theorem signOk2 {p q : Int} (hp : 0 ≤ p ∧ p ≤ 16) (hq : q = 2 ∨ q = 4 ∨ q = 8) : SignOk p q := by
  have h := List.all_eq_true.mp road_tab p.toNat (List.mem_range.mpr (by omega))
  have e : ((p.toNat : Nat) : Int) = p := by omega
  rw [e] at h
  simp only [Bool.and_eq_true] at h
  rcases hq with rfl | rfl | rfl
  · exact signOk_of h.1.1
  · exact signOk_of h.1.2
  · exact signOk_of h.2
def sgS (k q : Int) : Str := ⟨#[(sgC k q).toNat]⟩
def roadOf (q : Int) : Nat → Str
  | 0 => Str.ofString ""
  | i + 1 => roadOf q i ++ sgS (1 + (i : Int)) q
theorem roadOf_len (q : Int) : ∀ i : Nat, (roadOf q i).length = i
  | 0 => by show (Str.ofString "").length = 0; decide
  | i + 1 => by
    show (roadOf q i ++ sgS (1 + (i : Int)) q).length = _
    rw [PySem.Str.length_append, roadOf_len q i]
    rfl
def RdM (q : Int) (rv : Str) (tq tr : Tok) (u : Str → Option Value) : Str → Option Value := ovr [(Str.ofString "road", .str rv tr), (Str.ofString "size", .int q tq)] u
def RdJ (q : Int) (tq : Tok) (i : Nat) (m : Str → Option Value) (news : List (Addr × Obj)) : Prop := ∃ (tr : Tok) (u : Str → Option Value), m = RdM q (roadOf q i) tq tr u ∧ news = []
theorem rdJ_of {q : Int} {rv : Str} {tq tr : Tok} {i : Nat} {m : Str → Option Value} (m1 : m (Str.ofString "road") = some (.str rv tr)) (m2 : m (Str.ofString "size") = some (.int q tq)) (h : rv = roadOf q i) : RdJ q tq i m [] := by
  subst h
  refine ⟨tr, m, ovr_self ?_, rfl⟩
  intro p hp
  simp only [List.mem_cons, List.not_mem_nil, or_false] at hp
  rcases hp with rfl | rfl <;> assumption
theorem rdAdd {q : Int} {i c : Nat} (h : (i : Int) ≤ 60) : (roadOf q i).length + (⟨#[c]⟩ : Str).length ≤ 16777216 := by
  rw [roadOf_len]
  show i + 1 ≤ _
  omega
def litL (q : Int) (i : Nat) : Nat := if q = 2 then [165, 89].getD ((i + 1) % 2) 0 else if q = 4 then [165, 135, 89, 119].getD ((i + 1) % 4) 0 else [165, 180, 135, 86, 89, 74, 119, 168].getD ((i + 1) % 8) 0
theorem lit_tab : (List.range 16).all (fun i => (sgC (1 + (i : Int)) 2).toNat == litL 2 i && (sgC (1 + (i : Int)) 4).toNat == litL 4 i && (sgC (1 + (i : Int)) 8).toNat == litL 8 i) = true := by decide +kernel
def rl (q : Int) : Nat → Str
  | 0 => Str.ofString ""
  | i + 1 => rl q i ++ ⟨#[litL q i]⟩
theorem road_eq {q : Int} (hq : q = 2 ∨ q = 4 ∨ q = 8) : ∀ n : Nat, n ≤ 16 → roadOf q n = rl q n
  | 0, _ => rfl
  | i + 1, h => by
    have ht := List.all_eq_true.mp lit_tab i (List.mem_range.mpr (by omega))
    simp only [Bool.and_eq_true, beq_iff_eq] at ht
    have e : sgS (1 + (i : Int)) q = ⟨#[litL q i]⟩ := by
      unfold sgS
      rcases hq with rfl | rfl | rfl
      · rw [ht.1.1]
      · rw [ht.1.2]
      · rw [ht.2]
    show roadOf q i ++ sgS (1 + (i : Int)) q = rl q i ++ _
    rw [road_eq hq i (by omega), e]

local macro_rules | `(tactic| tb_start) => `(tactic| exact SignOk.hue (by assumption))
local macro_rules | `(tactic| walk_at "call builtin:chr") => `(tactic| (refine P.chr_of_int (SignOk.c (by assumption)) ?_))
local macro_rules | `(tactic| walk_at "binaryOp Add str str") => `(tactic| (k_here; (with_reducible show wpAny _ _ (binaryOp Operator.Add (Value.str _ _) (Value.str _ _)) _ _ _); (refine KOpn.add (rdAdd (by assumption)) ?_); intro _ _ hz9; clear hz9))
theorem road_is (w : World) (mean : ExcName → Option Value) (mg mb : Str → Option Value) (q ln : Int) (t u : Tok) (hq : q = 2 ∨ q = 4 ∨ q = 8) (hl : 0 ≤ ln ∧ ln ≤ 16) : Gives w mean mg mb 2 108 [] [.int q t, .int ln u] (fun h h' v => ∃ t, v = .str (rl q (ln + 1 - 1).toNat) t) := by
  w_on
  unfold Gives
  k_fill
  intro dp un gd cn cs a ccd cl outer A₀ base h₀ L m s R B F X N T hk hdp hun hret
  k_dflt (refine' enterS (binds := [(Str.ofString "size", .int q t), (Str.ofString "length", .int ln u)]) B F X N T ?kA ?kF ?kK ?k6 ?k7 ?k8 ?k9 ?kB ?_ ?c2 ?c3 ?c4 ?c5; (case kA => exact rfl); (case kF => exact rfl); (case kK => exact hk); (case k6 => k_is); (case k7 => k_is); (case k8 => ktr_room); (case k9 => exact BindsTo.of_eq rfl); (case c5 => decide); (case kB => exact locs rfl); (case c2 => exact rfl); (case c3 => exact rfl); (case c4 => exact rfl); k_whole)
  intro g L' h₁ tk₁ F' N' B' X' T' lt' hgs hnew
  clear B F X N T
  (try dsimp only)
  (try k_fold)
  repeat' ((fail_if_success (with_reducible show wpAny _ _ (pyIter _) _ _ _)); (first | (k_unfold; (try dsimp only)) | (k_end; wrow_close) | walk1 | (dsimp only; walk1) | (leave1; walk_say "STEP leave1"; try dsimp only) | fail "no step"))
  k_dflt (refine loopRange (RdJ q t) rfl (by assumption) (smallS (by omega) (by omega)) (rangeS _ _) (by k_asm) (by k_asm) (rdJ_of rfl rfl rfl) ?turn ?done)
  case done =>
    (rename Fr _ _ _ _ => Fo); (rename News _ _ _ _ => No); clear Fo No
    intro m₁ news₁ h2 tk2 hJ F2 N2
    obtain ⟨tw, u', rfl, rfl⟩ := hJ
    (try dsimp only)
    (try k_fold)
    k_steps
    show R (.ok (.ret (.str _ _))) _
    exact hret _ _ _ (hgs _ (Fr.keep (by k_asm)) (fun p hp => nomatch hp)) ⟨_, congrArg (fun z => Value.str z _) (road_eq hq _ (by omega))⟩
  case turn =>
    (rename Fr _ _ _ _ => Fo); (rename News _ _ _ _ => No); clear Fo No
    intro I it i ti m₁ news₁ h2 tk2 hi hJ hoff F2 N2
    obtain ⟨tw, u', rfl, rfl⟩ := hJ
    have hi2 : 0 ≤ 1 + (i : Int) ∧ 1 + (i : Int) ≤ 16 := by omega
    have hi3 : (i : Int) ≤ 60 := by omega
    have ok := signOk2 hi2 hq
    have hq0 : q ≠ 0 := by omega
    (try dsimp only)
    (try k_fold)
    k_steps
    all_goals first
      | (exfalso; exact absurd (by assumption) hq0)
      | (exfalso; rename Float64.isNaN _ = true => q; first | exact absurd (q.symm.trans ok.r1) (by decide) | exact absurd (q.symm.trans ok.g1) (by decide) | exact absurd (q.symm.trans ok.b1) (by decide))
      | (exfalso; rename Float64.isInf _ = true => q; first | exact absurd (q.symm.trans ok.r2) (by decide) | exact absurd (q.symm.trans ok.g2) (by decide) | exact absurd (q.symm.trans ok.b2) (by decide) | exact absurd (q.symm.trans ok.inf) (by decide))
      | exact rdJ_of (rv := roadOf q i ++ sgS (1 + (i : Int)) q) rfl rfl rfl
      | exact unrEndT (by k_asm) (newsSub (by k_asm) (fun p hp => by rw [List.mem_singleton.mp hp]; k_mem)) hoff (rdJ_of (rv := roadOf q i ++ sgS (1 + (i : Int)) q) rfl rfl rfl)



end Mine
namespace Mine
local macro_rules | `(tactic| walk_at "pad 0") => `(tactic| fail "pad")
local macro_rules | `(tactic| walk_at "pad 1") => `(tactic| fail "pad")
local macro_rules | `(tactic| walk_at "pad 2") => `(tactic| fail "pad")
local macro_rules | `(tactic| walk_at "pad 3") => `(tactic| fail "pad")
local macro_rules | `(tactic| walk_at "pad 4") => `(tactic| fail "pad")
local macro_rules | `(tactic| walk_at "pad 5") => `(tactic| fail "pad")
local macro_rules | `(tactic| walk_at "pad 6") => `(tactic| fail "pad")
local macro_rules | `(tactic| walk_at "pad 7") => `(tactic| fail "pad")
local macro_rules | `(tactic| walk_at "pad 8") => `(tactic| fail "pad")
local macro_rules | `(tactic| k_room) => `(tactic| ktr_room)
/-- x.find(y, i, j) -/
def fnd (x y : Str) (i j : Int) : Int := match Builtin.Str.occurrences x y (fromIndex x.length i) (min (fromIndex x.length j) x.length) 1 with | k :: _ => (k : Int) | [] => -1
theorem gives_fnd (x y : Str) (i j : Int) (t u v z : Tok) : PySem.Gives (Builtin.«str.find» ⟨[.str x t, .str y u, .int i v, .int j z], []⟩) (.int (fnd x y i j)) := by
  unfold fnd
  show PySem.Gives (match Builtin.Str.occurrences x y (fromIndex x.length i) (min (fromIndex x.length j) x.length) 1 with | k :: _ => retInt k | [] => (do rule "str.find.not-found"; retInt (-1))) _
  cases Builtin.Str.occurrences x y (fromIndex x.length i) (min (fromIndex x.length j) x.length) 1 with
  | nil => exact .rule (.of_eq rfl)
  | cons k _ => exact .of_eq rfl
theorem findS {prog : Program} {w : World} {A : Around} {E : Value → Shared → Prop} {s : Shared} {x y : Str} {i j : Int} {t u v z : Tok} {Q : Value → Shared → Prop} (hq : Q (.int (fnd x y i j) s.toks) { s with toks := s.toks + 1 }) : wpAny (model prog w) A (call (.builtin "str.find") [.str x t, .str y u, .int i v, .int j z]) Q E s :=
  call_gives F.slot_str_find (typeIs_str _ _ _) F.entry_str_find (F.args_str_find_4 _ _ _ _) (gives_fnd x y i j t u v z) hq
/-- the pieces, one behind the other -/
def findAll (got : Str) : List Str → Int → Bool
  | [], _ => true
  | y :: r, sp => if fnd got y sp (got.length : Int) < 0 then false else findAll got r (fnd got y sp (got.length : Int) + (y.length : Int))
theorem findAll_next {got : Str} {ps : List Str} {i : Nat} {y : Str} {sp : Int} {b : Bool} (hy : ps[i]? = some y) (h : findAll got (ps.drop i) sp = b) (hn : ¬ fnd got y sp (got.length : Int) < 0) : findAll got (ps.drop (i + 1)) (fnd got y sp (got.length : Int) + (y.length : Int)) = b := by
  obtain ⟨hi, e⟩ := List.getElem?_eq_some_iff.mp hy
  rw [List.drop_eq_getElem_cons hi, e] at h
  rw [findAll, if_neg hn] at h
  exact h
theorem findAll_stop {got : Str} {ps : List Str} {i : Nat} {y : Str} {sp : Int} {b : Bool} (hy : ps[i]? = some y) (h : findAll got (ps.drop i) sp = b) (hn : fnd got y sp (got.length : Int) < 0) : b = false := by
  obtain ⟨hi, e⟩ := List.getElem?_eq_some_iff.mp hy
  rw [List.drop_eq_getElem_cons hi, e] at h
  rw [findAll, if_pos hn] at h
  exact h.symm
theorem findAll_end {got : Str} {ps : List Str} {sp : Int} {b : Bool} (h : findAll got (ps.drop ps.length) sp = b) : b = true := by
  rw [List.drop_eq_nil_of_le (Nat.le_refl _)] at h
  exact h.symm
section
variable {prog : Program} {w : World} {A : Around} {E : Value → Shared → Prop} {s : Shared} {h₀ : Heap} {L l : Addr} {m : Str → Option Value} {news : List (Addr × Obj)}
theorem splitS {x y : Str} {t u : Tok} {ps : List Str} {Q : Value → Shared → Prop} (F : Fr h₀ L s.heap m) (N : News h₀ L s.heap news) (hsp : Txt.split x y = ps) (hy : (y.length == 0) = false) (hx : x.length ≤ 1000)
    (h : ∀ D vs h' k, StrsAre vs ps → Fr h₀ L h' m → News h₀ L h' ((D, W.listOf vs.toArray 0) :: news) → (∀ p ∈ news, p.1 < D) → Q (.ref D) { s with heap := h', toks := k }) :
    wpAny (model prog w) A (call (.builtin "str.split") [.str x t, .str y u]) Q E s := by
  refine splitN1A F N hy (fun l h' k e sa _ _ F' N' => ?_) (by rw [sizeLine_eq]; omega)
  rw [e, hsp] at sa
  exact h _ _ h' k sa F' N' fun p hp => Heap.lt_size (N p hp).1
theorem itemStrS {value slice : PySem.Expr} {vs : List Value} {ps : List Str} {k : Int} {n j : Nat} {u : Tok} {y : Str} {Q : Value → Shared → Prop} (N : News h₀ L s.heap news) (hm : (l, W.listOf vs.toArray n) ∈ news) (hs : StrsAre vs ps) (hlo : -(2 ^ 63) ≤ k) (hhi : k < 2 ^ 63) (hj : seqIndex? k ps.length = some j) (hx : ps[j]? = some y)
    (h : ∀ t, Q (.str y t) s)
    (he : subscripted slice false (.ref l) (.int k u) = operate [.ref l, .int k u] (getItem (.ref l) (.int k u)) := by with_unfolding_all rfl) :
    wpAny (model prog w) A (subscriptTail value slice (.ref l) (.int k u)) Q E s := by
  obtain ⟨t, ht⟩ := hs.get j y hx
  have hl : s.heap.IsList l vs.toArray := ⟨_, (N _ hm).1, rfl, n, rfl⟩
  by_cases h0 : k < 0
  · exact kde_neg hl h0 hlo (by rw [hs.length]; exact hj) ht (h t) he
  · have hk : k.toNat = j := by
      simp only [seqIndex?, if_neg h0] at hj
      split at hj
      · exact Option.some.inj hj
      · cases hj
    exact tail_any hl.typeIs slot_list_getitem.lookup (wpAny_getItem_list hl (by omega) hhi (by rw [hk]; simpa using ht) (h t)) he
theorem lenStrS {vs : List Value} {ps : List Str} {k : Nat} {Q : Value → Shared → Prop} (N : News h₀ L s.heap news) (hm : (l, W.listOf vs.toArray k) ∈ news) (hs : StrsAre vs ps) (hfit : (ps.length : Int) < 2 ^ 63)
    (h : Q (.int (ps.length : Int) (s.toks + 1)) { s with toks := s.toks + 1 + 1 }) : wpAny (model prog w) A (call (.builtin "len") [.ref l]) Q E s := kst_len N hm hs.length hfit h
end
theorem idxFirst {ps : List Str} {a : Str} : seqIndex? 0 (a :: ps).length = some 0 := by simp [seqIndex?]
theorem idxLast {ps : List Str} {a b : Str} : seqIndex? (-1) (a :: (ps ++ [b])).length = some (ps.length + 1) := by
  simp [seqIndex?]
  omega
theorem atLast {ps : List Str} {a b : Str} : (a :: (ps ++ [b]))[ps.length + 1]? = some b := by simp
section
variable {prog : Program} {w : World} {A : Around} {E : Value → Shared → Prop} {s : Shared} {env : Env} {h₀ : Heap} {x : Str} {body : List Stmt} {Q : Flow → Shared → Prop}
/-- a loop over a list of texts, the ledger as it is -/
theorem loopStrs {l : Addr} {vs : List Value} {ps : List Str} {k : Nat} {m₀ : Str → Option Value} {led : List (Addr × Obj)} (J : Nat → (Str → Option Value) → Prop)
    (hh : A.handled = none) (F : Fr h₀ env.locals s.heap m₀) (N : News h₀ env.locals s.heap led) (hm : (l, W.listOf vs.toArray k) ∈ led) (hs : StrsAre vs ps) (hj : J 0 m₀)
    (turn : ∀ (I : Addr) (it : Obj) (i : Nat) (y : Str) (t : Tok) (m₁ : Str → Option Value) (h : Heap) (tk : Nat), ps[i]? = some y → J i m₁ → (∀ p ∈ led, p.1 ≠ I) →
      Fr h₀ env.locals h (fun z => if z = x then some (.str y t) else m₁ z) → News h₀ env.locals h ((I, it) :: led) →
      wpAny (model prog w) A (execs body env) (UnrPost h₀ env.locals { s with heap := h, toks := tk } I it (fun m' n' => J (i + 1) m' ∧ n' = led) Q) E { s with heap := h, toks := tk })
    (done : ∀ (m₁ : Str → Option Value) (h : Heap) (tk : Nat), J ps.length m₁ → Fr h₀ env.locals h m₁ → News h₀ env.locals h led → Q .next { s with heap := h, toks := tk }) :
    wpAny (model prog w) A (pyIter (.ref l)) (fun it s₂ => LoopAtV prog w A h₀ env x body Q E it s₂) E s := by
  refine loopList (lo := W.listOf vs.toArray k) (vs := vs) (k := k) (fun i m n => J i m ∧ n = led) hh F N rfl rfl (fun i m n hJ => by rw [hJ.2]; exact hm) ⟨hj, rfl⟩ ?_ ?_
  · rintro I it i v m₁ news₁ h tk hv ⟨hJ, rfl⟩ off F₁ N₁
    obtain ⟨y, t, rfl, hy⟩ := hs.item _ _ hv
    exact turn I it i y t m₁ h tk hy hJ off F₁ N₁
  · rintro m₁ news₁ h tk ⟨hJ, rfl⟩ F₁ N₁
    rw [hs.length] at hJ
    exact done m₁ h tk hJ F₁ N₁
end
theorem newsTail {h₀ h : Heap} {L : Addr} {a b : Addr × Obj} (N : News h₀ L h [a, b]) : News h₀ L h [b] := newsSub N fun p hp => .tail _ hp
def ElM (got : Str) (sp : Int) (ts te tg : Tok) (u : Str → Option Value) : Str → Option Value := ovr [(Str.ofString "startpos", .int sp ts), (Str.ofString "endpos", .int (got.length : Int) te), (Str.ofString "got", .str got tg)] u
def ElJ (got : Str) (ps : List Str) (i : Nat) (m : Str → Option Value) : Prop := ∃ (sp : Int) (ts te tg : Tok) (u : Str → Option Value), m = ElM got sp ts te tg u ∧ findAll got (ps.drop i) sp = findAll got ps 0
theorem elJ_of {got : Str} {ps : List Str} {i : Nat} {m : Str → Option Value} {sp : Int} {ts te tg : Tok} (m1 : m (Str.ofString "startpos") = some (.int sp ts)) (m2 : m (Str.ofString "endpos") = some (.int (got.length : Int) te)) (m3 : m (Str.ofString "got") = some (.str got tg)) (h : findAll got (ps.drop i) sp = findAll got ps 0) : ElJ got ps i m := by
  refine ⟨sp, ts, te, tg, m, ovr_self ?_, h⟩
  intro p hp
  simp only [List.mem_cons, List.not_mem_nil, or_false] at hp
  rcases hp with rfl | rfl | rfl <;> assumption
theorem unrEndK {h₀ h' : Heap} {L I : Addr} {it : Obj} {J : (Str → Option Value) → Prop} {s₁ : Shared} {tk : Nat} {m' : Str → Option Value} {led : List (Addr × Obj)} (F : Fr h₀ L h' m') (N : News h₀ L h' ((I, it) :: led)) (off : ∀ p ∈ led, p.1 ≠ I) (r : J m') :
    UnrEnd h₀ L s₁ I it (fun m' n' => J m' ∧ n' = led) { s₁ with heap := h', toks := tk } := UnrEnd.intro F N led (fun _ hp => hp) off ⟨r, rfl⟩

def findE (got : Str) (ep : Int) : List Str → Int → Bool
  | [], _ => true
  | y :: r, sp => if fnd got y sp ep < 0 then false else findE got ep r (fnd got y sp ep + (y.length : Int))
section
variable {prog : Program} {w : World} {A : Around} {E : Value → Shared → Prop} {s : Shared} {h₀ : Heap} {L l : Addr} {m : Str → Option Value} {news : List (Addr × Obj)}
theorem split3 {x y : Str} {t u : Tok} {p0 p1 p2 : Str} {Q : Value → Shared → Prop} (F : Fr h₀ L s.heap m) (N : News h₀ L s.heap news) (hsp : Txt.split x y = [p0, p1, p2]) (hy : (y.length == 0) = false) (hx : x.length ≤ 1000)
    (h : ∀ D t0 t1 t2 h' k, Fr h₀ L h' m → News h₀ L h' ((D, W.listOf #[.str p0 t0, .str p1 t1, .str p2 t2] 0) :: news) → (∀ p ∈ news, p.1 < D) → Q (.ref D) { s with heap := h', toks := k }) :
    wpAny (model prog w) A (call (.builtin "str.split") [.str x t, .str y u]) Q E s := by
  refine splitS F N hsp hy hx (fun D vs h' k hs F' N' hl => ?_)
  cases hs with
  | cons _ t0 hs =>
    cases hs with
    | cons _ t1 hs =>
      cases hs with
      | cons _ t2 hs =>
        cases hs with
        | nil => exact h D t0 t1 t2 h' k F' N' hl
end
/-- three pieces, the last one not empty -/
def ell3 (got p0 p1 p2 : Str) : Bool :=
  if (p0.length : Int) = 0 then
    if Txt.endswith got p2 = false then false
    else if (got.length : Int) - (p2.length : Int) < 0 then false
    else if fnd got p0 0 ((got.length : Int) - (p2.length : Int)) < 0 then false
    else if fnd got p1 (fnd got p0 0 ((got.length : Int) - (p2.length : Int)) + (p0.length : Int)) ((got.length : Int) - (p2.length : Int)) < 0 then false else true
  else if Txt.startswith got p0 = false then false
  else if Txt.endswith got p2 = false then false
  else if (got.length : Int) - (p2.length : Int) < (p0.length : Int) then false
  else if fnd got p1 (p0.length : Int) ((got.length : Int) - (p2.length : Int)) < 0 then false else true
section
variable {got p0 p1 p2 : Str}
theorem e3a (h : (p0.length : Int) ≠ 0) (hs : Txt.startswith got p0 = true) (he : Txt.endswith got p2 = true) (hl : (got.length : Int) - (p2.length : Int) < (p0.length : Int)) : false = ell3 got p0 p1 p2 := by
  unfold ell3; rw [if_neg h, hs, he, if_neg (by decide), if_neg (by decide), if_pos hl]
theorem e3b (h : (p0.length : Int) ≠ 0) (hs : Txt.startswith got p0 = true) (he : Txt.endswith got p2 = true) (hl : ¬ (got.length : Int) - (p2.length : Int) < (p0.length : Int)) (hf : fnd got p1 (p0.length : Int) ((got.length : Int) - (p2.length : Int)) < 0) : false = ell3 got p0 p1 p2 := by
  unfold ell3; rw [if_neg h, hs, he, if_neg (by decide), if_neg (by decide), if_neg hl, if_pos hf]
theorem e3c (h : (p0.length : Int) ≠ 0) (hs : Txt.startswith got p0 = true) (he : Txt.endswith got p2 = true) (hl : ¬ (got.length : Int) - (p2.length : Int) < (p0.length : Int)) (hf : ¬ fnd got p1 (p0.length : Int) ((got.length : Int) - (p2.length : Int)) < 0) : true = ell3 got p0 p1 p2 := by
  unfold ell3; rw [if_neg h, hs, he, if_neg (by decide), if_neg (by decide), if_neg hl, if_neg hf]
theorem e3d (h : (p0.length : Int) ≠ 0) (hs : Txt.startswith got p0 = true) (he : Txt.endswith got p2 = false) : false = ell3 got p0 p1 p2 := by
  unfold ell3; rw [if_neg h, hs, he, if_neg (by decide), if_pos rfl]
theorem e3e (h : (p0.length : Int) ≠ 0) (hs : Txt.startswith got p0 = false) : false = ell3 got p0 p1 p2 := by
  unfold ell3; rw [if_neg h, hs, if_pos rfl]
theorem e3f (h : (p0.length : Int) = 0) (he : Txt.endswith got p2 = true) (hl : (got.length : Int) - (p2.length : Int) < 0) : false = ell3 got p0 p1 p2 := by
  unfold ell3; rw [if_pos h, he, if_neg (by decide), if_pos hl]
theorem e3g (h : (p0.length : Int) = 0) (he : Txt.endswith got p2 = true) (hl : ¬ (got.length : Int) - (p2.length : Int) < 0) (hf : fnd got p0 0 ((got.length : Int) - (p2.length : Int)) < 0) : false = ell3 got p0 p1 p2 := by
  unfold ell3; rw [if_pos h, he, if_neg (by decide), if_neg hl, if_pos hf]
theorem e3h (h : (p0.length : Int) = 0) (he : Txt.endswith got p2 = true) (hl : ¬ (got.length : Int) - (p2.length : Int) < 0) (hf : ¬ fnd got p0 0 ((got.length : Int) - (p2.length : Int)) < 0) (hg : fnd got p1 (fnd got p0 0 ((got.length : Int) - (p2.length : Int)) + (p0.length : Int)) ((got.length : Int) - (p2.length : Int)) < 0) : false = ell3 got p0 p1 p2 := by
  unfold ell3; rw [if_pos h, he, if_neg (by decide), if_neg hl, if_neg hf, if_pos hg]
theorem e3i (h : (p0.length : Int) = 0) (he : Txt.endswith got p2 = true) (hl : ¬ (got.length : Int) - (p2.length : Int) < 0) (hf : ¬ fnd got p0 0 ((got.length : Int) - (p2.length : Int)) < 0) (hg : ¬ fnd got p1 (fnd got p0 0 ((got.length : Int) - (p2.length : Int)) + (p0.length : Int)) ((got.length : Int) - (p2.length : Int)) < 0) : true = ell3 got p0 p1 p2 := by
  unfold ell3; rw [if_pos h, he, if_neg (by decide), if_neg hl, if_neg hf, if_neg hg]
theorem e3j (h : (p0.length : Int) = 0) (he : Txt.endswith got p2 = false) : false = ell3 got p0 p1 p2 := by
  unfold ell3; rw [if_pos h, he, if_pos rfl]
theorem noP {p : Str} (h : 1 ≤ p.length ∧ p.length ≤ 1000) (q : (p.length : Int) = 0) : False := by omega
end


local macro_rules | `(tactic| walk_at "truthy str") => `(tactic| (k_here; (with_reducible show wpAny _ _ (PySem.truthy (Value.str _ _)) _ _ _); (refine KXt.truthy rfl (by omega) ?_); intro _))
local macro_rules | `(tactic| walk_at "call builtin:str.find") => `(tactic| (refine findS ?_))
local macro_rules | `(tactic| walk_at "call builtin:str.split") => `(tactic| (k_here; (with_reducible show wpAny _ _ (call (Value.builtin "str.split") _) _ _ _); k_dflt (refine' split3 ?k1 ?k2 (by assumption) ?k4 ?k5 ?_; (case k1 => k_asm); (case k2 => k_asm); (case k4 => decide +kernel); (case k5 => assumption); k_whole); intro D' a0' a1' a2' h' k' F' N' l1; (try k_lt l1); (try k_sweep)))

theorem ell3_is (w : World) (mean : ExcName → Option Value) (mg mb : Str → Option Value) (want got p0 p1 p2 : Str) (t u : Tok) (hw : want.length ≤ 1000) (hg : got.length ≤ 1000) (hin : (Builtin.Str.occurrences want (Str.ofString "...") 0 want.length 1).isEmpty = false) (hsp : Txt.split want (Str.ofString "...") = [p0, p1, p2]) (h0 : p0.length ≤ 1000) (h1 : p1.length ≤ 1000) (h2 : 1 ≤ p2.length ∧ p2.length ≤ 1000) : Gives w mean mg mb 2 35 [] [.str want t, .str got u] (fun h h' v => v = .bool (ell3 got p0 p1 p2)) := by
  w_on
  unfold Gives
  k_fill
  intro dp un gd cn cs a ccd cl outer A₀ base h₀ L m s R B F X N T hk hdp hun hret
  k_dflt (refine' enterS (binds := [(Str.ofString "want", .str want t), (Str.ofString "got", .str got u)]) B F X N T ?kA ?kF ?kK ?k6 ?k7 ?k8 ?k9 ?kB ?_ ?c2 ?c3 ?c4 ?c5; (case kA => exact rfl); (case kF => exact rfl); (case kK => exact hk); (case k6 => k_is); (case k7 => k_is); (case k8 => ktr_room); (case k9 => exact BindsTo.of_eq rfl); (case c5 => decide); (case kB => exact locs rfl); (case c2 => exact rfl); (case c3 => exact rfl); (case c4 => exact rfl); k_whole)
  intro g L' h₁ tk₁ F' N' B' X' T' lt' hgs hnew
  clear B F X N T
  (try dsimp only)
  (try k_fold)
  k_steps
  all_goals first
    | (exfalso; exact noP h2 (by assumption))
    | (show R (.ok (.ret (.bool _))) _
       refine hret _ _ _ (hgs _ (Fr.keep (by k_asm)) (fun p hp => nomatch hp)) (congrArg Value.bool ?_)
       first | exact e3a (by assumption) (by assumption) (by assumption) (by assumption) | exact e3b (by assumption) (by assumption) (by assumption) (by assumption) (by assumption) | exact e3c (by assumption) (by assumption) (by assumption) (by assumption) (by assumption) | exact e3d (by assumption) (by assumption) (by assumption) | exact e3e (by assumption) (by assumption) | exact e3f (by assumption) (by assumption) (by assumption) | exact e3g (by assumption) (by assumption) (by assumption) (by assumption) | exact e3h (by assumption) (by assumption) (by assumption) (by assumption) (by assumption) | exact e3i (by assumption) (by assumption) (by assumption) (by assumption) (by assumption) | exact e3j (by assumption) (by assumption))


end Mine
namespace Mine
def lead1 (x y : Int) : Str := Txt.mul (Str.ofString " ") (x + y) ++ Str.ofString "\tx "
def lead2 (x y : Int) : Str := ((Txt.mul (Str.ofString " ") x ++ Str.ofString "\t") ++ Txt.mul (Str.ofString " ") y) ++ Str.ofString "\tx "
def st1 (x y : Int) : Sc := scan (lead1 x y).cps.toList sc0
def st2 (x y : Int) : Sc := scan (lead2 x y).cps.toList sc0
def prodT : List (Int × Int × Int) → Int → Int
  | [], a => a
  | r :: rs, a => prodT rs (a * primeOf r.1)
theorem prodT_next {rs : List (Int × Int × Int)} {i : Nat} {r : Int × Int × Int} {a b : Int} (h : rs[i]? = some r) (e : prodT (rs.drop i) a = b) : prodT (rs.drop (i + 1)) (a * primeOf r.1) = b := by
  obtain ⟨hi, e1⟩ := List.getElem?_eq_some_iff.mp h
  rw [List.drop_eq_getElem_cons hi, e1] at e
  exact e
theorem prodT_end {rs : List (Int × Int × Int)} {a b : Int} (e : prodT (rs.drop rs.length) a = b) : a = b := by
  rw [List.drop_eq_nil_of_le (Nat.le_refl _)] at e
  exact e
def rowsOf (x y : Int) : List (Int × Int × Int) := wRows (st1 x y) (st2 x y) (nOf (st1 x y) (st2 x y) + 1 - 1).toNat
def rdOf (x y q : Int) : Str := rl q (indentOf (st1 x y) q + 1 - 1).toNat
def patOf (rd : Str) (x y i : Int) : Str := Txt.join (Str.ofString "..." ++ Txt.item rd i) [Txt.slice rd none (some x), Txt.slice rd none (some y), Str.ofString ""]
def Ell3Fit (want got : Str) (b : Bool) : Prop := ∃ p0 p1 p2 : Str, want.length ≤ 1000 ∧ got.length ≤ 1000 ∧ (Builtin.Str.occurrences want (Str.ofString "...") 0 want.length 1).isEmpty = false ∧ Txt.split want (Str.ofString "...") = [p0, p1, p2] ∧ p0.length ≤ 1000 ∧ p1.length ≤ 1000 ∧ (1 ≤ p2.length ∧ p2.length ≤ 1000) ∧ ell3 got p0 p1 p2 = b
theorem ell3_fit (w : World) (mean : ExcName → Option Value) (mg mb : Str → Option Value) {want got : Str} {b : Bool} (X : Ell3Fit want got b) (t u : Tok) : Gives w mean mg mb 2 35 [] [.str want t, .str got u] (fun h h' v => v = .bool b) := by
  obtain ⟨p0, p1, p2, h1, h2, h3, h4, h5, h6, h7, h8⟩ := X
  have := ell3_is w mean mg mb want got p0 p1 p2 t u h1 h2 h3 h4 h5 h6 h7
  rw [h8] at this
  exact this
/-- the pieces of a pattern, and what they say of the road -/
def tk3 (want got : Str) : Bool := match Txt.split want (Str.ofString "...") with
  | [p0, p1, p2] => ell3 got p0 p1 p2
  | _ => false
def fit3 (want got : Str) : Bool := decide (want.length ≤ 1000) && decide (got.length ≤ 1000) && !(Builtin.Str.occurrences want (Str.ofString "...") 0 want.length 1).isEmpty && (match Txt.split want (Str.ofString "...") with
  | [p0, p1, p2] => decide (p0.length ≤ 1000) && decide (p1.length ≤ 1000) && decide (1 ≤ p2.length) && decide (p2.length ≤ 1000)
  | _ => false)
theorem fit3_of {want got : Str} (h : fit3 want got = true) : Ell3Fit want got (tk3 want got) := by
  unfold fit3 at h
  rw [Bool.and_eq_true, Bool.and_eq_true, Bool.and_eq_true] at h
  obtain ⟨⟨⟨h1, h2⟩, h3⟩, h4⟩ := h
  unfold tk3
  generalize hs : Txt.split want (Str.ofString "...") = ps at h4
  match ps, h4 with
  | [p0, p1, p2], h4 =>
    simp only [Bool.and_eq_true, decide_eq_true_eq] at h4
    exact ⟨p0, p1, p2, of_decide_eq_true h1, of_decide_eq_true h2, by simpa using h3, hs, h4.1.1.1, h4.1.1.2, ⟨h4.1.2, h4.2⟩, rfl⟩
def tkOf (x y q : Int) : Bool := tk3 (patOf (rdOf x y q) x y (q - 1)) (rdOf x y q)
def i01 (b : Bool) : Int := if b then 1 else 0
/-- what the walk asks of one size -/
structure SizeOk (x y q : Int) : Prop where
  lv : 0 ≤ indentOf (st1 x y) q ∧ indentOf (st1 x y) q ≤ 16
  l1 : (rdOf x y q).length ≤ 16
  l2 : q ≤ ((rdOf x y q).length : Int)
  fit : Ell3Fit (patOf (rdOf x y q) x y (q - 1)) (rdOf x y q) (tkOf x y q)
  j1 : (Str.ofString "..." ++ Txt.item (rdOf x y q) (q - 1)).length ≤ 16
  j2 : (Txt.slice (rdOf x y q) none (some x)).length ≤ 16
  j3 : (Txt.slice (rdOf x y q) none (some y)).length ≤ 16
/-- what the walk of _law_pair asks of x and y -/
structure PairOk (x y : Int) : Prop where
  l1 : (lead1 x y).length ≤ 200
  l2 : (lead2 x y).length ≤ 200
  c1 : ((st1 x y).cs.length : Int) ≤ 201
  c2 : ((st2 x y).cs.length : Int) ≤ 201
  b1 : 0 ≤ longOf (st1 x y) ∧ longOf (st1 x y) ≤ 50
  b2 : 0 ≤ longOf (st2 x y) ∧ longOf (st2 x y) ≤ 50
  rows : ∀ r ∈ rowsOf x y, r.2.1 = r.2.2 ∧ 1 ≤ r.1 ∧ r.1 ≤ 13
  told : prodT (rowsOf x y) 1 = waysOf x (y + 1 - 1).toNat
  z2 : SizeOk x y 2
  z4 : SizeOk x y 4
  z8 : SizeOk x y 8
  twos : i01 (tkOf x y 2) + i01 (tkOf x y 4) + i01 (tkOf x y 8) = onesOf x + onesOf y - onesOf (x + y)
  less : lessOf (st1 x y) (st2 x y) = (x == 0 || y == 0)
def sizeB (x y q : Int) : Bool := decide (0 ≤ indentOf (st1 x y) q ∧ indentOf (st1 x y) q ≤ 16) && decide ((rdOf x y q).length ≤ 16) && decide (q ≤ ((rdOf x y q).length : Int)) && fit3 (patOf (rdOf x y q) x y (q - 1)) (rdOf x y q) && decide ((Str.ofString "..." ++ Txt.item (rdOf x y q) (q - 1)).length ≤ 16) && decide ((Txt.slice (rdOf x y q) none (some x)).length ≤ 16) && decide ((Txt.slice (rdOf x y q) none (some y)).length ≤ 16)
theorem sizeOk_of {x y q : Int} (h : sizeB x y q = true) : SizeOk x y q := by
  unfold sizeB at h
  rw [Bool.and_eq_true, Bool.and_eq_true, Bool.and_eq_true, Bool.and_eq_true, Bool.and_eq_true, Bool.and_eq_true] at h
  obtain ⟨⟨⟨⟨⟨⟨h1, h2⟩, h3⟩, h4⟩, h5⟩, h6⟩, h7⟩ := h
  exact ⟨of_decide_eq_true h1, of_decide_eq_true h2, of_decide_eq_true h3, fit3_of h4, of_decide_eq_true h5, of_decide_eq_true h6, of_decide_eq_true h7⟩
def pairB (x y : Int) : Bool :=
  (decide ((lead1 x y).length ≤ 200) && decide ((lead2 x y).length ≤ 200) && decide (((st1 x y).cs.length : Int) ≤ 201) && decide (((st2 x y).cs.length : Int) ≤ 201)) &&
  (decide (0 ≤ longOf (st1 x y) ∧ longOf (st1 x y) ≤ 50) && decide (0 ≤ longOf (st2 x y) ∧ longOf (st2 x y) ≤ 50)) &&
  ((rowsOf x y).all (fun r => decide (r.2.1 = r.2.2 ∧ 1 ≤ r.1 ∧ r.1 ≤ 13)) && decide (prodT (rowsOf x y) 1 = waysOf x (y + 1 - 1).toNat)) &&
  (sizeB x y 2 && sizeB x y 4 && sizeB x y 8) &&
  (decide (i01 (tkOf x y 2) + i01 (tkOf x y 4) + i01 (tkOf x y 8) = onesOf x + onesOf y - onesOf (x + y)) && (lessOf (st1 x y) (st2 x y) == (x == 0 || y == 0)))
theorem pairOk_of {x y : Int} (h : pairB x y = true) : PairOk x y := by
  unfold pairB at h
  simp only [Bool.and_eq_true] at h
  obtain ⟨⟨⟨⟨⟨⟨⟨h1, h2⟩, h3⟩, h4⟩, h5, h6⟩, h7, h8⟩, ⟨h9, h10⟩, h11⟩, h12, h13⟩ := h
  exact ⟨of_decide_eq_true h1, of_decide_eq_true h2, of_decide_eq_true h3, of_decide_eq_true h4, of_decide_eq_true h5, of_decide_eq_true h6, fun r hr => of_decide_eq_true (List.all_eq_true.mp h7 r hr), of_decide_eq_true h8, sizeOk_of h9, sizeOk_of h10, sizeOk_of h11, of_decide_eq_true h12, eq_of_beq h13⟩
theorem newsAppT {h₀ h h' : Heap} {L : Addr} {m : Str → Option Value} {p : Addr × Obj} {led news : List (Addr × Obj)} (F : Fr h₀ L h m) (N : News h₀ L h' news) (hp : ∀ q ∈ p :: led, h'.get? q.1 = some q.2 ∧ h.get? q.1 = none) : News h₀ L h' (p :: (news ++ led)) := by
  intro q hm
  rcases List.mem_cons.mp hm with rfl | hm
  · exact newsMore F N (hp q (.head _)).1 (hp q (.head _)).2 q (.head _)
  · rcases List.mem_append.mp hm with hm | hm
    · exact N q hm
    · exact newsMore F N (hp q (.tail _ hm)).1 (hp q (.tail _ hm)).2 q (.head _)
section
variable {prog : Program} {w : World} {A : Around} {E : Value → Shared → Prop} {s : Shared} {h₀ : Heap} {L l : Addr} {news : List (Addr × Obj)}
theorem join3 {x a b c : Str} {t t0 t1 t2 : Tok} {k : Nat} {Q : Value → Shared → Prop} (N : News h₀ L s.heap news) (hm : (l, W.listOf #[.str a t0, .str b t1, .str c t2] k) ∈ news) (hx : x.length ≤ 16) (ha : a.length ≤ 16) (hb : b.length ≤ 16) (hc : c.length ≤ 16)
    (h : ∀ t' k, Q (.str (Txt.join x [a, b, c]) t') { s with toks := k }) : wpAny (model prog w) A (call (.builtin "str.join") [.str x t, .ref l]) Q E s := by
  refine join_list (items := #[.str a t0, .str b t1, .str c t2]) ⟨_, (N _ hm).1, rfl, k, rfl⟩ (.cons _ _ (.cons _ _ (.cons _ _ .nil))) ?_ h
  simp only [List.map_cons, List.map_nil, List.sum_cons, List.sum_nil, List.length_cons, List.length_nil]
  omega
end
def pairRow (x : Nat) : Bool := (List.range 5).all fun y => pairB (x : Int) (y : Int)
theorem pair_tab0 : pairRow 0 = true := by decide +kernel
theorem pair_tab1 : pairRow 1 = true := by decide +kernel
theorem pair_tab2 : pairRow 2 = true := by decide +kernel
theorem pair_tab3 : pairRow 3 = true := by decide +kernel
theorem pair_tab4 : pairRow 4 = true := by decide +kernel
theorem pair_tab5 : pairRow 5 = true := by decide +kernel
theorem pair_tab6 : pairRow 6 = true := by decide +kernel
theorem pair_tab7 : pairRow 7 = true := by decide +kernel
theorem pair_tab8 : pairRow 8 = true := by decide +kernel
theorem pair_tab (x : Nat) (h : x < 9) : pairRow x = true := by
  match x, h with
  | 0, _ => exact pair_tab0
  | 1, _ => exact pair_tab1
  | 2, _ => exact pair_tab2
  | 3, _ => exact pair_tab3
  | 4, _ => exact pair_tab4
  | 5, _ => exact pair_tab5
  | 6, _ => exact pair_tab6
  | 7, _ => exact pair_tab7
  | 8, _ => exact pair_tab8
  | n + 9, h => exact absurd h (by omega)
theorem pairOk {x y : Int} (hx : 0 ≤ x ∧ x ≤ 8) (hy : 0 ≤ y ∧ y ≤ 4) : PairOk x y := by
  have h := List.all_eq_true.mp (pair_tab x.toNat (by omega)) y.toNat (List.mem_range.mpr (by omega))
  rw [show ((x.toNat : Nat) : Int) = x by omega, show ((y.toNat : Nat) : Int) = y by omega] at h
  exact pairOk_of h
end Mine
namespace Mine
local macro_rules | `(tactic| k_room) => `(tactic| ktr_room)
local macro_rules | `(tactic| walk_at "call ref") => `(tactic| ( (with_reducible show wpAny _ _ (call (Value.ref 97) _) _ _ _); (with_reducible rename Fr _ _ _ _ => lF'); (with_reducible rename News _ _ _ _ => lN'); k_dflt (refine' wpAny_call (ctor_is _ _ _ _ _ _ ?hx _ _ _ _ _ _ _ _ _ _ _ _ _ _ _ _ ?k1 lF' ?k3 ?k4 ?k5 ?kK ?kd ?ku ?_); (case k1 => k_asm); (case k3 => k_asm); (case k4 => exact News.nil); (case k5 => k_asm); (case kK => first | exact rfl | assumption); (case kd => ktr_room); (case ku => ktr_units); (case hx => tb_start); k_whole; intro v9 h9 tk9 st9 post9; (obtain ⟨x9, dx9, D9, C9, vs9, t09, t19, t29, t39, t49, t59, t69, t79, t89, e9, i9, g9⟩ := post9); subst e9; (have F9 := frStays lF' st9); (have N9 := newsApp lF' (newsStays lN' st9) g9); clear lF' lN' st9 g9; (try dsimp only); (try dsimp only [wsObjs, List.cons_append, List.nil_append] at N9); (try k_fold))))
local macro_rules | `(tactic| walk_at "call ref") => `(tactic| ((with_reducible show wpAny _ _ (call (Value.ref 66) _) _ _ _); (with_reducible rename Fr _ _ _ _ => lF'); (with_reducible rename News _ _ _ _ => lN'); k_dflt (refine' wpAny_call (indent_is _ _ _ _ _ _ _ _ _ _ _ _ _ _ _ _ _ _ _ _ ?hv ?hl _ ?hq _ _ _ _ _ _ _ _ _ _ _ _ _ _ _ _ _ ?k1 lF' ?k3 ?k4 ?k5 ?kK ?kd ?ku ?_); (case k1 => k_asm); (case k3 => k_asm); (case k4 => exact newsSub lN' (List.forall_mem_cons.mpr ⟨by k_mem, List.forall_mem_cons.mpr ⟨by k_mem, List.forall_mem_cons.mpr ⟨by k_mem, List.forall_mem_cons.mpr ⟨by k_mem, List.forall_mem_nil _⟩⟩⟩⟩)); (case k5 => k_asm); (case kK => first | exact rfl | assumption); (case kd => ktr_room); (case ku => ktr_units); (case hv => assumption); (case hl => tb_rel); (case hq => omega); k_whole; intro v9 h9 tk9 st9 post9; (obtain ⟨ta9, e9⟩ := post9); subst e9; (have F9 := frStays lF' st9); (have N9 := newsStays lN' st9); clear lF' lN' st9; (try dsimp only); (try k_fold))))
local macro_rules | `(tactic| walk_at "call ref") => `(tactic| ((with_reducible show wpAny _ _ (call (Value.ref 115) _) _ _ _); (with_reducible rename Fr _ _ _ _ => lF'); (with_reducible rename News _ _ _ _ => lN'); k_dflt (refine' wpAny_call (prime_is _ _ _ _ _ _ ?hs _ _ _ _ _ _ _ _ _ _ _ _ _ _ _ _ ?k1 lF' ?k3 ?k4 ?k5 ?kK ?kd ?ku ?_); (case k1 => k_asm); (case k3 => k_asm); (case k4 => exact News.nil); (case k5 => k_asm); (case kK => first | exact rfl | assumption); (case kd => ktr_room); (case ku => ktr_units); (case hs => assumption); k_whole; intro v9 h9 tk9 st9 post9; (obtain ⟨ta9, e9⟩ := post9); subst e9; (have F9 := frStays lF' st9); (have N9 := newsStays lN' st9); clear lF' lN' st9; (try dsimp only); (try k_fold))))
local macro_rules | `(tactic| walk_at "call ref") => `(tactic| ((with_reducible show wpAny _ _ (call (Value.ref 122) _) _ _ _); (with_reducible rename Fr _ _ _ _ => lF'); (with_reducible rename News _ _ _ _ => lN'); k_dflt (refine' wpAny_call (ones_is _ _ _ _ _ _ ?hs _ _ _ _ _ _ _ _ _ _ _ _ _ _ _ _ ?k1 lF' ?k3 ?k4 ?k5 ?kK ?kd ?ku ?_); (case k1 => k_asm); (case k3 => k_asm); (case k4 => exact News.nil); (case k5 => k_asm); (case kK => first | exact rfl | assumption); (case kd => ktr_room); (case ku => ktr_units); (case hs => omega); k_whole; intro v9 h9 tk9 st9 post9; (obtain ⟨ta9, e9⟩ := post9); subst e9; (have F9 := frStays lF' st9); (have N9 := newsStays lN' st9); clear lF' lN' st9; (try dsimp only); (try k_fold))))
local macro_rules | `(tactic| walk_at "call ref") => `(tactic| ((with_reducible show wpAny _ _ (call (Value.ref 129) _) _ _ _); (with_reducible rename Fr _ _ _ _ => lF'); (with_reducible rename News _ _ _ _ => lN'); k_dflt (refine' wpAny_call (ways_is _ _ _ _ _ _ _ _ ?hx ?hy _ _ _ _ _ _ _ _ _ _ _ _ _ _ _ _ ?k1 lF' ?k3 ?k4 ?k5 ?kK ?kd ?ku ?_); (case k1 => k_asm); (case k3 => k_asm); (case k4 => exact News.nil); (case k5 => k_asm); (case kK => first | exact rfl | assumption); (case kd => ktr_room); (case ku => ktr_units); (case hx => omega); (case hy => omega); k_whole; intro v9 h9 tk9 st9 post9; (obtain ⟨ta9, e9⟩ := post9); subst e9; (have F9 := frStays lF' st9); (have N9 := newsStays lN' st9); clear lF' lN' st9; (try dsimp only); (try k_fold))))
local macro_rules | `(tactic| walk_at "call ref") => `(tactic| ((with_reducible show wpAny _ _ (call (Value.ref 108) _) _ _ _); (with_reducible rename Fr _ _ _ _ => lF'); (with_reducible rename News _ _ _ _ => lN'); k_dflt (refine' wpAny_call (road_is _ _ _ _ _ _ _ _ ?hq ?hl _ _ _ _ _ _ _ _ _ _ _ _ _ _ _ _ ?k1 lF' ?k3 ?k4 ?k5 ?kK ?kd ?ku ?_); (case k1 => k_asm); (case k3 => k_asm); (case k4 => exact News.nil); (case k5 => k_asm); (case kK => first | exact rfl | assumption); (case kd => ktr_room); (case ku => ktr_units); (case hq => first | decide | assumption); (case hl => assumption); k_whole; intro v9 h9 tk9 st9 post9; (obtain ⟨ta9, e9⟩ := post9); subst e9; (have F9 := frStays lF' st9); (have N9 := newsStays lN' st9); clear lF' lN' st9; (try dsimp only); (try k_fold))))
local macro_rules | `(tactic| walk_at "call ref") => `(tactic| ((with_reducible show wpAny _ _ (call (Value.ref 94) _) _ _ _); (with_reducible rename Fr _ _ _ _ => lF'); (with_reducible rename News _ _ _ _ => lN'); k_dflt (refine' wpAny_call (wit_is _ _ _ _ _ _ _ _ _ _ _ _ _ _ _ _ _ _ _ _ _ _ _ _ _ _ _ _ _ _ _ _ _ _ _ _ ?hv ?hl ?hu ?hk ?hb ?hc _ _ _ _ _ _ _ _ _ _ _ _ _ _ _ _ ?k1 lF' ?k3 ?k4 ?k5 ?kK ?kd ?ku ?_); (case k1 => k_asm); (case k3 => k_asm); (case k4 => exact newsSub lN' (List.forall_mem_cons.mpr ⟨by k_mem, List.forall_mem_cons.mpr ⟨by k_mem, List.forall_mem_cons.mpr ⟨by k_mem, List.forall_mem_cons.mpr ⟨by k_mem, List.forall_mem_cons.mpr ⟨by k_mem, List.forall_mem_cons.mpr ⟨by k_mem, List.forall_mem_cons.mpr ⟨by k_mem, List.forall_mem_cons.mpr ⟨by k_mem, List.forall_mem_nil _⟩⟩⟩⟩⟩⟩⟩⟩)); (case k5 => k_asm); (case kK => first | exact rfl | assumption); (case kd => ktr_room); (case ku => ktr_units); (case hv => assumption); (case hl => assumption); (case hu => assumption); (case hk => assumption); (case hb => assumption); (case hc => assumption); k_whole; intro v9 h9 tk9 st9 post9; (obtain ⟨D9, vs9, k9, led9, e9, g9, rows9⟩ := post9); subst e9; (have F9 := frStays lF' st9); (have N9 := newsAppT lF' (newsStays lN' st9) g9); clear g9; (try simp only [List.cons_append, List.nil_append] at N9); clear lF' lN' st9; (try dsimp only); (try k_fold))))
local macro_rules | `(tactic| walk_at "call ref") => `(tactic| ((with_reducible show wpAny _ _ (call (Value.ref 87) _) _ _ _); (with_reducible rename Fr _ _ _ _ => lF'); (with_reducible rename News _ _ _ _ => lN'); k_dflt (refine' wpAny_call (less_is _ _ _ _ _ _ _ _ _ _ _ _ _ _ _ _ _ _ _ _ _ _ _ _ _ _ _ _ _ _ _ _ _ _ _ _ ?hv ?hl ?hu ?hk ?hb ?hc _ _ _ _ _ _ _ _ _ _ _ _ _ _ _ _ ?k1 lF' ?k3 ?k4 ?k5 ?kK ?kd ?ku ?_); (case k1 => k_asm); (case k3 => k_asm); (case k4 => exact newsSub lN' (List.forall_mem_cons.mpr ⟨by k_mem, List.forall_mem_cons.mpr ⟨by k_mem, List.forall_mem_cons.mpr ⟨by k_mem, List.forall_mem_cons.mpr ⟨by k_mem, List.forall_mem_cons.mpr ⟨by k_mem, List.forall_mem_cons.mpr ⟨by k_mem, List.forall_mem_cons.mpr ⟨by k_mem, List.forall_mem_cons.mpr ⟨by k_mem, List.forall_mem_nil _⟩⟩⟩⟩⟩⟩⟩⟩)); (case k5 => k_asm); (case kK => first | exact rfl | assumption); (case kd => ktr_room); (case ku => ktr_units); (case hv => assumption); (case hl => assumption); (case hu => assumption); (case hk => assumption); (case hb => assumption); (case hc => assumption); k_whole; intro v9 h9 tk9 st9 post9; subst post9; (have F9 := frStays lF' st9); (have N9 := newsStays lN' st9); clear lF' lN' st9; (try dsimp only); (try k_fold))))
local macro_rules | `(tactic| tb_start) => `(tactic| assumption)
local macro_rules | `(tactic| tb_rel) => `(tactic| assumption)
local macro_rules | `(tactic| walk_at "subscriptTail Name Constant ref int") => `(tactic| (k_here; (with_reducible show wpAny _ _ (subscriptTail _ _ (Value.ref _) (Value.int _ _)) _ _ _); k_dflt (first | (refine' itemRow (j := 0) ?k1 ?k2 (by decide) (by decide) rfl ?_ ?k7; (case k1 => k_asm); (case k2 => assumption); (case k7 => with_unfolding_all rfl); k_whole) | (refine' itemRow (j := 1) ?k1 ?k2 (by decide) (by decide) rfl ?_ ?k7; (case k1 => k_asm); (case k2 => assumption); (case k7 => with_unfolding_all rfl); k_whole) | (refine' itemRow (j := 2) ?k1 ?k2 (by decide) (by decide) rfl ?_ ?k7; (case k1 => k_asm); (case k2 => assumption); (case k7 => with_unfolding_all rfl); k_whole))))
local macro_rules | `(tactic| walk_at "call builtin:str.join") => `(tactic| (k_here; k_dflt (refine' join3 ?k1 ?k2 ?k3 ?k4 ?k5 ?k6 ?_; (case k1 => k_asm); (case k2 => k_mem); (case k3 => assumption); (case k4 => assumption); (case k5 => assumption); (case k6 => assumption); k_whole); intro _ _))
local macro_rules | `(tactic| walk_at "call ref") => `(tactic| ((with_reducible show wpAny _ _ (call (Value.ref 35) _) _ _ _); (with_reducible rename Fr _ _ _ _ => lF'); (with_reducible rename News _ _ _ _ => lN'); k_dflt (refine' wpAny_call (ell3_fit _ _ _ _ ?hx _ _ _ _ _ _ _ _ _ _ _ _ _ _ _ _ _ _ ?k1 lF' ?k3 ?k4 ?k5 ?kK ?kd ?ku ?_); (case k1 => k_asm); (case k3 => k_asm); (case k4 => exact News.nil); (case k5 => k_asm); (case kK => first | exact rfl | assumption); (case kd => ktr_room); (case ku => ktr_units); (case hx => assumption); k_whole; intro v9 h9 tk9 st9 post9; subst post9; (have F9 := frStays lF' st9); (have N9 := newsStays lN' st9); clear lF' lN' st9; (try dsimp only); (try k_fold))))
local macro_rules | `(tactic| walk_at "subscriptTail Name Slice str ref") => `(tactic| (k_here; (with_reducible show wpAny _ _ (subscriptTail _ (Expr.Slice _ _ _ _) (Value.str _ _) (Value.ref _)) _ _ _); kxi_slice; intro _ _ _ _ _; (try dsimp only)))
local macro_rules | `(tactic| walk_at "newList") => `(tactic| (k_here; k_dflt (refine' newList_K ?k1 ?k2 ?_ (Nat.le_of_ble_eq_true rfl); (case k1 => k_asm); (case k2 => k_asm); k_whole); intro l' h' F' N' l1; clear l1; (try k_sweep)))
def qAt : Nat → Int
  | 0 => 2
  | 1 => 4
  | _ => 8
def twosUp (x y : Int) : Nat → Int
  | 0 => 0
  | i + 1 => twosUp x y i + i01 (tkOf x y (qAt i))
theorem sizeAt {x y : Int} (h : PairOk x y) (i : Nat) : SizeOk x y (qAt i) := by
  match i with
  | 0 => exact h.z2
  | 1 => exact h.z4
  | _ + 2 => exact h.z8
theorem qAt_is (i : Nat) : qAt i = 2 ∨ qAt i = 4 ∨ qAt i = 8 := by
  match i with
  | 0 => exact .inl rfl
  | 1 => exact .inr (.inl rfl)
  | _ + 2 => exact .inr (.inr rfl)
theorem itemAt {t0 t1 t2 : Tok} {i : Nat} {v : Value} (h : ([.int 2 t0, .int 4 t1, .int 8 t2] : List Value)[i]? = some v) : i < 3 ∧ ∃ t, v = .int (qAt i) t := by
  match i, h with
  | 0, h => exact ⟨by decide, t0, (Option.some.inj h).symm⟩
  | 1, h => exact ⟨by decide, t1, (Option.some.inj h).symm⟩
  | 2, h => exact ⟨by decide, t2, (Option.some.inj h).symm⟩
  | i + 3, h => exact absurd h (by simp)
theorem twosB (x y : Int) (i : Nat) : 0 ≤ twosUp x y i ∧ twosUp x y i ≤ (i : Int) := by
  induction i with
  | zero => exact ⟨Int.le_refl _, Int.le_refl _⟩
  | succ i ih =>
    have : 0 ≤ i01 (tkOf x y (qAt i)) ∧ i01 (tkOf x y (qAt i)) ≤ 1 := by
      unfold i01
      split <;> omega
    simp only [twosUp]
    omega
theorem twos_yes {x y q : Int} {i : Nat} (h : tkOf x y q = true) (hq : q = qAt i) : twosUp x y (i + 1) = twosUp x y i + 1 := by
  subst hq
  simp only [twosUp, h, i01, if_true]
theorem twos_no {x y q : Int} {i : Nat} (h : tkOf x y q = false) (hq : q = qAt i) : twosUp x y (i + 1) = twosUp x y i := by
  subst hq
  simp [twosUp, h, i01]
def TwM (X Y : Addr) (tv x y : Int) (tt tx ty : Tok) (u : Str → Option Value) : Str → Option Value :=
  ovr [(Str.ofString "twos", .int tv tt), (Str.ofString "once", .ref X), (Str.ofString "twice", .ref Y), (Str.ofString "x", .int x tx), (Str.ofString "y", .int y ty)] u
def TwJ (X Y : Addr) (x y : Int) (tx ty : Tok) (LED : List (Addr × Obj)) (i : Nat) (m : Str → Option Value) (news : List (Addr × Obj)) : Prop :=
  ∃ (tv : Int) (tt : Tok) (u : Str → Option Value), m = TwM X Y tv x y tt tx ty u ∧ news = LED ∧ tv = twosUp x y i
theorem twJ_of {X Y : Addr} {tv x y : Int} {tt tx ty : Tok} {LED : List (Addr × Obj)} {i : Nat} {m : Str → Option Value} (m0 : m (Str.ofString "twos") = some (.int tv tt)) (m1 : m (Str.ofString "once") = some (.ref X)) (m2 : m (Str.ofString "twice") = some (.ref Y)) (m3 : m (Str.ofString "x") = some (.int x tx)) (m4 : m (Str.ofString "y") = some (.int y ty))
    (h : tv = twosUp x y i) : TwJ X Y x y tx ty LED i m LED := by
  refine ⟨tv, tt, m, ovr_self ?_, rfl, h⟩
  intro p hp
  simp only [List.mem_cons, List.not_mem_nil, or_false] at hp
  rcases hp with rfl | rfl | rfl | rfl | rfl <;> assumption
theorem hideT {h₀ h : Heap} {L l : Addr} {a b c : Tok} {led : List (Addr × Obj)} (N : News h₀ L h ((l, W.listOf #[.int 2 a, .int 4 b, .int 8 c] 0) :: led)) : ∃ t0 t1 t2, News h₀ L h ((l, W.listOf #[.int 2 t0, .int 4 t1, .int 8 t2] 0) :: led) := ⟨a, b, c, N⟩
theorem twU_yes {x y q tv : Int} {i : Nat} (h : (tkOf x y q == true) = true) (hq : qAt i = q) (ht : tv = twosUp x y i) : tv + 1 = twosUp x y (i + 1) := by
  rw [twos_yes (eq_of_beq h) hq.symm, ht]
theorem twU_no {x y q tv : Int} {i : Nat} (h : (tkOf x y q == true) = false) (hq : qAt i = q) (ht : tv = twosUp x y i) : tv = twosUp x y (i + 1) := by
  rw [twos_no (by cases e : tkOf x y q; rfl; rw [e] at h; cases h) hq.symm, ht]
theorem twU_abs {b : Bool} (h : (b == true) = false) (h2 : (b != false) = true) : False := by
  cases b
  · cases h2
  · cases h
theorem tw3 {x y : Int} (h : PairOk x y) : twosUp x y 3 = onesOf x + onesOf y - onesOf (x + y) := by
  rw [← h.twos]
  show 0 + _ + _ + _ = _
  rw [Int.zero_add]
  rfl
theorem lsX {b : Bool} {x y : Int} (h : b = (x == 0 || y == 0)) (e : x = 0) : (b == (x == 0)) = true := by
  subst e; subst h; simp
theorem lsY {b : Bool} {x y : Int} (h : b = (x == 0 || y == 0)) (e : x ≠ 0) : (b == (y == 0)) = true := by
  subst h; simp [e]
def PrM (X Y : Addr) (tv x y : Int) (tt tx ty : Tok) (u : Str → Option Value) : Str → Option Value :=
  ovr [(Str.ofString "told", .int tv tt), (Str.ofString "once", .ref X), (Str.ofString "twice", .ref Y), (Str.ofString "x", .int x tx), (Str.ofString "y", .int y ty)] u
def PrJ (X Y : Addr) (x y : Int) (tx ty : Tok) (rows : List (Int × Int × Int)) (LED : List (Addr × Obj)) (i : Nat) (m : Str → Option Value) (news : List (Addr × Obj)) : Prop :=
  ∃ (tv : Int) (tt : Tok) (u : Str → Option Value), m = PrM X Y tv x y tt tx ty u ∧ news = LED ∧ prodT (rows.drop i) tv = prodT rows 1
theorem prJ_of {X Y : Addr} {tv x y : Int} {tt tx ty : Tok} {rows : List (Int × Int × Int)} {LED : List (Addr × Obj)} {i : Nat} {m : Str → Option Value} (m0 : m (Str.ofString "told") = some (.int tv tt)) (m1 : m (Str.ofString "once") = some (.ref X)) (m2 : m (Str.ofString "twice") = some (.ref Y)) (m3 : m (Str.ofString "x") = some (.int x tx)) (m4 : m (Str.ofString "y") = some (.int y ty))
    (h : prodT (rows.drop i) tv = prodT rows 1) : PrJ X Y x y tx ty rows LED i m LED := by
  refine ⟨tv, tt, m, ovr_self ?_, rfl, h⟩
  intro p hp
  simp only [List.mem_cons, List.not_mem_nil, or_false] at hp
  rcases hp with rfl | rfl | rfl | rfl | rfl <;> assumption
section
variable {prog : Program} {w : World} {A : Around} {E : Value → Shared → Prop} {s : Shared} {h₀ : Heap} {L l : Addr} {news : List (Addr × Obj)}
/-- an item of a row -/
theorem itemRow {value slice : PySem.Expr} {a b c : Value} {k : Int} {j : Nat} {u : Tok} {v : Value} {Q : Value → Shared → Prop} (N : News h₀ L s.heap news) (hm : (l, tup3 a b c) ∈ news) (hk : 0 ≤ k ∧ k < 3) (hj : seqIndex? k 3 = some j) (hv : ([a, b, c] : List Value)[j]? = some v) (h : Q v s)
    (hs : subscripted slice false (.ref l) (.int k u) = operate [.ref l, .int k u] (getItem (.ref l) (.int k u)) := by with_unfolding_all rfl) :
    wpAny (model prog w) A (subscriptTail value slice (.ref l) (.int k u)) Q E s :=
  item_tupleT (News.isTup N (show (l, ({ cls := .type "tuple", data := .seq [a, b, c].toArray } : Obj)) ∈ news from hm)) (by omega) (by omega) hj hv h hs
theorem led10 {h : Heap} {a b c d e f g i j k p : Addr × Obj} {led : List (Addr × Obj)} (N : News h₀ L h (a :: b :: c :: d :: e :: f :: g :: i :: j :: k :: led)) (hm : p ∈ led) : p ∈ (a :: b :: c :: d :: e :: f :: g :: i :: j :: k :: led) :=
  .tail _ (.tail _ (.tail _ (.tail _ (.tail _ (.tail _ (.tail _ (.tail _ (.tail _ (.tail _ hm)))))))))
theorem news8 {h : Heap} {a b c d e f g i j : Addr × Obj} {led : List (Addr × Obj)} (N : News h₀ L h (a :: b :: c :: d :: e :: f :: g :: i :: j :: led)) : News h₀ L h [b, c, d, e, f, g, i, j] := newsSub N fun p hp => by
  simp only [List.mem_cons, List.not_mem_nil, or_false] at hp
  rcases hp with rfl | rfl | rfl | rfl | rfl | rfl | rfl | rfl
  · exact .tail _ (.head _)
  · exact .tail _ (.tail _ (.head _))
  · exact .tail _ (.tail _ (.tail _ (.head _)))
  · exact .tail _ (.tail _ (.tail _ (.tail _ (.head _))))
  · exact .tail _ (.tail _ (.tail _ (.tail _ (.tail _ (.head _)))))
  · exact .tail _ (.tail _ (.tail _ (.tail _ (.tail _ (.tail _ (.head _))))))
  · exact .tail _ (.tail _ (.tail _ (.tail _ (.tail _ (.tail _ (.tail _ (.head _)))))))
  · exact .tail _ (.tail _ (.tail _ (.tail _ (.tail _ (.tail _ (.tail _ (.tail _ (.head _))))))))
end
theorem primeB (s : Int) (h : 1 ≤ s ∧ s ≤ 13) : 1 ≤ primeOf s ∧ primeOf s ≤ 13 := by
  unfold primeOf
  split
  · omega
  · split
    · omega
    · split <;> omega
local macro_rules | `(tactic| mul_fits) => `(tactic| exact PySem.IntMulOk.of_right (PySem.intBits_le_64 (by omega) (by omega)))
theorem pair_is (w : World) (mean : ExcName → Option Value) (mg mb : Str → Option Value) (x y : Int) (t u : Tok) (hx : 0 ≤ x ∧ x ≤ 8) (hy : 0 ≤ y ∧ y ≤ 4) (hP : PairOk x y) : Gives w mean mg mb 6 136 [] [.int x t, .int y u] (fun h h' v => v = .bool true) := by
  w_on
  unfold Gives
  k_fill
  intro dp un gd cn cs a ccd cl outer A₀ base h₀ L m s R B F X N T hk hdp hun hret
  k_dflt (refine' enterS (binds := [(Str.ofString "x", .int x t), (Str.ofString "y", .int y u)]) B F X N T ?kA ?kF ?kK ?k6 ?k7 ?k8 ?k9 ?kB ?_ ?c2 ?c3 ?c4 ?c5; (case kA => exact rfl); (case kF => exact rfl); (case kK => exact hk); (case k6 => k_is); (case k7 => k_is); (case k8 => ktr_room); (case k9 => exact BindsTo.of_eq rfl); (case c5 => decide); (case kB => exact locs rfl); (case c2 => exact rfl); (case c3 => exact rfl); (case c4 => exact rfl); k_whole)
  intro g L' h₁ tk₁ F' N' B' X' T' lt' hgs hnew
  clear B F X N T
  have ok1 : (Txt.mul (Str.ofString " ") (x + y) ++ Str.ofString "\tx ").length ≤ 200 := hP.l1
  have ok2 : (((Txt.mul (Str.ofString " ") x ++ Str.ofString "\t") ++ Txt.mul (Str.ofString " ") y) ++ Str.ofString "\tx ").length ≤ 200 := hP.l2
  (try dsimp only)
  (try k_fold)
  repeat' ((fail_if_success (with_reducible show wpAny _ _ (call (Value.ref 94) _) _ _ _)); (first | (k_unfold; (try dsimp only)) | (k_end; wrow_close) | walk1 | (dsimp only; walk1) | (leave1; walk_say "STEP leave1"; try dsimp only) | fail "no step"))
  as_aux_lemma =>
    revert hx hy
    (repeat (rename _ ≤ _ ∧ _ ≤ _ => lx; clear lx))
    intro hx hy
    clear ok1 ok2
    have hP2 := hP
    generalize hs1 : scan (Txt.mul (Str.ofString " ") (x + y) ++ Str.ofString "\tx ").cps.toList sc0 = s1 at *
    generalize hs2 : scan (Txt.mul (Str.ofString " ") x ++ Str.ofString "\t" ++ Txt.mul (Str.ofString " ") y ++ Str.ofString "\tx ").cps.toList sc0 = s2 at *
    have e1 : st1 x y = s1 := hs1
    have e2 : st2 x y = s2 := hs2
    have f1 : (s1.cs.length : Int) ≤ 201 := e1 ▸ hP.c1
    have f2 : (s2.cs.length : Int) ≤ 201 := e2 ▸ hP.c2
    have f3 : 0 ≤ longOf s1 ∧ longOf s1 ≤ 50 := e1 ▸ hP.b1
    have f4 : 0 ≤ longOf s2 ∧ longOf s2 ≤ 50 := e2 ▸ hP.b2
    have e3 : rowsOf x y = wRows s1 s2 (nOf s1 s2 + 1 - 1).toNat := by rw [← e1, ← e2]; rfl
    rename Fr _ _ _ _ => lF
    rename News _ _ _ _ => lN
    k_dflt (refine' wpAny_call (wit_is _ _ _ _ _ _ _ _ _ _ _ _ _ _ _ _ _ _ _ _ _ _ _ _ _ _ _ _ _ _ _ _ _ _ _ _ ?hv ?hl ?hu ?hk ?hb ?hc _ _ _ _ _ _ _ _ _ _ _ _ _ _ _ _ ?k1 lF ?k3 ?k4 ?k5 ?kK ?kd ?ku ?_); (case k1 => k_asm); (case k3 => k_asm); (case k4 => exact newsSub lN (List.forall_mem_cons.mpr ⟨by k_mem, List.forall_mem_cons.mpr ⟨by k_mem, List.forall_mem_cons.mpr ⟨by k_mem, List.forall_mem_cons.mpr ⟨by k_mem, List.forall_mem_cons.mpr ⟨by k_mem, List.forall_mem_cons.mpr ⟨by k_mem, List.forall_mem_cons.mpr ⟨by k_mem, List.forall_mem_cons.mpr ⟨by k_mem, List.forall_mem_nil _⟩⟩⟩⟩⟩⟩⟩⟩)); (case k5 => k_asm); (case kK => exact rfl); (case kd => ktr_room); (case ku => ktr_units); (case hv => assumption); (case hl => assumption); (case hu => assumption); (case hk => assumption); (case hb => assumption); (case hc => assumption))
    intro v9 h9 tk9 st9 post9
    obtain ⟨D9, vs9, k9, led9, rfl, g9, rows9⟩ := post9
    have F9 := frStays lF st9
    have N9 := newsAppT lF (newsStays lN st9) g9
    clear g9 lF lN st9
    simp only [List.cons_append, List.nil_append] at N9
    rw [← e3] at rows9
    have hrw := hP.rows
    (try dsimp only)
    (try k_fold)
    repeat' ((fail_if_success (with_reducible show wpAny _ _ (pyIter _) _ _ _)); (first | (k_unfold; (try dsimp only)) | (k_end; wrow_close) | walk1 | (dsimp only; walk1) | (leave1; walk_say "STEP leave1"; try dsimp only) | fail "no step"))
    k_dflt (refine loopList (lo := W.listOf vs9.toArray k9) (vs := vs9) (k := k9) (PrJ _ _ x y t u (rowsOf x y) _) rfl (by k_asm) (by k_asm) rfl rfl (fun i m n hJ => by obtain ⟨_, _, _, _, e, _⟩ := hJ; rw [e]; exact List.Mem.head _) (prJ_of rfl rfl rfl rfl rfl rfl) ?turn ?done)
    case turn =>
      (rename Fr _ _ _ _ => Fo); (rename News _ _ _ _ => No); clear Fo No
      intro I it i v m₁ news₁ h2 tk2 hv hJ hoff F2 N2
      obtain ⟨tv, tt, u', rfl, rfl, hJ⟩ := hJ
      obtain ⟨r, hr, a9, b0, b1, b2, rfl, hm⟩ := rows9.at hv
      obtain ⟨hr1, hr2⟩ := hrw r (List.mem_of_getElem? hr)
      have hpb := primeB r.1 hr2
      have hmL := led10 N2 hm
      (try dsimp only)
      (try k_fold)
      k_steps
      · exact absurd hr1 (by assumption)
      · exact unrEndT (by k_asm) (by k_asm) hoff (prJ_of rfl rfl rfl rfl rfl (prodT_next hr hJ))
    case done =>
      (rename Fr _ _ _ _ => Fo); (rename News _ _ _ _ => No); clear Fo No
      intro m₁ news₁ h2 tk2 hJ F2 N2
      obtain ⟨tv, tt, u', rfl, rfl, hJ⟩ := hJ
      rw [rows9.length] at hJ
      have htv := prodT_end hJ
      rw [hP.told] at htv
      subst htv
      have N3 := news8 N2
      clear N2 rows9 hrw hJ
      (try dsimp only)
      (try k_fold)
      as_aux_lemma =>
        have hls : lessOf s1 s2 = (x == 0 || y == 0) := by
          have := hP.less
          rw [e1, e2] at this
          exact this
        have hnil : (Str.ofString "").length ≤ 16 := by decide
        clear e3
        repeat' ((fail_if_success (with_reducible show wpAny _ _ (compareOp CmpOp.NotEq _ _) _ _ _)); (first | (k_unfold; (try dsimp only)) | (k_end; wrow_close) | walk1 | (dsimp only; walk1) | (leave1; walk_say "STEP leave1"; try dsimp only) | fail "no step"))
        repeat' ((fail_if_success (with_reducible show wpAny _ _ (newList _) _ _ _)); (first | (k_unfold; (try dsimp only)) | (k_end; wrow_close) | walk1 | (dsimp only; walk1) | (leave1; walk_say "STEP leave1"; try dsimp only) | fail "no step"))
        · exact absurd rfl (by assumption)
        repeat' ((fail_if_success (with_reducible show wpAny _ _ (pyIter _) _ _ _)); (first | (k_unfold; (try dsimp only)) | (k_end; wrow_close) | walk1 | (dsimp only; walk1) | (leave1; walk_say "STEP leave1"; try dsimp only) | fail "no step"))
        rename News _ _ _ _ => N0
        obtain ⟨t0, t1, t2, N1⟩ := hideT N0
        clear N0
        k_dflt (refine loopList (lo := W.listOf #[.int 2 t0, .int 4 t1, .int 8 t2] 0) (vs := [.int 2 t0, .int 4 t1, .int 8 t2]) (k := 0) (TwJ _ _ x y t u _) rfl (by k_asm) (by k_asm) rfl rfl (fun i m n hJ => by obtain ⟨_, _, _, _, e, _⟩ := hJ; rw [e]; exact List.Mem.head _) (twJ_of rfl rfl rfl rfl rfl rfl) ?turn ?done)
        case turn =>
          (rename Fr _ _ _ _ => Fo); (rename News _ _ _ _ => No); clear Fo No
          intro I it i v m₁ news₁ h2 tk2 hv hJ hoff F2 N2
          obtain ⟨tv, tt, u', rfl, rfl, htv⟩ := hJ
          obtain ⟨hi, tq, rfl⟩ := itemAt hv
          have hz := sizeAt hP i
          have hq := qAt_is i
          have hb := twosB x y i
          rw [← htv] at hb
          generalize hqa : qAt i = q at *
          have hL : 0 ≤ indentOf s1 q ∧ indentOf s1 q ≤ 16 := e1 ▸ hz.lv
          have hl : (rl q (indentOf s1 q + 1 - 1).toNat).length ≤ 16 := by
            have := hz.l1
            unfold rdOf at this
            rw [e1] at this
            exact this
          have hm : q ≤ ((rl q (indentOf s1 q + 1 - 1).toNat).length : Int) := by
            have := hz.l2
            unfold rdOf at this
            rw [e1] at this
            exact this
          have hE : Ell3Fit (Txt.join (Str.ofString "..." ++ Txt.item (rl q (indentOf s1 q + 1 - 1).toNat) (q - 1)) [Txt.slice (rl q (indentOf s1 q + 1 - 1).toNat) none (some x), Txt.slice (rl q (indentOf s1 q + 1 - 1).toNat) none (some y), Str.ofString ""]) (rl q (indentOf s1 q + 1 - 1).toNat) (tkOf x y q) := by
            have := hz.fit
            unfold patOf rdOf at this
            rw [e1] at this
            exact this
          have hj : (Str.ofString "..." ++ Txt.item (rl q (indentOf s1 q + 1 - 1).toNat) (q - 1)).length ≤ 16 := by
            have := hz.j1
            unfold rdOf at this
            rw [e1] at this
            exact this
          have hx3 : (Txt.slice (rl q (indentOf s1 q + 1 - 1).toNat) none (some x)).length ≤ 16 := by
            have := hz.j2
            unfold rdOf at this
            rw [e1] at this
            exact this
          have hy3 : (Txt.slice (rl q (indentOf s1 q + 1 - 1).toNat) none (some y)).length ≤ 16 := by
            have := hz.j3
            unfold rdOf at this
            rw [e1] at this
            exact this
          clear hz hP hP2 hls
          (try dsimp only)
          (try k_fold)
          repeat' ((fail_if_success (with_reducible show wpAny _ _ (call (Value.builtin "str.join") _) _ _ _)); (first | (k_unfold; (try dsimp only)) | (k_end; wrow_close) | walk1 | (dsimp only; walk1) | (leave1; walk_say "STEP leave1"; try dsimp only) | fail "no step"))
          rename News _ _ _ _ => Nj
          have Nk := newsDrop1 Nj
          refine join3 Nj (by k_mem) hj hx3 hy3 hnil ?_
          clear Nj
          intro tj kj
          (try dsimp only)
          (try k_fold)
          k_steps
          · exact unrEndT (by k_asm) (by k_asm) hoff (twJ_of rfl rfl rfl rfl rfl (twU_yes (by assumption) hqa htv))
          · rename_i hb1 hb2
            exact (twU_abs hb1 hb2).elim
          · rename_i hb1 hb2
            exact unrEndT (by k_asm) (by k_asm) hoff (twJ_of rfl rfl rfl rfl rfl (twU_no hb1 hqa htv))
        case done =>
          (rename Fr _ _ _ _ => Fo); (rename News _ _ _ _ => No); clear Fo No
          intro m₁ news₁ h2 tk2 hJ F2 N2
          obtain ⟨tv, tt, u', rfl, rfl, htv⟩ := hJ
          (try dsimp only)
          (try k_fold)
          k_steps
          · exact absurd (htv.trans (tw3 hP)) (by assumption)
          · exact hret _ _ _ (hgs _ (Fr.keep (by k_asm)) (fun p hp => nomatch hp)) (congrArg Value.bool (lsX hls (by assumption)))
          · exact hret _ _ _ (hgs _ (Fr.keep (by k_asm)) (fun p hp => nomatch hp)) (congrArg Value.bool (lsY hls (by assumption)))




end Mine
namespace Mine
/-- three ints stand in front -/
theorem three_of {ws : List Value} {ns : List Int} (h : IntsAre ws (List.take 3 ns ++ [3, 1, 2])) : ∃ (a b c : Int) (ta tb tc : Tok) (rest : List Value), ws = .int a ta :: .int b tb :: .int c tc :: rest ∧ rest.length ≤ 3 := by
  have hl := h.length
  have hle : (List.take 3 ns ++ [(3 : Int), 1, 2]).length ≤ 6 := by
    simp only [List.length_append, List.length_take, List.length_cons, List.length_nil]
    omega
  have hge : 3 ≤ (List.take 3 ns ++ [(3 : Int), 1, 2]).length := by
    simp only [List.length_append, List.length_take, List.length_cons, List.length_nil]
    omega
  generalize (List.take 3 ns ++ [(3 : Int), 1, 2]) = ks at *
  cases h with
  | nil => simp at hge
  | cons a ta h =>
    cases h with
    | nil => simp at hge
    | cons b tb h =>
      cases h with
      | nil => simp at hge
      | cons c tc h =>
        refine ⟨a, b, c, ta, tb, tc, _, rfl, ?_⟩
        simp only [List.length_cons] at hl hle
        omega
theorem slice3 {prog : Program} {w : World} {A : Around} {E : Value → Shared → Prop} {h₀ hh : Heap} {L l : Addr} {m : Str → Option Value} {news : List (Addr × Obj)} {p : Pos} {slice : PySem.Expr} {a b c : Value} {rest : List Value} {t : Tok} {tk : Nat} {s : Shared} {Q : Value → Shared → Prop}
    (F : Fr h₀ L hh m) (N : News h₀ L hh news) (hm : (l, W.listOf (a :: b :: c :: rest).toArray 0) ∈ news) (hr : rest.length ≤ 3)
    (h : ∀ D h', Fr h₀ L h' m → News h₀ L h' ((D, W.listOf #[a, b, c] 0) :: news) → (∀ p ∈ news, p.1 < D) → Q (.ref D) { s with heap := h', toks := tk })
    (hs : subscripted slice false (.ref l) (.ref hh.objs.size) = operate [.ref hh.objs.size, .ref l] (getItem (.ref l) (.ref hh.objs.size))) :
    wpAny (model prog w) A (subscriptTail (PySem.Expr.Name (Str.ofString "_") p) slice (.ref l) (.ref hh.objs.size)) Q E { s with heap := hh.push { cls := .type "slice", data := .fields #[.none, .int 3 t, .none] }, toks := tk } := by
  refine kms_slice_lit (s := { s with heap := hh, toks := tk }) (its := (a :: b :: c :: rest).toArray) (zs := [a, b, c]) F N ⟨_, (N _ hm).1, rfl, _, rfl⟩ .none (.int 3 t) ?_ (fun D h' F' N' l1 => h D h' F' N' l1) hs (fun _ => rfl) ?_
  · show kms_pick (a :: b :: c :: rest) none (some 3) = [a, b, c]
    unfold kms_pick kms_lo kms_hi
    simp only [List.length_cons, List.drop_zero]
    rw [if_neg (by decide)]
    have : min (Int.toNat 3) (rest.length + 1 + 1 + 1) - 0 = 3 := by
      show min 3 _ - 0 = 3
      omega
    rw [this]
    rfl
  · rw [sizeLine_eq, List.size_toArray]
    simp only [List.length_cons]
    omega
theorem fmod5 (a : Int) : 0 ≤ a.fmod 5 ∧ a.fmod 5 ≤ 4 := by
  rw [Int.fmod_eq_emod_of_nonneg a (by decide : (0 : Int) ≤ 5)]
  omega
theorem heaps3 {h₀ h : Heap} {L D : Addr} {a b c : Int} {ta tb tc : Tok} {led : List (Addr × Obj)} (N : News h₀ L h ((D, LCg.lst [.int (a.fmod 5) ta, .int (b.fmod 5) tb, .int (c.fmod 5) tc]) :: led)) :
    ∃ (x y z : Int) (tx ty tz : Tok), (0 ≤ x ∧ x ≤ 8) ∧ (0 ≤ y ∧ y ≤ 4) ∧ (0 ≤ x + y ∧ x + y ≤ 8) ∧ (0 ≤ z ∧ z ≤ 4) ∧ News h₀ L h [(D, W.listOf #[.int x tx, .int y ty, .int z tz] 3)] := by
  have h1 := fmod5 a
  have h2 := fmod5 b
  refine ⟨a.fmod 5, b.fmod 5, c.fmod 5, ta, tb, tc, by omega, h2, by omega, fmod5 c, newsSub N fun p hp => ?_⟩
  rw [List.mem_singleton.mp hp]
  exact List.Mem.head _
theorem ovr_one {h₀ h : Heap} {L : Addr} {m : Str → Option Value} {k : Str} {v : Value} (F : Fr h₀ L h m) (e : m k = some v) : ∃ u, Fr h₀ L h (ovr [(k, v)] u) := ⟨m, by
  have := ovr_self (m := m) (ps := [(k, v)]) (fun p hp => by rw [List.mem_singleton.mp hp]; exact e)
  rw [← this]; exact F⟩
end Mine
open Mine
local macro_rules | `(tactic| walk_at "pad 0") => `(tactic| fail "pad")
local macro_rules | `(tactic| walk_at "pad 1") => `(tactic| fail "pad")
local macro_rules | `(tactic| walk_at "pad 2") => `(tactic| fail "pad")
local macro_rules | `(tactic| walk_at "pad 3") => `(tactic| fail "pad")
local macro_rules | `(tactic| walk_at "pad 4") => `(tactic| fail "pad")
local macro_rules | `(tactic| walk_at "pad 5") => `(tactic| fail "pad")
local macro_rules | `(tactic| walk_at "pad 6") => `(tactic| fail "pad")
local macro_rules | `(tactic| walk_at "pad 7") => `(tactic| fail "pad")
local macro_rules | `(tactic| walk_at "pad 8") => `(tactic| fail "pad")
local macro_rules | `(tactic| walk_at "pad 9") => `(tactic| fail "pad")
local macro_rules | `(tactic| walk_at "pad 10") => `(tactic| fail "pad")
local macro_rules | `(tactic| walk_at "pad 11") => `(tactic| fail "pad")
local macro_rules | `(tactic| walk_at "pad 12") => `(tactic| fail "pad")
local macro_rules | `(tactic| walk_at "call ref") => `(tactic| ((with_reducible show wpAny _ _ (call (Value.ref 136) _) _ _ _); (with_reducible rename Fr _ _ _ _ => lF'); (with_reducible rename News _ _ _ _ => lN'); k_dflt (refine' wpAny_call (pair_is _ _ _ _ _ _ _ _ ?hx ?hy ?hP _ _ _ _ _ _ _ _ _ _ _ _ _ _ _ _ ?k1 lF' ?k3 ?k4 ?k5 ?kK ?kd ?ku ?_); (case k1 => k_asm); (case k3 => k_asm); (case k4 => exact News.nil); (case k5 => k_asm); (case kK => first | exact rfl | assumption); (case kd => ktr_room); (case ku => ktr_units); (case hx => assumption); (case hy => assumption); (case hP => assumption); k_whole; intro v9 h9 tk9 st9 post9; subst post9; (have F9 := frStays lF' st9); (have N9 := newsStays lN' st9); clear lF' lN' st9; (try dsimp only); (try k_fold))))
set_option maxRecDepth 100000 in
set_option maxHeartbeats 8000000 in
theorem PySem.Challenge.cw_pe0200_02_holds : PySem.Challenge.rw_pe0200_02.Holds := by
  w_on
  apply hd
  w_strict (k_go0)
  rename Fr _ _ _ _ => F
  rename News _ _ _ _ => N
  (try dsimp only)
  (try k_fold)
  walk1
  k_dflt (refine LCg.Assign_ListComp_U (F₀ := by k_asm) (by rfl) (by with_unfolding_all rfl) (by rfl) (by decide) (by rfl) (by decide) (by rfl) (by rfl) (by rfl) ?_)
  iterate 25 (first | walk1 | (dsimp only; walk1))
  (try dsimp only)
  k_dflt (refine kba_turn (value' := Expr.Name (Str.ofString "_") ⟨0,0,0,0⟩) (fun _ => rfl) ?_)
  rename IntsAre _ _ => hI6
  obtain ⟨a, b, c, ta, tb, tc, rest, rfl, hrest⟩ := three_of hI6
  clear hI6
  k_dflt (refine' slice3 (s := ⟨_, _, _, _, _⟩) ?k1 ?k2 ?k3 hrest ?_ ?k5; (case k1 => k_asm); (case k2 => k_asm); (case k3 => k_mem); (case k5 => with_unfolding_all rfl); k_whole)
  intro D h3 F3 N3 l3
  have N4 := newsSub (n' := [(D, W.listOf #[.int a ta, .int b tb, .int c tc] 0)]) N3 (fun p hp => by rw [List.mem_singleton.mp hp]; exact List.Mem.head _)
  clear N3 l3
  (try dsimp only)
  (try k_fold)
  k_dflt (refine LCg.CompSrc.ledger (its := #[.int a ta, .int b tb, .int c tc]) (k := 0) (by rfl) (by k_asm) (by k_asm) (by k_mem) (by exact Nat.le_of_ble_eq_true rfl) ?_; intro g'; lcg_lit)
  repeat' ((fail_if_success (with_reducible show wpAny _ _ (exec (Stmt.If _ _ _ _) _) _ _ _)); (first | walk1 | (dsimp only; walk1)))
  rename News _ _ _ _ => N5
  rename Fr _ _ _ _ => F5
  obtain ⟨x, y, z, tx, ty, tz, hx, hy, hxy, hz, N6⟩ := heaps3 N5
  obtain ⟨u, F6⟩ := ovr_one (k := Str.ofString "heaps") F5 rfl
  clear F5 N5
  have hp1 := pairOk hx hy
  have hp2 := pairOk hxy hz
  (try dsimp only)
  (try k_fold)
  repeat' ((first | walk1 | (dsimp only; walk1)))
  (k_end; wrow_close)

