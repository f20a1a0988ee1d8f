import PyProof.Rows.All
import Wide.All
import OpenK.AllK
import Wide.FinOn
import PySem.Challenge.RW_pe0200_01
open PySem PySem.W PyProof.Rows
set_option Elab.async false
set_option maxRecDepth 100000
set_option maxHeartbeats 8000000
set_option linter.unusedVariables false
namespace Mine
local macro_rules | `(tactic| walk_at "pad 0") => `(tactic| fail "pad")
open_top hd for PySem.Challenge.rw_pe0200_01
end Mine
namespace Mine
local macro_rules | `(tactic| walk_at "pad 0") => `(tactic| fail "pad")
local macro_rules | `(tactic| walk_at "pad 1") => `(tactic| fail "pad")
noncomputable abbrev Ls : List Str := looseW hd.view_39 [Str.ofString "Whitespace"]
section
variable {prog : Program} {w : World} {A₀ A : Around} {s : Shared} {base h₀ : Heap} {outer : List Env} {L : Addr} {m mg mb : Str → Option Value} {env : Env} {objs news : List (Addr × Obj)} {K : Frag} {p : Program} {loose : List Str} {mean : ExcName → Option Value}
  {R : Result → Shared → Prop} {name qual : Str} {params : Arguments} {body : List Stmt} {scope : Scope} {dV kV doc pm cdv ct oc : Value} {an od : Option Addr} {osl : Array (Option Value)} {f : Addr} {args : Args} {binds : List (Str × Value)}
/-- into a def: the objects named in objs are handed over, all else stays as it is -/
theorem enterS (B : Below A₀ base outer h₀) (F : Fr h₀ L s.heap m) (X₀ : K.In h₀) (N : News h₀ L s.heap objs) (T : Top p loose mean mg mb h₀) (hA : A.frames = some (env :: outer)) (hf : env.frame = some L) (hke : env.scope.kind = .function)
    (ho : K.lookup f = some ⟨oc, od, .func (fnOf name qual params body scope dV kV doc pm an cdv ct), osl⟩) (hcd : codeIn K cdv qual = true) (hroom : A.depth < recursionLimit)
    (hbind : BindsTo s (fnOf name qual params body scope dV kV doc pm an cdv ct) args binds) (hloc : ∀ y ∈ binds, scope.names.lookup y.1 = some .local)
    (h : ∀ g L' h₁ tk, Fr g L' h₁ (fun y => binds.reverse.lookup y) → News g L' h₁ objs → Below A base (env :: outer) g → K.In g → Top p loose mean mg mb g → (∀ p ∈ objs, p.1 < L') →
      (∀ h', g.StaysIn h' → (∀ p ∈ objs, h'.get? p.1 = some p.2) → s.heap.StaysIn h') → (∀ a, g.get? a = none → (∀ p ∈ objs, p.1 ≠ a) → s.heap.get? a = none) →
      wpAny (model prog w) (A.deeper (envOf qual scope L' f cdv)) (execs body (envOf qual scope L' f cdv))
        (fun fl s' => R (.ok (.ret (match fl with | .ret v => v | _ => .none))) s')
        (fun e s' => wpAny (model prog w) (A.deeper (envOf qual scope L' f cdv)) (leaving (envOf qual scope L' f cdv) e) (fun _ s'' => R (.error e) s'') (fun e' s'' => R (.error e') s'') s')
        { s with heap := h₁, toks := tk })
    (hco : scope.isCoroutine = false) (hgen : scope.isGenerator = false) (hk : scope.kind = .function)
    (hcell : ∀ x ∈ scope.names, x.2 ≠ .cell) : codeAny (model prog w) A (.call (.ref f) args) R s := by
  obtain ⟨FG, BG, st, lv⟩ := groundX (R := R) B F N hA hf hke
  have XS := X₀.keeps F.keep
  refine codeAny_call_def (fd := fnOf name qual params body scope dV kV doc pm an cdv ct) (body := body) (binds := binds) hroom (XS _ _ ho) rfl (T.nolimit.keeps F.keep) (codeRec_of XS hcd) rfl hbind hcell hloc (fun h₁ hns hk₁ => ?_) hco hgen hk
  refine h _ s.heap.objs.size h₁ _ ⟨hns, fun b o e => hk₁ b o (of_hideAll _ e), Nat.le_of_eq (hideAll_size _ _)⟩
    (fun p hp => ⟨hk₁ _ _ (N p hp).1, Nat.ne_of_lt (Heap.lt_size (N p hp).1), hideAll_none _ (List.mem_map_of_mem hp)⟩) BG (X₀.keeps st) (T.keeps st) (fun p hp => Heap.lt_size (N p hp).1) ?_ ?_
  · intro h' k ho b o e
    by_cases hb : b ∈ objs.map (·.1)
    · obtain ⟨p, hp, rfl⟩ := List.mem_map.mp hb
      have := (N p hp).1
      rw [e] at this
      cases this
      exact ho p hp
    · exact k b o (hideAll_get _ e hb)
  · intro a ha hn
    cases q : s.heap.get? a with
    | none => rfl
    | some o =>
      have := hideAll_get (objs.map (·.1)) q (fun hb => by
        obtain ⟨p, hp, e⟩ := List.mem_map.mp hb
        exact hn p hp e)
      rw [ha] at this; cases this
end
/-- a call of the def at f, wherever it stands: what stood stands, and what comes back is told by post -/
abbrev Gives (w : World) (mean : ExcName → Option Value) (mg mb : Str → Option Value) (d : Nat) (f : Addr) (objs : List (Addr × Obj)) (vs : List Value) (post : Heap → Heap → Value → Prop) : Prop :=
  ∀ (dp un : Nat) (gd : Option (List Code)) (cn : Str) (cs : Scope) (a : Addr) (ccd : Value) (cl : List (Str × Addr)) (outer : List Env) (A₀ : Around) (base h₀ : Heap) (L : Addr) (m : Str → Option Value) (s : Shared) (R : Result → Shared → Prop),
    Below A₀ base outer h₀ → Fr h₀ L s.heap m → (hd.heap_39 w.params).In h₀ → News h₀ L s.heap objs → Top hd.view_39 Ls mean mg mb h₀ → cs.kind = .function → dp + d < recursionLimit → un + 8 * d < cLine →
    (∀ (v : Value) (h' : Heap) (tk' : Nat), s.heap.StaysIn h' → post s.heap h' v → R (.ok (.ret v)) { s with heap := h', toks := tk' }) →
    codeAny (model PySem.Challenge.rw_pe0200_01.row.prog w) (ktrTop dp un gd cn cs L a ccd cl outer) (.call (.ref f) ⟨vs, []⟩) R s
theorem frStays {h₀ h h' : Heap} {L : Addr} {m : Str → Option Value} (F : Fr h₀ L h m) (k : h.StaysIn h') : Fr h₀ L h' m := by
  obtain ⟨oL, es, ep, hL, r⟩ := F.ns
  exact ⟨⟨oL, es, ep, k _ _ hL, r⟩, fun b o e => k _ _ (F.keep b o e), F.above⟩
theorem newsStays {h₀ h h' : Heap} {L : Addr} {news : List (Addr × Obj)} (N : News h₀ L h news) (k : h.StaysIn h') : News h₀ L h' news := fun p hp => ⟨k _ _ (N p hp).1, (N p hp).2⟩
theorem newsMore {h₀ h h' : Heap} {L a : Addr} {o : Obj} {m : Str → Option Value} {news : List (Addr × Obj)} (F : Fr h₀ L h m) (N : News h₀ L h' news) (ha : h'.get? a = some o) (hn : h.get? a = none) : News h₀ L h' ((a, o) :: news) := by
  intro p hp
  rcases List.mem_cons.mp hp with rfl | hp
  · refine ⟨ha, ?_, ?_⟩
    · rintro rfl
      obtain ⟨oL, _, _, hL, _⟩ := F.ns
      rw [hn] at hL; cases hL
    · cases q : h₀.get? a with
      | none => rfl
      | some o' => rw [F.keep _ _ q] at hn; cases hn
  · exact N p hp
theorem newsApart {h₀ h : Heap} {L a : Addr} {news : List (Addr × Obj)} (N : News h₀ L h news) (hn : h.get? a = none) : ∀ p ∈ news, p.1 ≠ a := fun p hp e => by
  have := (N p hp).1
  rw [e, hn] at this; cases this
end Mine
namespace Mine
local macro_rules | `(tactic| walk_at "pad 0") => `(tactic| fail "pad")
local macro_rules | `(tactic| walk_at "pad 1") => `(tactic| fail "pad")
local macro_rules | `(tactic| walk_at "pad 2") => `(tactic| fail "pad")
/-- names of a frame, laid over the rest -/
def ovr : List (Str × Value) → (Str → Option Value) → Str → Option Value
  | [], u => u
  | (k, v) :: r, u => fun y => if y = k then some v else ovr r u y
theorem ovr_self {m : Str → Option Value} : ∀ {ps : List (Str × Value)}, (∀ p ∈ ps, m p.1 = some p.2) → m = ovr ps m
  | [], _ => rfl
  | (k, v) :: r, h => by
    have hr := ovr_self fun q hq => h q (.tail _ hq)
    have hk : m k = some v := h (k, v) (.head _)
    funext y
    show m y = if y = k then some v else ovr r m y
    split
    · rename_i e; rw [e]; exact hk
    · rw [← hr]
theorem newsSub {h₀ h : Heap} {L : Addr} {n n' : List (Addr × Obj)} (N : News h₀ L h n) (hs : ∀ p ∈ n', p ∈ n) : News h₀ L h n' := fun p hp => N p (hs p hp)
theorem newsDrop2 {h₀ h : Heap} {L : Addr} {a b : Addr × Obj} {n : List (Addr × Obj)} (N : News h₀ L h (a :: b :: n)) : News h₀ L h (a :: n) := newsSub N fun p hp => by
  rcases List.mem_cons.mp hp with rfl | hp
  · exact .head _
  · exact .tail _ (.tail _ hp)
theorem newsDrop1 {h₀ h : Heap} {L : Addr} {a : Addr × Obj} {n : List (Addr × Obj)} (N : News h₀ L h (a :: n)) : News h₀ L h n := newsSub N fun p hp => .tail _ hp
section
variable {prog : Program} {w : World} {A₀ A : Around} {s : Shared} {base h₀ : Heap} {outer : List Env} {L : Addr} {m mg mb : Str → Option Value} {env : Env} {objs news : List (Addr × Obj)} {K : Frag} {p : Program} {loose : List Str} {mean : ExcName → Option Value}
  {R : Result → Shared → Prop} {name qual : Str} {params : Arguments} {body : List Stmt} {scope : Scope} {dV kV doc pm cdv ct oc : Value} {an od : Option Addr} {osl : Array (Option Value)} {f C : Addr} {args : Args} {binds : List (Str × Value)}
/-- into a def that may turn the objects handed over -/
theorem enterW (B : Below A₀ base outer h₀) (F : Fr h₀ L s.heap m) (X₀ : K.In h₀) (N : News h₀ L s.heap objs) (T : Top p loose mean mg mb h₀) (hA : A.frames = some (env :: outer)) (hf : env.frame = some L) (hke : env.scope.kind = .function)
    (ho : K.lookup f = some ⟨oc, od, .func (fnOf name qual params body scope dV kV doc pm an cdv ct), osl⟩) (hcd : codeIn K cdv qual = true) (hroom : A.depth < recursionLimit)
    (hbind : BindsTo s (fnOf name qual params body scope dV kV doc pm an cdv ct) args binds) (hloc : ∀ y ∈ binds, scope.names.lookup y.1 = some .local)
    (h : ∀ g L' h₁ tk, Fr g L' h₁ (fun y => binds.reverse.lookup y) → News g L' h₁ objs → Below A base (env :: outer) g → K.In g → Top p loose mean mg mb g → (∀ p ∈ objs, p.1 < L') →
      (∀ b o, s.heap.get? b = some o → (∀ p ∈ objs, p.1 ≠ b) → g.get? b = some o) →
      wpAny (model prog w) (A.deeper (envOf qual scope L' f cdv)) (execs body (envOf qual scope L' f cdv))
        (fun fl s' => R (.ok (.ret (match fl with | .ret v => v | _ => .none))) s')
        (fun e s' => wpAny (model prog w) (A.deeper (envOf qual scope L' f cdv)) (leaving (envOf qual scope L' f cdv) e) (fun _ s'' => R (.error e) s'') (fun e' s'' => R (.error e') s'') s')
        { s with heap := h₁, toks := tk })
    (hco : scope.isCoroutine = false) (hgen : scope.isGenerator = false) (hk : scope.kind = .function)
    (hcell : ∀ x ∈ scope.names, x.2 ≠ .cell) : codeAny (model prog w) A (.call (.ref f) args) R s := by
  obtain ⟨FG, BG, st, lv⟩ := groundX (R := R) B F N hA hf hke
  have XS := X₀.keeps F.keep
  refine codeAny_call_def (fd := fnOf name qual params body scope dV kV doc pm an cdv ct) (body := body) (binds := binds) hroom (XS _ _ ho) rfl (T.nolimit.keeps F.keep) (codeRec_of XS hcd) rfl hbind hcell hloc (fun h₁ hns hk₁ => ?_) hco hgen hk
  refine h _ s.heap.objs.size h₁ _ ⟨hns, fun b o e => hk₁ b o (of_hideAll _ e), Nat.le_of_eq (hideAll_size _ _)⟩
    (fun p hp => ⟨hk₁ _ _ (N p hp).1, Nat.ne_of_lt (Heap.lt_size (N p hp).1), hideAll_none _ (List.mem_map_of_mem hp)⟩) BG (X₀.keeps st) (T.keeps st) (fun p hp => Heap.lt_size (N p hp).1) ?_
  intro b o e hn
  refine hideAll_get _ e fun hb => ?_
  obtain ⟨p, hp, q⟩ := List.mem_map.mp hb
  exact hn p hp q
/-- an instance is made, and its __init__ called -/
theorem makeS {rest : List Value} {kw : List (Str × Value)} {fI : Addr} (F : Fr h₀ L s.heap m) (X₀ : K.In h₀) (hm : makesIn K C = true)
    (hi : findIn K (.ref C) "__init__" = some (some (.ref fI))) (hf : typeIn K (.ref fI) = some (.type "function"))
    (h : ∀ x dx h', Fr h₀ L h' m → News h₀ L h' [(x, instObj C dx), (dx, dictOf [] 0)] → dx < x → s.heap.StaysIn h' → s.heap.get? x = none → s.heap.get? dx = none →
      codeAny (model prog w) (A.under (.builtin "type.__call__" ⟨.ref C :: rest, kw⟩)) (.call (.ref fI) ⟨.ref x :: rest, kw⟩) (InitBack x R) { s with heap := h' }) :
    codeAny (model prog w) A (.call (.ref C) ⟨rest, kw⟩) R s := by
  have X := X₀.keeps F.keep
  obtain ⟨hh, g, d, t, os⟩ := s
  have q1 : hh.get? hh.objs.size = none := by
    cases q : hh.get? hh.objs.size with
    | none => rfl
    | some o => exact absurd (Heap.lt_size q) (Nat.lt_irrefl _)
  have q2 : hh.get? (hh.objs.size + 1) = none := by
    cases q : hh.get? (hh.objs.size + 1) with
    | none => rfl
    | some o => exact absurd (Nat.lt_of_succ_lt (Heap.lt_size q)) (Nat.lt_irrefl _)
  refine make_core (makes_of X hm) (looks_findIn X hi) (fun self => bind_fn X self hf) (.inl rfl) (h _ hh.objs.size _ ((F.push _).push _) ?_ (Nat.lt_succ_self _) (fun b o e => Heap.get?_push_of_some _ (Heap.get?_push_of_some _ e)) q2 q1)
  have := ((News.nil (h₀ := h₀) (L := L) (h := hh)).push F emptyDict).push (F.push _) (instObj C hh.objs.size)
  rwa [Heap.size_push] at this
end
section
variable {prog : Program} {w : World} {A : Around} {E : Value → Shared → Prop} {s : Shared} {env : Env} {h₀ : Heap} {x : Str} {body : List Stmt} {Q : Flow → Shared → Prop}
/-- a loop over what walks, by what holds between its turns -/
theorem loopAll {I : Addr} {o₀ : Obj} {fp wr : List Addr} {n : Nat} {P : Nat → Value → Prop} {St : Nat → Heap → Prop} {m₀ : Str → Option Value} {news : List (Addr × Obj)} (J : Nat → (Str → Option Value) → List (Addr × Obj) → Prop)
    (W : Walks prog w A I fp wr n P St) (hI : I = s.heap.objs.size) (hfp : ∀ b ∈ fp, b ≠ env.locals) (hwr : wr = [I]) (hIf : I ∈ fp) (hex : ∀ i h, St i h → ∃ o, h.get? I = some o) (hst : St 0 (s.heap.push o₀))
    (F : Fr h₀ env.locals s.heap m₀) (N : News h₀ env.locals s.heap news) (hj : J 0 m₀ news)
    (turn : ∀ (it : Obj) (i : Nat) (v : Value) (m₁ : Str → Option Value) (news₁ : List (Addr × Obj)) (h : Heap) (tk : Nat), i < n → P i v → J i m₁ news₁ → (∀ p ∈ news₁, p.1 ≠ I) →
      Fr h₀ env.locals h (fun y => if y = x then some v else m₁ y) → News h₀ env.locals h ((I, it) :: news₁) →
      wpAny (model prog w) A (execs body env) (fun f s₂ => UnrPost h₀ env.locals { s with heap := h, toks := tk } I it (fun m' n' => J (i + 1) m' n' ∧ ∀ b ∈ fp, b ≠ I → ∀ o, h.get? b = some o → s₂.heap.get? b = some o) Q f s₂) E { s with heap := h, toks := tk })
    (done : ∀ (m₁ : Str → Option Value) (news₁ : List (Addr × Obj)) (h : Heap) (tk : Nat), J n m₁ news₁ → Fr h₀ env.locals h m₁ → News h₀ env.locals h news₁ → Q .next { s with heap := h, toks := tk }) :
    LoopAtV prog w A h₀ env x body Q E (.ref I) { s with heap := s.heap.push o₀ } := by
  have hnew : h₀.get? I = none := hI ▸ next_is_new F
  subst hwr
  refine ⟨_, _, _, n, _, _, m₀, news, J, rfl, W, (fun hm => hfp _ hm rfl), ?_, ?_, hst, F.push _, (fun p hp => ⟨Heap.get?_push_of_some _ (N p hp).1, (N p hp).2⟩), hj, ?_, ?_⟩
  · intro b hb
    rw [List.mem_singleton.mp hb]
    exact hnew
  · intro p hp hm
    exact absurd (Heap.lt_size (N p hp).1) (by rw [List.mem_singleton.mp hm, hI]; exact Nat.lt_irrefl _)
  · rintro i v m₁ news₁ s₁ own ⟨h1, tk1, rfl⟩ hi hP hJ hoff hown hget hall hst1 F₁ N₁
    obtain ⟨it, hit⟩ := hex _ _ hst1
    have hmem := hall I hIf hnew it hit
    have off : ∀ p ∈ news₁, p.1 ≠ I := fun p hp e => hoff p hp (by rw [e]; exact List.mem_singleton.mpr rfl)
    refine wpAny_mono (turn it i v m₁ news₁ h1 tk1 hi hP hJ off F₁ (fun p hp => ?_)) (fun f s₂ q => ?_) fun _ _ e => e
    · rcases List.mem_cons.mp hp with rfl | hp
      · exact N₁ _ (List.mem_append_left _ hmem)
      · exact N₁ _ (List.mem_append_right _ hp)
    · have fin : UnrEnd h₀ env.locals { s with heap := h1, toks := tk1 } I it (fun m' n' => J (i + 1) m' n' ∧ ∀ b ∈ fp, b ≠ I → ∀ o, h1.get? b = some o → s₂.heap.get? b = some o) s₂ →
          LoopStepU h₀ env.locals [I] own (J (i + 1)) { s with heap := h1, toks := tk1 } .next s₂ := by
        rintro ⟨h', tk, m', news', e, F', N', off', hJ', hk'⟩
        refine ⟨rfl, h', tk, m', news', e, F', fun p hp => ?_, fun p hp hm => off' p hp (List.mem_singleton.mp hm), hJ'⟩
        rcases List.mem_append.mp hp with hp | hp
        · have hs := hget p hp
          by_cases hpI : p.1 = I
          · rw [hpI, hit] at hs
            have e1 : p = (I, it) := by
              cases p; cases hpI; cases hs; rfl
            rw [e1]
            exact N' _ (List.Mem.head _)
          · have q := hk' p.1 (hown p hp) hpI _ hs
            rw [e] at q
            exact ⟨q, (N₁ p (List.mem_append_left _ hp)).2⟩
        · exact N' p (List.Mem.tail _ hp)
      cases f with
      | ret v => exact q
      | brk => exact q
      | next => exact fin q
      | cont => exact fin q
  · rintro h' tk m' news' F' N' _ hJ
    exact done m' news' h' tk hJ F' N'
/-- a loop over a text's signs -/
theorem loopText {xt : Str} {tx : Tok} {m₀ : Str → Option Value} {news : List (Addr × Obj)} (J : Nat → (Str → Option Value) → List (Addr × Obj) → Prop)
    (hh : A.handled = none) (F : Fr h₀ env.locals s.heap m₀) (N : News h₀ env.locals s.heap news) (hj : J 0 m₀ news)
    (turn : ∀ (I : Addr) (it : Obj) (i c : Nat) (t : Tok) (m₁ : Str → Option Value) (news₁ : List (Addr × Obj)) (h : Heap) (tk : Nat), xt.cps[i]? = some c → J i m₁ news₁ → (∀ p ∈ news₁, p.1 ≠ I) →
      Fr h₀ env.locals h (fun y => if y = x then some (.str ⟨#[c]⟩ t) else m₁ y) → News h₀ env.locals h ((I, it) :: news₁) →
      wpAny (model prog w) A (execs body env) (UnrPost h₀ env.locals { s with heap := h, toks := tk } I it (J (i + 1)) Q) E { s with heap := h, toks := tk })
    (done : ∀ (m₁ : Str → Option Value) (news₁ : List (Addr × Obj)) (h : Heap) (tk : Nat), J xt.cps.size m₁ news₁ → Fr h₀ env.locals h m₁ → News h₀ env.locals h news₁ → Q .next { s with heap := h, toks := tk }) :
    wpAny (model prog w) A (pyIter (.str xt tx)) (fun it s₂ => LoopAtV prog w A h₀ env x body Q E it s₂) E s := by
  have hL : ∀ b ∈ [s.heap.objs.size], b ≠ env.locals := fun b hb e => absurd F.ns.lt (by rw [← e, List.mem_singleton.mp hb]; exact Nat.lt_irrefl _)
  have tn : ∀ (it : Obj) (i : Nat) (v : Value) (m₁ : Str → Option Value) (news₁ : List (Addr × Obj)) (h : Heap) (tk : Nat), i < xt.cps.size → SignAt xt i v → J i m₁ news₁ → (∀ p ∈ news₁, p.1 ≠ s.heap.objs.size) →
      Fr h₀ env.locals h (fun y => if y = x then some v else m₁ y) → News h₀ env.locals h ((s.heap.objs.size, it) :: news₁) →
      wpAny (model prog w) A (execs body env) (fun f s₂ => UnrPost h₀ env.locals { s with heap := h, toks := tk } s.heap.objs.size it (fun m' n' => J (i + 1) m' n' ∧ ∀ b ∈ [s.heap.objs.size], b ≠ s.heap.objs.size → ∀ o, h.get? b = some o → s₂.heap.get? b = some o) Q f s₂) E { s with heap := h, toks := tk } := by
    rintro it i v m₁ news₁ h tk _ ⟨c, u, hc, rfl⟩ hJ off F₁ N₁
    refine wpAny_mono (turn _ it i c u m₁ news₁ h tk hc hJ off F₁ N₁) (fun f s₂ q => ?_) fun _ _ e => e
    have fin : UnrEnd h₀ env.locals { s with heap := h, toks := tk } s.heap.objs.size it (J (i + 1)) s₂ → UnrEnd h₀ env.locals { s with heap := h, toks := tk } s.heap.objs.size it (fun m' n' => J (i + 1) m' n' ∧ ∀ b ∈ [s.heap.objs.size], b ≠ s.heap.objs.size → ∀ o, h.get? b = some o → s₂.heap.get? b = some o) s₂ := by
      rintro ⟨h', tk, m', news', e, F', N', off', hJ'⟩
      exact ⟨h', tk, m', news', e, F', N', off', hJ', fun b hb hn => absurd (List.mem_singleton.mp hb) hn⟩
    cases f with
    | ret v => exact q
    | brk => exact q
    | next => exact fin q
    | cont => exact fin q
  cases ha : xt.cps.all (· < 128)
  · exact wpAny_pyIter_wide ha (loopAll J (Walks.strWide hh _ xt tx) rfl hL rfl (List.mem_singleton.mpr rfl) (fun i h st => let ⟨o, ho, _⟩ := st; ⟨o, ho⟩) ⟨_, Heap.get?_push_size _ rfl, rfl, rfl⟩ F N hj tn done)
  · exact wpAny_pyIter_ascii ha (loopAll J (Walks.strAscii hh _ xt tx) rfl hL rfl (List.mem_singleton.mpr rfl) (fun i h st => let ⟨o, ho, _⟩ := st; ⟨o, ho⟩) ⟨_, Heap.get?_push_size _ rfl, rfl, rfl⟩ F N hj tn done)
/-- a loop over a range by ones -/
theorem loopRange {r : Addr} {a₀ b₀ : Int} {t₀ u₀ v₀ : Tok} {n : Nat} {m₀ : Str → Option Value} {news : List (Addr × Obj)} (J : Nat → (Str → Option Value) → List (Addr × Obj) → Prop)
    (hh : A.handled = none) (hr : IsRange s.heap r a₀ b₀ 1 t₀ u₀ v₀) (hsmall : Builtin.Range.small a₀ b₀ 1 = true) (hn : Builtin.Range.rangeSize a₀ b₀ 1 = (n : Int)) (F : Fr h₀ env.locals s.heap m₀) (N : News h₀ env.locals s.heap news) (hj : J 0 m₀ news)
    (turn : ∀ (I : Addr) (it : Obj) (i : Nat) (t : Tok) (m₁ : Str → Option Value) (news₁ : List (Addr × Obj)) (h : Heap) (tk : Nat), i < n → J i m₁ news₁ → (∀ p ∈ news₁, p.1 ≠ I) →
      Fr h₀ env.locals h (fun y => if y = x then some (.int (a₀ + (i : Int)) t) else m₁ y) → News h₀ env.locals h ((I, it) :: news₁) →
      wpAny (model prog w) A (execs body env) (UnrPost h₀ env.locals { s with heap := h, toks := tk } I it (J (i + 1)) Q) E { s with heap := h, toks := tk })
    (done : ∀ (m₁ : Str → Option Value) (news₁ : List (Addr × Obj)) (h : Heap) (tk : Nat), J n m₁ news₁ → Fr h₀ env.locals h m₁ → News h₀ env.locals h news₁ → Q .next { s with heap := h, toks := tk }) :
    wpAny (model prog w) A (pyIter (.ref r)) (fun it s₂ => LoopAtV prog w A h₀ env x body Q E it s₂) E s := by
  have hL : ∀ b ∈ [s.heap.objs.size], b ≠ env.locals := fun b hb e => absurd F.ns.lt (by rw [← e, List.mem_singleton.mp hb]; exact Nat.lt_irrefl _)
  refine wpAny_pyIter_range hr hsmall ?_
  have W : Walks prog w A s.heap.objs.size [s.heap.objs.size] [s.heap.objs.size] n (fun i v => i < n ∧ ∃ t, v = .int (a₀ + i * 1) t)
      (fun i h => IsRangeIter h s.heap.objs.size (a₀ + (i : Nat) * 1) ((n : Int) - (i : Nat)) 1) := (Walks.range hh _ a₀ 1 n).bound
  refine loopAll J W rfl hL rfl (List.mem_singleton.mpr rfl) (fun i h st => ⟨_, st⟩) (by show IsRangeIter _ _ _ _ _; rw [hn]; simpa using Heap.get?_push_size _ rfl) F N hj ?_ done
  rintro it i v m₁ news₁ h tk hi ⟨_, t, rfl⟩ hJ off F₁ N₁
  rw [Int.mul_one] at F₁
  refine wpAny_mono (turn _ it i t m₁ news₁ h tk hi hJ off F₁ N₁) (fun f s₂ q => ?_) fun _ _ e => e
  have fin : UnrEnd h₀ env.locals { s with heap := h, toks := tk } s.heap.objs.size it (J (i + 1)) s₂ → UnrEnd h₀ env.locals { s with heap := h, toks := tk } s.heap.objs.size it (fun m' n' => J (i + 1) m' n' ∧ ∀ b ∈ [s.heap.objs.size], b ≠ s.heap.objs.size → ∀ o, h.get? b = some o → s₂.heap.get? b = some o) s₂ := by
    rintro ⟨h', tk, m', news', e, F', N', off', hJ'⟩
    exact ⟨h', tk, m', news', e, F', N', off', hJ', fun b hb hn => absurd (List.mem_singleton.mp hb) hn⟩
  cases f with
  | ret v => exact q
  | brk => exact q
  | next => exact fin q
  | cont => exact fin q
/-- a loop over a list of the ledger, which the turns leave as it is -/
theorem loopList {l : Addr} {lo : Obj} {vs : List Value} {k : Nat} {m₀ : Str → Option Value} {news : List (Addr × Obj)} (J : Nat → (Str → Option Value) → List (Addr × Obj) → Prop)
    (hh : A.handled = none) (F : Fr h₀ env.locals s.heap m₀) (N : News h₀ env.locals s.heap news) (hc : lo.cls = .type "list") (hd : lo.data = .seq vs.toArray k) (hin : ∀ i m n, J i m n → (l, lo) ∈ n) (hj : J 0 m₀ news)
    (turn : ∀ (I : Addr) (it : Obj) (i : Nat) (v : Value) (m₁ : Str → Option Value) (news₁ : List (Addr × Obj)) (h : Heap) (tk : Nat), vs[i]? = some v → J i m₁ news₁ → (∀ p ∈ news₁, p.1 ≠ I) →
      Fr h₀ env.locals h (fun y => if y = x then some v else m₁ y) → News h₀ env.locals h ((I, it) :: news₁) →
      wpAny (model prog w) A (execs body env) (UnrPost h₀ env.locals { s with heap := h, toks := tk } I it (J (i + 1)) Q) E { s with heap := h, toks := tk })
    (done : ∀ (m₁ : Str → Option Value) (news₁ : List (Addr × Obj)) (h : Heap) (tk : Nat), J vs.length m₁ news₁ → Fr h₀ env.locals h m₁ → News h₀ env.locals h news₁ → Q .next { s with heap := h, toks := tk }) :
    wpAny (model prog w) A (pyIter (.ref l)) (fun it s₂ => LoopAtV prog w A h₀ env x body Q E it s₂) E s := by
  have hm := N _ (hin _ _ _ hj)
  have hl : s.heap.IsList l vs.toArray := ⟨lo, hm.1, hc, k, hd⟩
  have hne : l ≠ s.heap.objs.size := Nat.ne_of_lt (Heap.lt_size hm.1)
  have hL : ∀ b ∈ [s.heap.objs.size, l], b ≠ env.locals := fun b hb e => by
    rcases List.mem_cons.mp hb with hb | hb
    · exact absurd F.ns.lt (by rw [← e, hb]; exact Nat.lt_irrefl _)
    · exact hm.2.1 ((List.mem_singleton.mp hb).symm.trans e)
  refine wpAny_pyIter_list hl ?_
  have W := Walks.list (prog := prog) (w := w) hh s.heap.objs.size l hne vs.toArray
  have hlen : vs.toArray.size = vs.length := by simp
  rw [hlen] at W
  refine loopAll J W rfl hL rfl (List.Mem.head _) (fun i h st => let ⟨o, ho, _⟩ := st.1; ⟨o, ho⟩) ⟨⟨_, Heap.get?_push_size _ rfl, rfl, rfl⟩, hl.at fun o e => Heap.get?_push_of_some _ e⟩ F N hj ?_ done
  rintro it i v m₁ news₁ h tk hi hP hJ off F₁ N₁
  refine wpAny_mono (turn _ it i v m₁ news₁ h tk (by simpa using hP) hJ off F₁ N₁) (fun f s₂ q => ?_) fun _ _ e => e
  have hlo : h.get? l = some lo := (N₁ _ (List.Mem.tail _ (hin _ _ _ hJ))).1
  have fin : UnrEnd h₀ env.locals { s with heap := h, toks := tk } s.heap.objs.size it (J (i + 1)) s₂ → UnrEnd h₀ env.locals { s with heap := h, toks := tk } s.heap.objs.size it (fun m' n' => J (i + 1) m' n' ∧ ∀ b ∈ [s.heap.objs.size, l], b ≠ s.heap.objs.size → ∀ o, h.get? b = some o → s₂.heap.get? b = some o) s₂ := by
    rintro ⟨h', tk, m', news', e, F', N', off', hJ'⟩
    refine ⟨h', tk, m', news', e, F', N', off', hJ', fun b hb hn o ho => ?_⟩
    rcases List.mem_cons.mp hb with hb | hb
    · exact absurd hb hn
    · rw [List.mem_singleton.mp hb] at ho ⊢
      rw [hlo] at ho
      cases ho
      rw [e]
      exact (N' _ (List.Mem.tail _ (hin _ _ _ hJ'))).1
  cases f with
  | ret v => exact q
  | brk => exact q
  | next => exact fin q
  | cont => exact fin q
end
def AllNe (d : Nat) : List (Addr × Obj) → Prop
  | [] => True
  | p :: r => @Ne Nat p.1 d ∧ AllNe d r
theorem allNe_of {d : Addr} : ∀ {l : List (Addr × Obj)}, (∀ p ∈ l, p.1 ≠ d) → AllNe d l
  | [], _ => trivial
  | p :: _, h => ⟨h p (.head _), allNe_of fun q hq => h q (.tail _ hq)⟩
theorem of_allNe {d : Addr} (l : List (Addr × Obj)) (h : AllNe d l) : ∀ p ∈ l, p.1 ≠ d := by
  induction l with
  | nil => intro p hp; exact nomatch hp
  | cons q r ih =>
    intro p hp
    rcases List.mem_cons.mp hp with e | hp
    · rw [e]; exact h.1
    · exact ih h.2 p hp
section
variable {prog : Program} {w : World} {A : Around} {E : Value → Shared → Prop} {s : Shared} {h₀ : Heap} {L l : Addr} {m : Str → Option Value} {news : List (Addr × Obj)}
/-- tuple(a list of the ledger) -/
theorem tupleS {vs : List Value} {k : Nat} {Q : Value → Shared → Prop} (F : Fr h₀ L s.heap m) (N : News h₀ L s.heap news) (hm : (l, W.listOf vs.toArray k) ∈ news) (hsz : vs.length ≤ 1000)
    (h : ∀ D h', Fr h₀ L h' m → News h₀ L h' ((D, { cls := .type "tuple", data := .seq vs.toArray }) :: news) → (∀ p ∈ news, p.1 < D) → Q (.ref D) { s with heap := h' }) :
    wpAny (model prog w) A (call (.type "tuple") [.ref l]) Q E s := by
  have hl : s.heap.IsList l vs.toArray := ⟨_, (N _ hm).1, rfl, k, rfl⟩
  have hs : vs.toArray.size ≤ sizeLine := by
    rw [sizeLine_eq, List.size_toArray]
    exact Nat.le_trans hsz (by decide)
  refine call_tuple_list hl (fun h' st => ?_) hs
  have F' := frStays F st
  have N' := newsStays N st
  have N2 := News.push F' N' ({ cls := .type "tuple", data := .seq vs.toArray } : Obj) rfl
  exact h _ _ (F'.push _) N2 fun p hp => Heap.lt_size (N' p hp).1
/-- len of a tuple of ints of the ledger -/
theorem lenTupS {vs : List Value} {ns : List Int} {Q : Value → Shared → Prop} (N : News h₀ L s.heap news) (hm : (l, ({ cls := .type "tuple", data := .seq vs.toArray } : Obj)) ∈ news) (hi : IntsAre vs ns) (hfit : (ns.length : Int) < 2 ^ 63)
    (h : Q (.int (ns.length : Int) (s.toks + 1)) { s with toks := s.toks + 1 + 1 }) : wpAny (model prog w) A (call (.builtin "len") [.ref l]) Q E s := by
  have e : vs.toArray.size = ns.length := by rw [List.size_toArray, hi.length]
  exact len_tuple (News.isTup N hm) (by rw [e]; exact hfit) (by rw [e]; exact h)
/-- an item of a tuple of ints of the ledger -/
theorem itemTupS {value slice : PySem.Expr} {vs : List Value} {ns : List Int} {k : Int} {u : Tok} {Q : Value → Shared → Prop} (N : News h₀ L s.heap news) (hm : (l, ({ cls := .type "tuple", data := .seq vs.toArray } : Obj)) ∈ news) (hi : IntsAre vs ns) (h0 : 0 ≤ k) (h1 : k < (ns.length : Int)) (hfit : (ns.length : Int) < 2 ^ 63)
    (h : ∀ t, Q (.int (ns.getD k.toNat 0) t) s)
    (hs : subscripted slice false (.ref l) (.int k u) = operate [.ref l, .int k u] (getItem (.ref l) (.int k u)) := by with_unfolding_all rfl) :
    wpAny (model prog w) A (subscriptTail value slice (.ref l) (.int k u)) Q E s := by
  have hk : k.toNat < ns.length := by omega
  obtain ⟨t, ht⟩ := hi.get k.toNat ns[k.toNat] (by simp [hk])
  have e : ns.getD k.toNat 0 = ns[k.toNat] := by simp [List.getD, hk]
  have hj : seqIndex? k vs.length = some k.toNat := by
    rw [hi.length]
    simp [seqIndex?, show ¬ k < 0 by omega, h0, h1]
  exact item_tupleT (News.isTup N hm) (by omega) (by omega) hj ht (e ▸ h t) hs
end
theorem rangeS (a b : Int) : Builtin.Range.rangeSize a b 1 = ((b - a).toNat : Int) := by
  unfold Builtin.Range.rangeSize
  rw [if_pos (by decide)]
  split
  · rw [Int.ediv_one]; omega
  · omega
theorem smallS {a b : Int} (h1 : -1000000 ≤ a ∧ a ≤ 1000000) (h2 : -1000000 ≤ b ∧ b ≤ 1000000) : Builtin.Range.small a b 1 = true := small_one (by omega) (by omega) (by omega) (by omega)
theorem newsApp {h₀ h h' : Heap} {L : Addr} {m : Str → Option Value} {objs news : List (Addr × Obj)} (F : Fr h₀ L h m) (N : News h₀ L h' news) (hp : ∀ p ∈ objs, h'.get? p.1 = some p.2 ∧ h.get? p.1 = none) : News h₀ L h' (objs ++ news) := by
  intro p hm
  rcases List.mem_append.mp hm with q | q
  · exact newsMore F N (hp p q).1 (hp p q).2 p (List.Mem.head _)
  · exact N p q
/-- a call by its contract's code -/
theorem callG {M : Model} {A : Around} {E : Value → Shared → Prop} {s : Shared} {f : Addr} {vs : List Value} {Q : Value → Shared → Prop} (h : codeAny M A (.call (.ref f) ⟨vs, []⟩) (fun r s' => match r with | .ok (.ret v) => Q v s' | .ok _ => False | .error e => E e s') s) : wpAny M A (call (.ref f) vs) Q E s := wpAny_call h
theorem unrEndT {h₀ h' : Heap} {L I : Addr} {it : Obj} {rest : (Str → Option Value) → List (Addr × Obj) → Prop} {s₁ : Shared} {tk : Nat} {m' : Str → Option Value} {news : List (Addr × Obj)} (F : Fr h₀ L h' m') (N : News h₀ L h' ((I, it) :: news)) (off : ∀ p ∈ news, p.1 ≠ I) (r : rest m' news) :
    UnrEnd h₀ L s₁ I it rest { s₁ with heap := h', toks := tk } := UnrEnd.intro F N news (fun _ hp => hp) off r
end Mine
namespace Mine
local macro_rules | `(tactic| walk_at "pad 0") => `(tactic| fail "pad")
local macro_rules | `(tactic| walk_at "pad 1") => `(tactic| fail "pad")
local macro_rules | `(tactic| walk_at "pad 2") => `(tactic| fail "pad")
local macro_rules | `(tactic| walk_at "pad 3") => `(tactic| fail "pad")
local macro_rules | `(tactic| k_room) => `(tactic| ktr_room)
set_option linter.unusedVariables false
def kOne : UInt64 := 4607182418800017408
def kSix : UInt64 := 4618441417868443648
def hI (x : UInt64) : Int := Flt.toInt Float64.truncOf (Float64.mul x 4618441417868443648)
def hF (x : UInt64) : UInt64 := Float64.sub (Float64.mul x 4618441417868443648) (Float64.ofInt (hI x))
def hP : UInt64 := Float64.mul 4607182418800017408 (Float64.sub 4607182418800017408 4607182418800017408)
def hQ (x : UInt64) : UInt64 := Float64.mul 4607182418800017408 (Float64.sub 4607182418800017408 (Float64.mul 4607182418800017408 (hF x)))
def hT (x : UInt64) : UInt64 := Float64.mul 4607182418800017408 (Float64.sub 4607182418800017408 (Float64.mul 4607182418800017408 (Float64.sub 4607182418800017408 (hF x))))
def hRed (x : UInt64) : UInt64 := let i := (hI x).fmod 6; if i = 0 then 4607182418800017408 else if i = 1 then hQ x else if i = 2 then hP else if i = 3 then hP else if i = 4 then hT x else 4607182418800017408
def hGreen (x : UInt64) : UInt64 := let i := (hI x).fmod 6; if i = 0 then hT x else if i = 1 then 4607182418800017408 else if i = 2 then 4607182418800017408 else if i = 3 then hQ x else if i = 4 then hP else hP
def hBlue (x : UInt64) : UInt64 := let i := (hI x).fmod 6; if i = 0 then hP else if i = 1 then hP else if i = 2 then hT x else if i = 3 then 4607182418800017408 else if i = 4 then 4607182418800017408 else hQ x
def tup3 (a b c : Value) : Obj := { cls := .type "tuple", data := .seq #[a, b, c] }
/-- what hsv_to_rgb wants of a full colour's hue, to raise nothing -/
def Hue (x : UInt64) : Prop := Float64.isNaN (Float64.mul x 4618441417868443648) = false ∧ Float64.isInf (Float64.mul x 4618441417868443648) = false ∧ (hI x).natAbs ≤ 1000
theorem hue_big {n : Nat} (h : n ≤ 1000) (q : 2 ^ 1024 - 2 ^ 970 ≤ n) : False := by
  have : ¬ (2 ^ 1024 - 2 ^ 970 ≤ 1000) := by decide +kernel
  exact this (Nat.le_trans q h)
theorem tup3_post {x : UInt64} {h h' : Heap} {D : Addr} {a b c : UInt64} {ta tb tc : Tok} (q : h'.get? D = some (tup3 (.float a ta) (.float b tb) (.float c tc))) (hn : h.get? D = none) (e : a = hRed x ∧ b = hGreen x ∧ c = hBlue x) :
    ∃ D' t1 t2 t3, Value.ref D = .ref D' ∧ h.get? D' = none ∧ h'.get? D' = some (tup3 (.float (hRed x) t1) (.float (hGreen x) t2) (.float (hBlue x) t3)) := by
  obtain ⟨ea, eb, ec⟩ := e
  subst ea eb ec
  exact ⟨D, ta, tb, tc, rfl, hn, q⟩
theorem rgb0 {x : UInt64} (q : (hI x).fmod 6 = 0) : 4607182418800017408 = hRed x ∧ hT x = hGreen x ∧ hP = hBlue x := by simp [hRed, hGreen, hBlue, q]
theorem rgb1 {x : UInt64} (q : (hI x).fmod 6 = 1) : hQ x = hRed x ∧ 4607182418800017408 = hGreen x ∧ hP = hBlue x := by simp [hRed, hGreen, hBlue, q]
theorem rgb2 {x : UInt64} (q : (hI x).fmod 6 = 2) : hP = hRed x ∧ 4607182418800017408 = hGreen x ∧ hT x = hBlue x := by simp [hRed, hGreen, hBlue, q]
theorem rgb3 {x : UInt64} (q : (hI x).fmod 6 = 3) : hP = hRed x ∧ hQ x = hGreen x ∧ 4607182418800017408 = hBlue x := by simp [hRed, hGreen, hBlue, q]
theorem rgb4 {x : UInt64} (q : (hI x).fmod 6 = 4) : hT x = hRed x ∧ hP = hGreen x ∧ 4607182418800017408 = hBlue x := by simp [hRed, hGreen, hBlue, q]
theorem rgb5 {x : UInt64} (q : (hI x).fmod 6 = 5) : 4607182418800017408 = hRed x ∧ hP = hGreen x ∧ hQ x = hBlue x := by simp [hRed, hGreen, hBlue, q]
theorem rgbNo {i : Int} (h0 : i.fmod 6 ≠ 0) (h1 : i.fmod 6 ≠ 1) (h2 : i.fmod 6 ≠ 2) (h3 : i.fmod 6 ≠ 3) (h4 : i.fmod 6 ≠ 4) (h5 : i.fmod 6 ≠ 5) : False := by
  have := Int.fmod_nonneg_of_pos i (show (0:Int) < 6 by decide)
  have := Int.fmod_lt_of_pos i (show (0:Int) < 6 by decide)
  omega

theorem hsv_is (w : World) (mean : ExcName → Option Value) (mg mb : Str → Option Value) (x : UInt64) (t u z : Tok) (hx : Hue x) : Gives w mean mg mb 1 28 [] [.float x t, .float 4607182418800017408 u, .float 4607182418800017408 z] (fun h h' v => ∃ D t1 t2 t3, v = .ref D ∧ h.get? D = none ∧ h'.get? D = some (tup3 (.float (hRed x) t1) (.float (hGreen x) t2) (.float (hBlue x) t3))) := by
  w_on
  unfold Gives
  k_fill
  intro dp un gd cn cs a ccd cl outer A₀ base h₀ L m s R B F X N T hk hdp hun hret
  k_dflt (refine' enterS (binds := [(Str.ofString "h", .float x t), (Str.ofString "s", .float 4607182418800017408 u), (Str.ofString "v", .float 4607182418800017408 z)]) B F X N T ?kA ?kF ?kK ?k6 ?k7 ?k8 ?k9 ?kB ?_ ?c2 ?c3 ?c4 ?c5; (case kA => exact rfl); (case kF => exact rfl); (case kK => exact hk); (case k6 => k_is); (case k7 => k_is); (case k8 => ktr_room); (case k9 => exact BindsTo.of_eq rfl); (case c5 => decide); (case kB => exact locs rfl); (case c2 => exact rfl); (case c3 => exact rfl); (case c4 => exact rfl); k_whole)
  intro g L' h₁ tk₁ F' N' B' X' T' lt' hgs hnew
  clear B F X N T
  (try dsimp only)
  (try k_fold)
  k_steps
  all_goals first
    | (exfalso; rename (Float64.cmp _ _ == some Ordering.eq) = true => q; exact absurd q (by decide +kernel))
    | (exfalso; rename Float64.isNaN _ = true => q; exact absurd (q.symm.trans hx.1) (by decide))
    | (exfalso; rename Float64.isInf _ = true => q; exact absurd (q.symm.trans hx.2.1) (by decide))
    | (exfalso; rename 2 ^ 1024 - 2 ^ 970 ≤ _ => q; exact hue_big hx.2.2 q)
    | (exfalso; exact rgbNo (by assumption) (by assumption) (by assumption) (by assumption) (by assumption) (by assumption))
    | (show R (.ok (.ret (.ref _))) _
       (rename News _ _ _ _ => NN)
       (rename Int.fmod _ _ = _ => q)
       refine hret _ _ _ (hgs _ (Fr.keep (by k_asm)) (fun p hp => nomatch hp)) (tup3_post (NN _ (List.Mem.head _)).1 (hnew _ (NN _ (List.Mem.head _)).2.2 (fun p hp => nomatch hp)) ?_)
       first | exact rgb0 q | exact rgb1 q | exact rgb2 q | exact rgb3 q | exact rgb4 q | exact rgb5 q)

end Mine
namespace Mine
local macro_rules | `(tactic| walk_at "pad 0") => `(tactic| fail "pad")
local macro_rules | `(tactic| walk_at "pad 1") => `(tactic| fail "pad")
local macro_rules | `(tactic| walk_at "pad 2") => `(tactic| fail "pad")
local macro_rules | `(tactic| k_room) => `(tactic| ktr_room)
set_option linter.unusedVariables false
local macro_rules | `(tactic| walk_at "call ref") => `(tactic| (
  (with_reducible show wpAny _ _ (call (Value.ref 28) _) _ _ _)
  (with_reducible rename Fr _ _ _ _ => lF')
  (with_reducible rename News _ _ _ _ => lN')
  k_dflt (refine' wpAny_call (hsv_is _ _ _ _ _ _ _ _ ?hx _ _ _ _ _ _ _ _ _ _ _ _ _ _ _ _ ?k1 lF' ?k3 ?k4 ?k5 ?kK ?kd ?ku ?_); (case k1 => k_asm); (case k3 => k_asm); (case k4 => exact News.nil); (case k5 => k_asm); (case kK => first | exact rfl | assumption); (case kd => ktr_room); (case ku => ktr_units); (case hx => tb_start); k_whole)
  intro v9 h9 tk9 st9 post9
  obtain ⟨D9, ta9, tb9, tc9, e9, n9, g9⟩ := post9
  subst e9
  have F9 := frStays lF' st9
  have N9 := newsMore lF' (newsStays lN' st9) g9 n9
  have ap9 := allNe_of (newsApart lN' n9)
  clear lF' lN' st9 n9 g9
  (try simp only [AllNe, and_true] at ap9)
  (try dsimp only)
  (try dsimp only [tup3] at N9)
  (try k_fold)))

def hueOf (p q : Int) : UInt64 := Float64.ofFrac (decide (p < 0) != decide (q < 0)) p.natAbs q.natAbs
def sgI (c : UInt64) : Int := Flt.toInt Float64.truncOf (Float64.mul 4616189618054758400 c)
def sgC (p q : Int) : Int := 65 + 25 * sgI (hRed (hueOf p q)) + 5 * sgI (hGreen (hueOf p q)) + sgI (hBlue (hueOf p q))
def quiet (c : UInt64) : Bool := Float64.isNaN (Float64.mul 4616189618054758400 c) == false && Float64.isInf (Float64.mul 4616189618054758400 c) == false
def signB (p q : Int) : Bool :=
  Float64.isInf (hueOf p q) == false && (Float64.isNaN (Float64.mul (hueOf p q) 4618441417868443648) == false && Float64.isInf (Float64.mul (hueOf p q) 4618441417868443648) == false && decide ((hI (hueOf p q)).natAbs ≤ 1000)) &&
  (quiet (hRed (hueOf p q)) && quiet (hGreen (hueOf p q)) && quiet (hBlue (hueOf p q))) && ((decide (sgC p q < 0) || decide (sgC p q > 0x10FFFF)) == false)
structure SignOk (p q : Int) : Prop where
  inf : Float64.isInf (hueOf p q) = false
  hue : Hue (hueOf p q)
  r1 : Float64.isNaN (Float64.mul 4616189618054758400 (hRed (hueOf p q))) = false
  r2 : Float64.isInf (Float64.mul 4616189618054758400 (hRed (hueOf p q))) = false
  g1 : Float64.isNaN (Float64.mul 4616189618054758400 (hGreen (hueOf p q))) = false
  g2 : Float64.isInf (Float64.mul 4616189618054758400 (hGreen (hueOf p q))) = false
  b1 : Float64.isNaN (Float64.mul 4616189618054758400 (hBlue (hueOf p q))) = false
  b2 : Float64.isInf (Float64.mul 4616189618054758400 (hBlue (hueOf p q))) = false
  c : (decide (sgC p q < 0) || decide (sgC p q > 0x10FFFF)) = false
theorem signOk_of {p q : Int} (h : signB p q = true) : SignOk p q := by
  simp only [signB, quiet, Bool.and_eq_true, beq_iff_eq, decide_eq_true_eq] at h
  obtain ⟨⟨⟨h1, ⟨h2, h3⟩, h4⟩, ⟨⟨h5, h6⟩, h7, h8⟩, h9, h10⟩, h11⟩ := h
  exact ⟨h1, ⟨h2, h3, h4⟩, h5, h6, h7, h8, h9, h10, h11⟩

local macro_rules | `(tactic| tb_start) => `(tactic| exact SignOk.hue (by assumption))
local macro_rules | `(tactic| walk_at "call builtin:chr") => `(tactic| (refine P.chr_of_int (SignOk.c (by assumption)) ?_))
theorem sign_is (w : World) (mean : ExcName → Option Value) (mg mb : Str → Option Value) (p q : Int) (t u : Tok) (hq : q ≠ 0) (ok : SignOk p q) : Gives w mean mg mb 2 108 [] [.int p t, .int q u] (fun h h' v => ∃ t, v = .str ⟨#[(sgC p q).toNat]⟩ t) := by
  w_on
  unfold Gives
  k_fill
  intro dp un gd cn cs a ccd cl outer A₀ base h₀ L m s R B F X N T hk hdp hun hret
  k_dflt (refine' enterS (binds := [(Str.ofString "place", .int p t), (Str.ofString "q", .int q u)]) B F X N T ?kA ?kF ?kK ?k6 ?k7 ?k8 ?k9 ?kB ?_ ?c2 ?c3 ?c4 ?c5; (case kA => exact rfl); (case kF => exact rfl); (case kK => exact hk); (case k6 => k_is); (case k7 => k_is); (case k8 => ktr_room); (case k9 => exact BindsTo.of_eq rfl); (case c5 => decide); (case kB => exact locs rfl); (case c2 => exact rfl); (case c3 => exact rfl); (case c4 => exact rfl); k_whole)
  intro g L' h₁ tk₁ F' N' B' X' T' lt' hgs hnew
  clear B F X N T
  (try dsimp only)
  (try k_fold)
  k_steps
  all_goals first
    | (exfalso; exact absurd (by assumption) hq)
    | (exfalso; rename Float64.isNaN _ = true => q; first | exact absurd (q.symm.trans ok.r1) (by decide) | exact absurd (q.symm.trans ok.g1) (by decide) | exact absurd (q.symm.trans ok.b1) (by decide))
    | (exfalso; rename Float64.isInf _ = true => q; first | exact absurd (q.symm.trans ok.r2) (by decide) | exact absurd (q.symm.trans ok.g2) (by decide) | exact absurd (q.symm.trans ok.b2) (by decide) | exact absurd (q.symm.trans ok.inf) (by decide))
    | (show R (.ok (.ret (.str _ _))) _
       exact hret _ _ _ (hgs _ (Fr.keep (by k_asm)) (fun p hp => nomatch hp)) ⟨_, rfl⟩)

def lap (p : Int) : Int := p % 8
theorem sign_all : (List.range 65).all (fun p => signB p 4 && signB p 8 && sgC p 4 == sgC (p % 4) 4 && sgC p 8 == sgC (p % 8) 8) = true := by decide +kernel

end Mine
namespace Mine
local macro_rules | `(tactic| walk_at "pad 0") => `(tactic| fail "pad")
local macro_rules | `(tactic| walk_at "pad 1") => `(tactic| fail "pad")
local macro_rules | `(tactic| walk_at "pad 2") => `(tactic| fail "pad")
local macro_rules | `(tactic| walk_at "pad 3") => `(tactic| fail "pad")
local macro_rules | `(tactic| k_room) => `(tactic| ktr_room)
structure Sc where
  cs : List Int
  b : Int
  n : Int
  nt : Int
/-- the counts, long enough for a run of b blanks -/
def grown (cs : List Int) (b : Int) : List Int := if (cs.length : Int) ≤ b then cs ++ (List.replicate (b - (cs.length : Int) + 1).toNat [0]).flatten else cs
/-- one sign of the lead -/
def stp (st : Sc) (c : Nat) : Sc :=
  if c = 32 then { st with n := st.n + 1, b := st.b + 1 }
  else { cs := (grown st.cs st.b).set st.b.toNat ((grown st.cs st.b).getD st.b.toNat 0 + 1), b := 0, n := st.n + 1, nt := st.nt + 1 }
def sc0 : Sc := ⟨[], 0, 0, 0⟩
/-- the whole lead -/
def scan : List Nat → Sc → Sc
  | [], st => st
  | c :: r, st => if c = 32 ∨ c = 9 then scan r (stp st c) else st
def CtM (ox l : Addr) (b n nt : Int) (tb tn tt : Tok) (u : Str → Option Value) : Str → Option Value :=
  ovr [(Str.ofString "nt", .int nt tt), (Str.ofString "n", .int n tn), (Str.ofString "b", .int b tb), (Str.ofString "count", .ref l), (Str.ofString "T", .str (Str.ofString "\t") 242), (Str.ofString "S", .str (Str.ofString " ") 241), (Str.ofString "self", .ref ox)] u
/-- between two signs -/
def CtJ (ws : Str) (ox dx : Addr) (DX : Obj) (i : Nat) (m : Str → Option Value) (news : List (Addr × Obj)) : Prop :=
  ∃ (cs : List Int) (b n nt : Int) (l : Addr) (vs : List Value) (k : Nat) (tb tn tt : Tok) (u : Str → Option Value), m = CtM ox l b n nt tb tn tt u ∧ news = [(l, W.listOf vs.toArray k), (ox, instObj 97 dx), (dx, DX)] ∧ IntsAre vs cs ∧
    @Ne Nat l ox ∧ @Ne Nat l dx ∧ 0 ≤ b ∧ b ≤ i ∧ (cs.length : Int) ≤ i ∧ scan ws.cps.toList sc0 = scan (ws.cps.toList.drop i) ⟨cs, b, n, nt⟩
theorem ctJ_of {ws : Str} {ox dx l : Addr} {DX : Obj} {i k : Nat} {m : Str → Option Value} {cs : List Int} {b n nt : Int} {vs : List Value} {tb tn tt : Tok} (m1 : m (Str.ofString "nt") = some (.int nt tt)) (m2 : m (Str.ofString "n") = some (.int n tn)) (m3 : m (Str.ofString "b") = some (.int b tb)) (m4 : m (Str.ofString "count") = some (.ref l))
    (m5 : m (Str.ofString "T") = some (.str (Str.ofString "\t") 242)) (m6 : m (Str.ofString "S") = some (.str (Str.ofString " ") 241)) (m7 : m (Str.ofString "self") = some (.ref ox)) (hints : IntsAre vs cs) (h1 : @Ne Nat l ox ∧ @Ne Nat l dx) (h2 : 0 ≤ b ∧ b ≤ i) (h3 : (cs.length : Int) ≤ i)
    (h4 : scan ws.cps.toList sc0 = scan (ws.cps.toList.drop i) ⟨cs, b, n, nt⟩) : CtJ ws ox dx DX i m [(l, W.listOf vs.toArray k), (ox, instObj 97 dx), (dx, DX)] := by
  refine ⟨cs, b, n, nt, l, vs, k, tb, tn, tt, m, ovr_self ?_, rfl, hints, h1.1, h1.2, h2.1, h2.2, h3, h4⟩
  intro p hp
  simp only [List.mem_cons, List.not_mem_nil, or_false] at hp
  rcases hp with rfl | rfl | rfl | rfl | rfl | rfl | rfl <;> assumption
theorem one_is {c d : Nat} {x : Str} (hx : x = ⟨#[d]⟩) {b : Bool} (h : ((⟨#[c]⟩ : Str) == x) = b) : b = true ↔ c = d := by
  subst hx
  rw [← h]
  constructor
  · intro e
    have := eq_of_beq e
    have q : (#[c] : Array Nat) = #[d] := congrArg Str.cps this
    simpa using q
  · intro e; subst e; exact beq_self_eq_true _
theorem scan_more {ws : Str} {i c : Nat} {st : Sc} (hc : ws.cps[i]? = some c) (hs : c = 32 ∨ c = 9) : scan (ws.cps.toList.drop i) st = scan (ws.cps.toList.drop (i + 1)) (stp st c) := by
  have hl : ws.cps.toList[i]? = some c := by simpa using hc
  obtain ⟨hi, e⟩ := List.getElem?_eq_some_iff.mp hl
  rw [List.drop_eq_getElem_cons hi, e]
  show (if c = 32 ∨ c = 9 then scan _ (stp st c) else st) = _
  rw [if_pos hs]
theorem scan_less {ws : Str} {i c : Nat} {st : Sc} (hc : ws.cps[i]? = some c) (hs : ¬ (c = 32 ∨ c = 9)) : scan (ws.cps.toList.drop i) st = st := by
  have hl : ws.cps.toList[i]? = some c := by simpa using hc
  obtain ⟨hi, e⟩ := List.getElem?_eq_some_iff.mp hl
  rw [List.drop_eq_getElem_cons hi, e]
  show (if c = 32 ∨ c = 9 then scan _ (stp st c) else st) = _
  rw [if_neg hs]
theorem idx_lt {ws : Str} {i c n : Nat} (hc : ws.cps[i]? = some c) (h : ws.length ≤ n) : (i : Int) < (n : Int) := by
  have : i < ws.cps.size := by
    rcases Nat.lt_or_ge i ws.cps.size with q | q
    · exact q
    · rw [Array.getElem?_eq_none q] at hc; cases hc
  have e : ws.length = ws.cps.size := rfl
  omega
theorem grown_pos {cs : List Int} {b : Int} (h : (cs.length : Int) ≤ b) : grown cs b = cs ++ (List.replicate (b - (cs.length : Int) + 1).toNat [0]).flatten := if_pos h
theorem grown_neg {cs : List Int} {b : Int} (h : ¬ (cs.length : Int) ≤ b) : grown cs b = cs := if_neg h
theorem flat0 (n : Nat) : ((List.replicate n [(0 : Int)]).flatten).length = n := by
  induction n with
  | zero => rfl
  | succ n ih => rw [List.replicate_succ, List.flatten_cons, List.length_append, ih]; simp; omega
theorem grown_len {cs : List Int} {b : Int} {i : Int} (hb : b ≤ i) (h0 : 0 ≤ b) (h : (cs.length : Int) ≤ i) (x : Int) : (((grown cs b).set b.toNat x).length : Int) ≤ i + 1 := by
  rw [List.length_set]
  unfold grown
  split
  · rw [List.length_append, flat0]; omega
  · omega
theorem unrEndL {h₀ h' : Heap} {L I l ox dx : Addr} {it lo o1 o2 : Obj} {rest : (Str → Option Value) → List (Addr × Obj) → Prop} {s₁ : Shared} {tk : Nat} {m' : Str → Option Value} {all : List (Addr × Obj)} (F : Fr h₀ L h' m') (N : News h₀ L h' all)
    (h1 : (I, it) ∈ all) (h2 : (l, lo) ∈ all) (h3 : (ox, o1) ∈ all) (h4 : (dx, o2) ∈ all) (off : @Ne Nat l I ∧ @Ne Nat ox I ∧ @Ne Nat dx I) (r : rest m' [(l, lo), (ox, o1), (dx, o2)]) : UnrEnd h₀ L s₁ I it rest { s₁ with heap := h', toks := tk } := by
  refine UnrEnd.intro F N _ ?_ ?_ r
  · intro p hp
    rcases List.mem_cons.mp hp with rfl | hp
    · exact h1
    rcases List.mem_cons.mp hp with rfl | hp
    · exact h2
    rcases List.mem_cons.mp hp with rfl | hp
    · exact h3
    rw [List.mem_singleton.mp hp]
    exact h4
  · intro p hp
    rcases List.mem_cons.mp hp with rfl | hp
    · exact off.1
    rcases List.mem_cons.mp hp with rfl | hp
    · exact off.2.1
    rw [List.mem_singleton.mp hp]
    exact off.2.2
/-- an instance of Whitespace, laid out -/
def wsObjs (w : World) (x dx D C : Addr) (ws : Str) (st : Sc) (vs : List Value) (t0 t1 t2 t3 t4 t5 t6 t7 t8 : Tok) : List (Addr × Obj) :=
  [(x, instObj 97 dx),
   (dx, dictOf [⟨PyData.keyHash w.params (Str.ofString "raw"), .str (Str.ofString "raw") t0, .str ws t1⟩, ⟨PyData.keyHash w.params (Str.ofString "n"), .str (Str.ofString "n") t2, .int st.n t3⟩, ⟨PyData.keyHash w.params (Str.ofString "nt"), .str (Str.ofString "nt") t4, .int st.nt t5⟩,
      ⟨PyData.keyHash w.params (Str.ofString "norm"), .str (Str.ofString "norm") t6, .ref D⟩, ⟨PyData.keyHash w.params (Str.ofString "is_simple"), .str (Str.ofString "is_simple") t7, .bool (decide ((st.cs.length : Int) ≤ 1))⟩] 5),
   (D, { cls := .type "tuple", data := .seq #[.ref C, .int st.b t8] }), (C, { cls := .type "tuple", data := .seq vs.toArray })]
def WsMade (w : World) (ws : Str) (h h' : Heap) (v : Value) : Prop :=
  ∃ x dx D C vs t0 t1 t2 t3 t4 t5 t6 t7 t8, v = .ref x ∧ IntsAre vs (scan ws.cps.toList sc0).cs ∧ ∀ p ∈ wsObjs w x dx D C ws (scan ws.cps.toList sc0) vs t0 t1 t2 t3 t4 t5 t6 t7 t8, h'.get? p.1 = some p.2 ∧ h.get? p.1 = none
theorem made_of {w : World} {ws : Str} {h h1 h' g : Heap} {L x dx D C : Addr} {vs : List Value} {t0 t1 t2 t3 t4 t5 t6 t7 t8 : Tok} {st : Sc} {all : List (Addr × Obj)} (hst : scan ws.cps.toList sc0 = st) (hints : IntsAre vs st.cs) (N : News g L h' all)
    (stx : h.StaysIn h1) (nx : h.get? x = none) (ndx : h.get? dx = none) (hg : ∀ b o, h1.get? b = some o → (∀ p ∈ [(x, instObj 97 dx), (dx, dictOf [] 0)], p.1 ≠ b) → g.get? b = some o)
    (mD : (D, ({ cls := .type "tuple", data := .seq #[.ref C, .int st.b t8] } : Obj)) ∈ all) (mC : (C, ({ cls := .type "tuple", data := .seq vs.toArray } : Obj)) ∈ all) (mx : (x, instObj 97 dx) ∈ all)
    (md : (dx, dictOf [⟨PyData.keyHash w.params (Str.ofString "raw"), .str (Str.ofString "raw") t0, .str ws t1⟩, ⟨PyData.keyHash w.params (Str.ofString "n"), .str (Str.ofString "n") t2, .int st.n t3⟩, ⟨PyData.keyHash w.params (Str.ofString "nt"), .str (Str.ofString "nt") t4, .int st.nt t5⟩,
      ⟨PyData.keyHash w.params (Str.ofString "norm"), .str (Str.ofString "norm") t6, .ref D⟩, ⟨PyData.keyHash w.params (Str.ofString "is_simple"), .str (Str.ofString "is_simple") t7, .bool (decide ((st.cs.length : Int) ≤ 1))⟩] 5) ∈ all)
    (ne : @Ne Nat x D ∧ @Ne Nat dx D ∧ @Ne Nat x C ∧ @Ne Nat dx C) : WsMade w ws h h' (.ref x) := by
  subst hst
  have fresh : ∀ a, g.get? a = none → @Ne Nat x a → @Ne Nat dx a → h.get? a = none := fun a ha n1 n2 => by
    cases q : h.get? a with
    | none => rfl
    | some o =>
      have := hg a o (stx a o q) fun p hp => by
        rcases List.mem_cons.mp hp with rfl | hp
        · exact n1
        rw [List.mem_singleton.mp hp]; exact n2
      rw [ha] at this; cases this
  refine ⟨x, dx, D, C, vs, t0, t1, t2, t3, t4, t5, t6, t7, t8, rfl, hints, fun p hp => ?_⟩
  rcases List.mem_cons.mp hp with rfl | hp
  · exact ⟨(N _ mx).1, nx⟩
  rcases List.mem_cons.mp hp with rfl | hp
  · exact ⟨(N _ md).1, ndx⟩
  rcases List.mem_cons.mp hp with rfl | hp
  · exact ⟨(N _ mD).1, fresh _ (N _ mD).2.2 ne.1 ne.2.1⟩
  rw [List.mem_singleton.mp hp]
  exact ⟨(N _ mC).1, fresh _ (N _ mC).2.2 ne.2.2.1 ne.2.2.2⟩
theorem made_stays {h h1 h' g : Heap} {x dx : Addr} (stx : h.StaysIn h1) (nx : h.get? x = none) (ndx : h.get? dx = none) (hg : ∀ b o, h1.get? b = some o → (∀ p ∈ [(x, instObj 97 dx), (dx, dictOf [] 0)], p.1 ≠ b) → g.get? b = some o) (k : ∀ b o, g.get? b = some o → h'.get? b = some o) : h.StaysIn h' := by
  intro b o e
  refine k b o (hg b o (stx b o e) fun p hp q => ?_)
  rcases List.mem_cons.mp hp with rfl | hp
  · rw [← q, nx] at e; cases e
  · rw [List.mem_singleton.mp hp] at q; rw [← q, ndx] at e; cases e

local macro_rules | `(tactic| walk_at "call builtin:len") => `(tactic| (k_here; (with_reducible show wpAny _ _ (call (Value.builtin "len") [Value.ref _]) _ _ _); k_dflt (refine' kst_len ?k1 ?k2 (IntsAre.length (by assumption)) ?k4 ?_; (case k1 => k_asm); (case k2 => k_mem); (case k4 => omega); k_whole)))
local macro_rules | `(tactic| walk_at "call type:tuple") => `(tactic| (k_here; (with_reducible show wpAny _ _ (call (Value.type _) [Value.ref _]) _ _ _); k_dflt (refine' tupleS ?k1 ?k2 ?k3 ?k4 ?_; (case k1 => k_asm); (case k2 => k_asm); (case k3 => k_mem); (case k4 => (have q9 := IntsAre.length (by assumption)); omega); k_whole); intro D' h' F' N' l1; (try k_lt l1); (try k_sweep)))

theorem ctor_is (w : World) (mean : ExcName → Option Value) (mg mb : Str → Option Value) (ws : Str) (t : Tok) (hlen : ws.length ≤ 200) : Gives w mean mg mb 2 97 [] [.str ws t] (fun h h' v => WsMade w ws h h' v) := by
  w_on
  unfold Gives
  k_fill
  intro dp un gd cn cs a ccd cl outer A₀ base h₀ L m s R B F X N T hk hdp hun hret
  k_dflt (refine' makeS F X ?m1 ?m2 ?m3 ?_; (case m1 => k_is); (case m2 => k_is); (case m3 => k_is); k_whole)
  intro ox dx h1 F1 N1 ltx stx nx ndx
  k_dflt (refine' enterW (binds := [(Str.ofString "self", .ref ox), (Str.ofString "ws", .str ws t)]) B F1 X N1 T ?kA ?kF ?kK ?k6 ?k7 ?k8 ?k9 ?kB ?_ ?c2 ?c3 ?c4 ?c5; (case kA => exact rfl); (case kF => exact rfl); (case kK => exact hk); (case k6 => k_is); (case k7 => k_is); (case k8 => ktr_room); (case k9 => exact BindsTo.of_eq rfl); (case c5 => decide); (case kB => exact locs rfl); (case c2 => exact rfl); (case c3 => exact rfl); (case c4 => exact rfl); k_whole)
  intro g L' h₁ tk₁ F' N' B' X' T' lt' hg
  clear B F X N T F1 N1
  (try k_lt lt')
  (try k_lt2 ltx)
  (try dsimp only)
  (try k_fold)
  repeat' ((fail_if_success (with_reducible show wpAny _ _ (pyIter _) _ _ _)); (first | (k_unfold; (try dsimp only)) | (k_end; wrow_close) | walk1 | (dsimp only; walk1) | (leave1; walk_say "STEP leave1"; try dsimp only) | fail "no step"))
  k_dflt (refine loopText (CtJ ws ox dx _) rfl (by k_asm) (newsDrop2 (by k_asm)) ⟨[], 0, 0, 0, _, [], _, _, _, _, _, ovr_self (List.forall_mem_cons.mpr ⟨rfl, (List.forall_mem_cons.mpr ⟨rfl, (List.forall_mem_cons.mpr ⟨rfl, (List.forall_mem_cons.mpr ⟨rfl, (List.forall_mem_cons.mpr ⟨rfl, (List.forall_mem_cons.mpr ⟨rfl, (List.forall_mem_cons.mpr ⟨rfl, List.forall_mem_nil _⟩)⟩)⟩)⟩)⟩)⟩)⟩), rfl, .nil, by omega, by omega, by omega, by omega, by simp, rfl⟩ ?turn ?done)
  case done =>
    (rename Fr _ _ _ _ => Fo); (rename News _ _ _ _ => No); clear Fo No
    intro m₁ news₁ h2 tk2 hJ F2 N2
    obtain ⟨cs, b, n, nt, l, vs, k, tb, tn, tt, u, rfl, rfl, hints, hl1, hl2, hb0, hbi, hli, hscan⟩ := hJ
    have hsz : (ws.cps.size : Int) ≤ 200 := Int.ofNat_le.mpr hlen
    have hs0 : scan ws.cps.toList sc0 = ⟨cs, b, n, nt⟩ := by rw [hscan, List.drop_eq_nil_of_le (by simp)]; rfl
    (try dsimp only)
    (try k_fold)
    k_steps
    refine And.intro rfl ?_
    show R (.ok (.ret (.ref ox))) _
    refine hret _ _ _ (made_stays stx nx ndx hg (Fr.keep (by k_asm))) ?_
    refine' made_of ?q1a ?q2a ?q3a stx nx ndx hg ?q4a ?q5a ?q6a ?q7a ?q8a
    case q1a => exact hs0
    case q3a => k_asm
    case q6a => k_mem
    case q7a => k_mem
    case q4a => k_mem
    case q5a => k_mem
    case q2a => assumption
    case q8a => omega

  case turn =>
    (rename Fr _ _ _ _ => Fo); (rename News _ _ _ _ => No); clear Fo No
    intro I it i c tc m₁ news₁ h2 tk2 hc hJ hoff F2 N2
    obtain ⟨cs, b, n, nt, l, vs, k, tb, tn, tt, u, rfl, rfl, hints, hl1, hl2, hb0, hbi, hli, hscan⟩ := hJ
    replace hoff := allNe_of hoff
    simp only [AllNe, and_true] at hoff
    have hi200 : (i : Int) < 200 := idx_lt hc hlen
    (try dsimp only)
    (try k_fold)
    k_steps
    · (rename (_ == Str.ofString " ") = true => e1)
      have e1 := (one_is (d := 32) rfl e1).mp rfl
      subst e1
      refine' unrEndL ?r1b ?r2b ?r3b ?r4b ?r5b ?r6b ?r7b ?r8b
      case r1b => k_asm
      case r2b => k_asm
      case r8b => exact ctJ_of (k := k) rfl rfl rfl rfl rfl rfl rfl (by assumption) (by omega) (by omega) (by show (cs.length : Int) ≤ _; omega) (hscan.trans ((scan_more hc (.inl rfl)).trans rfl))
      case r3b => k_mem
      case r4b => k_mem
      case r5b => k_mem
      case r6b => k_mem
      case r7b => omega

    · (rename (_ == Str.ofString "\t") = true => e1)
      have e1 := (one_is (d := 9) rfl e1).mp rfl
      subst e1
      (rename (_ : Int) ≤ b => e2)
      have e3 := grown_len hbi hb0 hli ((grown cs b).getD b.toNat 0 + 1)
      have e4 : stp ⟨cs, b, n, nt⟩ 9 = ⟨(grown cs b).set b.toNat ((grown cs b).getD b.toNat 0 + 1), 0, n + 1, nt + 1⟩ := rfl
      rw [grown_pos e2] at e3 e4
      refine' unrEndL ?r1c ?r2c ?r3c ?r4c ?r5c ?r6c ?r7c ?r8c
      case r1c => k_asm
      case r2c => k_asm
      case r8c => exact ctJ_of (k := 0) rfl rfl rfl rfl rfl rfl rfl (by assumption) (by omega) (by omega) e3 (hscan.trans ((scan_more hc (.inr rfl)).trans (congrArg (scan _) e4)))
      case r3c => k_mem
      case r4c => k_mem
      case r5c => k_mem
      case r6c => k_mem
      case r7c => omega

    · (rename (_ == Str.ofString "\t") = true => e1)
      have e1 := (one_is (d := 9) rfl e1).mp rfl
      subst e1
      (rename ¬ (_ : Int) ≤ b => e2)
      have e3 := grown_len hbi hb0 hli ((grown cs b).getD b.toNat 0 + 1)
      have e4 : stp ⟨cs, b, n, nt⟩ 9 = ⟨(grown cs b).set b.toNat ((grown cs b).getD b.toNat 0 + 1), 0, n + 1, nt + 1⟩ := rfl
      rw [grown_neg e2] at e3 e4
      refine' unrEndL ?r1d ?r2d ?r3d ?r4d ?r5d ?r6d ?r7d ?r8d
      case r1d => k_asm
      case r2d => k_asm
      case r8d => exact ctJ_of (k := k) rfl rfl rfl rfl rfl rfl rfl (by assumption) (by omega) (by omega) e3 (hscan.trans ((scan_more hc (.inr rfl)).trans (congrArg (scan _) e4)))
      case r3d => k_mem
      case r4d => k_mem
      case r5d => k_mem
      case r6d => k_mem
      case r7d => omega

    · (rename (_ == Str.ofString " ") = false => e1)
      (rename (_ == Str.ofString "\t") = false => e2)
      have e1 := one_is (d := 32) rfl e1
      have e2 := one_is (d := 9) rfl e2
      have hs0 : scan ws.cps.toList sc0 = ⟨cs, b, n, nt⟩ := hscan.trans (scan_less hc (by simp at e1 e2; omega))
      refine And.intro rfl ?_
      show R (.ok (.ret (.ref ox))) _
      refine hret _ _ _ (made_stays stx nx ndx hg (Fr.keep (by k_asm))) ?_
      refine' made_of ?q1e ?q2e ?q3e stx nx ndx hg ?q4e ?q5e ?q6e ?q7e ?q8e
      case q1e => exact hs0
      case q3e => k_asm
      case q6e => k_mem
      case q7e => k_mem
      case q4e => k_mem
      case q5e => k_mem
      case q2e => assumption
      case q8e => omega




end Mine
namespace Mine
local macro_rules | `(tactic| walk_at "pad 0") => `(tactic| fail "pad")
local macro_rules | `(tactic| walk_at "pad 1") => `(tactic| fail "pad")
local macro_rules | `(tactic| walk_at "pad 2") => `(tactic| fail "pad")
local macro_rules | `(tactic| walk_at "pad 3") => `(tactic| fail "pad")
local macro_rules | `(tactic| walk_at "pad 4") => `(tactic| fail "pad")
local macro_rules | `(tactic| k_room) => `(tactic| ktr_room)
/-- what the long runs of blanks give -/
def ilSum (cs : List Int) (q : Int) : Nat → Int
  | 0 => 0
  | k + 1 => ilSum cs q k + Int.fdiv (q + (k : Int)) q * cs.getD (q + (k : Int)).toNat 0
def indentOf (st : Sc) (q : Int) : Int := st.b + q * (ilSum st.cs q ((st.cs.length : Int) - q).toNat + st.nt)
def IlM (x C : Addr) (il b q : Int) (ti tb tq : Tok) (u : Str → Option Value) : Str → Option Value :=
  ovr [(Str.ofString "il", .int il ti), (Str.ofString "trailing", .int b tb), (Str.ofString "count", .ref C), (Str.ofString "self", .ref x), (Str.ofString "tabsize", .int q tq)] u
def IlJ (x C : Addr) (b q : Int) (tb tq : Tok) (cs : List Int) (led : List (Addr × Obj)) (i : Nat) (m : Str → Option Value) (news : List (Addr × Obj)) : Prop :=
  ∃ (ti : Tok) (u : Str → Option Value), m = IlM x C (ilSum cs q i) b q ti tb tq u ∧ news = led
theorem ilJ_of {x C : Addr} {il b q : Int} {ti tb tq : Tok} {cs : List Int} {led : List (Addr × Obj)} {i : Nat} {m : Str → Option Value} (m1 : m (Str.ofString "il") = some (.int il ti)) (m2 : m (Str.ofString "trailing") = some (.int b tb)) (m3 : m (Str.ofString "count") = some (.ref C)) (m4 : m (Str.ofString "self") = some (.ref x)) (m5 : m (Str.ofString "tabsize") = some (.int q tq))
    (h : il = ilSum cs q i) : IlJ x C b q tb tq cs led i m led := by
  subst h
  refine ⟨ti, m, ovr_self ?_, rfl⟩
  intro p hp
  simp only [List.mem_cons, List.not_mem_nil, or_false] at hp
  rcases hp with rfl | rfl | rfl | rfl | rfl <;> assumption
theorem fdivS {a q : Int} (ha : 0 ≤ a) (hq : 1 ≤ q) : 0 ≤ Int.fdiv a q ∧ Int.fdiv a q ≤ a := by
  rw [Int.fdiv_eq_ediv_of_nonneg _ (by omega)]
  exact ⟨Int.ediv_nonneg ha (by omega), Int.ediv_le_self _ ha⟩
local macro_rules | `(tactic| mul_fits) => `(tactic| exact PySem.IntMulOk.of_left (PySem.intBits_le_64 (by omega) (by omega)))

local macro_rules | `(tactic| walk_at "call builtin:len") => `(tactic| (k_here; (with_reducible show wpAny _ _ (call (Value.builtin "len") [Value.ref _]) _ _ _); k_dflt (refine' lenTupS ?k1 ?k2 ?k3 ?k4 ?_; (case k1 => k_asm); (case k2 => k_mem); (case k3 => assumption); (case k4 => omega); k_whole)))
local macro_rules | `(tactic| walk_at "subscriptTail") => `(tactic| (k_here; (with_reducible show wpAny _ _ (subscriptTail _ _ (Value.ref _) (Value.int _ _)) _ _ _); (with_unfolding_all refine' itemTupS ?k1 ?k2 ?k3 ?k4 ?k5 ?k6 ?_ ?k7; (case k1 => k_asm); (case k2 => k_mem); (case k3 => assumption); (case k4 => omega); (case k5 => omega); (case k6 => omega); (case k7 => with_unfolding_all rfl); k_whole); intro _))
theorem indent_is (w : World) (mean : ExcName → Option Value) (mg mb : Str → Option Value) (x dx D C : Addr) (ws : Str) (st : Sc) (vs : List Value) (t0 t1 t2 t3 t4 t5 t6 t7 t8 : Tok) (hv : IntsAre vs st.cs) (hl : (st.cs.length : Int) ≤ 201) (q : Int) (hq : 1 ≤ q ∧ q ≤ 100) (t : Tok) : Gives w mean mg mb 2 66 (wsObjs w x dx D C ws st vs t0 t1 t2 t3 t4 t5 t6 t7 t8) [.ref x, .int q t] (fun h h' v => ∃ t, v = .int (indentOf st q) t) := by
  w_on
  unfold Gives
  k_fill
  intro dp un gd cn cs a ccd cl outer A₀ base h₀ L m s R B F X N T hk hdp hun hret
  k_dflt (refine' enterS (binds := [(Str.ofString "self", .ref x), (Str.ofString "tabsize", .int q t)]) B F X N T ?kA ?kF ?kK ?k6 ?k7 ?k8 ?k9 ?kB ?_ ?c2 ?c3 ?c4 ?c5; (case kA => exact rfl); (case kF => exact rfl); (case kK => exact hk); (case k6 => k_is); (case k7 => k_is); (case k8 => ktr_room); (case k9 => exact BindsTo.of_eq rfl); (case c5 => decide); (case kB => exact locs rfl); (case c2 => exact rfl); (case c3 => exact rfl); (case c4 => exact rfl); k_whole)
  intro g L' h₁ tk₁ F' N' B' X' T' lt' hgs hnew
  clear B F X N T
  unfold wsObjs at N' lt'
  (try k_lt lt')
  (try dsimp only)
  (try k_fold)
  repeat' ((fail_if_success (with_reducible show wpAny _ _ (pyIter _) _ _ _)); (first | (k_unfold; (try dsimp only)) | (k_end; wrow_close) | walk1 | (dsimp only; walk1) | (leave1; walk_say "STEP leave1"; try dsimp only) | fail "no step"))
  k_dflt (refine loopRange (IlJ x C st.b q t8 t st.cs _) rfl (by assumption) (smallS (by omega) (by omega)) (rangeS _ _) (by k_asm) (by k_asm) (ilJ_of rfl rfl rfl rfl rfl rfl) ?turn ?done)
  case done =>
    (rename Fr _ _ _ _ => Fo); (rename News _ _ _ _ => No); clear Fo No
    intro m₁ news₁ h2 tk2 hJ F2 N2
    obtain ⟨ti, u, rfl, rfl⟩ := hJ
    (try dsimp only)
    (try k_fold)
    k_steps
    show R (.ok (.ret (.int _ _))) _
    refine hret _ _ _ (hgs _ (Fr.keep (by k_asm)) (fun p hp => ((by k_asm : News _ _ _ _) p hp).1)) ⟨_, rfl⟩
  case turn =>
    (rename Fr _ _ _ _ => Fo); (rename News _ _ _ _ => No); clear Fo No
    intro I it i ti m₁ news₁ h2 tk2 hi hJ hoff F2 N2
    obtain ⟨til, u, rfl, rfl⟩ := hJ
    have hi' : (i : Int) < (st.cs.length : Int) - q := by omega
    have hi0 : 0 ≤ (i : Int) := by omega
    have hfd := fdivS (a := q + (i : Int)) (q := q) (by omega) (by omega)
    (try dsimp only)
    (try k_fold)
    k_steps
    refine unrEndT (by k_asm) (by k_asm) hoff (ilJ_of rfl rfl rfl rfl rfl rfl)



end Mine
namespace Mine
local macro_rules | `(tactic| walk_at "pad 0") => `(tactic| fail "pad")
local macro_rules | `(tactic| walk_at "pad 1") => `(tactic| fail "pad")
local macro_rules | `(tactic| walk_at "pad 2") => `(tactic| fail "pad")
local macro_rules | `(tactic| walk_at "pad 3") => `(tactic| fail "pad")
local macro_rules | `(tactic| walk_at "pad 4") => `(tactic| fail "pad")
local macro_rules | `(tactic| walk_at "pad 5") => `(tactic| fail "pad")
local macro_rules | `(tactic| k_room) => `(tactic| ktr_room)
local macro_rules | `(tactic| walk_at "call ref") => `(tactic| ( (with_reducible show wpAny _ _ (call (Value.ref 97) _) _ _ _); (with_reducible rename Fr _ _ _ _ => lF'); (with_reducible rename News _ _ _ _ => lN'); k_dflt (refine' wpAny_call (ctor_is _ _ _ _ _ _ ?hx _ _ _ _ _ _ _ _ _ _ _ _ _ _ _ _ ?k1 lF' ?k3 ?k4 ?k5 ?kK ?kd ?ku ?_); (case k1 => k_asm); (case k3 => k_asm); (case k4 => exact News.nil); (case k5 => k_asm); (case kK => first | exact rfl | assumption); (case kd => ktr_room); (case ku => ktr_units); (case hx => tb_start); k_whole; intro v9 h9 tk9 st9 post9; (obtain ⟨x9, dx9, D9, C9, vs9, t09, t19, t29, t39, t49, t59, t69, t79, t89, e9, i9, g9⟩ := post9); subst e9; (have F9 := frStays lF' st9); (have N9 := newsApp lF' (newsStays lN' st9) g9); clear lF' lN' st9 g9; (try dsimp only); (try dsimp only [wsObjs, List.cons_append, List.nil_append] at N9); (try k_fold))))

local macro_rules | `(tactic| walk_at "call ref") => `(tactic| ((with_reducible show wpAny _ _ (call (Value.ref 66) _) _ _ _); (with_reducible rename Fr _ _ _ _ => lF'); (with_reducible rename News _ _ _ _ => lN'); k_dflt (refine' wpAny_call (indent_is _ _ _ _ _ _ _ _ _ _ _ _ _ _ _ _ _ _ _ _ ?hv ?hl _ ?hq _ _ _ _ _ _ _ _ _ _ _ _ _ _ _ _ _ ?k1 lF' ?k3 ?k4 ?k5 ?kK ?kd ?ku ?_); (case k1 => k_asm); (case k3 => k_asm); (case k4 => exact newsSub lN' (List.forall_mem_cons.mpr ⟨by k_mem, List.forall_mem_cons.mpr ⟨by k_mem, List.forall_mem_cons.mpr ⟨by k_mem, List.forall_mem_cons.mpr ⟨by k_mem, List.forall_mem_nil _⟩⟩⟩⟩)); (case k5 => k_asm); (case kK => first | exact rfl | assumption); (case kd => ktr_room); (case ku => ktr_units); (case hv => assumption); (case hl => tb_rel); (case hq => omega); k_whole; intro v9 h9 tk9 st9 post9; (obtain ⟨ta9, e9⟩ := post9); subst e9; (have F9 := frStays lF' st9); (have N9 := newsStays lN' st9); clear lF' lN' st9; (try dsimp only); (try k_fold))))


def lead (b : Int) : Str := Txt.mul (Str.ofString " ") b ++ Str.ofString "\tx "
def placeB (b q : Int) : Bool := decide ((lead b).length ≤ 200) && decide (((scan (lead b).cps.toList sc0).cs.length : Int) ≤ 201) && decide (b + q - indentOf (scan (lead b).cps.toList sc0) q = b % q)
theorem place_all : (List.range 65).all (fun b => placeB b 4 && placeB b 8) = true := by decide +kernel
theorem placeOk {b q : Int} (hb : 0 ≤ b ∧ b ≤ 64) (hq : q = 4 ∨ q = 8) : (lead b).length ≤ 200 ∧ ((scan (lead b).cps.toList sc0).cs.length : Int) ≤ 201 ∧ b + q - indentOf (scan (lead b).cps.toList sc0) q = b % q := by
  have h := List.all_eq_true.mp place_all b.toNat (List.mem_range.mpr (by omega))
  have e : ((b.toNat : Nat) : Int) = b := by omega
  rw [e] at h
  simp only [Bool.and_eq_true] at h
  rcases hq with rfl | rfl
  · have := h.1; simp only [placeB, Bool.and_eq_true, decide_eq_true_eq] at this; exact ⟨this.1.1, this.1.2, this.2⟩
  · have := h.2; simp only [placeB, Bool.and_eq_true, decide_eq_true_eq] at this; exact ⟨this.1.1, this.1.2, this.2⟩
local macro_rules | `(tactic| tb_start) => `(tactic| assumption)
local macro_rules | `(tactic| tb_rel) => `(tactic| assumption)

theorem place_is (w : World) (mean : ExcName → Option Value) (mg mb : Str → Option Value) (b q : Int) (t u : Tok) (hb : 0 ≤ b ∧ b ≤ 64) (hq : q = 4 ∨ q = 8) : Gives w mean mg mb 3 122 [] [.int b t, .int q u] (fun h h' v => ∃ t, v = .int (b % q) t) := by
  w_on
  unfold Gives
  k_fill
  intro dp un gd cn cs a ccd cl outer A₀ base h₀ L m s R B F X N T hk hdp hun hret
  k_dflt (refine' enterS (binds := [(Str.ofString "blanks", .int b t), (Str.ofString "q", .int q u)]) B F X N T ?kA ?kF ?kK ?k6 ?k7 ?k8 ?k9 ?kB ?_ ?c2 ?c3 ?c4 ?c5; (case kA => exact rfl); (case kF => exact rfl); (case kK => exact hk); (case k6 => k_is); (case k7 => k_is); (case k8 => ktr_room); (case k9 => exact BindsTo.of_eq rfl); (case c5 => decide); (case kB => exact locs rfl); (case c2 => exact rfl); (case c3 => exact rfl); (case c4 => exact rfl); k_whole)
  intro g L' h₁ tk₁ F' N' B' X' T' lt' hgs hnew
  clear B F X N T
  have ok := placeOk hb hq
  have ok1 : (Txt.mul (Str.ofString " ") b ++ Str.ofString "\tx ").length ≤ 200 := ok.1
  have ok2 : ((scan (Txt.mul (Str.ofString " ") b ++ Str.ofString "\tx ").cps.toList sc0).cs.length : Int) ≤ 201 := ok.2.1
  have hq2 : 1 ≤ q ∧ q ≤ 100 := by omega
  (try dsimp only)
  (try k_fold)
  k_steps
  show R (.ok (.ret (.int _ _))) _
  refine hret _ _ _ (hgs _ (Fr.keep (by k_asm)) (fun p hp => nomatch hp)) ⟨_, congrArg (fun z => Value.int z _) ok.2.2⟩

end Mine
namespace Mine
local macro_rules | `(tactic| walk_at "pad 0") => `(tactic| fail "pad")
local macro_rules | `(tactic| walk_at "pad 1") => `(tactic| fail "pad")
local macro_rules | `(tactic| walk_at "pad 2") => `(tactic| fail "pad")
local macro_rules | `(tactic| walk_at "pad 3") => `(tactic| fail "pad")
local macro_rules | `(tactic| walk_at "pad 4") => `(tactic| fail "pad")
local macro_rules | `(tactic| walk_at "pad 5") => `(tactic| fail "pad")
local macro_rules | `(tactic| k_room) => `(tactic| ktr_room)
def RwM (l ln : Addr) (q : Int) (tq : Tok) (u : Str → Option Value) : Str → Option Value := ovr [(Str.ofString "row", .ref l), (Str.ofString "numbers", .ref ln), (Str.ofString "q", .int q tq)] u
/-- the numbers 0 to n - 1 -/
def upTo (n : Nat) : List Int := (List.range n).map fun (k : Nat) => (k : Int)
def RwJ (ln : Addr) (q : Int) (tq : Tok) (LN : Obj) (i : Nat) (m : Str → Option Value) (news : List (Addr × Obj)) : Prop :=
  ∃ (l : Addr) (vs : List Value) (k : Nat) (r : List Int) (u : Str → Option Value), m = RwM l ln q tq u ∧ news = [(l, W.listOf vs.toArray k), (ln, LN)] ∧ IntsAre vs r ∧ r.Perm (upTo i) ∧ @Ne Nat l ln
theorem rwJ_of {ln l : Addr} {q : Int} {tq : Tok} {LN : Obj} {i : Nat} {m : Str → Option Value} {vs : List Value} {k : Nat} {r : List Int} (m1 : m (Str.ofString "row") = some (.ref l)) (m2 : m (Str.ofString "numbers") = some (.ref ln)) (m3 : m (Str.ofString "q") = some (.int q tq)) (hi : IntsAre vs r) (hp : r.Perm (upTo i)) (hne : @Ne Nat l ln) :
    RwJ ln q tq LN i m [(l, W.listOf vs.toArray k), (ln, LN)] := by
  refine ⟨l, vs, k, r, m, ovr_self ?_, rfl, hi, hp, hne⟩
  intro p hp
  simp only [List.mem_cons, List.not_mem_nil, or_false] at hp
  rcases hp with rfl | rfl | rfl <;> assumption
section
variable {prog : Program} {w : World} {A : Around} {E : Value → Shared → Prop} {s : Shared} {h₀ : Heap} {L : Addr} {m : Str → Option Value}
theorem updMid {I l ln : Addr} {it LN o o' : Obj} (h1 : @Ne Nat I l) (h2 : @Ne Nat ln l) : Upd l o o' [(I, it), (l, o), (ln, LN)] [(I, it), (l, o'), (ln, LN)] :=
  .tail h1 (.head fun p hp => by rw [List.mem_singleton.mp hp]; exact h2)
theorem insertS {I l ln : Addr} {it LN : Obj} {vs : List Value} {r : List Int} {k : Nat} {x y : Int} {u v : Tok} {Q : Value → Shared → Prop} (F : Fr h₀ L s.heap m) (N : News h₀ L s.heap [(I, it), (l, W.listOf vs.toArray k), (ln, LN)]) (hi : IntsAre vs r) (h1 : @Ne Nat I l) (h2 : @Ne Nat ln l) (hx : 0 ≤ x ∧ x ≤ 1000) (hr : (r.length : Int) ≤ 1000)
    (h : ∀ h' vs' r', IntsAre vs' r' → r'.Perm (y :: r) → Fr h₀ L h' m → News h₀ L h' [(I, it), (l, W.listOf vs'.toArray (k + 1)), (ln, LN)] → Q .none { s with heap := h' }) :
    wpAny (model prog w) A (call (.builtin "list.insert") [.ref l, .int x u, .int y v]) Q E s := by
  refine kl_insert (its := vs.toArray) F N ?_ rfl (updMid h1 h2) ?_ fun h' F' N' => ?_
  · simp only [Builtin.List.listFitsIndex, Bool.and_eq_true, decide_eq_true_eq]
    omega
  · show vs.length ≤ sizeLine
    rw [sizeLine_eq, hi.length]; omega
  · refine h h' _ (r.take (min x.toNat r.length) ++ y :: r.drop (min x.toNat r.length)) ?_ ?_ F' N'
    · show IntsAre (kl_ins vs x (.int y v)) _
      unfold kl_ins
      rw [if_neg (by omega), hi.length]
      exact (hi.take _).append (.cons _ _ (hi.drop _))
    · refine List.perm_middle.trans ?_
      rw [List.take_append_drop]
theorem appendS {I l ln : Addr} {it LN : Obj} {vs : List Value} {r : List Int} {k : Nat} {y : Int} {v : Tok} {Q : Value → Shared → Prop} (F : Fr h₀ L s.heap m) (N : News h₀ L s.heap [(I, it), (l, W.listOf vs.toArray k), (ln, LN)]) (hi : IntsAre vs r) (h1 : @Ne Nat I l) (h2 : @Ne Nat ln l) (hr : (r.length : Int) ≤ 1000)
    (h : ∀ h' vs' r', IntsAre vs' r' → r'.Perm (y :: r) → Fr h₀ L h' m → News h₀ L h' [(I, it), (l, W.listOf vs'.toArray (k + 1)), (ln, LN)] → Q .none { s with heap := h' }) :
    wpAny (model prog w) A (call (.builtin "list.append") [.ref l, .int y v]) Q E s := by
  refine append_K (its := vs.toArray) F N (updMid h1 h2) (fun h' F' N' => ?_) ?_
  · refine h h' (vs ++ [.int y v]) (r ++ [y]) (hi.append (.cons _ _ .nil)) (List.perm_append_comm) F' ?_
    have e : (vs ++ [Value.int y v]).toArray = vs.toArray.push (.int y v) := by simp
    rw [e]; exact N'
  · rw [sizeLine_eq, List.size_toArray, hi.length]; omega
end
theorem fmodB {a b : Int} (h : 0 < b) (h2 : b ≤ 1000) : 0 ≤ Int.fmod a b ∧ Int.fmod a b ≤ 1000 := by
  have := Int.fmod_nonneg_of_pos a h
  have := Int.fmod_lt_of_pos a h
  omega
theorem upTo_succ (i : Nat) : upTo (i + 1) = upTo i ++ [(i : Int)] := by simp [upTo, List.range_succ]
theorem perm_next {r r' : List Int} {i : Nat} {y : Int} (h : r'.Perm (y :: r)) (hr : r.Perm (upTo i)) (hy : y = (i : Int)) : r'.Perm (upTo (i + 1)) := by
  subst hy
  rw [upTo_succ]
  exact h.trans ((List.Perm.cons _ hr).trans (List.perm_append_comm (l₁ := [(i : Int)])))

local macro_rules | `(tactic| walk_at "call builtin:len") => `(tactic| (k_here; (with_reducible show wpAny _ _ (call (Value.builtin "len") [Value.ref _]) _ _ _); k_dflt (refine' kst_len ?k1 ?k2 (IntsAre.length (by assumption)) ?k4 ?_; (case k1 => k_asm); (case k2 => k_mem); (case k4 => omega); k_whole)))
local macro_rules | `(tactic| walk_at "call builtin:list.insert") => `(tactic| (k_here; k_dflt (refine' insertS ?k1 ?k2 ?k3 ?k4 ?k5 ?k6 ?k7 ?_; (case k1 => k_asm); (case k2 => k_asm); (case k3 => assumption); (case k4 => omega); (case k5 => omega); (case k6 => exact fmodB (by omega) (by omega)); (case k7 => omega); k_whole); intro h' vs' r' i' p' F' N'))
local macro_rules | `(tactic| walk_at "call builtin:list.append") => `(tactic| (k_here; k_dflt (refine' appendS ?k1 ?k2 ?k3 ?k4 ?k5 ?k7 ?_; (case k1 => k_asm); (case k2 => k_asm); (case k3 => assumption); (case k4 => omega); (case k5 => omega); (case k7 => omega); k_whole); intro h' vs' r' i' p' F' N'))

theorem row_is (w : World) (mean : ExcName → Option Value) (mg mb : Str → Option Value) (ln : Addr) (vsn : List Value) (kn : Nat) (ns : List Int) (hn : IntsAre vsn ns) (hnl : (ns.length : Int) ≤ 100) (q : Int) (hq : 1 ≤ q ∧ q ≤ 100) (t : Tok) : Gives w mean mg mb 2 115 [(ln, W.listOf vsn.toArray kn)] [.ref ln, .int q t] (fun h h' v => ∃ l vs k r, v = .ref l ∧ h.get? l = none ∧ h'.get? l = some (W.listOf vs.toArray k) ∧ IntsAre vs r ∧ r.Perm (upTo q.toNat)) := by
  w_on
  unfold Gives
  k_fill
  intro dp un gd cn cs a ccd cl outer A₀ base h₀ L m s R B F X N T hk hdp hun hret
  k_dflt (refine' enterS (binds := [(Str.ofString "numbers", .ref ln), (Str.ofString "q", .int q t)]) B F X N T ?kA ?kF ?kK ?k6 ?k7 ?k8 ?k9 ?kB ?_ ?c2 ?c3 ?c4 ?c5; (case kA => exact rfl); (case kF => exact rfl); (case kK => exact hk); (case k6 => k_is); (case k7 => k_is); (case k8 => ktr_room); (case k9 => exact BindsTo.of_eq rfl); (case c5 => decide); (case kB => exact locs rfl); (case c2 => exact rfl); (case c3 => exact rfl); (case c4 => exact rfl); k_whole)
  intro g L' h₁ tk₁ F' N' B' X' T' lt' hgs hnew
  clear B F X N T
  (try k_lt lt')
  (try dsimp only)
  (try k_fold)
  repeat' ((fail_if_success (with_reducible show wpAny _ _ (pyIter _) _ _ _)); (first | (k_unfold; (try dsimp only)) | (k_end; wrow_close) | walk1 | (dsimp only; walk1) | (leave1; walk_say "STEP leave1"; try dsimp only) | fail "no step"))
  k_dflt (refine loopRange (RwJ ln q t _) rfl (by assumption) (smallS (by omega) (by omega)) (rangeS _ _) (by k_asm) (by k_asm) (rwJ_of (vs := []) (k := 0) rfl rfl rfl .nil (List.Perm.refl _) (by omega)) ?turn ?done)
  case done =>
    (rename Fr _ _ _ _ => Fo); (rename News _ _ _ _ => No); clear Fo No
    intro m₁ news₁ h2 tk2 hJ F2 N2
    obtain ⟨l, vs, k, r, u, rfl, rfl, hints, hperm, hne⟩ := hJ
    (try dsimp only)
    (try k_fold)
    k_steps
    show R (.ok (.ret (.ref l))) _
    refine hret _ _ _ (hgs _ (Fr.keep (by k_asm)) (fun p hp => (N2 p (List.Mem.tail _ hp)).1)) ⟨l, vs, k, r, rfl, hnew l (N2 _ (List.Mem.head _)).2.2 (fun p hp => by rw [List.mem_singleton.mp hp]; exact Ne.symm hne), (N2 _ (List.Mem.head _)).1, hints, ?_⟩
    have e : (q - 0).toNat = q.toNat := by omega
    rw [e] at hperm
    exact hperm
  case turn =>
    (rename Fr _ _ _ _ => Fo); (rename News _ _ _ _ => No); clear Fo No
    intro I it i ti m₁ news₁ h2 tk2 hi hJ hoff F2 N2
    obtain ⟨l, vs, k, r, u, rfl, rfl, hints, hperm, hne⟩ := hJ
    have hoff' := allNe_of hoff
    simp only [AllNe, and_true] at hoff'
    have hi' : (i : Int) < q := by omega
    have hi0 : 0 ≤ (i : Int) := by omega
    have hrl : (r.length : Int) = i := by rw [hperm.length_eq]; simp [upTo]
    (try dsimp only)
    (try k_fold)
    k_steps
    · refine unrEndT (by k_asm) (by k_asm) ?_ (rwJ_of (k := k + 1) rfl rfl rfl (by assumption) (perm_next (by assumption) hperm (by omega)) hne)
      exact of_allNe _ ⟨hoff'.1, hoff'.2, trivial⟩
    · refine unrEndT (by k_asm) (by k_asm) ?_ (rwJ_of (k := k + 1) rfl rfl rfl (by assumption) (perm_next (by assumption) hperm (by omega)) hne)
      exact of_allNe _ ⟨hoff'.1, hoff'.2, trivial⟩



end Mine
namespace Mine
local macro_rules | `(tactic| walk_at "pad 0") => `(tactic| fail "pad")
local macro_rules | `(tactic| walk_at "pad 1") => `(tactic| fail "pad")
local macro_rules | `(tactic| walk_at "pad 2") => `(tactic| fail "pad")
local macro_rules | `(tactic| walk_at "pad 3") => `(tactic| fail "pad")
local macro_rules | `(tactic| walk_at "pad 4") => `(tactic| fail "pad")
local macro_rules | `(tactic| k_room) => `(tactic| ktr_room)
/-- x.find(y, i, j) -/
def fnd (x y : Str) (i j : Int) : Int := match Builtin.Str.occurrences x y (fromIndex x.length i) (min (fromIndex x.length j) x.length) 1 with | k :: _ => (k : Int) | [] => -1
theorem gives_fnd (x y : Str) (i j : Int) (t u v z : Tok) : PySem.Gives (Builtin.«str.find» ⟨[.str x t, .str y u, .int i v, .int j z], []⟩) (.int (fnd x y i j)) := by
  unfold fnd
  show PySem.Gives (match Builtin.Str.occurrences x y (fromIndex x.length i) (min (fromIndex x.length j) x.length) 1 with | k :: _ => retInt k | [] => (do rule "str.find.not-found"; retInt (-1))) _
  cases Builtin.Str.occurrences x y (fromIndex x.length i) (min (fromIndex x.length j) x.length) 1 with
  | nil => exact .rule (.of_eq rfl)
  | cons k _ => exact .of_eq rfl
theorem findS {prog : Program} {w : World} {A : Around} {E : Value → Shared → Prop} {s : Shared} {x y : Str} {i j : Int} {t u v z : Tok} {Q : Value → Shared → Prop} (hq : Q (.int (fnd x y i j) s.toks) { s with toks := s.toks + 1 }) : wpAny (model prog w) A (call (.builtin "str.find") [.str x t, .str y u, .int i v, .int j z]) Q E s :=
  call_gives F.slot_str_find (typeIs_str _ _ _) F.entry_str_find (F.args_str_find_4 _ _ _ _) (gives_fnd x y i j t u v z) hq
/-- the pieces, one behind the other -/
def findAll (got : Str) : List Str → Int → Bool
  | [], _ => true
  | y :: r, sp => if fnd got y sp (got.length : Int) < 0 then false else findAll got r (fnd got y sp (got.length : Int) + (y.length : Int))
theorem findAll_next {got : Str} {ps : List Str} {i : Nat} {y : Str} {sp : Int} {b : Bool} (hy : ps[i]? = some y) (h : findAll got (ps.drop i) sp = b) (hn : ¬ fnd got y sp (got.length : Int) < 0) : findAll got (ps.drop (i + 1)) (fnd got y sp (got.length : Int) + (y.length : Int)) = b := by
  obtain ⟨hi, e⟩ := List.getElem?_eq_some_iff.mp hy
  rw [List.drop_eq_getElem_cons hi, e] at h
  rw [findAll, if_neg hn] at h
  exact h
theorem findAll_stop {got : Str} {ps : List Str} {i : Nat} {y : Str} {sp : Int} {b : Bool} (hy : ps[i]? = some y) (h : findAll got (ps.drop i) sp = b) (hn : fnd got y sp (got.length : Int) < 0) : b = false := by
  obtain ⟨hi, e⟩ := List.getElem?_eq_some_iff.mp hy
  rw [List.drop_eq_getElem_cons hi, e] at h
  rw [findAll, if_pos hn] at h
  exact h.symm
theorem findAll_end {got : Str} {ps : List Str} {sp : Int} {b : Bool} (h : findAll got (ps.drop ps.length) sp = b) : b = true := by
  rw [List.drop_eq_nil_of_le (Nat.le_refl _)] at h
  exact h.symm
section
variable {prog : Program} {w : World} {A : Around} {E : Value → Shared → Prop} {s : Shared} {h₀ : Heap} {L l : Addr} {m : Str → Option Value} {news : List (Addr × Obj)}
theorem splitS {x y : Str} {t u : Tok} {ps : List Str} {Q : Value → Shared → Prop} (F : Fr h₀ L s.heap m) (N : News h₀ L s.heap news) (hsp : Txt.split x y = ps) (hy : (y.length == 0) = false) (hx : x.length ≤ 1000)
    (h : ∀ D vs h' k, StrsAre vs ps → Fr h₀ L h' m → News h₀ L h' ((D, W.listOf vs.toArray 0) :: news) → (∀ p ∈ news, p.1 < D) → Q (.ref D) { s with heap := h', toks := k }) :
    wpAny (model prog w) A (call (.builtin "str.split") [.str x t, .str y u]) Q E s := by
  refine splitN1A F N hy (fun l h' k e sa _ _ F' N' => ?_) (by rw [sizeLine_eq]; omega)
  rw [e, hsp] at sa
  exact h _ _ h' k sa F' N' fun p hp => Heap.lt_size (N p hp).1
theorem itemStrS {value slice : PySem.Expr} {vs : List Value} {ps : List Str} {k : Int} {n j : Nat} {u : Tok} {y : Str} {Q : Value → Shared → Prop} (N : News h₀ L s.heap news) (hm : (l, W.listOf vs.toArray n) ∈ news) (hs : StrsAre vs ps) (hlo : -(2 ^ 63) ≤ k) (hhi : k < 2 ^ 63) (hj : seqIndex? k ps.length = some j) (hx : ps[j]? = some y)
    (h : ∀ t, Q (.str y t) s)
    (he : subscripted slice false (.ref l) (.int k u) = operate [.ref l, .int k u] (getItem (.ref l) (.int k u)) := by with_unfolding_all rfl) :
    wpAny (model prog w) A (subscriptTail value slice (.ref l) (.int k u)) Q E s := by
  obtain ⟨t, ht⟩ := hs.get j y hx
  have hl : s.heap.IsList l vs.toArray := ⟨_, (N _ hm).1, rfl, n, rfl⟩
  by_cases h0 : k < 0
  · exact kde_neg hl h0 hlo (by rw [hs.length]; exact hj) ht (h t) he
  · have hk : k.toNat = j := by
      simp only [seqIndex?, if_neg h0] at hj
      split at hj
      · exact Option.some.inj hj
      · cases hj
    exact tail_any hl.typeIs slot_list_getitem.lookup (wpAny_getItem_list hl (by omega) hhi (by rw [hk]; simpa using ht) (h t)) he
theorem lenStrS {vs : List Value} {ps : List Str} {k : Nat} {Q : Value → Shared → Prop} (N : News h₀ L s.heap news) (hm : (l, W.listOf vs.toArray k) ∈ news) (hs : StrsAre vs ps) (hfit : (ps.length : Int) < 2 ^ 63)
    (h : Q (.int (ps.length : Int) (s.toks + 1)) { s with toks := s.toks + 1 + 1 }) : wpAny (model prog w) A (call (.builtin "len") [.ref l]) Q E s := kst_len N hm hs.length hfit h
end
theorem idxFirst {ps : List Str} {a : Str} : seqIndex? 0 (a :: ps).length = some 0 := by simp [seqIndex?]
theorem idxLast {ps : List Str} {a b : Str} : seqIndex? (-1) (a :: (ps ++ [b])).length = some (ps.length + 1) := by
  simp [seqIndex?]
  omega
theorem atLast {ps : List Str} {a b : Str} : (a :: (ps ++ [b]))[ps.length + 1]? = some b := by simp
section
variable {prog : Program} {w : World} {A : Around} {E : Value → Shared → Prop} {s : Shared} {env : Env} {h₀ : Heap} {x : Str} {body : List Stmt} {Q : Flow → Shared → Prop}
/-- a loop over a list of texts, the ledger as it is -/
theorem loopStrs {l : Addr} {vs : List Value} {ps : List Str} {k : Nat} {m₀ : Str → Option Value} {led : List (Addr × Obj)} (J : Nat → (Str → Option Value) → Prop)
    (hh : A.handled = none) (F : Fr h₀ env.locals s.heap m₀) (N : News h₀ env.locals s.heap led) (hm : (l, W.listOf vs.toArray k) ∈ led) (hs : StrsAre vs ps) (hj : J 0 m₀)
    (turn : ∀ (I : Addr) (it : Obj) (i : Nat) (y : Str) (t : Tok) (m₁ : Str → Option Value) (h : Heap) (tk : Nat), ps[i]? = some y → J i m₁ → (∀ p ∈ led, p.1 ≠ I) →
      Fr h₀ env.locals h (fun z => if z = x then some (.str y t) else m₁ z) → News h₀ env.locals h ((I, it) :: led) →
      wpAny (model prog w) A (execs body env) (UnrPost h₀ env.locals { s with heap := h, toks := tk } I it (fun m' n' => J (i + 1) m' ∧ n' = led) Q) E { s with heap := h, toks := tk })
    (done : ∀ (m₁ : Str → Option Value) (h : Heap) (tk : Nat), J ps.length m₁ → Fr h₀ env.locals h m₁ → News h₀ env.locals h led → Q .next { s with heap := h, toks := tk }) :
    wpAny (model prog w) A (pyIter (.ref l)) (fun it s₂ => LoopAtV prog w A h₀ env x body Q E it s₂) E s := by
  refine loopList (lo := W.listOf vs.toArray k) (vs := vs) (k := k) (fun i m n => J i m ∧ n = led) hh F N rfl rfl (fun i m n hJ => by rw [hJ.2]; exact hm) ⟨hj, rfl⟩ ?_ ?_
  · rintro I it i v m₁ news₁ h tk hv ⟨hJ, rfl⟩ off F₁ N₁
    obtain ⟨y, t, rfl, hy⟩ := hs.item _ _ hv
    exact turn I it i y t m₁ h tk hy hJ off F₁ N₁
  · rintro m₁ news₁ h tk ⟨hJ, rfl⟩ F₁ N₁
    rw [hs.length] at hJ
    exact done m₁ h tk hJ F₁ N₁
end
theorem newsTail {h₀ h : Heap} {L : Addr} {a b : Addr × Obj} (N : News h₀ L h [a, b]) : News h₀ L h [b] := newsSub N fun p hp => .tail _ hp
def ElM (got : Str) (sp : Int) (ts te tg : Tok) (u : Str → Option Value) : Str → Option Value := ovr [(Str.ofString "startpos", .int sp ts), (Str.ofString "endpos", .int (got.length : Int) te), (Str.ofString "got", .str got tg)] u
def ElJ (got : Str) (ps : List Str) (i : Nat) (m : Str → Option Value) : Prop := ∃ (sp : Int) (ts te tg : Tok) (u : Str → Option Value), m = ElM got sp ts te tg u ∧ findAll got (ps.drop i) sp = findAll got ps 0
theorem elJ_of {got : Str} {ps : List Str} {i : Nat} {m : Str → Option Value} {sp : Int} {ts te tg : Tok} (m1 : m (Str.ofString "startpos") = some (.int sp ts)) (m2 : m (Str.ofString "endpos") = some (.int (got.length : Int) te)) (m3 : m (Str.ofString "got") = some (.str got tg)) (h : findAll got (ps.drop i) sp = findAll got ps 0) : ElJ got ps i m := by
  refine ⟨sp, ts, te, tg, m, ovr_self ?_, h⟩
  intro p hp
  simp only [List.mem_cons, List.not_mem_nil, or_false] at hp
  rcases hp with rfl | rfl | rfl <;> assumption
theorem unrEndK {h₀ h' : Heap} {L I : Addr} {it : Obj} {J : (Str → Option Value) → Prop} {s₁ : Shared} {tk : Nat} {m' : Str → Option Value} {led : List (Addr × Obj)} (F : Fr h₀ L h' m') (N : News h₀ L h' ((I, it) :: led)) (off : ∀ p ∈ led, p.1 ≠ I) (r : J m') :
    UnrEnd h₀ L s₁ I it (fun m' n' => J m' ∧ n' = led) { s₁ with heap := h', toks := tk } := UnrEnd.intro F N led (fun _ hp => hp) off ⟨r, rfl⟩


local macro_rules | `(tactic| walk_at "call builtin:str.find") => `(tactic| (refine findS ?_))
local macro_rules | `(tactic| walk_at "call builtin:str.split") => `(tactic| (k_here; (with_reducible show wpAny _ _ (call (Value.builtin "str.split") _) _ _ _); k_dflt (refine' splitS ?k1 ?k2 (by assumption) ?k4 ?k5 ?_; (case k1 => k_asm); (case k2 => k_asm); (case k4 => decide +kernel); (case k5 => assumption); k_whole); intro D' vs' h' k' a' F' N' l1; (try k_lt l1); (try k_sweep)))
local macro_rules | `(tactic| walk_at "call builtin:len") => `(tactic| (k_here; (with_reducible show wpAny _ _ (call (Value.builtin "len") [Value.ref _]) _ _ _); k_dflt (refine' lenStrS ?k1 ?k2 ?k3 ?k4 ?_; (case k1 => k_asm); (case k2 => k_mem); (case k3 => assumption); (case k4 => omega); k_whole)))
local macro_rules | `(tactic| walk_at "subscriptTail Name Constant ref int") => `(tactic| (k_here; (with_reducible show wpAny _ _ (subscriptTail _ _ (Value.ref _) (Value.int _ _)) _ _ _); k_dflt (first | (refine' itemStrS ?k1 ?k2 ?k3 ?k4 ?k5 idxFirst rfl ?_ ?k7; (case k1 => k_asm); (case k2 => k_mem); (case k3 => assumption); (case k4 => decide); (case k5 => decide); (case k7 => with_unfolding_all rfl); k_whole) | (refine' itemStrS ?k1 ?k2 ?k3 ?k4 ?k5 idxLast atLast ?_ ?k7; (case k1 => k_asm); (case k2 => k_mem); (case k3 => assumption); (case k4 => decide); (case k5 => decide); (case k7 => with_unfolding_all rfl); k_whole)); intro t'))
local macro_rules | `(tactic| walk_at "subscriptTail Name UnaryOp ref int") => `(tactic| (k_here; (with_reducible show wpAny _ _ (subscriptTail _ _ (Value.ref _) (Value.int _ _)) _ _ _); k_dflt (first | (refine' itemStrS ?k1 ?k2 ?k3 ?k4 ?k5 idxFirst rfl ?_ ?k7; (case k1 => k_asm); (case k2 => k_mem); (case k3 => assumption); (case k4 => decide); (case k5 => decide); (case k7 => with_unfolding_all rfl); k_whole) | (refine' itemStrS ?k1 ?k2 ?k3 ?k4 ?k5 idxLast atLast ?_ ?k7; (case k1 => k_asm); (case k2 => k_mem); (case k3 => assumption); (case k4 => decide); (case k5 => decide); (case k7 => with_unfolding_all rfl); k_whole)); intro t'))

theorem ell_is (w : World) (mean : ExcName → Option Value) (mg mb : Str → Option Value) (want got : Str) (mid : List Str) (t u : Tok) (hw : want.length ≤ 1000) (hg : got.length ≤ 1000) (hin : (Builtin.Str.occurrences want (Str.ofString "...") 0 want.length 1).isEmpty = false) (hsp : Txt.split want (Str.ofString "...") = Str.ofString "" :: (mid ++ [Str.ofString ""])) (hml : ((Str.ofString "" :: (mid ++ [Str.ofString ""])).length : Int) ≤ 100) (hpl : ∀ y ∈ (Str.ofString "" :: (mid ++ [Str.ofString ""])), y.length ≤ 1000) (hm2 : 2 ≤ ((Str.ofString "" :: (mid ++ [Str.ofString ""])).length : Int)) : Gives w mean mg mb 2 35 [] [.str want t, .str got u] (fun h h' v => v = .bool (findAll got (Str.ofString "" :: (mid ++ [Str.ofString ""])) 0)) := by
  w_on
  unfold Gives
  k_fill
  intro dp un gd cn cs a ccd cl outer A₀ base h₀ L m s R B F X N T hk hdp hun hret
  k_dflt (refine' enterS (binds := [(Str.ofString "want", .str want t), (Str.ofString "got", .str got u)]) B F X N T ?kA ?kF ?kK ?k6 ?k7 ?k8 ?k9 ?kB ?_ ?c2 ?c3 ?c4 ?c5; (case kA => exact rfl); (case kF => exact rfl); (case kK => exact hk); (case k6 => k_is); (case k7 => k_is); (case k8 => ktr_room); (case k9 => exact BindsTo.of_eq rfl); (case c5 => decide); (case kB => exact locs rfl); (case c2 => exact rfl); (case c3 => exact rfl); (case c4 => exact rfl); k_whole)
  intro g L' h₁ tk₁ F' N' B' X' T' lt' hgs hnew
  clear B F X N T
  (try dsimp only)
  (try k_fold)
  repeat' ((fail_if_success (with_reducible show wpAny _ _ (pyIter _) _ _ _)); (first | (k_unfold; (try dsimp only)) | (k_end; wrow_close) | walk1 | (dsimp only; walk1) | (leave1; walk_say "STEP leave1"; try dsimp only) | fail "no step"))
  k_dflt (refine loopStrs (ElJ got (Str.ofString "" :: (mid ++ [Str.ofString ""]))) rfl (by k_asm) (newsTail (by k_asm)) (List.Mem.head _) (by assumption) (elJ_of rfl rfl rfl rfl) ?turn ?done)
  case done =>
    (rename Fr _ _ _ _ => Fo); (rename News _ _ _ _ => No); clear Fo No
    intro m₁ h2 tk2 hJ F2 N2
    obtain ⟨sp, ts, te, tg, u', rfl, hfa⟩ := hJ
    (try dsimp only)
    (try k_fold)
    k_steps
    show R (.ok (.ret (.bool _))) _
    exact hret _ _ _ (hgs _ (Fr.keep (by k_asm)) (fun p hp => nomatch hp)) (congrArg Value.bool (findAll_end hfa).symm)
  case turn =>
    (rename Fr _ _ _ _ => Fo); (rename News _ _ _ _ => No); clear Fo No
    intro I it i wd tw m₁ h2 tk2 hwd hJ hoff F2 N2
    obtain ⟨sp, ts, te, tg, u', rfl, hfa⟩ := hJ
    have hwl : wd.length ≤ 1000 := hpl wd (List.mem_of_getElem? hwd)
    (try dsimp only)
    (try k_fold)
    k_steps
    · show R (.ok (.ret (.bool _))) _
      exact hret _ _ _ (hgs _ (Fr.keep (by k_asm)) (fun p hp => nomatch hp)) (congrArg Value.bool (findAll_stop hwd hfa (by assumption)).symm)
    · exact unrEndK (by k_asm) (by k_asm) hoff (elJ_of rfl rfl rfl (findAll_next hwd hfa (by assumption)))



end Mine
namespace Mine
theorem newsDrop4 {h₀ h : Heap} {L : Addr} {a b c d e : Addr × Obj} {r : List (Addr × Obj)} (N : News h₀ L h (a :: b :: c :: d :: e :: r)) : News h₀ L h (a :: r) := newsSub N fun p hp => by
  rcases List.mem_cons.mp hp with rfl | hp
  · exact .head _
  · exact .tail _ (.tail _ (.tail _ (.tail _ (.tail _ hp))))
theorem cellT {o : Obj} {k : Int} {t : Tok} (h : o.data = .cell (some (.int k t))) : ∃ t, o.data = .cell (some (.int k t)) := ⟨t, h⟩
theorem pOk {n q : Int} (hq2 : q = 8 ∨ q = 4) (hq3 : q.fdiv 2 = 4 ∨ q.fdiv 2 = 2) : 1 + 2 * (n.fdiv 2).fmod (q.fdiv 2) = 1 ∨ 1 + 2 * (n.fdiv 2).fmod (q.fdiv 2) = 3 ∨ (q = 8 ∧ (1 + 2 * (n.fdiv 2).fmod (q.fdiv 2) = 5 ∨ 1 + 2 * (n.fdiv 2).fmod (q.fdiv 2) = 7)) := by
  rcases hq2 with rfl | rfl
  · have e : (8 : Int).fdiv 2 = 4 := by decide
    rw [e, Int.fmod_eq_emod_of_nonneg _ (by decide)]
    omega
  · have e : (4 : Int).fdiv 2 = 2 := by decide
    rw [e, Int.fmod_eq_emod_of_nonneg _ (by decide)]
    omega
theorem yOk {n q : Int} (hq2 : q = 8 ∨ q = 4) : 0 ≤ (n.fdiv 16).fmod (2 * q) ∧ (n.fdiv 16).fmod (2 * q) < 2 * q := by
  rw [Int.fmod_eq_emod_of_nonneg _ (by omega)]
  exact ⟨Int.emod_nonneg _ (by omega), Int.emod_lt_of_pos _ (by omega)⟩
def sgS (k q : Int) : Str := ⟨#[(sgC k q).toNat]⟩
theorem upTo_mem {r : List Int} {n : Nat} (h : r.Perm (upTo n)) {k : Int} (hk : k ∈ r) : 0 ≤ k ∧ k < (n : Int) := by
  have := h.mem_iff.mp hk
  simp only [upTo, List.mem_map, List.mem_range] at this
  obtain ⟨i, hi, rfl⟩ := this
  omega
theorem mulB {k p q : Int} (hk : 0 ≤ k ∧ k < (q.toNat : Int)) (hq : q = 8 ∨ q = 4) (hp : p = 1 ∨ p = 3 ∨ q = 8 ∧ (p = 5 ∨ p = 7)) : 0 ≤ k * p ∧ k * p ≤ 7 * q - 7 := by
  rcases hp with rfl | rfl | ⟨rfl, rfl | rfl⟩ <;> omega
theorem perm_len {r : List Int} {n : Nat} (h : r.Perm (upTo n)) : r.length = n := by
  rw [h.length_eq]; simp [upTo]
theorem rowSize {vr : List Value} {r : List Int} {q : Int} (hi : IntsAre vr r) (hp : r.Perm (upTo q.toNat)) (hq : q = 8 ∨ q = 4) : vr.toArray.size ≤ sizeLine := by
  rw [PySem.sizeLine_eq, List.size_toArray, IntsAre.length hi, perm_len hp]
  omega
theorem hueB {y k p q : Int} (hy : 0 ≤ y ∧ y < 2 * q) (hk : 0 ≤ k * p ∧ k * p ≤ 7 * q - 7) (hq : q = 8 ∨ q = 4) : 0 ≤ y + k * p ∧ y + k * p ≤ 64 := by
  generalize k * p = z at *
  omega
theorem qNe {q : Int} (hq : q = 8 ∨ q = 4) : q ≠ 0 := by omega
theorem signOk_all {p q : Int} (hp : 0 ≤ p ∧ p ≤ 64) (hq : q = 8 ∨ q = 4) : SignOk p q := by
  have h := List.all_eq_true.mp sign_all p.toNat (List.mem_range.mpr (by omega))
  have e : ((p.toNat : Nat) : Int) = p := by omega
  rw [e] at h
  simp only [Bool.and_eq_true] at h
  rcases hq with rfl | rfl
  · exact signOk_of h.1.1.2
  · exact signOk_of h.1.1.1
section
variable {prog : Program} {w : World} {A : Around} {E : Value → Shared → Prop} {s : Shared} {h₀ : Heap} {L l : Addr} {m : Str → Option Value} {news : List (Addr × Obj)}
/-- an item of a list of the ledger, by its place -/
theorem itemL {value slice : PySem.Expr} {vs : List Value} {n i : Nat} {k : Int} {u : Tok} {v : Value} {Q : Value → Shared → Prop} (N : News h₀ L s.heap news) (hm : (l, W.listOf vs.toArray n) ∈ news) (hk : k = (i : Int)) (hi : (i : Int) < 1000) (hv : vs[i]? = some v) (h : Q v s)
    (he : subscripted slice false (.ref l) (.int k u) = operate [.ref l, .int k u] (getItem (.ref l) (.int k u)) := by with_unfolding_all rfl) :
    wpAny (model prog w) A (subscriptTail value slice (.ref l) (.int k u)) Q E s := by
  have hl : s.heap.IsList l vs.toArray := ⟨_, (N _ hm).1, rfl, n, rfl⟩
  have hk' : k.toNat = i := by omega
  exact tail_any hl.typeIs slot_list_getitem.lookup (wpAny_getItem_list hl (by omega) (by omega) (by rw [hk']; simpa using hv) h) he
theorem getMap {α : Type} {r : List Int} {i : Nat} (hi : i < r.length) (f : Int → α) : (r.map f)[i]? = some (f (r.getD i 0)) := by
  simp [List.getD, hi]
theorem itemInt {value slice : PySem.Expr} {vs : List Value} {r : List Int} {n i : Nat} {k : Int} {u : Tok} {Q : Value → Shared → Prop} (N : News h₀ L s.heap news) (hm : (l, W.listOf vs.toArray n) ∈ news) (hI : IntsAre vs r) (hk : k = (i : Int)) (hi : i < r.length) (hr : r.length ≤ 100) (h : ∀ t, Q (.int (r.getD i 0) t) s)
    (he : subscripted slice false (.ref l) (.int k u) = operate [.ref l, .int k u] (getItem (.ref l) (.int k u)) := by with_unfolding_all rfl) :
    wpAny (model prog w) A (subscriptTail value slice (.ref l) (.int k u)) Q E s := by
  obtain ⟨t, ht⟩ := hI.get i (r.getD i 0) (by simp [List.getD, hi])
  exact itemL N hm hk (by omega) ht (h t) he
theorem itemMap {value slice : PySem.Expr} {vs : List Value} {r : List Int} {f : Int → Int} {n i : Nat} {k : Int} {u : Tok} {Q : Value → Shared → Prop} (N : News h₀ L s.heap news) (hm : (l, W.listOf vs.toArray n) ∈ news) (hI : IntsAre vs (r.map f)) (hk : k = (i : Int)) (hi : i < r.length) (hr : r.length ≤ 100) (h : ∀ t, Q (.int (f (r.getD i 0)) t) s)
    (he : subscripted slice false (.ref l) (.int k u) = operate [.ref l, .int k u] (getItem (.ref l) (.int k u)) := by with_unfolding_all rfl) :
    wpAny (model prog w) A (subscriptTail value slice (.ref l) (.int k u)) Q E s := by
  obtain ⟨t, ht⟩ := hI.get i (f (r.getD i 0)) (getMap hi f)
  exact itemL N hm hk (by omega) ht (h t) he
theorem itemSgn {value slice : PySem.Expr} {vs : List Value} {r : List Int} {f : Int → Str} {n i : Nat} {k : Int} {u : Tok} {Q : Value → Shared → Prop} (N : News h₀ L s.heap news) (hm : (l, W.listOf vs.toArray n) ∈ news) (hI : CarriedAll vs (r.map fun k => PyData.str (f k))) (hk : k = (i : Int)) (hi : i < r.length) (hr : r.length ≤ 100) (h : ∀ t, Q (.str (f (r.getD i 0)) t) s)
    (he : subscripted slice false (.ref l) (.int k u) = operate [.ref l, .int k u] (getItem (.ref l) (.int k u)) := by with_unfolding_all rfl) :
    wpAny (model prog w) A (subscriptTail value slice (.ref l) (.int k u)) Q E s := by
  obtain ⟨t, ht⟩ := (CarriedAll.strsOf hI).get i (f (r.getD i 0)) (getMap hi f)
  exact itemL N hm hk (by omega) ht (h t) he
end
theorem sgS_len (k q : Int) : (sgS k q).length = 1 := rfl
theorem dots_len : (Str.ofString "...").length = 3 := by decide +kernel
/-- what _ellipsis_match says of a pattern that opens and ends with dots -/
structure EllFit (want got : Str) (mid : List Str) (b : Bool) : Prop where
  hw : want.length ≤ 1000
  hg : got.length ≤ 1000
  hin : (Builtin.Str.occurrences want (Str.ofString "...") 0 want.length 1).isEmpty = false
  hsp : Txt.split want (Str.ofString "...") = Str.ofString "" :: (mid ++ [Str.ofString ""])
  hml : ((Str.ofString "" :: (mid ++ [Str.ofString ""])).length : Int) ≤ 100
  hpl : ∀ y ∈ (Str.ofString "" :: (mid ++ [Str.ofString ""])), y.length ≤ 1000
  hm2 : 2 ≤ ((Str.ofString "" :: (mid ++ [Str.ofString ""])).length : Int)
  res : findAll got (Str.ofString "" :: (mid ++ [Str.ofString ""])) 0 = b
theorem ell_fit (w : World) (mean : ExcName → Option Value) (mg mb : Str → Option Value) {want got : Str} {mid : List Str} {b : Bool} (X : EllFit want got mid b) (t u : Tok) : Gives w mean mg mb 2 35 [] [.str want t, .str got u] (fun h h' v => v = .bool b) := by
  have := ell_is w mean mg mb want got mid t u X.hw X.hg X.hin X.hsp X.hml X.hpl X.hm2
  rw [X.res] at this
  exact this
/-- pairs of the row, the later one first, that f takes -/
def cntIn (f : Int → Int → Bool) (r : List Int) (j : Nat) : Nat → Int
  | 0 => 0
  | i + 1 => cntIn f r j i + (if f (r.getD j 0) (r.getD i 0) then 1 else 0)
def cntOut (f : Int → Int → Bool) (r : List Int) : Nat → Int
  | 0 => 0
  | j + 1 => cntOut f r j + cntIn f r j j
theorem cntIn_yes {f : Int → Int → Bool} {r : List Int} {j i : Nat} (h : f (r.getD j 0) (r.getD i 0) = true) : cntIn f r j (i + 1) = cntIn f r j i + 1 := by
  show cntIn f r j i + _ = _
  rw [if_pos h]
theorem cntIn_no {f : Int → Int → Bool} {r : List Int} {j i : Nat} (h : f (r.getD j 0) (r.getD i 0) = false) : cntIn f r j (i + 1) = cntIn f r j i := by
  show cntIn f r j i + _ = _
  rw [h]; simp
theorem cntIn_le (f : Int → Int → Bool) (r : List Int) (j : Nat) : ∀ i : Nat, 0 ≤ cntIn f r j i ∧ cntIn f r j i ≤ i
  | 0 => by simp [cntIn]
  | i + 1 => by
    have := cntIn_le f r j i
    show 0 ≤ cntIn f r j i + _ ∧ cntIn f r j i + _ ≤ _
    split <;> omega
theorem cntOut_le (f : Int → Int → Bool) (r : List Int) : ∀ j : Nat, 0 ≤ cntOut f r j ∧ cntOut f r j ≤ (j : Int) * 100 ∨ 100 < j
  | 0 => by simp [cntOut]
  | j + 1 => by
    rcases cntOut_le f r j with h | h
    · by_cases hj : 100 < j + 1
      · exact .inr hj
      · left
        have := cntIn_le f r j j
        show 0 ≤ cntOut f r j + _ ∧ cntOut f r j + _ ≤ _
        omega
    · right; omega
def fW (y p q : Int) (b a : Int) : Bool := decide ((y + b * p) % q < (y + a * p) % q)
def fC (b a : Int) : Bool := decide (b < a)
def L6M (SG lr : Addr) (rd : Str) (wr cr : Int) (tw tc td : Tok) (u : Str → Option Value) : Str → Option Value :=
  ovr [(Str.ofString "wrong", .int wr tw), (Str.ofString "crossed", .int cr tc), (Str.ofString "signs", .ref SG), (Str.ofString "road", .str rd td), (Str.ofString "row", .ref lr)] u
def L6J (SG lr : Addr) (rd : Str) (r : List Int) (y p q : Int) (led : List (Addr × Obj)) (j : Nat) (m : Str → Option Value) (news : List (Addr × Obj)) : Prop :=
  ∃ (wr cr : Int) (tw tc td : Tok) (u : Str → Option Value), m = L6M SG lr rd wr cr tw tc td u ∧ news = led ∧ wr = cntOut (fW y p q) r j ∧ cr = cntOut fC r j
theorem l6J_of {SG lr : Addr} {rd : Str} {r : List Int} {y p q : Int} {led : List (Addr × Obj)} {j : Nat} {m : Str → Option Value} {wr cr : Int} {tw tc td : Tok} (m1 : m (Str.ofString "wrong") = some (.int wr tw)) (m2 : m (Str.ofString "crossed") = some (.int cr tc)) (m3 : m (Str.ofString "signs") = some (.ref SG)) (m4 : m (Str.ofString "road") = some (.str rd td)) (m5 : m (Str.ofString "row") = some (.ref lr))
    (h1 : wr = cntOut (fW y p q) r j) (h2 : cr = cntOut fC r j) : L6J SG lr rd r y p q led j m led := by
  refine ⟨wr, cr, tw, tc, td, m, ovr_self ?_, rfl, h1, h2⟩
  intro p hp
  simp only [List.mem_cons, List.not_mem_nil, or_false] at hp
  rcases hp with rfl | rfl | rfl | rfl | rfl <;> assumption
def L7M (SG lr : Addr) (rd : Str) (j : Int) (wr cr : Int) (tj tw tc td : Tok) (u : Str → Option Value) : Str → Option Value :=
  ovr [(Str.ofString "wrong", .int wr tw), (Str.ofString "crossed", .int cr tc), (Str.ofString "signs", .ref SG), (Str.ofString "road", .str rd td), (Str.ofString "row", .ref lr), (Str.ofString "j", .int j tj)] u
def L7J (SG lr : Addr) (rd : Str) (r : List Int) (y p q : Int) (jv : Int) (j : Nat) (led : List (Addr × Obj)) (i : Nat) (m : Str → Option Value) (news : List (Addr × Obj)) : Prop :=
  ∃ (wr cr : Int) (tj tw tc td : Tok) (u : Str → Option Value), m = L7M SG lr rd jv wr cr tj tw tc td u ∧ news = led ∧ wr = cntOut (fW y p q) r j + cntIn (fW y p q) r j i ∧ cr = cntOut fC r j + cntIn fC r j i
theorem l7J_of {SG lr : Addr} {rd : Str} {r : List Int} {y p q jv : Int} {led : List (Addr × Obj)} {j i : Nat} {m : Str → Option Value} {wr cr : Int} {tj tw tc td : Tok} (m1 : m (Str.ofString "wrong") = some (.int wr tw)) (m2 : m (Str.ofString "crossed") = some (.int cr tc)) (m3 : m (Str.ofString "signs") = some (.ref SG)) (m4 : m (Str.ofString "road") = some (.str rd td)) (m5 : m (Str.ofString "row") = some (.ref lr)) (m6 : m (Str.ofString "j") = some (.int jv tj))
    (h1 : wr = cntOut (fW y p q) r j + cntIn (fW y p q) r j i) (h2 : cr = cntOut fC r j + cntIn fC r j i) : L7J SG lr rd r y p q jv j led i m led := by
  refine ⟨wr, cr, tj, tw, tc, td, m, ovr_self ?_, rfl, h1, h2⟩
  intro p hp
  simp only [List.mem_cons, List.not_mem_nil, or_false] at hp
  rcases hp with rfl | rfl | rfl | rfl | rfl | rfl <;> assumption
/-- the places where the row steps down -/
def dsc (f : Int → Int) (r : List Int) (l : List Int) (k : Int) : List Int := if f (r.getD k.toNat 0) < f (r.getD (k - 1).toNat 0) then l ++ [k] else l
end Mine
namespace Mine
section
open Builtin Builtin.Str StrLaws
theorem runKept (s sub : Str) (hi k f : Nat) : ∀ l : List Nat, (forIn l ((#[k] : Array Nat), f) (occBody s sub hi 1)).run.fst = #[k]
  | [] => rfl
  | a :: l => by
    rw [List.forIn_cons]
    have e : occBody s sub hi 1 a ((#[k] : Array Nat), f) = pure (ForInStep.yield ((#[k] : Array Nat), f)) := by
      unfold occBody
      rw [if_neg]
      rintro ⟨⟨⟨h, _⟩, _⟩, _⟩
      simp at h
    rw [e]
    exact runKept s sub hi k f l
theorem runFirst (s sub : Str) (hi : Nat) : ∀ (n cur k free : Nat), free ≤ cur → cur ≤ k → k < cur + n → At s sub hi k → (∀ j, cur ≤ j → j < k → ¬ At s sub hi j) → (forIn (List.range' cur n) ((#[] : Array Nat), free) (occBody s sub hi 1)).run.fst = #[k]
  | 0, cur, k, free, _, h1, h2, _, _ => absurd h2 (by omega)
  | n + 1, cur, k, free, hf, h1, h2, hA, hn => by
    rw [List.range'_succ, List.forIn_cons]
    by_cases e : cur = k
    · subst e
      have e2 : occBody s sub hi 1 cur ((#[] : Array Nat), free) = pure (ForInStep.yield ((#[] : Array Nat).push cur, cur + sub.length)) := by
        unfold occBody
        rw [if_pos ⟨⟨⟨by simp, hf⟩, hA.1⟩, hA.2⟩]
      rw [e2]
      exact runKept s sub hi cur _ _
    · have e2 : occBody s sub hi 1 cur ((#[] : Array Nat), free) = pure (ForInStep.yield ((#[] : Array Nat), free)) := by
        unfold occBody
        rw [if_neg]
        rintro ⟨⟨_, h3⟩, h4⟩
        exact hn cur (Nat.le_refl _) (by omega) ⟨h3, h4⟩
      rw [e2]
      exact runFirst s sub hi n (cur + 1) k free (by omega) (by omega) (by omega) hA (fun j hj hk => hn j (by omega) hk)
theorem fromIdx (len i : Nat) : fromIndex len (i : Int) = i := by
  unfold fromIndex
  rw [if_neg (by omega)]
  omega
theorem fnd_some {x y : Str} {lo k : Nat} (h : lo ≤ k) (hA : At x y x.length k) (hn : ∀ j, lo ≤ j → j < k → ¬ At x y x.length j) : fnd x y (lo : Int) (x.length : Int) = (k : Int) := by
  unfold fnd
  rw [fromIdx, fromIdx, Nat.min_self, occ_eq]
  rw [runFirst x y x.length _ lo k lo (Nat.le_refl _) h (by have := hA.1; omega) hA hn]
theorem fnd_none {x y : Str} {lo : Nat} (hn : ∀ j, lo ≤ j → ¬ At x y x.length j) : fnd x y (lo : Int) (x.length : Int) = -1 := by
  unfold fnd
  rw [fromIdx, fromIdx, Nat.min_self, occ_eq]
  have := (occ_none x y x.length (List.range' lo (x.length + 1 - lo)) lo (fun i hi => (List.mem_range'_1.mp hi).1)).mpr (fun i hi hA => hn i (List.mem_range'_1.mp hi).1 hA)
  rw [this]
theorem fnd_nil {x : Str} {lo : Nat} (h : lo ≤ x.length) : fnd x (Str.ofString "") (lo : Int) (x.length : Int) = (lo : Int) := by
  refine fnd_some (Nat.le_refl _) ⟨by show lo + 0 ≤ _; omega, ?_⟩ (fun j h1 h2 => by omega)
  rw [subAt_eq]
  show ((x.cps.toList.drop lo).take 0 == []) = true
  rw [List.take_zero]; rfl
/-- m times the road -/
theorem getRep (R : List Nat) (hR : 0 < R.length) : ∀ (m k : Nat), (List.replicate m R).flatten[k]? = if k < m * R.length then R[k % R.length]? else none
  | 0, k => by simp
  | m + 1, k => by
    rw [List.replicate_succ, List.flatten_cons, List.getElem?_append]
    rw [Nat.succ_mul]
    by_cases h : k < R.length
    · rw [if_pos h, if_pos (by omega), Nat.mod_eq_of_lt h]
    · rw [if_neg h, getRep R hR m]
      have e : (k - R.length) % R.length = k % R.length := by
        rw [← Nat.mod_eq_sub_mod (by omega)]
      rw [e]
      by_cases h2 : k < m * R.length + R.length
      · rw [if_pos h2, if_pos (by omega)]
      · rw [if_neg h2, if_neg (by omega)]
/-- one sign -/
def one (c : Nat) : Str := ⟨#[c]⟩
structure Road (R : List Nat) (m : Nat) (X : Str) : Prop where
  pos : 0 < R.length
  nd : R.Nodup
  txt : X.cps.toList = (List.replicate m R).flatten
theorem Road.len {R : List Nat} {m : Nat} {X : Str} (h : Road R m X) : X.length = m * R.length := by
  have : X.cps.toList.length = (List.replicate m R).flatten.length := congrArg _ h.txt
  simp at this
  exact this
theorem Road.at {R : List Nat} {m : Nat} {X : Str} (h : Road R m X) {a c k : Nat} (hc : R[a]? = some c) : At X (one c) X.length k ↔ k < m * R.length ∧ k % R.length = a := by
  have ha : a < R.length := (List.getElem?_eq_some_iff.mp hc).1
  unfold At
  rw [show (k + (one c).length ≤ X.length ∧ subAt X (one c) k = true) ↔ X.cps.toList[k]? = some c from subAt_one X c k, h.txt, getRep R h.pos]
  constructor
  · intro e
    split at e
    · rename_i hk
      refine ⟨hk, ?_⟩
      obtain ⟨h1, e1⟩ := List.getElem?_eq_some_iff.mp e
      obtain ⟨h2, e2⟩ := List.getElem?_eq_some_iff.mp hc
      exact (List.getElem_inj h.nd).mp (e1.trans e2.symm)
    · cases e
  · rintro ⟨hk, rfl⟩
    rw [if_pos hk, hc]
theorem modq {q d a k : Nat} (ha : a < q) : (q * d + a) % q = a := by
  rw [Nat.mul_add_mod, Nat.mod_eq_of_lt ha]
/-- the next place a, behind place b of lap d -/
def lapOf (a b d : Nat) : Nat := if a ≤ b then d + 1 else d
theorem lap_first {q a b d j : Nat} (ha : a < q) (hb : b < q) (h1 : q * d + b + 1 ≤ j) (h2 : j < q * lapOf a b d + a) : j % q ≠ a := by
  intro e
  have hj : j = q * (j / q) + a := by rw [← e]; exact (Nat.div_add_mod j q).symm
  generalize j / q = t at hj
  subst hj
  unfold lapOf at h2
  split at h2
  · have : t < d + 1 := Nat.lt_of_mul_lt_mul_left (a := q) (by omega)
    have h3 : q * t ≤ q * d := Nat.mul_le_mul_left q (by omega)
    omega
  · have h4 : t < d := Nat.lt_of_mul_lt_mul_left (a := q) (by omega)
    have h3 : q * (t + 1) ≤ q * d := Nat.mul_le_mul_left q (by omega)
    rw [Nat.mul_succ] at h3
    omega
theorem lap_ge {q a b d : Nat} (hb : b < q) : q * d + b + 1 ≤ q * lapOf a b d + a := by
  unfold lapOf
  split
  · rw [Nat.mul_succ]; omega
  · omega
theorem Road.step {R : List Nat} {m : Nat} {X : Str} (h : Road R m X) {a b d c : Nat} (hc : R[a]? = some c) (hb : b < R.length) :
    fnd X (one c) ((R.length * d + b + 1 : Nat) : Int) (X.length : Int) = if lapOf a b d < m then ((R.length * lapOf a b d + a : Nat) : Int) else -1 := by
  have ha : a < R.length := (List.getElem?_eq_some_iff.mp hc).1
  split
  · rename_i hm
    refine fnd_some (lap_ge hb) ((h.at hc).mpr ⟨?_, modq (k := 0) ha⟩) (fun j h1 h2 hA => lap_first ha hb h1 h2 ((h.at hc).mp hA).2)
    have : R.length * (lapOf a b d + 1) ≤ R.length * m := Nat.mul_le_mul_left _ hm
    rw [Nat.mul_succ] at this
    rw [Nat.mul_comm m]
    omega
  · rename_i hm
    refine fnd_none (fun j h1 hA => ?_)
    obtain ⟨h2, h3⟩ := (h.at hc).mp hA
    by_cases h4 : j < R.length * lapOf a b d + a
    · exact lap_first ha hb h1 h4 h3
    · have : R.length * m ≤ R.length * lapOf a b d := Nat.mul_le_mul_left _ (by omega)
      rw [Nat.mul_comm m] at h2
      omega
theorem Road.first {R : List Nat} {m : Nat} {X : Str} (h : Road R m X) {a c : Nat} (hc : R[a]? = some c) :
    fnd X (one c) ((0 : Nat) : Int) (X.length : Int) = if 0 < m then (a : Int) else -1 := by
  have ha : a < R.length := (List.getElem?_eq_some_iff.mp hc).1
  split
  · rename_i hm
    refine fnd_some (Nat.zero_le _) ((h.at hc).mpr ⟨?_, Nat.mod_eq_of_lt ha⟩) (fun j _ h2 hA => ?_)
    · exact Nat.lt_of_lt_of_le ha (Nat.le_mul_of_pos_left _ hm)
    · have := ((h.at hc).mp hA).2
      rw [Nat.mod_eq_of_lt (by omega)] at this
      omega
  · rename_i hm
    refine fnd_none (fun j _ hA => ?_)
    have := ((h.at hc).mp hA).1
    have e : m = 0 := by omega
    subst e
    simp at this
/-- how often the places step down -/
def downs : Nat → List Nat → Nat
  | _, [] => 0
  | b, a :: l => (if a ≤ b then 1 else 0) + downs a l
theorem Road.run {R : List Nat} {m : Nat} {X : Str} (h : Road R m X) (g : Nat → Str) : ∀ (l : List Nat) (d b : Nat), (∀ a ∈ l, ∃ c, R[a]? = some c ∧ g a = one c) → b < R.length → d < m →
    findAll X (l.map g ++ [Str.ofString ""]) ((R.length * d + b + 1 : Nat) : Int) = decide (d + downs b l < m)
  | [], d, b, _, hb, hd => by
    have hl : R.length * d + b + 1 ≤ X.length := by
      rw [h.len, Nat.mul_comm m]
      have : R.length * (d + 1) ≤ R.length * m := Nat.mul_le_mul_left _ hd
      rw [Nat.mul_succ] at this
      omega
    show (if fnd X (Str.ofString "") _ _ < 0 then false else findAll X [] _) = _
    rw [fnd_nil hl, if_neg (by omega)]
    simp [findAll, downs, hd]
  | a :: l, d, b, hg, hb, hd => by
    obtain ⟨c, hc, e⟩ := hg a (.head _)
    have ha : a < R.length := (List.getElem?_eq_some_iff.mp hc).1
    show (if fnd X (g a) _ _ < 0 then false else findAll X (l.map g ++ [Str.ofString ""]) (fnd X (g a) _ _ + ((g a).length : Int))) = _
    rw [e, h.step hc hb]
    have hdn : d + downs b (a :: l) = lapOf a b d + downs a l := by
      show d + ((if a ≤ b then 1 else 0) + downs a l) = _
      unfold lapOf
      split <;> omega
    rw [hdn]
    by_cases hm : lapOf a b d < m
    · rw [if_pos hm, if_neg (by omega)]
      exact Road.run h g l (lapOf a b d) a (fun z hz => hg z (.tail _ hz)) ha hm
    · rw [if_neg hm, if_pos (by decide)]
      exact (decide_eq_false (by omega)).symm
theorem Road.whole {R : List Nat} {m : Nat} {X : Str} (h : Road R m X) (g : Nat → Str) {a : Nat} {l : List Nat} (hg : ∀ z ∈ a :: l, ∃ c, R[z]? = some c ∧ g z = one c) :
    findAll X (Str.ofString "" :: ((a :: l).map g ++ [Str.ofString ""])) 0 = decide (downs a l < m) := by
  obtain ⟨c, hc, e⟩ := hg a (.head _)
  have ha : a < R.length := (List.getElem?_eq_some_iff.mp hc).1
  show (if fnd X (Str.ofString "") ((0 : Nat) : Int) _ < 0 then false else findAll X ((a :: l).map g ++ [Str.ofString ""]) (fnd X (Str.ofString "") ((0 : Nat) : Int) _ + 0)) = _
  rw [fnd_nil (Nat.zero_le _), if_neg (by omega)]
  show (if fnd X (g a) ((0 : Nat) : Int) _ < 0 then false else findAll X (l.map g ++ [Str.ofString ""]) (fnd X (g a) ((0 : Nat) : Int) _ + ((g a).length : Int))) = _
  rw [e, h.first hc]
  by_cases hm : 0 < m
  · rw [if_pos hm, if_neg (by omega)]
    have := h.run g l 0 a (fun z hz => hg z (.tail _ hz)) ha hm
    rw [Nat.mul_zero, Nat.zero_add, Nat.zero_add] at this
    exact this
  · rw [if_neg hm, if_pos (by decide)]
    exact (decide_eq_false (by omega)).symm
end
end Mine
namespace Mine
section
open Builtin Builtin.Str StrLaws
/-- each sign, and dots behind it -/
def vine : List Nat → List Nat
  | [] => []
  | c :: r => c :: 46 :: 46 :: 46 :: vine r
theorem vine_at : ∀ (cs : List Nat) (k : Nat), (vine cs)[k]? = if k < 4 * cs.length then (if k % 4 = 0 then cs[k / 4]? else some 46) else none
  | [], k => by simp [vine]
  | c :: cs, 0 => by simp [vine]
  | c :: cs, 1 => by
    show some 46 = _
    rw [if_pos (by simp; omega), if_neg (by decide)]
  | c :: cs, 2 => by
    show some 46 = _
    rw [if_pos (by simp; omega), if_neg (by decide)]
  | c :: cs, 3 => by
    show some 46 = _
    rw [if_pos (by simp; omega), if_neg (by decide)]
  | c :: cs, k + 4 => by
    show (vine cs)[k]? = _
    rw [vine_at cs k]
    have e : (k + 4) / 4 = k / 4 + 1 := by omega
    rw [e, show (k + 4) % 4 = k % 4 by omega, List.getElem?_cons_succ, List.length_cons]
    by_cases h : k < 4 * cs.length
    · rw [if_pos h, if_pos (show k + 4 < 4 * (cs.length + 1) by omega)]
    · rw [if_neg h, if_neg (show ¬ k + 4 < 4 * (cs.length + 1) by omega)]
theorem vine_len : ∀ cs : List Nat, (vine cs).length = 4 * cs.length
  | [] => rfl
  | c :: r => by
    show (vine r).length + 1 + 1 + 1 + 1 = 4 * (r.length + 1)
    rw [vine_len r]; omega
def dots : Str := Str.ofString "..."
theorem dots_txt : dots.cps.toList = [46, 46, 46] := by decide +kernel
structure Want (cs : List Nat) (X : Str) : Prop where
  ne : ∀ c ∈ cs, c ≠ 46
  txt : X.cps.toList = 46 :: 46 :: 46 :: vine cs
theorem Want.len {cs : List Nat} {X : Str} (h : Want cs X) : X.length = 4 * cs.length + 3 := by
  have : X.cps.toList.length = _ := congrArg List.length h.txt
  simp [vine_len] at this
  exact this
theorem Want.get {cs : List Nat} {X : Str} (h : Want cs X) (k : Nat) : X.cps.toList[k]? = if k < 4 * cs.length + 3 then (if k % 4 = 3 then cs[k / 4]? else some 46) else none := by
  rw [h.txt]
  match k with
  | 0 => rw [if_pos (by omega), if_neg (by decide)]; rfl
  | 1 => rw [if_pos (by omega), if_neg (by decide)]; rfl
  | 2 => rw [if_pos (by omega), if_neg (by decide)]; rfl
  | k + 3 =>
    show (vine cs)[k]? = _
    rw [vine_at]
    by_cases h1 : k < 4 * cs.length
    · by_cases h2 : k % 4 = 0
      · rw [if_pos h1, if_pos h2, if_pos (show k + 3 < 4 * cs.length + 3 by omega), if_pos (show (k + 3) % 4 = 3 by omega), show (k + 3) / 4 = k / 4 by omega]
      · rw [if_pos h1, if_neg h2, if_pos (show k + 3 < 4 * cs.length + 3 by omega), if_neg (show ¬ (k + 3) % 4 = 3 by omega)]
    · rw [if_neg h1, if_neg (show ¬ k + 3 < 4 * cs.length + 3 by omega)]
theorem take3 {l : List Nat} {a b c : Nat} : (l.take 3 == [a, b, c]) = true ↔ l[0]? = some a ∧ l[1]? = some b ∧ l[2]? = some c := by
  rw [beq_iff_eq]
  match l with
  | [] => simp
  | [_] => simp
  | [_, _] => simp
  | x :: y :: z :: r => simp
theorem Want.dotsAt {cs : List Nat} {X : Str} (h : Want cs X) (k : Nat) : At X dots X.length k ↔ k % 4 = 0 ∧ k ≤ 4 * cs.length := by
  unfold At
  rw [subAt_eq, h.len]
  have hl : dots.length = 3 := by decide +kernel
  rw [hl, dots_txt, take3]
  simp only [List.getElem?_drop, Nat.add_zero]
  rw [h.get, h.get, h.get]
  constructor
  · rintro ⟨h0, h1, h2, h3⟩
    rw [if_pos (by omega)] at h1 h2 h3
    have key : ∀ z, z < 4 * cs.length + 3 → z % 4 = 3 → (if z % 4 = 3 then cs[z / 4]? else some 46) = some 46 → False := by
      intro z hz hz3 hz4
      rw [if_pos hz3] at hz4
      exact h.ne 46 (List.mem_of_getElem? hz4) rfl
    by_cases m1 : k % 4 = 1
    · exact (key (k + 2) (by omega) (by omega) h3).elim
    by_cases m2 : k % 4 = 2
    · exact (key (k + 1) (by omega) (by omega) h2).elim
    by_cases m3 : k % 4 = 3
    · exact (key k (by omega) m3 h1).elim
    omega
  · rintro ⟨h0, h1⟩
    refine ⟨by omega, ?_, ?_, ?_⟩
    · rw [if_pos (by omega), if_neg (by omega)]
    · rw [if_pos (by omega), if_neg (by omega)]
    · rw [if_pos (by omega), if_neg (by omega)]
theorem strEq {a b : Str} (h : a.cps.toList = b.cps.toList) : a = b := Str.ext' (Array.toList_inj.mp h)
theorem Want.piece {cs : List Nat} {X : Str} (h : Want cs X) {j : Nat} {c : Nat} (hc : cs[j]? = some c) : strSub X (4 * j + 3) (4 * (j + 1)) = one c := by
  refine strEq ?_
  rw [strSub_toList]
  show _ = [c]
  have e : 4 * (j + 1) - (4 * j + 3) = 1 := by omega
  rw [e]
  have hj := (List.getElem?_eq_some_iff.mp hc).1
  have g : X.cps.toList[4 * j + 3]? = some c := by
    rw [h.get, if_pos (by omega), if_pos (by omega), show (4 * j + 3) / 4 = j by omega, hc]
  obtain ⟨g1, g2⟩ := List.getElem?_eq_some_iff.mp g
  rw [List.drop_eq_getElem_cons g1, g2]
  rfl
theorem Want.parts {cs : List Nat} {X : Str} (h : Want cs X) : ∀ (cuts : List Nat) (j f : Nat), j ≤ cs.length → ChainG X dots X.length (4 * j + 3) cuts f → (∀ k, f ≤ k → ¬ At X dots X.length k) → partsFrom X 3 (4 * j + 3) cuts = (cs.drop j).map one ++ [Str.ofString ""]
  | [], j, f, hj, hc, hn => by
    have e : f = 4 * j + 3 := hc
    subst e
    have hj2 : j = cs.length := by
      by_cases q : j < cs.length
      · exact absurd ((h.dotsAt (4 * j + 4)).mpr ⟨by omega, by omega⟩) (hn _ (by omega))
      · omega
    subst hj2
    rw [List.drop_length]
    show [strSub X _ _] = [Str.ofString ""]
    refine congrArg (· :: []) (strEq ?_)
    rw [strSub_toList, h.len]
    show (List.drop _ _).take _ = []
    rw [show 4 * cs.length + 3 - (4 * cs.length + 3) = 0 by omega, List.take_zero]
  | c :: r, j, f, hj, hc, hn => by
    obtain ⟨h1, h2, h3, h4⟩ := hc
    have h2' := (h.dotsAt c).mp h2
    have e : c = 4 * (j + 1) := by
      by_cases q : 4 * (j + 1) < c
      · exact absurd ((h.dotsAt (4 * (j + 1))).mpr ⟨by omega, by omega⟩) (h3 _ (by omega) q)
      · omega
    subst e
    have hj' : j < cs.length := by omega
    have hl : dots.length = 3 := by decide +kernel
    rw [hl] at h4
    show strSub X (4 * j + 3) (4 * (j + 1)) :: partsFrom X 3 (4 * (j + 1) + 3) r = _
    rw [h.parts r (j + 1) f (by omega) h4 hn, List.drop_eq_getElem_cons hj', h.piece (List.getElem?_eq_getElem hj')]
    rfl
theorem kind_ge (x : Str) : ¬ Builtin.Str.strKind x < Builtin.Str.strKind dots := by
  have e : Builtin.Str.strKind dots = 1 := by decide +kernel
  rw [e]
  unfold Builtin.Str.strKind
  split
  · omega
  · split <;> omega
theorem Want.occ {cs : List Nat} {X : Str} (h : Want cs X) : (occurrences X dots 0 X.length 1).isEmpty = false := by
  have := (found_iff X dots).mpr ⟨0, ((h.dotsAt 0).mpr ⟨rfl, by omega⟩)⟩
  simpa using this
theorem Want.split {cs : List Nat} {X : Str} (h : Want cs X) : Txt.split X dots = Str.ofString "" :: (cs.map one ++ [Str.ofString ""]) := by
  have hl : dots.length = 3 := by decide +kernel
  obtain ⟨f, hG, hn⟩ := occ_tight X dots (by omega)
  have h0 := (h.dotsAt 0).mpr ⟨rfl, by omega⟩
  unfold Txt.split
  rw [if_neg]
  · generalize occurrences X dots 0 X.length (X.length + 1) = cuts at hG ⊢
    match cuts with
    | [] =>
      have e : f = 0 := hG
      subst e
      exact absurd h0 (hn 0 (Nat.le_refl _))
    | c :: r =>
      rw [if_neg (by simp), partsBetween_eq]
      obtain ⟨h1, h2, h3, h4⟩ := hG
      have e : c = 0 := by
        by_cases q : 0 < c
        · exact absurd h0 (h3 0 (Nat.le_refl _) q)
        · omega
      subst e
      rw [hl] at h4 ⊢
      show strSub X 0 0 :: partsFrom X 3 (4 * 0 + 3) r = _
      rw [h.parts r 0 f (Nat.zero_le _) h4 hn]
      have e0 : strSub X 0 0 = Str.ofString "" := strEq (by rw [strSub_toList]; rfl)
      rw [e0]
      rfl
  · simp only [Bool.or_eq_true, decide_eq_true_eq]
    rintro (q | q)
    · rw [h.len, hl] at q; omega
    · exact kind_ge X q
end
end Mine
namespace Mine
section
def b01 (b : Bool) : Int := if b then 1 else 0
def colSum (f : Int → Int → Int) (b : Int) (l : List Int) : Int := (l.map fun a => f b a).sum
/-- all pairs, the later one first -/
def pairSum (f : Int → Int → Int) : List Int → Int
  | [] => 0
  | a :: l => (l.map fun b => f b a).sum + pairSum f l
theorem pairSum_snoc (f : Int → Int → Int) (b : Int) : ∀ l : List Int, pairSum f (l ++ [b]) = pairSum f l + colSum f b l
  | [] => by simp [pairSum, colSum]
  | a :: l => by
    show ((l ++ [b]).map fun b => f b a).sum + pairSum f (l ++ [b]) = _
    rw [pairSum_snoc f b l, List.map_append, List.sum_append]
    simp only [pairSum, colSum, List.map_cons, List.sum_cons, List.map_nil, List.sum_nil]
    omega
theorem cntIn_sum (f : Int → Int → Bool) (r : List Int) (j : Nat) : ∀ i : Nat, i ≤ r.length → cntIn f r j i = colSum (fun b a => b01 (f b a)) (r.getD j 0) (r.take i)
  | 0, _ => by simp [cntIn, colSum]
  | i + 1, h => by
    have hi : i < r.length := by omega
    show cntIn f r j i + _ = _
    rw [cntIn_sum f r j i (by omega), List.take_add_one]
    have e : r.getD i 0 = r[i] := by simp [List.getD, hi]
    rw [List.getElem?_eq_getElem hi, e]
    simp only [colSum, Option.toList_some, List.map_append, List.sum_append, List.map_cons, List.map_nil, List.sum_cons, List.sum_nil, b01]
    omega
theorem cntOut_sum (f : Int → Int → Bool) (r : List Int) : ∀ j : Nat, j ≤ r.length → cntOut f r j = pairSum (fun b a => b01 (f b a)) (r.take j)
  | 0, _ => by simp [cntOut, pairSum]
  | j + 1, h => by
    have hj : j < r.length := by omega
    show cntOut f r j + cntIn f r j j = _
    have e : r.getD j 0 = r[j] := by simp [List.getD, hj]
    rw [cntOut_sum f r j (by omega), cntIn_sum f r j j (by omega), List.take_add_one, List.getElem?_eq_getElem hj, e]
    show _ = pairSum _ (r.take j ++ [r[j]])
    rw [pairSum_snoc]
theorem pairSum_add (f g : Int → Int → Int) : ∀ l : List Int, pairSum f l + pairSum g l = pairSum (fun b a => f b a + g b a) l
  | [] => rfl
  | a :: l => by
    have ih := pairSum_add f g l
    have e : ∀ l : List Int, (l.map fun b => f b a).sum + (l.map fun b => g b a).sum = (l.map fun b => f b a + g b a).sum := by
      intro l
      induction l with
      | nil => rfl
      | cons x l ih => simp only [List.map_cons, List.sum_cons]; omega
    have := e l
    simp only [pairSum]
    omega
theorem sumMap_perm {l l' : List Int} (h : l.Perm l') (g : Int → Int) : (l.map g).sum = (l'.map g).sum := by
  induction h with
  | nil => rfl
  | cons a _ ih => simp only [List.map_cons, List.sum_cons, ih]
  | swap a b l => simp only [List.map_cons, List.sum_cons]; omega
  | trans _ _ ih1 ih2 => exact ih1.trans ih2
theorem pairSum_perm {f : Int → Int → Int} {ok : Int → Prop} (hf : ∀ a b, ok a → ok b → (f a b - f b a) % 2 = 0) {l l' : List Int} (h : l.Perm l') : (∀ a ∈ l, ok a) → (pairSum f l - pairSum f l') % 2 = 0 := by
  induction h with
  | nil => intro _; rfl
  | cons a hp ih =>
    intro hk
    have := ih fun b hb => hk b (.tail _ hb)
    have e := sumMap_perm hp (fun b => f b a)
    simp only [pairSum]
    omega
  | swap a b l =>
    intro hk
    have := hf a b (hk a (.tail _ (.head _))) (hk b (.head _))
    simp only [pairSum, List.map_cons, List.sum_cons]
    omega
  | trans h1 _ ih1 ih2 =>
    intro hk
    have q1 := ih1 hk
    have q2 := ih2 fun a ha => hk a (h1.mem_iff.mpr ha)
    omega
def hL (y p q : Int) (b a : Int) : Int := b01 (fW y p q b a) + b01 (fC b a)
theorem stepInj {y p q a b : Int} (hq : q = 8 ∨ q = 4) (hp : p = 1 ∨ p = 3 ∨ q = 8 ∧ (p = 5 ∨ p = 7)) (ha : 0 ≤ a ∧ a < q) (hb : 0 ≤ b ∧ b < q) (h : (y + a * p) % q = (y + b * p) % q) : a = b := by
  rcases hq with rfl | rfl
  · rcases hp with rfl | rfl | ⟨_, rfl | rfl⟩ <;> omega
  · rcases hp with rfl | rfl | ⟨hh, _⟩
    · omega
    · omega
    · exact absurd hh (by decide)
theorem hL_sym {y p q a b : Int} (hq : q = 8 ∨ q = 4) (hp : p = 1 ∨ p = 3 ∨ q = 8 ∧ (p = 5 ∨ p = 7)) (ha : 0 ≤ a ∧ a < q) (hb : 0 ≤ b ∧ b < q) : (hL y p q a b - hL y p q b a) % 2 = 0 := by
  by_cases e : a = b
  · subst e; simp
  · have e2 : (y + a * p) % q ≠ (y + b * p) % q := fun q => e (stepInj hq hp ha hb q)
    unfold hL fW fC b01
    generalize (y + a * p) % q = s at e2 ⊢
    generalize (y + b * p) % q = t at e2 ⊢
    simp only [decide_eq_true_eq]
    repeat' split
    all_goals omega
theorem lerch8 : ([1, 3, 5, 7] : List Int).all (fun p => (List.range 16).all fun y => decide (pairSum (hL (y : Int) p 8) (upTo 8) % 2 = ((p - 1) / 2 + (y : Int)) % 2)) = true := by decide +kernel
theorem lerch4 : ([1, 3] : List Int).all (fun p => (List.range 8).all fun y => decide (pairSum (hL (y : Int) p 4) (upTo 4) % 2 = ((p - 1) / 2 + (y : Int)) % 2)) = true := by decide +kernel
theorem lerchUp {q y p : Int} (hq : q = 8 ∨ q = 4) (hy : 0 ≤ y ∧ y < 2 * q) (hp : p = 1 ∨ p = 3 ∨ q = 8 ∧ (p = 5 ∨ p = 7)) : pairSum (hL y p q) (upTo q.toNat) % 2 = ((p - 1) / 2 + y) % 2 := by
  have ey : ((y.toNat : Nat) : Int) = y := by omega
  rcases hq with rfl | rfl
  · have hm : p ∈ ([1, 3, 5, 7] : List Int) := by
      rcases hp with rfl | rfl | ⟨_, rfl | rfl⟩ <;> decide
    have := of_decide_eq_true (List.all_eq_true.mp (List.all_eq_true.mp lerch8 p hm) y.toNat (List.mem_range.mpr (by omega)))
    rw [ey] at this
    exact this
  · have hm : p ∈ ([1, 3] : List Int) := by
      rcases hp with rfl | rfl | ⟨hh, _⟩
      · decide
      · decide
      · exact absurd hh (by decide)
    have := of_decide_eq_true (List.all_eq_true.mp (List.all_eq_true.mp lerch4 p hm) y.toNat (List.mem_range.mpr (by omega)))
    rw [ey] at this
    exact this
theorem lerch {q y p : Int} {r : List Int} (hq : q = 8 ∨ q = 4) (hy : 0 ≤ y ∧ y < 2 * q) (hp : p = 1 ∨ p = 3 ∨ q = 8 ∧ (p = 5 ∨ p = 7)) (hP : r.Perm (upTo q.toNat)) :
    Int.fmod (cntOut (fW y p q) r q.toNat) 2 = Int.fmod (cntOut fC r q.toNat + Int.fdiv (p - 1) 2 + y) 2 := by
  have hl := perm_len hP
  have h1 : pairSum (fun b a => b01 (fW y p q b a)) r + pairSum (fun b a => b01 (fC b a)) r = pairSum (hL y p q) r := pairSum_add _ _ r
  have h2 : (pairSum (hL y p q) r - pairSum (hL y p q) (upTo q.toNat)) % 2 = 0 := by
    refine pairSum_perm (ok := fun a => 0 ≤ a ∧ a < q) (fun a b ha hb => hL_sym hq hp ha hb) hP (fun a ha => ?_)
    have := upTo_mem hP ha
    show 0 ≤ a ∧ a < q
    omega
  have h3 := lerchUp hq hy hp
  have t1 : cntOut (fW y p q) r q.toNat = pairSum (fun b a => b01 (fW y p q b a)) r := by
    rw [cntOut_sum _ r q.toNat (by omega), ← hl, List.take_length]
  have t2 : cntOut fC r q.toNat = pairSum (fun b a => b01 (fC b a)) r := by
    rw [cntOut_sum _ r q.toNat (by omega), ← hl, List.take_length]
  rw [t1, t2, Int.fmod_eq_emod_of_nonneg _ (by decide), Int.fmod_eq_emod_of_nonneg _ (by decide), Int.fdiv_eq_ediv_of_nonneg _ (by decide)]
  clear hP hp hq hy hl t1 t2
  omega
end
end Mine
namespace Mine
section
open Builtin Builtin.Str StrLaws
def roadL (q : Int) : List Nat := if q = 8 then [165, 180, 135, 86, 89, 74, 119, 168] else [165, 135, 89, 119]
theorem road_tab : ((List.range 8).all (fun p => (roadL 8)[p]? == some (sgC (p : Int) 8).toNat) && (List.range 4).all (fun p => (roadL 4)[p]? == some (sgC (p : Int) 4).toNat)) = true := by decide +kernel
theorem sgLit {a q : Int} (ha : 0 ≤ a ∧ a ≤ 64) (hq : q = 8 ∨ q = 4) : ∃ c, (roadL q)[(a % q).toNat]? = some c ∧ sgS a q = one c := by
  have h := List.all_eq_true.mp sign_all a.toNat (List.mem_range.mpr (by omega))
  have e : ((a.toNat : Nat) : Int) = a := by omega
  rw [e] at h
  simp only [Bool.and_eq_true, beq_iff_eq] at h
  have ht := road_tab
  rw [Bool.and_eq_true] at ht
  refine ⟨(sgC a q).toNat, ?_, rfl⟩
  rcases hq with rfl | rfl
  · have := List.all_eq_true.mp ht.1 (a % 8).toNat (List.mem_range.mpr (by omega))
    rw [show (((a % 8).toNat : Nat) : Int) = a % 8 by omega] at this
    rw [h.2]
    exact eq_of_beq this
  · have := List.all_eq_true.mp ht.2 (a % 4).toNat (List.mem_range.mpr (by omega))
    rw [show (((a % 4).toNat : Nat) : Int) = a % 4 by omega] at this
    rw [h.1.2]
    exact eq_of_beq this
theorem roadL_len {q : Int} (hq : q = 8 ∨ q = 4) : (roadL q).length = q.toNat := by
  rcases hq with rfl | rfl <;> rfl
theorem roadL_ne {q : Int} {c : Nat} (h : c ∈ roadL q) : c ≠ 46 := by
  unfold roadL at h
  split at h
  · intro e; subst e; revert h; decide
  · intro e; subst e; revert h; decide
theorem road8 : (Txt.join (Str.ofString "") ((roadL 8).map one)).cps.toList = roadL 8 := by decide +kernel
theorem road4 : (Txt.join (Str.ofString "") ((roadL 4).map one)).cps.toList = roadL 4 := by decide +kernel
theorem sgRange {q : Int} (hq : q = 8 ∨ q = 4) : List.map (fun k => sgS k q) (W.rangeKs 0 q.toNat) = (roadL q).map one := by
  apply List.ext_getElem
  · rw [List.length_map, List.length_map, W.rangeKs_length, roadL_len hq]
  · intro i h1 h2
    rw [List.length_map, W.rangeKs_length] at h1
    have e : (W.rangeKs 0 q.toNat)[i]'(by rw [W.rangeKs_length]; exact h1) = (i : Int) := by simp [W.rangeKs]
    rw [List.getElem_map, e, List.getElem_map]
    have hi : (i : Int) < q := by omega
    obtain ⟨c, hc, e2⟩ := sgLit (a := (i : Int)) (q := q) (by omega) hq
    rw [Int.emod_eq_of_lt (by omega) hi] at hc
    obtain ⟨g1, g2⟩ := List.getElem?_eq_some_iff.mp hc
    rw [e2]
    exact congrArg one g2.symm
theorem rd_txt {q : Int} {rd : Str} (hq : q = 8 ∨ q = 4) (hrd : Txt.join (Str.ofString "") (List.map (fun k => sgS k q) (W.rangeKs 0 q.toNat)) = rd) : rd.cps.toList = roadL q := by
  rw [← hrd, sgRange hq]
  rcases hq with rfl | rfl
  · exact road8
  · exact road4
theorem foldApp : ∀ (l : List (Array Nat)) (acc : Array Nat), (l.foldl (fun a b => a ++ b) acc).toList = acc.toList ++ (l.map Array.toList).flatten
  | [], acc => by simp
  | x :: l, acc => by
    rw [List.foldl_cons, foldApp l]
    simp
theorem mulTxt (x : Str) (m : Nat) : (Txt.mul x (m : Int)).cps.toList = (List.replicate m x.cps.toList).flatten := by
  unfold Txt.mul
  split
  · have e : m = 0 := by omega
    subst e; rfl
  · split
    · rename_i h
      simp only [Bool.or_eq_true, beq_iff_eq] at h
      rcases h with h | h
      · have e : m = 1 := by omega
        subst e; simp
      · have e : x.cps.toList = [] := List.eq_nil_of_length_eq_zero (by simpa [Str.length] using h)
        rw [e]; simp
    · rw [show ((m : Int)).toNat = m by omega]
      show (List.foldl (fun a b => a ++ b) #[] (List.replicate m x.cps)).toList = _
      rw [foldApp]
      simp
theorem roadOk {q : Int} {rd : Str} {m : Nat} (hq : q = 8 ∨ q = 4) (h : rd.cps.toList = roadL q) : Road (roadL q) m (Txt.mul rd (m : Int)) := by
  refine ⟨by rw [roadL_len hq]; omega, ?_, by rw [mulTxt, h]⟩
  rcases hq with rfl | rfl <;> decide
theorem Want.fit {cs : List Nat} {X got : Str} {b : Bool} (h : Want cs X) (hn : cs.length ≤ 50) (hg : got.length ≤ 1000) (hr : findAll got (Str.ofString "" :: (cs.map one ++ [Str.ofString ""])) 0 = b) : EllFit X got (cs.map one) b where
  hw := by rw [h.len]; omega
  hg := hg
  hin := h.occ
  hsp := h.split
  hml := by simp; omega
  hpl := by
    intro y hy
    simp only [List.mem_cons, List.mem_append, List.mem_map, List.not_mem_nil, or_false] at hy
    rcases hy with rfl | ⟨c, _, rfl⟩ | rfl
    · decide
    · show 1 ≤ 1000; decide
    · decide
  hm2 := by simp; omega
  res := hr
theorem appTxt (a b : Str) : (a ++ b).cps.toList = a.cps.toList ++ b.cps.toList := by
  show (a.cps ++ b.cps).toList = _
  simp
theorem tell2 {a b q : Int} {rd : Str} (hq : q = 8 ∨ q = 4) (hrd : Txt.join (Str.ofString "") (List.map (fun k => sgS k q) (W.rangeKs 0 q.toNat)) = rd) (ha : 0 ≤ a ∧ a ≤ 64) (hb : 0 ≤ b ∧ b ≤ 64) :
    EllFit ((((Str.ofString "..." ++ sgS a q) ++ Str.ofString "...") ++ sgS b q) ++ Str.ofString "...") rd [sgS a q, sgS b q] (decide (a % q < b % q)) := by
  have ht := rd_txt hq hrd
  obtain ⟨c, hc, ec⟩ := sgLit ha hq
  obtain ⟨d, hd, ed⟩ := sgLit hb hq
  rw [ec, ed]
  have hW : Want [c, d] ((((dots ++ one c) ++ dots) ++ one d) ++ dots) := by
    refine ⟨?_, ?_⟩
    · intro z hz
      rcases List.mem_cons.mp hz with rfl | hz
      · exact roadL_ne (List.mem_of_getElem? hc)
      · rw [List.mem_singleton.mp hz]
        exact roadL_ne (List.mem_of_getElem? hd)
    · rw [appTxt, appTxt, appTxt, appTxt, dots_txt]; rfl
  have hR : Road (roadL q) 1 rd := by
    have := roadOk (m := 1) hq ht
    exact this
  have hrl : rd.length = q.toNat := by rw [hR.len, roadL_len hq]; omega
  have hpos : 0 ≤ a % q ∧ 0 ≤ b % q := by rcases hq with rfl | rfl <;> omega
  refine hW.fit (show 2 ≤ 50 by decide) (by omega) ?_
  have := hR.whole (fun z => one ((roadL q).getD z 0)) (a := (a % q).toNat) (l := [(b % q).toNat]) (by
    intro z hz
    rcases List.mem_cons.mp hz with rfl | hz
    · exact ⟨c, hc, by simp [List.getD, hc]⟩
    · rw [List.mem_singleton.mp hz]
      exact ⟨d, hd, by simp [List.getD, hd]⟩)
  have e1 : (roadL q).getD (a % q).toNat 0 = c := by simp [List.getD, hc]
  have e2 : (roadL q).getD (b % q).toNat 0 = d := by simp [List.getD, hd]
  simp only [List.map_cons, List.map_nil, e1, e2] at this
  refine this.trans ?_
  rw [decide_eq_decide]
  show (if (b % q).toNat ≤ (a % q).toNat then 1 else 0) + 0 < 1 ↔ _
  split <;> omega
theorem fold_len (f : Int → Int) (r : List Int) : ∀ (ks acc : List Int), (List.foldl (dsc f r) acc ks).length = acc.length + ks.countP (fun k => decide (f (r.getD k.toNat 0) < f (r.getD (k - 1).toNat 0)))
  | [], acc => by simp
  | k :: ks, acc => by
    rw [List.foldl_cons, fold_len f r ks, List.countP_cons]
    unfold dsc
    split
    · rename_i h
      rw [if_pos (by exact decide_eq_true h)]
      simp; omega
    · rename_i h
      rw [if_neg (by simpa using h)]
      omega
def downsI (f : Int → Int) : Int → List Int → Nat
  | _, [] => 0
  | b, a :: l => (if f a < f b then 1 else 0) + downsI f a l
theorem cnt_downs (f : Int → Int) : ∀ (l : List Int) (a : Int), (List.range l.length).countP (fun i => decide (f ((a :: l).getD (i + 1) 0) < f ((a :: l).getD i 0))) = downsI f a l
  | [], a => rfl
  | b :: l, a => by
    rw [List.length_cons, List.range_succ_eq_map, List.countP_cons, List.countP_map]
    have ih := cnt_downs f l b
    show List.countP (fun i => decide (f ((b :: l).getD (i + 1) 0) < f ((b :: l).getD i 0))) (List.range l.length) + _ = _
    rw [ih]
    show _ + (if decide (f b < f a) = true then 1 else 0) = (if f b < f a then 1 else 0) + downsI f b l
    by_cases h : f b < f a
    · simp [h]; omega
    · simp [h]
theorem dsc_downs (f : Int → Int) (a : Int) (l : List Int) : (List.foldl (dsc f (a :: l)) [] (W.rangeKs 1 l.length)).length = downsI f a l := by
  rw [fold_len, ← cnt_downs]
  unfold W.rangeKs
  rw [List.countP_map]
  simp only [List.length_nil, Nat.zero_add]
  refine List.countP_congr (fun i _ => ?_)
  simp only [Function.comp]
  rw [show (1 + (i : Int)).toNat = i + 1 by omega, show (1 + (i : Int) - 1).toNat = i by omega]
theorem downs_eq {y p q : Int} (hq : q = 8 ∨ q = 4) (hp : p = 1 ∨ p = 3 ∨ q = 8 ∧ (p = 5 ∨ p = 7)) : ∀ (l : List Int) (a : Int), (a :: l).Nodup → (∀ k ∈ a :: l, 0 ≤ k ∧ k < q) →
    downs ((y + a * p) % q).toNat (l.map fun k => ((y + k * p) % q).toNat) = downsI (fun k => (y + k * p) % q) a l
  | [], _, _, _ => rfl
  | b :: l, a, hn, hk => by
    have ih := downs_eq (y := y) hq hp l b (List.nodup_cons.mp hn).2 fun k h => hk k (.tail _ h)
    show (if ((y + b * p) % q).toNat ≤ ((y + a * p) % q).toNat then 1 else 0) + downs _ _ = (if (y + b * p) % q < (y + a * p) % q then 1 else 0) + _
    rw [ih]
    have ne : (y + b * p) % q ≠ (y + a * p) % q := fun e => by
      have := stepInj hq hp (hk b (.tail _ (.head _))) (hk a (.head _)) e
      subst this
      exact (List.nodup_cons.mp hn).1 (.head _)
    have q0 : q ≠ 0 := by omega
    have h1 := Int.emod_nonneg (y + b * p) q0
    have h2 := Int.emod_nonneg (y + a * p) q0
    generalize (y + b * p) % q = s at *
    generalize (y + a * p) % q = t at *
    have e : (s.toNat ≤ t.toNat) = (s < t) := propext (by omega)
    simp only [e]
theorem join_vine : ∀ cs : List Nat, cs ≠ [] → (Str.join dots (cs.map one)).cps.toList ++ [46, 46, 46] = vine cs
  | [], h => absurd rfl h
  | [c], _ => rfl
  | c :: d :: r, _ => by
    have ih := join_vine (d :: r) (by simp)
    show ((one c ++ dots) ++ Str.join dots ((d :: r).map one)).cps.toList ++ [46, 46, 46] = _
    rw [appTxt, appTxt, dots_txt, List.append_assoc, ih]
    rfl
theorem tellAll {q y p : Int} {r : List Int} {rd jn : Str} {dn : Nat} (hq : q = 8 ∨ q = 4) (hrd : Txt.join (Str.ofString "") (List.map (fun k => sgS k q) (W.rangeKs 0 q.toNat)) = rd) (hjn : Txt.join (Str.ofString "...") (List.map (fun k => sgS (y + k * p) q) r) = jn) (hy : 0 ≤ y ∧ y < 2 * q) (hp : p = 1 ∨ p = 3 ∨ q = 8 ∧ (p = 5 ∨ p = 7)) (hP : r.Perm (upTo q.toNat)) (hd : (List.foldl (dsc (fun k => (y + k * p) % q) r) [] (W.rangeKs 1 (q - 1).toNat)).length = dn) :
    EllFit ((Str.ofString "..." ++ jn) ++ Str.ofString "...") (Txt.mul rd (1 + (dn : Int))) (r.map fun k => sgS (y + k * p) q) true ∧ EllFit ((Str.ofString "..." ++ jn) ++ Str.ofString "...") (Txt.mul rd (1 + (dn : Int) - 1)) (r.map fun k => sgS (y + k * p) q) false := by
  have ht := rd_txt hq hrd
  have hlen := perm_len hP
  have hnd : r.Nodup := by
    refine hP.nodup_iff.mpr ?_
    rcases hq with rfl | rfl <;> decide
  have hin : ∀ k ∈ r, 0 ≤ k ∧ k < q := fun k hk => by
    have := upTo_mem hP hk
    omega
  have hlit : ∀ k ∈ r, ∃ c, (roadL q)[((y + k * p) % q).toNat]? = some c ∧ sgS (y + k * p) q = one c := fun k hk =>
    sgLit (hueB hy (mulB (upTo_mem hP hk) hq hp) hq) hq
  have hmap : (r.map fun k => sgS (y + k * p) q) = (r.map fun k => (roadL q).getD ((y + k * p) % q).toNat 0).map one := by
    rw [List.map_map]
    refine List.map_congr_left fun k hk => ?_
    obtain ⟨c, hc, e⟩ := hlit k hk
    rw [e]
    simp [List.getD, hc]
  have hmap2 : (r.map fun k => (roadL q).getD ((y + k * p) % q).toNat 0).map one = (r.map fun k => ((y + k * p) % q).toNat).map fun z => one ((roadL q).getD z 0) := by
    rw [List.map_map, List.map_map]; rfl
  have hW : Want (r.map fun k => (roadL q).getD ((y + k * p) % q).toNat 0) ((dots ++ jn) ++ dots) := by
    refine ⟨?_, ?_⟩
    · intro z hz
      obtain ⟨k, hk, rfl⟩ := List.mem_map.mp hz
      obtain ⟨c, hc, e⟩ := hlit k hk
      have : (roadL q).getD ((y + k * p) % q).toNat 0 = c := by simp [List.getD, hc]
      rw [this]
      exact roadL_ne (List.mem_of_getElem? hc)
    · have hne : (r.map fun k => (roadL q).getD ((y + k * p) % q).toNat 0) ≠ [] := by
        intro e
        have := congrArg List.length e
        simp [hlen] at this
        omega
      have := join_vine _ hne
      rw [appTxt, appTxt, dots_txt, ← hjn, hmap, List.append_assoc]
      show _ ++ ((glued dots _).cps.toList ++ _) = _
      rw [glued_eq_join, this]
      rfl
  have hcl : (r.map fun k => (roadL q).getD ((y + k * p) % q).toNat 0).length ≤ 50 := by rw [List.length_map, hlen]; omega
  obtain ⟨k0, r', rfl⟩ : ∃ k0 r', r = k0 :: r' := by
    match r, hlen with
    | [], h => exact absurd h (by simp; omega)
    | k0 :: r', _ => exact ⟨k0, r', rfl⟩
  have hd2 : downs ((y + k0 * p) % q).toNat (r'.map fun k => ((y + k * p) % q).toNat) = dn := by
    rw [downs_eq hq hp r' k0 hnd hin, ← dsc_downs, ← hd]
    have : (q - 1).toNat = r'.length := by simp at hlen; omega
    rw [this]
  have dn7 : dn ≤ 7 := by
    have h1 := fold_len (fun k => (y + k * p) % q) (k0 :: r') (W.rangeKs 1 (q - 1).toNat) []
    rw [hd] at h1
    rw [h1]
    refine Nat.le_trans (Nat.add_le_add_left List.countP_le_length _) ?_
    rw [W.rangeKs_length]
    show 0 + _ ≤ 7
    omega
  have main : ∀ m : Nat, m ≤ 8 → EllFit ((dots ++ jn) ++ dots) (Txt.mul rd (m : Int)) ((k0 :: r').map fun k => sgS (y + k * p) q) (decide (dn < m)) := by
    intro m hm
    have hR := roadOk (m := m) hq ht
    rw [hmap]
    refine hW.fit hcl ?_ ?_
    · rw [hR.len, roadL_len hq]
      have : m * q.toNat ≤ 8 * 8 := Nat.mul_le_mul hm (by omega)
      omega
    · rw [hmap2, ← hd2]
      refine hR.whole (fun z => one ((roadL q).getD z 0)) (a := ((y + k0 * p) % q).toNat) (l := r'.map fun k => ((y + k * p) % q).toNat) ?_
      intro z hz
      have hz' : z ∈ (k0 :: r').map fun k => ((y + k * p) % q).toNat := hz
      obtain ⟨k, hk, rfl⟩ := List.mem_map.mp hz'
      obtain ⟨c, hc, _⟩ := hlit k hk
      exact ⟨c, hc, by simp [List.getD, hc]⟩
  constructor
  · have := main (1 + dn) (by omega)
    rw [decide_eq_true (show dn < 1 + dn by omega)] at this
    have e : ((1 + dn : Nat) : Int) = 1 + (dn : Int) := by omega
    rw [e] at this
    exact this
  · have := main dn (by omega)
    rw [decide_eq_false (show ¬ dn < dn by omega)] at this
    have e : 1 + (dn : Int) - 1 = (dn : Int) := by omega
    rw [e]
    exact this
theorem joinLen {q y p : Int} {r : List Int} {jn : Str} (hr : r.length ≤ 100) (hjn : Txt.join (Str.ofString "...") (List.map (fun k => sgS (y + k * p) q) r) = jn) : jn.length ≤ 400 := by
  rw [← hjn]
  show (glued _ _).length ≤ _
  rw [glued_eq_join]
  have h := StrLaws.join_length_le (Str.ofString "...") (List.map (fun k => sgS (y + k * p) q) r)
  have e : ∀ l : List Int, ((l.map fun k => sgS (y + k * p) q).map (·.length)).sum = l.length := by
    intro l
    induction l with
    | nil => rfl
    | cons a l ih =>
      simp only [List.map_cons, List.sum_cons, ih, List.length_cons]
      show 1 + _ = _
      omega
  rw [e, List.length_map, dots_len] at h
  omega
end
end Mine
namespace Mine
theorem ovr_one {h₀ h : Heap} {L : Addr} {m : Str → Option Value} {k : Str} {v : Value} (F : Fr h₀ L h m) (e : m k = some v) : ∃ u, Fr h₀ L h (ovr [(k, v)] u) := ⟨m, by
  have := ovr_self (m := m) (ps := [(k, v)]) (fun p hp => by rw [List.mem_singleton.mp hp]; exact e)
  rw [← this]; exact F⟩
theorem joinInt {M : Model} {A : Around} {E : Value → Shared → Prop} {s : Shared} {t : Sem Value} {P : Int → Prop} {Q : Value → Shared → Prop} (walk : wpAny M A t (fun v s' => ∃ (q : Int) (tq : Tok) (tk : Nat), v = .int q tq ∧ P q ∧ s' = { s with toks := tk }) E s) (cont : ∀ (q : Int) (tq : Tok) (tk : Nat), P q → Q (.int q tq) { s with toks := tk }) : wpAny M A t Q E s :=
  wpAny_mono walk (fun v s' ⟨q, tq, tk, e, hp, es⟩ => by rw [e, es]; exact cont q tq tk hp) fun _ _ e => e
theorem hueAt {y p q : Int} {r : List Int} {j : Nat} (hP : r.Perm (upTo q.toNat)) (hj : j < r.length) (hy : 0 ≤ y ∧ y < 2 * q) (hq : q = 8 ∨ q = 4) (hp : p = 1 ∨ p = 3 ∨ q = 8 ∧ (p = 5 ∨ p = 7)) : 0 ≤ y + r.getD j 0 * p ∧ y + r.getD j 0 * p ≤ 64 := by
  have hm : r.getD j 0 ∈ r := by
    have e : r.getD j 0 = r[j] := by simp [List.getD, hj]
    rw [e]; exact List.getElem_mem hj
  exact hueB hy (mulB (upTo_mem hP hm) hq hp) hq
theorem wYes {y p q O wr : Int} {r : List Int} {j i : Nat} (h : wr = O + cntIn (fW y p q) r j i) (hl : (y + r.getD j 0 * p) % q < (y + r.getD i 0 * p) % q) : wr + 1 = O + cntIn (fW y p q) r j (i + 1) := by
  rw [cntIn_yes (f := fW y p q) (decide_eq_true hl), h]; omega
theorem wNo {y p q O wr : Int} {r : List Int} {j i : Nat} (h : wr = O + cntIn (fW y p q) r j i) (hl : ¬ (y + r.getD j 0 * p) % q < (y + r.getD i 0 * p) % q) : wr = O + cntIn (fW y p q) r j (i + 1) := by
  rw [cntIn_no (f := fW y p q) (decide_eq_false hl), h]
theorem cYes {O wr : Int} {r : List Int} {j i : Nat} (h : wr = O + cntIn fC r j i) (hl : r.getD j 0 < r.getD i 0) : wr + 1 = O + cntIn fC r j (i + 1) := by
  rw [cntIn_yes (f := fC) (decide_eq_true hl), h]; omega
theorem cNo {O wr : Int} {r : List Int} {j i : Nat} (h : wr = O + cntIn fC r j i) (hl : ¬ r.getD j 0 < r.getD i 0) : wr = O + cntIn fC r j (i + 1) := by
  rw [cntIn_no (f := fC) (decide_eq_false hl), h]
theorem outJ {f : Int → Int → Bool} {wr : Int} {r : List Int} {j : Nat} (h : wr = cntOut f r j + cntIn f r j (0 + (j : Int) - 0).toNat) : wr = cntOut f r (j + 1) := by
  have e : (0 + (j : Int) - 0).toNat = j := by omega
  rw [e] at h
  exact h
theorem dsc_grows (f : Int → Int) (r : List Int) : KPfGrows (dsc f r) := by
  unfold KPfGrows
  intro l k
  unfold dsc
  split <;> simp
theorem sm7 {q : Int} (hq : q = 8 ∨ q = 4) : Builtin.Range.small 1 q 1 = true := smallS (by omega) (by omega)
theorem sz7 {q : Int} (hq : q = 8 ∨ q = 4) : (q - 1).toNat ≤ sizeLine := by rw [PySem.sizeLine_eq]; omega
theorem k7 {k q : Int} {r : List Int} (hq : q = 8 ∨ q = 4) (hrn : r.length = q.toNat) (h1 : 1 ≤ k) (h2 : k < 1 + ((q - 1).toNat : Int)) : k = ((k.toNat : Nat) : Int) ∧ k - 1 = (((k - 1).toNat : Nat) : Int) ∧ k.toNat < r.length ∧ (k - 1).toNat < r.length := by omega
theorem dnOk {q : Int} {ys : List Value} {ns : List Int} {dn : Nat} (hq : q = 8 ∨ q = 4) (hi : IntsAre ys ns) (hl : ys.length ≤ (q - 1).toNat) (hd : ns.length = dn) : dn ≤ 7 := by
  have := IntsAre.length hi
  omega
theorem fit8 {ys : List Value} {ns : List Int} {q : Int} (hq : q = 8 ∨ q = 4) (hi : IntsAre ys ns) (hl : ys.length ≤ (q - 1).toNat) : (ns.length : Int) < 2 ^ 63 := by
  have := IntsAre.length hi
  have e : ns.length ≤ 7 := by omega
  have e2 : (ns.length : Int) ≤ 7 := Int.ofNat_le.mpr e
  exact Int.lt_of_le_of_lt e2 (by decide)
theorem addFit {a b : Str} (ha : a.length ≤ 500) (hb : b.length ≤ 500) : a.length + b.length ≤ 16777216 := by omega
theorem addLen {a b : Str} (ha : a.length ≤ 3) (hb : b.length ≤ 400) : (a ++ b).length ≤ 500 := by rw [PySem.Str.length_append]; omega
theorem dots500 : (Str.ofString "...").length ≤ 500 := by decide +kernel
theorem dots3 : (Str.ofString "...").length ≤ 3 := by decide +kernel
theorem rdOk {rd : Str} {q : Int} (hq : q = 8 ∨ q = 4) (h : rd.length = q.toNat) : rd.length ≤ 16 := by omega
theorem mulOk8 {rd : Str} {q : Int} {dn : Nat} (hq : q = 8 ∨ q = 4) (h : rd.length = q.toNat) (hd : dn ≤ 7) : rd.length ≤ 16 ∧ -16 ≤ (1 + (dn : Int)) ∧ (1 + (dn : Int)) ≤ 16 ∧ -16 ≤ (1 + (dn : Int) - 1) ∧ (1 + (dn : Int) - 1) ≤ 16 := by omega

end Mine
open Mine
local macro_rules | `(tactic| walk_at "pad 0") => `(tactic| fail "pad")
local macro_rules | `(tactic| walk_at "pad 1") => `(tactic| fail "pad")
local macro_rules | `(tactic| walk_at "call ref") => `(tactic| ((with_reducible show wpAny _ _ (call (Value.ref 108) _) _ _ _); (with_reducible rename Fr _ _ _ _ => lF'); (with_reducible rename News _ _ _ _ => lN'); k_dflt (refine' wpAny_call (sign_is _ _ _ _ _ _ _ _ ?hq (signOk_all ?hp ?hq2) _ _ _ _ _ _ _ _ _ _ _ _ _ _ _ _ ?k1 lF' ?k3 ?k4 ?k5 ?kK ?kd ?ku ?_); (case k1 => k_asm); (case k3 => k_asm); (case k4 => exact News.nil); (case k5 => k_asm); (case kK => first | exact rfl | assumption); (case kd => ktr_room); (case ku => ktr_units); (case hq => exact qNe (by assumption)); (case hp => tb_start); (case hq2 => assumption); k_whole; intro v9 h9 tk9 st9 post9; (obtain ⟨ta9, e9⟩ := post9); subst e9; (have F9 := frStays lF' st9); (have N9 := newsStays lN' st9); clear lF' lN' st9; (try dsimp only); (try k_fold))))
local macro_rules | `(tactic| tb_start) => `(tactic| (first | exact hueB (by assumption) (by assumption) (by assumption) | (constructor <;> omega)))
local macro_rules | `(tactic| walk_at "call ref") => `(tactic| ((with_reducible show wpAny _ _ (call (Value.ref 122) _) _ _ _); (with_reducible rename Fr _ _ _ _ => lF'); (with_reducible rename News _ _ _ _ => lN'); k_dflt (refine' wpAny_call (place_is _ _ _ _ _ _ _ _ ?hp (Or.symm ?hq) _ _ _ _ _ _ _ _ _ _ _ _ _ _ _ _ ?k1 lF' ?k3 ?k4 ?k5 ?kK ?kd ?ku ?_); (case k1 => k_asm); (case k3 => k_asm); (case k4 => exact News.nil); (case k5 => k_asm); (case kK => first | exact rfl | assumption); (case kd => ktr_room); (case ku => ktr_units); (case hp => tb_start); (case hq => assumption); k_whole; intro v9 h9 tk9 st9 post9; (obtain ⟨ta9, e9⟩ := post9); subst e9; (have F9 := frStays lF' st9); (have N9 := newsStays lN' st9); clear lF' lN' st9; (try dsimp only); (try k_fold))))
local macro_rules | `(tactic| walk_at "binaryOp Add str str") => `(tactic| (k_here; (with_reducible show wpAny _ _ (binaryOp Operator.Add (Value.str _ _) (Value.str _ _)) _ _ _); (refine KOpn.add (by simp only [PySem.Str.length_append, sgS_len, dots_len]; decide) ?_); intro _ _ hz9; clear hz9))
local macro_rules | `(tactic| walk_at "subscriptTail Name Name ref int") => `(tactic| (k_here; (with_reducible show wpAny _ _ (subscriptTail _ _ (Value.ref _) (Value.int _ _)) _ _ _); k_dflt (first
  | (refine' itemSgn ?k1 ?k2 ?k3 ?k4 ?k5 ?k6 ?_ ?k7; (case k1 => k_asm); (case k2 => k_mem); (case k3 => assumption); (case k4 => exact Int.zero_add _); (case k5 => assumption); (case k6 => assumption); (case k7 => with_unfolding_all rfl); k_whole)
  | (refine' itemMap ?k1 ?k2 ?k3 ?k4 ?k5 ?k6 ?_ ?k7; (case k1 => k_asm); (case k2 => k_mem); (case k3 => assumption); (case k4 => exact Int.zero_add _); (case k5 => assumption); (case k6 => assumption); (case k7 => with_unfolding_all rfl); k_whole)
  | (refine' itemInt ?k1 ?k2 ?k3 ?k4 ?k5 ?k6 ?_ ?k7; (case k1 => k_asm); (case k2 => k_mem); (case k3 => assumption); (case k4 => exact Int.zero_add _); (case k5 => assumption); (case k6 => assumption); (case k7 => with_unfolding_all rfl); k_whole)); intro t'))
local macro_rules | `(tactic| walk_at "call ref") => `(tactic| ((with_reducible show wpAny _ _ (call (Value.ref 35) _) _ _ _); (with_reducible rename Fr _ _ _ _ => lF'); (with_reducible rename News _ _ _ _ => lN'); k_dflt (refine' wpAny_call (ell_fit _ _ _ _ ?hx _ _ _ _ _ _ _ _ _ _ _ _ _ _ _ _ _ _ ?k1 lF' ?k3 ?k4 ?k5 ?kK ?kd ?ku ?_); (case k1 => k_asm); (case k3 => k_asm); (case k4 => exact News.nil); (case k5 => k_asm); (case kK => first | exact rfl | assumption); (case kd => ktr_room); (case ku => ktr_units); (case hx => first | assumption | exact tell2 (by assumption) (by assumption) (by assumption) (by assumption)); k_whole; intro v9 h9 tk9 st9 post9; subst post9; (have F9 := frStays lF' st9); (have N9 := newsStays lN' st9); clear lF' lN' st9; (try dsimp only); (try k_fold))))
local macro_rules | `(tactic| walk_at "subscriptTail Name Name ref int") => `(tactic| (k_here; (with_reducible show wpAny _ _ (subscriptTail _ _ (Value.ref _) (Value.int _ _)) _ _ _); k_dflt (refine' itemMap ?k1 ?k2 ?k3 ?k4 ?k5 ?k6 ?_ ?k7; (case k1 => k_asm); (case k2 => k_mem); (case k3 => assumption); (case k4 => assumption); (case k5 => assumption); (case k6 => assumption); (case k7 => with_unfolding_all rfl); k_whole); intro t'))
local macro_rules | `(tactic| walk_at "subscriptTail Name BinOp ref int") => `(tactic| (k_here; (with_reducible show wpAny _ _ (subscriptTail _ _ (Value.ref _) (Value.int _ _)) _ _ _); k_dflt (refine' itemMap ?k1 ?k2 ?k3 ?k4 ?k5 ?k6 ?_ ?k7; (case k1 => k_asm); (case k2 => k_mem); (case k3 => assumption); (case k4 => assumption); (case k5 => assumption); (case k6 => assumption); (case k7 => with_unfolding_all rfl); k_whole); intro t'))
local macro_rules | `(tactic| walk_at "binaryOp Add str str") => `(tactic| (k_here; (with_reducible show wpAny _ _ (binaryOp Operator.Add (Value.str _ _) (Value.str _ _)) _ _ _); (first | refine KOpn.add (addFit dots500 (Nat.le_trans hjl (by decide))) ?_ | refine KOpn.add (addFit (addLen dots3 hjl) dots500) ?_); intro _ _ hz9; clear hz9))
local macro_rules | `(tactic| walk_at "call ref") => `(tactic| ((with_reducible show wpAny _ _ (call (Value.ref 35) _) _ _ _); (with_reducible rename Fr _ _ _ _ => lF'); (with_reducible rename News _ _ _ _ => lN'); k_dflt (refine' wpAny_call (ell_fit _ _ _ _ ?hx _ _ _ _ _ _ _ _ _ _ _ _ _ _ _ _ _ _ ?k1 lF' ?k3 ?k4 ?k5 ?kK ?kd ?ku ?_); (case k1 => k_asm); (case k3 => k_asm); (case k4 => exact News.nil); (case k5 => k_asm); (case kK => first | exact rfl | assumption); (case kd => ktr_room); (case ku => ktr_units); (case hx => assumption); k_whole; intro v9 h9 tk9 st9 post9; subst post9; (have F9 := frStays lF' st9); (have N9 := newsStays lN' st9); clear lF' lN' st9; (try dsimp only); (try k_fold))))
set_option maxRecDepth 100000 in
set_option maxHeartbeats 8000000 in
theorem PySem.Challenge.cw_pe0200_01_holds : PySem.Challenge.rw_pe0200_01.Holds := by
  w_on
  apply hd
  w_strict (k_go0)
  rename Fr _ _ _ _ => F
  rename News _ _ _ _ => N
  obtain ⟨u, F2⟩ := ovr_one (k := Str.ofString "script") F rfl
  clear F
  rename CellsAre _ _ _ => X0
  clear X0
  rename Obj.data _ = Data.cell _ => c1; replace c1 : _ = Data.cell none := c1; revert c1
  rename Obj.data _ = Data.cell _ => c1; replace c1 : _ = Data.cell none := c1; revert c1
  rename Obj.data _ = Data.cell _ => c1; replace c1 : _ = Data.cell none := c1; revert c1
  rename Obj.data _ = Data.cell _ => c1; replace c1 : _ = Data.cell none := c1; revert c1
  intro c1 c2 c3 c4
  rename Heap.CodeRec _ _ _ => hcd
  clear hcd
  (try dsimp only)
  (try k_fold)
  (try dsimp only)
  repeat' ((fail_if_success (with_reducible show wpAny _ _ (eval (Expr.IfExp _ _ _ _) _) _ _ _)); (first | (k_unfold; (try dsimp only)) | (k_end; wrow_close) | walk1 | (dsimp only; walk1) | (leave1; try dsimp only) | fail "no step"))
  rename List Int => ns
  generalize hn : (List.take 1 ns ++ [(27 : Int)]).getD (Int.toNat 0) 0 = n at *
  refine joinInt (P := fun q => q = 8 ∧ n.fmod 2 = 1 ∨ q = 4 ∧ n.fmod 2 ≠ 1) ?walk ?cont
  case walk =>
    k_steps
    · exact .inl ⟨rfl, by assumption⟩
    · exact .inr ⟨rfl, by assumption⟩
  case cont =>
    intro q tq tkq hq
    (try dsimp only)
    have hq2 : q = 8 ∨ q = 4 := by rcases hq with h | h <;> simp [h.1]
    have hq3 : q.fdiv 2 = 4 ∨ q.fdiv 2 = 2 := by rcases hq2 with h | h <;> subst h <;> simp [Int.fdiv]
    (try k_fold)
    repeat' ((fail_if_success (with_reducible show wpAny _ _ (call (Value.ref 115) _) _ _ _)); (first | (k_unfold; (try dsimp only)) | (k_end; wrow_close) | walk1 | (dsimp only; walk1) | (leave1; try dsimp only) | fail "no step"))
    rename Fr _ _ _ _ => lF
    rename News _ _ _ _ => lN
    k_dflt (refine' wpAny_call (row_is _ _ _ _ _ _ _ _ ?hn ?hnl _ ?hqq _ _ _ _ _ _ _ _ _ _ _ _ _ _ _ _ _ ?k1 lF ?k3 ?k4 ?k5 ?kK ?kd ?ku ?_); (case k1 => k_asm); (case k3 => k_asm); (case k4 => exact newsSub lN (List.forall_mem_cons.mpr ⟨by k_mem, List.forall_mem_nil _⟩)); (case k5 => k_asm); (case kK => exact rfl); (case kd => ktr_room); (case ku => ktr_units); (case hn => assumption); (case hnl => omega); (case hqq => omega))
    intro v9 h9 tk9 st9 post9
    obtain ⟨lr, vr, kr, r, rfl, hr0, hr1, hrI, hrP⟩ := post9
    have F9 := frStays lF st9
    have N9 := newsMore lF (newsStays lN st9) hr1 hr0
    have ap9 := allNe_of (newsApart lN hr0)
    simp only [AllNe, and_true] at ap9
    clear lF lN st9 hr0 hr1
    (try dsimp only)
    (try k_fold)
    as_aux_lemma =>
      (repeat (first | (rename _ ∧ _ < _ => lx; clear lx)))
      (rename Obj.data _ = Data.cell (some _) => dy; obtain ⟨ty, dy'⟩ := cellT dy; clear dy; revert dy')
      (rename Obj.data _ = Data.cell (some _) => dp; obtain ⟨tp, dp'⟩ := cellT dp; clear dp; revert dp')
      (rename Obj.data _ = Data.cell (some _) => dq)
      have hp1 := pOk (n := n) hq2 hq3
      have hy1 := yOk (n := n) hq2
      generalize 1 + 2 * (n.fdiv 2).fmod (q.fdiv 2) = p at hp1 ⊢
      generalize (n.fdiv 16).fmod (2 * q) = y at hy1 ⊢
      intro dp dy
      have N10 := newsDrop4 N9
      clear N9 hq3 hq
      have ap10 := ap9.2.2.2.2
      clear ap9
      as_aux_lemma =>
        repeat' ((fail_if_success (with_reducible show LCg.CompSrc _ _ _ _ _ _ _ _ _ _ _ _ _ _)); (first | (k_unfold; (try dsimp only)) | (k_end; wrow_close) | walk1 | (dsimp only; walk1) | (leave1; try dsimp only) | fail "no step"))
        k_dflt (refine LCg.CompSrc.range (n := q.toNat) (by rfl) (by k_asm) (by k_asm) (by assumption) (smallS (by omega) (by omega)) ((rangeS _ _).trans (by rw [Int.sub_zero])) (by rw [PySem.sizeLine_eq]; omega) ?_)
        intro g'
        refine kct_range (fun k => sgS k q) (fun k' t' I' oI' C' oC' D' m' ys' h' tk' E' hlo' hhi' hC' hx' F' N' off' ne' => ?_) ?_
        · intro _
          clear ap10 hp1
          k_steps
          exact LCg.CompEnd.intro (by k_asm) (by k_asm) _ (fun _ hp => hp) off' trivial (kct_el rfl rfl rfl)
        · unfold KPfDone
          intro ys hc9 _
          (try k_fold)
          repeat' ((fail_if_success (with_reducible show wpAny _ _ (call (Value.builtin "str.join") _) _ _ _)); (first | (k_unfold; (try dsimp only)) | (k_end; wrow_close) | walk1 | (dsimp only; walk1) | (leave1; try dsimp only) | fail "no step"))
          rename Fr _ _ _ _ => F3
          rename News _ _ _ _ => N3
          refine KT.join_1 (News.isList N3 (by k_mem)) hc9 (fun _ _ => rfl) (by rw [rangeKs_length]; omega) ?_
          intro tr kr3 hrl
          rw [rangeKs_length] at hrl
          clear hc9
          generalize hrd : Txt.join (Str.ofString "") (List.map (fun k => sgS k q) (rangeKs 0 q.toNat)) = rd at hrl ⊢
          have N4 := newsDrop1 N3
          clear N3
          (try dsimp only)
          repeat' ((fail_if_success (with_reducible show wpAny _ _ (exec (Stmt.Assign [Expr.Name (Str.ofString "signs") _] _ _) _) _ _ _)); (first | (k_unfold; (try dsimp only)) | (k_end; wrow_close) | walk1 | (dsimp only; walk1) | (leave1; try dsimp only) | fail "no step"))
          as_aux_lemma =>
            repeat' ((fail_if_success (with_reducible show LCg.CompSrc _ _ _ _ _ _ _ _ _ _ _ _ _ _)); (first | (k_unfold; (try dsimp only)) | (k_end; wrow_close) | walk1 | (dsimp only; walk1) | (leave1; try dsimp only) | fail "no step"))
            rename IntsAre vr r => hrI
            k_dflt (refine LCg.CompSrc.ledger (its := vr.toArray) (k := kr) (by rfl) (by k_asm) (by k_asm) (by k_mem) (rowSize hrI hrP hq2) ?_)
            intro g4
            refine kct_list (fun k => sgS (y + k * p) q) hrI (fun k' t' I' oI' C' oC' D' m' ys' h' tk' E' hk' hC' hx' F' N' off' ne' => ?_) ?_
            · intro _
              have hk2 := upTo_mem hrP hk'
              have hkp := mulB hk2 hq2 hp1
              (repeat (rename _ ≠ _ ∧ _ => lx; clear lx))
              clear hp1
              k_steps
              exact LCg.CompEnd.intro (by k_asm) (by k_asm) _ (fun _ hp => hp) off' (.inr ⟨_, List.Mem.head _, rfl, _, rfl⟩) (kct_el rfl rfl rfl)
            · unfold KPfDone
              intro ys4 hc4 hl4
              as_aux_lemma =>
                (try k_fold)
                repeat' ((fail_if_success (with_reducible show LCg.CompSrc _ _ _ _ _ _ _ _ _ _ _ _ _ _)); (first | (k_unfold; (try dsimp only)) | (k_end; wrow_close) | walk1 | (dsimp only; walk1) | (leave1; try dsimp only) | fail "no step"))
                rename IntsAre vr r => hrI
                k_dflt (refine LCg.CompSrc.ledger (its := vr.toArray) (k := kr) (by rfl) (by k_asm) (by k_asm) (by k_mem) (rowSize hrI hrP hq2) ?_)
                intro g5
                refine kcf_list (fun k => (y + k * p) % q) hrI (fun k' t' I' oI' C' oC' D' m' ys' h' tk' E' hk' hC' hx' F' N' off' ne' => ?_) ?_
                · intro _
                  have hk2 := upTo_mem hrP hk'
                  have hkp := mulB hk2 hq2 hp1
                  (repeat (rename _ ≠ _ ∧ _ => lx; clear lx))
                  clear hp1
                  k_steps
                · unfold KPfDone
                  intro ys5 hc5
                  (try k_fold)
                  repeat' ((fail_if_success (with_reducible show wpAny _ _ (exec (Stmt.For _ _ _ _ _) _) _ _ _)); (first | (k_unfold; (try dsimp only)) | (k_end; wrow_close) | walk1 | (dsimp only; walk1) | (leave1; try dsimp only) | fail "no step"))
                  as_aux_lemma =>
                    (repeat (rename _ ≠ _ ∧ _ => lx; clear lx))
                    (repeat (rename _ < _ ∧ _ => lx; clear lx))
                    repeat' ((fail_if_success (with_reducible show wpAny _ _ (pyIter _) _ _ _)); (first | (k_unfold; (try dsimp only)) | (k_end; wrow_close) | walk1 | (dsimp only; walk1) | (leave1; try dsimp only) | fail "no step"))
                    rename IntsAre vr r => hrI
                    have hrn := perm_len hrP
                    have hr100 : r.length ≤ 100 := by omega
                    k_dflt (refine loopRange (L6J _ _ rd r y p q _) rfl (by assumption) (smallS (by omega) (by omega)) (rangeS _ _) (by k_asm) (by k_asm) (l6J_of rfl rfl rfl rfl rfl rfl rfl) ?turn ?done)
                    case turn =>
                      (rename Fr _ _ _ _ => Fo); (rename News _ _ _ _ => No); clear Fo No
                      intro I it j tj m₁ news₁ h2 tk2 hj hJ hoff F7 N7
                      obtain ⟨wr, cr, tw, tc, td, u7, rfl, rfl, hwr, hcr⟩ := hJ
                      have hjr : j < r.length := by omega
                      have hHj := hueAt hrP hjr hy1 hq2 hp1
                      (try dsimp only)
                      (try k_fold)
                      repeat' ((fail_if_success (with_reducible show wpAny _ _ (pyIter _) _ _ _)); (first | (k_unfold; (try dsimp only)) | (k_end; wrow_close) | walk1 | (dsimp only; walk1) | (leave1; try dsimp only) | fail "no step"))
                      k_dflt (refine loopRange (L7J _ _ rd r y p q _ j _) rfl (by assumption) (smallS (by omega) (by omega)) (rangeS _ _) (by k_asm) (by k_asm) (l7J_of rfl rfl rfl rfl rfl rfl (hwr.trans (Int.add_zero _).symm) (hcr.trans (Int.add_zero _).symm)) ?turn2 ?done2)
                      case turn2 =>
                        (rename Fr _ _ _ _ => Fo); (rename News _ _ _ _ => No); clear Fo No
                        intro I2 it2 i ti m₂ news₂ h3 tk3 hi hJ2 hoff2 F8 N8
                        obtain ⟨wr2, cr2, tj2, tw2, tc2, td2, u8, rfl, rfl, hwr2, hcr2⟩ := hJ2
                        have hir : i < r.length := by omega
                        have hHi := hueAt hrP hir hy1 hq2 hp1
                        (try dsimp only)
                        (try k_fold)
                        k_steps
                        all_goals (refine unrEndT (by k_asm) (by k_asm) hoff2 (l7J_of rfl rfl rfl rfl rfl rfl ?_ ?_))
                        all_goals first | exact wYes hwr2 (by assumption) | exact wNo hwr2 (by assumption) | exact cYes hcr2 (by assumption) | exact cNo hcr2 (by assumption)
                      case done2 =>
                        (rename Fr _ _ _ _ => Fo); (rename News _ _ _ _ => No); clear Fo No
                        intro m₂ news₂ h3 tk3 hJ2 F8 N8
                        obtain ⟨wr2, cr2, tj2, tw2, tc2, td2, u8, rfl, rfl, hwr2, hcr2⟩ := hJ2
                        (try dsimp only)
                        (try k_fold)
                        k_steps
                        exact unrEndT (by k_asm) (by k_asm) hoff (l6J_of rfl rfl rfl rfl rfl (outJ hwr2) (outJ hcr2))
                    case done =>
                      (rename Fr _ _ _ _ => Fo); (rename News _ _ _ _ => No); clear Fo No
                      intro m₁ news₁ h2 tk2 hJ F7 N7
                      obtain ⟨wr, cr, tw, tc, td, u7, rfl, rfl, hwr, hcr⟩ := hJ
                      have eq0 : (q - 0).toNat = q.toNat := by rw [Int.sub_zero]
                      rw [eq0] at hwr hcr
                      (try dsimp only)
                      (try k_fold)
                      repeat' ((fail_if_success (with_reducible show wpAny _ _ (eval (Expr.ListComp _ _ _ _) _) _ _ _)); (first | (k_unfold; (try dsimp only)) | (k_end; wrow_close) | walk1 | (dsimp only; walk1) | (leave1; try dsimp only) | fail "no step"))
                      as_aux_lemma =>
                        k_here
                        k_dflt (refine LCt.ListComp_T (F₀ := by k_asm) (by with_unfolding_all rfl) (by decide) (by rfl) (by decide) (by rfl) ?_)
                        repeat' ((fail_if_success (with_reducible show LCt.CompSrcT _ _ _ _ _ _ _ _ _ _ _ _ _ _ _)); (first | (k_unfold; (try dsimp only)) | (k_end; wrow_close) | walk1 | (dsimp only; walk1) | (leave1; try dsimp only) | fail "no step"))
                        rename IntsAre ys5 _ => hI5
                        k_dflt (refine LCt.CompSrcT.range (n := (q - 1).toNat) (by rfl) (by k_asm) (by k_asm) (by assumption) (sm7 hq2) (rangeS _ _) (sz7 hq2) ?_)
                        intro g7
                        refine kci_range (dsc (fun k => (y + k * p) % q) r) (fun k' t' I' oI' C' oC' D' m' ys' l' h' tk' E' hlo' hhi' hI' hC' hx' F' N' off' ne' => ?_) ?_ (dsc_grows _ _)
                        · intro _
                          clear hp1
                          obtain ⟨hk0, hk1, hkr, hkr1⟩ := k7 hq2 hrn hlo' hhi'
                          k_steps
                          · refine LCg.CompEnd.intro (by k_asm) (by k_asm) _ (fun _ hp => hp) off' trivial (kci_el ?_ rfl rfl)
                            exact if_pos (by assumption)
                          · refine LCg.CompEnd.intro (by k_asm) (by k_asm) _ (fun _ hp => hp) off' trivial (kci_no ?_ rfl)
                            exact if_neg (by assumption)
                        · unfold KPfDone
                          intro ys7 hc7 hl7
                          repeat' ((fail_if_success (with_reducible show wpAny _ _ (call (Value.builtin "len") _) _ _ _)); (first | (k_unfold; (try dsimp only)) | (k_end; wrow_close) | walk1 | (dsimp only; walk1) | (leave1; try dsimp only) | fail "no step"))
                          as_aux_lemma =>
                            rename CarriedAll ys4 _ => hC4
                            (repeat (rename _ ≠ _ ∧ _ => lx; clear lx))
                            rename News _ _ _ _ => N8
                            refine kst_len N8 (by k_mem) (IntsAre.length hc7) (fit8 hq2 hc7 hl7) ?_
                            generalize hdn : (List.foldl (dsc (fun k => (y + k * p) % q) r) [] (rangeKs 1 (q - 1).toNat)).length = dn
                            have hdl := dnOk hq2 hc7 hl7 hdn
                            (try dsimp only)
                            repeat' ((fail_if_success (with_reducible show wpAny _ _ (call (Value.builtin "str.join") _) _ _ _)); (first | (k_unfold; (try dsimp only)) | (k_end; wrow_close) | walk1 | (dsimp only; walk1) | (leave1; try dsimp only) | fail "no step"))
                            rename News _ _ _ _ => N9
                            refine KT.join_B 10 (News.isList N9 (by k_mem)) hC4 (fun _ _ => Nat.le_of_ble_eq_true rfl) (by omega) (by decide) ?_
                            intro tjn kjn
                            generalize hjn : Txt.join (Str.ofString "...") (List.map (fun k => sgS (y + k * p) q) r) = jn
                            have hjl := joinLen hr100 hjn
                            obtain ⟨hT, hL⟩ := tellAll hq2 hrd hjn hy1 hp1 hrP hdn
                            obtain ⟨hm1, hm2, hm3, hm4, hm5⟩ := mulOk8 hq2 hrl hdl
                            have hfin := lerch hq2 hy1 hp1 hrP
                            rw [← hwr, ← hcr] at hfin
                            (try dsimp only)
                            clear hp1 hwr hcr hdn hjn hrd
                            k_steps
