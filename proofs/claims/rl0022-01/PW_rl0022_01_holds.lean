import PyProof.Rows.All
import Wide.All
import OpenK.AllK
import Wide.FinOn
import PySem.Challenge.RW_rl0022_01
open PySem PySem.W PyProof.Rows
set_option Elab.async false
set_option compiler.extract_closed false
set_option linter.all false

/- part Top22 -/
namespace Mine
set_option maxRecDepth 100000 in
set_option maxHeartbeats 8000000 in
open_top hd for PySem.Challenge.rw_rl0022_01
end Mine

/- part M0 -/
namespace Mine
set_option maxRecDepth 100000

/-- any place in the stack, no exception being handled -/
abbrev arnd (dp un : Nat) (gd : Option (List Code)) (fr : Option (List Env)) : Around := { handled := none, depth := dp, frames := fr, guards := gd, units := un }

section
variable {prog : Program} {w : World} {A : Around} {s : Shared} {K : Frag} {p : Program} {loose : List Str} {mean : ExcName → Option Value} {mg mb : Str → Option Value} {R : Result → Shared → Prop}
  {name qual : Str} {params : Arguments} {body : List Stmt} {scope : Scope} {dV kV doc pm cdv ct oc : Value} {an od : Option Addr} {osl : Array (Option Value)} {f : Addr} {args : Args} {binds : List (Str × Value)}

theorem enter_plain (X : K.In s.heap) (T : Top p loose mean mg mb s.heap)
    (ho : K.lookup f = some ⟨oc, od, .func (fnOf name qual params body scope dV kV doc pm an cdv ct), osl⟩) (hcd : codeIn K cdv qual = true) (hroom : A.depth < recursionLimit)
    (hbind : BindsTo s (fnOf name qual params body scope dV kV doc pm an cdv ct) args binds) (hloc : ∀ y ∈ binds, scope.names.lookup y.1 = some .local)
    (h : ∀ h₀ L h₁, h₀ = s.heap → L = s.heap.objs.size → Fr h₀ L h₁ (fun y => binds.reverse.lookup y) → News h₀ L h₁ [] → K.In h₀ → Top p loose mean mg mb h₀ →
      wpAny (model prog w) (A.deeper (envOf qual scope L f cdv)) (execs body (envOf qual scope L f cdv))
        (fun fl s' => R (.ok (.ret (match fl with | .ret v => v | _ => .none))) s')
        (fun e s' => wpAny (model prog w) (A.deeper (envOf qual scope L f cdv)) (leaving (envOf qual scope L f cdv) e) (fun _ s'' => R (.error e) s'') (fun e' s'' => R (.error e') s'') s')
        { s with heap := h₁, toks := s.toks + binds.length })
    (hco : scope.isCoroutine = false) (hgen : scope.isGenerator = false) (hk : scope.kind = .function)
    (hcell : ∀ x ∈ scope.names, x.2 ≠ .cell) : codeAny (model prog w) A (.call (.ref f) args) R s := by
  refine codeAny_call_def (fd := fnOf name qual params body scope dV kV doc pm an cdv ct) (body := body) (binds := binds) hroom (X _ _ ho) rfl T.nolimit (codeRec_of X hcd) rfl hbind hcell hloc (fun h₁ hns hk₁ => ?_) hco hgen hk
  exact h s.heap s.heap.objs.size h₁ rfl rfl ⟨hns, hk₁, Nat.le_refl _⟩ News.nil X T

theorem enter_cells (X : K.In s.heap) (T : Top p loose mean mg mb s.heap)
    (ho : K.lookup f = some ⟨oc, od, .func (fnOf name qual params body scope dV kV doc pm an cdv ct), osl⟩) (hcd : codeIn K cdv qual = true) (hroom : A.depth < recursionLimit)
    (hbind : BindsTo s (fnOf name qual params body scope dV kV doc pm an cdv ct) args binds) (hkind : (binds.all fun y => scope.names.lookup y.1 == some .local || scope.names.lookup y.1 == some .cell) = true)
    (hnd : ((cellsFrom 0 scope.names []).map (·.1)).Nodup)
    (h : ∀ h₀ L h₁ tk cells, h₀ = s.heap → L = s.heap.objs.size → Fr h₀ L h₁ (bindL (envOfC qual scope L f cdv).kindOf binds fun _ => none) → News h₀ L h₁ cells →
      CellsAre (bindC (envOfC qual scope L f cdv).kindOf binds fun _ => none) (cellsFrom (L + 1) scope.names []) cells → K.In h₀ → Top p loose mean mg mb h₀ →
      wpAny (model prog w) (A.deeper (envOfC qual scope L f cdv)) (execs body (envOfC qual scope L f cdv))
        (fun fl s' => R (.ok (.ret (match fl with | .ret v => v | _ => .none))) s')
        (fun e s' => wpAny (model prog w) (A.deeper (envOfC qual scope L f cdv)) (leaving (envOfC qual scope L f cdv) e) (fun _ s'' => R (.error e) s'') (fun e' s'' => R (.error e') s'') s')
        { s with heap := h₁, toks := tk })
    (hco : scope.isCoroutine = false) (hgen : scope.isGenerator = false) (hk : scope.kind = .function) : codeAny (model prog w) A (.call (.ref f) args) R s := by
  refine codeAny_call_function (fd := fnOf name qual params body scope dV kV doc pm an cdv ct) hroom (X _ _ ho) rfl hco hgen rfl (codeRec_of X hcd) (hbind _ _ _ _ ?_)
  refine wpAny_newFunctionEnv_cells hk (kindsX hkind _) fun env' he s' x => ?_
  subst he
  refine ⟨T.nolimit.keeps x.toInCall.keep, codeAny_func ?_⟩
  obtain ⟨h₁, tk, rfl, _⟩ := x.done
  have hk₁ := x.toInCall.keep
  obtain ⟨cells, NC, Y⟩ := Cl.news (h₀ := s.heap) (Nat.le_refl _) fun n c hm => ⟨x.cell n c (lookup_of_mem_nodup (cellsFrom_names scope.names 0 (s.heap.objs.size + 1) [] [] rfl ▸ hnd) hm), x.above n c hm⟩
  exact h s.heap s.heap.objs.size h₁ tk cells rfl rfl ⟨x.toInCall.ns, hk₁, Nat.le_refl _⟩ NC Y X T
end

/-- entering a def with some objects of the heap held in the ledger, the rest below -/
theorem enter_led {prog : Program} {w : World} {A : Around} {s : Shared} {h₀ : Heap} {K : Frag} {p : Program} {loose : List Str} {mean : ExcName → Option Value} {mg mb : Str → Option Value} {R : Result → Shared → Prop}
    {name qual : Str} {params : Arguments} {body : List Stmt} {scope : Scope} {dV kV doc pm cdv ct oc : Value} {an od : Option Addr} {osl : Array (Option Value)} {f : Addr} {args : Args} {binds : List (Str × Value)} {news : List (Addr × Obj)}
    (hk : ∀ b o, h₀.get? b = some o → s.heap.get? b = some o) (hsz : h₀.objs.size ≤ s.heap.objs.size) (N : ∀ p ∈ news, s.heap.get? p.1 = some p.2 ∧ h₀.get? p.1 = none)
    (X : K.In h₀) (T : Top p loose mean mg mb h₀)
    (ho : K.lookup f = some ⟨oc, od, .func (fnOf name qual params body scope dV kV doc pm an cdv ct), osl⟩) (hcd : codeIn K cdv qual = true) (hroom : A.depth < recursionLimit)
    (hbind : BindsTo s (fnOf name qual params body scope dV kV doc pm an cdv ct) args binds) (hloc : ∀ y ∈ binds, scope.names.lookup y.1 = some .local)
    (h : ∀ L h₁, L = s.heap.objs.size → Fr h₀ L h₁ (fun y => binds.reverse.lookup y) → News h₀ L h₁ news →
      wpAny (model prog w) (A.deeper (envOf qual scope L f cdv)) (execs body (envOf qual scope L f cdv))
        (fun fl s' => R (.ok (.ret (match fl with | .ret v => v | _ => .none))) s')
        (fun e s' => wpAny (model prog w) (A.deeper (envOf qual scope L f cdv)) (leaving (envOf qual scope L f cdv) e) (fun _ s'' => R (.error e) s'') (fun e' s'' => R (.error e') s'') s')
        { s with heap := h₁, toks := s.toks + binds.length })
    (hco : scope.isCoroutine = false) (hgen : scope.isGenerator = false) (hk' : scope.kind = .function)
    (hcell : ∀ x ∈ scope.names, x.2 ≠ .cell) : codeAny (model prog w) A (.call (.ref f) args) R s := by
  have X' : K.In s.heap := X.keeps hk
  refine codeAny_call_def (fd := fnOf name qual params body scope dV kV doc pm an cdv ct) (body := body) (binds := binds) hroom (X' _ _ ho) rfl (T.nolimit.keeps hk) (codeRec_of X' hcd) rfl hbind hcell hloc (fun h₁ hns hk₁ => ?_) hco hgen hk'
  exact h s.heap.objs.size h₁ rfl ⟨hns, fun b o e => hk₁ b o (hk b o e), hsz⟩ (fun p hp => ⟨hk₁ _ _ (N p hp).1, Nat.ne_of_lt (Heap.lt_size (N p hp).1), (N p hp).2⟩)

theorem make_raw {prog : Program} {w : World} {A : Around} {K : Frag} {C fI : Addr} {s : Shared} {R : Result → Shared → Prop} (X : K.In s.heap) (hm : makesIn K C = true)
    (hi : findIn K (.ref C) "__init__" = some (some (.ref fI))) (hf : isFn K (.ref fI) = true)
    (h : codeAny (model prog w) (A.under (.builtin "type.__call__" ⟨[.ref C], []⟩)) (.call (.ref fI) ⟨[.ref (s.heap.objs.size + 1)], []⟩) (InitBack (s.heap.objs.size + 1) R) { s with heap := (s.heap.push (dictOf [] 0)).push (instObj C s.heap.objs.size) }) :
    codeAny (model prog w) A (.call (.ref C) ⟨[], []⟩) R s := by
  obtain ⟨hh, g, d, t, os⟩ := s
  exact make_core (makes_of X hm) (looks_findIn X hi) (fun self => bind_fn X self (beq_iff_eq.mp hf)) (.inl rfl) h

section
variable {h₀ h : Heap} {L x C dx : Addr} {m : Str → Option Value} {od : Obj} {sl : Array (Option Value)}
theorem inst_base (F : Fr h₀ L h m) (h1 : h₀.get? x = some (⟨.ref C, some dx, .plain, sl⟩ : Obj)) (h2 : h₀.get? dx = some od) :
    InstAt h x ⟨.ref C, some dx, .plain, sl⟩ C (some od) := ⟨F.keep _ _ h1, rfl, rfl, F.keep _ _ h2⟩
end

/-- behind a call that keeps all: the frame and the ledger, with what the call made -/
theorem call_news {s s' : Shared} {h₀ : Heap} {L : Addr} {m : Str → Option Value} {news add : List (Addr × Obj)} (k : Keeps s s') (F : Fr h₀ L s.heap m) (N : News h₀ L s.heap news)
    (hadd : ∀ p ∈ add, s'.heap.get? p.1 = some p.2 ∧ s.heap.objs.size ≤ p.1) :
    Fr h₀ L s'.heap m ∧ News h₀ L s'.heap (add ++ news) ∧ (∀ q ∈ news, ∀ p ∈ add, q.1 < p.1) := by
  obtain ⟨h', tk, rfl, hk⟩ := k
  obtain ⟨oL, a1, a2, hL, a3⟩ := F.ns
  refine ⟨⟨⟨oL, a1, a2, hk _ _ hL, a3⟩, fun b o e => hk _ _ (F.keep b o e), F.above⟩, ?_, ?_⟩
  · intro p hp
    rcases List.mem_append.mp hp with hp | hp
    · obtain ⟨e, hs⟩ := hadd p hp
      refine ⟨e, fun q => absurd (Heap.lt_size hL) (by rw [← q]; exact Nat.not_lt.mpr hs), ?_⟩
      cases hq : h₀.get? p.1 with
      | none => rfl
      | some o => exact absurd (Heap.lt_size (F.keep _ _ hq)) (Nat.not_lt.mpr hs)
    · exact ⟨hk _ _ (N p hp).1, (N p hp).2⟩
  · exact fun q hq p hp => Nat.lt_of_lt_of_le (Heap.lt_size (N q hq).1) (hadd p hp).2
theorem keeps_of {s : Shared} {h₀ h' : Heap} {L : Addr} {m' : Str → Option Value} {tk : Nat} (eH : h₀ = s.heap) (F : Fr h₀ L h' m') : Keeps s { s with heap := h', toks := tk } :=
  ⟨h', tk, rfl, fun b o e => F.keep b o (by rw [eH]; exact e)⟩
theorem ne_forgot {forgot : List Str} {y a : Str} (h : forgot.contains y = false) (ha : forgot.contains a = true) : y ≠ a := by
  rintro rfl; rw [ha] at h; cases h
end Mine

local macro_rules | `(tactic| k_room) => `(tactic| ((try simp only [depth_mark, depth_under_make, depth_under_kw, depth_in1, depth_deeper, depth_caller]); (try dsimp only [Mine.arnd]); omega))
local macro_rules | `(tactic| kdy_size) => `(tactic| ((try simp only [units_in1, units_deeper, Around.mark_units, units_caller]); (try dsimp only [Mine.arnd]); omega))
local macro_rules | `(tactic| k_inst) => `(tactic| (refine' Mine.inst_base (by k_asm) (by assumption) (by assumption)))
local macro_rules | `(tactic| walk_at $s:str) => `(tactic| k_extra $s)

/- part MD -/
namespace Mine
def pstr (b : Bool) : Str := if b then Str.ofString "owl" else Str.ofString "fig"
abbrev entD (w : World) (tu tr td tq : Tok) (lu lr : Addr) : List DictEntry :=
  [⟨PyData.keyHash w.params (Str.ofString "useragents"), .str (Str.ofString "useragents") tu, .ref lu⟩,
   ⟨PyData.keyHash w.params (Str.ofString "rulelines"), .str (Str.ofString "rulelines") tr, .ref lr⟩,
   ⟨PyData.keyHash w.params (Str.ofString "delay"), .str (Str.ofString "delay") td, .none⟩,
   ⟨PyData.keyHash w.params (Str.ofString "req_rate"), .str (Str.ofString "req_rate") tq, .none⟩]
abbrev entD5 (w : World) (tu tr td tq ta : Tok) (lu lr : Addr) (al : Bool) : List DictEntry :=
  [⟨PyData.keyHash w.params (Str.ofString "useragents"), .str (Str.ofString "useragents") tu, .ref lu⟩,
   ⟨PyData.keyHash w.params (Str.ofString "rulelines"), .str (Str.ofString "rulelines") tr, .ref lr⟩,
   ⟨PyData.keyHash w.params (Str.ofString "delay"), .str (Str.ofString "delay") td, .none⟩,
   ⟨PyData.keyHash w.params (Str.ofString "req_rate"), .str (Str.ofString "req_rate") tq, .none⟩,
   ⟨PyData.keyHash w.params (Str.ofString "allowance"), .str (Str.ofString "allowance") ta, .bool al⟩]
end Mine
namespace Mine
/-- a list's items are the parties' names -/
inductive Ag : List Value → List Bool → Prop
  | nil : Ag [] []
  | cons (b : Bool) (t : Tok) {vs : List Value} {us : List Bool} : Ag vs us → Ag (.str (pstr b) t :: vs) (b :: us)
theorem Ag.get {vs : List Value} {us : List Bool} (x : Ag vs us) : ∀ {i : Nat} {v : Value}, vs[i]? = some v → ∃ b t, us[i]? = some b ∧ v = .str (pstr b) t := by
  induction x with
  | nil => intro i v h; simp at h
  | cons b t hr ih =>
    intro i v h
    cases i with
    | zero => simp at h; exact ⟨b, t, by simp, h.symm⟩
    | succ i =>
      simp only [List.getElem?_cons_succ] at h
      obtain ⟨b', t', e1, e2⟩ := ih h
      exact ⟨b', t', by simpa using e1, e2⟩
theorem Ag.length {vs : List Value} {us : List Bool} (h : Ag vs us) : vs.length = us.length := by
  induction h with
  | nil => rfl
  | cons b t _ ih => simp [ih]
theorem js_fun {m₁ g : Str → Option Value} {x : Str} {v : Option Value} {forgot : List Str} (h : ∀ y, forgot.contains y = false → m₁ y = g y) :
    (fun y => if y = x then v else m₁ y) = fun y => if y = x then v else if forgot.contains y then m₁ y else g y := by
  funext y
  by_cases e : y = x
  · simp [e]
  · simp only [if_neg e]
    cases q : forgot.contains y with
    | true => simp
    | false => simp [h y q]
end Mine

/- part M1 -/
namespace Mine
set_option maxRecDepth 100000

/-- what a turn of a loop must come to: the loop's own iterator stands as it stood, all else by J -/
def TurnPost (h₀ : Heap) (L I : Addr) (o : Obj) (J : (Str → Option Value) → List (Addr × Obj) → Prop) (s : Shared) (Q : Flow → Shared → Prop) (f : Flow) (s₂ : Shared) : Prop :=
  match f with
  | .ret v => Q (.ret v) s₂
  | .brk => Q .next s₂
  | _ => ∃ h' tk' m' news', s₂ = { s with heap := h', toks := tk' } ∧ Fr h₀ L h' m' ∧ News h₀ L h' ((I, o) :: news') ∧ (∀ p ∈ news', p.1 ≠ I) ∧ J m' news'

theorem TurnPost.go {h₀ : Heap} {L I : Addr} {o : Obj} {J : (Str → Option Value) → List (Addr × Obj) → Prop} {s : Shared} {Q : Flow → Shared → Prop} {h' : Heap} {tk' : Nat} {m' : Str → Option Value} {all : List (Addr × Obj)}
    (news' : List (Addr × Obj)) (F : Fr h₀ L h' m') (N : News h₀ L h' all) (hI : (I, o) ∈ all) (sub : ∀ p ∈ news', p ∈ all) (off : ∀ p ∈ news', p.1 ≠ I) (j : J m' news') :
    TurnPost h₀ L I o J s Q .next { s with heap := h', toks := tk' } :=
  ⟨h', tk', m', news', rfl, F, fun p hp => by
    rcases List.mem_cons.mp hp with rfl | hp
    · exact N _ hI
    · exact N _ (sub p hp), off, j⟩

section
variable {prog : Program} {w : World} {A : Around} {E : Value → Shared → Prop} {s : Shared} {env : Env} {h₀ : Heap} {x : Str} {body : List Stmt} {Q : Flow → Shared → Prop}

theorem loop_at {I : Addr} {fp : List Addr} {n : Nat} {P : Nat → Value → Prop} {St : Nat → Heap → Prop} {m : Str → Option Value} {news : List (Addr × Obj)} (J : Nat → (Str → Option Value) → List (Addr × Obj) → Prop)
    (W : Walks prog w A I fp [I] n P St) (hLf : env.locals ∉ fp) (hI0 : h₀.get? I = none) (hIf : I ∈ fp)
    (hSt : ∀ i h, St i h → ∃ o, h.get? I = some o)
    (hfp : ∀ b ∈ fp, b ≠ I → (∃ o, h₀.get? b = some o) ∨ (∃ o, ∀ i m₁ news₁, J i m₁ news₁ → (b, o) ∈ news₁))
    (hnw : ∀ p ∈ news, p.1 ≠ I) (hst : St 0 s.heap) (F : Fr h₀ env.locals s.heap m) (N : News h₀ env.locals s.heap news) (h0 : J 0 m news)
    (turn : ∀ i v m₁ news₁ h tk o, i < n → P i v → J i m₁ news₁ → (∀ p ∈ news₁, p.1 ≠ I) → h.get? I = some o → Fr h₀ env.locals h (fun y => if y = x then some v else m₁ y) → News h₀ env.locals h ((I, o) :: news₁) →
      wpAny (model prog w) A (execs body env) (TurnPost h₀ env.locals I o (J (i + 1)) s Q) E { s with heap := h, toks := tk })
    (done : ∀ m₁ news₁ h tk, J n m₁ news₁ → Fr h₀ env.locals h m₁ → News h₀ env.locals h news₁ → Q .next { s with heap := h, toks := tk }) :
    LoopAtV prog w A h₀ env x body Q E (.ref I) s := by
  refine ⟨I, fp, [I], n, P, St, m, news, J, rfl, W, hLf, ?_, ?_, hst, F, N, h0, ?_, ?_⟩
  · intro b hb; rw [List.mem_singleton.mp hb]; exact hI0
  · intro p hp hb; exact hnw p hp (List.mem_singleton.mp hb)
  · rintro i v m₁ news₁ s₁ own ⟨h, tk, rfl⟩ hi hP hJ hoff hown hget hall hst' F₁ N₁
    have hoff' : ∀ p ∈ news₁, p.1 ≠ I := fun p hp e => hoff p hp (List.mem_singleton.mpr e)
    obtain ⟨o, ho⟩ := hSt _ _ hst'
    have hIo : (I, o) ∈ own := hall I hIf hI0 o ho
    have N₂ : News h₀ env.locals h ((I, o) :: news₁) := fun p hp => by
      rcases List.mem_cons.mp hp with rfl | hp
      · exact N₁ _ (List.mem_append_left _ hIo)
      · exact N₁ _ (List.mem_append_right _ hp)
    refine wpAny_mono (turn i v m₁ news₁ h tk o hi hP hJ hoff' ho F₁ N₂) (fun f s₂ p => ?_) fun _ _ e => e
    have fin : (∃ h' tk' m' news', s₂ = { s with heap := h', toks := tk' } ∧ Fr h₀ env.locals h' m' ∧ News h₀ env.locals h' ((I, o) :: news') ∧ (∀ p ∈ news', p.1 ≠ I) ∧ J (i + 1) m' news') →
        LoopStepU h₀ env.locals [I] own (J (i + 1)) { s with heap := h, toks := tk } .next s₂ := by
      rintro ⟨h', tk', m', news', e, F', N', off, j⟩
      refine ⟨rfl, h', tk', m', news', e, F', fun p hp => ?_, fun p hp hb => off p hp (List.mem_singleton.mp hb), j⟩
      rcases List.mem_append.mp hp with hp | hp
      · have hpf := hown p hp
        have hpg := hget p hp
        by_cases hpI : p.1 = I
        · have : p = (I, o) := by
            rw [hpI, ho] at hpg
            exact Prod.ext hpI (Option.some.inj hpg).symm
          rw [this]; exact N' _ (List.mem_cons_self ..)
        · rcases hfp p.1 hpf hpI with ⟨ob, hob⟩ | ⟨ob, hob⟩
          · exact absurd ((N₁ p (List.mem_append_left _ hp)).2.2.symm.trans hob) (by simp)
          · have h1 := hob i m₁ news₁ hJ
            have h2 := (N₁ _ (List.mem_append_right _ h1)).1
            have h3 : ob = p.2 := by rw [hpg] at h2; exact (Option.some.inj h2).symm
            have h4 := hob (i + 1) m' news' j
            rw [h3] at h4
            exact N' _ (List.mem_cons_of_mem _ h4)
      · exact N' _ (List.mem_cons_of_mem _ hp)
    cases f with
    | ret v => exact .ret p
    | brk => exact .brk p
    | next => exact .next (fin p)
    | cont => exact .cont (fin p)
  · rintro h' tk m' news' F' N' _ hJ
    exact done m' news' h' tk hJ F' N'

theorem fresh_ne {h₀ h : Heap} {L : Addr} {m : Str → Option Value} (F : Fr h₀ L h m) : L ≠ h.objs.size := Nat.ne_of_lt F.ns.lt

/-- a loop over a list that stood ahead of the call -/
theorem iter_base {l : Addr} {vs : List Value} {m₀ : Str → Option Value} {news : List (Addr × Obj)} (J : Nat → (Str → Option Value) → List (Addr × Obj) → Prop)
    (hh : A.handled = none) (hl : h₀.IsList l vs.toArray) (F : Fr h₀ env.locals s.heap m₀) (N : News h₀ env.locals s.heap news) (hj : J 0 m₀ news)
    (turn : ∀ I o i v m₁ news₁ h tk, vs[i]? = some v → J i m₁ news₁ → (∀ p ∈ news, p.1 < I) → (∀ p ∈ news₁, p.1 ≠ I) → Fr h₀ env.locals h (fun y => if y = x then some v else m₁ y) → News h₀ env.locals h ((I, o) :: news₁) →
      wpAny (model prog w) A (execs body env) (TurnPost h₀ env.locals I o (J (i + 1)) s Q) E { s with heap := h, toks := tk })
    (done : ∀ m₁ news₁ h tk, J vs.length m₁ news₁ → Fr h₀ env.locals h m₁ → News h₀ env.locals h news₁ → Q .next { s with heap := h, toks := tk }) :
    wpAny (model prog w) A (pyIter (.ref l)) (fun it s₂ => LoopAtV prog w A h₀ env x body Q E it s₂) E s := by
  have hls : s.heap.IsList l vs.toArray := hl.at fun o e => F.keep l o e
  obtain ⟨ol, hol, _⟩ := id hl
  have hlt : l < h₀.objs.size := Heap.lt_size hol
  have hlL : l < env.locals := Nat.lt_of_lt_of_le hlt F.above
  have hne : l ≠ s.heap.objs.size := Nat.ne_of_lt (Nat.lt_trans hlL F.ns.lt)
  refine wpAny_pyIter_list hls ?_
  have W := Walks.list (prog := prog) (w := w) hh s.heap.objs.size l hne vs.toArray
  have hlen : vs.toArray.size = vs.length := by simp
  rw [hlen] at W
  refine loop_at J W ?_ (next_is_new F) (by simp) ?_ ?_ ?_ ⟨⟨_, Heap.get?_push_size _ rfl, rfl, rfl⟩, hls.at fun o e => Heap.get?_push_of_some _ e⟩ (F.push _) (fun p hp => ⟨Heap.get?_push_of_some _ (N p hp).1, (N p hp).2⟩) hj ?_ ?_
  · intro hm
    rcases List.mem_cons.mp hm with e | hm
    · exact absurd F.ns.lt (e ▸ Nat.lt_irrefl _)
    · exact absurd hlL ((List.mem_singleton.mp hm) ▸ Nat.lt_irrefl _)
  · rintro i h ⟨⟨o, ho, _⟩, _⟩; exact ⟨o, ho⟩
  · intro b hb hbI
    rcases List.mem_cons.mp hb with e | hb
    · exact absurd e hbI
    · rw [List.mem_singleton.mp hb]; exact .inl ⟨ol, hol⟩
  · intro p hp e; exact absurd (Heap.lt_size (N p hp).1) (e ▸ Nat.lt_irrefl _)
  · intro i v m₁ news₁ h tk o hi hP hJ hoff _ F₁ N₁
    exact turn _ o i v m₁ news₁ h tk (by simpa using hP) hJ (fun p hp => Heap.lt_size (N p hp).1) hoff F₁ N₁
  · intro m₁ news₁ h tk hJ F₁ N₁
    exact done m₁ news₁ h tk hJ F₁ N₁

/-- a loop over a list of the ledger that no turn changes -/
theorem iter_led {l : Addr} {vs : List Value} {nl : Nat} {m₀ : Str → Option Value} {news : List (Addr × Obj)} (J : Nat → (Str → Option Value) → List (Addr × Obj) → Prop)
    (hh : A.handled = none) (F : Fr h₀ env.locals s.heap m₀) (N : News h₀ env.locals s.heap news) (hj : J 0 m₀ news) (hJl : ∀ i m₁ news₁, J i m₁ news₁ → (l, W.listOf vs.toArray nl) ∈ news₁)
    (turn : ∀ I o i v m₁ news₁ h tk, vs[i]? = some v → J i m₁ news₁ → (∀ p ∈ news, p.1 < I) → (∀ p ∈ news₁, p.1 ≠ I) → Fr h₀ env.locals h (fun y => if y = x then some v else m₁ y) → News h₀ env.locals h ((I, o) :: news₁) →
      wpAny (model prog w) A (execs body env) (TurnPost h₀ env.locals I o (J (i + 1)) s Q) E { s with heap := h, toks := tk })
    (done : ∀ m₁ news₁ h tk, J vs.length m₁ news₁ → Fr h₀ env.locals h m₁ → News h₀ env.locals h news₁ → Q .next { s with heap := h, toks := tk }) :
    wpAny (model prog w) A (pyIter (.ref l)) (fun it s₂ => LoopAtV prog w A h₀ env x body Q E it s₂) E s := by
  have hm0 := hJl 0 m₀ news hj
  have hg := (N _ hm0).1
  have hls : s.heap.IsList l vs.toArray := ⟨_, hg, rfl, nl, rfl⟩
  have hne : l ≠ s.heap.objs.size := Nat.ne_of_lt (Heap.lt_size hg)
  refine wpAny_pyIter_list hls ?_
  have W := Walks.list (prog := prog) (w := w) hh s.heap.objs.size l hne vs.toArray
  have hlen : vs.toArray.size = vs.length := by simp
  rw [hlen] at W
  refine loop_at J W ?_ (next_is_new F) (by simp) ?_ ?_ ?_ ⟨⟨_, Heap.get?_push_size _ rfl, rfl, rfl⟩, hls.at fun o e => Heap.get?_push_of_some _ e⟩ (F.push _) (fun p hp => ⟨Heap.get?_push_of_some _ (N p hp).1, (N p hp).2⟩) hj ?_ ?_
  · intro hm
    rcases List.mem_cons.mp hm with e | hm
    · exact absurd F.ns.lt (e ▸ Nat.lt_irrefl _)
    · exact (N _ hm0).2.1 (List.mem_singleton.mp hm).symm
  · rintro i h ⟨⟨o, ho, _⟩, _⟩; exact ⟨o, ho⟩
  · intro b hb hbI
    rcases List.mem_cons.mp hb with e | hb
    · exact absurd e hbI
    · rw [List.mem_singleton.mp hb]; exact .inr ⟨_, hJl⟩
  · intro p hp e; exact absurd (Heap.lt_size (N p hp).1) (e ▸ Nat.lt_irrefl _)
  · intro i v m₁ news₁ h tk o hi hP hJ hoff _ F₁ N₁
    exact turn _ o i v m₁ news₁ h tk (by simpa using hP) hJ (fun p hp => Heap.lt_size (N p hp).1) hoff F₁ N₁
  · intro m₁ news₁ h tk hJ F₁ N₁
    exact done m₁ news₁ h tk hJ F₁ N₁

/-- a loop that searches: it keeps the ledger and all names but the forgotten ones -/
theorem iter_baseK {l : Addr} {vs : List Value} {m₀ : Str → Option Value} {news : List (Addr × Obj)} (forgot : List Str) (Pf : Nat → Prop)
    (hh : A.handled = none) (hl : h₀.IsList l vs.toArray) (F : Fr h₀ env.locals s.heap m₀) (N : News h₀ env.locals s.heap news) (hj : Pf 0)
    (turn : ∀ I o i v (u : Str → Option Value) h tk, vs[i]? = some v → Pf i → (∀ p ∈ news, p.1 < I) → Fr h₀ env.locals h (fun y => if y = x then some v else if forgot.contains y then u y else m₀ y) → News h₀ env.locals h ((I, o) :: news) →
      wpAny (model prog w) A (execs body env) (TurnPost h₀ env.locals I o (fun m' news' => Pf (i + 1) ∧ news' = news ∧ ∀ y, forgot.contains y = false → m' y = m₀ y) s Q) E { s with heap := h, toks := tk })
    (done : ∀ (u : Str → Option Value) h tk, Pf vs.length → Fr h₀ env.locals h (fun y => if forgot.contains y then u y else m₀ y) → News h₀ env.locals h news → Q .next { s with heap := h, toks := tk }) :
    wpAny (model prog w) A (pyIter (.ref l)) (fun it s₂ => LoopAtV prog w A h₀ env x body Q E it s₂) E s := by
  refine iter_base (fun i m' news' => Pf i ∧ news' = news ∧ ∀ y, forgot.contains y = false → m' y = m₀ y) hh hl F N ⟨hj, rfl, fun _ _ => rfl⟩ ?_ ?_
  · rintro I o i v m₁ news₁ h tk hv ⟨hp, rfl, hm⟩ hlt hne F₁ N₁
    rw [js_fun hm] at F₁
    exact turn I o i v m₁ h tk hv hp hlt F₁ N₁
  · rintro m₁ news₁ h tk ⟨hp, rfl, hm⟩ F₁ N₁
    have e : m₁ = fun y => if forgot.contains y then m₁ y else m₀ y := by
      funext y
      cases q : forgot.contains y with
      | true => simp
      | false => simp [hm y q]
    rw [e] at F₁
    exact done m₁ h tk hp F₁ N₁
/-- the end of such a turn -/
theorem TurnPost.goK {h₀ : Heap} {L I : Addr} {o : Obj} {Pn : Prop} {m₀ m' : Str → Option Value} {s : Shared} {Q : Flow → Shared → Prop} {h' : Heap} {tk' : Nat} {forgot : List Str} {news all : List (Addr × Obj)}
    (F : Fr h₀ L h' m') (N : News h₀ L h' all) (hI : (I, o) ∈ all) (sub : ∀ p ∈ news, p ∈ all) (off : ∀ p ∈ news, p.1 < I) (hp : Pn) (hm : ∀ y, forgot.contains y = false → m' y = m₀ y) :
    TurnPost h₀ L I o (fun m' news' => Pn ∧ news' = news ∧ ∀ y, forgot.contains y = false → m' y = m₀ y) s Q .next { s with heap := h', toks := tk' } :=
  TurnPost.go news F N hI sub (fun p hp => Nat.ne_of_lt (off p hp)) ⟨hp, rfl, hm⟩
end
end Mine

/- part M2 -/
namespace Mine
set_option maxRecDepth 100000

theorem small5 (b : Int) (h0 : 0 ≤ b) (h5 : b ≤ 5) : Builtin.Range.small 0 b 1 = true ∧ Builtin.Range.rangeSize 0 b 1 = b := by
  have : b = 0 ∨ b = 1 ∨ b = 2 ∨ b = 3 ∨ b = 4 ∨ b = 5 := by omega
  rcases this with rfl | rfl | rfl | rfl | rfl | rfl <;> decide

section
variable {prog : Program} {w : World} {A : Around} {E : Value → Shared → Prop} {s : Shared} {env : Env} {h₀ : Heap} {x : Str} {body : List Stmt} {Q : Flow → Shared → Prop}

/-- a loop over a range by ones -/
theorem iter_range {r : Addr} {a₀ b₀ : Int} {t₀ u₀ v₀ : Tok} {n : Nat} {m₀ : Str → Option Value} {news : List (Addr × Obj)} (J : Nat → (Str → Option Value) → List (Addr × Obj) → Prop)
    (hh : A.handled = none) (hr : IsRange s.heap r a₀ b₀ 1 t₀ u₀ v₀) (hsmall : Builtin.Range.small a₀ b₀ 1 = true) (hn : Builtin.Range.rangeSize a₀ b₀ 1 = (n : Int))
    (F : Fr h₀ env.locals s.heap m₀) (N : News h₀ env.locals s.heap news) (hj : J 0 m₀ news)
    (turn : ∀ I o i t m₁ news₁ h tk, i < n → J i m₁ news₁ → (∀ p ∈ news, p.1 < I) → (∀ p ∈ news₁, p.1 ≠ I) → Fr h₀ env.locals h (fun y => if y = x then some (.int (a₀ + (i : Int)) t) else m₁ y) → News h₀ env.locals h ((I, o) :: news₁) →
      wpAny (model prog w) A (execs body env) (TurnPost h₀ env.locals I o (J (i + 1)) s Q) E { s with heap := h, toks := tk })
    (done : ∀ m₁ news₁ h tk, J n m₁ news₁ → Fr h₀ env.locals h m₁ → News h₀ env.locals h news₁ → Q .next { s with heap := h, toks := tk }) :
    wpAny (model prog w) A (pyIter (.ref r)) (fun it s₂ => LoopAtV prog w A h₀ env x body Q E it s₂) E s := by
  refine wpAny_pyIter_range hr hsmall ?_
  have W := Walks.range (prog := prog) (w := w) hh s.heap.objs.size a₀ 1 n
  refine loop_at J W ?_ (next_is_new F) (by simp) ?_ ?_ ?_ ?_ (F.push _) (fun p hp => ⟨Heap.get?_push_of_some _ (N p hp).1, (N p hp).2⟩) hj ?_ ?_
  · intro hm
    exact absurd F.ns.lt ((List.mem_singleton.mp hm) ▸ Nat.lt_irrefl _)
  · intro i h st; exact ⟨_, st⟩
  · intro b hb hbI; exact absurd (List.mem_singleton.mp hb) hbI
  · intro p hp e; exact absurd (Heap.lt_size (N p hp).1) (e ▸ Nat.lt_irrefl _)
  · show IsRangeIter _ _ _ _ _; rw [hn]; simpa using Heap.get?_push_size _ rfl
  · rintro i v m₁ news₁ h tk o hi ⟨t, rfl⟩ hJ hoff _ F₁ N₁
    rw [Int.mul_one] at F₁
    exact turn _ o i t m₁ news₁ h tk hi hJ (fun p hp => Heap.lt_size (N p hp).1) hoff F₁ N₁
  · intro m₁ news₁ h tk hJ F₁ N₁
    exact done m₁ news₁ h tk hJ F₁ N₁

/-- a loop over the keys of a dict of the ledger or of the heap below, that no turn changes -/
theorem iter_dict {d : Addr} {o : Obj} {kvs : List (Int × Value)} {m₀ : Str → Option Value} {news : List (Addr × Obj)} (J : Nat → (Str → Option Value) → List (Addr × Obj) → Prop)
    (hh : A.handled = none) (hsys : (d == sysModules) = false) (hd : o.IsDictOf (intKind prog w) kvs) (F : Fr h₀ env.locals s.heap m₀) (N : News h₀ env.locals s.heap news) (hj : J 0 m₀ news) (hJd : ∀ i m₁ news₁, J i m₁ news₁ → (d, o) ∈ news₁)
    (turn : ∀ I oI i k v t m₁ news₁ h tk, kvs[i]? = some (k, v) → J i m₁ news₁ → (∀ p ∈ news, p.1 < I) → (∀ p ∈ news₁, p.1 ≠ I) → Fr h₀ env.locals h (fun y => if y = x then some (.int k t) else m₁ y) → News h₀ env.locals h ((I, oI) :: news₁) →
      wpAny (model prog w) A (execs body env) (TurnPost h₀ env.locals I oI (J (i + 1)) s Q) E { s with heap := h, toks := tk })
    (done : ∀ m₁ news₁ h tk, J kvs.length m₁ news₁ → Fr h₀ env.locals h m₁ → News h₀ env.locals h news₁ → Q .next { s with heap := h, toks := tk }) :
    wpAny (model prog w) A (pyIter (.ref d)) (fun it s₂ => LoopAtV prog w A h₀ env x body Q E it s₂) E s := by
  have hm0 := hJd 0 m₀ news hj
  have hg := (N _ hm0).1
  have hne : d ≠ s.heap.objs.size := Nat.ne_of_lt (Heap.lt_size hg)
  obtain ⟨es, ep, hex, hdat, hk, hp, hnd⟩ := id hd
  have hat : s.heap.DictAt (intKind prog w) d kvs ep := ⟨o, es, hg, hex, hdat, hk, hp, hnd⟩
  refine wpAny_pyIter_dict hsys hat ?_
  have W := Walks.dictKeys (prog := prog) (w := w) (knd := intKind prog w) hh s.heap.objs.size d hne kvs ep
  refine loop_at J W ?_ (next_is_new F) (by simp) ?_ ?_ ?_ ?_ (F.push _) (fun p hp => ⟨Heap.get?_push_of_some _ (N p hp).1, (N p hp).2⟩) hj ?_ ?_
  · intro hm
    rcases List.mem_cons.mp hm with e | hm
    · exact absurd F.ns.lt (e ▸ Nat.lt_irrefl _)
    · exact (N _ hm0).2.1 (List.mem_singleton.mp hm).symm
  · rintro i h ⟨⟨o, ho, _⟩, _⟩; exact ⟨o, ho⟩
  · intro b hb hbI
    rcases List.mem_cons.mp hb with e | hb
    · exact absurd e hbI
    · rw [List.mem_singleton.mp hb]; exact .inr ⟨o, hJd⟩
  · intro p hp e; exact absurd (Heap.lt_size (N p hp).1) (e ▸ Nat.lt_irrefl _)
  · exact ⟨⟨_, Heap.get?_push_size _ rfl, rfl, rfl⟩, ⟨o, es, Heap.get?_push_of_some _ hg, hex, hdat, hk, hp, hnd⟩⟩
  · rintro i v m₁ news₁ h tk oI hi ⟨k, y, hkv, hkey⟩ hJ hoff _ F₁ N₁
    obtain ⟨t, rfl⟩ := Value.isInt_shape hkey
    exact turn _ oI i k y t m₁ news₁ h tk hkv hJ (fun p hp => Heap.lt_size (N p hp).1) hoff F₁ N₁
  · intro m₁ news₁ h tk hJ F₁ N₁
    exact done m₁ news₁ h tk hJ F₁ N₁
end

section
variable {prog : Program} {w : World} {A : Around} {E : Value → Shared → Prop} {s : Shared} {h₀ : Heap} {L d : Addr} {m : Str → Option Value} {news : List (Addr × Obj)} {o : Obj} {g : Obj → List (Addr × Obj)} {kvs : List (Int × Value)} {k : Int} {t : Tok} {v : Value}
/-- d[k] = v, d a dict of the ledger with ints for keys -/
theorem set_D {Q : Unit → Shared → Prop} (F : Fr h₀ L s.heap m) (N : News h₀ L s.heap news) (U : UpdF d o news g) (hd : o.IsDictOf (intKind prog w) kvs) (hsz : kvs.length < 100)
    (h : ∀ h' o', Fr h₀ L h' m → News h₀ L h' (g o') → o'.IsDictOf (intKind prog w) (stored kvs k v) → Q () { s with heap := h', toks := s.toks + 1 }) :
    wpAny (model prog w) A (setItem (.ref d) (.int k t) v) Q E s := by
  obtain ⟨pre, post, rfl, hg, a, b⟩ := U.split
  have hm := N (d, o) (List.mem_append_right _ (.head _))
  refine wpAny_setItem_pairs (hsz := by rw [sizeLine_eq]; omega) (intKind_is prog w k t) (Heap.dictOf_iff.mpr ⟨o, hm.1, hd⟩) fun h' hmm hs => ?_
  obtain ⟨o', ho', hd'⟩ := Heap.dictOf_iff.mp hmm
  exact h h' o' (F.change hs hm.2.1 hm.2.2) (hg o' ▸ N.setIn a b hs ho') hd'
/-- d[k], d a dict that stood ahead of the call -/
theorem get_D {value slice : Expr} {Q : Value → Shared → Prop} (F : Fr h₀ L s.heap m) (ho : h₀.get? d = some o) (hd : o.IsDictOf (intKind prog w) kvs) (hv : valueAt kvs k = some v) (h : Q v { s with toks := s.toks + 1 })
    (hs : subscripted slice false (.ref d) (.int k t) = operate [.ref d, .int k t] (getItem (.ref d) (.int k t)) := by with_unfolding_all rfl) :
    wpAny (model prog w) A (subscriptTail value slice (.ref d) (.int k t)) Q E s :=
  have hm : s.heap.DictOf (intKind prog w) d kvs := Heap.dictOf_iff.mpr ⟨o, F.keep _ _ ho, hd⟩
  tail_any hm.typeIs slot_dict_getitem.lookup (wpAny_getItem_of (intKind_is prog w k t) hm.mapOf hv h) hs
/-- range(n) -/
theorem range_L {n : Int} {Q : Value → Shared → Prop} (F : Fr h₀ L s.heap m) (N : News h₀ L s.heap news)
    (h : ∀ r u v h' tk, Fr h₀ L h' m → News h₀ L h' ((r, { cls := .type "range", dict := none, data := .fields #[.int 0 u, .int n t, .int 1 v], slots := #[] }) :: news) → (∀ p ∈ news, p.1 < r) → Q (.ref r) { s with heap := h', toks := tk }) :
    wpAny (model prog w) A (call (.type "range") [.int n t]) Q E s :=
  call_range_1 (h _ _ _ _ _ (F.push _) (N.push F _) fun p hp => Heap.lt_size (N p hp).1)
end
end Mine

/- part A2 -/
namespace Mine
set_option maxRecDepth 100000 in
set_option maxHeartbeats 8000000 in
theorem entry_spec : ∀ (w : World) (mean : ExcName → Option Value) (mg mb : Str → Option Value) (gd : Option (List Code)) (fr : Option (List Env)) (dp un : Nat) (s : Shared) (Q E : Value → Shared → Prop)
    (X : (Mine.hd.heap_39 w.params).In s.heap) (T : Top Mine.hd.view_39 (looseW Mine.hd.view_39 []) mean mg mb s.heap) (hd : dp + 20 < recursionLimit) (hu : un + 200 < cLine)
    
    (ret : ∀ x d l1 l2 t1 t2 t3 t4 s', Keeps s s' → s.heap.objs.size ≤ d → d < x → x < l1 → l1 < l2 → s'.heap.get? x = some (instObj 52 d) → s'.heap.get? d = some (dictOf (entD w t1 t2 t3 t4 l1 l2) 4) → s'.heap.get? l1 = some (W.listOf #[] 0) → s'.heap.get? l2 = some (W.listOf #[] 0) → Q (.ref x) s'),
    wpAny (model PySem.Challenge.rw_rl0022_01.prog w) (arnd dp un gd fr) (call (.ref 52) []) Q E s := by
  w_top off
  k_with_none
  k_fill
  intro w mean mg mb gd fr dp un s Q E X T hd hu  ret
  refine wpAny_call (make_raw X (by k_is) (by k_is) (by k_is) ?_)
  k_dflt (refine' enter_led (news := [(s.heap.objs.size + 1, instObj 52 s.heap.objs.size), (s.heap.objs.size, dictOf [] 0)]) (binds := [(Str.ofString "self", .ref (s.heap.objs.size + 1))]) (fun b o e => Heap.get?_push_of_some _ (Heap.get?_push_of_some _ e)) ?kS ?kN X T ?k6 ?k7 ?k8 ?k9 ?kB ?_ ?c2 ?c3 ?c4 ?c5; (case k6 => k_is); (case k7 => k_is); (case k8 => k_room); (case k9 => exact BindsTo.of_eq rfl); (case c5 => decide); (case kB => exact locs rfl); (case c2 => exact rfl); (case c3 => exact rfl); (case c4 => exact rfl))
  case kS => simp only [Heap.size_push]; omega
  case kN =>
    have fr : ∀ a, s.heap.objs.size ≤ a → s.heap.get? a = none := fun a ha => by
      cases e : s.heap.get? a with
      | none => rfl
      | some o => exact absurd (Heap.lt_size e) (Nat.not_lt.mpr ha)
    intro p hp
    rcases List.mem_cons.mp hp with rfl | hp
    · refine ⟨?_, fr _ (by show s.heap.objs.size ≤ s.heap.objs.size + 1; omega)⟩
      have := Heap.get?_push_size (o := instObj 52 s.heap.objs.size) (s.heap.push (dictOf [] 0)) rfl
      rwa [Heap.size_push] at this
    · rw [List.mem_singleton.mp hp]
      exact ⟨Heap.get?_push_of_some _ (Heap.get?_push_size _ rfl), fr _ (Nat.le_refl _)⟩
  generalize hx : s.heap.objs.size + 1 = x
  generalize hdx : s.heap.objs.size = dx
  intro L h₁ eL F N
  have l0 : dx < x := by omega
  have l1 : s.heap.objs.size ≤ dx := by omega
  dsimp only
  k_steps
  with_reducible rename Fr _ _ _ _ => F9
  with_reducible rename News _ _ _ _ => N9
  refine ⟨rfl, ret x dx _ _ _ _ _ _ _ (keeps_of rfl F9) l1 l0 ?_ ?_ (N9.get (by k_mem)) (N9.get (by k_mem)) (N9.get (by k_mem)) (N9.get (by k_mem))⟩
  · omega
  · omega

theorem entry_L {w : World} {mean : ExcName → Option Value} {mg mb : Str → Option Value} {gd : Option (List Code)} {fr : Option (List Env)} {dp un : Nat} {s : Shared} {Q E : Value → Shared → Prop} {h₀ : Heap} {L : Addr} {m : Str → Option Value} {news : List (Addr × Obj)}
    (F : Fr h₀ L s.heap m) (N : News h₀ L s.heap news) (X : (Mine.hd.heap_39 w.params).In h₀) (T : Top Mine.hd.view_39 (looseW Mine.hd.view_39 []) mean mg mb h₀) (hd : dp + 20 < recursionLimit) (hu : un + 200 < cLine)
    (h : ∀ x d l1 l2 t1 t2 t3 t4 h' tk, Fr h₀ L h' m → News h₀ L h' ((l2, W.listOf #[] 0) :: (l1, W.listOf #[] 0) :: (x, instObj 52 d) :: (d, dictOf (entD w t1 t2 t3 t4 l1 l2) 4) :: news) → (∀ p ∈ news, p.1 < d) → L < d → d < x → x < l1 → l1 < l2 → Q (.ref x) { s with heap := h', toks := tk }) :
    wpAny (model PySem.Challenge.rw_rl0022_01.prog w) (arnd dp un gd fr) (call (.ref 52) []) Q E s := by
  refine entry_spec w mean mg mb gd fr dp un s Q E (X.keeps F.keep) (T.keeps F.keep) hd hu ?_
  rintro x d l1 l2 t1 t2 t3 t4 s' k o1 o2 o3 o4 g1 g2 g3 g4
  obtain ⟨a, b, c⟩ := call_news (add := [(l2, W.listOf #[] 0), (l1, W.listOf #[] 0), (x, instObj 52 d), (d, dictOf (entD w t1 t2 t3 t4 l1 l2) 4)]) k F N (fun p hp => by
    simp only [List.mem_cons, List.not_mem_nil, or_false] at hp
    rcases hp with rfl | rfl | rfl | rfl
    · exact ⟨g4, by show s.heap.objs.size ≤ l2; omega⟩
    · exact ⟨g3, by show s.heap.objs.size ≤ l1; omega⟩
    · exact ⟨g1, by show s.heap.objs.size ≤ x; omega⟩
    · exact ⟨g2, o1⟩)
  obtain ⟨h', tk, rfl, _⟩ := k
  exact h x d l1 l2 t1 t2 t3 t4 h' tk a b (fun p hp => c p hp (d, dictOf (entD w t1 t2 t3 t4 l1 l2) 4) (by simp)) (Nat.lt_of_lt_of_le F.ns.lt o1) o2 o3 o4
end Mine

/- part S1 -/
set_option maxRecDepth 100000
namespace Mine
section
variable {prog : Program} {w : World} {A : Around} {R : Result → Shared → Prop} {I : Addr} {fp wr : List Addr} {G : Array GenState → Array GenState → Prop} {n : Nat} {P : Nat → Value → Prop} {St : Nat → Shared → Prop}

/-- the loop that fills a set with texts -/
theorem set_fill (W : WalksS prog w A.in1 I fp wr G n P St) (S : Addr) (hSf : S ∉ fp)
    (val : Nat → Str) (hval : ∀ i v, P i v → ∃ t, v = .str (val i) t) (hb : n + 1 < scanBound) :
    ∀ (k i : Nat) (s : Shared), n - i = k → i ≤ n → St i s →
      (∃ c, c ≤ i ∧ s.heap.SetOf (strKind prog w) S (fun k' => ((List.range i).map val).any (· == k')) c) →
      (∀ s' c, Moved (S :: wr) G s s' → s'.heap.SetOf (strKind prog w) S (fun k' => ((List.range n).map val).any (· == k')) c → R (.ok (.ret .none)) s') →
      codeAny (model prog w) A (.builtin "set.update.loop" ⟨[.ref S, .ref I], []⟩) R s := by
  have hSw : S ∉ wr := fun h => hSf (W.sub _ h)
  have hsub : ∀ b ∈ wr, b ∈ S :: wr := fun b hb => List.mem_cons_of_mem _ hb
  intro k
  induction k with
  | zero =>
    rintro i s hk hi hst ⟨c, hc, hS⟩ hR
    have hin : i = n := by omega
    subst hin
    refine codeAny_builtin F.entry_set_update_loop ?_
    rw [Around.under_plainId F.plain_set_update_loop _]
    show wpAny _ A.in1 (pyNext (.ref I) >>= _) _ _ s
    refine wpAny_bind (W.done s _ _ hst fun s' hm => ?_)
    show wpAny _ A.in1 (ret Value.none) _ _ s'
    exact wpAny_pure (hR s' c (hm.mono hsub) (by
      obtain ⟨o, es, ep, t, ho, rest⟩ := hS
      exact ⟨o, es, ep, t, hm.heap S _ hSw ho, rest⟩))
  | succ k ih =>
    rintro i s hk hi hst ⟨c, hc, hS⟩ hR
    have hlt : i < n := by omega
    refine codeAny_builtin F.entry_set_update_loop ?_
    rw [Around.under_plainId F.plain_set_update_loop _]
    show wpAny _ A.in1 (pyNext (.ref I) >>= _) _ _ s
    refine wpAny_bind (W.item i s _ _ hlt hst fun v s' hP hst' hm => ?_)
    obtain ⟨t, rfl⟩ := hval i v hP
    have hS' : s'.heap.SetOf (strKind prog w) S (fun k' => ((List.range i).map val).any (· == k')) c := by
      obtain ⟨o, es, ep, tb, ho, rest⟩ := hS
      exact ⟨o, es, ep, tb, hm.heap S _ hSw ho, rest⟩
    show wpAny _ A.in1 (holding [Value.str (val i) t] (setAdd S (.str (val i) t)) >>= _) _ _ s'
    refine wpAny_bind (wpAny_holding ?_)
    unfold setAdd
    refine wpAny_holding ?_
    refine wpAny_bind ((strKind prog w).pyHash (k := val i) (strKind_is _ _ _ _) ?_)
    have hroom : c + 1 < scanBound := by omega
    refine wpAny_setAddHashed_of (knd := strKind prog w) (s := { s' with toks := s'.toks + 1 }) (strKind_is _ _ _ _) rfl hS' hroom fun h' hsb hS2 => ?_
    have hSi : h'.SetOf (strKind prog w) S (fun k' => ((List.range (i + 1)).map val).any (· == k')) (if ((List.range i).map val).any (· == val i) then c else c + 1) :=
      SetOf_congr hS2 (fun k' => by
        rw [List.range_succ, List.map_append, List.any_append]
        by_cases e : k' = val i
        · subst e; simp
        · have hb : (val i == k') = false := by simpa [beq_iff_eq] using (fun h' : val i = k' => e h'.symm)
          simp [hb, e]) rfl
    refine wpAny_pure ⟨plainId_quiet F.plain_set_update_loop _, ih (i + 1) _ (by omega) hlt (W.frame _ s' _ _ hst' (Nat.le_succ _) fun b hb o e => ?_) ⟨_, ?_, hSi⟩ fun s'' c'' hm'' hS'' => ?_⟩
    · rw [hsb.2 b (fun h : b = S => hSf (by rw [← h]; exact hb))]; exact e
    · split <;> omega
    · refine hR s'' c'' (Moved.trans W.gtrans ((hm.mono hsub).then_heap (Nat.le_succ _) fun b o hb e => ?_) hm'') hS''
      rw [hsb.2 b (fun h : b = S => hb (by rw [h]; exact List.mem_cons_self))]; exact e
end

section
variable {prog : Program} {w : World} {A : Around} {E : Value → Shared → Prop} {s : Shared}

/-- a built-in class called, where the check of what its __init__ is handed looks at the heap -/
theorem callType_checked {T newId initId : String} {Bi : Builtin} {args : List Value} {Q Q₁ : Value → Shared → Prop} (ft : TypeCalled T newId initId)
    (hct : checkTypeCall T ⟨args, []⟩ = pure ()) (entryI : entryFor table initId = some Bi)
    (hnew : codeAny (model prog w) A.in1 (.call (.builtin newId) ⟨.type T :: args, []⟩) (wants Q₁ E) s)
    (hchk : ∀ obj s₁ (Q' : Unit → Shared → Prop) (E' : Value → Shared → Prop), Q₁ obj s₁ → Q' () s₁ → wpAny (model prog w) A.in1.in1 (checkBuiltinCall initId ⟨obj :: args, []⟩) Q' E' s₁)
    (hnext : ∀ obj s₁, Q₁ obj s₁ → s₁.TypeIs obj T ∧
      wpAny (model prog w) A.in1.in1 (Bi ⟨obj :: args, []⟩)
        (fun fin s' => match fin with | .done f => wants (fun r s₂ => r = .none ∧ Q obj s₂) E (.ok f) s' | .again c' => c'.quiet = true ∧ codeAny (model prog w) A.in1 c' (wants (fun r s₂ => r = .none ∧ Q obj s₂) E) s')
        (fun e s' => wants (fun r s₂ => r = .none ∧ Q obj s₂) E (.error e) s') s₁) :
    wpAny (model prog w) A (call (.type T) args) Q E s := by
  obtain ⟨c, tl, hmro⟩ := ft.mro
  have hmade := ft.made
  have hsub := ft.sub
  refine wpAny_call (codeAny_of_tree ?_)
  show wpAny _ _ (callAny (.type T) _) _ _ _
  refine wpAny_pure ⟨Code.quiet_builtin _ (by decide +kernel), codeAny_builtin F.entry_type_call ?_⟩
  rw [Around.under_plain (weight_type_call_type T args []) rfl]
  have h1 := ft.notType
  have h2 := ft.canCreate
  repeat (any_goals (first | assumption | wp_step))
  refine codeAny_mono hnew fun r s₁ hr => ?_
  cases r with
  | error e => exact hr
  | ok fl =>
    cases fl with
    | ret obj =>
      obtain ⟨hT, hsi⟩ := hnext _ _ hr
      have hli := ft.init.lookup
      have hbi := ft.init.bind obj
      have hcc := fun Q' E' => hchk obj s₁ Q' E' hr
      clear hchk hnext hnew
      repeat (any_goals (first | assumption | wp_step))
      refine codeAny_mono (codeAny_call_builtin ft.init.plain entryI (hcc _ _ hsi)) fun r₂ s₂ hr₂ => ?_
      cases r₂ with
      | error e => exact hr₂
      | ok fl₂ =>
        cases fl₂ with
        | ret r =>
          obtain ⟨rfl, hq⟩ := hr₂
          repeat (any_goals (first | assumption | wp_step))
        | _ => exact hr₂.elim
    | _ => exact hr.elim

/-- set(xs) of a short list of texts -/
theorem call_set_strs {l : Addr} {items : Array Value} {val : Nat → Str} {Q : Value → Shared → Prop}
    (hh : A.handled = none) (hl : s.heap.IsList l items) (hval : ∀ (i : Nat) (v : Value), items[i]? = some v → ∃ t, v = .str (val i) t) (hb : items.size + 1 < scanBound)
    (h : ∀ (h' : Heap) (tk c : Nat), h'.SetOf (strKind prog w) s.heap.objs.size (fun k' => ((List.range items.size).map val).any (· == k')) c →
      (∀ b o, s.heap.get? b = some o → h'.get? b = some o) → Q (.ref s.heap.objs.size) { s with heap := h', toks := tk }) :
    wpAny (model prog w) A (call (.type "set") [.ref l]) Q E s := by
  refine callType_checked (Q₁ := fun obj s₁ => ∃ led : Bool, obj = .ref s.heap.objs.size ∧ s₁ = { s with heap := s.heap.push { cls := .type "set", dict := none, data := .set #[] 0 (.fresh 0 0 led) } }) F.called_set (F.typeCall_set_1 (.ref l)) F.entry_set_init
    (code_set_new_1 (.ref l) fun led => ⟨led, rfl, rfl⟩) ?_ ?_
  · rintro obj s₁ Q' E' ⟨led, rfl, rfl⟩ hq
    exact check_set_init_1 ⟨_, Heap.get?_push_size _ rfl, rfl⟩ hq
  · rintro obj s₁ ⟨led, rfl, rfl⟩
    have hS : (s.heap.push { cls := .type "set", dict := none, data := .set #[] 0 (.fresh 0 0 led) }).get? s.heap.objs.size = some { cls := .type "set", dict := none, data := .set #[] 0 (.fresh 0 0 led) } := Heap.get?_push_size _ rfl
    have hT : Shared.TypeIs { s with heap := s.heap.push { cls := .type "set", dict := none, data := .set #[] 0 (.fresh 0 0 led) } } (.ref s.heap.objs.size) "set" := ⟨_, hS, rfl⟩
    refine ⟨hT, ?_⟩
    obtain ⟨ol, hol, hcl, nl, hdl⟩ := hl
    obtain ⟨ocls, odict, odata, oslots⟩ := ol
    simp only at hcl hdl
    subst hcl; subst hdl
    have hol' : (s.heap.push { cls := .type "set", dict := none, data := .set #[] 0 (.fresh 0 0 led) }).get? l = some { cls := .type "list", dict := odict, data := .seq items nl, slots := oslots } := Heap.get?_push_of_some _ hol
    have hsls := F.sub_list_set
    have hslf := F.sub_list_frozenset
    have hl1 : (s.heap.push { cls := .type "set", dict := none, data := .set #[] 0 (.fresh 0 0 led) }).IsList l items := ⟨_, hol', rfl, nl, rfl⟩
    have hlS : l < s.heap.objs.size := Heap.lt_size hol
    unfold Builtin.«set.__init__» noKeywords Builtin.Frozenset.updateFrom
    generalize hPI : pyIter = PI
    have fin := h
    clear h
    wp_walk
    subst hPI
    refine wpAny_pyIter_list hl1 ?_
    refine wpAny_bind (wpAny_runValue ?_)
    have hh3 : A.in1.in1.in1.handled = none := by simp [hh]
    have hneI : l ≠ (s.heap.push { cls := .type "set", dict := none, data := .set #[] 0 (.fresh 0 0 led) }).objs.size := by
      rw [Heap.size_push]; exact Nat.ne_of_lt (Nat.lt_succ_of_lt hlS)
    have hSf : s.heap.objs.size ∉ [(s.heap.push { cls := .type "set", dict := none, data := .set #[] 0 (.fresh 0 0 led) }).objs.size, l] := by
      rw [Heap.size_push]; simp only [List.mem_cons, List.not_mem_nil, or_false, not_or]
      exact ⟨Nat.ne_of_lt (Nat.lt_succ_self _), Nat.ne_of_gt hlS⟩
    refine set_fill ((Walks.list hh3 _ l hneI items).toS) s.heap.objs.size
      hSf val hval hb (items.size - 0) 0 _ (by omega) (Nat.zero_le _)
      ⟨⟨_, Heap.get?_push_size _ rfl, rfl, rfl⟩, (hl1.push _)⟩ ?hS0 ?hR
    case hS0 =>
      have hget : ((s.heap.push { cls := .type "set", dict := none, data := .set #[] 0 (.fresh 0 0 led) }).push { cls := .type "list_iterator", data := .fields #[.ref l, .int 0 0] }).get? s.heap.objs.size
          = some { cls := .type "set", dict := none, data := .set #[] 0 (.fresh 0 0 led) } := Heap.get?_push_of_some _ hS
      exact ⟨0, Nat.le_refl _, SetOf_congr ((setObjOf_fresh (knd := strKind prog w) led).setOf hget (by unfold scanBound; omega)) (fun _ => rfl) rfl⟩
    case hR =>
      intro s' c' hm hS'
      obtain ⟨h', g', d', tk', os'⟩ := s'
      have eg : g' = s.gens := hm.gens
      have ed : d' = s.drawn := hm.drawn
      have eo : os' = s.os := hm.os
      subst eg; subst ed; subst eo
      show wpAny _ _ _ _ _ _
      refine wpAny_pure ?_
      show wpAny _ _ (ret Value.none) _ _ _
      refine wpAny_pure ⟨rfl, fin h' tk' c' hS' fun b o e => ?_⟩
      have hb0 := Heap.lt_size e
      have hb1 : b ≠ s.heap.objs.size := Nat.ne_of_lt hb0
      have hb2 : b ≠ (s.heap.push { cls := .type "set", dict := none, data := .set #[] 0 (.fresh 0 0 led) }).objs.size := by
        rw [Heap.size_push]; exact Nat.ne_of_lt (Nat.lt_succ_of_lt hb0)
      exact hm.heap b o (by simp only [List.mem_cons, List.not_mem_nil, or_false, not_or]; exact ⟨hb1, hb2⟩) (Heap.get?_push_of_some _ (Heap.get?_push_of_some _ e))
end
end Mine

/- part S2 -/
set_option maxRecDepth 100000
namespace Mine
namespace FF
theorem slot_md_get : Slot "method_descriptor" "__get__" "method_descriptor.__get__" :=
  Slot.of (owner := "method_descriptor") (n := "__get__") (by rw [typeLookup_type, builtinLookup_eq_fast]; kernel_rfl) (by decide +kernel) (by decide +kernel) (by decide +kernel) (by first | exact .inl (by decide +kernel) | exact .inr (by decide +kernel)) (by rw [isSubtype_type]; kernel_rfl)
theorem md_no_set : typeLookup (.type "method_descriptor") "__set__" = pure none := by rw [typeLookup_type, builtinLookup_eq_fast]; kernel_rfl
theorem md_no_delete : typeLookup (.type "method_descriptor") "__delete__" = pure none := by rw [typeLookup_type, builtinLookup_eq_fast]; kernel_rfl
theorem entry_md_get : entryFor table "method_descriptor.__get__" = some Builtin.«method_descriptor.__get__» := entryFor_of_tree (by kernel_rfl)
theorem args_md_get (a b c : Value) : argsOk "method_descriptor.__get__" ⟨[a, b, c], []⟩ := by unfold argsOk; kernel_rfl
theorem told : Manifest.toldItsClass.contains "set.__contains__" = false := by decide +kernel
theorem owner_contains : isSubtype (.type "set") (.type (".".intercalate ("set.__contains__".cutAt '.').dropLast)) = pure true := by
  rw [show (".".intercalate ("set.__contains__".cutAt '.').dropLast) = "set" from by decide +kernel]; exact sub_set_self
end FF

section
variable {prog : Program} {w : World} {A : Around} {E : Value → Shared → Prop} {h : Heap} {g : Array GenState} {d : Drawn} {t : Nat} {os : OsState} {a : Addr} {o : Obj}

abbrev boundC (a : Addr) : Obj := { cls := .type "builtin_function_or_method", data := .fields #[.builtin "set.__contains__", .ref a] }

theorem contains_get {R : Result → Shared → Prop} (hx : h.get? a = some o) (hc : o.cls = .type "set") (hq : R (.ok (.ret (.ref h.objs.size))) ⟨h.push (boundC a), g, d, t, os⟩) :
    codeAny (model prog w) A (.call (.builtin "method_descriptor.__get__") ⟨[.builtin "set.__contains__", .ref a, .type "set"], []⟩) R ⟨h, g, d, t, os⟩ := by
  have hT : (⟨h, g, d, t, os⟩ : Shared).TypeIs (.ref a) "set" := ⟨_, hx, hc⟩
  have hT5 : (⟨h, g, d, t, os⟩ : Shared).TypeIs (.builtin "set.__contains__") "method_descriptor" := F.type_set_contains
  have f8 := FF.owner_contains
  have f9 := FF.told
  refine codeAny_call_builtin FF.slot_md_get.plain FF.entry_md_get (FF.slot_md_get.check _ _ _ _ _ _ _ _ hT5 (FF.args_md_get _ _ _) ?_)
  unfold Builtin.«method_descriptor.__get__»
  iterate 4 wp_step
  refine wpAny_pure ?_
  show wpAny _ _ (pure (Value.builtin "set.__contains__", some (Value.ref a), some (Value.type "set"))) _ _ _
  refine wpAny_pure ?_
  show wpAny _ _ (if Manifest.toldItsClass.contains "set.__contains__" = true then _ else _) _ _ _
  rw [if_neg (by rw [f9]; exact Bool.false_ne_true)]
  clear f9 hT5
  clear hx hc
  repeat (first | with_reducible refine wpAny_isInstance hT f8 ?_ | wp_step)
  exact hq

theorem contains_entry {tk : Tok} {Q : PySem.Fin → Shared → Prop} (hx : h.get? a = some o) (hc : o.cls = .type "set") (hd : o.dict = none) (hdat : ∃ es ep tb, o.data = .set es ep tb) (hq : Q (.done (.ret (.ref h.objs.size))) ⟨h.push (boundC a), g, d, t, os⟩) :
    wpAny (model prog w) A (Builtin.«object.__getattribute__» ⟨[.ref a, .str "__contains__" tk], []⟩) Q E ⟨h, g, d, t, os⟩ := by
  have hT : (⟨h, g, d, t, os⟩ : Shared).TypeIs (.ref a) "set" := ⟨_, hx, hc⟩
  have hT5 : (⟨h, g, d, t, os⟩ : Shared).TypeIs (.builtin "set.__contains__") "method_descriptor" := F.type_set_contains
  have f4 := F.slot_set_contains.lookup
  have f5 := F.type_set_contains
  have f6 := FF.slot_md_get.lookup
  have f7 := FF.md_no_set
  have f8 := FF.md_no_delete
  obtain ⟨oc, od, odt, osl⟩ := o
  obtain ⟨es, ep, tb, hdat⟩ := hdat
  simp only at hc hd hdat
  subst hc hd hdat
  repeat (any_goals (first | with_reducible assumption | wp_step))
  exact contains_get hx rfl (wpAny_pure hq)

theorem contains_call {tk : Tok} {R : Result → Shared → Prop} (hx : h.get? a = some o) (hc : o.cls = .type "set") (hd : o.dict = none) (hdat : ∃ es ep tb, o.data = .set es ep tb) (hq : R (.ok (.ret (.ref h.objs.size))) ⟨h.push (boundC a), g, d, t, os⟩) :
    codeAny (model prog w) A (.call (.builtin "set.__getattribute__") ⟨[.ref a, .str "__contains__" tk], []⟩) R ⟨h, g, d, t, os⟩ :=
  codeAny_call_builtin F.slot_set_getattribute.plain F.entry_set_ga (F.slot_set_getattribute.check _ _ _ _ _ _ _ _ (show (⟨h, g, d, t, os⟩ : Shared).TypeIs (.ref a) "set" from ⟨_, hx, hc⟩) (F.args_set_getattribute_2 _ _) (contains_entry hx hc hd hdat hq))

theorem contains_by {tk : Tok} {fill ex : Bool} {Q : Value → Shared → Prop} (hx : h.get? a = some o) (hc : o.cls = .type "set") (hd : o.dict = none) (hdat : ∃ es ep tb, o.data = .set es ep tb) (hq : Q (.ref h.objs.size) ⟨h.push (boundC a), g, d, t, os⟩) :
    wpAny (model prog w) A (getAttrBy (.ref a) (.str "__contains__" tk) fill ex) Q E ⟨h, g, d, t, os⟩ := by
  have hT : (⟨h, g, d, t, os⟩ : Shared).TypeIs (.ref a) "set" := ⟨_, hx, hc⟩
  have f2 := F.slot_set_getattribute.lookup
  have f3 := F.slot_set_getattribute.bind (.ref a)
  have hot : onTheHeap (Value.type "set") = false := rfl
  have hob : onTheHeap (Value.builtin "set.__getattribute__") = false := rfl
  unfold getAttrBy
  refine wpAny_holding (wpAny_bind (wpAny_typeOf hT (wpAny_bind (wpAny_of_eq f2 ?_))))
  simp only [hot, Bool.false_and, Bool.false_eq_true, if_false]
  unfold getAttrByItsOwn hookBefore callGetattribute
  simp only [hot, hob, Bool.and_false, Bool.false_eq_true, if_false]
  refine wpAny_bind (wpAny_pure (wpAny_bind (wpAny_attempt (wpAny_holding ?_))))
  unfold boundAndCalled
  refine wpAny_bind (wpAny_of_eq f3 (wpAny_call (contains_call hx hc hd hdat ?_)))
  exact handed_on rfl hq

theorem contains_attr {s : Shared} {ex : Bool} {Q : Value → Shared → Prop} (hx : s.heap.get? a = some o) (hc : o.cls = .type "set") (hd : o.dict = none) (hdat : ∃ es ep tb, o.data = .set es ep tb)
    (hq : Q (.ref s.heap.objs.size) { s with heap := s.heap.push (boundC a), toks := s.toks + 1 }) :
    wpAny (model prog w) A (getAttr (.ref a) (Str.ofString "__contains__") ex) Q E s := by
  unfold getAttr mkText
  obtain ⟨h, g, d, t, os⟩ := s
  exact wpAny_bind (wpAny_bind (wpAny_fresh (wpAny_pure (contains_by hx hc hd hdat hq))))
end
end Mine

/- part S3 -/
set_option maxRecDepth 100000
namespace Mine
namespace FF
abbrev sigC : Manifest.Signature := ⟨.oneArg, "set.__contains__", "__contains__", .self, [⟨"object", .posOnly, true⟩]⟩
theorem sig_contains : Manifest.signature? "set.__contains__" = some sigC := by kernel_rfl
theorem kind_contains : builtinKind "set.__contains__" = some .method := by decide +kernel
theorem last_contains : Bind.lastOf "set.__contains__" = "__contains__" := by decide +kernel
theorem no_varargs : Manifest.varargsMethods.contains "set.__contains__" = false := by decide +kernel
theorem sub_set_module : isSubtype (.type "set") (.type "module") = pure false := by rw [isSubtype_type]; kernel_rfl
theorem sub_set_type : isSubtype (.type "set") (.type "type") = pure false := by rw [isSubtype_type]; kernel_rfl
theorem last_set : Bind.lastOf "set" = "set" := by decide +kernel
theorem args_contains (a b : Value) : Bind.checkArgs "set.__contains__" sigC ⟨[a, b], []⟩ = pure () := by kernel_rfl
theorem full_contains : (toString "set" ++ toString "." ++ toString "__contains__") = "set.__contains__" := by decide +kernel
end FF
section
variable {prog : Program} {w : World} {A : Around} {E : Value → Shared → Prop} {s : Shared} {a c : Addr} {o : Obj}

theorem check_bound {x : Value} {Q : Unit → Shared → Prop} (hT : s.TypeIs (.ref a) "set") (hno : ∀ o, s.heap.get? a = some o → ∀ cd, o.data ≠ .cls cd) (h : Q () s) :
    wpAny (model prog w) A (checkBoundCall "set.__contains__" ⟨[.ref a, x], []⟩) Q E s := by
  unfold checkBoundCall
  simp only [FF.sig_contains, FF.kind_contains, FF.last_contains, FF.no_varargs]
  show wpAny _ _ (if (Manifest.AttrKind.method != .method && Manifest.AttrKind.method != .classMethod) = true then _ else _) _ _ _
  rw [if_neg (by decide)]
  refine wpAny_bind (wpAny_isInstance hT FF.sub_set_module ?_)
  simp only [Bool.or_false, Bool.false_eq_true, if_false]
  obtain ⟨o, ho, hcls⟩ := id hT
  refine wpAny_bind ?_
  refine wpAny_bind ?_
  refine wpAny_loadPart ho ?_
  have hn := hno o ho
  cases hd : o.data with
  | cls cd => exact absurd hd (hn cd)
  | _ =>
    refine wpAny_pure ?_
    simp only [Bool.false_eq_true, if_false]
    refine wpAny_bind (wpAny_typeOf hT ?_)
    simp only [FF.last_set, FF.full_contains]
    exact wpAny_of_eq (FF.args_contains _ _) h

/-- a set's own __contains__, held as a value, called with a text -/
theorem bound_call {S : Str → Bool} {n : Nat} {k : Str} {t : Tok} {R : Result → Shared → Prop} (hc : s.heap.get? c = some (boundC a)) (hS : s.heap.SetOf (strKind prog w) a S n)
    (h : R (.ok (.ret (.bool (S k)))) { s with toks := s.toks + 1 }) : codeAny (model prog w) A (.call (.ref c) ⟨[.str k t], []⟩) R s := by
  refine codeAny_of_tree ?_
  show wpAny _ _ (callAny (.ref c) ⟨[.str k t], []⟩) _ _ _
  unfold callAny
  refine wpAny_bind (wpAny_load hc ?_)
  have hT := hS.typeIs
  show wpAny _ _ (if ((Value.type "builtin_function_or_method" == Value.type "method" || Value.type "builtin_function_or_method" == Value.type "builtin_function_or_method") || Value.type "builtin_function_or_method" == Value.type "method-wrapper") = true then _ else _) _ _ _
  rw [if_pos (by decide)]
  show wpAny _ _ (if (Value.type "builtin_function_or_method" != Value.type "method") = true then _ else _) _ _ _
  rw [if_pos (by decide)]
  refine wpAny_bind (check_bound hT ?_ ?_)
  · obtain ⟨o, es, ep, tb, ho, hex, hd, _⟩ := hS
    intro o' ho' cd
    rw [ho] at ho'
    cases ho'
    rw [hd]; intro q; cases q
  · refine wpAny_bind (wpAny_pure ?_)
    refine wpAny_pure ⟨Code.quiet_builtin _ (by decide +kernel), codeAny_builtin entry_set_contains ?_⟩
    unfold Builtin.«frozenset.__contains__» Builtin.Frozenset.oneOther
    simp only [List.isEmpty_nil, bind_assoc]
    unfold Builtin.Frozenset.addrOf Builtin.Frozenset.withSetAsKey setContains
    refine wpAny_bind (wpAny_pure ?_)
    try dsimp only
    refine wpAny_bind (wpAny_pure ?_)
    try dsimp only
    refine wpAny_bind (wpAny_tryCatch ?_)
    refine wpAny_holding ?_
    refine wpAny_bind ((strKind prog w).pyHash (strKind_is prog w k t) ?_)
    refine wpAny_bind (wpAny_setFind_of (s := { s with toks := s.toks + 1 }) (strKind_is prog w k t) rfl hS fun r hr => ?_)
    refine wpAny_pure ?_
    show wpAny _ _ (ret (Value.bool r.isSome)) _ _ _
    rw [hr]
    exact wpAny_pure h
end
end Mine

/- part S4 -/
set_option maxRecDepth 100000
namespace Mine
namespace FF
theorem slot_filter_next : Slot "filter" "__next__" "filter.__next__" :=
  Slot.of (owner := "filter") (n := "__next__") (by rw [typeLookup_type, builtinLookup_eq_fast]; kernel_rfl) (by decide +kernel) (by decide +kernel) (by decide +kernel) (by first | exact .inl (by decide +kernel) | exact .inr (by decide +kernel)) (by rw [isSubtype_type]; kernel_rfl)
theorem slot_filter_iter : Slot "filter" "__iter__" "filter.__iter__" :=
  Slot.of (owner := "filter") (n := "__iter__") (by rw [typeLookup_type, builtinLookup_eq_fast]; kernel_rfl) (by decide +kernel) (by decide +kernel) (by decide +kernel) (by first | exact .inl (by decide +kernel) | exact .inr (by decide +kernel)) (by rw [isSubtype_type]; kernel_rfl)
theorem slot_filter_init : Slot "filter" "__init__" "object.__init__" :=
  Slot.of (owner := "object") (n := "__init__") (by rw [typeLookup_type, builtinLookup_eq_fast]; kernel_rfl) (by decide +kernel) (by decide +kernel) (by decide +kernel) (by first | exact .inl (by decide +kernel) | exact .inr (by decide +kernel)) (by rw [isSubtype_type]; kernel_rfl)
theorem entry_filter_next : entryFor table "filter.__next__" = some Builtin.«filter.__next__» := entryFor_of_tree (by kernel_rfl)
theorem entry_filter_iter : entryFor table "filter.__iter__" = some Builtin.«dict_keyiterator.__iter__» :=
  entryFor_alias (id' := "dict_keyiterator.__iter__") (by kernel_rfl) (by first | rfl | decide +kernel | (unfold String.splitOn; simp +decide [String.splitOnAux])) (by decide +kernel) (by kernel_rfl)
theorem entry_filter_new : entryFor table "filter.__new__" = some Builtin.«filter.__new__» := entryFor_of_tree (by kernel_rfl)
theorem args_filter_next (a : Value) : argsOk "filter.__next__" ⟨[a], []⟩ := by unfold argsOk; kernel_rfl
theorem args_filter_iter (a : Value) : argsOk "filter.__iter__" ⟨[a], []⟩ := by unfold argsOk; kernel_rfl
theorem args_init_3 (a b c : Value) : argsOk "object.__init__" ⟨[a, b, c], []⟩ := by unfold argsOk; kernel_rfl
theorem mro_filter : mroOf (.type "filter") = pure [.type "filter", .type "object"] := by rw [mroOf_type]; kernel_rfl
theorem lookup_filter_new : typeLookup (.type "filter") "__new__" = pure (some (.builtin "filter.__new__")) := by rw [typeLookup_type, builtinLookup_eq_fast]; kernel_rfl
theorem sub_filter : isSubtype (.type "filter") (.type "filter") = pure true := by rw [isSubtype_type]; kernel_rfl
theorem called_filter : TypeCalled "filter" "filter.__new__" "object.__init__" :=
  ⟨by decide +kernel, by decide +kernel, ⟨_, _, mro_filter⟩, madeBy_type mro_filter lookup_filter_new (by decide +kernel), by decide +kernel, sub_filter, slot_filter_init⟩
theorem typeCall_filter_2 (a b : Value) : checkTypeCall "filter" ⟨[a, b], []⟩ = pure () := by kernel_rfl
theorem newCall_filter_2 (a b : Value) : checkBuiltinCall "filter.__new__" ⟨[.type "filter", a, b], []⟩ = pure () := by kernel_rfl
theorem plain_filter_next : plainId "filter.__next__" = true := by decide +kernel
theorem filter_no_len : typeLookup (.type "filter") "__len__" = pure none := by rw [typeLookup_type, builtinLookup_eq_fast]; kernel_rfl
theorem filter_no_hint : typeLookup (.type "filter") "__length_hint__" = pure none := by rw [typeLookup_type, builtinLookup_eq_fast]; kernel_rfl
end FF

abbrev fltO (f : Value) (it : Addr) : Obj := { cls := .type "filter", data := .fields #[f, .ref it] }

section
variable {prog : Program} {w : World} {A : Around} {E : Value → Shared → Prop} {s : Shared}

theorem next_list_item {it l : Addr} {i : Nat} {items} {x : Value} {Q : Option Value → Shared → Prop} (hit : s.heap.IsListIter it l i)
    (hl : s.heap.IsList l items) (hx : items[i]? = some x)
    (hQ : ∀ h', h'.IsListIter it l (i + 1) → Heap.SameBut it s.heap h' → Q (some x) { s with heap := h' }) :
    wpAny (model prog w) A (callSpecial? (.ref it) (Str.ofString "__next__")) Q E s := by
  obtain ⟨o, ho, hc, hd⟩ := id hit
  obtain ⟨ol, hol, _, nl, hdl⟩ := hl
  refine wpAny_callSpecial?_slot (name := Str.ofString "__next__") hit.typeIs slot_listiter_next
    (wpAny_call_entry slot_listiter_next hit.typeIs entry_listiter_next ?_ (args_listiter_next _))
  show wpAny _ _ (field (.ref it) 0 >>= _) _ _ s
  refine wpAny_bind (wpAny_field ho hd (x := .ref l) rfl ?_)
  show wpAny _ _ (if (Value.ref l == Value.none) = true then _ else _) _ _ s
  rw [if_neg (show ¬ ((Value.ref l == Value.none) = true) from Bool.false_ne_true)]
  show wpAny _ _ (field (.ref it) 1 >>= _) _ _ s
  refine wpAny_bind (wpAny_field ho hd (x := .int i 0) rfl ?_)
  show wpAny _ _ (seqItems? (.ref l) >>= _) _ _ s
  refine wpAny_bind (wpAny_seqItems hol hdl ?_)
  simp only [Int.toNat_natCast, hx]
  refine wpAny_bind (wpAny_setField ho hd (by simp) (wpAny_pure ⟨x, rfl, hQ _ ?_ (Heap.SameBut.update ..)⟩))
  exact ⟨_, Heap.get?_update_self _ ho (Obj.isFreed_of_fields (Obj.data_mapFields hd _)), (Obj.cls_mapFields ..).trans hc, by
    rw [Obj.data_mapFields hd]; simp [rawInt]⟩

theorem next_list_end {it l : Addr} {i : Nat} {items} {Q : Option Value → Shared → Prop} (hh : A.handled = none)
    (hit : s.heap.IsListIter it l i) (hl : s.heap.IsList l items) (hx : items[i]? = none)
    (hE : ∀ h' e, Heap.ExtBut it s.heap h' → (∃ o, h'.get? e = some o ∧ o.cls = .type "StopIteration") → E (.ref e) { s with heap := h' }) : wpAny (model prog w) A (callSpecial? (.ref it) (Str.ofString "__next__")) Q E s := by
  obtain ⟨o, ho, hc, hd⟩ := id hit
  obtain ⟨ol, hol, _, nl, hdl⟩ := hl
  refine wpAny_callSpecial?_slot (name := Str.ofString "__next__") hit.typeIs slot_listiter_next
    (wpAny_call_entry slot_listiter_next hit.typeIs entry_listiter_next ?_ (args_listiter_next _))
  show wpAny _ _ (field (.ref it) 0 >>= _) _ _ s
  refine wpAny_bind (wpAny_field ho hd (x := .ref l) rfl ?_)
  show wpAny _ _ (if (Value.ref l == Value.none) = true then _ else _) _ _ s
  rw [if_neg (show ¬ ((Value.ref l == Value.none) = true) from Bool.false_ne_true)]
  show wpAny _ _ (field (.ref it) 1 >>= _) _ _ s
  refine wpAny_bind (wpAny_field ho hd (x := .int i 0) rfl ?_)
  show wpAny _ _ (seqItems? (.ref l) >>= _) _ _ s
  refine wpAny_bind (wpAny_seqItems hol hdl ?_)
  simp only [Int.toNat_natCast, hx]
  refine wpAny_bind (wpAny_rule (wpAny_bind (wpAny_setField ho hd (by simp) ?_)))
  show wpAny _ _ (newExc (.type "StopIteration") [] >>= _) _ _ _
  refine wpAny_bind ?_
  simp only [newExc, newTuple]
  refine wpAny_bind (wpAny_newObj_type ?_ (by size_fits))
  refine wpAny_bind (m := firstArgMember _ _) (wpAny_of_eq (a := Value.none) (by first | rfl | (simp only [firstArgMember]; rfl)) ?_)
  refine wpAny_newObj_type ?_ (by size_fits)
  simp only [raiseNew]
  refine wpAny_bind (wpAny_handled ?_)
  rw [show A.in1.handled = none from hh]
  refine wpAny_bind (wpAny_pure (wpAny_throw ?_))
  exact hE _ _ (((Heap.SameBut.update ..).extBut.push _).push _) ⟨_, Heap.get?_push_size _ rfl, rfl⟩

structure FltAt (prog : Program) (w : World) (Fl it l c a : Addr) (items : Array Value) (S : Str → Bool) (j : Nat) (h : Heap) : Prop where
  flt : h.get? Fl = some (fltO (.ref c) it)
  iter : h.IsListIter it l j
  list : h.IsList l items
  fn : h.get? c = some (boundC a)
  set : ∃ n, h.SetOf (strKind prog w) a S n
theorem FltAt.frame {Fl it l c a : Addr} {items : Array Value} {S : Str → Bool} {j : Nat} {h h' : Heap} (x : FltAt prog w Fl it l c a items S j h) (hk : ∀ b ∈ [Fl, it, l, c, a], ∀ o, h.get? b = some o → h'.get? b = some o) : FltAt prog w Fl it l c a items S j h' := by
  obtain ⟨n, o, es, ep, t, ho, r⟩ := x.set
  exact ⟨hk Fl (by simp) _ x.flt, x.iter.at fun o e => hk it (by simp) o e, x.list.at fun o e => hk l (by simp) o e, hk c (by simp) _ x.fn, n, o, es, ep, t, hk a (by simp) _ ho, r⟩
theorem FltAt.step {Fl it l c a : Addr} {items : Array Value} {S : Str → Bool} {j j' : Nat} {h h' : Heap} (x : FltAt prog w Fl it l c a items S j h) (hne : ∀ b ∈ [Fl, l, c, a], b ≠ it) (hs : Heap.ExtBut it h h') (hi : h'.IsListIter it l j') : FltAt prog w Fl it l c a items S j' h' := by
  obtain ⟨n, o, es, ep, t, ho, r⟩ := x.set
  exact ⟨hs Fl _ (hne Fl (by simp)) x.flt, hi, x.list.at fun o e => hs l o (hne l (by simp)) e, hs c _ (hne c (by simp)) x.fn, n, o, es, ep, t, hs a _ (hne a (by simp)) ho, r⟩

def keepS (S : Str → Bool) : Value → Bool
  | .str k _ => S k
  | _ => false

theorem filter_next {Fl it l c a : Addr} {items : Array Value} {S : Str → Bool} (hh : A.handled = none) (hne : ∀ b ∈ [Fl, l, c, a], b ≠ it) (hstr : ∀ v ∈ items.toList, ∃ k t, v = .str k t) :
    ∀ (rs : List Value) (j : Nat) (s : Shared) (R : Result → Shared → Prop), items.toList.drop j = rs → FltAt prog w Fl it l c a items S j s.heap →
      (∀ y ys, rs.filter (keepS S) = y :: ys → ∀ h' tk j', (items.toList.drop j').filter (keepS S) = ys → FltAt prog w Fl it l c a items S j' h' → Heap.ExtBut it s.heap h' → R (.ok (.ret y)) { s with heap := h', toks := tk }) →
      (rs.filter (keepS S) = [] → ∀ h' tk e, Heap.ExtBut it s.heap h' → (∃ o, h'.get? e = some o ∧ o.cls = .type "StopIteration") → R (.error (.ref e)) { s with heap := h', toks := tk }) →
      codeAny (model prog w) A (.builtin "filter.__next__" ⟨[.ref Fl], []⟩) R s := by
  intro rs
  induction rs with
  | nil =>
    intro j s R hj x hy hn
    refine codeAny_builtin FF.entry_filter_next ?_
    rw [Around.under_plainId FF.plain_filter_next _]
    show wpAny _ A.in1 (field (.ref Fl) 0 >>= _) _ _ s
    refine wpAny_bind (wpAny_field x.flt rfl (x := .ref c) rfl ?_)
    show wpAny _ A.in1 (field (.ref Fl) 1 >>= _) _ _ s
    refine wpAny_bind (wpAny_field x.flt rfl (x := .ref it) rfl ?_)
    have hx : items[j]? = none := by
      have := List.drop_eq_nil_iff.mp hj
      simpa using this
    refine wpAny_bind (next_list_end (by simpa using hh) x.iter x.list hx fun h' e he ho => ?_)
    exact hn rfl h' s.toks e he ho
  | cons v r ih =>
    intro j s R hj x hy hn
    have hx : items[j]? = some v := by
      have := List.getElem?_drop (xs := items.toList) (i := j) (j := 0)
      rw [hj] at this
      simpa using this.symm
    have hr : items.toList.drop (j + 1) = r := by
      have := List.drop_drop (l := items.toList) (i := 1) (j := j)
      rw [hj] at this
      simpa [Nat.add_comm] using this.symm
    obtain ⟨k, t, rfl⟩ := hstr v (by
      have : v ∈ items.toList.drop j := by rw [hj]; exact List.mem_cons_self ..
      exact List.mem_of_mem_drop this)
    refine codeAny_builtin FF.entry_filter_next ?_
    rw [Around.under_plainId FF.plain_filter_next _]
    show wpAny _ A.in1 (field (.ref Fl) 0 >>= _) _ _ s
    refine wpAny_bind (wpAny_field x.flt rfl (x := .ref c) rfl ?_)
    show wpAny _ A.in1 (field (.ref Fl) 1 >>= _) _ _ s
    refine wpAny_bind (wpAny_field x.flt rfl (x := .ref it) rfl ?_)
    refine wpAny_bind (next_list_item x.iter x.list hx fun h₁ hi₁ hs₁ => ?_)
    have x₁ := x.step hne hs₁.extBut hi₁
    obtain ⟨n, hS⟩ := x₁.set
    show wpAny _ A.in1 (holding [Value.str k t] _ >>= _) _ _ _
    refine wpAny_bind (wpAny_holding ?_)
    show wpAny _ A.in1 (call (.ref c) [.str k t] >>= _) _ _ _
    refine wpAny_bind (wpAny_call (bound_call (s := { s with heap := h₁ }) x₁.fn hS ?_))
    refine wpAny_holding (wpAny_truthy_bool ?_)
    cases hk : S k with
    | true =>
      have hf : ((Value.str k t :: r).filter (keepS S)) = Value.str k t :: r.filter (keepS S) := by simp [keepS, hk]
      exact wpAny_pure (hy _ _ hf h₁ (s.toks + 1) (j + 1) (by rw [hr]) x₁ hs₁.extBut)
    | false =>
      have hf : ((Value.str k t :: r).filter (keepS S)) = r.filter (keepS S) := by simp [keepS, hk]
      refine wpAny_pure ⟨plainId_quiet FF.plain_filter_next _, ih (j + 1) { s with heap := h₁, toks := s.toks + 1 } R hr x₁ (fun y ys e h' tk j' a1 a2 a3 => ?_) fun e h' tk ex a3 a4 => ?_⟩
      · exact hy y ys (by rw [hf]; exact e) h' tk j' a1 a2 (fun b o hb q => a3 b o hb (hs₁.extBut b o hb q))
      · exact hn (by rw [hf]; exact e) h' tk ex (fun b o hb q => a3 b o hb (hs₁.extBut b o hb q)) a4
end
end Mine

/- part S5 -/
set_option maxRecDepth 100000
namespace Mine
section
variable {prog : Program} {w : World} {A : Around} {E : Value → Shared → Prop} {s : Shared}

theorem filter_walks {Fl it l c a : Addr} {items : Array Value} {S : Str → Bool} (hh : A.handled = none) (hne : ∀ b ∈ [Fl, l, c, a], b ≠ it) (hstr : ∀ v ∈ items.toList, ∃ k t, v = .str k t) :
    Walks prog w A Fl [Fl, it, l, c, a] [it] (items.toList.filter (keepS S)).length (fun i v => (items.toList.filter (keepS S))[i]? = some v)
      (fun i h => ∃ j, (items.toList.drop j).filter (keepS S) = (items.toList.filter (keepS S)).drop i ∧ FltAt prog w Fl it l c a items S j h) where
  sub := fun b hb => by rw [List.mem_singleton.mp hb]; simp
  frame := fun i h h' ⟨j, e, x⟩ hk => ⟨j, e, x.frame hk⟩
  item := fun i s Q E hi ⟨j, e, x⟩ hQ => by
    have hT : s.TypeIs (.ref Fl) "filter" := ⟨_, x.flt, rfl⟩
    unfold pyNext
    refine wpAny_bind (wpAny_attempt (wpAny_callSpecial?_slot (name := Str.ofString "__next__") hT FF.slot_filter_next
      (wpAny_call (codeAny_call_builtin_code (plainId_quiet FF.plain_filter_next _) (FF.slot_filter_next.check _ _ _ _ _ _ _ _ hT (FF.args_filter_next _) ?_)))))
    refine filter_next hh hne hstr _ j s _ rfl x (fun y ys hy h' tk j' e' x' hx' => ?_) (fun hy => ?_)
    · rw [e] at hy
      have h1 : (items.toList.filter (keepS S))[i]? = some y := by
        have := List.getElem?_drop (xs := items.toList.filter (keepS S)) (i := i) (j := 0)
        rw [hy] at this
        simpa using this.symm
      have h2 : ys = (items.toList.filter (keepS S)).drop (i + 1) := by
        have := List.drop_drop (l := items.toList.filter (keepS S)) (i := 1) (j := i)
        rw [hy] at this
        simpa [Nat.add_comm] using this
      exact wpAny_pure (hQ y h' tk h1 ⟨j', by rw [e', h2], x'⟩ fun b o hb q => hx' b o (fun z => hb (by simp [z])) q)
    · rw [e] at hy
      exact absurd (List.drop_eq_nil_iff.mp hy) (by omega)
  done := fun s Q E ⟨j, e, x⟩ hQ => by
    have hT : s.TypeIs (.ref Fl) "filter" := ⟨_, x.flt, rfl⟩
    unfold pyNext
    refine wpAny_bind (wpAny_attempt (wpAny_callSpecial?_slot (name := Str.ofString "__next__") hT FF.slot_filter_next
      (wpAny_call (codeAny_call_builtin_code (plainId_quiet FF.plain_filter_next _) (FF.slot_filter_next.check _ _ _ _ _ _ _ _ hT (FF.args_filter_next _) ?_)))))
    rw [List.drop_length] at e
    refine filter_next hh hne hstr _ j s _ rfl x (fun y ys hy => ?_) (fun _ h' tk ex hx' ho => ?_)
    · rw [e] at hy; cases hy
    · obtain ⟨o, ho, hc⟩ := ho
      refine wpAny_bind (wpAny_isInstance (T := "StopIteration") (b := true) ⟨o, ho, hc⟩ isSubtype_stop ?_)
      exact wpAny_pure (hQ h' tk fun b o hb q => hx' b o (fun z => hb (by simp [z])) q)
  self := fun i s Q E ⟨j, e, x⟩ hq => by
    have hT : s.TypeIs (.ref Fl) "filter" := ⟨_, x.flt, rfl⟩
    refine wpAny_pyIter_slot hT FF.slot_filter_iter (wpAny_call_entry FF.slot_filter_iter hT FF.entry_filter_iter ?_ (FF.args_filter_iter _))
    show wpAny _ _ (ret (.ref Fl)) _ _ s
    exact wpAny_pure ⟨_, rfl, "filter", _, hT, FF.slot_filter_next.lookup, hq⟩
end

section
variable {prog : Program} {w : World} {A : Around} {s : Shared} {R : Result → Shared → Prop}
variable {I : Addr} {fp wr : List Addr} {G : Array GenState → Array GenState → Prop} {n : Nat} {P : Nat → Value → Prop} {St : Nat → Shared → Prop}

theorem extend_flt (W : WalksS prog w A.in1 I fp wr G n P St) (hT : ∀ i s, St i s → s.TypeIs (.ref I) "filter") (S : Addr) (res : Value) (c₀ : Nat) (hst : St 0 s) (hSf : S ∉ fp) (hI : I ∈ fp)
    (hS : s.heap.get? S = some { cls := .type "list", data := .seq #[] c₀ })
    (hR : ∀ s' acc' c', Moved (S :: wr) G s s' → s'.heap.get? S = some { cls := .type "list", dict := none, data := .seq acc' c', slots := #[] } → ItemsOf P acc' n → R (.ok (.ret res)) s') (hn : n ≤ sizeLine := by size_fits) :
    wpAny (model prog w) A.in1 (Builtin.List.listExtendWith (.ref S) (.ref I) res)
      (fun fin s' => match fin with | .done f => R (.ok f) s' | .again c' => c'.quiet = true ∧ codeAny (model prog w) A c' R s') (fun e s' => R (.error e) s') s := by
  have hSI : S ≠ I := fun e => hSf (e ▸ hI)
  unfold Builtin.List.listExtendWith
  refine wpAny_bind (wpAny_typeOf (hT 0 _ hst) ?_)
  have h1 : Builtin.List.listSameRef (.ref S) (.ref I) = false := by simp [Builtin.List.listSameRef, hSI]
  have h2 : (Value.type "filter" == Value.type "list") = false := by decide
  have h3 : (Value.type "filter" == Value.type "tuple") = false := by decide
  simp only [h1, h2, h3, Bool.or_false, Bool.false_eq_true, if_false]
  refine wpAny_bind (W.self 0 _ _ _ hst ?_)
  refine wpAny_bind (wpAny_holding ?_)
  unfold Builtin.List.listLengthHint
  refine wpAny_bind (wpAny_specialOf (hT 0 _ hst) FF.filter_no_len ?_)
  show wpAny _ A.in1 (specialOf (Value.ref I) (Str.ofString "__length_hint__") >>= _) _ _ _
  refine wpAny_bind (wpAny_specialOf (hT 0 _ hst) FF.filter_no_hint ?_)
  refine wpAny_pure ?_
  show wpAny _ A.in1 (rule "list.extend.makes-room" >>= fun _ => Builtin.List.listTouch (.ref S) >>= fun _ =>
    again (.builtin "list.extend.loop" ⟨[.ref S, .ref I, res], []⟩)) _ _ _
  refine wpAny_bind (wpAny_rule ?_)
  refine wpAny_bind ?_
  show wpAny _ A.in1 (updateSeq S (·.push .none) >>= fun _ => updateSeq S (·.pop)) _ _ _
  refine wpAny_bind (wpAny_updateSeq hS rfl ?_)
  have hS₂ := Heap.get?_update_self (Obj.mapSeq (·.push Value.none)) hS rfl
  refine wpAny_updateSeq (hz := by seq_fits) hS₂ rfl ?_
  have hS₃ := Heap.get?_update_self (Obj.mapSeq (·.pop)) hS₂ rfl
  have oth : ∀ b o, b ≠ S → s.heap.get? b = some o → ((s.heap.update S (Obj.mapSeq (·.push Value.none))).update S (Obj.mapSeq (·.pop))).get? b = some o :=
    fun b o hb e => (Heap.get?_update_other _ _ (Ne.symm hb)).trans ((Heap.get?_update_other _ _ (Ne.symm hb)).trans e)
  refine wpAny_pure ⟨plainId_quiet F.plain_extend_loop _, codeAny_extend_loopS W hn _ hSf _ n 0 _ _ _ rfl (Nat.zero_le _)
    (W.frame 0 s _ s.toks hst (Nat.le_refl _) fun b hb o e => oth b o (fun h => hSf (h ▸ hb)) e) hS₃ (ItemsOf.nil P) fun s' acc' c' hm hS' hacc => ?_⟩
  exact hR s' acc' c' (Moved.trans W.gtrans ((Moved.refl W.grefl).then_heap (Nat.le_refl _) fun b o hb e => oth b o (fun h => hb (h ▸ List.mem_cons_self)) e) hm) hS' hacc

theorem init_flt (W : WalksS prog w A.in1 I fp wr G n P St) (hT : ∀ i s, St i s → s.TypeIs (.ref I) "filter") (S : Addr) (hst : St 0 s) (hSf : S ∉ fp) (hI : I ∈ fp)
    (hS : s.heap.get? S = some { cls := .type "list", data := .seq #[] })
    (hR : ∀ s' acc' c', Moved (S :: wr) G s s' → s'.heap.get? S = some { cls := .type "list", dict := none, data := .seq acc' c', slots := #[] } → ItemsOf P acc' n → R (.ok (.ret .none)) s') (hn : n ≤ sizeLine := by size_fits) :
    wpAny (model prog w) A.in1 (Builtin.«list.__init__» ⟨[.ref S, .ref I], []⟩)
      (fun fin s' => match fin with | .done f => R (.ok f) s' | .again c' => c'.quiet = true ∧ codeAny (model prog w) A c' R s') (fun e s' => R (.error e) s') s := by
  show wpAny _ A.in1 (do let old ← Builtin.List.listItems (.ref S); Builtin.List.listUpdate (.ref S) (fun _ => #[]); letGo old.toList.reverse; Builtin.List.listExtendWith (.ref S) (.ref I) .none) _ _ s
  refine wpAny_bind ?_
  unfold Builtin.List.listItems
  refine wpAny_bind (wpAny_seqItems hS rfl (wpAny_pure ?_))
  show wpAny _ A.in1 (updateSeq S (fun _ => #[]) >>= fun _ => letGo (#[] : Array Value).toList.reverse >>= fun _ => Builtin.List.listExtendWith (.ref S) (.ref I) .none) _ _ s
  refine wpAny_bind (wpAny_updateSeq hS rfl ?_)
  have hS₂ := Heap.get?_update_self (Obj.mapSeq (fun _ => (#[] : Array Value))) hS rfl
  have oth : ∀ b o, b ≠ S → s.heap.get? b = some o → (s.heap.update S (Obj.mapSeq (fun _ => (#[] : Array Value)))).get? b = some o :=
    fun b o hb e => (Heap.get?_update_other _ _ (Ne.symm hb)).trans e
  refine wpAny_bind (wpAny_letGo ?_)
  refine extend_flt (hn := hn) W hT S .none _ (W.frame 0 s _ s.toks hst (Nat.le_refl _) fun b hb o e => oth b o (fun h => hSf (h ▸ hb)) e) hSf hI hS₂ fun s' acc' c' hm hS' hacc => ?_
  exact hR s' acc' c' (Moved.trans W.gtrans ((Moved.refl W.grefl).then_heap (Nat.le_refl _) fun b o hb e => oth b o (fun h => hb (h ▸ List.mem_cons_self)) e) hm) hS' hacc
end

section
variable {prog : Program} {w : World} {A : Around} {E : Value → Shared → Prop} {s : Shared}
variable {I : Addr} {fp wr : List Addr} {G : Array GenState → Array GenState → Prop} {n : Nat} {P : Nat → Value → Prop} {St : Nat → Shared → Prop}

theorem call_list_flt {Q : Value → Shared → Prop} (W : WalksS prog w A.in1.in1 I fp wr G n P St) (hT : ∀ i s, St i s → s.TypeIs (.ref I) "filter") (hst : St 0 s) (hfp : ∀ b ∈ fp, b < s.heap.objs.size) (hI : I ∈ fp)
    (hQ : ∀ s' acc' c', Moved (s.heap.objs.size :: wr) G { s with heap := s.heap.push { cls := .type "list", data := .seq #[] } } s' →
      s'.heap.get? s.heap.objs.size = some { cls := .type "list", dict := none, data := .seq acc' c', slots := #[] } → ItemsOf P acc' n → Q (.ref s.heap.objs.size) s') (hn : n ≤ sizeLine := by size_fits) :
    wpAny (model prog w) A (call (.type "list") [.ref I]) Q E s := by
  have hSf : s.heap.objs.size ∉ fp := fun hm => Nat.lt_irrefl _ (hfp _ hm)
  refine callType_codes (Q₁ := fun obj s₁ => obj = .ref s.heap.objs.size ∧ s₁ = { s with heap := s.heap.push { cls := .type "list", data := .seq #[] } }) F.called_list (F.typeCall_list_1 _) F.entry_list_init
    (code_list_new _ ⟨rfl, rfl⟩) fun obj s₁ h₁ => ?_
  obtain ⟨rfl, rfl⟩ := h₁
  have hS : (s.heap.push { cls := .type "list", data := .seq #[] }).get? s.heap.objs.size = some { cls := .type "list", data := .seq #[] } := Heap.get?_push_size _ rfl
  refine ⟨⟨_, hS, rfl⟩, F.args_list_init_2 _ _, init_flt (hn := hn) W hT _ (W.frame 0 s _ s.toks hst (Nat.le_refl _) fun b _ o e => Heap.get?_push_of_some _ e) hSf hI hS fun s' acc' c' hm hS' hacc => ?_⟩
  exact ⟨rfl, hQ s' acc' c' hm hS' hacc⟩
end
end Mine

/- part S6 -/
set_option maxRecDepth 100000
namespace Mine

theorem meets_filter_new (f : Value) (l : Addr) (items : Array Value) (n : Nat) (dct : Option Addr) (sl : Array (Option Value)) :
    Meets (Builtin.«filter.__new__» ⟨[.type "filter", f, .ref l], []⟩) (fun _ R s => s.heap.get? l = some { cls := .type "list", dict := dct, data := .seq items n, slots := sl } ∧
      R (.ok (.ret (.ref (s.heap.push { cls := .type "list_iterator", data := .fields #[.ref l, .int 0 0] }).objs.size)))
        { s with heap := (s.heap.push { cls := .type "list_iterator", data := .fields #[.ref l, .int 0 0] }).push (fltO f s.heap.objs.size) }) :=
  .of_wp fun prog w A R s h => by
    obtain ⟨hp, g, d, tk, os⟩ := s; obtain ⟨hl, h⟩ := h
    have hsub := FF.sub_filter
    have hL : Heap.IsList (Shared.heap ⟨hp, g, d, tk, os⟩) l items := ⟨_, hl, rfl, n, rfl⟩
    wp_walk using wpAny_pyIter_list hL
    exact ⟨_, rfl, h⟩

theorem Ag.strs {vs : List Value} {us : List Bool} (h : Ag vs us) : ∀ v ∈ vs, ∃ k t, v = Value.str k t := by
  induction h with
  | nil => intro v hv; cases hv
  | cons b t _ ih =>
    intro v hv
    rcases List.mem_cons.mp hv with rfl | hv
    · exact ⟨_, _, rfl⟩
    · exact ih v hv
theorem Ag.val {vs : List Value} {us : List Bool} (h : Ag vs us) (i : Nat) (v : Value) (hv : vs.toArray[i]? = some v) : ∃ t, v = .str ((us.map pstr).getD i ⟨#[]⟩) t := by
  obtain ⟨b, t, e1, e2⟩ := h.get (by simpa using hv)
  exact ⟨t, by rw [e2, List.getD_eq_getElem?_getD, List.getElem?_map, e1]; rfl⟩
theorem range_getD (l : List Str) : (List.range l.length).map (fun i => l.getD i ⟨#[]⟩) = l := by
  apply List.ext_getElem?
  intro i
  by_cases hi : i < l.length
  · simp [hi]
  · simp [Nat.le_of_not_lt hi]
theorem Ag.filter {vs : List Value} {us : List Bool} (h : Ag vs us) (f : Bool → Bool) (S : Str → Bool) (hS : ∀ b, S (pstr b) = f b) : Ag (vs.filter (keepS S)) (us.filter f) := by
  induction h with
  | nil => exact .nil
  | cons b t _ ih =>
    have e : keepS S (.str (pstr b) t) = f b := hS b
    cases hb : f b with
    | true => rw [List.filter_cons_of_pos (by rw [e, hb]), List.filter_cons_of_pos hb]; exact .cons b t ih
    | false => rw [List.filter_cons_of_neg (by rw [e, hb]; exact Bool.false_ne_true), List.filter_cons_of_neg (by rw [hb]; exact Bool.false_ne_true)]; exact ih

section
variable {prog : Program} {w : World} {A : Around} {E : Value → Shared → Prop} {s : Shared} {h₀ : Heap} {L : Addr} {m : Str → Option Value} {news rest : List (Addr × Obj)} {l c S Fl it : Addr} {vs : List Value} {us us2 : List Bool} {o io : Obj} {n : Nat} {Q : Value → Shared → Prop}

/-- set(xs), xs the names of parties -/
theorem set_L (F : Fr h₀ L s.heap m) (N : News h₀ L s.heap news) (hh : A.handled = none) (hl : h₀.IsList l vs.toArray) (ha : Ag vs us) (hb : us.length < 100)
    (h : ∀ S o n h' tk, Fr h₀ L h' m → News h₀ L h' ((S, o) :: news) → (∀ p ∈ news, p.1 < S) → o.SetObjOf (strKind prog w) (fun k => (us.map pstr).any (· == k)) n → n < scanBound → Q (.ref S) { s with heap := h', toks := tk }) :
    wpAny (model prog w) A (call (.type "set") [.ref l]) Q E s := by
  have hlen : vs.toArray.size = us.length := by rw [List.size_toArray, ha.length]
  refine call_set_strs hh (hl.at fun o e => F.keep l o e) ha.val (by rw [hlen]; unfold scanBound; omega) fun h' tk c hS hk => ?_
  have e : (List.range vs.toArray.size).map (fun i => (us.map pstr).getD i ⟨#[]⟩) = us.map pstr := by
    rw [hlen]
    have := range_getD (us.map pstr)
    rwa [List.length_map] at this
  rw [e] at hS
  have hcb : c < scanBound := by obtain ⟨_, _, _, _, _, _, _, _, _, h1, _, h2⟩ := hS; omega
  obtain ⟨o, ho, hso⟩ := hS.objOf
  obtain ⟨a, b, d⟩ := call_news (s' := { s with heap := h', toks := tk }) (add := [(s.heap.objs.size, o)]) ⟨h', tk, rfl, hk⟩ F N (fun p hp => by rw [List.mem_singleton.mp hp]; exact ⟨ho, Nat.le_refl _⟩)
  exact h _ o c h' tk a b (fun p hp => d p hp _ (List.mem_singleton.mpr rfl)) hso hcb

theorem contains_L (F : Fr h₀ L s.heap m) (N : News h₀ L s.heap news) (hm : (S, o) ∈ news) {f : Str → Bool} (ho : o.SetObjOf (strKind prog w) f n) {ex : Bool}
    (h : ∀ c h', Fr h₀ L h' m → News h₀ L h' ((c, boundC S) :: news) → (∀ p ∈ news, p.1 < c) → Q (.ref c) { s with heap := h', toks := s.toks + 1 }) :
    wpAny (model prog w) A (getAttr (.ref S) (Str.ofString "__contains__") ex) Q E s := by
  obtain ⟨hex, es, ep, t, hd, _⟩ := ho
  refine contains_attr (N.get hm) hex.1 hex.2.1 ⟨es, ep, t, hd⟩ ?_
  exact h _ _ (F.push _) (N.push F _) fun p hp => Heap.lt_size (N p hp).1

theorem filter_L (F : Fr h₀ L s.heap m) (N : News h₀ L s.heap news) (hl : h₀.IsList l vs.toArray)
    (h : ∀ it Fl h', Fr h₀ L h' m → News h₀ L h' ((Fl, fltO (.ref c) it) :: (it, { cls := .type "list_iterator", data := .fields #[.ref l, .int 0 0] }) :: news) → (∀ p ∈ news, p.1 < it) → it < Fl → Q (.ref Fl) { s with heap := h' }) :
    wpAny (model prog w) A (call (.type "filter") [.ref c, .ref l]) Q E s := by
  obtain ⟨⟨oc, od, odt, osl⟩, hol, hc, nl, hd⟩ := hl
  replace hc : oc = .type "list" := hc
  replace hd : odt = .seq vs.toArray nl := hd
  subst hc hd
  refine callType_new FF.called_filter (by decide) (FF.typeCall_filter_2 _ _) (FF.newCall_filter_2 _ _) (fun obj => FF.args_init_3 obj _ _) FF.entry_filter_new
    (meets_filter_new (.ref c) l vs.toArray nl od osl) ⟨F.keep _ _ hol, ?_⟩
  have hz : (s.heap.push { cls := .type "list_iterator", data := .fields #[.ref l, .int 0 0] }).objs.size = s.heap.objs.size + 1 := Heap.size_push ..
  have N1 := N.push F ({ cls := .type "list_iterator", data := .fields #[.ref l, .int 0 0] } : Obj)
  have N2 := N1.push (F.push _) (fltO (.ref c) s.heap.objs.size)
  show _ ∧ _
  exact ⟨⟨_, (N2 _ (List.mem_cons_self ..)).1, rfl⟩, h _ _ _ ((F.push _).push _) N2 (fun p hp => Heap.lt_size (N p hp).1) (by rw [hz]; exact Nat.lt_succ_self _)⟩

theorem list_L (F : Fr h₀ L s.heap m) (N : News h₀ L s.heap ((Fl, fltO (.ref c) it) :: (it, { cls := .type "list_iterator", data := .fields #[.ref l, .int 0 0] }) :: (c, boundC S) :: (S, o) :: rest)) (hh : A.handled = none)
    (hl : h₀.IsList l vs.toArray) (ha : Ag vs us) (hb : us.length < 100) (ho : o.SetObjOf (strKind prog w) (fun k => (us2.map pstr).any (· == k)) n) (hn : n < scanBound)
    (d1 : ∀ p ∈ rest, p.1 < S) (d2 : S < c) (d3 : c < it) (d4 : it < Fl)
    (h : ∀ D ys k h' tk, Fr h₀ L h' m → News h₀ L h' ((D, W.listOf ys.toArray k) :: rest) → (∀ p ∈ rest, p.1 < D) → Ag ys (us.filter fun b => us2.contains b) → Q (.ref D) { s with heap := h', toks := tk }) :
    wpAny (model prog w) A (call (.type "list") [.ref Fl]) Q E s := by
  have g1 := (N _ (.head _)).1
  have g2 := (N _ (.tail _ (.head _))).1
  have g3 := (N _ (.tail _ (.tail _ (.head _)))).1
  have g4 := (N _ (.tail _ (.tail _ (.tail _ (.head _))))).1
  obtain ⟨ol, hol, hcl⟩ := id hl
  have hls : s.heap.IsList l vs.toArray := hl.at fun o e => F.keep l o e
  have n1 : h₀.get? it = none := (N _ (.tail _ (.head _))).2.2
  have hlit : l ≠ it := fun e => by rw [e, n1] at hol; cases hol
  have hne : ∀ b ∈ [Fl, l, c, S], b ≠ it := by
    intro b hb
    simp only [List.mem_cons, List.not_mem_nil, or_false] at hb
    rcases hb with rfl | rfl | rfl | rfl
    · exact Nat.ne_of_gt d4
    · exact hlit
    · exact Nat.ne_of_lt d3
    · exact Nat.ne_of_lt (Nat.lt_trans d2 d3)
  have hstr : ∀ v ∈ vs.toArray.toList, ∃ k t, v = Value.str k t := by simpa using ha.strs
  let Sf : Str → Bool := fun k => (us2.map pstr).any (· == k)
  have W := filter_walks (prog := prog) (w := w) (A := A.in1.in1) (Fl := Fl) (it := it) (l := l) (c := c) (a := S) (items := vs.toArray) (S := Sf) (by simpa using hh) hne hstr
  have x0 : FltAt prog w Fl it l c S vs.toArray Sf 0 s.heap := ⟨g1, ⟨_, g2, rfl, rfl⟩, hls, g3, n, ho.setOf g4 hn⟩
  have hflt : Ag (vs.filter (keepS Sf)) (us.filter fun b => us2.contains b) := ha.filter _ Sf fun b => by
    show (us2.map pstr).any (· == pstr b) = us2.contains b
    have inj : ∀ a b : Bool, (pstr a == pstr b) = (a == b) := by decide +kernel
    rw [List.any_map, List.contains_eq_any_beq]
    congr 1
    funext x
    show (pstr x == pstr b) = _
    rw [inj]; exact Bool.beq_comm
  have hfl : (vs.filter (keepS Sf)).length ≤ vs.length := List.length_filter_le _ _
  refine call_list_flt W.toS (fun i s' => ?_) ⟨0, by simp, x0⟩ ?_ (by simp) (fun s' acc' c' hm hD hit => ?_) ?_
  · rintro ⟨j, _, x⟩; exact ⟨_, x.flt, rfl⟩
  · intro b hb
    simp only [List.mem_cons, List.not_mem_nil, or_false] at hb
    rcases hb with rfl | rfl | rfl | rfl | rfl
    · exact Heap.lt_size g1
    · exact Heap.lt_size g2
    · exact Heap.lt_size (F.keep _ _ hol)
    · exact Heap.lt_size g3
    · exact Heap.lt_size g4
  · obtain ⟨h', g', d', tk', os'⟩ := s'
    have eg : g' = s.gens := hm.gens
    have ed : d' = s.drawn := hm.drawn
    have eo : os' = s.os := hm.os
    subst eg; subst ed; subst eo
    have hsz : ∀ b o, s.heap.get? b = some o → b < s.heap.objs.size := fun b o e => Heap.lt_size e
    have old : ∀ b o, b ≠ it → s.heap.get? b = some o → h'.get? b = some o := fun b o hb e =>
      hm.heap b o (by simp only [List.mem_cons, List.not_mem_nil, or_false, not_or]; exact ⟨Nat.ne_of_lt (hsz b o e), hb⟩) (Heap.get?_push_of_some _ e)
    have hacc : acc'.toList = vs.filter (keepS Sf) := by
      apply List.ext_getElem?
      intro i
      obtain ⟨e1, e2⟩ := hit
      simp only [List.toList_toArray] at e1 e2
      by_cases hi : i < acc'.size
      · have := e2 i acc'[i] (by simp [hi])
        rw [this]; simp [hi]
      · have hi' : (vs.filter (keepS Sf)).length ≤ i := by omega
        rw [List.getElem?_eq_none (by simpa using Nat.le_of_not_lt hi), List.getElem?_eq_none hi']
    obtain ⟨oL, a1, a2, hL, a3⟩ := F.ns
    have F' : Fr h₀ L h' m := ⟨⟨oL, a1, a2, old _ _ (fun e => (N _ (.tail _ (.head _))).2.1 e.symm) hL, a3⟩, fun b ob e => old _ _ (fun q => by rw [q, n1] at e; cases e) (F.keep b ob e), F.above⟩
    have hacc' : acc' = (vs.filter (keepS Sf)).toArray := by rw [← hacc]
    refine h s.heap.objs.size (vs.filter (keepS Sf)) c' h' tk' F' (fun p hp => ?_) (fun p hp => ?_) hflt
    · rcases List.mem_cons.mp hp with rfl | hp
      · refine ⟨by rw [← hacc']; exact hD, Nat.ne_of_gt (Heap.lt_size hL), ?_⟩
        cases hq : h₀.get? s.heap.objs.size with
        | none => rfl
        | some o' => exact absurd (Heap.lt_size (F.keep _ _ hq)) (Nat.lt_irrefl _)
      · have hp' : p ∈ (Fl, fltO (.ref c) it) :: (it, ({ cls := .type "list_iterator", data := .fields #[.ref l, .int 0 0] } : Obj)) :: (c, boundC S) :: (S, o) :: rest := .tail _ (.tail _ (.tail _ (.tail _ hp)))
        exact ⟨old _ _ (Nat.ne_of_lt (Nat.lt_trans (d1 p hp) (Nat.lt_trans d2 d3))) (N p hp').1, (N p hp').2⟩
    · exact Nat.lt_trans (d1 p hp) (Heap.lt_size g4)
  · rw [ha.length] at hfl
    have : (vs.toArray.toList.filter (keepS Sf)).length ≤ us.length := by simpa using hfl
    rw [sizeLine_eq]; omega

theorem add_L {a b : Addr} {xs ys : List Value} (F : Fr h₀ L s.heap m) (N : News h₀ L s.heap news) (hl1 : h₀.IsList a xs.toArray) (hl2 : h₀.IsList b ys.toArray) (z1 : xs.length < 100) (z2 : ys.length < 100)
    (h : ∀ D h', Fr h₀ L h' m → News h₀ L h' ((D, W.listOf (xs ++ ys).toArray 0) :: news) → (∀ p ∈ news, p.1 < D) → Q (.ref D) { s with heap := h' }) :
    wpAny (model prog w) A (binaryOp .Add (.ref a) (.ref b)) Q E s :=
  add_arrays F N (hl1.at fun o e => F.keep a o e) (hl2.at fun o e => F.keep b o e) (fun h' F' N' => h s.heap.objs.size h' F' (by simpa using N') fun p hp => Heap.lt_size (N p hp).1) (by
    rw [List.size_toArray, List.size_toArray, sizeLine_eq]; omega)
end
end Mine

/- part A3 -/
namespace Mine
local macro_rules | `(tactic| walk_at "call ref") => `(tactic| (k_extra "A3 1"; intro x' d' a' b' t1' t2' t3' t4' h' tk' F' N' l1 l0 l2 l3 l4; (try k_lt l1); (try k_lt2 l0); (try k_lt2 l2); (try k_lt2 l3); (try k_lt2 l4); (try k_sweep)))
local macro_rules | `(tactic| walk_at "call type:set cons nil") => `(tactic| (k_extra "A3 2"; intro S' o' n' h' tk' F' N' l1 ho' hn'; (try k_lt l1); (try k_sweep)))
local macro_rules | `(tactic| walk_at "getAttr ref") => `(tactic| (k_extra "A3 3"; intro c' h' F' N' l1; (try k_lt l1); (try k_sweep)))
local macro_rules | `(tactic| walk_at "binaryOp Add ref ref") => `(tactic| (k_extra "A3 4"; intro D' h' F' N' l1; (try k_lt l1); (try k_sweep)))
local macro_rules | `(tactic| walk_at "call type:filter") => `(tactic| (k_extra "A3 5"; intro i' f' h' F' N' l1 l2; (try k_lt l1); (try k_lt2 l2); (try k_sweep)))
local macro_rules | `(tactic| walk_at "call type:list") => `(tactic| (k_extra "A3 6"; intro D' ys' k' h' tk' F' N' l1 ha'; (try k_lt l1); (try k_sweep)))
set_option maxRecDepth 100000 in
set_option maxHeartbeats 8000000 in
theorem merge_spec : ∀ (w : World) (mean : ExcName → Option Value) (mg mb : Str → Option Value) (gd : Option (List Code)) (fr : Option (List Env)) (dp un : Nat) (s : Shared) (Q E : Value → Shared → Prop)
    (X : (Mine.hd.heap_39 w.params).In s.heap) (T : Top Mine.hd.view_39 (looseW Mine.hd.view_39 []) mean mg mb s.heap) (hd : dp + 40 < recursionLimit) (hu : un + 400 < cLine)
    (x1 d1 u1 r1 x2 d2 u2 r2 : Addr) (t1 t2 t3 t4 t5 t6 t7 t8 : Tok) (vs1 vs2 rs1 rs2 : List Value) (us1 us2 : List Bool)
    (e1 : s.heap.get? x1 = some (instObj 52 d1)) (e2 : s.heap.get? d1 = some (dictOf (entD w t1 t2 t3 t4 u1 r1) 4)) (e3 : s.heap.IsList u1 vs1.toArray) (e4 : s.heap.IsList r1 rs1.toArray)
    (f1 : s.heap.get? x2 = some (instObj 52 d2)) (f2 : s.heap.get? d2 = some (dictOf (entD w t5 t6 t7 t8 u2 r2) 4)) (f3 : s.heap.IsList u2 vs2.toArray) (f4 : s.heap.IsList r2 rs2.toArray)
    (a1 : Ag vs1 us1) (a2 : Ag vs2 us2) (b1 : us1.length < 100) (b2 : us2.length < 100) (c1 : rs1.length < 100) (c2 : rs2.length < 100)
    (ret : ∀ x d lu lr t1 t2 t3 t4 ys k n s', Keeps s s' → s.heap.objs.size ≤ d → d < x → x < lu → lu < lr → s'.heap.get? x = some (instObj 52 d) → s'.heap.get? d = some (dictOf (entD w t1 t2 t3 t4 lu lr) 4) → s'.heap.get? lu = some (W.listOf (List.toArray ys) k) → s'.heap.get? lr = some (W.listOf (rs1 ++ rs2).toArray n) → Ag ys (us1.filter fun b => us2.contains b) → Q (.ref x) s'),
    wpAny (model PySem.Challenge.rw_rl0022_01.prog w) (arnd dp un gd fr) (call (.ref 63) [.ref x1, .ref x2]) Q E s := by
  k_with_none
  k_with "A3 1" => ((with_reducible show wpAny _ _ (call (Value.ref 52) _) _ _ _); k_dflt (refine' entry_L (by k_asm) (by k_asm) (by k_asm) (by k_asm) (by k_room) (by kdy_size) ?_))
  k_with "A3 2" => (k_dflt (refine' set_L (by k_asm) (by k_asm) (by rfl) (by assumption) (by assumption) (by assumption) ?_))
  k_with "A3 3" => ((with_reducible show wpAny _ _ (getAttr (Value.ref _) (PySem.Str.ofString "__contains__") _) _ _ _); k_dflt (refine' contains_L (by k_asm) (by k_asm) (by k_mem) (by assumption) ?_))
  k_with "A3 4" => (k_dflt (refine' add_L (by k_asm) (by k_asm) (by assumption) (by assumption) (by assumption) (by assumption) ?_))
  k_with "A3 5" => (k_dflt (refine' filter_L (by k_asm) (by k_asm) (by assumption) ?_))
  k_with "A3 6" => (k_dflt (refine' list_L (by k_asm) (by k_asm) (by rfl) (by assumption) (by assumption) (by assumption) (by assumption) (by assumption) (by exact tb_ltOf (by simp only [AllLt, and_true]; omega)) (by (refine ltN ?_; omega)) (by (refine ltN ?_; omega)) (by (refine ltN ?_; omega)) ?_))
  w_top off
  k_fill
  intro w mean mg mb gd fr dp un s Q E X T hd hu x1 d1 u1 r1 x2 d2 u2 r2 t1 t2 t3 t4 t5 t6 t7 t8 vs1 vs2 rs1 rs2 us1 us2 e1 e2 e3 e4 f1 f2 f3 f4 a1 a2 b1 b2 c1 c2 ret
  k_dflt (refine wpAny_call ?_; (refine' enter_plain (binds := [(Str.ofString "e1", .ref x1), (Str.ofString "e2", .ref x2)]) ?k1 ?k5 ?k6 ?k7 ?k8 ?k9 ?kB ?_ ?c2 ?c3 ?c4 ?c5; (case k1 => k_asm); (case k5 => k_asm); (case k6 => k_is); (case k7 => k_is); (case k8 => k_room); (case k9 => exact BindsTo.of_eq rfl); (case c5 => decide); (case kB => exact locs rfl); (case c2 => exact rfl); (case c3 => exact rfl); (case c4 => exact rfl); k_whole; intro h₀ L h₁ eH eL F N X T; (try dsimp only)))
  rw [← eH] at e1 e2 e3 e4 f1 f2 f3 f4
  (try ((with_reducible show wpAny _ _ _ _ _ _); k_fold))
  k_steps
  with_reducible rename Fr _ _ _ _ => F9
  with_reducible rename News _ _ _ _ => N9
  rename (Ag _ (List.filter _ _)) => ha9
  refine (?_ : Q (.ref _) _)
  refine ret _ _ _ _ _ _ _ _ _ _ _ _ (keeps_of eH F9) ?_ ?_ ?_ ?_ (N9.get (by k_mem)) (N9.get (by k_mem)) (N9.get (by k_mem)) (N9.get (by k_mem)) ha9
  all_goals omega

theorem merge_L {w : World} {mean : ExcName → Option Value} {mg mb : Str → Option Value} {gd : Option (List Code)} {fr : Option (List Env)} {dp un : Nat} {s : Shared} {Q E : Value → Shared → Prop} {h₀ : Heap} {L : Addr} {m : Str → Option Value} {news : List (Addr × Obj)}
    {x1 d1 u1 r1 x2 d2 u2 r2 : Addr} {t1 t2 t3 t4 t5 t6 t7 t8 : Tok} {vs1 vs2 rs1 rs2 : List Value} {us1 us2 : List Bool}
    (F : Fr h₀ L s.heap m) (N : News h₀ L s.heap news) (X : (Mine.hd.heap_39 w.params).In h₀) (T : Top Mine.hd.view_39 (looseW Mine.hd.view_39 []) mean mg mb h₀) (hd : dp + 40 < recursionLimit) (hu : un + 400 < cLine)
    (e1 : s.heap.get? x1 = some (instObj 52 d1)) (e2 : s.heap.get? d1 = some (dictOf (entD w t1 t2 t3 t4 u1 r1) 4)) (e3 : s.heap.IsList u1 vs1.toArray) (e4 : s.heap.IsList r1 rs1.toArray)
    (f1 : s.heap.get? x2 = some (instObj 52 d2)) (f2 : s.heap.get? d2 = some (dictOf (entD w t5 t6 t7 t8 u2 r2) 4)) (f3 : s.heap.IsList u2 vs2.toArray) (f4 : s.heap.IsList r2 rs2.toArray)
    (a1 : Ag vs1 us1) (a2 : Ag vs2 us2) (b1 : us1.length < 100) (b2 : us2.length < 100) (c1 : rs1.length < 100) (c2 : rs2.length < 100)
    (h : ∀ x d lu lr t1 t2 t3 t4 ys k n h' tk, Fr h₀ L h' m → News h₀ L h' ((lr, W.listOf (rs1 ++ rs2).toArray n) :: (lu, W.listOf (List.toArray ys) k) :: (x, instObj 52 d) :: (d, dictOf (entD w t1 t2 t3 t4 lu lr) 4) :: news) → (∀ p ∈ news, p.1 < d) → L < d → d < x → x < lu → lu < lr → Ag ys (us1.filter fun b => us2.contains b) → Q (.ref x) { s with heap := h', toks := tk }) :
    wpAny (model PySem.Challenge.rw_rl0022_01.prog w) (arnd dp un gd fr) (call (.ref 63) [.ref x1, .ref x2]) Q E s := by
  refine merge_spec w mean mg mb gd fr dp un s Q E (X.keeps F.keep) (T.keeps F.keep) hd hu x1 d1 u1 r1 x2 d2 u2 r2 t1 t2 t3 t4 t5 t6 t7 t8 vs1 vs2 rs1 rs2 us1 us2 e1 e2 e3 e4 f1 f2 f3 f4 a1 a2 b1 b2 c1 c2 ?_
  rintro x d lu lr t1 t2 t3 t4 ys k n s' kk o1 o2 o3 o4 g1 g2 g3 g4 ha
  obtain ⟨a, b, c⟩ := call_news (add := [(lr, W.listOf (rs1 ++ rs2).toArray n), (lu, W.listOf (List.toArray ys) k), (x, instObj 52 d), (d, dictOf (entD w t1 t2 t3 t4 lu lr) 4)]) kk F N (fun p hp => by
    simp only [List.mem_cons, List.not_mem_nil, or_false] at hp
    rcases hp with rfl | rfl | rfl | rfl
    · exact ⟨g4, by show s.heap.objs.size ≤ lr; omega⟩
    · exact ⟨g3, by show s.heap.objs.size ≤ lu; omega⟩
    · exact ⟨g1, by show s.heap.objs.size ≤ x; omega⟩
    · exact ⟨g2, o1⟩)
  obtain ⟨h', tk, rfl, _⟩ := kk
  exact h x d lu lr t1 t2 t3 t4 ys k n h' tk a b (fun p hp => c p hp (d, dictOf (entD w t1 t2 t3 t4 lu lr) 4) (by simp)) (Nat.lt_of_lt_of_le F.ns.lt o1) o2 o3 o4 ha
end Mine

/- part A1 -/
namespace Mine
set_option maxRecDepth 100000 in
set_option maxHeartbeats 8000000 in
theorem applies_spec : ∀ (w : World) (mean : ExcName → Option Value) (mg mb : Str → Option Value) (gd : Option (List Code)) (fr : Option (List Env)) (dp un : Nat) (s : Shared) (Q E : Value → Shared → Prop)
    (X : (Mine.hd.heap_39 w.params).In s.heap) (T : Top Mine.hd.view_39 (looseW Mine.hd.view_39 []) mean mg mb s.heap) (hd : dp + 20 < recursionLimit) (hu : un + 200 < cLine)
    (x d lu lr : Addr) (t1 t2 t3 t4 t5 t9 : Tok) (al b : Bool) (vs : List Value) (us : List Bool) (ha : Ag vs us) (e1 : s.heap.get? x = some (instObj 52 d)) (e2 : s.heap.get? d = some (dictOf (entD5 w t1 t2 t3 t4 t5 lu lr al) 5)) (e3 : s.heap.IsList lu vs.toArray)
    (ret : ∀ s', Keeps s s' → Q (.bool (us.contains b)) s'),
    wpAny (model PySem.Challenge.rw_rl0022_01.prog w) (arnd dp un gd fr) (call (.ref 42) [.ref x, .str (pstr b) t9]) Q E s := by
  w_top off
  k_with_none
  k_fill
  intro w mean mg mb gd fr dp un s Q E X T hd hu x d lu lr t1 t2 t3 t4 t5 t9 al b vs us ha e1 e2 e3 ret
  cases b
  all_goals (simp only [pstr, Bool.false_eq_true, if_false, if_true])
  · k_dflt (refine wpAny_call ?_; (refine' enter_plain (binds := [(Str.ofString "self", .ref x), (Str.ofString "useragent", .str (Str.ofString "fig") t9)]) ?k1 ?k5 ?k6 ?k7 ?k8 ?k9 ?kB ?_ ?c2 ?c3 ?c4 ?c5; (case k1 => k_asm); (case k5 => k_asm); (case k6 => k_is); (case k7 => k_is); (case k8 => k_room); (case k9 => exact BindsTo.of_eq rfl); (case c5 => decide); (case kB => exact locs rfl); (case c2 => exact rfl); (case c3 => exact rfl); (case c4 => exact rfl); k_whole; intro h₀ L h₁ eH eL F N X T; (try dsimp only)))
    rw [← eH] at e1 e2 e3
    (try ((with_reducible show wpAny _ _ _ _ _ _); k_fold))
    k_steps
    with_reducible rename Fr _ _ _ _ => F9
    with_reducible rename News _ _ _ _ => N9
    refine iter_baseK [Str.ofString "agent"] (fun i => false ∉ us.take i) rfl e3 F9 N9 (by simp) ?_ ?_
    · intro I o i v u h tk hv hf hlt F1 N1
      obtain ⟨c, t, hc, rfl⟩ := ha.get hv
      clear F9 N9
      have hin : c ∈ us := List.mem_of_getElem? hc
      have htk : us.take (i + 1) = us.take i ++ [c] := by rw [List.take_add_one, hc]; rfl
      cases c
      all_goals (simp only [pstr, Bool.false_eq_true, if_false, if_true] at F1)
      all_goals ((try ((with_reducible show wpAny _ _ _ _ _ _); k_fold)); k_steps)
      all_goals (first
        | (exfalso; (rename List.isEmpty _ = _ => hq); revert hq; decide +kernel)
        | (refine (?_ : Q (.bool true) _); have hct : us.contains false = true := (by simpa using hin); rw [← hct]; exact ret _ (keeps_of eH (by assumption)))
        | exact TurnPost.goK (by assumption) (by assumption) (by k_mem) (fun p hp => List.mem_cons_of_mem _ hp) hlt (by rw [htk]; simp [hf]) (fun y hy => by simp only [if_neg (ne_forgot hy (a := Str.ofString "agent") (by decide)), hy, Bool.false_eq_true, if_false]))
    · intro u h tk hf F1 N1
      clear F9 N9
      (try ((with_reducible show wpAny _ _ _ _ _ _); k_fold))
      k_steps
      refine (?_ : Q (.bool false) _)
      have hct : us.contains false = false := by
        rw [ha.length, List.take_length] at hf
        simpa using hf
      rw [← hct]
      exact ret _ (keeps_of eH (by assumption))
  · k_dflt (refine wpAny_call ?_; (refine' enter_plain (binds := [(Str.ofString "self", .ref x), (Str.ofString "useragent", .str (Str.ofString "owl") t9)]) ?k1 ?k5 ?k6 ?k7 ?k8 ?k9 ?kB ?_ ?c2 ?c3 ?c4 ?c5; (case k1 => k_asm); (case k5 => k_asm); (case k6 => k_is); (case k7 => k_is); (case k8 => k_room); (case k9 => exact BindsTo.of_eq rfl); (case c5 => decide); (case kB => exact locs rfl); (case c2 => exact rfl); (case c3 => exact rfl); (case c4 => exact rfl); k_whole; intro h₀ L h₁ eH eL F N X T; (try dsimp only)))
    rw [← eH] at e1 e2 e3
    (try ((with_reducible show wpAny _ _ _ _ _ _); k_fold))
    k_steps
    with_reducible rename Fr _ _ _ _ => F9
    with_reducible rename News _ _ _ _ => N9
    refine iter_baseK [Str.ofString "agent"] (fun i => true ∉ us.take i) rfl e3 F9 N9 (by simp) ?_ ?_
    · intro I o i v u h tk hv hf hlt F1 N1
      obtain ⟨c, t, hc, rfl⟩ := ha.get hv
      clear F9 N9
      have hin : c ∈ us := List.mem_of_getElem? hc
      have htk : us.take (i + 1) = us.take i ++ [c] := by rw [List.take_add_one, hc]; rfl
      cases c
      all_goals (simp only [pstr, Bool.false_eq_true, if_false, if_true] at F1)
      all_goals ((try ((with_reducible show wpAny _ _ _ _ _ _); k_fold)); k_steps)
      all_goals (first
        | (exfalso; (rename List.isEmpty _ = _ => hq); revert hq; decide +kernel)
        | (refine (?_ : Q (.bool true) _); have hct : us.contains true = true := (by simpa using hin); rw [← hct]; exact ret _ (keeps_of eH (by assumption)))
        | exact TurnPost.goK (by assumption) (by assumption) (by k_mem) (fun p hp => List.mem_cons_of_mem _ hp) hlt (by rw [htk]; simp [hf]) (fun y hy => by simp only [if_neg (ne_forgot hy (a := Str.ofString "agent") (by decide)), hy, Bool.false_eq_true, if_false]))
    · intro u h tk hf F1 N1
      clear F9 N9
      (try ((with_reducible show wpAny _ _ _ _ _ _); k_fold))
      k_steps
      refine (?_ : Q (.bool false) _)
      have hct : us.contains true = false := by
        rw [ha.length, List.take_length] at hf
        simpa using hf
      rw [← hct]
      exact ret _ (keeps_of eH (by assumption))

end Mine

/- part A4 -/
namespace Mine

theorem applies_L {w : World} {mean : ExcName → Option Value} {mg mb : Str → Option Value} {gd : Option (List Code)} {fr : Option (List Env)} {dp un : Nat} {s : Shared} {Q E : Value → Shared → Prop} {h₀ : Heap} {L : Addr} {m : Str → Option Value} {news : List (Addr × Obj)}
    {x d lu lr : Addr} {t1 t2 t3 t4 t5 t9 : Tok} {al b r : Bool} {vs : List Value} {us : List Bool}
    (F : Fr h₀ L s.heap m) (N : News h₀ L s.heap news) (X : (Mine.hd.heap_39 w.params).In h₀) (T : Top Mine.hd.view_39 (looseW Mine.hd.view_39 []) mean mg mb h₀) (hd : dp + 20 < recursionLimit) (hu : un + 200 < cLine)
    (e1 : h₀.get? x = some (instObj 52 d)) (e2 : h₀.get? d = some (dictOf (entD5 w t1 t2 t3 t4 t5 lu lr al) 5)) (e3 : h₀.IsList lu vs.toArray) (ha : Ag vs us) (hr : us.contains b = r)
    (h : ∀ h' tk, Fr h₀ L h' m → News h₀ L h' news → Q (.bool r) { s with heap := h', toks := tk }) :
    wpAny (model PySem.Challenge.rw_rl0022_01.prog w) (arnd dp un gd fr) (call (.ref 42) [.ref x, .str (pstr b) t9]) Q E s := by
  refine applies_spec w mean mg mb gd fr dp un s Q E (X.keeps F.keep) (T.keeps F.keep) hd hu x d lu lr t1 t2 t3 t4 t5 t9 al b vs us ha (F.keep _ _ e1) (F.keep _ _ e2) (e3.at fun o e => F.keep _ o e) ?_
  intro s' k
  obtain ⟨a, b, c⟩ := call_news (add := []) k F N (fun p hp => nomatch hp)
  obtain ⟨h', tk, rfl, _⟩ := k
  rw [hr]
  exact h h' tk a b

/-- a rule line that stood ahead of the call: its allowance and its agents -/
inductive RLs (w : World) (h : Heap) : List Value → List (Bool × List Bool) → Prop
  | nil : RLs w h [] []
  | cons {y d lu lr : Addr} {t1 t2 t3 t4 t5 : Tok} {al : Bool} {vs : List Value} {us : List Bool} {ls : List Value} {rs : List (Bool × List Bool)} :
    h.get? y = some (instObj 52 d) → h.get? d = some (dictOf (entD5 w t1 t2 t3 t4 t5 lu lr al) 5) → h.IsList lu vs.toArray → Ag vs us → RLs w h ls rs → RLs w h (.ref y :: ls) ((al, us) :: rs)
theorem RLs.get {w : World} {h : Heap} : ∀ {ls : List Value} {rs : List (Bool × List Bool)}, RLs w h ls rs → ∀ {i : Nat} {v : Value}, ls[i]? = some v →
    ∃ y d lu lr t1 t2 t3 t4 t5 al vs us, rs[i]? = some (al, us) ∧ v = .ref y ∧ h.get? y = some (instObj 52 d) ∧ h.get? d = some (dictOf (entD5 w t1 t2 t3 t4 t5 lu lr al) 5) ∧ h.IsList lu (List.toArray vs) ∧ Ag vs us := by
  intro ls rs x
  induction x with
  | nil => intro i v hv; simp at hv
  | cons a b c d r ih =>
    intro i v hv
    cases i with
    | zero => simp at hv; exact ⟨_, _, _, _, _, _, _, _, _, _, _, _, by simp, hv.symm, a, b, c, d⟩
    | succ i =>
      simp only [List.getElem?_cons_succ] at hv
      obtain ⟨y, d, lu, lr, t1, t2, t3, t4, t5, al, vs, us, q, z⟩ := ih hv
      exact ⟨y, d, lu, lr, t1, t2, t3, t4, t5, al, vs, us, by simpa using q, z⟩
theorem RLs.length {w : World} {h : Heap} {ls : List Value} {rs : List (Bool × List Bool)} (x : RLs w h ls rs) : ls.length = rs.length := by
  induction x with
  | nil => rfl
  | cons _ _ _ _ _ ih => simp [ih]

/-- what allowance keeps between its turns: has a line matched; the allowance -/
def alStep (b : Bool) (c : Bool × Bool) (l : Bool × List Bool) : Bool × Bool :=
  if l.2.contains b then (if c.1 then (if c.2 then c else (true, l.1)) else (true, l.1)) else c
def alRun (b : Bool) (rs : List (Bool × List Bool)) : Bool × Bool := rs.foldl (alStep b) (false, true)
theorem alRun_take (b : Bool) (rs : List (Bool × List Bool)) (i : Nat) (l : Bool × List Bool) (h : rs[i]? = some l) : alRun b (rs.take (i + 1)) = alStep b (alRun b (rs.take i)) l := by
  unfold alRun; rw [List.take_add_one, h]; simp
def bestV (t : Tok) (c : Bool) : Value := if c then .bool true else .int (-1) t
theorem gives_gt_bi (p : Bool) (b : Int) (t : Tok) : Gives (Builtin.«int.__gt__» ⟨[.bool p, .int b t], []⟩) (.val (Value.bool (decide ((if p = true then (1 : Int) else 0) > b)))) :=
  .of_wp fun M A E s Q h => by obtain ⟨hp, g, d, tk, os⟩ := s; wp_walk; exact ⟨_, rfl, h⟩
theorem sub_int_bool : isSubtype (.type "int") (.type "bool") = pure false := by rw [isSubtype_type]; kernel_rfl
theorem gt_bool_int {prog : Program} {w : World} {A : Around} {E : Value → Shared → Prop} {s : Shared} {Q : Value → Shared → Prop} {p : Bool} {b : Int} {t : Tok} (h : Q (.bool (decide ((if p = true then (1 : Int) else 0) > b))) s) :
    wpAny (model prog w) A (compareOp .Gt (.bool p) (.int b t)) Q E s :=
  wpAny_richCompare_left (Ta := "bool") (Tb := "int") (op := .Gt) (typeIs_bool' s p) (typeIs_int s b t) (by decide) sub_int_bool F.slot_bool_gt
    (call_gives F.slot_bool_gt (typeIs_bool' s p) F.entry_int_gt (F.args_int_gt_2 _ _) (gives_gt_bi p b t) (Made.post_and (by intro hq; cases hq) h))

theorem findObj_own2 {K : Frag} {C : Addr} {name : Str} {od : Obj} {v a g : Value} (hh : hasDictIn K C = true) (ha : findIn K (.ref C) name = some (some a)) (hg : specialIn K a "__get__" = some (some g)) (ht : takesIn K a = some false) (hl : lookIn name od = some (some v)) :
    findObj K C (some od) name = some (.value v) := by
  obtain ⟨cd, hc, hd⟩ := any_some hh
  unfold findObj
  rw [hc, Option.bind_some, ha, Option.bind_some]
  have ho : W.ownOf cd (some od) name = some (some v) := by unfold W.ownOf; rw [if_pos hd]; exact hl
  simp [hg, ht, ho]
/-- an object's own attribute, where its class has a plain def of that name -/
theorem get_own2 {prog : Program} {w : World} {A : Around} {E : Value → Shared → Prop} {s : Shared} {K : Frag} {x C L : Addr} {h₀ : Heap} {m : Str → Option Value} {ox : Obj} {es : List DictEntry} {n : Nat} {name : Str} {v : Value} {expr : Bool} {Q : Value → Shared → Prop} {a g : Value} (F : Fr h₀ L s.heap m) (X₀ : K.In h₀) (I : InstAt s.heap x ox C (some (dictOf es n))) (hg : plainGet K C name = true) (hh : hasDictIn K C = true)
    (ha : findIn K (.ref C) name = some (some a)) (hn : specialIn K a "__get__" = some (some g)) (ht : takesIn K a = some false) (hl : getL name es = some (some v)) (hv : handedIn v = true) (h : Q v { s with toks := s.toks + 1 }) :
    wpAny (model prog w) A (getAttr (.ref x) name expr) Q E s :=
  get_value (X₀.keeps F.keep) I (plainGet_of hg).1 (findObj_own2 hh ha hn ht hl) hv h
local macro_rules | `(tactic| walk_at "getAttr ref") => `(tactic| (k_here; (with_reducible show wpAny _ _ (getAttr (Value.ref _) (PySem.Str.ofString "allowance") _) _ _ _); k_dflt (refine' get_own2 (by k_asm) (by k_asm) (by k_inst) (by k_is) (by k_is) (by k_is) (by k_is) (by k_is) (by k_get) (by k_handed) ?_; k_whole)))
local macro_rules | `(tactic| walk_at "call ref") => `(tactic| (k_extra "A4 1"; intro h' tk' F' N'; (try k_sweep)))
set_option maxRecDepth 100000 in
set_option maxHeartbeats 8000000 in
theorem allow_spec : ∀ (w : World) (mean : ExcName → Option Value) (mg mb : Str → Option Value) (gd : Option (List Code)) (fr : Option (List Env)) (dp un : Nat) (s : Shared) (Q E : Value → Shared → Prop)
    (X : (Mine.hd.heap_39 w.params).In s.heap) (T : Top Mine.hd.view_39 (looseW Mine.hd.view_39 []) mean mg mb s.heap) (hd : dp + 40 < recursionLimit) (hu : un + 400 < cLine)
    (x d lu lr : Addr) (t1 t2 t3 t4 t9 : Tok) (b : Bool) (ls : List Value) (rs : List (Bool × List Bool)) (e1 : s.heap.get? x = some (instObj 52 d)) (e2 : s.heap.get? d = some (dictOf (entD w t1 t2 t3 t4 lu lr) 4)) (e3 : s.heap.IsList lr ls.toArray) (hrl : RLs w s.heap ls rs)
    (ret : ∀ s', Keeps s s' → Q (.bool (alRun b rs).2) s'),
    wpAny (model PySem.Challenge.rw_rl0022_01.prog w) (arnd dp un gd fr) (call (.ref 49) [.ref x, .str (pstr b) t9]) Q E s := by
  k_with_none
  k_with "compareOp Gt bool int" => (with_reducible refine gt_bool_int ?_)
  k_with "A4 1" => ((with_reducible show wpAny _ _ (call (Value.ref 42) _) _ _ _); k_dflt (refine' applies_L (by k_asm) (by k_asm) (by k_asm) (by k_asm) (by k_room) (by kdy_size) (by assumption) (by assumption) (by assumption) (by assumption) (by assumption) ?_))
  w_top off
  k_fill
  intro w mean mg mb gd fr dp un s Q E X T hd hu x d lu lr t1 t2 t3 t4 t9 b ls rs e1 e2 e3 hrl ret
  k_dflt (refine wpAny_call ?_; (refine' enter_plain (binds := [(Str.ofString "self", .ref x), (Str.ofString "filename", .str (pstr b) t9)]) ?k1 ?k5 ?k6 ?k7 ?k8 ?k9 ?kB ?_ ?c2 ?c3 ?c4 ?c5; (case k1 => k_asm); (case k5 => k_asm); (case k6 => k_is); (case k7 => k_is); (case k8 => k_room); (case k9 => exact BindsTo.of_eq rfl); (case c5 => decide); (case kB => exact locs rfl); (case c2 => exact rfl); (case c3 => exact rfl); (case c4 => exact rfl); k_whole; intro h₀ L h₁ eH eL F N X T; (try dsimp only)))
  rw [← eH] at e1 e2 e3 hrl
  (try ((with_reducible show wpAny _ _ _ _ _ _); k_fold))
  k_steps
  with_reducible rename Fr _ _ _ _ => F9
  with_reducible rename News _ _ _ _ => N9
  refine iter_base (fun i m₁ news₁ => news₁ = [] ∧ ∃ t, ∀ y, [Str.ofString "line", Str.ofString "m"].contains y = false → m₁ y = (if y = Str.ofString "allowance" then some (.bool (alRun b (rs.take i)).2) else if y = Str.ofString "best_match" then some (bestV t (alRun b (rs.take i)).1) else List.lookup y [(Str.ofString "self", Value.ref x), (Str.ofString "filename", Value.str (pstr b) t9)].reverse)) rfl e3 F9 N9 ⟨rfl, _, fun y hy => rfl⟩ ?_ ?_
  · rintro I o i v m₁ news₁ h tk hv ⟨rfl, t, hm⟩ hlt hne F1 N1
    rw [js_fun hm] at F1
    obtain ⟨y, d', lu', lr', s1, s2, s3, s4, s5, al, vs, us, hrs, rfl, g1, g2, g3, ha⟩ := hrl.get hv
    have hst := alRun_take b rs i _ hrs
    clear hm F9 N9 hrs hv hlt hne
    generalize alRun b (rs.take i) = c at F1 hst
    obtain ⟨c1, c2⟩ := c
    cases c1 <;> cases c2 <;> (cases hc : us.contains b)
    all_goals (simp only [alStep, hc, Bool.false_eq_true, if_false, if_true] at hst)
    all_goals (simp only [bestV, Bool.false_eq_true, if_false, if_true] at F1)
    all_goals ((try ((with_reducible show wpAny _ _ _ _ _ _); k_fold)); k_steps)
    all_goals (
      refine TurnPost.go [] (by assumption) (by assumption) (by k_mem) (fun p hp => nomatch hp) (fun p hp => nomatch hp) ⟨rfl, t, fun y hy => ?_⟩
      rw [hst]
      simp only [if_neg (ne_forgot hy (a := Str.ofString "line") (by decide)), if_neg (ne_forgot hy (a := Str.ofString "m") (by decide)), hy, Bool.false_eq_true, if_false]
      first
        | rfl
        | (by_cases q1 : y = Str.ofString "allowance"
           · simp only [if_pos q1]
           · simp only [if_neg q1]
             by_cases q2 : y = Str.ofString "best_match"
             · simp only [if_pos q2]; rfl
             · simp only [if_neg q2]))
  · rintro m₁ news₁ h tk ⟨rfl, t, hm⟩ F1 N1
    have e : m₁ = fun y => if [Str.ofString "line", Str.ofString "m"].contains y then m₁ y else (if y = Str.ofString "allowance" then some (.bool (alRun b (rs.take ls.length)).2) else if y = Str.ofString "best_match" then some (bestV t (alRun b (rs.take ls.length)).1) else List.lookup y [(Str.ofString "self", Value.ref x), (Str.ofString "filename", Value.str (pstr b) t9)].reverse) := by
      funext y
      cases q : [Str.ofString "line", Str.ofString "m"].contains y with
      | true => simp
      | false => simp only [Bool.false_eq_true, if_false]; exact hm y q
    rw [e, hrl.length, List.take_length] at F1
    clear hm F9 N9 e
    (try ((with_reducible show wpAny _ _ _ _ _ _); k_fold))
    k_steps
    refine (?_ : Q (.bool (alRun b rs).2) _)
    exact ret _ (keeps_of eH (by assumption))

theorem allow_L {w : World} {mean : ExcName → Option Value} {mg mb : Str → Option Value} {gd : Option (List Code)} {fr : Option (List Env)} {dp un : Nat} {s : Shared} {Q E : Value → Shared → Prop} {h₀ : Heap} {L : Addr} {m : Str → Option Value} {news : List (Addr × Obj)}
    {x d lu lr : Addr} {t1 t2 t3 t4 t9 : Tok} {b r : Bool} {ls : List Value} {rs : List (Bool × List Bool)} {nm : Str}
    (F : Fr h₀ L s.heap m) (N : News h₀ L s.heap news) (X : (Mine.hd.heap_39 w.params).In h₀) (T : Top Mine.hd.view_39 (looseW Mine.hd.view_39 []) mean mg mb h₀) (hd : dp + 40 < recursionLimit) (hu : un + 400 < cLine)
    (e1 : s.heap.get? x = some (instObj 52 d)) (e2 : s.heap.get? d = some (dictOf (entD w t1 t2 t3 t4 lu lr) 4)) (e3 : s.heap.IsList lr ls.toArray) (hrl : RLs w s.heap ls rs) (hr : (alRun b rs).2 = r) (hnm : nm = pstr b)
    (h : ∀ h' tk, Fr h₀ L h' m → News h₀ L h' news → Q (.bool r) { s with heap := h', toks := tk }) :
    wpAny (model PySem.Challenge.rw_rl0022_01.prog w) (arnd dp un gd fr) (call (.ref 49) [.ref x, .str nm t9]) Q E s := by
  subst hnm
  refine allow_spec w mean mg mb gd fr dp un s Q E (X.keeps F.keep) (T.keeps F.keep) hd hu x d lu lr t1 t2 t3 t4 t9 b ls rs e1 e2 e3 hrl ?_
  intro s' k
  obtain ⟨a, b, c⟩ := call_news (add := []) k F N (fun p hp => nomatch hp)
  obtain ⟨h', tk, rfl, _⟩ := k
  rw [hr]
  exact h h' tk a b
end Mine

/- part MA -/
namespace Mine
/-- a lies above all of these addresses -/
structure AddrLt (d : Nat) (as : List Nat) : Prop where
  lt : ∀ a ∈ as, a < d
theorem addrs_of {d : Addr} {news : List (Addr × Obj)} (h : ∀ p ∈ news, p.1 < d) : AddrLt d (news.map fun p => p.1) :=
  ⟨fun a ha => by obtain ⟨p, hp, rfl⟩ := List.mem_map.mp ha; exact h p hp⟩
theorem AddrLt.cons {d x : Nat} {as : List Nat} (h : AddrLt d as) (l : d < x) : AddrLt x (d :: as) :=
  ⟨fun a ha => by
    rcases List.mem_cons.mp ha with rfl | ha
    · exact l
    · exact Nat.lt_trans (h.lt a ha) l⟩
theorem AddrLt.ne {d a : Nat} {as : List Nat} (h : AddrLt d as) (m : a ∈ as) : d ≠ a := Nat.ne_of_gt (h.lt a m)
theorem AddrLt.ne' {d a : Nat} {as : List Nat} (h : AddrLt d as) (m : a ∈ as) : a ≠ d := Nat.ne_of_lt (h.lt a m)
theorem led4_ne {z d x a b : Nat} {o1 o2 o3 o4 : Obj} {fz : List (Addr × Obj)} (h : z < d) (h2 : d < x) (h3 : x < a) (h4 : a < b) (hz : ∀ p ∈ fz, p.1 ≠ z) : ∀ p ∈ (b, o1) :: (a, o2) :: (x, o3) :: (d, o4) :: fz, p.1 ≠ z := by
  have hx := Nat.lt_trans h h2
  have ha := Nat.lt_trans hx h3
  exact List.forall_mem_cons.mpr ⟨Nat.ne_of_gt (Nat.lt_trans ha h4), List.forall_mem_cons.mpr ⟨Nat.ne_of_gt ha, List.forall_mem_cons.mpr ⟨Nat.ne_of_gt hx, List.forall_mem_cons.mpr ⟨Nat.ne_of_gt h, hz⟩⟩⟩⟩
theorem fo_ne {y a : Str} {x r v : Option Value} (h : ¬ y = a) (hr : r = v) : (if y = a then x else r) = v := (if_neg h).trans hr
theorem fo_in {y : Str} {b : List Str} {x r v : Option Value} (h : b.contains y = false) (hr : r = v) : (if b.contains y = true then x else r) = v :=
  (if_neg (by rw [h]; exact Bool.false_ne_true)).trans hr
end Mine

/- part A5 -/
namespace Mine
theorem p_fig : Str.ofString "fig" = pstr false := rfl
theorem p_owl : Str.ofString "owl" = pstr true := rfl
local macro_rules | `(tactic| k_ne) => `(tactic| k_extra "ne")
local macro_rules | `(tactic| k_lt $h:ident) => `(tactic| (replace $h := addrs_of $h; dsimp only [List.map] at $h:ident))
local macro_rules | `(tactic| walk_at "call ref") => `(tactic| (k_extra "A5 1"; intro x' d' a' b' t1' t2' t3' t4' h' tk' F' N' l1 l0 l2 l3 l4; k_lt l1; (replace l2 := AddrLt.cons l1 l2); (replace l3 := AddrLt.cons l2 l3); (replace l4 := AddrLt.cons l3 l4); (try k_sweep)))
local macro_rules | `(tactic| walk_at "call ref") => `(tactic| (k_extra "A5 2"; intro x' d' a' b' t1' t2' t3' t4' ys' k' n' h' tk' F' N' l1 l0 l2 l3 l4 ha'; k_lt l1; (replace l2 := AddrLt.cons l1 l2); (replace l3 := AddrLt.cons l2 l3); (replace l4 := AddrLt.cons l3 l4); (try k_sweep)))
local macro_rules | `(tactic| walk_at "call ref") => `(tactic| ((with_reducible show wpAny _ _ (call (Value.ref 49) _) _ _ _); k_dflt (refine' allow_L ?k1 ?k2 ?k3 ?k4 ?k5 ?k6 ?e1 ?e2 ?e3 ?e4 ?e5 ?e6 ?_; (case e6 => first | exact p_fig | exact p_owl); (case k1 => k_asm); (case k2 => k_asm); (case k3 => k_asm); (case k4 => k_asm); (case k5 => k_room); (case k6 => kdy_size); (case e1 => k_extra "en"); (case e2 => k_extra "en"); (case e3 => k_extra "il"); (case e4 => k_extra "rl"); (case e5 => assumption)); intro h' tk' F' N'; (try k_sweep)))
def maj (a b c : Bool) : Bool := (a && b) || (b && c) || (c && a)
abbrev jrs (a b c : Bool) : List (Bool × List Bool) := [(false, [false, true]), (true, [a].filter fun x => [b].contains x), (true, [b].filter fun x => [c].contains x), (true, [c].filter fun x => [a].contains x)]
theorem jrs_f (a b c : Bool) : (alRun false (jrs a b c)).2 = !maj a b c := by cases a <;> cases b <;> cases c <;> decide
theorem jrs_t (a b c : Bool) : (alRun true (jrs a b c)).2 = maj a b c := by cases a <;> cases b <;> cases c <;> decide
set_option maxRecDepth 100000 in
set_option maxHeartbeats 8000000 in
theorem judge_spec : ∀ (w : World) (mean : ExcName → Option Value) (mg mb : Str → Option Value) (gd : Option (List Code)) (fr : Option (List Env)) (dp un : Nat) (s : Shared) (Q E : Value → Shared → Prop)
    (X : (Mine.hd.heap_39 w.params).In s.heap) (T : Top Mine.hd.view_39 (looseW Mine.hd.view_39 []) mean mg mb s.heap) (hd : dp + 60 < recursionLimit) (hu : un + 600 < cLine)
    (x1 d1 u1 r1 : Addr) (p1 q1 y1 z1 : Tok) (vs1 rs1 : List Value) (w1 : Bool)
    (e1 : s.heap.get? x1 = some (instObj 52 d1)) (f1 : s.heap.get? d1 = some (dictOf (entD w p1 q1 y1 z1 u1 r1) 4)) (g1 : s.heap.IsList u1 vs1.toArray) (j1 : s.heap.IsList r1 rs1.toArray) (a1 : Ag vs1 [w1]) (c1 : rs1.length < 100)
    (x2 d2 u2 r2 : Addr) (p2 q2 y2 z2 : Tok) (vs2 rs2 : List Value) (w2 : Bool)
    (e2 : s.heap.get? x2 = some (instObj 52 d2)) (f2 : s.heap.get? d2 = some (dictOf (entD w p2 q2 y2 z2 u2 r2) 4)) (g2 : s.heap.IsList u2 vs2.toArray) (j2 : s.heap.IsList r2 rs2.toArray) (a2 : Ag vs2 [w2]) (c2 : rs2.length < 100)
    (x3 d3 u3 r3 : Addr) (p3 q3 y3 z3 : Tok) (vs3 rs3 : List Value) (w3 : Bool)
    (e3 : s.heap.get? x3 = some (instObj 52 d3)) (f3 : s.heap.get? d3 = some (dictOf (entD w p3 q3 y3 z3 u3 r3) 4)) (g3 : s.heap.IsList u3 vs3.toArray) (j3 : s.heap.IsList r3 rs3.toArray) (a3 : Ag vs3 [w3]) (c3 : rs3.length < 100)
    
    (ret : ∀ x d lu lr t1 t2 t3 t4 vs k rl n s', Keeps s s' → s.heap.objs.size ≤ d → d < x → x < lu → lu < lr → s'.heap.get? x = some (instObj 52 d) → s'.heap.get? d = some (dictOf (entD w t1 t2 t3 t4 lu lr) 4) → s'.heap.get? lu = some (W.listOf (List.toArray vs) k) → s'.heap.get? lr = some (W.listOf (List.toArray rl) n) → Ag vs [maj w1 w2 w3] → rl.length < 100 → Q (.ref x) s'),
    wpAny (model PySem.Challenge.rw_rl0022_01.prog w) (arnd dp un gd fr) (call (.ref 82) [.ref x1, .ref x2, .ref x3]) Q E s := by
  k_with_none
  k_with "en" => (first | exact Fr.keep (by k_asm) _ _ (by assumption) | exact News.get (by k_asm) (by k_mem))
  k_with "il" => (first | exact Heap.IsList.at (by assumption) (fun o e => Fr.keep (by k_asm) _ o e) | exact ⟨_, News.get (by k_asm) (by k_mem), rfl, _, rfl⟩)
  k_with "wd" => (first | assumption | exact Nat.le_of_ble_eq_true rfl | exact Ag.nil)
  k_with "rl" => (first | exact RLs.nil | exact RLs.cons (by k_extra "en") (by k_extra "en") (by k_extra "il") (by first | assumption | exact Ag.cons false _ (Ag.cons true _ Ag.nil)) (by k_extra "rl"))
  k_with "ne" => ((try dsimp only); first | (refine' AddrLt.ne (by assumption) (by k_mem)) | (refine' AddrLt.ne' (by assumption) (by k_mem)) | ((rename (_ ≠ _ ∧ _) => hne); first | (simp only [hne, ne_eq, not_false_eq_true]; done) | (refine Ne.symm ?_; simp only [hne, ne_eq, not_false_eq_true]; done)) | fail "no order")
  k_with "A5 1" => ((with_reducible show wpAny _ _ (call (Value.ref 52) _) _ _ _); k_dflt (refine' entry_L (by k_asm) (by k_asm) (by k_asm) (by k_asm) (by k_room) (by kdy_size) ?_))
  k_with "A5 2" => ((with_reducible show wpAny _ _ (call (Value.ref 63) _) _ _ _); k_dflt (refine' merge_L (by k_asm) (by k_asm) (by k_asm) (by k_asm) (by k_room) (by kdy_size) (by k_extra "en") (by k_extra "en") (by k_extra "il") (by k_extra "il") (by k_extra "en") (by k_extra "en") (by k_extra "il") (by k_extra "il") (by k_extra "wd") (by k_extra "wd") (by k_extra "wd") (by k_extra "wd") (by k_extra "wd") (by k_extra "wd") ?_))
  k_with "CompEnd" => (k_dflt (refine LCg.CompEnd.intro (by assumption) (by assumption) _ (fun p hp => hp) (by simp only [LCg.Off3, and_true]; assumption) (by lcg_src) ?_))
  w_top off
  k_fill
  intro w mean mg mb gd fr dp un s Q E X T hd hu x1 d1 u1 r1 p1 q1 y1 z1 vs1 rs1 w1 e1 f1 g1 j1 a1 c1 x2 d2 u2 r2 p2 q2 y2 z2 vs2 rs2 w2 e2 f2 g2 j2 a2 c2 x3 d3 u3 r3 p3 q3 y3 z3 vs3 rs3 w3 e3 f3 g3 j3 a3 c3  ret
  k_dflt (refine wpAny_call ?_; (refine' enter_cells (binds := [(Str.ofString "one", .ref x1), (Str.ofString "two", .ref x2), (Str.ofString "three", .ref x3)]) ?k1 ?k5 ?k6 ?k7 ?k8 ?k9 ?kB ?kD ?_ ?c2 ?c3 ?c4; (case k1 => k_asm); (case k5 => k_asm); (case k6 => k_is); (case k7 => k_is); (case k8 => k_room); (case k9 => exact BindsTo.of_eq rfl); (case kB => exact rfl); (case kD => decide +kernel); (case c2 => exact rfl); (case c3 => exact rfl); (case c4 => exact rfl); k_whole; intro h₀ L h₁ tk cells eH eL F N Y X T; k_cells Y; (try dsimp only)))
  rw [← eH] at e1 f1 g1 j1 e2 f2 g2 j2 e3 f3 g3 j3
  (try ((with_reducible show wpAny _ _ _ _ _ _); k_fold))
  k_steps
  rename (Ag _ (List.filter _ [])) => hJ
  cases hJ
  have hF := jrs_f w1 w2 w3
  have hT := jrs_t w1 w2 w3
  generalize hmj : maj w1 w2 w3 = mj at hF hT
  cases mj
  all_goals (simp only [Bool.not_false, Bool.not_true] at hF)
  · (try ((with_reducible show wpAny _ _ _ _ _ _); k_fold))
    k_steps
    with_reducible rename Fr _ _ _ _ => F9
    with_reducible rename News _ _ _ _ => N9
    refine (?_ : Q (.ref _) _)
    refine ret _ _ _ _ _ _ _ _ _ _ _ _ _ (keeps_of eH F9) ?_ ?_ ?_ ?_ (N9.get (by k_mem)) (N9.get (by k_mem)) (N9.get (by k_mem)) (N9.get (by k_mem)) (by rw [hmj]; exact Ag.cons false _ Ag.nil) (Nat.le_of_ble_eq_true rfl)
    · exact Nat.le_of_lt (Nat.lt_of_succ_lt (eL ▸ AddrLt.lt (by assumption) _ (by k_mem)))
    all_goals exact AddrLt.lt (by assumption) _ (.head _)
  · (try ((with_reducible show wpAny _ _ _ _ _ _); k_fold))
    k_steps
    with_reducible rename Fr _ _ _ _ => F9
    with_reducible rename News _ _ _ _ => N9
    refine (?_ : Q (.ref _) _)
    refine ret _ _ _ _ _ _ _ _ _ _ _ _ _ (keeps_of eH F9) ?_ ?_ ?_ ?_ (N9.get (by k_mem)) (N9.get (by k_mem)) (N9.get (by k_mem)) (N9.get (by k_mem)) (by rw [hmj]; exact Ag.cons true _ Ag.nil) (Nat.le_of_ble_eq_true rfl)
    · exact Nat.le_of_lt (Nat.lt_of_succ_lt (eL ▸ AddrLt.lt (by assumption) _ (by k_mem)))
    all_goals exact AddrLt.lt (by assumption) _ (.head _)
end Mine

/- part MC -/
namespace Mine
set_option maxRecDepth 100000

/-- the cells of a board: keys, records, parties; P says what stands where -/
inductive Cells (w : World) (P : Addr → Obj → Prop) : List (Int × Value) → List (Int × Bool) → Prop
  | nil : Cells w P [] []
  | cons {k : Int} {x d lu lr : Addr} {t1 t2 t3 t4 : Tok} {vs : List Value} {kk : Nat} {rl : List Value} {n : Nat} {b : Bool} {kvs : List (Int × Value)} {cs : List (Int × Bool)} :
    P x (instObj 52 d) → P d (dictOf (entD w t1 t2 t3 t4 lu lr) 4) → P lu (W.listOf (List.toArray vs) kk) → P lr (W.listOf (List.toArray rl) n) → Ag vs [b] → rl.length < 100 → Cells w P kvs cs → Cells w P ((k, .ref x) :: kvs) ((k, b) :: cs)

section
variable {w : World} {P P' : Addr → Obj → Prop} {kvs : List (Int × Value)} {cs : List (Int × Bool)}
theorem Cells.mono (hP : ∀ a o, P a o → P' a o) (h : Cells w P kvs cs) : Cells w P' kvs cs := by
  induction h with
  | nil => exact .nil
  | cons a b c d e f _ ih => exact .cons (hP _ _ a) (hP _ _ b) (hP _ _ c) (hP _ _ d) e f ih
theorem Cells.keys (h : Cells w P kvs cs) : kvs.map (·.1) = cs.map (·.1) := by
  induction h with
  | nil => rfl
  | cons _ _ _ _ _ _ _ ih => simp [ih]
theorem Cells.length (h : Cells w P kvs cs) : kvs.length = cs.length := by
  have := congrArg List.length h.keys
  simpa using this
theorem Cells.snoc {k : Int} {x d lu lr : Addr} {t1 t2 t3 t4 : Tok} {vs : List Value} {kk : Nat} {rl : List Value} {n : Nat} {b : Bool} (h : Cells w P kvs cs)
    (h1 : P x (instObj 52 d)) (h2 : P d (dictOf (entD w t1 t2 t3 t4 lu lr) 4)) (h3 : P lu (W.listOf (List.toArray vs) kk)) (h4 : P lr (W.listOf (List.toArray rl) n)) (h5 : Ag vs [b]) (h6 : rl.length < 100) :
    Cells w P (kvs ++ [(k, .ref x)]) (cs ++ [(k, b)]) := by
  induction h with
  | nil => exact .cons h1 h2 h3 h4 h5 h6 .nil
  | cons a b c d e f _ ih => exact .cons a b c d e f ih
theorem Cells.get (h : Cells w P kvs cs) {k : Int} {b : Bool} (hk : cs.lookup k = some b) :
    ∃ x d lu lr t1 t2 t3 t4 vs kk rl n, valueAt kvs k = some (.ref x) ∧ P x (instObj 52 d) ∧ P d (dictOf (entD w t1 t2 t3 t4 lu lr) 4) ∧ P lu (W.listOf (List.toArray vs) kk) ∧ P lr (W.listOf (List.toArray rl) n) ∧ Ag vs [b] ∧ rl.length < 100 := by
  induction h with
  | nil => cases hk
  | @cons k' x d lu lr t1 t2 t3 t4 vs kk rl n b' kvs cs a1 a2 a3 a4 a5 a6 _ ih =>
    rw [List.lookup_cons] at hk
    by_cases e : k = k'
    · subst e
      simp only [beq_self_eq_true, Option.some.injEq] at hk
      subst hk
      exact ⟨x, d, lu, lr, t1, t2, t3, t4, vs, kk, rl, n, by simp [valueAt], a1, a2, a3, a4, a5, a6⟩
    · have e' : (k == k') = false := by simpa using e
      rw [e'] at hk
      obtain ⟨x, d, lu, lr, t1, t2, t3, t4, vs, kk, rl, n, q, r⟩ := ih hk
      refine ⟨x, d, lu, lr, t1, t2, t3, t4, vs, kk, rl, n, ?_, r⟩
      have e2 : ¬ k' = k := fun z => e z.symm
      rw [← q]
      simp [valueAt, e2]
end
theorem stored_new {kvs : List (Int × Value)} {k : Int} {v : Value} (h : k ∉ kvs.map (·.1)) : stored kvs k v = kvs ++ [(k, v)] := by
  unfold stored
  rw [if_neg]
  intro q
  obtain ⟨p, hp, e⟩ := List.any_eq_true.mp q
  exact h (List.mem_map.mpr ⟨p, hp, by simpa using e⟩)

/-- the keys of a triangle with n cells on a side, red and then green rising -/
def rowK (n r : Nat) : List Int := (List.range (n - r)).map fun (g : Nat) => 8 * (r : Int) + (g : Int)
def keysT (n : Nat) : List Int := (List.range n).flatMap (rowK n)
def colAt (cs : List (Int × Bool)) (k : Int) : Bool := (cs.lookup k).getD false
def fallK (cs : List (Int × Bool)) (k : Int) : Int × Bool := (k, maj (colAt cs (k + 8)) (colAt cs (k + 1)) (colAt cs k))
def fallM (n : Nat) (cs : List (Int × Bool)) : List (Int × Bool) := (keysT n).map (fallK cs)

theorem mem_rowK {n r : Nat} {k : Int} : k ∈ rowK n r ↔ ∃ g, g < n - r ∧ k = 8 * (r : Int) + (g : Int) := by
  unfold rowK
  simp only [List.mem_map, List.mem_range]
  constructor
  · rintro ⟨g, h, rfl⟩; exact ⟨g, h, rfl⟩
  · rintro ⟨g, h, rfl⟩; exact ⟨g, h, rfl⟩
theorem mem_keysT {n r g : Nat} (h1 : r < n) (h2 : g < n - r) : 8 * (r : Int) + (g : Int) ∈ keysT n :=
  List.mem_flatMap.mpr ⟨r, List.mem_range.mpr h1, mem_rowK.mpr ⟨g, h2, rfl⟩⟩
def doneK (n i j : Nat) : List Int := (List.range i).flatMap (rowK n) ++ (rowK n i).take j
theorem doneK_zero (n i : Nat) : doneK n i 0 = (List.range i).flatMap (rowK n) := by simp [doneK]
theorem doneK_full (n i : Nat) : doneK n i (n - i) = doneK n (i + 1) 0 := by
  have : (rowK n i).length = n - i := by simp [rowK]
  rw [doneK_zero, List.range_succ, List.flatMap_append]
  unfold doneK
  rw [List.take_of_length_le (by omega)]
  simp
theorem doneK_succ {n i j : Nat} (h : j < n - i) : doneK n i (j + 1) = doneK n i j ++ [8 * (i : Int) + (j : Int)] := by
  unfold doneK
  rw [List.take_add_one, List.append_assoc]
  congr 2
  simp [rowK, h]
theorem doneK_new {n i j : Nat} (hn : n ≤ 8) (h : j < n - i) : 8 * (i : Int) + (j : Int) ∉ doneK n i j := by
  intro hm
  rcases List.mem_append.mp hm with hm | hm
  · obtain ⟨r, hr, hm⟩ := List.mem_flatMap.mp hm
    obtain ⟨g, hg, e⟩ := mem_rowK.mp hm
    have := List.mem_range.mp hr
    omega
  · rw [List.mem_take_iff_getElem] at hm
    obtain ⟨k, hk, e⟩ := hm
    simp [rowK] at e hk
    omega
theorem doneK_length (n i j : Nat) (hn : n ≤ 5) (hi : i ≤ n) : (doneK n i j).length < 60 := by
  have key : ∀ n < 6, ∀ i < 6, ((List.range i).flatMap (rowK n)).length + (rowK n i).length < 60 := by decide
  have := key n (by omega) i (by omega)
  unfold doneK
  rw [List.length_append, List.length_take]
  have := Nat.min_le_right j (rowK n i).length
  omega
theorem lookup_of_key {cs : List (Int × Bool)} {k : Int} (h : k ∈ cs.map (·.1)) : cs.lookup k = some (colAt cs k) := by
  unfold colAt
  induction cs with
  | nil => cases h
  | cons p r ih =>
    rw [List.lookup_cons]
    by_cases e : k = p.1
    · subst e; simp
    · have e' : (k == p.1) = false := by simpa using e
      rw [e']
      simp only
      rw [List.map_cons] at h
      exact ih ((List.mem_cons.mp h).resolve_left e)
theorem judge_L {w : World} {mean : ExcName → Option Value} {mg mb : Str → Option Value} {gd : Option (List Code)} {fr : Option (List Env)} {dp un : Nat} {s : Shared} {Q E : Value → Shared → Prop} {h₀ : Heap} {L : Addr} {m : Str → Option Value} {news : List (Addr × Obj)}
    {x1 d1 u1 r1 x2 d2 u2 r2 x3 d3 u3 r3 : Addr} {p1 q1 y1 z1 p2 q2 y2 z2 p3 q3 y3 z3 : Tok} {vs1 vs2 vs3 rs1 rs2 rs3 : List Value} {w1 w2 w3 : Bool} {k1 k2 k3 n1 n2 n3 : Nat}
    (F : Fr h₀ L s.heap m) (N : News h₀ L s.heap news) (X : (Mine.hd.heap_39 w.params).In h₀) (T : Top Mine.hd.view_39 (looseW Mine.hd.view_39 []) mean mg mb h₀) (hd : dp + 60 < recursionLimit) (hu : un + 600 < cLine)
    (e1 : h₀.get? x1 = some (instObj 52 d1)) (f1 : h₀.get? d1 = some (dictOf (entD w p1 q1 y1 z1 u1 r1) 4)) (g1 : h₀.get? u1 = some (W.listOf vs1.toArray k1)) (j1 : h₀.get? r1 = some (W.listOf rs1.toArray n1)) (a1 : Ag vs1 [w1]) (c1 : rs1.length < 100)
    (e2 : h₀.get? x2 = some (instObj 52 d2)) (f2 : h₀.get? d2 = some (dictOf (entD w p2 q2 y2 z2 u2 r2) 4)) (g2 : h₀.get? u2 = some (W.listOf vs2.toArray k2)) (j2 : h₀.get? r2 = some (W.listOf rs2.toArray n2)) (a2 : Ag vs2 [w2]) (c2 : rs2.length < 100)
    (e3 : h₀.get? x3 = some (instObj 52 d3)) (f3 : h₀.get? d3 = some (dictOf (entD w p3 q3 y3 z3 u3 r3) 4)) (g3 : h₀.get? u3 = some (W.listOf vs3.toArray k3)) (j3 : h₀.get? r3 = some (W.listOf rs3.toArray n3)) (a3 : Ag vs3 [w3]) (c3 : rs3.length < 100)
    (h : ∀ x d lu lr t1 t2 t3 t4 vs k rl n h' tk, Fr h₀ L h' m → News h₀ L h' ((lr, W.listOf (List.toArray rl) n) :: (lu, W.listOf (List.toArray vs) k) :: (x, instObj 52 d) :: (d, dictOf (entD w t1 t2 t3 t4 lu lr) 4) :: news) → (∀ p ∈ news, p.1 < d) → d < x → x < lu → lu < lr → Ag vs [maj w1 w2 w3] → rl.length < 100 → Q (.ref x) { s with heap := h', toks := tk }) :
    wpAny (model PySem.Challenge.rw_rl0022_01.prog w) (arnd dp un gd fr) (call (.ref 82) [.ref x1, .ref x2, .ref x3]) Q E s := by
  have il : ∀ {a : Addr} {vs : List Value} {k : Nat}, h₀.get? a = some (W.listOf vs.toArray k) → s.heap.IsList a vs.toArray := fun e => ⟨_, F.keep _ _ e, rfl, _, rfl⟩
  refine judge_spec w mean mg mb gd fr dp un s Q E (X.keeps F.keep) (T.keeps F.keep) hd hu x1 d1 u1 r1 p1 q1 y1 z1 vs1 rs1 w1 (F.keep _ _ e1) (F.keep _ _ f1) (il g1) (il j1) a1 c1 x2 d2 u2 r2 p2 q2 y2 z2 vs2 rs2 w2 (F.keep _ _ e2) (F.keep _ _ f2) (il g2) (il j2) a2 c2 x3 d3 u3 r3 p3 q3 y3 z3 vs3 rs3 w3 (F.keep _ _ e3) (F.keep _ _ f3) (il g3) (il j3) a3 c3 ?_
  rintro x d lu lr t1 t2 t3 t4 vs k rl n s' kk o1 o2 o3 o4 g1 g2 g3 g4 ha hrl
  obtain ⟨a, b, c⟩ := call_news (add := [(lr, W.listOf (List.toArray rl) n), (lu, W.listOf (List.toArray vs) k), (x, instObj 52 d), (d, dictOf (entD w t1 t2 t3 t4 lu lr) 4)]) kk F N (fun p hp => by
    simp only [List.mem_cons, List.not_mem_nil, or_false] at hp
    rcases hp with rfl | rfl | rfl | rfl
    · exact ⟨g4, by show s.heap.objs.size ≤ lr; omega⟩
    · exact ⟨g3, by show s.heap.objs.size ≤ lu; omega⟩
    · exact ⟨g1, by show s.heap.objs.size ≤ x; omega⟩
    · exact ⟨g2, o1⟩)
  obtain ⟨h', tk, rfl, _⟩ := kk
  exact h x d lu lr t1 t2 t3 t4 vs k rl n h' tk a b (fun p hp => c p hp (d, dictOf (entD w t1 t2 t3 t4 lu lr) 4) (by simp)) o2 o3 o4 ha hrl
end Mine

/- part M3 -/
namespace Mine
set_option maxRecDepth 100000
def fmax (x y : UInt64) : UInt64 := if (Float64.cmp x y == some .lt) = true then y else x
def fmin (x y : UInt64) : UInt64 := if (Float64.cmp y x == some .lt) = true then y else x
section
variable {prog : Program} {w : World} {A : Around} {E : Value → Shared → Prop} {s : Shared} {h₀ : Heap} {L : Addr} {m : Str → Option Value} {news : List (Addr × Obj)} {x y z : UInt64} {t u v : Tok} {Q : Value → Shared → Prop}
theorem max_L (hh : A.handled = none) (F : Fr h₀ L s.heap m) (N : News h₀ L s.heap news)
    (h : ∀ h' tk t', Fr h₀ L h' m → News h₀ L h' news → Q (.float (fmax (fmax x y) z) t') { s with heap := h', toks := tk }) :
    wpAny (model prog w) A (call (.builtin "max") [.float x t, .float y u, .float z v]) Q E s := by
  have hT : (s.heap.push { cls := .type "tuple", data := .seq #[.float x t, .float y u, .float z v] }).IsTuple s.heap.objs.size #[.float x t, .float y u, .float z v] := ⟨_, Heap.get?_push_size _ rfl, rfl, 0, rfl⟩
  refine call_max_three (wpAny_pyIter_tuple hT ?_)
  have hsz : (s.heap.push { cls := .type "tuple", data := .seq #[.float x t, .float y u, .float z v] }).objs.size = s.heap.objs.size + 1 := Heap.size_push ..
  refine ⟨_, [_, s.heap.objs.size], [_], _, _, _, _, rfl, Walks.tuple (A := A.in1) hh _ s.heap.objs.size (by rw [hsz]; exact Nat.ne_of_lt (Nat.lt_succ_self _)) #[.float x t, .float y u, .float z v],
    ⟨⟨_, Heap.get?_push_size _ rfl, rfl, rfl⟩, hT.push _⟩, fun c hc => ?_, by simp, PySem.Flt.cmpOf_gt #[.float x t, .float y u, .float z v] (by simp [PySem.Flt.NumV.float]), fun r h' tk hP hk => ?_⟩
  · show c < ((s.heap.push _).push _).objs.size
    rw [Heap.size_push, hsz]
    rcases List.mem_cons.mp hc with rfl | hc
    · rw [hsz]; exact Nat.lt_succ_self _
    · rcases List.mem_cons.mp hc with rfl | hc
      · exact Nat.lt_succ_of_lt (Nat.lt_succ_self _)
      · cases hc
  · have hold : ∀ c o, s.heap.get? c = some o → h'.get? c = some o := fun c o e => by
      refine hk c o (fun hm => ?_) (Heap.get?_push_of_some _ (Heap.get?_push_of_some _ e))
      rcases List.mem_cons.mp hm with e1 | hm
      · have := Heap.lt_size e; rw [e1, hsz] at this; exact Nat.lt_irrefl _ (Nat.lt_of_succ_lt this)
      · cases hm
    have hv : ∃ t', r = .float (fmax (fmax x y) z) t' := by
      cases c1 : (Float64.cmp x y == some .lt)
      · cases c2 : (Float64.cmp x z == some .lt)
        · exact ⟨t, by simpa [argBest, PySem.Flt.ltV, c1, c2, fmax] using hP.symm⟩
        · exact ⟨v, by simpa [argBest, PySem.Flt.ltV, c1, c2, fmax] using hP.symm⟩
      · cases c2 : (Float64.cmp y z == some .lt)
        · exact ⟨u, by simpa [argBest, PySem.Flt.ltV, c1, c2, fmax] using hP.symm⟩
        · exact ⟨v, by simpa [argBest, PySem.Flt.ltV, c1, c2, fmax] using hP.symm⟩
    obtain ⟨t', rfl⟩ := hv
    exact h h' tk t' (F.grownK hold) (N.grown hold)
theorem min_L (hh : A.handled = none) (F : Fr h₀ L s.heap m) (N : News h₀ L s.heap news)
    (h : ∀ h' tk t', Fr h₀ L h' m → News h₀ L h' news → Q (.float (fmin (fmin x y) z) t') { s with heap := h', toks := tk }) :
    wpAny (model prog w) A (call (.builtin "min") [.float x t, .float y u, .float z v]) Q E s := by
  have hT : (s.heap.push { cls := .type "tuple", data := .seq #[.float x t, .float y u, .float z v] }).IsTuple s.heap.objs.size #[.float x t, .float y u, .float z v] := ⟨_, Heap.get?_push_size _ rfl, rfl, 0, rfl⟩
  refine call_min_three (wpAny_pyIter_tuple hT ?_)
  have hsz : (s.heap.push { cls := .type "tuple", data := .seq #[.float x t, .float y u, .float z v] }).objs.size = s.heap.objs.size + 1 := Heap.size_push ..
  refine ⟨_, [_, s.heap.objs.size], [_], _, _, _, _, rfl, Walks.tuple (A := A.in1) hh _ s.heap.objs.size (by rw [hsz]; exact Nat.ne_of_lt (Nat.lt_succ_self _)) #[.float x t, .float y u, .float z v],
    ⟨⟨_, Heap.get?_push_size _ rfl, rfl, rfl⟩, hT.push _⟩, fun c hc => ?_, by simp, PySem.Flt.cmpOf_lt #[.float x t, .float y u, .float z v] (by simp [PySem.Flt.NumV.float]), fun r h' tk hP hk => ?_⟩
  · show c < ((s.heap.push _).push _).objs.size
    rw [Heap.size_push, hsz]
    rcases List.mem_cons.mp hc with rfl | hc
    · rw [hsz]; exact Nat.lt_succ_self _
    · rcases List.mem_cons.mp hc with rfl | hc
      · exact Nat.lt_succ_of_lt (Nat.lt_succ_self _)
      · cases hc
  · have hold : ∀ c o, s.heap.get? c = some o → h'.get? c = some o := fun c o e => by
      refine hk c o (fun hm => ?_) (Heap.get?_push_of_some _ (Heap.get?_push_of_some _ e))
      rcases List.mem_cons.mp hm with e1 | hm
      · have := Heap.lt_size e; rw [e1, hsz] at this; exact Nat.lt_irrefl _ (Nat.lt_of_succ_lt this)
      · cases hm
    have hv : ∃ t', r = .float (fmin (fmin x y) z) t' := by
      cases c1 : (Float64.cmp y x == some .lt)
      · cases c2 : (Float64.cmp z x == some .lt)
        · exact ⟨t, by simpa [argBest, PySem.Flt.ltV, c1, c2, fmin] using hP.symm⟩
        · exact ⟨v, by simpa [argBest, PySem.Flt.ltV, c1, c2, fmin] using hP.symm⟩
      · cases c2 : (Float64.cmp z y == some .lt)
        · exact ⟨u, by simpa [argBest, PySem.Flt.ltV, c1, c2, fmin] using hP.symm⟩
        · exact ⟨v, by simpa [argBest, PySem.Flt.ltV, c1, c2, fmin] using hP.symm⟩
    obtain ⟨t', rfl⟩ := hv
    exact h h' tk t' (F.grownK hold) (N.grown hold)
end
end Mine

/- part A8 -/
namespace Mine
local macro_rules | `(tactic| walk_at "call builtin:max") => `(tactic| (k_extra "A8 1"; intro h' tk' t' F' N'; (try k_sweep)))
local macro_rules | `(tactic| walk_at "call builtin:min") => `(tactic| (k_extra "A8 2"; intro h' tk' t' F' N'; (try k_sweep)))
abbrev tup3 (a b c : Value) : Obj := { cls := Value.type "tuple", data := Data.seq #[a, b, c] }
def hsvM (x y z : UInt64) : Option (UInt64 × UInt64 × UInt64) :=
  if (Float64.cmp (fmin (fmin x y) z) (fmax (fmax x y) z) == some Ordering.eq) = true then some (0, 0, fmax (fmax x y) z)
  else if Float64.isZero (fmax (fmax x y) z) = true then none
  else if Float64.isZero (Float64.sub (fmax (fmax x y) z) (fmin (fmin x y) z)) = true then none
  else some ((Float64.divmod (Float64.div
      (if (Float64.cmp x (fmax (fmax x y) z) == some Ordering.eq) = true then
        Float64.sub (Float64.div (Float64.sub (fmax (fmax x y) z) z) (Float64.sub (fmax (fmax x y) z) (fmin (fmin x y) z))) (Float64.div (Float64.sub (fmax (fmax x y) z) y) (Float64.sub (fmax (fmax x y) z) (fmin (fmin x y) z)))
      else if (Float64.cmp y (fmax (fmax x y) z) == some Ordering.eq) = true then
        Float64.sub (Float64.add 4611686018427387904 (Float64.div (Float64.sub (fmax (fmax x y) z) x) (Float64.sub (fmax (fmax x y) z) (fmin (fmin x y) z)))) (Float64.div (Float64.sub (fmax (fmax x y) z) z) (Float64.sub (fmax (fmax x y) z) (fmin (fmin x y) z)))
      else
        Float64.sub (Float64.add 4616189618054758400 (Float64.div (Float64.sub (fmax (fmax x y) z) y) (Float64.sub (fmax (fmax x y) z) (fmin (fmin x y) z)))) (Float64.div (Float64.sub (fmax (fmax x y) z) x) (Float64.sub (fmax (fmax x y) z) (fmin (fmin x y) z))))
      4618441417868443648) 4607182418800017408).snd, Float64.div (Float64.sub (fmax (fmax x y) z) (fmin (fmin x y) z)) (fmax (fmax x y) z), fmax (fmax x y) z)
set_option maxRecDepth 100000 in
set_option maxHeartbeats 8000000 in
theorem rgb_spec : ∀ (w : World) (mean : ExcName → Option Value) (mg mb : Str → Option Value) (gd : Option (List Code)) (fr : Option (List Env)) (dp un : Nat) (s : Shared) (Q E : Value → Shared → Prop)
    (X : (Mine.hd.heap_39 w.params).In s.heap) (T : Top Mine.hd.view_39 (looseW Mine.hd.view_39 []) mean mg mb s.heap) (hd : dp + 20 < recursionLimit) (hu : un + 200 < cLine)
    (x y z hv sv vv : UInt64) (t1 t2 t3 : Tok) (hM : hsvM x y z = some (hv, sv, vv))
    (ret : ∀ r th ts tv s', Keeps s s' → s.heap.get? r = none → s'.heap.get? r = some (tup3 (.float hv th) (.float sv ts) (.float vv tv)) → Q (.ref r) s'),
    wpAny (model PySem.Challenge.rw_rl0022_01.prog w) (arnd dp un gd fr) (call (.ref 70) [.float x t1, .float y t2, .float z t3]) Q E s := by
  k_with_none
  k_with "A8 1" => (k_dflt (refine' max_L (by rfl) (by k_asm) (by k_asm) ?_))
  k_with "A8 2" => (k_dflt (refine' min_L (by rfl) (by k_asm) (by k_asm) ?_))
  w_top off
  k_fill
  intro w mean mg mb gd fr dp un s Q E X T hd hu x y z hv sv vv t1 t2 t3 hM ret
  k_dflt (refine wpAny_call ?_; (refine' enter_plain (binds := [(Str.ofString "r", .float x t1), (Str.ofString "g", .float y t2), (Str.ofString "b", .float z t3)]) ?k1 ?k5 ?k6 ?k7 ?k8 ?k9 ?kB ?_ ?c2 ?c3 ?c4 ?c5; (case k1 => k_asm); (case k5 => k_asm); (case k6 => k_is); (case k7 => k_is); (case k8 => k_room); (case k9 => exact BindsTo.of_eq rfl); (case c5 => decide); (case kB => exact locs rfl); (case c2 => exact rfl); (case c3 => exact rfl); (case c4 => exact rfl); k_whole; intro h₀ L h₁ eH eL F N X T; (try dsimp only)))
  (try ((with_reducible show wpAny _ _ _ _ _ _); k_fold))
  k_steps
  all_goals (rename ((Float64.cmp (fmin _ _) (fmax _ _) == some Ordering.eq) = _) => c1)
  all_goals (unfold hsvM at hM)
  all_goals (simp only [c1, Bool.false_eq_true, if_false, if_true] at hM)
  · with_reducible rename Fr _ _ _ _ => F9
    with_reducible rename News _ _ _ _ => N9
    cases hM
    exact ret _ _ _ _ _ (keeps_of eH F9) (eH ▸ (N9 _ (List.mem_cons_self ..)).2.2) (N9.get (List.mem_cons_self ..))
  · rename (Float64.isZero (fmax _ _) = true) => c2
    rw [if_pos c2] at hM
    cases hM
  · rename (Float64.isZero (Float64.sub _ _) = true) => c2
    rename (¬ Float64.isZero (fmax _ _) = true) => c0
    rw [if_neg c0, if_pos c2] at hM
    cases hM
  all_goals (
    rename (¬ Float64.isZero (fmax _ _) = true) => c0
    rename (¬ Float64.isZero (Float64.sub _ _) = true) => c2
    rename ((Float64.cmp x (fmax _ _) == some Ordering.eq) = _) => c3
    rw [if_neg c0, if_neg c2] at hM
    (try rename ((Float64.cmp y (fmax _ _) == some Ordering.eq) = _) => c4)
    (try rw [if_pos c3] at hM)
    (try rw [if_neg (by rw [c3]; exact Bool.false_ne_true)] at hM)
    (try rw [if_pos c4] at hM)
    (try rw [if_neg (by rw [c4]; exact Bool.false_ne_true)] at hM)
    with_reducible rename Fr _ _ _ _ => F9
    with_reducible rename News _ _ _ _ => N9
    cases hM
    exact ret _ _ _ _ _ (keeps_of eH F9) (eH ▸ (N9 _ (List.mem_cons_self ..)).2.2) (N9.get (List.mem_cons_self ..)))
theorem call_new {s s' : Shared} {h₀ : Heap} {L : Addr} {m : Str → Option Value} {news add : List (Addr × Obj)} (k : Keeps s s') (F : Fr h₀ L s.heap m) (N : News h₀ L s.heap news)
    (hadd : ∀ p ∈ add, s'.heap.get? p.1 = some p.2 ∧ s.heap.get? p.1 = none) :
    Fr h₀ L s'.heap m ∧ News h₀ L s'.heap (add ++ news) ∧ (∀ q ∈ news, ∀ p ∈ add, q.1 ≠ p.1) := by
  obtain ⟨h', tk, rfl, hk⟩ := k
  obtain ⟨oL, a1, a2, hL, a3⟩ := F.ns
  refine ⟨⟨⟨oL, a1, a2, hk _ _ hL, a3⟩, fun b o e => hk _ _ (F.keep b o e), F.above⟩, ?_, ?_⟩
  · intro p hp
    rcases List.mem_append.mp hp with hp | hp
    · have hq := hadd p hp
      refine ⟨hq.1, fun e => ?_, ?_⟩
      · have hn := hq.2
        rw [e, hL] at hn
        cases hn
      · cases hc : h₀.get? p.1 with
        | none => rfl
        | some o => have := F.keep _ _ hc; rw [hq.2] at this; cases this
    · exact ⟨hk _ _ (N p hp).1, (N p hp).2⟩
  · intro q hq p hp e
    have h1 := (N q hq).1
    rw [e, (hadd p hp).2] at h1
    cases h1
theorem rgb_L {w : World} {mean : ExcName → Option Value} {mg mb : Str → Option Value} {gd : Option (List Code)} {fr : Option (List Env)} {dp un : Nat} {s : Shared} {Q E : Value → Shared → Prop} {h₀ : Heap} {L : Addr} {m : Str → Option Value} {news : List (Addr × Obj)}
    {x y z hv sv vv : UInt64} {t1 t2 t3 : Tok}
    (F : Fr h₀ L s.heap m) (N : News h₀ L s.heap news) (X : (Mine.hd.heap_39 w.params).In h₀) (T : Top Mine.hd.view_39 (looseW Mine.hd.view_39 []) mean mg mb h₀) (hd : dp + 20 < recursionLimit) (hu : un + 200 < cLine)
    (hM : hsvM x y z = some (hv, sv, vv))
    (h : ∀ r th ts tv h' tk, Fr h₀ L h' m → News h₀ L h' ((r, tup3 (.float hv th) (.float sv ts) (.float vv tv)) :: news) → Q (.ref r) { s with heap := h', toks := tk }) :
    wpAny (model PySem.Challenge.rw_rl0022_01.prog w) (arnd dp un gd fr) (call (.ref 70) [.float x t1, .float y t2, .float z t3]) Q E s := by
  refine rgb_spec w mean mg mb gd fr dp un s Q E (X.keeps F.keep) (T.keeps F.keep) hd hu x y z hv sv vv t1 t2 t3 hM ?_
  intro r th ts tv s' k hn hg
  obtain ⟨a, b, c⟩ := call_new (add := [(r, tup3 (.float hv th) (.float sv ts) (.float vv tv))]) k F N (fun p hp => by
    rw [List.mem_singleton.mp hp]; exact ⟨hg, hn⟩)
  obtain ⟨h', tk, rfl, _⟩ := k
  exact h r th ts tv h' tk a b
end Mine

/- part A9 -/
namespace Mine
local macro_rules | `(tactic| walk_at "call ref") => `(tactic| (k_extra "A9 1"; intro r' t1' t2' t3' h' tk' F' N'; (try k_sweep)))
abbrev fq (x : Int) : UInt64 := Float64.ofFrac (decide (x < 0) != decide ((4 : Int) < 0)) x.natAbs (Int.natAbs 4)
/-- a list's items are these ints -/
inductive IntL : List Value → List Int → Prop
  | nil : IntL [] []
  | cons {a b : Int} {t : Tok} {vs : List Value} {es : List Int} : a = b → IntL vs es → IntL (.int a t :: vs) (b :: es)
def edgeP (p : Int) : List Int := ([0, 1, 2] : List Int).filter fun k => p.fdiv 24 == k || p == 24 * ((k + 1).fmod 3)
def edgeL (hv sv : UInt64) : Option (List Int) :=
  if (Float64.cmp sv 4607182418800017408 != some Ordering.eq) = true then some []
  else if Float64.isNaN (Float64.add (Float64.mul hv (Float64.ofInt 72)) 4602678819172646912) = true then none
  else if Float64.isInf (Float64.add (Float64.mul hv (Float64.ofInt 72)) 4602678819172646912) = true then none
  else some (edgeP (Flt.toInt Float64.truncOf (Float64.add (Float64.mul hv (Float64.ofInt 72)) 4602678819172646912)))
theorem edgeP_eq (p : Int) (b0 b1 b2 : Bool) (h0 : b0 = true ↔ (p.fdiv 24 = 0 ∨ p = 24)) (h1 : b1 = true ↔ (p.fdiv 24 = 1 ∨ p = 48)) (h2 : b2 = true ↔ (p.fdiv 24 = 2 ∨ p = 0)) :
    edgeP p = (if b0 then [0] else []) ++ ((if b1 then [1] else []) ++ (if b2 then [2] else [])) := by
  have e0 : (p.fdiv 24 == 0 || p == 24 * (((0 : Int) + 1).fmod 3)) = b0 := by
    rw [Bool.eq_iff_iff, h0]; simp [show ((0 : Int) + 1).fmod 3 = 1 from rfl]
  have e1 : (p.fdiv 24 == 1 || p == 24 * (((1 : Int) + 1).fmod 3)) = b1 := by
    rw [Bool.eq_iff_iff, h1]; simp [show ((1 : Int) + 1).fmod 3 = 2 from rfl]
  have e2 : (p.fdiv 24 == 2 || p == 24 * (((2 : Int) + 1).fmod 3)) = b2 := by
    rw [Bool.eq_iff_iff, h2]; simp [show ((2 : Int) + 1).fmod 3 = 0 from rfl]
  unfold edgeP
  simp only [List.filter_cons, List.filter_nil, e0, e1, e2]
  cases b0 <;> cases b1 <;> cases b2 <;> rfl
theorem edge_0 {p : Int} (h0 : ¬ (p.fdiv 24 = 0 ∨ p = 24)) (h1 : ¬ (p.fdiv 24 = 1 ∨ p = 48)) (h2 : ¬ (p.fdiv 24 = 2 ∨ p = 0)) : edgeP p = [] := edgeP_eq p false false false (by simpa using h0) (by simpa using h1) (by simpa using h2)
theorem edge_1 {p : Int} (h0 : p.fdiv 24 = 0 ∨ p = 24) (h1 : ¬ (p.fdiv 24 = 1 ∨ p = 48)) (h2 : ¬ (p.fdiv 24 = 2 ∨ p = 0)) : edgeP p = [0] := edgeP_eq p true false false (by simpa using h0) (by simpa using h1) (by simpa using h2)
theorem edge_2 {p : Int} (h0 : ¬ (p.fdiv 24 = 0 ∨ p = 24)) (h1 : p.fdiv 24 = 1 ∨ p = 48) (h2 : ¬ (p.fdiv 24 = 2 ∨ p = 0)) : edgeP p = [1] := edgeP_eq p false true false (by simpa using h0) (by simpa using h1) (by simpa using h2)
theorem edge_3 {p : Int} (h0 : p.fdiv 24 = 0 ∨ p = 24) (h1 : p.fdiv 24 = 1 ∨ p = 48) (h2 : ¬ (p.fdiv 24 = 2 ∨ p = 0)) : edgeP p = [0, 1] := edgeP_eq p true true false (by simpa using h0) (by simpa using h1) (by simpa using h2)
theorem edge_4 {p : Int} (h0 : ¬ (p.fdiv 24 = 0 ∨ p = 24)) (h1 : ¬ (p.fdiv 24 = 1 ∨ p = 48)) (h2 : p.fdiv 24 = 2 ∨ p = 0) : edgeP p = [2] := edgeP_eq p false false true (by simpa using h0) (by simpa using h1) (by simpa using h2)
theorem edge_5 {p : Int} (h0 : p.fdiv 24 = 0 ∨ p = 24) (h1 : ¬ (p.fdiv 24 = 1 ∨ p = 48)) (h2 : p.fdiv 24 = 2 ∨ p = 0) : edgeP p = [0, 2] := edgeP_eq p true false true (by simpa using h0) (by simpa using h1) (by simpa using h2)
theorem edge_6 {p : Int} (h0 : ¬ (p.fdiv 24 = 0 ∨ p = 24)) (h1 : p.fdiv 24 = 1 ∨ p = 48) (h2 : p.fdiv 24 = 2 ∨ p = 0) : edgeP p = [1, 2] := edgeP_eq p false true true (by simpa using h0) (by simpa using h1) (by simpa using h2)
set_option maxRecDepth 100000 in
set_option maxHeartbeats 8000000 in
theorem edges_spec : ∀ (w : World) (mean : ExcName → Option Value) (mg mb : Str → Option Value) (gd : Option (List Code)) (fr : Option (List Env)) (dp un : Nat) (s : Shared) (Q E : Value → Shared → Prop)
    (X : (Mine.hd.heap_39 w.params).In s.heap) (T : Top Mine.hd.view_39 (looseW Mine.hd.view_39 []) mean mg mb s.heap) (hd : dp + 40 < recursionLimit) (hu : un + 400 < cLine)
    (x y z : Int) (t1 t2 t3 : Tok) (hv sv vv : UInt64) (i1 : Float64.isInf (fq x) = false) (i2 : Float64.isInf (fq y) = false) (i3 : Float64.isInf (fq z) = false) (hM : hsvM (fq x) (fq y) (fq z) = some (hv, sv, vv)) (es : List Int) (hE : edgeL hv sv = some es)
    (ret : ∀ r vs k s', Keeps s s' → s.heap.get? r = none → s'.heap.get? r = some (W.listOf (List.toArray vs) k) → IntL vs es → Q (.ref r) s'),
    wpAny (model PySem.Challenge.rw_rl0022_01.prog w) (arnd dp un gd fr) (call (.ref 94) [.int x t1, .int y t2, .int z t3]) Q E s := by
  k_with_none
  k_with "A9 1" => ((with_reducible show wpAny _ _ (call (Value.ref 70) _) _ _ _); k_dflt (refine' rgb_L (by k_asm) (by k_asm) (by k_asm) (by k_asm) (by k_room) (by kdy_size) (by assumption) ?_))
  k_with "CompEnd" => (k_dflt (refine LCg.CompEnd.intro (by assumption) (by assumption) _ (fun p hp => hp) (by first | assumption | (simp only [LCg.Off3, and_true]; assumption)) (by first | lcg_src | assumption) ?_))
  w_top off
  k_fill
  intro w mean mg mb gd fr dp un s Q E X T hd hu x y z t1 t2 t3 hv sv vv i1 i2 i3 hM es hE ret
  k_dflt (refine wpAny_call ?_; (refine' enter_cells (binds := [(Str.ofString "red", .int x t1), (Str.ofString "green", .int y t2), (Str.ofString "blue", .int z t3)]) ?k1 ?k5 ?k6 ?k7 ?k8 ?k9 ?kB ?kD ?_ ?c2 ?c3 ?c4; (case k1 => k_asm); (case k5 => k_asm); (case k6 => k_is); (case k7 => k_is); (case k8 => k_room); (case k9 => exact BindsTo.of_eq rfl); (case kB => exact rfl); (case kD => decide +kernel); (case c2 => exact rfl); (case c3 => exact rfl); (case c4 => exact rfl); k_whole; intro h₀ L h₁ tk cells eH eL F N Y X T; k_cells Y; (try dsimp only)))
  have hf : (Flt.toInt Float64.truncOf (Float64.add (Float64.mul hv (Float64.ofInt 72)) 4602678819172646912)).fdiv 24 = (Flt.toInt Float64.truncOf (Float64.add (Float64.mul hv (Float64.ofInt 72)) 4602678819172646912)) / 24 := Int.fdiv_eq_ediv_of_nonneg _ (by omega)
  have hm1 : (0 + ((0 : Nat) : Int) + 1).fmod 3 = 1 := rfl
  have hm2 : (0 + ((0 + 1 : Nat) : Int) + 1).fmod 3 = 2 := rfl
  have hm3 : (0 + ((0 + 1 + 1 : Nat) : Int) + 1).fmod 3 = 0 := rfl
  (try ((with_reducible show wpAny _ _ _ _ _ _); k_fold))
  k_steps
  all_goals (rename ((Float64.cmp sv _ != some Ordering.eq) = _) => c1)
  all_goals (unfold edgeL at hE)
  all_goals (simp only [c1, Bool.false_eq_true, if_false, if_true] at hE)
  · with_reducible rename Fr _ _ _ _ => F9
    with_reducible rename News _ _ _ _ => N9
    cases hE
    exact ret _ [] _ _ (keeps_of eH F9) (eH ▸ (N9 _ (List.mem_cons_self ..)).2.2) (N9.get (List.mem_cons_self ..)) .nil
  · rename (Float64.isNaN _ = true) => c2
    rw [if_pos c2] at hE
    cases hE
  · rename (Float64.isInf _ = true) => c2
    rw [if_pos c2] at hE
    split at hE <;> cases hE
  all_goals (
    split at hE
    · cases hE
    · split at hE
      · cases hE
      · replace hE := (Option.some.inj hE).symm
        rename_i F9 N9 o9 _ _
        refine ret _ _ _ _ (keeps_of eH F9) (eH ▸ (N9 _ (List.mem_cons_self ..)).2.2) (N9.get (List.mem_cons_self ..)) ?_
        rw [hE]
        (repeat (rename (@Ne Nat _ _ ∧ _) => hx; clear hx))
        (repeat (rename ((@Ne Nat _ _ ∧ _) ∧ _) => hx; clear hx))
        first
          | (exfalso; omega)
          | (rw [edge_0 (by omega) (by omega) (by omega)]; exact IntL.nil)
          | (rw [edge_1 (by omega) (by omega) (by omega)]; exact (IntL.cons (by omega) IntL.nil))
          | (rw [edge_2 (by omega) (by omega) (by omega)]; exact (IntL.cons (by omega) IntL.nil))
          | (rw [edge_3 (by omega) (by omega) (by omega)]; exact (IntL.cons (by omega) (IntL.cons (by omega) IntL.nil)))
          | (rw [edge_4 (by omega) (by omega) (by omega)]; exact (IntL.cons (by omega) IntL.nil))
          | (rw [edge_5 (by omega) (by omega) (by omega)]; exact (IntL.cons (by omega) (IntL.cons (by omega) IntL.nil)))
          | (rw [edge_6 (by omega) (by omega) (by omega)]; exact (IntL.cons (by omega) (IntL.cons (by omega) IntL.nil)))
        )
end Mine

/- part AT -/
namespace Mine
set_option maxRecDepth 100000
def touchM (x y z : Int) : List Int := (if z = 0 then [0] else []) ++ ((if x = 0 then [1] else []) ++ (if y = 0 then [2] else []))
def edgeOk (x y z : Int) : Bool :=
  !Float64.isInf (fq x) && (!Float64.isInf (fq y) && (!Float64.isInf (fq z) && (match hsvM (fq x) (fq y) (fq z) with
    | some (hv, sv, _) => edgeL hv sv == some (touchM x y z)
    | none => false)))
theorem edge_tab : ((List.range 5).all fun n => (List.range 5).all fun r => (List.range 5).all fun g => if 1 ≤ n ∧ r + g ≤ n then edgeOk r g ((n : Int) - r - g) else true) = true := by decide +kernel
theorem edge_ok {n r g : Nat} (h1 : 1 ≤ n) (h4 : n ≤ 4) (h : r + g ≤ n) : edgeOk r g ((n : Int) - r - g) = true := by
  have := edge_tab
  rw [List.all_eq_true] at this
  have := this n (List.mem_range.mpr (by omega))
  rw [List.all_eq_true] at this
  have := this r (List.mem_range.mpr (by omega))
  rw [List.all_eq_true] at this
  have := this g (List.mem_range.mpr (by omega))
  rwa [if_pos ⟨h1, h⟩] at this
theorem edge_get {x y z : Int} (h : edgeOk x y z = true) : Float64.isInf (fq x) = false ∧ Float64.isInf (fq y) = false ∧ Float64.isInf (fq z) = false ∧ ∃ hv sv vv, hsvM (fq x) (fq y) (fq z) = some (hv, sv, vv) ∧ edgeL hv sv = some (touchM x y z) := by
  unfold edgeOk at h
  rw [Bool.and_eq_true, Bool.and_eq_true, Bool.and_eq_true, Bool.not_eq_true', Bool.not_eq_true', Bool.not_eq_true'] at h
  obtain ⟨h1, h2, h3, h4⟩ := h
  refine ⟨h1, h2, h3, ?_⟩
  cases e : hsvM (fq x) (fq y) (fq z) with
  | none => rw [e] at h4; cases h4
  | some p =>
    obtain ⟨hv, sv, vv⟩ := p
    rw [e] at h4
    exact ⟨hv, sv, vv, rfl, by simpa using h4⟩
end Mine

/- part MO -/
namespace Mine
set_option maxRecDepth 100000
/-- keys and what is held at them, in the order of the keys -/
inductive OwnL (FV : Int → Value → Prop) : List Int → List (Int × Value) → Prop
  | nil : OwnL FV [] []
  | snoc {ks : List Int} {kv : List (Int × Value)} {k : Int} {y : Value} : OwnL FV ks kv → FV k y → OwnL FV (ks ++ [k]) (kv ++ [(k, y)])
theorem OwnL.keys {FV : Int → Value → Prop} {ks : List Int} {kv : List (Int × Value)} (h : OwnL FV ks kv) : kv.map (·.1) = ks := by
  induction h with
  | nil => rfl
  | snoc _ _ ih => simp [ih]
theorem OwnL.of_stored {FV : Int → Value → Prop} {vs : List Value} {kv : List (Int × Value)} (h : StoredAll (fun v (k : Int) => ∃ t, v = Value.int k t) (fun v y => ∃ (k : Int) (t : Tok), v = Value.int k t ∧ FV k y) vs kv) :
    ∀ ks : List Int, (∀ (i : Nat) (k : Int), ks[i]? = some k → ∃ t, vs[i]? = some (Value.int k t)) → ks.length = vs.length → ks.Nodup → OwnL FV ks kv := by
  induction h with
  | nil => intro ks _ hl _; cases List.length_eq_zero_iff.mp hl; exact .nil
  | @snoc l kv v k y hs hk hv ih =>
    intro ks hks hl hnd
    rw [List.length_append, List.length_singleton] at hl
    have hne : ks ≠ [] := by rintro rfl; simp at hl
    obtain ⟨k₀, t₀, e₀⟩ : ∃ k₀ t₀, ks = ks.dropLast ++ [k₀] ∧ t₀ = 0 := ⟨ks.getLast hne, 0, (List.dropLast_concat_getLast hne).symm, rfl⟩
    have hdl : ks.dropLast.length = l.length := by rw [List.length_dropLast]; omega
    have hlast : ks[l.length]? = some k₀ := by rw [e₀.1, ← hdl]; simp
    obtain ⟨t, ht⟩ := hks _ _ hlast
    simp at ht
    subst ht
    obtain ⟨t1, e1⟩ := hk
    obtain ⟨k2, t2, e2, hf⟩ := hv
    obtain ⟨e1, _⟩ := Value.int.inj e1
    obtain ⟨e2, _⟩ := Value.int.inj e2
    subst e1; subst e2
    have hi : OwnL FV ks.dropLast kv := ih ks.dropLast (fun i k' hi => by
      have hlt : i < ks.dropLast.length := by
        have := List.getElem?_eq_some_iff.mp hi
        exact this.1
      have : ks[i]? = some k' := by rw [e₀.1, List.getElem?_append_left hlt]; exact hi
      obtain ⟨t, ht⟩ := hks i k' this
      rw [List.getElem?_append_left (by omega)] at ht
      exact ⟨t, ht⟩) hdl (by rw [e₀.1] at hnd; exact (List.nodup_append.mp hnd).1)
    have hnew : k₀ ∉ kv.map (·.1) := by
      rw [hi.keys]
      intro hm
      rw [e₀.1] at hnd
      exact (List.nodup_append.mp hnd).2.2 _ hm _ (List.mem_singleton_self _) rfl
    rw [stored_new hnew, e₀.1]
    exact .snoc hi hf
section
variable {prog : Program} {w : World} {A : Around} {E : Value → Shared → Prop} {s : Shared} {h₀ : Heap} {L : Addr} {m : Str → Option Value} {news : List (Addr × Obj)} {env : Env}
def OwnerPost (prog : Program) (w : World) (A : Around) (env : Env) (h₀ : Heap) (L : Addr) (m : Str → Option Value) (news : List (Addr × Obj)) (scope : Scope) (cl : List (Str × Addr)) (x : Str) (kx vx : PySem.Expr) (bd : Addr) (kvs : List (Int × Value)) (FV : Int → Value → Prop) (yn : Str) (Q : Flow → Shared → Prop) (xv : Value) (s₁ : Shared) : Prop :=
  xv = .ref bd ∧ Fr h₀ L s₁.heap m ∧ News h₀ L s₁.heap news ∧ sysModules < h₀.objs.size ∧
    (∀ (C : Addr) (k : Int) (y : Value) (i : Nat) (t : Tok) (s₂ : Shared) (m₂ : Str → Option Value) (E' : Value → Shared → Prop), h₀.objs.size ≤ C → kvs[i]? = some (k, y) → s₂.heap.Ns C m₂ → m₂ x = some (.int k t) → (∀ b o, s₁.heap.get? b = some o → s₂.heap.get? b = some o) →
      wpAny (model prog w) A (eval kx (compEnvC scope cl C env)) (fun key s₃ => key = .int k t ∧ Keeps s₂ s₃) E' s₂ ∧
      wpAny (model prog w) A (eval vx (compEnvC scope cl C env)) (fun v s₃ => FV k v ∧ Keeps s₂ s₃) E' s₂) ∧
    (∀ D oD kv' h' tk, Fr h₀ L h' (fun z => if z = yn then some (.ref D) else m z) → News h₀ L h' ((D, oD) :: news) → (∀ p ∈ news, p.1 < D) → (D == sysModules) = false → oD.IsDictOf (intKind prog w) kv' → OwnL FV (kvs.map (·.1)) kv' → Q .next { s₁ with heap := h', toks := tk })
theorem owner_L {kx vx iter : PySem.Expr} {x yn : Str} {px py : Pos} {scope : Scope} {cl : List (Str × Addr)} {pos spos : Pos} {Q : Flow → Shared → Prop} {bd : Addr} {o : Obj} {kvs : List (Int × Value)} {FV : Int → Value → Prop}
    (hsw : swapsWith (.DictComp kx vx [⟨.Name x px, iter, [], 0⟩] scope pos) (some (.Name yn py)) spos.line env = pure true) (hL : env.locals = L) (hy : env.kindOf yn = some .local) (hpl : (env.scope.kind == .class || (env.scope.kind == .module && env.locals != env.globals)) = false)
    (hh : A.handled = none) (hclos : closureFor scope env = pure cl) (hcell : ∀ y ∈ scope.names, y.2 ≠ .cell) (hkind : scope.kind = .function)
    (hnames : ∀ y ∈ scope.names, y.2 = .local → scope.names.lookup y.1 = some .local) (hx : scope.names.lookup x = some .local)
    (hs : ∀ x, foldedSetIterable iter env x = pure x)
    (ho : h₀.get? bd = some o) (hd : o.IsDictOf (intKind prog w) kvs) (hsys : (bd == sysModules) = false) (hz : kvs.length < 100) (hnd : (kvs.map (·.1)).Nodup)
    (h : wpAny (model prog w) A (eval iter env) (OwnerPost prog w A env h₀ L m news scope cl x kx vx bd kvs FV yn Q) E s) :
    wpAny (model prog w) A (exec (.Assign [.Name yn py] (.DictComp kx vx [⟨.Name x px, iter, [], 0⟩] scope pos) spos) env) Q E s := by
  subst hL
  rw [exec_Assign_Name_used _ _ _ _ hsw]
  refine wpAny_bind (wpAny_standAt (wpAny_bind ?_))
  show wpAny _ A (do let _ ← comprehension (.DictComp kx vx [⟨.Name x px, iter, [], 0⟩] scope pos) scope env _ newDict false (eval iter env) (some (assign (.Name yn py) env))) _ _ s
  refine wpAny_bind (wpAny_mono (wpAny_comprehension_free (use := some (assign (.Name yn py) env)) (Q := fun _ s' => Q .next s') rfl hs hclos hkind hnames (wpAny_mono h (fun xv s₁ h₁ => ?_) fun _ _ e => e)) (fun _ s' hq => wpAny_pure (wpAny_pure hq)) fun _ _ e => e)
  obtain ⟨rfl, F, N, hlow, hev, hQ⟩ := h₁
  have hg := F.keep _ _ ho
  have hne : bd ≠ s₁.heap.objs.size := Nat.ne_of_lt (Heap.lt_size hg)
  obtain ⟨es, ep, hex, hdat, hk, hp, hnd'⟩ := id hd
  have hat : s₁.heap.DictAt (intKind prog w) bd kvs ep := ⟨o, es, hg, hex, hdat, hk, hp, hnd'⟩
  refine wpAny_pyIter_dict hsys hat ?_
  have W := Walks.dictKeys (prog := prog) (w := w) (A := A) (knd := intKind prog w) hh s₁.heap.objs.size bd hne kvs ep
  refine wpAny_newObj_type (wpAny_newFunctionEnv hcell (by intro y hy; simp at hy) (fun h₁ hns₁ hsb₁ => ?_) hkind)
  dsimp only at hns₁ hsb₁ ⊢
  generalize hH1 : s₁.heap.push _ = H1 at hns₁ hsb₁ ⊢
  have z1 : H1.objs.size = s₁.heap.objs.size + 1 := by rw [← hH1, Heap.size_push]
  have hnew : (H1.push { cls := .type "dict", dict := none, data := .dict #[] }).DictOf (intKind prog w) H1.objs.size [] := Heap.DictOf.new H1
  generalize hH2 : H1.push { cls := .type "dict", dict := none, data := .dict #[] } = H2 at hns₁ hsb₁ hnew ⊢
  have z2 : H2.objs.size = H1.objs.size + 1 := by rw [← hH2, Heap.size_push]
  have old : ∀ b o, H1.get? b = some o → h₁.get? b = some o := fun b o e =>
    hsb₁.extBut b o (Nat.ne_of_lt (by rw [z2]; exact Nat.lt_succ_of_lt (Heap.lt_size e))) (Heap.get?_push_of_some _ (hH2 ▸ Heap.get?_push_of_some _ e))
  have old0 : ∀ b o, s₁.heap.get? b = some o → H1.get? b = some o := fun b o e => hH1 ▸ Heap.get?_push_of_some _ e
  have hDC : H1.objs.size ≠ H2.objs.size := by rw [z2]; exact Nat.ne_of_lt (Nat.lt_succ_self _)
  have hlt : bd < s₁.heap.objs.size := Heap.lt_size hg
  have hDf : H1.objs.size ∉ [s₁.heap.objs.size, bd] := by
    intro hm
    rcases List.mem_cons.mp hm with e | hm
    · rw [z1] at e; exact absurd e (Nat.succ_ne_self _)
    · rw [z1] at hm; have e := List.mem_singleton.mp hm; rw [← e] at hlt; exact absurd hlt (Nat.not_lt.mpr (Nat.le_succ _))
  have hCf : H2.objs.size ∉ [s₁.heap.objs.size, bd] := by
    intro hm
    rw [z2, z1] at hm
    rcases List.mem_cons.mp hm with e | hm
    · exact absurd e (Nat.ne_of_gt (Nat.lt_succ_of_lt (Nat.lt_succ_self _)))
    · have e := List.mem_singleton.mp hm; rw [← e] at hlt; exact absurd hlt (Nat.not_lt.mpr (Nat.le_of_lt (Nat.lt_succ_of_lt (Nat.lt_succ_self _))))
  have hIC : s₁.heap.objs.size ≠ H2.objs.size := by rw [z2, z1]; exact Nat.ne_of_lt (Nat.lt_succ_of_lt (Nat.lt_succ_self _))
  have hacc : h₁.DictOf (intKind prog w) H1.objs.size [] := hnew.at fun o e => hsb₁.extBut _ _ hDC (Heap.get?_push_of_some _ e)
  have hit : H1.get? s₁.heap.objs.size = some { cls := Value.type "dict_keyiterator", data := Data.fields #[Value.ref bd, Value.int 0 0, Value.int (↑kvs.length) 0, Value.int (↑ep) 0] } := by
    rw [← hH1]; exact Heap.get?_push_size _ rfl
  have hst₁ : h₁.IsKeyIter s₁.heap.objs.size bd 0 kvs.length ep ∧ h₁.DictAt (intKind prog w) bd kvs ep :=
    ⟨⟨_, old _ _ hit, rfl, rfl⟩, ⟨o, es, old _ _ (old0 _ _ hg), hex, hdat, hk, hp, hnd'⟩⟩
  have up : ∀ (hh : Heap), (∀ b o, b ≠ H2.objs.size → b ∉ [s₁.heap.objs.size] → b ≠ H1.objs.size → h₁.get? b = some o → hh.get? b = some o) → ∀ b o, s₁.heap.get? b = some o → hh.get? b = some o := fun hh hk b o e => by
    have hb := Heap.lt_size e
    refine hk b o ?_ ?_ ?_ (old _ _ (old0 _ _ e))
    · rw [z2, z1]; exact Nat.ne_of_lt (Nat.lt_succ_of_lt (Nat.lt_succ_of_lt hb))
    · intro hm; rw [List.mem_singleton.mp hm] at hb; exact Nat.lt_irrefl _ hb
    · rw [z1]; exact Nat.ne_of_lt (Nat.lt_succ_of_lt hb)
  have hCa : h₀.objs.size ≤ H2.objs.size := by rw [z2, z1]; exact Nat.le_trans F.above (Nat.le_of_lt (Nat.lt_succ_of_lt (Nat.lt_succ_of_lt F.ns.lt)))
  have kr : ∀ s' : Shared, Keeps s' s' := fun s' => ⟨s'.heap, s'.toks, rfl, fun _ _ e => e⟩
  have loop : codeAny (model prog w) A (.compLoop (.DictComp kx vx [⟨.Name x px, iter, [], 0⟩] scope pos) 0 (.ref s₁.heap.objs.size) (.ref H1.objs.size) (compEnvC scope cl H2.objs.size env))
      (compPost (model prog w) A E (some (assign (.Name yn py) env)) (fun _ s' => Q .next s') (Value.ref H1.objs.size) H2.objs.size) { heap := h₁, gens := s₁.gens, drawn := s₁.drawn, toks := s₁.toks + ([] : List (Str × Value)).length, os := s₁.os } := by
    refine codeAny_compLoop_walkD (hsz := by rw [sizeLine_eq]; omega) (knd := intKind prog w) (cenv := compEnvC scope cl H2.objs.size env) W (fun _ => true) (fun v (k : Int) => ∃ t, v = Value.int k t) (fun v y => ∃ (k : Int) (t : Tok), v = Value.int k t ∧ FV k y)
      (lookup_relabel_local hx) (by simp [compEnvC, relabel, hkind]) hDC hDf hCf hst₁ hacc hns₁ ?_ ?_ ?_ ?_
    · intro i v s₂ m₂ _ _ _ _
      exact wpAny_pure ⟨rfl, kr s₂⟩
    · rintro i v s₂ m₂ ⟨k, y, hkv, hkey⟩ _ hn hm hk'
      obtain ⟨t, rfl⟩ := Value.isInt_shape hkey
      refine wpAny_mono (hev _ k y i t s₂ m₂ _ hCa hkv hn hm (up _ hk')).1 (fun key s₃ h₃ => ?_) fun _ _ e => e
      obtain ⟨rfl, h₃⟩ := h₃
      exact ⟨⟨k, hkey, t, rfl⟩, h₃⟩
    · rintro i v s₂ m₂ ⟨k, y, hkv, hkey⟩ _ hn hm hk'
      obtain ⟨t, rfl⟩ := Value.isInt_shape hkey
      refine wpAny_mono (hev _ k y i t s₂ m₂ _ hCa hkv hn hm (up _ hk')).2 (fun v s₃ h₃ => ?_) fun _ _ e => e
      exact ⟨⟨k, t, rfl, h₃.1⟩, h₃.2⟩
    · intro h' tk m' kv' vs hn hD hlen hP hF hk'
      obtain ⟨oD, hoD, hdD⟩ := Heap.dictOf_iff.mp hD
      have hDn : ∀ b o, s₁.heap.get? b = some o → b < H1.objs.size := fun b o e => by rw [z1]; exact Nat.lt_succ_of_lt (Heap.lt_size e)
      have hLD : env.locals < H1.objs.size := by rw [z1]; exact Nat.lt_succ_of_lt F.ns.lt
      have hLC : env.locals ≠ H2.objs.size := by rw [z2]; exact Nat.ne_of_lt (Nat.lt_succ_of_lt hLD)
      have hk0 := up h' hk'
      show wpAny _ A (assign (.Name yn py) env (.ref H1.objs.size)) _ _ _
      refine wpAny_assign_Name (wpAny_storeName_local hy (F.ns.keeps hk0) (fun h₂ hn₂ hs₂ => ?_) hpl)
      refine ⟨m', hn.sameBut hs₂ (Ne.symm hLC), fun h'' hs'' => ?_⟩
      have hkeep : ∀ b o, b ≠ env.locals → s₁.heap.get? b = some o → h''.get? b = some o := fun b o hb e => hs''.extBut b o (by
        show b ≠ H2.objs.size
        rw [z2, z1]; exact Nat.ne_of_lt (Nat.lt_succ_of_lt (Nat.lt_succ_of_lt (Heap.lt_size e)))) (hs₂.extBut b o hb (hk0 b o e))
      refine hQ H1.objs.size oD kv' h'' _ ⟨hn₂.sameBut hs'' hLC, fun b o e => hkeep b o (Nat.ne_of_lt (Nat.lt_of_lt_of_le (Heap.lt_size e) F.above)) (F.keep b o e), F.above⟩ ?_ (fun p hp => hDn _ _ (N p hp).1) ?_ hdD ?_
      · intro p hp
        rcases List.mem_cons.mp hp with rfl | hp
        · refine ⟨hs''.extBut _ _ hDC (hs₂.extBut _ _ (Nat.ne_of_gt hLD) hoD), Nat.ne_of_gt hLD, ?_⟩
          cases hc : h₀.get? H1.objs.size with
          | none => rfl
          | some o' => exact absurd (hDn _ _ (F.keep _ _ hc)) (Nat.lt_irrefl _)
        · exact ⟨hkeep _ _ (N p hp).2.1 (N p hp).1, (N p hp).2⟩
      · exact beq_eq_false_iff_ne.mpr (Nat.ne_of_gt (Nat.lt_of_lt_of_le hlow (Nat.le_trans F.above (Nat.le_of_lt hLD))))
      · refine OwnL.of_stored (vs := vs) (by rw [List.filter_eq_self.mpr (fun _ _ => rfl)] at hF; exact hF) _ (fun i k hi => ?_) (by rw [List.length_map, hlen]) hnd
        rw [List.getElem?_map] at hi
        obtain ⟨⟨k', y⟩, hky, e⟩ := Option.map_eq_some_iff.mp hi
        cases e
        have hil : i < vs.length := by rw [hlen]; exact (List.getElem?_eq_some_iff.mp hky).1
        obtain ⟨k2, y2, h2, h3⟩ := hP i _ (List.getElem?_eq_getElem hil)
        rw [hky] at h2
        cases h2
        obtain ⟨t, ht⟩ := Value.isInt_shape h3
        exact ⟨t, by rw [List.getElem?_eq_getElem hil, ht]⟩
  exact codeAny_compStart_dict loop (W.self 0 _ _ _ hst₁ loop)
end
end Mine

/- part MJ -/
namespace Mine
set_option maxRecDepth 100000
/-- what owner holds at a key: the list of the cell's party -/
def FVj (h₀ : Heap) (cs : List (Int × Bool)) (k : Int) (v : Value) : Prop := ∃ lu vs kk, v = .ref lu ∧ h₀.get? lu = some (W.listOf (List.toArray vs) kk) ∧ Ag vs [colAt cs k]
/-- the plain form of the search -/
def stepsJ : List Int := [7, 8, 1, -7, -8, -1]
def sameC (cs : List (Int × Bool)) (k k0 : Int) : Bool := match cs.lookup k with | some b => b == colAt cs k0 | none => false
def stepJ (cs : List (Int × Bool)) (k0 c : Int) (st : List Int × List Int) (d : Int) : List Int × List Int :=
  if (sameC cs (c + d) k0 && !(st.1.any (· == c + d))) = true then (st.1 ++ [c + d], st.2 ++ [c + d]) else st
def touchC (n : Nat) (c : Int) : List Int := touchM (c.fdiv 8) (c.fmod 8) ((n : Int) - c.fdiv 8 - c.fmod 8)
def okJ (n : Nat) (sn hp to : List Int) : Bool := decide (sn.length < 100) && (decide (hp.length < 100) && (decide (to.length < 100) && hp.all fun k => (keysT (n + 1)).contains k))
def dfsJ (n : Nat) (cs : List (Int × Bool)) (k0 : Int) : Nat → List Int → List Int → List Int → Option (List Int × List Int)
  | 0, _, _, _ => none
  | f + 1, sn, hp, to => if okJ n sn hp to = true then (if hp.isEmpty = true then some (sn, to) else
      dfsJ n cs k0 f (stepsJ.foldl (stepJ cs k0 (hp.getLastD 0)) (sn, hp.dropLast)).1 (stepsJ.foldl (stepJ cs k0 (hp.getLastD 0)) (sn, hp.dropLast)).2 (to ++ touchC n (hp.getLastD 0))) else none
def allT (to : List Int) : Bool := to.any (· == 0) && (to.any (· == 1) && to.any (· == 2))
def outJ (n : Nat) (cs : List (Int × Bool)) : List Int → List Int → List Bool → Option (List Bool)
  | [], _, js => if js.length < 100 then some js else none
  | k :: ks, sn, js => if js.length < 100 ∧ sn.length < 100 then (if (sn.any (· == k)) = true then outJ n cs ks sn js else match dfsJ n cs k 20 (sn ++ [k]) [k] [] with
    | none => none
    | some (sn', to) => outJ n cs ks sn' (if allT to = true then js ++ [colAt cs k] else js)) else none
def joinedM (n : Nat) (cs : List (Int × Bool)) : Option (List Bool) := outJ n cs (keysT (n + 1)) [] []

inductive JL (h₀ : Heap) : List Value → List Bool → Prop
  | nil : JL h₀ [] []
  | cons {lu : Addr} {us : List Value} {kk : Nat} {b : Bool} {vs : List Value} {bs : List Bool} : h₀.get? lu = some (W.listOf (List.toArray us) kk) → Ag us [b] → JL h₀ vs bs → JL h₀ (.ref lu :: vs) (b :: bs)
theorem JL.snoc {h₀ : Heap} {lu : Addr} {us : List Value} {kk : Nat} {b : Bool} {vs : List Value} {bs : List Bool} (h : JL h₀ vs bs) (e : h₀.get? lu = some (W.listOf (List.toArray us) kk)) (ha : Ag us [b]) : JL h₀ (vs ++ [.ref lu]) (bs ++ [b]) := by
  induction h with
  | nil => exact .cons e ha .nil
  | cons a b _ ih => exact .cons a b ih
theorem JL.length {h₀ : Heap} {vs : List Value} {bs : List Bool} (h : JL h₀ vs bs) : vs.length = bs.length := by
  induction h with
  | nil => rfl
  | cons _ _ _ ih => simp [ih]
theorem intsAre_of {vs : List Value} {es : List Int} (h : IntL vs es) : IntsAre vs es := by
  induction h with
  | nil => exact .nil
  | cons e _ ih => subst e; exact .cons _ _ ih

section
variable {FV : Int → Value → Prop} {ks : List Int} {kv : List (Int × Value)}
theorem OwnL.mem (h : OwnL FV ks kv) : ∀ p ∈ kv, FV p.1 p.2 := by
  induction h with
  | nil => intro p hp; cases hp
  | snoc _ hf ih =>
    intro p hp
    rcases List.mem_append.mp hp with hp | hp
    · exact ih p hp
    · rw [List.mem_singleton.mp hp]; exact hf
theorem valueAt_mem {kv : List (Int × Value)} {k : Int} {v : Value} (h : valueAt kv k = some v) : (k, v) ∈ kv := by
  unfold valueAt at h
  obtain ⟨p, hp, e⟩ := Option.map_eq_some_iff.mp h
  have h1 := List.mem_of_find?_eq_some hp
  have h2 := List.find?_some hp
  have h3 : p.1 = k := by simpa using h2
  cases p
  simp only at h3 e
  subst h3; subst e
  exact h1
theorem valueAt_none {kv : List (Int × Value)} {k : Int} (h : k ∉ kv.map (·.1)) : valueAt kv k = none := by
  unfold valueAt
  rw [Option.map_eq_none_iff, List.find?_eq_none]
  intro p hp e
  exact h (List.mem_map.mpr ⟨p, hp, by simpa using e⟩)
theorem valueAt_some {kv : List (Int × Value)} {k : Int} (h : k ∈ kv.map (·.1)) : ∃ v, valueAt kv k = some v := by
  cases e : valueAt kv k with
  | some v => exact ⟨v, rfl⟩
  | none =>
    unfold valueAt at e
    rw [Option.map_eq_none_iff, List.find?_eq_none] at e
    obtain ⟨p, hp, e2⟩ := List.mem_map.mp h
    exact absurd (by simpa using e2) (e p hp)
theorem OwnL.get (h : OwnL FV ks kv) {k : Int} (hk : k ∈ ks) : ∃ v, valueAt kv k = some v ∧ FV k v := by
  obtain ⟨v, hv⟩ := valueAt_some (by rw [h.keys]; exact hk)
  exact ⟨v, hv, h.mem _ (valueAt_mem hv)⟩
end
/-- what owner.get gives back at a key -/
def OV (h₀ : Heap) (cs : List (Int × Bool)) (k : Int) (v : Value) : Prop := (v = .none ∧ cs.lookup k = none) ∨ (FVj h₀ cs k v ∧ cs.lookup k = some (colAt cs k))
theorem Ag.one {vs : List Value} {b : Bool} (h : Ag vs [b]) : ∃ t, vs = [.str (pstr b) t] := by
  cases h with
  | cons b t h => cases h; exact ⟨t, rfl⟩
theorem pstr_same (a b : Bool) : PySem.Spec.same (.list [.str (pstr a)]) (.list [.str (pstr b)]) = (a == b) := by
  cases a <;> cases b <;> decide +kernel
theorem reads_Ag {h : Heap} {lu : Addr} {us : List Value} {kk : Nat} {b : Bool} (e : h.get? lu = some (W.listOf (List.toArray us) kk)) (ha : Ag us [b]) : ∃ as, Reads h (.ref lu) (.list [.str (pstr b)]) as := by
  obtain ⟨t, rfl⟩ := ha.one
  exact ⟨_, Reads.list e rfl rfl (ReadsAll.cons (Reads.str _ _) ReadsAll.nil)⟩
theorem shaped_Ag (b : Bool) : SeqAt.shaped (.list [.str (pstr b)]) = true := by cases b <;> decide +kernel
theorem mix_Ag (a b : Bool) : SeqAt.noMix (.list [.str (pstr a)]) (.list [.str (pstr b)]) = true := by cases a <;> cases b <;> decide +kernel

section
variable {prog : Program} {w : World} {A : Around} {E : Value → Shared → Prop} {s : Shared} {h₀ : Heap} {L D : Addr} {m : Str → Option Value} {news : List (Addr × Obj)} {g : Obj → List (Addr × Obj)} {vs : List Value} {ns : List Int} {n : Nat} {k : Int} {t : Tok} {cs : List (Int × Bool)} {Q : Value → Shared → Prop}
theorem notin_J {l : Addr} (N : News h₀ L s.heap news) (hm : (l, W.listOf (List.toArray vs) n) ∈ news) (hi : IntsAre vs ns) (h : Q (.bool (!(ns.any (· == k)))) s) : wpAny (model prog w) A (compareOp .NotIn (.int k t) (.ref l)) Q E s :=
  notin_list_ints ⟨_, N.get hm, rfl, _, rfl⟩ hi h
theorem in_J {l : Addr} (N : News h₀ L s.heap news) (hm : (l, W.listOf (List.toArray vs) n) ∈ news) (hi : IntsAre vs ns) (h : Q (.bool (ns.any (· == k))) s) : wpAny (model prog w) A (compareOp .In (.int k t) (.ref l)) Q E s :=
  in_list_ints ⟨_, N.get hm, rfl, _, rfl⟩ hi h
theorem upd_of {o o' : Obj} {d : Addr} (U : UpdF d o news g) : Upd d o o' news (g o') := by
  induction U with
  | head h => exact .head h
  | tail h _ ih => exact .tail h ih
theorem append_J (F : Fr h₀ L s.heap m) (N : News h₀ L s.heap news) (U : UpdF D (W.listOf (List.toArray vs) n) news g) (hi : IntsAre vs ns) (hz : ns.length < 1000)
    (h : ∀ h' vs' n', Fr h₀ L h' m → News h₀ L h' (g (W.listOf (List.toArray vs') n')) → IntsAre vs' (ns ++ [k]) → Q .none { s with heap := h' }) : wpAny (model prog w) A (call (.builtin "list.append") [.ref D, .int k t]) Q E s := by
  refine append_K F N (upd_of U) (fun h' F' N' => h h' (vs ++ [.int k t]) (n + 1) F' ?_ (hi.append (.cons _ _ .nil))) (by rw [sizeLine_eq]; have := hi.length; simp; omega)
  simpa using N'
theorem append_R {lu : Addr} {us : List Value} {kk : Nat} {b : Bool} {bs : List Bool} (F : Fr h₀ L s.heap m) (N : News h₀ L s.heap news) (U : UpdF D (W.listOf (List.toArray vs) n) news g) (hi : JL h₀ vs bs) (e : h₀.get? lu = some (W.listOf (List.toArray us) kk)) (ha : Ag us [b]) (hz : bs.length < 1000)
    (h : ∀ h' vs' n', Fr h₀ L h' m → News h₀ L h' (g (W.listOf (List.toArray vs') n')) → JL h₀ vs' (bs ++ [b]) → Q .none { s with heap := h' }) : wpAny (model prog w) A (call (.builtin "list.append") [.ref D, .ref lu]) Q E s := by
  refine append_K F N (upd_of U) (fun h' F' N' => h h' (vs ++ [.ref lu]) (n + 1) F' ?_ (hi.snoc e ha)) (by rw [sizeLine_eq]; have := hi.length; simp; omega)
  simpa using N'
theorem pop_J (F : Fr h₀ L s.heap m) (N : News h₀ L s.heap news) (U : UpdF D (W.listOf (List.toArray vs) n) news g) (hi : IntsAre vs ns) (hne : ns.isEmpty = false) (hz : ns.length < 1000)
    (h : ∀ h' vs' n' t, Fr h₀ L h' m → News h₀ L h' (g (W.listOf (List.toArray vs') n')) → IntsAre vs' ns.dropLast → Q (.int (ns.getLastD 0) t) { s with heap := h' }) : wpAny (model prog w) A (call (.builtin "list.pop") [.ref D]) Q E s := by
  have hl := hi.length
  have hn : 0 < ns.length := by cases ns with | nil => cases hne | cons _ _ => simp
  exact kpa_pop F N (upd_of U) hi (by omega) (by rw [sizeLine_eq]; omega) fun h' t F' N' hi' => h h' _ _ t F' N' hi'
theorem extend_J {b : Addr} {ws : List Value} {ms : List Int} {n2 : Nat} (F : Fr h₀ L s.heap m) (N : News h₀ L s.heap news) (hb : (b, W.listOf (List.toArray ws) n2) ∈ news) (U : UpdF D (W.listOf (List.toArray vs) n) news g) (hi : IntsAre vs ns) (hj : IntsAre ws ms) (hz : ns.length < 1000) (hz2 : ms.length < 1000)
    (h : ∀ h' vs' n', Fr h₀ L h' m → News h₀ L h' (g (W.listOf (List.toArray vs') n')) → IntsAre vs' (ns ++ ms) → Q .none { s with heap := h' }) : wpAny (model prog w) A (call (.builtin "list.extend") [.ref D, .ref b]) Q E s := by
  have hl := hi.length
  have hl2 := hj.length
  have big : ¬(!(List.toArray vs).isEmpty && Builtin.List.listTooLong ((List.toArray vs).size + (List.toArray ws).size)) = true := by
    rw [Bool.and_eq_true]
    rintro ⟨_, q⟩
    simp only [Builtin.List.listTooLong, sizeLine_eq, List.size_toArray, decide_eq_true_eq] at q
    omega
  have z1 : (List.toArray vs).toList.length ≤ sizeLine := by rw [sizeLine_eq]; simp; omega
  have z2 : (List.toArray vs).size + (List.toArray ws).size ≤ sizeLine + 1 := by rw [sizeLine_eq]; simp; omega
  cases hj with
  | nil =>
    refine kxn_extend F N hb rfl (upd_of U) big z1 z2 fun h' F' N' => h h' vs n F' N' (by simpa using hi)
  | cons k t hj' =>
    exact kl_extend F N hb rfl (by simp) (upd_of U) big z1 z2 fun h' F' N' => h h' _ _ F' N' (hi.append (.cons k t hj'))
theorem ne_nil_J {l e : Addr} {n' : Nat} (N : News h₀ L s.heap news) (hm : (l, W.listOf (List.toArray vs) n) ∈ news) (he : (e, W.listOf #[] n') ∈ news) (hi : IntsAre vs ns) (hu : A.units + 64 < cLine)
    (h : Q (.bool (!ns.isEmpty)) s) : wpAny (model prog w) A (compareOp .NotEq (.ref l) (.ref e)) Q E s := by
  have r1 : Reads s.heap (.ref l) (.list (ns.map PyData.int)) [l] := Reads.list (N.get hm) rfl rfl (ints_readAll _ hi)
  have r2 : Reads s.heap (.ref e) (.list []) [e] := Reads.list (N.get he) rfl rfl ReadsAll.nil
  refine ne_dataH_same r1 r2 ?_ (by decide +kernel) hu ?_ ?_
  · exact ke_shaped_ints ns
  · cases ns <;> rfl
  · cases ns with
    | nil => exact h
    | cons a r => exact h
theorem get_J {o : Obj} {kv : List (Int × Value)} {ks : List Int} (N : News h₀ L s.heap news) (hp : (D, o) ∈ news) (lo : (D == sysModules) = false) (hd : o.IsDictOf (intKind prog w) kv) (hO : OwnL (FVj h₀ cs) ks kv) (hk : cs.map (·.1) = ks)
    (h : ∀ v, OV h₀ cs k v → Q v { s with toks := s.toks + 1 }) : wpAny (model prog w) A (call (.builtin "dict.get") [.ref D, .int k t]) Q E s := by
  refine kdg_get1 N hp hd lo (intKind_is _ _ _ _) _ rfl (h _ ?_)
  by_cases hm : k ∈ ks
  · obtain ⟨v, hv, hf⟩ := hO.get hm
    rw [hv]
    exact .inr ⟨hf, lookup_of_key (by rw [hk]; exact hm)⟩
  · rw [valueAt_none (by rw [hO.keys]; exact hm)]
    refine .inl ⟨rfl, ?_⟩
    rw [List.lookup_eq_none_iff]
    intro p hp
    cases q : (k == p.1) with
    | false => first | rfl | simpa using q
    | true => exact absurd (hk ▸ List.mem_map.mpr ⟨p, hp, (beq_iff_eq.mp q).symm⟩) hm
theorem item_J {o : Obj} {kv : List (Int × Value)} {ks : List Int} {value slice : PySem.Expr} (N : News h₀ L s.heap news) (hp : (D, o) ∈ news) (hd : o.IsDictOf (intKind prog w) kv) (hO : OwnL (FVj h₀ cs) ks kv) (hk : k ∈ ks)
    (h : ∀ lu us kk, h₀.get? lu = some (W.listOf (List.toArray us) kk) → Ag us [colAt cs k] → Q (.ref lu) { s with toks := s.toks + 1 })
    (hs : subscripted slice false (.ref D) (.int k t) = operate [.ref D, .int k t] (getItem (.ref D) (.int k t)) := by with_unfolding_all rfl) : wpAny (model prog w) A (subscriptTail value slice (.ref D) (.int k t)) Q E s := by
  obtain ⟨v, hv, lu, us, kk, rfl, e, ha⟩ := hO.get hk
  have hm : s.heap.DictOf (intKind prog w) D kv := Heap.dictOf_iff.mpr ⟨o, N.get hp, hd⟩
  exact tail_any hm.typeIs slot_dict_getitem.lookup (wpAny_getItem_of (intKind_is prog w k t) hm.mapOf hv (h lu us kk e ha)) hs
theorem eq_J {v : Value} {lu : Addr} {us : List Value} {kk : Nat} {k0 : Int} (F : Fr h₀ L s.heap m) (hv : OV h₀ cs k v) (e : h₀.get? lu = some (W.listOf (List.toArray us) kk)) (ha : Ag us [colAt cs k0]) (hu : A.units + 64 < cLine)
    (h : Q (.bool (sameC cs k k0)) s) : wpAny (model prog w) A (compareOp .Eq v (.ref lu)) Q E s := by
  obtain ⟨as, r2⟩ := reads_Ag (F.keep _ _ e) ha
  rcases hv with ⟨rfl, hl⟩ | ⟨⟨lu', us', kk', rfl, e', ha'⟩, hl⟩
  · refine eq_dataH_same Reads.none r2 (by decide +kernel) (shaped_Ag _) hu (by rfl) ?_
    have : sameC cs k k0 = false := by unfold sameC; rw [hl]
    rw [this] at h
    exact h
  · obtain ⟨as', r1⟩ := reads_Ag (F.keep _ _ e') ha'
    refine eq_dataH_same r1 r2 (shaped_Ag _) (shaped_Ag _) hu (mix_Ag _ _) ?_
    have : sameC cs k k0 = (colAt cs k == colAt cs k0) := by unfold sameC; rw [hl]
    rw [this] at h
    rw [pstr_same]
    exact h
end
theorem key_form {n : Nat} {c : Int} (hc : c ∈ keysT (n + 1)) : ∃ r g : Nat, c = 8 * (r : Int) + (g : Int) ∧ r + g ≤ n := by
  obtain ⟨r, hr, hm⟩ := List.mem_flatMap.mp hc
  obtain ⟨g, hg, e⟩ := mem_rowK.mp hm
  exact ⟨r, g, e, by omega⟩
def AllNe (r : Nat) : List (Addr × Obj) → Prop
  | [] => True
  | p :: l => @Ne Nat p.1 r ∧ AllNe r l
theorem allNe_of {r : Addr} : ∀ {l : List (Addr × Obj)}, (∀ p ∈ l, p.1 ≠ r) → AllNe r l
  | [], _ => trivial
  | p :: _, h => ⟨h p (.head _), allNe_of fun q hq => h q (.tail _ hq)⟩
/-- the lists that the search changes, with what they hold -/
structure DW where
  sv : List Value
  ks : Nat
  sn : List Int
  hv : List Value
  kh : Nat
  hp : List Int
  tv : List Value
  kt : Nat
  to : List Int
theorem edges_J {w : World} {mean : ExcName → Option Value} {mg mb : Str → Option Value} {gd : Option (List Code)} {fr : Option (List Env)} {dp un : Nat} {s : Shared} {Q E : Value → Shared → Prop} {h₀ : Heap} {L : Addr} {m : Str → Option Value} {news : List (Addr × Obj)}
    {n : Nat} {c : Int} {t1 t2 t3 : Tok} (F : Fr h₀ L s.heap m) (N : News h₀ L s.heap news) (X : (Mine.hd.heap_39 w.params).In h₀) (T : Top Mine.hd.view_39 (looseW Mine.hd.view_39 []) mean mg mb h₀) (hd : dp + 40 < recursionLimit) (hu : un + 400 < cLine)
    (h1 : 1 ≤ n) (h4 : n ≤ 4) (hc : c ∈ keysT (n + 1))
    (h : ∀ r vs k h' tk, Fr h₀ L h' m → News h₀ L h' ((r, W.listOf (List.toArray vs) k) :: news) → AllNe r news → IntsAre vs (touchC n c) → Q (.ref r) { s with heap := h', toks := tk }) :
    wpAny (model PySem.Challenge.rw_rl0022_01.prog w) (arnd dp un gd fr) (call (.ref 94) [.int (c.fdiv 8) t1, .int (c.fmod 8) t2, .int ((n : Int) - c.fdiv 8 - c.fmod 8) t3]) Q E s := by
  obtain ⟨r, g, rfl, hrg⟩ := key_form hc
  have q1 : (8 * (r : Int) + (g : Int)).fdiv 8 = (r : Int) := by rw [Int.fdiv_eq_ediv_of_nonneg _ (by omega)]; omega
  have q2 : (8 * (r : Int) + (g : Int)).fmod 8 = (g : Int) := by rw [Int.fmod_eq_emod_of_nonneg _ (by omega)]; omega
  obtain ⟨i1, i2, i3, hv, sv, vv, hM, hE⟩ := edge_get (edge_ok h1 h4 hrg)
  have hto : touchC n (8 * (r : Int) + (g : Int)) = touchM r g ((n : Int) - r - g) := by unfold touchC; rw [q1, q2]
  rw [hto] at h
  rw [q1, q2]
  refine edges_spec w mean mg mb gd fr dp un s Q E (X.keeps F.keep) (T.keeps F.keep) hd hu _ _ _ t1 t2 t3 hv sv vv i1 i2 i3 hM _ hE ?_
  intro r' vs k s' kk hn hg hi
  obtain ⟨a, b, c⟩ := call_new (add := [(r', W.listOf (List.toArray vs) k)]) kk F N (fun p hp => by
    rw [List.mem_singleton.mp hp]; exact ⟨hg, hn⟩)
  obtain ⟨h', tk, rfl, _⟩ := kk
  exact h r' vs k h' tk a b (allNe_of fun p hp => c p hp _ (List.mem_singleton_self _)) (intsAre_of hi)
theorem last_mem {l : List Int} (h : l.isEmpty = false) : l.getLastD 0 ∈ l := by
  have hne : l ≠ [] := by rintro rfl; cases h
  rw [List.getLastD_eq_getLast?, List.getLast?_eq_some_getLast hne]
  exact List.getLast_mem hne
theorem fold_len (cs : List (Int × Bool)) (k0 c : Int) : ∀ (ds : List Int) (st : List Int × List Int), (ds.foldl (stepJ cs k0 c) st).1.length ≤ st.1.length + ds.length ∧ (ds.foldl (stepJ cs k0 c) st).2.length ≤ st.2.length + ds.length
  | [], st => by simp
  | d :: ds, st => by
    have h := fold_len cs k0 c ds (stepJ cs k0 c st d)
    have h2 : (stepJ cs k0 c st d).1.length ≤ st.1.length + 1 ∧ (stepJ cs k0 c st d).2.length ≤ st.2.length + 1 := by
      unfold stepJ; split <;> simp
    simp only [List.foldl_cons, List.length_cons]
    omega
theorem sub_forgot {a b : List Str} {y : Str} (h : a.contains y = false) (hs : b.all (fun z => a.contains z) = true) : b.contains y = false := by
  cases e : b.contains y with
  | false => rfl
  | true => rw [List.all_eq_true] at hs; rw [hs y (by simpa using e)] at h; cases h
end Mine

/- part MK -/
namespace Mine
set_option maxRecDepth 100000
/-- what a turn comes to: the ledger told by data, all names but the forgotten ones as they stood -/
def JF {δ : Type} (forgot : List Str) (m₀ : Str → Option Value) (led : δ → List (Addr × Obj)) (P : δ → Prop) (m' : Str → Option Value) (news' : List (Addr × Obj)) : Prop :=
  ∃ d, news' = led d ∧ P d ∧ ∀ y, forgot.contains y = false → m' y = m₀ y
theorem js_base {m₁ g : Str → Option Value} {forgot : List Str} (h : ∀ y, forgot.contains y = false → m₁ y = g y) : m₁ = fun y => if forgot.contains y then m₁ y else g y := by
  funext y
  cases q : forgot.contains y with
  | true => simp
  | false => simp [h y q]
section
variable {prog : Program} {w : World} {A : Around} {E : Value → Shared → Prop} {s : Shared} {env : Env} {h₀ : Heap} {x : Str} {body : List Stmt} {Q : Flow → Shared → Prop} {δ : Type}
theorem iter_dictF {D : Addr} {o : Obj} {kvs : List (Int × Value)} {m₀ : Str → Option Value} (forgot : List Str) (led : δ → List (Addr × Obj)) (P : Nat → δ → Prop) (d₀ : δ)
    (hh : A.handled = none) (hsys : (D == sysModules) = false) (hd : o.IsDictOf (intKind prog w) kvs) (F : Fr h₀ env.locals s.heap m₀) (N : News h₀ env.locals s.heap (led d₀)) (hj : P 0 d₀) (hled : ∀ d, (D, o) ∈ led d)
    (turn : ∀ I oI i k v t (u : Str → Option Value) d h tk, kvs[i]? = some (k, v) → P i d → (∀ p ∈ led d₀, p.1 < I) → (∀ p ∈ led d, p.1 ≠ I) → Fr h₀ env.locals h (fun y => if y = x then some (.int k t) else if forgot.contains y then u y else m₀ y) → News h₀ env.locals h ((I, oI) :: led d) →
      wpAny (model prog w) A (execs body env) (TurnPost h₀ env.locals I oI (JF forgot m₀ led (P (i + 1))) s Q) E { s with heap := h, toks := tk })
    (done : ∀ (u : Str → Option Value) d h tk, P kvs.length d → Fr h₀ env.locals h (fun y => if forgot.contains y then u y else m₀ y) → News h₀ env.locals h (led d) → Q .next { s with heap := h, toks := tk }) :
    wpAny (model prog w) A (pyIter (.ref D)) (fun it s₂ => LoopAtV prog w A h₀ env x body Q E it s₂) E s := by
  refine iter_dict (fun i => JF forgot m₀ led (P i)) hh hsys hd F N ⟨d₀, rfl, hj, fun _ _ => rfl⟩ ?_ ?_ ?_
  · rintro i m₁ news₁ ⟨d, rfl, _⟩; exact hled d
  · rintro I oI i k v t m₁ news₁ h tk hv ⟨d, rfl, hp, hm⟩ hlt hne F₁ N₁
    rw [js_fun hm] at F₁
    exact turn I oI i k v t m₁ d h tk hv hp hlt hne F₁ N₁
  · rintro m₁ news₁ h tk ⟨d, rfl, hp, hm⟩ F₁ N₁
    rw [js_base hm] at F₁
    exact done m₁ d h tk hp F₁ N₁
theorem iter_ledF {l : Addr} {vs : List Value} {nl : Nat} {m₀ : Str → Option Value} (forgot : List Str) (led : δ → List (Addr × Obj)) (P : Nat → δ → Prop) (d₀ : δ)
    (hh : A.handled = none) (F : Fr h₀ env.locals s.heap m₀) (N : News h₀ env.locals s.heap (led d₀)) (hj : P 0 d₀) (hled : ∀ d, (l, W.listOf vs.toArray nl) ∈ led d)
    (turn : ∀ I oI i v (u : Str → Option Value) d h tk, vs[i]? = some v → P i d → (∀ p ∈ led d₀, p.1 < I) → (∀ p ∈ led d, p.1 ≠ I) → Fr h₀ env.locals h (fun y => if y = x then some v else if forgot.contains y then u y else m₀ y) → News h₀ env.locals h ((I, oI) :: led d) →
      wpAny (model prog w) A (execs body env) (TurnPost h₀ env.locals I oI (JF forgot m₀ led (P (i + 1))) s Q) E { s with heap := h, toks := tk })
    (done : ∀ (u : Str → Option Value) d h tk, P vs.length d → Fr h₀ env.locals h (fun y => if forgot.contains y then u y else m₀ y) → News h₀ env.locals h (led d) → Q .next { s with heap := h, toks := tk }) :
    wpAny (model prog w) A (pyIter (.ref l)) (fun it s₂ => LoopAtV prog w A h₀ env x body Q E it s₂) E s := by
  refine iter_led (vs := vs) (nl := nl) (fun i => JF forgot m₀ led (P i)) hh F N ⟨d₀, rfl, hj, fun _ _ => rfl⟩ ?_ ?_ ?_
  · rintro i m₁ news₁ ⟨d, rfl, _⟩; exact hled d
  · rintro I oI i v m₁ news₁ h tk hv ⟨d, rfl, hp, hm⟩ hlt hne F₁ N₁
    rw [js_fun hm] at F₁
    exact turn I oI i v m₁ d h tk hv hp hlt hne F₁ N₁
  · rintro m₁ news₁ h tk ⟨d, rfl, hp, hm⟩ F₁ N₁
    rw [js_base hm] at F₁
    exact done m₁ d h tk hp F₁ N₁
theorem TurnPost.goF {h₀ : Heap} {L I : Addr} {o : Obj} {forgot : List Str} {m₀ : Str → Option Value} {led : δ → List (Addr × Obj)} {P : δ → Prop} {s : Shared} {Q : Flow → Shared → Prop} {h' : Heap} {tk' : Nat} {m' : Str → Option Value} {all : List (Addr × Obj)}
    (d : δ) (F : Fr h₀ L h' m') (N : News h₀ L h' all) (hI : (I, o) ∈ all) (sub : ∀ p ∈ led d, p ∈ all) (off : ∀ p ∈ led d, p.1 ≠ I) (hp : P d) (hm : ∀ y, forgot.contains y = false → m' y = m₀ y) :
    TurnPost h₀ L I o (JF forgot m₀ led P) s Q .next { s with heap := h', toks := tk' } :=
  TurnPost.go _ F N hI sub off ⟨d, rfl, hp, hm⟩
/-- what a turn of a while comes to -/
def WPost (h₀ : Heap) (L : Addr) (J : (Str → Option Value) → List (Addr × Obj) → Prop) (s : Shared) (Q : Flow → Shared → Prop) (f : Flow) (s₃ : Shared) : Prop :=
  match f with
  | .ret v => Q (.ret v) s₃
  | .brk => Q .next s₃
  | _ => ∃ h' tk' m' news', s₃ = { s with heap := h', toks := tk' } ∧ Fr h₀ L h' m' ∧ News h₀ L h' news' ∧ J m' news'
theorem WPost.goF {h₀ : Heap} {L : Addr} {forgot : List Str} {m₀ : Str → Option Value} {led : δ → List (Addr × Obj)} {P : δ → Prop} {s : Shared} {Q : Flow → Shared → Prop} {h' : Heap} {tk' : Nat} {m' : Str → Option Value} {all : List (Addr × Obj)}
    (d : δ) (F : Fr h₀ L h' m') (N : News h₀ L h' all) (sub : ∀ p ∈ led d, p ∈ all) (hp : P d) (hm : ∀ y, forgot.contains y = false → m' y = m₀ y) :
    WPost h₀ L (JF forgot m₀ led P) s Q .next { s with heap := h', toks := tk' } :=
  ⟨h', tk', m', led d, rfl, F, fun p hp => N p (sub p hp), d, rfl, hp, hm⟩
theorem whl_invF {test : PySem.Expr} {orelse : List Stmt} {pos : Pos} {m₀ : Str → Option Value} (forgot : List Str) (led : δ → List (Addr × Obj)) (P : Nat → δ → Prop) (d₀ : δ) (f₀ : Nat)
    (hE : PassesOwn (model prog w) A env E) (F : Fr h₀ env.locals s.heap m₀) (N : News h₀ env.locals s.heap (led d₀)) (hj : P f₀ d₀) (h0 : ∀ d, ¬ P 0 d)
    (turn : ∀ f (u : Str → Option Value) d h tk, P (f + 1) d → Fr h₀ env.locals h (fun y => if forgot.contains y then u y else m₀ y) → News h₀ env.locals h (led d) →
      wpAny (model prog w) A (isTrue test env (eval test env)) (fun b s₂ => WhlIf b (wpAny (model prog w) A (execs body env) (WPost h₀ env.locals (JF forgot m₀ led (P f)) s Q) E s₂) (wpAny (model prog w) A (execs orelse env) Q E s₂)) E { s with heap := h, toks := tk }) :
    wpAny (model prog w) A (exec (.While test body orelse pos) env) Q E s := by
  refine whl_start f₀ ?_
  have key : ∀ f (u : Str → Option Value) d h tk, P f d → Fr h₀ env.locals h (fun y => if forgot.contains y then u y else m₀ y) → News h₀ env.locals h (led d) → WhlRest prog w A E env test body orelse Q f { s with heap := h, toks := tk } := by
    intro f
    induction f with
    | zero => intro u d h tk hp; exact absurd hp (h0 d)
    | succ f ih =>
      intro u d h tk hp F₁ N₁
      refine whl_turn hE (wpAny_mono (turn f u d h tk hp F₁ N₁) (fun b s₂ hb => ?_) fun _ _ e => e)
      have go : ∀ s₃, (∃ h' tk' m' news', s₃ = { s with heap := h', toks := tk' } ∧ Fr h₀ env.locals h' m' ∧ News h₀ env.locals h' news' ∧ JF forgot m₀ led (P f) m' news') → WhlRest prog w A E env test body orelse Q f s₃ := by
        rintro s₃ ⟨h', tk', m', news', rfl, F', N', d', rfl, hp', hm'⟩
        rw [js_base hm'] at F'
        exact ih m' d' h' tk' hp' F' N'
      unfold WhlIf at hb ⊢
      split
      · next q =>
        rw [if_pos q] at hb
        refine wpAny_mono hb (fun fl s₃ h₃ => ?_) fun _ _ e => e
        cases fl with
        | next => exact go s₃ h₃
        | cont => exact go s₃ h₃
        | brk => exact h₃
        | ret v => exact h₃
      · next q =>
        rw [if_neg q] at hb
        exact hb
  exact key f₀ m₀ d₀ s.heap s.toks hj (by simpa using F) N
end
end Mine

/- part A6 -/
namespace Mine
local macro_rules | `(tactic| walk_at "call type:range") => `(tactic| (k_extra "A6 1"; intro r' u' v' h' tk' F' N' l1; (try k_lt l1); (try k_sweep)))
local macro_rules | `(tactic| walk_at "setItem ref int") => `(tactic| (k_extra "A6 2"; intro h' o' F' N' hd'; (try k_sweep)))
local macro_rules | `(tactic| k_all) => `(tactic| assumption)
local macro_rules | `(tactic| walk_at "call ref") => `(tactic| (k_extra "A6 3"; intro x' d' a' b' t1' t2' t3' t4' vs' k' rl' n' h' tk' F' N' l1 l2 l3 l4 ha' hr'; (try k_lt l1); (try k_lt2 l2); (try k_lt2 l3); (try k_lt2 l4); (try k_sweep)))
set_option maxRecDepth 100000 in
set_option maxHeartbeats 8000000 in
theorem fallen_spec : ∀ (w : World) (mean : ExcName → Option Value) (mg mb : Str → Option Value) (gd : Option (List Code)) (fr : Option (List Env)) (dp un : Nat) (s : Shared) (Q E : Value → Shared → Prop)
    (X : (Mine.hd.heap_39 w.params).In s.heap) (T : Top Mine.hd.view_39 (looseW Mine.hd.view_39 []) mean mg mb s.heap) (hd : dp + 80 < recursionLimit) (hu : un + 800 < cLine)
    (n : Nat) (t9 : Tok) (bd : Addr) (o : Obj) (kvs : List (Int × Value)) (cs : List (Int × Bool)) (hn1 : 1 ≤ n) (hn4 : n ≤ 4) (e1 : s.heap.get? bd = some o) (e2 : o.IsDictOf (intKind PySem.Challenge.rw_rl0022_01.prog w) kvs) (hc : Cells w (fun a o => s.heap.get? a = some o) kvs cs) (hk : cs.map (·.1) = keysT (n + 1))
    (ret : ∀ fd od kv fz s', Keeps s s' → (fd == sysModules) = false → (∀ p ∈ (fd, od) :: fz, s'.heap.get? p.1 = some p.2 ∧ s.heap.get? p.1 = none) → od.IsDictOf (intKind PySem.Challenge.rw_rl0022_01.prog w) kv → Cells w (fun a o => (a, o) ∈ fz) kv (fallM n cs) → Q (.ref fd) s'),
    wpAny (model PySem.Challenge.rw_rl0022_01.prog w) (arnd dp un gd fr) (call (.ref 89) [.int (n : Int) t9, .ref bd]) Q E s := by
  k_with_none
  k_with "A6 1" => ((with_reducible show wpAny _ _ (call _ [_]) _ _ _); k_dflt (refine' range_L (by k_asm) (by k_asm) ?_))
  k_with "subscriptTail" => ((with_reducible show wpAny _ _ (subscriptTail _ _ (Value.ref _) (Value.int _ _)) _ _ _); k_dflt (refine' get_D (by k_asm) (by assumption) (by assumption) (by assumption) ?_))
  k_with "A6 2" => (k_dflt (refine' set_D (by k_asm) (by k_asm) (by k_updF) (by assumption) (by assumption) ?_))
  k_with "A6 3" => ((with_reducible show wpAny _ _ (call (Value.ref 82) _) _ _ _); k_dflt (refine' judge_L (by k_asm) (by k_asm) (by k_asm) (by k_asm) (by k_room) (by kdy_size) (by assumption) (by assumption) (by assumption) (by assumption) (by assumption) (by assumption) (by assumption) (by assumption) (by assumption) (by assumption) (by assumption) (by assumption) (by assumption) (by assumption) (by assumption) (by assumption) (by assumption) (by assumption) ?_))
  w_top off
  k_fill
  intro w mean mg mb gd fr dp un s Q E X T hd hu n t9 bd o kvs cs hn1 hn4 e1 e2 hc hk ret
  k_dflt (refine wpAny_call ?_; (refine' enter_plain (binds := [(Str.ofString "rows", .int (n : Int) t9), (Str.ofString "board", .ref bd)]) ?k1 ?k5 ?k6 ?k7 ?k8 ?k9 ?kB ?_ ?c2 ?c3 ?c4 ?c5; (case k1 => k_asm); (case k5 => k_asm); (case k6 => k_is); (case k7 => k_is); (case k8 => k_room); (case k9 => exact BindsTo.of_eq rfl); (case c5 => decide); (case kB => exact locs rfl); (case c2 => exact rfl); (case c3 => exact rfl); (case c4 => exact rfl); k_whole; intro h₀ L h₁ eH eL F N X T; (try dsimp only)))
  rw [← eH] at e1 hc
  (try ((with_reducible show wpAny _ _ _ _ _ _); k_fold))
  k_steps
  rename_i fd ha od0 hlo hs fs hd0 fi l0 hb r u v hcur tkc F9 N9 l1
  have hR0 := small5 (n : Int) (by omega) (by omega)
  refine iter_range (n := n) (fun i m₁ news₁ => ∃ od fz kv, news₁ = (fd, od) :: fz ∧ od.IsDictOf (intKind PySem.Challenge.rw_rl0022_01.prog w) kv ∧ Cells w (fun a o => (a, o) ∈ fz) kv ((doneK n i 0).map (fallK cs)) ∧ (∀ p ∈ fz, p.1 ≠ fd) ∧
    ∀ y, [Str.ofString "red", Str.ofString "green", Str.ofString "key"].contains y = false → m₁ y = (if y = Str.ofString "fallen" then some (Value.ref fd) else List.lookup y [(Str.ofString "rows", Value.int (↑n) t9), (Str.ofString "board", Value.ref bd)].reverse)) rfl (N9.get (by k_mem)) hR0.1 hR0.2 F9 (fun p hp => N9 p (List.mem_cons_of_mem _ hp)) ⟨od0, [], [], rfl, hd0, .nil, (by intro p hp; cases hp), fun _ _ => rfl⟩ ?_ ?_
  · rintro I oI i t m₁ news₁ h tk hi ⟨od, fz, kv, rfl, hdo, hcl, hne, hm⟩ hltI hneI F1 N1
    rw [js_fun hm] at F1
    simp only [Int.zero_add] at F1
    clear hm F9 N9 hltI
    have hneI' : ∀ p ∈ fz, p.1 ≠ I := fun p hp => hneI p (List.mem_cons_of_mem _ hp)
    have hfI : fd ≠ I := hneI (fd, od) (List.mem_cons_self ..)
    (try ((with_reducible show wpAny _ _ _ _ _ _); k_fold))
    k_steps
    rename_i r2 u2 v2 h2 tk2 F2 N2 l2
    have hij : ((n : Int) - (i : Int)) = ((n - i : Nat) : Int) := by omega
    rw [hij] at N2
    have hR2 := small5 ((n - i : Nat) : Int) (by omega) (by omega)
    refine iter_range (n := n - i) (fun j m₁ news₁ => ∃ od fz kv, news₁ = (I, oI) :: (fd, od) :: fz ∧ od.IsDictOf (intKind PySem.Challenge.rw_rl0022_01.prog w) kv ∧ Cells w (fun a o => (a, o) ∈ fz) kv ((doneK n i j).map (fallK cs)) ∧ (∀ p ∈ fz, p.1 ≠ fd) ∧ (∀ p ∈ fz, p.1 ≠ I) ∧
      ∀ y, [Str.ofString "green", Str.ofString "key"].contains y = false → m₁ y = (if y = Str.ofString "red" then some (Value.int (i : Int) t) else if y = Str.ofString "fallen" then some (Value.ref fd) else if [Str.ofString "red", Str.ofString "green", Str.ofString "key"].contains y then none else List.lookup y [(Str.ofString "rows", Value.int (↑n) t9), (Str.ofString "board", Value.ref bd)].reverse)) rfl (N2.get (by k_mem)) hR2.1 hR2.2 F2 (fun p hp => N2 p (List.mem_cons_of_mem _ hp)) ⟨od, fz, kv, rfl, hdo, hcl, hne, hneI', ?_⟩ ?_ ?_
    · intro y hy
      by_cases q1 : y = Str.ofString "red"
      · rw [if_pos q1, if_pos q1]
      · have q2 : [Str.ofString "red", Str.ofString "green", Str.ofString "key"].contains y = false := by
          rw [List.contains_cons, hy, Bool.or_false]
          simpa using q1
        rw [if_neg q1, if_neg q1, q2]
        rfl
    · rintro I2 oI2 j t2 m₂ news₂ h tk hj ⟨od2, fz2, kv2, rfl, hdo2, hcl2, hne2, hneI2, hm2⟩ hltI2 hneJ2 F3 N3
      rw [js_fun hm2] at F3
      simp only [Int.zero_add] at F3
      clear hm2 F2 N2 hltI2
      have q1 : (doneK n i j).length < 60 := doneK_length n i j (by omega) (by omega)
      have q2 : kv2.length < 100 := by have := hcl2.length; simp at this; omega
      obtain ⟨x1, d1, lu1, lr1, s11, s12, s13, s14, vs1, k1, rl1, n1, v1, a1, b1, c1, g1, f1, y1⟩ := hc.get (lookup_of_key (k := 8 * (i : Int) + (j : Int) + 8) (by rw [hk]; have := mem_keysT (n := n + 1) (r := i + 1) (g := j) (by omega) (by omega); exact (by omega : 8 * ((i + 1 : Nat) : Int) + (j : Int) = 8 * (i : Int) + (j : Int) + 8) ▸ this))
      obtain ⟨x2, d2, lu2, lr2, s21, s22, s23, s24, vs2, k2, rl2, n2, v2, a2, b2, c2, g2, f2, y2⟩ := hc.get (lookup_of_key (k := 8 * (i : Int) + (j : Int) + 1) (by rw [hk]; have := mem_keysT (n := n + 1) (r := i) (g := j + 1) (by omega) (by omega); exact (by omega : 8 * (i : Int) + ((j + 1 : Nat) : Int) = 8 * (i : Int) + (j : Int) + 1) ▸ this))
      obtain ⟨x3, d3, lu3, lr3, s31, s32, s33, s34, vs3, k3, rl3, n3, v3, a3, b3, c3, g3, f3, y3⟩ := hc.get (lookup_of_key (k := 8 * (i : Int) + (j : Int)) (by rw [hk]; exact mem_keysT (by omega) (by omega)))
      have hf2 : @Ne Nat fd I2 := hneJ2 (fd, od2) (by simp)
      have hf1 : @Ne Nat fd I := hfI
      have hI2 : @Ne Nat I I2 := hneJ2 (I, oI) (by simp)
      (try ((with_reducible show wpAny _ _ _ _ _ _); k_fold))
      k_steps
      rename_i hq1 xN dN aN bN z1 z2 z3 z4 vsN kN rlN nN hq2 tkN haN hrN lN1 lN2 lN3 lN4 hq3 oN FN NN hdN
      rw [stored_new (by rw [hcl2.keys, List.map_map]; simpa [Function.comp_def, fallK] using doneK_new (by omega) hj)] at hdN
      have hcl3 : Cells w (fun a o => (a, o) ∈ (bN, W.listOf rlN.toArray nN) :: (aN, W.listOf vsN.toArray kN) :: (xN, instObj 52 dN) :: (dN, dictOf (entD w z1 z2 z3 z4 aN bN) 4) :: fz2) (kv2 ++ [(8 * (i : Int) + (j : Int), .ref xN)]) ((doneK n i (j + 1)).map (fallK cs)) := by
        rw [doneK_succ hj, List.map_append]
        exact (hcl2.mono fun a o h => List.mem_cons_of_mem _ (List.mem_cons_of_mem _ (List.mem_cons_of_mem _ (List.mem_cons_of_mem _ h)))).snoc (List.mem_cons_of_mem _ (List.mem_cons_of_mem _ (List.mem_cons_self ..))) (List.mem_cons_of_mem _ (List.mem_cons_of_mem _ (List.mem_cons_of_mem _ (List.mem_cons_self ..)))) (List.mem_cons_of_mem _ (List.mem_cons_self ..)) (List.mem_cons_self ..) haN hrN
      refine TurnPost.go _ (by assumption) (by assumption) (by k_mem) ?sub ?off ⟨oN, _, _, rfl, hdN, hcl3, ?c1, ?c2, fun y hy => ?c3⟩
      case sub =>
        intro p hp
        iterate 6 (rcases List.mem_cons.mp hp with rfl | hp; (· k_mem))
        (repeat (first | exact hp | refine List.Mem.tail _ ?_))
      case off =>
        exact List.forall_mem_cons.mpr ⟨hI2, List.forall_mem_cons.mpr ⟨hf2, led4_ne (by omega) lN2 lN3 lN4 (fun p hp => hneJ2 p (.tail _ (.tail _ hp)))⟩⟩
      case c1 =>
        exact led4_ne (by omega) lN2 lN3 lN4 hne2
      case c2 =>
        exact led4_ne (by omega) lN2 lN3 lN4 hneI2
      case c3 =>
        simp only [if_neg (ne_forgot hy (a := Str.ofString "green") (by decide)), if_neg (ne_forgot hy (a := Str.ofString "key") (by decide)), hy, Bool.false_eq_true, if_false]
    · rintro m₂ news₂ h tk ⟨od2, fz2, kv2, rfl, hdo2, hcl2, hne2, hneI2, hm2⟩ F3 N3
      (try ((with_reducible show wpAny _ _ _ _ _ _); k_fold))
      k_steps
      refine TurnPost.go ((fd, od2) :: fz2) F3 N3 (by k_mem) (fun p hp => List.mem_cons_of_mem _ hp) ?_ ⟨od2, fz2, kv2, rfl, hdo2, ?_, hne2, fun y hy => ?_⟩
      · intro p hp
        rcases List.mem_cons.mp hp with h | h
        · rw [h]; exact hfI
        · exact hneI2 p h
      · rw [← doneK_full]; exact hcl2
      · have q1 : [Str.ofString "green", Str.ofString "key"].contains y = false := by
          rw [List.contains_cons] at hy
          exact (Bool.or_eq_false_iff.mp hy).2
        rw [hm2 y q1, if_neg (ne_forgot hy (a := Str.ofString "red") (by decide)), hy]
        rfl
  · rintro m₁ news₁ h tk ⟨od, fz, kv, rfl, hdo, hcl, hne, hm⟩ F1 N1
    have e : m₁ = fun y => if [Str.ofString "red", Str.ofString "green", Str.ofString "key"].contains y then m₁ y else (if y = Str.ofString "fallen" then some (Value.ref fd) else List.lookup y [(Str.ofString "rows", Value.int (↑n) t9), (Str.ofString "board", Value.ref bd)].reverse) := by
      funext y
      cases q : [Str.ofString "red", Str.ofString "green", Str.ofString "key"].contains y with
      | true => simp
      | false => simp only [Bool.false_eq_true, if_false]; exact hm y q
    rw [e] at F1
    clear hm F9 N9 e
    (try ((with_reducible show wpAny _ _ _ _ _ _); k_fold))
    k_steps
    rw [doneK_zero] at hcl
    refine (?_ : Q (.ref fd) _)
    exact ret fd od kv fz _ (keeps_of eH (by assumption)) hlo (fun p hp => by subst eH; exact ⟨(N1 p hp).1, (N1 p hp).2.2⟩) hdo hcl
end Mine

/- part A7 -/
namespace Mine
local macro_rules | `(tactic| walk_at "call type:range") => `(tactic| (k_extra "A7 1"; intro r' u' v' h' tk' F' N' l1; (try k_lt l1); (try k_sweep)))
local macro_rules | `(tactic| walk_at "setItem ref int") => `(tactic| (k_extra "A7 2"; intro h' o' F' N' hd'; (try k_sweep)))
local macro_rules | `(tactic| k_all) => `(tactic| assumption)
local macro_rules | `(tactic| walk_at "call ref") => `(tactic| (k_extra "A7 3"; intro x' d' a' b' t1' t2' t3' t4' h' tk' F' N' l1 l0 l2 l3 l4; (try k_lt l1); (try k_lt2 l0); (try k_lt2 l2); (try k_lt2 l3); (try k_lt2 l4); (try k_sweep)))
theorem allLt_ne {d a : Nat} : ∀ {l : List (Addr × Obj)}, AllLt d l → @LE.le Nat _ d a → ∀ p ∈ l, p.1 ≠ a
  | [], _, _, p, hp => nomatch hp
  | q :: r, h, ha, p, hp => by
    rcases List.mem_cons.mp hp with e | e
    · subst e; exact Nat.ne_of_lt (Nat.lt_of_lt_of_le h.1 ha)
    · exact allLt_ne h.2 ha p e
local macro_rules | `(tactic| k_all) => `(tactic| exact allLt_ne (And.right (And.right (And.right (by assumption)))) (by omega))
theorem pick_L {prog : Program} {w : World} {A : Around} {E : Value → Shared → Prop} {s : Shared} {h₀ : Heap} {L : Addr} {news : List (Addr × Obj)} {value slice : PySem.Expr} {l : Addr} {q : Nat} {t1 t2 u : Tok} {Q : Value → Shared → Prop} (N : News h₀ L s.heap news) (hm : (l, W.listOf #[.str (Str.ofString "fig") t1, .str (Str.ofString "owl") t2] 0) ∈ news) (h : ∀ t, Q (.str (pstr (q % 2 == 1)) t) s)
    (hs : ∀ k : Int, subscripted slice false (.ref l) (.int k u) = operate [.ref l, .int k u] (getItem (.ref l) (.int k u)) := by intro k; with_unfolding_all rfl) :
    wpAny (model prog w) A (subscriptTail value slice (.ref l) (.int ((q : Int).fmod 2) u)) Q E s := by
  have hl : s.heap.IsList l (List.toArray [.str (Str.ofString "fig") t1, .str (Str.ofString "owl") t2]) := ⟨_, N.get hm, rfl, _, rfl⟩
  rcases (show q % 2 = 0 ∨ q % 2 = 1 by omega) with e | e
  · have : (q : Int).fmod 2 = 0 := by rw [Int.fmod_eq_emod_of_nonneg _ (by omega)]; omega
    rw [this]
    refine item_litK hl (by omega) (by omega) rfl ?_ (hs _)
    have := h t1
    rw [e] at this
    exact this
  · have : (q : Int).fmod 2 = 1 := by rw [Int.fmod_eq_emod_of_nonneg _ (by omega)]; omega
    rw [this]
    refine item_litK hl (by omega) (by omega) rfl ?_ (hs _)
    have := h t2
    rw [e] at this
    exact this
local macro_rules | `(tactic| walk_at "subscriptTail") => `(tactic| (k_extra "A7 4"; intro t'))
def boardM (n c : Nat) : List (Int × Bool) := ((keysT (n + 1)).zipIdx).map fun p => (p.1, (c / 2 ^ p.2) % 2 == 1)
set_option maxRecDepth 100000 in
set_option maxHeartbeats 8000000 in
theorem board_spec : ∀ (w : World) (mean : ExcName → Option Value) (mg mb : Str → Option Value) (gd : Option (List Code)) (fr : Option (List Env)) (dp un : Nat) (s : Shared) (Q E : Value → Shared → Prop)
    (X : (Mine.hd.heap_39 w.params).In s.heap) (T : Top Mine.hd.view_39 (looseW Mine.hd.view_39 []) mean mg mb s.heap) (hd : dp + 80 < recursionLimit) (hu : un + 800 < cLine)
    (n c : Nat) (t9 t8 : Tok) (hn1 : 1 ≤ n) (hn4 : n ≤ 4)
    (ret : ∀ fd od kv fz s', Keeps s s' → (fd == sysModules) = false → (∀ p ∈ (fd, od) :: fz, s'.heap.get? p.1 = some p.2 ∧ s.heap.get? p.1 = none) → od.IsDictOf (intKind PySem.Challenge.rw_rl0022_01.prog w) kv → Cells w (fun a o => (a, o) ∈ fz) kv (boardM n c) → Q (.ref fd) s'),
    wpAny (model PySem.Challenge.rw_rl0022_01.prog w) (arnd dp un gd fr) (call (.ref 77) [.int (n : Int) t9, .int (c : Int) t8]) Q E s := by
  k_with_none
  k_with "A7 1" => ((with_reducible show wpAny _ _ (call _ [_]) _ _ _); k_dflt (refine' range_L (by k_asm) (by k_asm) ?_))
  k_with "A7 2" => (k_dflt (refine' set_D (by k_asm) (by k_asm) (by k_updF) (by assumption) (by assumption) ?_))
  k_with "A7 3" => ((with_reducible show wpAny _ _ (call (Value.ref 52) _) _ _ _); k_dflt (refine' entry_L (by k_asm) (by k_asm) (by k_asm) (by k_asm) (by k_room) (by kdy_size) ?_))
  k_with "A7 4" => ((with_reducible show wpAny _ _ (subscriptTail _ _ (Value.ref _) (Value.int _ _)) _ _ _); k_dflt (refine' pick_L (by k_asm) (by k_mem) ?_ (by (intro k; with_unfolding_all rfl))))
  w_top off
  k_fill
  intro w mean mg mb gd fr dp un s Q E X T hd hu n c t9 t8 hn1 hn4 ret
  k_dflt (refine wpAny_call ?_; (refine' enter_plain (binds := [(Str.ofString "size", .int (n : Int) t9), (Str.ofString "code", .int (c : Int) t8)]) ?k1 ?k5 ?k6 ?k7 ?k8 ?k9 ?kB ?_ ?c2 ?c3 ?c4 ?c5; (case k1 => k_asm); (case k5 => k_asm); (case k6 => k_is); (case k7 => k_is); (case k8 => k_room); (case k9 => exact BindsTo.of_eq rfl); (case c5 => decide); (case kB => exact locs rfl); (case c2 => exact rfl); (case c3 => exact rfl); (case c4 => exact rfl); k_whole; intro h₀ L h₁ eH eL F N X T; (try dsimp only)))
  (try ((with_reducible show wpAny _ _ _ _ _ _); k_fold))
  k_steps
  rename_i fd ha od0 hlo hs fs hd0 fi l0 hb r u v hcur tkc F9 N9 l1
  have hij : ((n : Int) + 1) = ((n + 1 : Nat) : Int) := by omega
  rw [hij] at N9
  have hR0 := small5 ((n + 1 : Nat) : Int) (by omega) (by omega)
  refine iter_range (n := n + 1) (fun i m₁ news₁ => ∃ od fz kv cs t, news₁ = (fd, od) :: fz ∧ od.IsDictOf (intKind PySem.Challenge.rw_rl0022_01.prog w) kv ∧ Cells w (fun a o => (a, o) ∈ fz) kv cs ∧ cs = ((doneK (n + 1) i 0).zipIdx).map (fun p => (p.1, (c / 2 ^ p.2) % 2 == 1)) ∧ (∀ p ∈ fz, p.1 ≠ fd) ∧
    ∀ y, [Str.ofString "red", Str.ofString "green", Str.ofString "cell"].contains y = false → m₁ y = (if y = Str.ofString "code" then some (Value.int ((c / 2 ^ kv.length : Nat) : Int) t) else if y = Str.ofString "board" then some (Value.ref fd) else List.lookup y [(Str.ofString "size", Value.int (↑n) t9), (Str.ofString "code", Value.int (↑c) t8)].reverse)) rfl (N9.get (by k_mem)) hR0.1 hR0.2 F9 (fun p hp => N9 p (List.mem_cons_of_mem _ hp)) ⟨od0, [], [], [], t8, rfl, hd0, .nil, rfl, (by intro p hp; cases hp), ?_⟩ ?_ ?_
  · intro y hy
    by_cases y1 : y = Str.ofString "code"
    · subst y1
      simp only [List.length_nil, Nat.pow_zero, Nat.div_one]
      rfl
    · rw [if_neg y1]
  · rintro I oI i t m₁ news₁ h tk hi ⟨od, fz, kv, cs, tc, rfl, hdo, hcl, hcs, hne, hm⟩ hltI hneI F1 N1
    rw [js_fun hm] at F1
    simp only [Int.zero_add] at F1
    clear hm F9 N9 hltI
    have hneI' : ∀ p ∈ fz, p.1 ≠ I := fun p hp => hneI p (List.mem_cons_of_mem _ hp)
    have hfI : fd ≠ I := hneI (fd, od) (List.mem_cons_self ..)
    (try ((with_reducible show wpAny _ _ _ _ _ _); k_fold))
    k_steps
    rename_i r2 u2 v2 h2 tk2 F2 N2 l2
    have hij2 : ((n : Int) + 1 - (i : Int)) = ((n + 1 - i : Nat) : Int) := by omega
    rw [hij2] at N2
    have hR2 := small5 ((n + 1 - i : Nat) : Int) (by omega) (by omega)
    refine iter_range (n := n + 1 - i) (fun j m₁ news₁ => ∃ od fz kv cs tc, news₁ = (I, oI) :: (fd, od) :: fz ∧ od.IsDictOf (intKind PySem.Challenge.rw_rl0022_01.prog w) kv ∧ Cells w (fun a o => (a, o) ∈ fz) kv cs ∧ cs = ((doneK (n + 1) i j).zipIdx).map (fun p => (p.1, (c / 2 ^ p.2) % 2 == 1)) ∧ (∀ p ∈ fz, p.1 ≠ fd) ∧ (∀ p ∈ fz, p.1 ≠ I) ∧
      ∀ y, [Str.ofString "green", Str.ofString "cell"].contains y = false → m₁ y = (if y = Str.ofString "red" then some (Value.int (i : Int) t) else if y = Str.ofString "code" then some (Value.int ((c / 2 ^ kv.length : Nat) : Int) tc) else if y = Str.ofString "board" then some (Value.ref fd) else if [Str.ofString "red", Str.ofString "green", Str.ofString "cell"].contains y then none else List.lookup y [(Str.ofString "size", Value.int (↑n) t9), (Str.ofString "code", Value.int (↑c) t8)].reverse)) rfl (N2.get (by k_mem)) hR2.1 hR2.2 F2 (fun p hp => N2 p (List.mem_cons_of_mem _ hp)) ⟨od, fz, kv, cs, tc, rfl, hdo, hcl, hcs, hne, hneI', ?_⟩ ?_ ?_
    · intro y hy
      by_cases q1 : y = Str.ofString "red"
      · rw [if_pos q1, if_pos q1]
      · have q2 : [Str.ofString "red", Str.ofString "green", Str.ofString "cell"].contains y = false := by
          rw [List.contains_cons, hy, Bool.or_false]
          simpa using q1
        rw [if_neg q1, if_neg q1, q2]
        rfl
    · rintro I2 oI2 j t2 m₂ news₂ h tk hj ⟨od2, fz2, kv2, cs2, tc2, rfl, hdo2, hcl2, hcs2, hne2, hneI2, hm2⟩ hltI2 hneJ2 F3 N3
      rw [js_fun hm2] at F3
      simp only [Int.zero_add] at F3
      clear hm2 F2 N2 hltI2
      have q1 : (doneK (n + 1) i j).length < 60 := doneK_length (n + 1) i j (by omega) (by omega)
      have q3 : kv2.length = (doneK (n + 1) i j).length := by have := hcl2.length; rw [hcs2] at this; simpa using this
      have q2 : kv2.length < 100 := by omega
      have hf2 : @Ne Nat fd I2 := hneJ2 (fd, od2) (by simp)
      have hf1 : @Ne Nat fd I := hfI
      have hI2 : @Ne Nat I I2 := hneJ2 (I, oI) (by simp)
      generalize hq : c / 2 ^ kv2.length = q at F3
      (try ((with_reducible show wpAny _ _ _ _ _ _); k_fold))
      k_steps
      rename_i xN dN aN bN z1 z2 z3 z4 h5 tkN Fo No lN1 lN0 lN2 lN3 lN4 h4 lL h3 lN5 tN h2' h1' oN hdN h0' FN NN
      rw [stored_new (by rw [hcl2.keys, hcs2, List.map_map]; simpa [Function.comp_def] using doneK_new (by omega) hj)] at hdN
      have hag : Ag [Value.str (pstr (q % 2 == 1)) tN] [q % 2 == 1] := Ag.cons _ _ .nil
      have hcl3 : Cells w (fun a o => (a, o) ∈ (bN, W.listOf #[] 0) :: (aN, W.listOf (#[].push (Value.str (pstr (q % 2 == 1)) tN)) (0 + 1)) :: (xN, instObj 52 dN) :: (dN, dictOf (entD w z1 z2 z3 z4 aN bN) 4) :: fz2) (kv2 ++ [(8 * (i : Int) + (j : Int), .ref xN)]) (((doneK (n + 1) i (j + 1)).zipIdx).map (fun p => (p.1, (c / 2 ^ p.2) % 2 == 1))) := by
        rw [doneK_succ hj, List.zipIdx_append, List.map_append, ← hcs2]
        simp only [List.zipIdx_cons, List.zipIdx_nil, List.map_cons, List.map_nil, Nat.zero_add]
        rw [← q3, hq]
        exact (hcl2.mono fun a o h => List.mem_cons_of_mem _ (List.mem_cons_of_mem _ (List.mem_cons_of_mem _ (List.mem_cons_of_mem _ h)))).snoc (rl := []) (List.mem_cons_of_mem _ (List.mem_cons_of_mem _ (List.mem_cons_self ..))) (List.mem_cons_of_mem _ (List.mem_cons_of_mem _ (List.mem_cons_of_mem _ (List.mem_cons_self ..)))) (List.mem_cons_of_mem _ (List.mem_cons_self ..)) (List.mem_cons_self ..) hag (Nat.le_of_ble_eq_true rfl)
      refine TurnPost.go _ (by assumption) (by assumption) (by k_mem) ?sub ?off ⟨oN, _, _, _, tk + 1 + 1 + 1 + 1 + 1, rfl, hdN, hcl3, rfl, ?c1, ?c2, fun y hy => ?c3⟩
      case sub =>
        intro p hp
        iterate 6 (rcases List.mem_cons.mp hp with rfl | hp; (· k_mem))
        (repeat (first | exact hp | refine List.Mem.tail _ ?_))
      case off =>
        exact List.forall_mem_cons.mpr ⟨hI2, List.forall_mem_cons.mpr ⟨hf2, led4_ne (by omega) lN2 lN3 lN4 (fun p hp => hneJ2 p (.tail _ (.tail _ hp)))⟩⟩
      case c1 =>
        exact led4_ne (by omega) lN2 lN3 lN4 hne2
      case c2 =>
        exact led4_ne (by omega) lN2 lN3 lN4 hneI2
      case c3 =>
        have hq2 : ((q : Int).fdiv 2) = ((c / 2 ^ (kv2 ++ [(8 * (i : Int) + (j : Int), Value.ref xN)]).length : Nat) : Int) := by
          rw [Int.fdiv_eq_ediv_of_nonneg _ (by omega), List.length_append, List.length_singleton, Nat.pow_succ, ← Nat.div_div_eq_div_mul, hq]
          omega
        rw [hq2]
        simp only [if_neg (ne_forgot hy (a := Str.ofString "green") (by decide)), if_neg (ne_forgot hy (a := Str.ofString "cell") (by decide)), hy, Bool.false_eq_true, if_false]
        by_cases y1 : y = Str.ofString "code"
        · have y2 : ¬ y = Str.ofString "red" := by rw [y1]; decide
          simp only [if_pos y1, if_neg y2]
        · simp only [if_neg y1]
    · rintro m₂ news₂ h tk ⟨od2, fz2, kv2, cs2, tc2, rfl, hdo2, hcl2, hcs2, hne2, hneI2, hm2⟩ F3 N3
      (try ((with_reducible show wpAny _ _ _ _ _ _); k_fold))
      k_steps
      refine TurnPost.go ((fd, od2) :: fz2) F3 N3 (by k_mem) (fun p hp => List.mem_cons_of_mem _ hp) ?_ ⟨od2, fz2, kv2, cs2, tc2, rfl, hdo2, hcl2, ?_, hne2, fun y hy => ?_⟩
      · intro p hp
        rcases List.mem_cons.mp hp with h | h
        · rw [h]; exact hfI
        · exact hneI2 p h
      · rw [← doneK_full]; exact hcs2
      · have q1 : [Str.ofString "green", Str.ofString "cell"].contains y = false := by
          rw [List.contains_cons] at hy
          exact (Bool.or_eq_false_iff.mp hy).2
        rw [hm2 y q1, if_neg (ne_forgot hy (a := Str.ofString "red") (by decide)), hy]
        rfl
  · rintro m₁ news₁ h tk ⟨od, fz, kv, cs, tc, rfl, hdo, hcl, hcs, hne, hm⟩ F1 N1
    have e : m₁ = fun y => if [Str.ofString "red", Str.ofString "green", Str.ofString "cell"].contains y then m₁ y else (if y = Str.ofString "code" then some (Value.int ((c / 2 ^ kv.length : Nat) : Int) tc) else if y = Str.ofString "board" then some (Value.ref fd) else List.lookup y [(Str.ofString "size", Value.int (↑n) t9), (Str.ofString "code", Value.int (↑c) t8)].reverse) := by
      funext y
      cases q : [Str.ofString "red", Str.ofString "green", Str.ofString "cell"].contains y with
      | true => simp
      | false => simp only [Bool.false_eq_true, if_false]; exact hm y q
    rw [e] at F1
    clear hm F9 N9 e
    (try ((with_reducible show wpAny _ _ _ _ _ _); k_fold))
    k_steps
    rw [hcs, doneK_zero] at hcl
    refine (?_ : Q (.ref fd) _)
    exact ret fd od kv fz _ (keeps_of eH (by assumption)) hlo (fun p hp => by subst eH; exact ⟨(N1 p hp).1, (N1 p hp).2.2⟩) hdo hcl
end Mine

/- part AJ -/
namespace Mine
local macro_rules | `(tactic| k_ne) => `(tactic| k_extra "ne")
local macro_rules | `(tactic| k_lt $h:ident) => `(tactic| (replace $h := addrs_of $h; dsimp only [List.map] at $h:ident))
section
variable {prog : Program} {w : World} {A : Around} {E : Value → Shared → Prop} {s : Shared} {h₀ : Heap} {L : Addr} {m : Str → Option Value} {news : List (Addr × Obj)} {env : Env}
theorem owner_J {kx vx iter : PySem.Expr} {x yn : Str} {px py : Pos} {scope : Scope} {cl : List (Str × Addr)} {pos spos : Pos} {Q : Flow → Shared → Prop} {bd : Addr} {o : Obj} {kvs : List (Int × Value)} {cs : List (Int × Bool)}
    (_F : Fr h₀ L s.heap m) (_N : News h₀ L s.heap news) (hc : Cells w (fun a o => h₀.get? a = some o) kvs cs) (ho : h₀.get? bd = some o) (hd : o.IsDictOf (intKind prog w) kvs) (hsys : (bd == sysModules) = false) (hz : kvs.length < 100) (hnd : (kvs.map (·.1)).Nodup)
    (h : wpAny (model prog w) A (eval iter env) (OwnerPost prog w A env h₀ L m news scope cl x kx vx bd kvs (FVj h₀ cs) yn Q) E s)
    (hsw : swapsWith (.DictComp kx vx [⟨.Name x px, iter, [], 0⟩] scope pos) (some (.Name yn py)) spos.line env = pure true) (hL : env.locals = L) (hy : env.kindOf yn = some .local) (hpl : (env.scope.kind == .class || (env.scope.kind == .module && env.locals != env.globals)) = false)
    (hh : A.handled = none) (hclos : closureFor scope env = pure cl) (hcell : ∀ y ∈ scope.names, y.2 ≠ .cell) (hkind : scope.kind = .function)
    (hnames : ∀ y ∈ scope.names, y.2 = .local → scope.names.lookup y.1 = some .local) (hx : scope.names.lookup x = some .local)
    (hs : ∀ x, foldedSetIterable iter env x = pure x) :
    wpAny (model prog w) A (exec (.Assign [.Name yn py] (.DictComp kx vx [⟨.Name x px, iter, [], 0⟩] scope pos) spos) env) Q E s :=
  owner_L hsw hL hy hpl hh hclos hcell hkind hnames hx hs ho hd hsys hz hnd h
end
local macro_rules | `(tactic| walk_at "call builtin:list.append") => `(tactic| (k_extra "AJ 1"; intro h' vs' n' F' N' hi'; (try k_sweep)))
def Hold (p : Prop) : Prop := p
theorem Hold.mk {p : Prop} (h : Hold p) : p := h
local macro_rules | `(tactic| walk_at "exec While Compare") => `(tactic| refine Hold.mk ?_)
local macro_rules | `(tactic| walk_at "pyIter ref") => `(tactic| refine Hold.mk ?_)
local macro_rules | `(tactic| walk_at "exec For Name List cons nil") => `(tactic| ((rename Fr _ _ _ _ => lF'); (with_unfolding_all refine' For_invVF lF' ?k1 ?k2 ?_; (case k1 => exact rfl); (case k2 => exact rfl))))
local macro_rules | `(tactic| walk_at "call builtin:list.pop") => `(tactic| (k_extra "AJ 2"; intro h' vs' n' t' F' N' hi'; (try k_sweep)))
local macro_rules | `(tactic| walk_at "call builtin:list.extend") => `(tactic| (k_extra "AJ 3"; intro h' vs' n' F' N' hi'; (try k_sweep)))
local macro_rules | `(tactic| walk_at "call ref") => `(tactic| (k_extra "AJ 4"; intro r' vs' k' h' tk' F' N' hne' hi'; (try simp only [AllNe, and_true] at hne'); (try k_sweep)))
local macro_rules | `(tactic| walk_at "subscriptTail") => `(tactic| (k_extra "AJ 5"; intro lu' us' kk' hlu' hag'))
local macro_rules | `(tactic| walk_at "call builtin:list.append") => `(tactic| (k_extra "AJ 6"; intro h' vs' n' F' N' hj'; (try k_sweep)))
local macro_rules | `(tactic| walk_at "call builtin:dict.get") => `(tactic| (k_extra "AJ 7"; intro v' hov'))
theorem keysT_facts : ∀ n < 5, (keysT (n + 1)).length < 100 ∧ (keysT (n + 1)).Nodup := by decide +kernel
set_option maxRecDepth 100000 in
set_option maxHeartbeats 8000000 in
theorem joined_spec : ∀ (w : World) (mean : ExcName → Option Value) (mg mb : Str → Option Value) (gd : Option (List Code)) (fr : Option (List Env)) (dp un : Nat) (s : Shared) (Q E : Value → Shared → Prop)
    (X : (Mine.hd.heap_39 w.params).In s.heap) (T : Top Mine.hd.view_39 (looseW Mine.hd.view_39 []) mean mg mb s.heap) (hd : dp + 80 < recursionLimit) (hu : un + 800 < cLine)
    (n : Nat) (t9 : Tok) (bd : Addr) (o : Obj) (kvs : List (Int × Value)) (cs : List (Int × Bool)) (hn1 : 1 ≤ n) (hn4 : n ≤ 4) (hsys : (bd == sysModules) = false) (e1 : s.heap.get? bd = some o) (e2 : o.IsDictOf (intKind PySem.Challenge.rw_rl0022_01.prog w) kvs) (hc : Cells w (fun a o => s.heap.get? a = some o) kvs cs) (hk : cs.map (·.1) = keysT (n + 1))
    (res : List Bool) (hres : joinedM n cs = some res)
    (ret : ∀ r jv k s', Keeps s s' → s.heap.get? r = none → s'.heap.get? r = some (W.listOf (List.toArray jv) k) → JL s.heap jv res → Q (.ref r) s'),
    wpAny (model PySem.Challenge.rw_rl0022_01.prog w) (arnd dp un gd fr) (call (.ref 99) [.int (n : Int) t9, .ref bd]) Q E s := by
  k_with_none
  k_with "ne" => ((try dsimp only); first | (refine' AddrLt.ne (by assumption) (by k_mem)) | (refine' AddrLt.ne' (by assumption) (by k_mem)) | ((rename (_ ≠ _ ∧ _) => hne); first | (simp only [hne, ne_eq, not_false_eq_true]; done) | (refine Ne.symm ?_; simp only [hne, ne_eq, not_false_eq_true]; done)) | fail "no order")
  k_with "exec Assign cons DictComp" => (k_dflt (refine' owner_J (by k_asm) (by k_asm) (by assumption) (by assumption) (by assumption) (by assumption) (by assumption) (by assumption) ?_ (by with_unfolding_all rfl) (by with_unfolding_all rfl) (by with_unfolding_all rfl) (by with_unfolding_all rfl) (by with_unfolding_all rfl) (by with_unfolding_all rfl) (by decide) (by with_unfolding_all rfl) (by decide) (by with_unfolding_all rfl) (by intro _; with_unfolding_all rfl)))
  k_with "compareOp NotIn int ref" => (k_dflt (refine' notin_J (by k_asm) (by k_mem) (by assumption) ?_))
  k_with "compareOp In int ref" => (k_dflt (refine' in_J (by k_asm) (by k_mem) (by assumption) ?_))
  k_with "AJ 1" => (k_dflt (refine' append_J (by k_asm) (by k_asm) (by k_updF) (by assumption) (by omega) ?_))
  k_with "compareOp NotEq ref ref" => (k_dflt (refine' ne_nil_J (by k_asm) (by k_mem) (by k_mem) (by assumption) (by kdy_size) ?_))
  k_with "WhlIf" => (first | refine WhlIf.yes (by assumption) ?_ | refine WhlIf.no (by assumption) ?_)
  k_with "AJ 2" => (k_dflt (refine' pop_J (by k_asm) (by k_asm) (by k_updF) (by assumption) (by assumption) (by omega) ?_))
  k_with "AJ 3" => (k_dflt (refine' extend_J (by k_asm) (by k_asm) (by k_mem) (by k_updF) (by assumption) (by assumption) (by omega) (by omega) ?_))
  k_with "AJ 4" => ((with_reducible show wpAny _ _ (call (Value.ref 94) _) _ _ _); k_dflt (refine' edges_J (by k_asm) (by k_asm) (by k_asm) (by k_asm) (by k_room) (by kdy_size) (by assumption) (by assumption) (by assumption) ?_))
  k_with "AJ 5" => ((with_reducible show wpAny _ _ (subscriptTail _ _ (Value.ref _) (Value.int _ _)) _ _ _); k_dflt (refine' item_J (by k_asm) (by k_mem) (by assumption) (by assumption) (by assumption) ?_ (by with_unfolding_all rfl)))
  k_with "AJ 6" => ((with_reducible show wpAny _ _ (call (Value.builtin _) [Value.ref _, Value.ref _]) _ _ _); k_dflt (refine' append_R (by k_asm) (by k_asm) (by k_updF) (by assumption) (by assumption) (by assumption) (by omega) ?_))
  k_with "AJ 7" => (k_dflt (refine' get_J (by k_asm) (by k_mem) (by assumption) (by assumption) (by assumption) (by assumption) ?_))
  k_with "compareOp Eq" => (k_dflt (refine' eq_J (by k_asm) (by assumption) (by assumption) (by assumption) (by kdy_size) ?_))
  w_top off
  k_fill
  intro w mean mg mb gd fr dp un s Q E X T hd hu n t9 bd o kvs cs hn1 hn4 hsys e1 e2 hc hk res hres ret
  k_dflt (refine wpAny_call ?_; (refine' enter_cells (binds := [(Str.ofString "size", .int (n : Int) t9), (Str.ofString "board", .ref bd)]) ?k1 ?k5 ?k6 ?k7 ?k8 ?k9 ?kB ?kD ?_ ?c2 ?c3 ?c4; (case k1 => k_asm); (case k5 => k_asm); (case k6 => k_is); (case k7 => k_is); (case k8 => k_room); (case k9 => exact BindsTo.of_eq rfl); (case kB => exact rfl); (case kD => decide +kernel); (case c2 => exact rfl); (case c3 => exact rfl); (case c4 => exact rfl); k_whole; intro h₀ L h₁ tk cells eH eL F N Y X T; k_cells Y; (try dsimp only)))
  rw [← eH] at e1 hc
  have hkk : kvs.map (·.1) = keysT (n + 1) := by rw [hc.keys, hk]
  have hz : kvs.length < 100 := by have := congrArg List.length hkk; rw [List.length_map] at this; rw [this]; exact (keysT_facts n (by omega)).1
  have hnd : (kvs.map (·.1)).Nodup := by rw [hkk]; exact (keysT_facts n (by omega)).2
  (try ((with_reducible show wpAny _ _ _ _ _ _); k_fold))
  k_steps
  with_reducible rename News _ _ _ _ => N9
  with_reducible rename Fr _ _ _ _ => F9
  refine ⟨rfl, F9, N9, modules_low (TopRead.nolimit (by k_asm)), ?_, ?_⟩
  · intro C k y i t s₂ m₂ E' hC hi hn hm hkp
    have FC : Fr h₀ C s₂.heap m₂ := ⟨hn, fun b o e => hkp b o (F9.keep b o e), hC⟩
    have hL1 : s₂.heap.IsCell (L + 1) (some (.ref bd)) := ⟨_, hkp _ _ (N9.get (List.mem_cons_self ..)), by (with_reducible rename (Obj.data _ = _) => hdc); rw [hdc]; with_unfolding_all rfl⟩
    have hkin : k ∈ cs.map (·.1) := by rw [← hc.keys]; exact List.mem_map.mpr ⟨_, List.mem_of_getElem? hi, rfl⟩
    obtain ⟨x9, d9, lu9, lr9, z1, z2, z3, z4, us9, kk9, rl9, n9, hva, hx, hdx, hlu, hlr, hag, _⟩ := hc.get (lookup_of_key hkin)
    refine ⟨?_, ?_⟩
    · exact wpAny_Name (wpAny_loadName_local rfl (by with_unfolding_all rfl) hn hm ⟨rfl, s₂.heap, s₂.toks, rfl, fun _ _ e => e⟩)
    · refine Attribute_any_ (Subscript_ (wpAny_Name (wpAny_loadName_cell rfl (by with_unfolding_all rfl) (by with_unfolding_all rfl) hL1 ?_)))
      refine wpAny_Name (wpAny_loadName_local rfl (by with_unfolding_all rfl) hn hm ?_)
      refine get_D FC e1 e2 hva ?_
      refine get_own (h₀ := h₀) (K := Mine.hd.heap_39 w.params) FC X (inst_base FC hx hdx) ?_ ?_ (attr := none) ?_ ?_ (v := .ref lu9) ?_ ?_ ?_
      · k_is
      · k_is
      · k_is
      · k_is
      · k_get
      · k_handed
      · exact ⟨⟨lu9, us9, kk9, rfl, hlu, hag⟩, s₂.heap, _, rfl, fun _ _ e => e⟩
  · intro D oD kv' h' tk' F8 N8 l1 hlo hdD hOw
    k_lt l1
    clear F9 N9
    rename_i oc hdc
    rw [hkk] at hOw
    (try ((with_reducible show wpAny _ _ _ _ _ _); k_fold))
    k_steps
    rename_i jn h81 lj h82 sn0 h83 ls h84 F9 N9
    unfold Hold
    refine iter_dictF (δ := List Value × Nat × List Int × List Value × Nat × List Bool) [Str.ofString "start", Str.ofString "heap", Str.ofString "touched", Str.ofString "cell", Str.ofString "step"]
      (fun d => [(sn0, W.listOf (List.toArray d.1) d.2.1), (jn, W.listOf (List.toArray d.2.2.2.1) d.2.2.2.2.1), (D, oD), (L + 1, oc)])
      (fun i d => IntsAre d.1 d.2.2.1 ∧ JL h₀ d.2.2.2.1 d.2.2.2.2.2 ∧ outJ n cs ((keysT (n + 1)).drop i) d.2.2.1 d.2.2.2.2.2 = some res)
      ([], 0, [], [], 0, []) rfl hlo hdD F9 N9 ⟨.nil, .nil, hres⟩ (by intro d; k_mem) ?_ ?_
    · rintro I oI i k v t u ⟨sv, ks, sn, jv, kj, js⟩ h tk hv ⟨hsn, hjs, hout⟩ hltI hneI F1 N1
      dsimp only at hsn hjs hout hltI hneI N1
      change Fr h₀ L h _ at F1
      change News h₀ L h _ at N1
      k_lt hltI
      clear F9 N9
      have hkat : (keysT (n + 1))[i]? = some k := by rw [← hOw.keys, List.getElem?_map, hv]; rfl
      have hkin : k ∈ keysT (n + 1) := List.mem_of_getElem? hkat
      rw [List.drop_eq_getElem_cons (List.getElem?_eq_some_iff.mp hkat).1, (List.getElem?_eq_some_iff.mp hkat).2, outJ] at hout
      split at hout
      case isFalse => cases hout
      rename_i hlen
      (try ((with_reducible show wpAny _ _ _ _ _ _); k_fold))
      k_steps
      · rename_i ha
        rw [if_pos ha] at hout
        exact TurnPost.goF (sv, ks, sn, jv, kj, js) F1 N1 (by k_mem) (fun p hp => List.mem_cons_of_mem _ hp) hneI ⟨hsn, hjs, hout⟩ (fun y hy => by (try dsimp only); (repeat (first | refine fo_ne (ne_forgot hy (by decide)) ?_ | refine fo_in hy ?_ | refine fo_in (sub_forgot hy (by decide)) ?_)); rfl)
      · rename_i hnot hA sv1 ks1 hsn1 tkA hn hB lhn hC tkB tn hD ltn hE F2 N2
        rw [if_neg (by rw [hnot]; exact Bool.false_ne_true)] at hout
        split at hout
        · cases hout
        rename_i sn' to' hdfs
        unfold Hold
        refine whl_invF (δ := DW) [Str.ofString "cell", Str.ofString "step"]
          (fun d => [(tn, W.listOf (List.toArray d.tv) d.kt), (hn, W.listOf (List.toArray d.hv) d.kh), (I, oI), (sn0, W.listOf (List.toArray d.sv) d.ks), (jn, W.listOf (List.toArray jv) kj), (D, oD), (L + 1, oc)])
          (fun f d => IntsAre d.sv d.sn ∧ IntsAre d.hv d.hp ∧ IntsAre d.tv d.to ∧ dfsJ n cs k f d.sn d.hp d.to = some (sn', to'))
          ⟨sv1, ks1, sn ++ [k], [.int k t], 0, [k], [], 0, []⟩ 20 ?_ F2 N2 ⟨hsn1, .cons _ _ .nil, .nil, hdfs⟩ ?_ ?_
        · first | passes_own | with_unfolding_all passes_own
        · rintro d ⟨_, _, _, h⟩
          rw [dfsJ] at h
          cases h
        · rintro f u2 ⟨sv2, ks2, sn2, hv2, kh2, hp2, tv2, kt2, to2⟩ h tk ⟨hs2, hh2, ht2, hd2⟩ F3 N3
          dsimp only at hs2 hh2 ht2 hd2 N3
          change Fr h₀ L h _ at F3
          change News h₀ L h _ at N3
          rw [dfsJ] at hd2
          split at hd2
          case isFalse => cases hd2
          rename_i hok
          unfold okJ at hok
          simp only [Bool.and_eq_true, decide_eq_true_eq] at hok
          obtain ⟨z1, z2, z3, z4⟩ := hok
          clear F2 N2
          split at hd2
          · rename_i hemp
            have hb : (!hp2.isEmpty) = false := by rw [hemp]; rfl
            cases hd2
            (try ((with_reducible show wpAny _ _ _ _ _ _); k_fold))
            k_steps
            · rename ((List.any _ (fun x => x == 0)) = _) => b0
              rename ((List.any _ (fun x => x == 1)) = _) => b1
              rename ((List.any _ (fun x => x == 2)) = _) => b2
              have ht : allT to' = true := by unfold allT; rw [b0, b1, b2]; rfl
              rw [if_pos ht] at hout
              rename_i hq9 jv9 kj9 F9 N9 hj9
              refine TurnPost.goF (sv2, ks2, sn', jv9, kj9, js ++ [colAt cs k]) F9 N9 (by k_mem) ?_ ?_ ⟨hs2, hj9, hout⟩ (fun y hy => ?_)
              · intro p hp; (iterate 4 (rcases List.mem_cons.mp hp with rfl | hp; (· k_mem))); cases hp
              · intro p hp; (iterate 4 (rcases List.mem_cons.mp hp with rfl | hp; (· k_ne))); cases hp
              · ((try dsimp only); (repeat (first | refine fo_ne (ne_forgot hy (by decide)) ?_ | refine fo_in hy ?_ | refine fo_in (sub_forgot hy (by decide)) ?_)); rfl)
            all_goals (
              have ht : allT to' = false := by
                unfold allT
                first
                  | (rename ((List.any _ (fun x => x == 2)) = false) => b2; rw [b2]; simp)
                  | (rename ((List.any _ (fun x => x == 1)) = false) => b1; rw [b1]; simp)
                  | (rename ((List.any _ (fun x => x == 0)) = false) => b0; rw [b0]; simp)
              rw [ht, if_neg Bool.false_ne_true] at hout
              with_reducible rename News _ _ _ _ => N9
              with_reducible rename Fr _ _ _ _ => F9
              refine TurnPost.goF (sv2, ks2, sn', jv, kj, js) F9 N9 (by k_mem) ?_ ?_ ⟨hs2, hjs, hout⟩ (fun y hy => ?_)
              · intro p hp; (iterate 4 (rcases List.mem_cons.mp hp with rfl | hp; (· k_mem))); cases hp
              · intro p hp; (iterate 4 (rcases List.mem_cons.mp hp with rfl | hp; (· k_ne))); cases hp
              · ((try dsimp only); (repeat (first | refine fo_ne (ne_forgot hy (by decide)) ?_ | refine fo_in hy ?_ | refine fo_in (sub_forgot hy (by decide)) ?_)); rfl))
          · rename_i hemp
            have hemp2 : hp2.isEmpty = false := by simpa using hemp
            have hb : (!hp2.isEmpty) = true := by rw [hemp2]; rfl
            have hlast : hp2.getLastD 0 ∈ keysT (n + 1) := by
              have := List.all_eq_true.mp z4 (hp2.getLastD 0) (last_mem hemp2)
              simpa using this
            have hto : (touchC n (hp2.getLastD 0)).length < 100 := by unfold touchC touchM; split <;> split <;> split <;> simp
            (try ((with_reducible show wpAny _ _ _ _ _ _); k_fold))
            k_steps
            rename_i le h5 lle tkA h4 hv3 kh3 tq hh3 h3 re ev ke h2 tkr hev hre h1 tv3 kt3 ht3 dl h0 F4 N4 ldl
            unfold Hold
            obtain ⟨dv, hdi, N5⟩ : ∃ dv : List Value, IntsAre dv stepsJ ∧ News h₀ L h0 [(dl, W.listOf (List.toArray dv) 0), (tn, W.listOf (List.toArray tv3) kt3), (hn, W.listOf (List.toArray hv3) kh3), (I, oI), (sn0, W.listOf (List.toArray sv2) ks2), (jn, W.listOf (List.toArray jv) kj), (D, oD), (L + 1, oc)] :=
              ⟨[Value.int 7 tk, Value.int 8 (tk + 1), Value.int 1 (tk + 1 + 1), Value.int (-7) (tk + 1 + 1 + 1 + 1), Value.int (-8) (tk + 1 + 1 + 1 + 1 + 1 + 1), Value.int (-1) (tk + 1 + 1 + 1 + 1 + 1 + 1 + 1 + 1)],
                .cons _ _ (.cons _ _ (.cons _ _ (.cons _ _ (.cons _ _ (.cons _ _ .nil))))), fun p hp => N4 p (by (iterate 8 (rcases List.mem_cons.mp hp with rfl | hp; (· k_mem))); cases hp)⟩
            clear N4 hev hre lle
            refine iter_ledF (δ := DW) (vs := dv) (nl := 0) [Str.ofString "step"]
              (fun d => [(dl, W.listOf (List.toArray dv) 0), (tn, W.listOf (List.toArray tv3) kt3), (hn, W.listOf (List.toArray d.hv) d.kh), (I, oI), (sn0, W.listOf (List.toArray d.sv) d.ks), (jn, W.listOf (List.toArray jv) kj), (D, oD), (L + 1, oc)])
              (fun i d => IntsAre d.sv d.sn ∧ IntsAre d.hv d.hp ∧ (d.sn, d.hp) = (stepsJ.take i).foldl (stepJ cs k (hp2.getLastD 0)) (sn2, hp2.dropLast))
              ⟨sv2, ks2, sn2, hv3, kh3, hp2.dropLast, [], 0, []⟩ rfl F4 N5 ⟨hs2, hh3, rfl⟩ (by intro d; k_mem) ?_ ?_
            · rintro I2 oI2 i2 v2 u3 ⟨sv4, ks4, sn4, hv4, kh4, hp4, _, _, _⟩ h tk hv2' ⟨q1, q2, q3⟩ hlt2 hne2 F6 N6
              dsimp only at q1 q2 q3 hlt2 hne2 N6
              change Fr h₀ L h _ at F6
              change News h₀ L h _ at N6
              k_lt hlt2
              obtain ⟨st, tst, rfl, hst⟩ := hdi.at _ _ hv2'
              have hb9 := fold_len cs k (hp2.getLastD 0) (stepsJ.take i2) (sn2, hp2.dropLast)
              rw [← q3] at hb9
              dsimp only at hb9
              have hb8 : (stepsJ.take i2).length ≤ 6 := by rw [List.length_take]; exact Nat.min_le_right _ _
              have hb7 : hp2.dropLast.length ≤ hp2.length := by simp
              have hstep : (stepsJ.take (i2 + 1)).foldl (stepJ cs k (hp2.getLastD 0)) (sn2, hp2.dropLast) = stepJ cs k (hp2.getLastD 0) (sn4, hp4) st := by
                rw [List.take_add_one, hst, List.foldl_append, ← q3]; rfl
              clear F4 N5
              generalize hp2.getLastD 0 = c at *
              (try ((with_reducible show wpAny _ _ _ _ _ _); k_fold))
              k_steps
              · rename_i a1 a0
                have hno : stepJ cs k c (sn4, hp4) st = (sn4, hp4) := by unfold stepJ; rw [if_neg]; simp only [a0]; simp
                exact TurnPost.goF ⟨sv4, ks4, sn4, hv4, kh4, hp4, [], 0, []⟩ F6 N6 (by k_mem) (fun p hp => List.mem_cons_of_mem _ hp) hne2 ⟨q1, q2, (hstep.trans hno).symm⟩ (fun y hy => by (try dsimp only); (repeat (first | refine fo_ne (ne_forgot hy (by decide)) ?_ | refine fo_in hy ?_ | refine fo_in (sub_forgot hy (by decide)) ?_)); rfl)
              · rename_i a1 a0 tkx hx1 vs1 n1 hi1 tky hx2 vs2 n2 F9 N9 hi2
                have hyes : stepJ cs k c (sn4, hp4) st = (sn4 ++ [c + st], hp4 ++ [c + st]) := by unfold stepJ; rw [if_pos]; simp only [a1, a0]; rfl
                refine TurnPost.goF ⟨vs1, n1, sn4 ++ [c + st], vs2, n2, hp4 ++ [c + st], [], 0, []⟩ F9 N9 (by k_mem) (fun p hp => List.mem_cons_of_mem _ hp) ?_ ⟨hi1, hi2, (hstep.trans hyes).symm⟩ (fun y hy => by (try dsimp only); (repeat (first | refine fo_ne (ne_forgot hy (by decide)) ?_ | refine fo_in hy ?_ | refine fo_in (sub_forgot hy (by decide)) ?_)); rfl)
                intro p hp
                (iterate 8 (rcases List.mem_cons.mp hp with rfl | hp; (· k_ne))); cases hp
              · rename_i a1
                have hno : stepJ cs k c (sn4, hp4) st = (sn4, hp4) := by unfold stepJ; rw [if_neg]; simp only [a1]; simp
                exact TurnPost.goF ⟨sv4, ks4, sn4, hv4, kh4, hp4, [], 0, []⟩ F6 N6 (by k_mem) (fun p hp => List.mem_cons_of_mem _ hp) hne2 ⟨q1, q2, (hstep.trans hno).symm⟩ (fun y hy => by (try dsimp only); (repeat (first | refine fo_ne (ne_forgot hy (by decide)) ?_ | refine fo_in hy ?_ | refine fo_in (sub_forgot hy (by decide)) ?_)); rfl)
            · rintro u3 ⟨sv4, ks4, sn4, hv4, kh4, hp4, _, _, _⟩ h tk ⟨q1, q2, q3⟩ F6 N6
              dsimp only at q1 q2 q3 N6
              change Fr h₀ L h _ at F6
              change News h₀ L h _ at N6
              have hl6 : dv.length = 6 := by rw [hdi.length]; rfl
              rw [hl6] at q3
              have hall : stepsJ.take 6 = stepsJ := rfl
              rw [hall] at q3
              rw [← q3] at hd2
              clear F4 N5
              (try ((with_reducible show wpAny _ _ _ _ _ _); k_fold))
              k_steps
              refine WPost.goF ⟨sv4, ks4, sn4, hv4, kh4, hp4, tv3, kt3, to2 ++ touchC n (hp2.getLastD 0)⟩ F6 N6 (fun p hp => List.mem_cons_of_mem _ hp) ⟨q1, q2, ht3, hd2⟩ (fun y hy => ?_)
              ((try dsimp only); (repeat (first | refine fo_ne (ne_forgot hy (by decide)) ?_ | refine fo_in hy ?_ | refine fo_in (sub_forgot hy (by decide)) ?_)); rfl)
    · rintro u ⟨sv, ks, sn, jv, kj, js⟩ h tk ⟨hsn, hjs, hout⟩ F1 N1
      dsimp only at hsn hjs hout N1
      have hlk : (keysT (n + 1)).length ≤ kv'.length := by have := congrArg List.length hOw.keys; rw [List.length_map] at this; omega
      rw [List.drop_of_length_le hlk, outJ] at hout
      split at hout
      case isFalse => cases hout
      cases hout
      clear F9 N9
      (try ((with_reducible show wpAny _ _ _ _ _ _); k_fold))
      k_steps
      exact ret jn jv kj _ (keeps_of eH (by assumption)) (eH ▸ (N1 (jn, _) (by k_mem)).2.2) (N1.get (by k_mem)) (eH ▸ hjs)
end Mine

/- part PD -/
namespace Mine
set_option maxRecDepth 100000
/-- hang together: one party, step by step -/
inductive Reach (cs : List (Int × Bool)) (k0 : Int) : Int → Prop
  | refl : Reach cs k0 k0
  | step {c d : Int} : Reach cs k0 c → d ∈ stepsJ → sameC cs (c + d) k0 = true → Reach cs k0 (c + d)
theorem nodup_len : ∀ (l m : List Int), l.Nodup → (∀ a ∈ l, a ∈ m) → l.length ≤ m.length
  | [], _, _, _ => by simp
  | a :: l, m, hn, hs => by
    obtain ⟨h1, h2⟩ := List.nodup_cons.mp hn
    have ha : a ∈ m := hs a (.head _)
    have := nodup_len l (m.erase a) h2 (fun b hb => (List.mem_erase_of_ne (fun e => h1 (by rw [← e]; exact hb))).mpr (hs b (.tail _ hb)))
    rw [List.length_erase_of_mem ha] at this
    have := List.length_pos_of_mem ha
    simp only [List.length_cons]
    omega
theorem sameC_key {cs : List (Int × Bool)} {k k0 : Int} (h : sameC cs k k0 = true) : k ∈ cs.map (·.1) := by
  unfold sameC at h
  split at h
  · next b hb =>
    induction cs with
    | nil => cases hb
    | cons p r ih =>
      rw [List.lookup_cons] at hb
      cases q : (k == p.1) with
      | true => rw [beq_iff_eq.mp q]; exact List.mem_map.mpr ⟨p, .head _, rfl⟩
      | false =>
        rw [q] at hb
        have hr : ∃ b, r.lookup k = some b := ⟨_, hb⟩
        have : k ∈ r.map (·.1) := by
          clear ih h hb
          induction r with
          | nil => obtain ⟨_, h⟩ := hr; cases h
          | cons p r ih =>
            obtain ⟨b, hb⟩ := hr
            rw [List.lookup_cons] at hb
            cases q : (k == p.1) with
            | true => rw [beq_iff_eq.mp q]; exact List.mem_map.mpr ⟨p, .head _, rfl⟩
            | false => rw [q] at hb; rw [List.map_cons]; exact .tail _ (ih ⟨b, hb⟩)
        rw [List.map_cons]; exact .tail _ this
  · cases h
theorem fold_spec (cs : List (Int × Bool)) (k0 c : Int) : ∀ (ds sn hp : List Int), ∃ A : List Int, ds.foldl (stepJ cs k0 c) (sn, hp) = (sn ++ A, hp ++ A) ∧ A.Nodup ∧ (∀ a ∈ A, a ∉ sn) ∧ (∀ a ∈ A, ∃ d ∈ ds, a = c + d ∧ sameC cs a k0 = true) ∧ (∀ d ∈ ds, sameC cs (c + d) k0 = true → c + d ∈ sn ∨ c + d ∈ A)
  | [], sn, hp => ⟨[], by simp, by simp, by simp, by simp, by simp⟩
  | d :: ds, sn, hp => by
    rw [List.foldl_cons]
    by_cases q : (sameC cs (c + d) k0 && !(sn.any (· == c + d))) = true
    · have e : stepJ cs k0 c (sn, hp) d = (sn ++ [c + d], hp ++ [c + d]) := by unfold stepJ; rw [if_pos q]
      rw [e]
      obtain ⟨A, h1, h2, h3, h4, h5⟩ := fold_spec cs k0 c ds (sn ++ [c + d]) (hp ++ [c + d])
      rw [Bool.and_eq_true, Bool.not_eq_true'] at q
      have hns : c + d ∉ sn := fun hm => by
        have : sn.any (· == c + d) = true := List.any_eq_true.mpr ⟨_, hm, by simp⟩
        rw [q.2] at this; cases this
      refine ⟨(c + d) :: A, ?_, ?_, ?_, ?_, ?_⟩
      · rw [h1]; simp
      · exact List.nodup_cons.mpr ⟨fun hm => h3 _ hm (by simp), h2⟩
      · intro a ha
        rcases List.mem_cons.mp ha with rfl | ha
        · exact hns
        · exact fun hm => h3 a ha (by simp [hm])
      · intro a ha
        rcases List.mem_cons.mp ha with rfl | ha
        · exact ⟨d, .head _, rfl, q.1⟩
        · obtain ⟨d', hd', e', s'⟩ := h4 a ha
          exact ⟨d', .tail _ hd', e', s'⟩
      · intro d' hd' hs'
        rcases List.mem_cons.mp hd' with rfl | hd'
        · exact .inr (.head _)
        · rcases h5 d' hd' hs' with h | h
          · rcases List.mem_append.mp h with h | h
            · exact .inl h
            · exact .inr (by rw [List.mem_singleton.mp h]; exact .head _)
          · exact .inr (.tail _ h)
    · have e : stepJ cs k0 c (sn, hp) d = (sn, hp) := by unfold stepJ; rw [if_neg q]
      rw [e]
      obtain ⟨A, h1, h2, h3, h4, h5⟩ := fold_spec cs k0 c ds sn hp
      refine ⟨A, h1, h2, h3, ?_, ?_⟩
      · intro a ha
        obtain ⟨d', hd', e', s'⟩ := h4 a ha
        exact ⟨d', .tail _ hd', e', s'⟩
      · intro d' hd' hs'
        rcases List.mem_cons.mp hd' with rfl | hd'
        · left
          rw [hs', Bool.true_and, Bool.not_eq_true', Bool.not_eq_false] at q
          obtain ⟨a, ha, e⟩ := List.any_eq_true.mp q
          rw [← beq_iff_eq.mp e]; exact ha
        · exact h5 d' hd' hs'
theorem keysT_small : ∀ n < 5, (keysT (n + 1)).length ≤ 15 := by decide +kernel
theorem touchC_len (n : Nat) (c : Int) : (touchC n c).length ≤ 3 := by unfold touchC touchM; split <;> split <;> split <;> simp
theorem last_split {l : List Int} (h : l.isEmpty = false) : l = l.dropLast ++ [l.getLastD 0] := by
  have hne : l ≠ [] := by rintro rfl; cases h
  rw [List.getLastD_eq_getLast?, List.getLast?_eq_some_getLast hne]
  exact (List.dropLast_concat_getLast hne).symm
theorem dfs_spec {n : Nat} {cs : List (Int × Bool)} {k0 : Int} (hn : n ≤ 4) (hk : cs.map (·.1) = keysT (n + 1)) {S0 : List Int} (hS : ∀ v, Reach cs k0 v → v ∉ S0) :
    ∀ (f : Nat) (V hp to : List Int), (S0 ++ V).Nodup → (∀ v ∈ S0 ++ V, v ∈ keysT (n + 1)) → hp.Nodup → (∀ v ∈ hp, v ∈ V) → k0 ∈ V → (∀ v ∈ V, Reach cs k0 v) →
      (∀ v ∈ V, v ∉ hp → ∀ d ∈ stepsJ, sameC cs (v + d) k0 = true → v + d ∈ V) → (∀ e, e ∈ to ↔ ∃ v ∈ V, v ∉ hp ∧ e ∈ touchC n v) → to.length ≤ 3 * (V.length - hp.length) → 16 ≤ f + (V.length - hp.length) →
      ∃ sn' to', dfsJ n cs k0 f (S0 ++ V) hp to = some (sn', to') ∧ sn'.Nodup ∧ (∀ v ∈ sn', v ∈ keysT (n + 1)) ∧ (∀ v, v ∈ sn' ↔ v ∈ S0 ∨ Reach cs k0 v) ∧ (∀ e, e ∈ to' ↔ ∃ v, Reach cs k0 v ∧ e ∈ touchC n v) := by
  intro f
  have h15 := keysT_small n (by omega)
  induction f with
  | zero =>
    intro V hp to i1 i2 i3 i4 i5 i6 i7 i8 i9 i10
    have hV : V.length ≤ 15 := Nat.le_trans (nodup_len V _ (List.nodup_append.mp i1).2.1 (fun v hv => i2 v (List.mem_append_right _ hv))) h15
    omega
  | succ f ih =>
    intro V hp to i1 i2 i3 i4 i5 i6 i7 i8 i9 i10
    have hV : V.length ≤ 15 := Nat.le_trans (nodup_len V _ (List.nodup_append.mp i1).2.1 (fun v hv => i2 v (List.mem_append_right _ hv))) h15
    have hSV : (S0 ++ V).length ≤ 15 := Nat.le_trans (nodup_len _ _ i1 i2) h15
    have hH : hp.length ≤ V.length := nodup_len _ _ i3 i4
    have hok : okJ n (S0 ++ V) hp to = true := by
      unfold okJ
      simp only [Bool.and_eq_true, decide_eq_true_eq]
      refine ⟨by omega, by omega, by omega, List.all_eq_true.mpr fun v hv => ?_⟩
      simpa using i2 v (List.mem_append_right _ (i4 v hv))
    rw [dfsJ, if_pos hok]
    cases hemp : hp.isEmpty with
    | true =>
      rw [if_pos rfl]
      have e0 : hp = [] := by simpa using hemp
      subst e0
      have hiff : ∀ v, v ∈ V ↔ Reach cs k0 v := fun v => ⟨i6 v, fun hr => by
        induction hr with
        | refl => exact i5
        | step hc hd hs ih' => exact i7 _ ih' (by simp) _ hd hs⟩
      refine ⟨_, _, rfl, i1, i2, fun v => ?_, fun e => ?_⟩
      · rw [List.mem_append, hiff]
      · rw [i8 e]
        constructor
        · rintro ⟨v, hv, _, he⟩; exact ⟨v, (hiff v).mp hv, he⟩
        · rintro ⟨v, hv, he⟩; exact ⟨v, (hiff v).mpr hv, by simp, he⟩
    | false =>
      rw [if_neg Bool.false_ne_true]
      have hsp := last_split hemp
      generalize hc : hp.getLastD 0 = c at hsp ⊢
      generalize hdl : hp.dropLast = dl at hsp ⊢
      subst hsp
      obtain ⟨A, h1, h2, h3, h4, h5⟩ := fold_spec cs k0 c stepsJ (S0 ++ V) dl
      rw [h1]
      dsimp only
      obtain ⟨j1, _, j3⟩ := List.nodup_append.mp i3
      have hcV : c ∈ V := i4 c (by simp)
      have hcd : c ∉ dl := fun hm => j3 c hm c (by simp) rfl
      have hAV : ∀ a ∈ A, a ∉ V := fun a ha hv => h3 a ha (List.mem_append_right _ hv)
      have hAk : ∀ a ∈ A, a ∈ keysT (n + 1) := fun a ha => by
        obtain ⟨d, _, _, hs⟩ := h4 a ha
        rw [← hk]; exact sameC_key hs
      rw [List.append_assoc]
      have hlA : (V ++ A).length = V.length + A.length := List.length_append
      have hld : (dl ++ A).length = dl.length + A.length := List.length_append
      have hlp : (dl ++ [c]).length = dl.length + 1 := by simp
      rw [hlp] at i9 i10 hH
      refine ih (V ++ A) (dl ++ A) (to ++ touchC n c) ?_ ?_ ?_ ?_ ?_ ?_ ?_ ?_ ?_ ?_
      · rw [← List.append_assoc]
        exact List.nodup_append.mpr ⟨i1, h2, fun a ha b hb e => h3 b hb (e ▸ ha)⟩
      · intro v hv
        rw [← List.append_assoc] at hv
        rcases List.mem_append.mp hv with hv | hv
        · exact i2 v hv
        · exact hAk v hv
      · exact List.nodup_append.mpr ⟨j1, h2, fun a ha b hb e => hAV b hb (e ▸ i4 a (by simp [ha]))⟩
      · intro v hv
        rcases List.mem_append.mp hv with hv | hv
        · exact List.mem_append_left _ (i4 v (by simp [hv]))
        · exact List.mem_append_right _ hv
      · exact List.mem_append_left _ i5
      · intro v hv
        rcases List.mem_append.mp hv with hv | hv
        · exact i6 v hv
        · obtain ⟨d, hd, rfl, hs⟩ := h4 v hv
          exact .step (i6 c hcV) hd hs
      · intro v hv hnv d hd hs
        have hvA : v ∉ A := fun h => hnv (List.mem_append_right _ h)
        have hvV : v ∈ V := (List.mem_append.mp hv).resolve_right hvA
        by_cases e : v = c
        · subst e
          rcases h5 d hd hs with h | h
          · rcases List.mem_append.mp h with h | h
            · exact absurd h (hS _ (.step (i6 v hvV) hd hs))
            · exact List.mem_append_left _ h
          · exact List.mem_append_right _ h
        · refine List.mem_append_left _ (i7 v hvV (fun hm => ?_) d hd hs)
          rcases List.mem_append.mp hm with hm | hm
          · exact hnv (List.mem_append_left _ hm)
          · exact e (List.mem_singleton.mp hm)
      · intro e
        rw [List.mem_append, i8 e]
        constructor
        · rintro (⟨v, hv, hn', he⟩ | he)
          · refine ⟨v, List.mem_append_left _ hv, fun hm => ?_, he⟩
            rcases List.mem_append.mp hm with hm | hm
            · exact hn' (List.mem_append_left _ hm)
            · exact hAV v hm hv
          · refine ⟨c, List.mem_append_left _ hcV, fun hm => ?_, he⟩
            rcases List.mem_append.mp hm with hm | hm
            · exact hcd hm
            · exact hAV c hm hcV
        · rintro ⟨v, hv, hn', he⟩
          have hvA : v ∉ A := fun h => hn' (List.mem_append_right _ h)
          have hvV : v ∈ V := (List.mem_append.mp hv).resolve_right hvA
          by_cases e' : v = c
          · subst e'; exact .inr he
          · refine .inl ⟨v, hvV, fun hm => ?_, he⟩
            rcases List.mem_append.mp hm with hm | hm
            · exact hn' (List.mem_append_left _ hm)
            · exact e' (List.mem_singleton.mp hm)
      · rw [List.length_append]
        have := touchC_len n c
        omega
      · omega
end Mine

/- part PT -/
namespace Mine
set_option maxRecDepth 100000
/-! tables over all colourings at once: bit x of a table speaks of colouring x -/
abbrev Tab := List (Int × Nat)
def getT (T : Tab) (k : Int) : Nat := (T.lookup k).getD 0
abbrev Mat := List (Int × Tab)
def elM (M : Mat) (i j : Int) : Nat := getT ((M.lookup i).getD []) j
def warM (M : Mat) (k : Int) : Mat := M.map fun p => (p.1, p.2.map fun q => (q.1, q.2 ||| (getT p.2 k &&& elM M k q.1)))
def fullT (N : Nat) : Nat := 2 ^ 2 ^ N - 1
def tabs : List Int → Tab
  | [] => []
  | k :: ks => (k, fullT ks.length <<< 2 ^ ks.length) :: (tabs ks).map fun p => (p.1, p.2 ||| p.2 <<< 2 ^ ks.length)
def encC : List (Int × Bool) → Nat
  | [] => 0
  | p :: cs => (if p.2 then 2 ^ cs.length else 0) + encC cs
theorem encC_lt : ∀ cs : List (Int × Bool), encC cs < 2 ^ cs.length
  | [] => by simp [encC]
  | p :: cs => by
    have := encC_lt cs
    simp only [encC, List.length_cons, Nat.pow_succ]
    split <;> omega
theorem full_bit {N x : Nat} (h : x < 2 ^ N) : (fullT N).testBit x = true := by
  unfold fullT; rw [Nat.testBit_two_pow_sub_one]; simpa using h
theorem full_bit' {N x : Nat} (h : 2 ^ N ≤ x) : (fullT N).testBit x = false := by
  unfold fullT; rw [Nat.testBit_two_pow_sub_one]; simpa using h
theorem lookup_map2 {β γ : Type} (g : Int → β → γ) (k : Int) : ∀ l : List (Int × β), (l.map fun p => (p.1, g p.1 p.2)).lookup k = (l.lookup k).map (g k)
  | [] => rfl
  | p :: l => by
    rw [List.map_cons]
    obtain ⟨a, b⟩ := p
    simp only [List.lookup_cons]
    cases q : (k == a) with
    | true => rw [beq_iff_eq.mp q]; rfl
    | false => simpa using lookup_map2 g k l
theorem lookup_key {γ : Type} (g : Int → γ) (k : Int) : ∀ l : List Int, (l.map fun k => (k, g k)).lookup k = if k ∈ l then some (g k) else none
  | [] => by simp
  | a :: l => by
    rw [List.map_cons]
    simp only [List.lookup_cons]
    cases q : (k == a) with
    | true => rw [beq_iff_eq.mp q]; simp
    | false =>
      have : k ≠ a := by simpa using q
      simp only [List.mem_cons, this, false_or]
      exact lookup_key g k l
theorem tabs_high : ∀ (ks : List Int) (k : Int) (t : Nat), (tabs ks).lookup k = some t → ∀ x, 2 ^ ks.length ≤ x → t.testBit x = false
  | [], k, t, h, x, _ => by cases h
  | a :: ks, k, t, h, x, hx => by
    rw [List.length_cons, Nat.pow_succ] at hx
    rw [tabs, List.lookup_cons] at h
    cases q : (k == a) with
    | true =>
      rw [q] at h
      cases h
      rw [Nat.testBit_shiftLeft, full_bit' (by omega)]
      simp
    | false =>
      rw [q] at h
      simp only at h
      rw [lookup_map2 (fun _ (t : Nat) => t ||| t <<< 2 ^ ks.length)] at h
      obtain ⟨t', h1, h2⟩ := Option.map_eq_some_iff.mp h
      have ih := tabs_high ks k t' h1
      rw [← h2, Nat.testBit_or, Nat.testBit_shiftLeft, ih x (by omega), ih _ (by omega)]
      simp
theorem tabs_bit : ∀ (cs : List (Int × Bool)) (k : Int), (getT (tabs (cs.map (·.1))) k).testBit (encC cs) = colAt cs k
  | [], k => by simp [getT, tabs, colAt]
  | p :: cs, k => by
    obtain ⟨a, b⟩ := p
    have hlt := encC_lt cs
    have ih := tabs_bit cs k
    unfold getT colAt at ih ⊢
    rw [List.map_cons, tabs, List.lookup_cons, List.lookup_cons, List.length_map]
    cases q : (k == a) with
    | true =>
      simp only [Option.getD_some, encC]
      rw [Nat.testBit_shiftLeft]
      cases b with
      | true => simp only [if_true]; rw [full_bit (by omega)]; simp
      | false =>
        simp only [Bool.false_eq_true, if_false, Bool.and_eq_false_iff, decide_eq_false_iff_not]
        left; omega
    | false =>
      simp only
      rw [lookup_map2 (fun _ (t : Nat) => t ||| t <<< 2 ^ cs.length), ← ih]
      cases h : (tabs (cs.map (·.1))).lookup k with
      | none => simp
      | some t =>
        have hi := tabs_high _ _ _ h
        rw [List.length_map] at hi
        simp only [Option.map_some, Option.getD_some, encC]
        rw [Nat.testBit_or, Nat.testBit_shiftLeft]
        cases b with
        | true => simp only [if_true]; rw [hi _ (by omega), show 2 ^ cs.length + encC cs - 2 ^ cs.length = encC cs by omega]; simp
        | false =>
          simp only [Bool.false_eq_true, if_false, Nat.zero_add]
          rw [show decide (encC cs ≥ 2 ^ cs.length) = false by simpa using hlt]
          simp
/-- table T speaks of colouring cs at bit x -/
def RelT (x : Nat) (T : Tab) (cs : List (Int × Bool)) : Prop := ∀ k, (getT T k).testBit x = colAt cs k
def majT (a b c : Nat) : Nat := (a &&& b) ||| (b &&& c) ||| (c &&& a)
def fallT (n : Nat) (T : Tab) : Tab := (keysT n).map fun k => (k, majT (getT T (k + 8)) (getT T (k + 1)) (getT T k))
def winT : Nat → Tab → Nat
  | 0, T => getT T 0
  | n + 1, T => winT n (fallT (n + 1) T)
def winM : Nat → List (Int × Bool) → Bool
  | 0, cs => colAt cs 0
  | n + 1, cs => winM n (fallM (n + 1) cs)
theorem fall_rel {x : Nat} {T : Tab} {cs : List (Int × Bool)} (n : Nat) (h : RelT x T cs) : RelT x (fallT n T) (fallM n cs) := by
  intro k
  unfold getT colAt fallT fallM
  rw [lookup_key (fun k => majT (getT T (k + 8)) (getT T (k + 1)) (getT T k))]
  have e : (keysT n).map (fallK cs) = (keysT n).map fun k => (k, maj (colAt cs (k + 8)) (colAt cs (k + 1)) (colAt cs k)) := rfl
  rw [e, lookup_key (fun k => maj (colAt cs (k + 8)) (colAt cs (k + 1)) (colAt cs k))]
  split
  · simp only [Option.getD_some, majT, maj, Nat.testBit_or, Nat.testBit_and, h _]
  · simp
theorem win_rel {x : Nat} : ∀ (n : Nat) {T : Tab} {cs : List (Int × Bool)}, RelT x T cs → (winT n T).testBit x = winM n cs
  | 0, _, _, h => h 0
  | n + 1, _, _, h => win_rel n (fall_rel (n + 1) h)

def sameT (f a b : Nat) : Nat := f ^^^ (a ^^^ b)
def startM (f : Nat) (T : Tab) : Mat := T.map fun p => (p.1, T.map fun q => (q.1, if p.1 == q.1 then f else if stepsJ.contains (q.1 - p.1) then sameT f p.2 q.2 else 0))
def closM (f : Nat) (T : Tab) (K : List Int) : Mat := K.foldl warM (startM f T)

section
variable {cs : List (Int × Bool)} {x : Nat}
theorem sameC_iff {k k0 : Int} : sameC cs k k0 = true ↔ k ∈ cs.map (·.1) ∧ colAt cs k = colAt cs k0 := by
  constructor
  · intro h
    have hm := sameC_key h
    refine ⟨hm, ?_⟩
    unfold sameC at h
    rw [lookup_of_key hm] at h
    simpa using h
  · rintro ⟨hm, e⟩
    unfold sameC
    rw [lookup_of_key hm]
    simpa using e
theorem Reach.col {i j : Int} (h : Reach cs i j) : colAt cs j = colAt cs i := by
  cases h with
  | refl => rfl
  | step _ _ hs => exact (sameC_iff.mp hs).2
theorem Reach.key {i j : Int} (hi : i ∈ cs.map (·.1)) (h : Reach cs i j) : j ∈ cs.map (·.1) := by
  cases h with
  | refl => exact hi
  | step _ _ hs => exact (sameC_iff.mp hs).1
theorem Reach.trans {i j k : Int} (h : Reach cs i j) (h2 : Reach cs j k) : Reach cs i k := by
  induction h2 with
  | refl => exact h
  | step _ hd hs ih => exact .step ih hd (sameC_iff.mpr ⟨(sameC_iff.mp hs).1, (sameC_iff.mp hs).2.trans h.col⟩)
theorem steps_negs : ∀ d ∈ stepsJ, -d ∈ stepsJ := by decide
theorem steps_neg {d : Int} (h : d ∈ stepsJ) : -d ∈ stepsJ := steps_negs d h
theorem Reach.symm {i j : Int} (hi : i ∈ cs.map (·.1)) (h : Reach cs i j) : Reach cs j i := by
  induction h with
  | refl => exact .refl
  | @step c d hc hd hs ih =>
    refine Reach.trans ?_ ih
    have := Reach.step (cs := cs) (k0 := c + d) (c := c + d) (d := -d) .refl (steps_neg hd)
    rw [Int.add_neg_cancel_right] at this
    exact this (sameC_iff.mpr ⟨hc.key hi, hc.col.trans (sameC_iff.mp hs).2.symm⟩)
def SndM (cs : List (Int × Bool)) (x : Nat) (M : Mat) : Prop := ∀ i j, (elM M i j).testBit x = true → Reach cs i j
theorem war_snd {M : Mat} (h : SndM cs x M) (k : Int) : SndM cs x (warM M k) := by
  intro i j hb
  unfold elM at hb
  unfold warM at hb
  rw [lookup_map2 (fun _ (row : Tab) => row.map fun q => (q.1, q.2 ||| (getT row k &&& elM M k q.1)))] at hb
  cases hr : M.lookup i with
  | none => rw [hr] at hb; simp [getT] at hb
  | some row =>
    rw [hr] at hb
    simp only [Option.map_some, Option.getD_some] at hb
    unfold getT at hb
    rw [lookup_map2 (fun j (t : Nat) => t ||| ((row.lookup k).getD 0 &&& elM M k j))] at hb
    cases hq : row.lookup j with
    | none => rw [hq] at hb; simp at hb
    | some t =>
      rw [hq] at hb
      simp only [Option.map_some, Option.getD_some, Nat.testBit_or, Nat.testBit_and, Bool.or_eq_true, Bool.and_eq_true] at hb
      rcases hb with hb | ⟨h1, h2⟩
      · exact h i j (by unfold elM getT; rw [hr, Option.getD_some, hq]; exact hb)
      · exact (h i k (by unfold elM getT; rw [hr, Option.getD_some]; exact h1)).trans (h k j h2)
theorem wars_snd : ∀ (K : List Int) {M : Mat}, SndM cs x M → SndM cs x (K.foldl warM M)
  | [], _, h => h
  | k :: K, _, h => wars_snd K (war_snd h k)
theorem start_snd {f : Nat} {T : Tab} (hf : f.testBit x = true) (hT : RelT x T cs) (hk : ∀ k t, T.lookup k = some t → k ∈ cs.map (·.1)) : SndM cs x (startM f T) := by
  intro i j hb
  unfold startM elM at hb
  rw [lookup_map2 (fun i (t : Nat) => T.map fun q => (q.1, if i == q.1 then f else if stepsJ.contains (q.1 - i) then sameT f t q.2 else 0))] at hb
  cases hr : T.lookup i with
  | none => rw [hr] at hb; simp [getT] at hb
  | some t =>
    rw [hr] at hb
    simp only [Option.map_some, Option.getD_some] at hb
    unfold getT at hb
    rw [lookup_map2 (fun j (t' : Nat) => if i == j then f else if stepsJ.contains (j - i) then sameT f t t' else 0)] at hb
    cases hq : T.lookup j with
    | none => rw [hq] at hb; simp at hb
    | some t' =>
      rw [hq] at hb
      simp only [Option.map_some, Option.getD_some] at hb
      split at hb
      · next e => rw [beq_iff_eq.mp e]; exact .refl
      · split at hb
        · next e =>
          have := Reach.step (cs := cs) (k0 := i) (c := i) (d := j - i) .refl (by simpa using e)
          rw [show i + (j - i) = j by omega] at this
          refine this (sameC_iff.mpr ⟨hk j t' hq, ?_⟩)
          rw [← hT j, ← hT i]
          unfold sameT at hb
          rw [Nat.testBit_xor, Nat.testBit_xor, hf] at hb
          unfold getT
          rw [hr, hq]
          simp only [Option.getD_some]
          cases ha : t.testBit x <;> cases hb' : t'.testBit x <;> simp_all
        · simp at hb
end
/-- a lies within b -/
def subT (a b : Nat) : Bool := Nat.beq (a ||| b) b
theorem subT_bit {a b x : Nat} (h : subT a b = true) (ha : a.testBit x = true) : b.testBit x = true := by
  unfold subT at h
  rw [← Nat.eq_of_beq_eq_true h, Nat.testBit_or, ha, Bool.true_or]
def touchT (n : Nat) (M : Mat) (K : List Int) (i e : Int) : Nat := K.foldr (fun j acc => if (touchC n j).contains e then elM M i j ||| acc else acc) 0
def yT (n : Nat) (M : Mat) (K : List Int) (i : Int) : Nat := touchT n M K i 0 &&& (touchT n M K i 1 &&& touchT n M K i 2)
def checkT (f : Nat) (T : Tab) (K : List Int) (M : Mat) (Y : Tab) (W : Nat) : Bool :=
  (K.all fun i => Nat.beq (elM M i i) f) &&
  ((K.all fun i => K.all fun j => stepsJ.all fun d => !K.contains (j + d) || subT (elM M i j &&& sameT f (getT T j) (getT T (j + d))) (elM M i (j + d))) &&
  (Nat.beq (K.foldr (fun i acc => getT Y i ||| acc) 0) f &&
  ((K.all fun i => Nat.beq (getT Y i &&& (getT T i ^^^ W)) 0) &&
  (K.all fun i => K.all fun j => subT (getT Y i &&& getT Y j) (elM M i j)))))
def checkN (n : Nat) : Bool :=
  (fun (K : List Int) => (fun (f : Nat) => (fun (T : Tab) => (fun (M : Mat) => checkT f T K M (K.map fun i => (i, yT n M K i)) (winT n T)) (closM f T K)) (tabs K)) (fullT K.length)) (keysT (n + 1))
end Mine

/- part PF -/
namespace Mine
set_option maxRecDepth 100000
theorem check_1 : checkN 1 = true := by decide +kernel
theorem check_2 : checkN 2 = true := by decide +kernel
theorem check_3 : checkN 3 = true := by decide +kernel
theorem check_4 : checkN 4 = true := by decide +kernel
theorem check_n {n : Nat} (h1 : 1 ≤ n) (h4 : n ≤ 4) : checkN n = true := by
  have : n = 1 ∨ n = 2 ∨ n = 3 ∨ n = 4 := by omega
  rcases this with rfl | rfl | rfl | rfl
  · exact check_1
  · exact check_2
  · exact check_3
  · exact check_4
theorem tabs_keys : ∀ (ks : List Int) (k : Int) (t : Nat), (tabs ks).lookup k = some t → k ∈ ks
  | [], k, t, h => by cases h
  | a :: ks, k, t, h => by
    rw [tabs, List.lookup_cons] at h
    cases q : (k == a) with
    | true => rw [beq_iff_eq.mp q]; exact .head _
    | false =>
      rw [q] at h
      simp only at h
      rw [lookup_map2 (fun _ (t : Nat) => t ||| t <<< 2 ^ ks.length)] at h
      obtain ⟨t', h1, _⟩ := Option.map_eq_some_iff.mp h
      exact .tail _ (tabs_keys ks k t' h1)
theorem foldr_or_bit {K : List Int} {g : Int → Nat} {p : Int → Bool} {x : Nat} : (K.foldr (fun j acc => if p j then g j ||| acc else acc) 0).testBit x = true ↔ ∃ j ∈ K, p j = true ∧ (g j).testBit x = true := by
  induction K with
  | nil => simp
  | cons a K ih =>
    rw [List.foldr_cons]
    cases q : p a with
    | true =>
      rw [if_pos rfl, Nat.testBit_or, Bool.or_eq_true, ih]
      constructor
      · rintro (h | ⟨j, hj, h⟩)
        · exact ⟨a, .head _, q, h⟩
        · exact ⟨j, .tail _ hj, h⟩
      · rintro ⟨j, hj, hp, h⟩
        rcases List.mem_cons.mp hj with rfl | hj
        · exact .inl h
        · exact .inr ⟨j, hj, hp, h⟩
    | false =>
      rw [if_neg Bool.false_ne_true, ih]
      constructor
      · rintro ⟨j, hj, h⟩; exact ⟨j, .tail _ hj, h⟩
      · rintro ⟨j, hj, hp, h⟩
        rcases List.mem_cons.mp hj with rfl | hj
        · rw [q] at hp; cases hp
        · exact ⟨j, hj, hp, h⟩
theorem foldr_or_bit1 {K : List Int} {g : Int → Nat} {x : Nat} : (K.foldr (fun j acc => g j ||| acc) 0).testBit x = true ↔ ∃ j ∈ K, (g j).testBit x = true := by
  have := foldr_or_bit (K := K) (g := g) (p := fun _ => true) (x := x)
  simpa using this
/-- the patch of i has a cell on each of the three edges -/
def YP (n : Nat) (cs : List (Int × Bool)) (i : Int) : Prop := (∃ j, Reach cs i j ∧ (0 : Int) ∈ touchC n j) ∧ (∃ j, Reach cs i j ∧ (1 : Int) ∈ touchC n j) ∧ ∃ j, Reach cs i j ∧ (2 : Int) ∈ touchC n j
theorem YP.of {n : Nat} {cs : List (Int × Bool)} {i k : Int} (h : YP n cs i) (hr : Reach cs k i) : YP n cs k := by
  obtain ⟨⟨a, a1, a2⟩, ⟨b, b1, b2⟩, ⟨c, c1, c2⟩⟩ := h
  exact ⟨⟨a, hr.trans a1, a2⟩, ⟨b, hr.trans b1, b2⟩, ⟨c, hr.trans c1, c2⟩⟩
theorem game_Y {n : Nat} {cs : List (Int × Bool)} (h1 : 1 ≤ n) (h4 : n ≤ 4) (hk : cs.map (·.1) = keysT (n + 1)) :
    (∃ i ∈ keysT (n + 1), YP n cs i) ∧ (∀ i ∈ keysT (n + 1), YP n cs i → colAt cs i = winM n cs) ∧ ∀ i ∈ keysT (n + 1), ∀ j ∈ keysT (n + 1), YP n cs i → YP n cs j → Reach cs i j := by
  have hch := check_n h1 h4
  have hT : RelT (encC cs) (tabs (keysT (n + 1))) cs := fun k => by rw [← hk]; exact tabs_bit cs k
  have hx : encC cs < 2 ^ (keysT (n + 1)).length := by rw [← hk, List.length_map]; exact encC_lt cs
  have hf := full_bit hx
  unfold checkN at hch
  dsimp only at hch
  generalize hM : closM (fullT (keysT (n + 1)).length) (tabs (keysT (n + 1))) (keysT (n + 1)) = M at hch
  have hsnd : SndM cs (encC cs) M := by
    rw [← hM]
    exact wars_snd _ (start_snd hf hT fun k t h => by rw [hk]; exact tabs_keys _ k t h)
  have hW := win_rel n hT
  generalize winT n (tabs (keysT (n + 1))) = W at hch hW
  generalize hTT : tabs (keysT (n + 1)) = T at hch hT
  generalize hff : fullT (keysT (n + 1)).length = f at hch hf
  generalize hxx : encC cs = x at *
  clear hM hTT hff hxx
  generalize hK : keysT (n + 1) = K at *
  unfold checkT at hch
  simp only [Bool.and_eq_true, List.all_eq_true] at hch
  obtain ⟨c1, c2, c3, c4, c5⟩ := hch
  have conn : ∀ i ∈ K, ∀ j, Reach cs i j ↔ (elM M i j).testBit x = true := by
    intro i hi j
    refine ⟨fun hr => ?_, hsnd i j⟩
    induction hr with
    | refl => rw [Nat.eq_of_beq_eq_true (c1 i hi)]; exact hf
    | @step c d hc hd hs ih =>
      have hcK : c ∈ K := by rw [← hk]; exact hc.key (by rw [hk]; exact hi)
      have hdK : c + d ∈ K := by rw [← hk]; exact (sameC_iff.mp hs).1
      have h := c2 i hi c hcK d hd
      rw [Bool.or_eq_true, Bool.not_eq_true'] at h
      rcases h with h | h
      · have : K.contains (c + d) = true := by simpa using hdK
        rw [this] at h; cases h
      · refine subT_bit h ?_
        unfold sameT
        rw [Nat.testBit_and, Nat.testBit_xor, Nat.testBit_xor, hT, hT, hf, ih, hc.col, (sameC_iff.mp hs).2]
        simp
  have hy : ∀ i ∈ K, YP n cs i ↔ (getT (K.map fun i => (i, yT n M K i)) i).testBit x = true := by
    intro i hi
    have tb : ∀ e, (touchT n M K i e).testBit x = true ↔ ∃ j, Reach cs i j ∧ e ∈ touchC n j := by
      intro e
      unfold touchT
      rw [foldr_or_bit]
      constructor
      · rintro ⟨j, hj, hp, hb⟩; exact ⟨j, (conn i hi j).mpr hb, by simpa using hp⟩
      · rintro ⟨j, hr, he⟩; exact ⟨j, by rw [← hk]; exact hr.key (by rw [hk]; exact hi), by simpa using he, (conn i hi j).mp hr⟩
    unfold getT
    rw [lookup_key (fun i => yT n M K i), if_pos hi, Option.getD_some]
    unfold yT YP
    rw [Nat.testBit_and, Nat.testBit_and, Bool.and_eq_true, Bool.and_eq_true, tb, tb, tb]
  refine ⟨?_, ?_, ?_⟩
  · rw [← Nat.eq_of_beq_eq_true c3] at hf
    obtain ⟨j, hj, hb⟩ := foldr_or_bit1.mp hf
    exact ⟨j, hj, (hy j hj).mpr hb⟩
  · intro i hi hyi
    have h := congrArg (·.testBit x) (Nat.eq_of_beq_eq_true (c4 i hi))
    simp only [Nat.testBit_and, Nat.testBit_xor, Nat.zero_testBit] at h
    rw [(hy i hi).mp hyi, Bool.true_and, hT, hW] at h
    simpa using h
  · intro i hi j hj hyi hyj
    refine (conn i hi j).mpr (subT_bit (c5 i hi j hj) ?_)
    rw [Nat.testBit_and, (hy i hi).mp hyi, (hy j hj).mp hyj]
    rfl
theorem any_mem {to : List Int} {e : Int} : to.any (· == e) = true ↔ e ∈ to := by
  rw [List.any_eq_true]
  constructor
  · rintro ⟨a, ha, h⟩; rw [← beq_iff_eq.mp h]; exact ha
  · intro h; exact ⟨e, h, by simp⟩
theorem out_spec {n : Nat} {cs : List (Int × Bool)} (h1 : 1 ≤ n) (h4 : n ≤ 4) (hk : cs.map (·.1) = keysT (n + 1)) :
    ∀ (ks pre sn : List Int) (js : List Bool), keysT (n + 1) = pre ++ ks → sn.Nodup → (∀ v ∈ sn, v ∈ keysT (n + 1)) → (∀ v ∈ sn, ∀ u, Reach cs v u → u ∈ sn) → (∀ v ∈ pre, v ∈ sn) →
      (((∃ v ∈ sn, YP n cs v) ∧ js = [winM n cs]) ∨ ((¬ ∃ v ∈ sn, YP n cs v) ∧ js = [])) → outJ n cs ks sn js = some [winM n cs] := by
  obtain ⟨gE, gC, gU⟩ := game_Y h1 h4 hk
  intro ks
  induction ks with
  | nil =>
    intro pre sn js hp i1 i2 i3 i4 i5
    rw [List.append_nil] at hp
    obtain ⟨i, hi, hyi⟩ := gE
    rcases i5 with ⟨_, rfl⟩ | ⟨h, _⟩
    · rfl
    · exact absurd ⟨i, i4 i (by rw [← hp]; exact hi), hyi⟩ h
  | cons k ks ih =>
    intro pre sn js hp i1 i2 i3 i4 i5
    have hkK : k ∈ keysT (n + 1) := by rw [hp]; simp
    have hsn : sn.length < 100 := by
      have := nodup_len sn _ i1 i2
      have := keysT_small n (by omega)
      omega
    have hjs : js.length < 100 := by rcases i5 with ⟨_, rfl⟩ | ⟨_, rfl⟩ <;> simp
    have hp' : keysT (n + 1) = (pre ++ [k]) ++ ks := by rw [hp]; simp
    rw [outJ, if_pos ⟨hjs, hsn⟩]
    cases q : sn.any (· == k) with
    | true =>
      rw [if_pos rfl]
      have hks := any_mem.mp q
      refine ih (pre ++ [k]) sn js hp' i1 i2 i3 (fun v hv => ?_) i5
      rcases List.mem_append.mp hv with hv | hv
      · exact i4 v hv
      · rw [List.mem_singleton.mp hv]; exact hks
    | false =>
      rw [if_neg Bool.false_ne_true]
      have hks : k ∉ sn := fun h => by rw [any_mem.mpr h] at q; cases q
      have hS : ∀ v, Reach cs k v → v ∉ sn := fun v hr hv => hks (i3 v hv k (hr.symm (by rw [hk]; exact hkK)))
      obtain ⟨sn', to', hd, j1, j2, j3, j4⟩ := dfs_spec h4 hk hS 20 [k] [k] [] (List.nodup_append.mpr ⟨i1, by simp, fun a ha b hb e => hks (by rw [← List.mem_singleton.mp hb, ← e]; exact ha)⟩)
        (fun v hv => (List.mem_append.mp hv).elim (i2 v) fun h => by rw [List.mem_singleton.mp h]; exact hkK) (by simp) (fun v hv => hv) (by simp) (fun v hv => by rw [List.mem_singleton.mp hv]; exact .refl) (fun v hv hn => absurd hv hn) (fun e => ⟨(fun h => by cases h), fun ⟨v, hv, hn, _⟩ => absurd hv hn⟩) (by simp) (by simp)
      rw [hd]
      dsimp only
      have hall : allT to' = true ↔ YP n cs k := by
        unfold allT YP
        rw [Bool.and_eq_true, Bool.and_eq_true, any_mem, any_mem, any_mem, j4, j4, j4]
      have hkn : k ∈ sn' := (j3 k).mpr (.inr .refl)
      refine ih (pre ++ [k]) sn' _ hp' j1 j2 (fun v hv u hr => ?_) (fun v hv => ?_) ?_
      · rcases (j3 v).mp hv with h | h
        · exact (j3 u).mpr (.inl (i3 v h u hr))
        · exact (j3 u).mpr (.inr (h.trans hr))
      · rcases List.mem_append.mp hv with hv | hv
        · exact (j3 v).mpr (.inl (i4 v hv))
        · rw [List.mem_singleton.mp hv]; exact hkn
      · by_cases hY : YP n cs k
        · rw [if_pos (hall.mpr hY)]
          left
          refine ⟨⟨k, hkn, hY⟩, ?_⟩
          rcases i5 with ⟨⟨v, hv, hyv⟩, _⟩ | ⟨_, rfl⟩
          · exact absurd (i3 v hv k (gU v (i2 v hv) k hkK hyv hY)) hks
          · rw [gC k hkK hY]; rfl
        · rw [if_neg (fun h => hY (hall.mp h))]
          rcases i5 with ⟨⟨v, hv, hyv⟩, e⟩ | ⟨hno, e⟩
          · exact .inl ⟨⟨v, (j3 v).mpr (.inl hv), hyv⟩, e⟩
          · refine .inr ⟨?_, e⟩
            rintro ⟨v, hv, hyv⟩
            rcases (j3 v).mp hv with h | h
            · exact hno ⟨v, h, hyv⟩
            · exact hY (hyv.of h)
/-- the plain law: just one patch joins the three edges, and it is of the party that the falling leaves -/
theorem joined_win {n : Nat} {cs : List (Int × Bool)} (h1 : 1 ≤ n) (h4 : n ≤ 4) (hk : cs.map (·.1) = keysT (n + 1)) : joinedM n cs = some [winM n cs] :=
  out_spec h1 h4 hk (keysT (n + 1)) [] [] [] rfl .nil (by simp) (by simp) (by simp) (.inr ⟨by simp, rfl⟩)
end Mine

/- part ML -/
namespace Mine
set_option maxRecDepth 100000
/-- the boards, one below the other -/
def chM (n c : Nat) : Nat → List (Int × Bool)
  | 0 => boardM n c
  | i + 1 => fallM (n - i) (chM n c i)
theorem fall_keys (m : Nat) (cs : List (Int × Bool)) : (fallM m cs).map (·.1) = keysT m := by
  unfold fallM
  rw [List.map_map]
  have : ((fun (x : Int × Bool) => x.1) ∘ fallK cs) = id := by funext k; rfl
  rw [this, List.map_id]
theorem board_keys (n c : Nat) : (boardM n c).map (·.1) = keysT (n + 1) := by
  unfold boardM
  rw [List.map_map]
  have : ((fun (x : Int × Bool) => x.1) ∘ fun (p : Int × Nat) => (p.1, (c / 2 ^ p.2) % 2 == 1)) = Prod.fst := by funext p; rfl
  rw [this, List.zipIdx_map_fst]
theorem ch_keys (n c : Nat) : ∀ i, i ≤ n → (chM n c i).map (·.1) = keysT (n - i + 1)
  | 0, _ => board_keys n c
  | i + 1, h => by
    rw [chM, fall_keys, show n - i = n - (i + 1) + 1 by omega]
theorem ch_win (n c : Nat) : ∀ k i, i + k = n → winM k (chM n c i) = colAt (chM n c n) 0
  | 0, i, h => by rw [show i = n by omega]; rfl
  | k + 1, i, h => by
    rw [winM, show k + 1 = n - i by omega]
    exact ch_win n c k (i + 1) (by omega)
theorem ch_joined {n c m i : Nat} (h1 : 1 ≤ m) (h4 : n ≤ 4) (h : i + m = n) : joinedM m (chM n c i) = some [colAt (chM n c n) 0] := by
  rw [joined_win h1 (by omega) (by rw [ch_keys n c i (by omega), show n - i = m by omega]), ch_win n c m i h]

/-- a board stands at this value -/
def BdAt (prog : Program) (w : World) (P : Addr → Obj → Prop) (v : Value) (cs : List (Int × Bool)) : Prop :=
  ∃ d od kv, v = .ref d ∧ (d == sysModules) = false ∧ P d od ∧ od.IsDictOf (intKind prog w) kv ∧ Cells w P kv cs
theorem BdAt.mono {prog : Program} {w : World} {P P' : Addr → Obj → Prop} {v : Value} {cs : List (Int × Bool)} (hP : ∀ a o, P a o → P' a o) (h : BdAt prog w P v cs) : BdAt prog w P' v cs := by
  obtain ⟨d, od, kv, a1, a2, a3, a4, a5⟩ := h
  exact ⟨d, od, kv, a1, a2, hP _ _ a3, a4, a5.mono hP⟩
def Bds (prog : Program) (w : World) (P : Addr → Obj → Prop) (n c len : Nat) (vs : List Value) : Prop :=
  vs.length = len ∧ ∀ j, j < len → ∃ v, vs[j]? = some v ∧ BdAt prog w P v (chM n c j)
theorem Bds.snoc {prog : Program} {w : World} {P P' : Addr → Obj → Prop} {n c len : Nat} {vs : List Value} {v : Value} (h : Bds prog w P n c len vs) (hP : ∀ a o, P a o → P' a o) (hv : BdAt prog w P' v (chM n c len)) : Bds prog w P' n c (len + 1) (vs ++ [v]) := by
  refine ⟨by rw [List.length_append, h.1]; rfl, fun j hj => ?_⟩
  by_cases e : j = len
  · subst e
    refine ⟨v, ?_, hv⟩
    rw [← h.1]; simp
  · obtain ⟨v', h1, h2⟩ := h.2 j (by omega)
    refine ⟨v', ?_, h2.mono hP⟩
    rw [List.getElem?_append_left (by rw [h.1]; omega)]
    exact h1
theorem Bds.last {prog : Program} {w : World} {P : Addr → Obj → Prop} {n c len : Nat} {vs : List Value} (h : Bds prog w P n c (len + 1) vs) : ∃ d, vs.getLast? = some (.ref d) ∧ BdAt prog w P (.ref d) (chM n c len) := by
  obtain ⟨v, h1, h2⟩ := h.2 len (by omega)
  obtain ⟨d, od, kv, rfl, r⟩ := id h2
  refine ⟨d, ?_, h2⟩
  rw [List.getLast?_eq_getElem?, h.1]
  exact h1
theorem Bds.nth {prog : Program} {w : World} {P : Addr → Obj → Prop} {n c len : Nat} {vs : List Value} (h : Bds prog w P n c len vs) {j : Nat} (hj : j < len) : ∃ d, vs[j]? = some (.ref d) ∧ BdAt prog w P (.ref d) (chM n c j) := by
  obtain ⟨v, h1, h2⟩ := h.2 j hj
  obtain ⟨d, od, kv, rfl, r⟩ := id h2
  exact ⟨d, h1, h2⟩

section
variable {prog : Program} {w : World} {A : Around} {E : Value → Shared → Prop} {s : Shared} {env : Env} {h₀ : Heap} {x : Str} {body : List Stmt} {Q : Flow → Shared → Prop}
/-- a loop over a range by any step -/
theorem iter_rangeS {r : Addr} {a₀ b₀ c₀ : Int} {t₀ u₀ v₀ : Tok} {n : Nat} {m₀ : Str → Option Value} {news : List (Addr × Obj)} (J : Nat → (Str → Option Value) → List (Addr × Obj) → Prop)
    (hh : A.handled = none) (hr : IsRange s.heap r a₀ b₀ c₀ t₀ u₀ v₀) (hsmall : Builtin.Range.small a₀ b₀ c₀ = true) (hn : Builtin.Range.rangeSize a₀ b₀ c₀ = (n : Int))
    (F : Fr h₀ env.locals s.heap m₀) (N : News h₀ env.locals s.heap news) (hj : J 0 m₀ news)
    (turn : ∀ I o i t m₁ news₁ h tk, i < n → J i m₁ news₁ → (∀ p ∈ news, p.1 < I) → (∀ p ∈ news₁, p.1 ≠ I) → Fr h₀ env.locals h (fun y => if y = x then some (.int (a₀ + (i : Int) * c₀) t) else m₁ y) → News h₀ env.locals h ((I, o) :: news₁) →
      wpAny (model prog w) A (execs body env) (TurnPost h₀ env.locals I o (J (i + 1)) s Q) E { s with heap := h, toks := tk })
    (done : ∀ m₁ news₁ h tk, J n m₁ news₁ → Fr h₀ env.locals h m₁ → News h₀ env.locals h news₁ → Q .next { s with heap := h, toks := tk }) :
    wpAny (model prog w) A (pyIter (.ref r)) (fun it s₂ => LoopAtV prog w A h₀ env x body Q E it s₂) E s := by
  refine wpAny_pyIter_range hr hsmall ?_
  have W := Walks.range (prog := prog) (w := w) hh s.heap.objs.size a₀ c₀ n
  refine loop_at J W ?_ (next_is_new F) (by simp) ?_ ?_ ?_ ?_ (F.push _) (fun p hp => ⟨Heap.get?_push_of_some _ (N p hp).1, (N p hp).2⟩) hj ?_ ?_
  · intro hm
    exact absurd F.ns.lt ((List.mem_singleton.mp hm) ▸ Nat.lt_irrefl _)
  · intro i h st; exact ⟨_, st⟩
  · intro b hb hbI; exact absurd (List.mem_singleton.mp hb) hbI
  · intro p hp e; exact absurd (Heap.lt_size (N p hp).1) (e ▸ Nat.lt_irrefl _)
  · show IsRangeIter _ _ _ _ _; rw [hn]; simpa using Heap.get?_push_size _ rfl
  · rintro i v m₁ news₁ h tk o hi ⟨t, rfl⟩ hJ hoff _ F₁ N₁
    exact turn _ o i t m₁ news₁ h tk hi hJ (fun p hp => Heap.lt_size (N p hp).1) hoff F₁ N₁
  · intro m₁ news₁ h tk hJ F₁ N₁
    exact done m₁ news₁ h tk hJ F₁ N₁
end
section
variable {prog : Program} {w : World} {A : Around} {E : Value → Shared → Prop} {s : Shared} {env : Env} {h₀ : Heap} {x : Str} {body : List Stmt} {Q : Flow → Shared → Prop} {δ : Type}
theorem iter_rangeF {r : Addr} {a₀ b₀ c₀ : Int} {t₀ u₀ v₀ : Tok} {n : Nat} {m₀ : Str → Option Value} (forgot : List Str) (led : δ → List (Addr × Obj)) (P : Nat → δ → Prop) (d₀ : δ)
    (hh : A.handled = none) (hr : IsRange s.heap r a₀ b₀ c₀ t₀ u₀ v₀) (hsmall : Builtin.Range.small a₀ b₀ c₀ = true) (hn : Builtin.Range.rangeSize a₀ b₀ c₀ = (n : Int))
    (F : Fr h₀ env.locals s.heap m₀) (N : News h₀ env.locals s.heap (led d₀)) (hj : P 0 d₀)
    (turn : ∀ I oI i t (u : Str → Option Value) d h tk, i < n → P i d → (∀ p ∈ led d₀, p.1 < I) → (∀ p ∈ led d, p.1 ≠ I) → Fr h₀ env.locals h (fun y => if y = x then some (.int (a₀ + (i : Int) * c₀) t) else if forgot.contains y then u y else m₀ y) → News h₀ env.locals h ((I, oI) :: led d) →
      wpAny (model prog w) A (execs body env) (TurnPost h₀ env.locals I oI (JF forgot m₀ led (P (i + 1))) s Q) E { s with heap := h, toks := tk })
    (done : ∀ (u : Str → Option Value) d h tk, P n d → Fr h₀ env.locals h (fun y => if forgot.contains y then u y else m₀ y) → News h₀ env.locals h (led d) → Q .next { s with heap := h, toks := tk }) :
    wpAny (model prog w) A (pyIter (.ref r)) (fun it s₂ => LoopAtV prog w A h₀ env x body Q E it s₂) E s := by
  refine iter_rangeS (fun i => JF forgot m₀ led (P i)) hh hr hsmall hn F N ⟨d₀, rfl, hj, fun _ _ => rfl⟩ ?_ ?_
  · rintro I oI i t m₁ news₁ h tk hi ⟨d, rfl, hp, hm⟩ hlt hne F₁ N₁
    rw [js_fun hm] at F₁
    exact turn I oI i t m₁ d h tk hi hp hlt hne F₁ N₁
  · rintro m₁ news₁ h tk ⟨d, rfl, hp, hm⟩ F₁ N₁
    rw [js_base hm] at F₁
    exact done m₁ d h tk hp F₁ N₁
end
theorem smallS (n : Nat) (h : n ≤ 4) : (Builtin.Range.small (n : Int) 0 (-1) = true ∧ Builtin.Range.rangeSize (n : Int) 0 (-1) = (n : Int)) ∧ (Builtin.Range.small 1 ((n : Int) + 1) 1 = true ∧ Builtin.Range.rangeSize 1 ((n : Int) + 1) 1 = (n : Int)) := by
  have : n = 0 ∨ n = 1 ∨ n = 2 ∨ n = 3 ∨ n = 4 := by omega
  rcases this with rfl | rfl | rfl | rfl | rfl <;> decide

section
variable {prog : Program} {w : World} {A : Around} {E : Value → Shared → Prop} {s : Shared} {h₀ : Heap} {L l : Addr} {m : Str → Option Value} {news : List (Addr × Obj)} {g : Obj → List (Addr × Obj)} {vs : List Value} {k : Nat} {v : Value} {t : Tok} {Q : Value → Shared → Prop}
/-- boards[-1] -/
theorem last_L {value slice : PySem.Expr} (N : News h₀ L s.heap news) (hm : (l, W.listOf (List.toArray vs) k) ∈ news) (hv : vs.getLast? = some v) (h : Q v s)
    (hs : subscripted slice false (.ref l) (.int (-1) t) = operate [.ref l, .int (-1) t] (getItem (.ref l) (.int (-1) t)) := by with_unfolding_all rfl) : wpAny (model prog w) A (subscriptTail value slice (.ref l) (.int (-1) t)) Q E s := by
  have hl : s.heap.IsList l (List.toArray vs) := ⟨_, N.get hm, rfl, _, rfl⟩
  have hne : 0 < vs.length := by cases vs with | nil => cases hv | cons _ _ => simp
  rw [List.getLast?_eq_getElem?] at hv
  have hsz : (List.toArray vs).size = vs.length := by simp
  exact tail_any hl.typeIs slot_list_getitem.lookup (wpAny_getItem_list_neg hl (by decide) (by rw [hsz]; omega) (by decide) (by
    rw [hsz, show ((-1 : Int) + (vs.length : Int)).toNat = vs.length - 1 by omega]
    simpa using hv) h) hs
/-- boards[i] -/
theorem nth_L {value slice : PySem.Expr} {i : Int} {j : Nat} (N : News h₀ L s.heap news) (hm : (l, W.listOf (List.toArray vs) k) ∈ news) (hv : vs[j]? = some v) (hi : i = (j : Int)) (hj : j < 100) (h : Q v s)
    (hs : subscripted slice false (.ref l) (.int i t) = operate [.ref l, .int i t] (getItem (.ref l) (.int i t)) := by with_unfolding_all rfl) : wpAny (model prog w) A (subscriptTail value slice (.ref l) (.int i t)) Q E s := by
  have hl : s.heap.IsList l (List.toArray vs) := ⟨_, N.get hm, rfl, _, rfl⟩
  subst hi
  exact tail_any hl.typeIs slot_list_getitem.lookup (wpAny_getItem_list hl (by omega) (by omega) (by simpa using hv) h) hs
/-- boards.append(board) -/
theorem append_B (F : Fr h₀ L s.heap m) (N : News h₀ L s.heap news) (U : UpdF l (W.listOf (List.toArray vs) k) news g) (hz : vs.length < 1000)
    (h : ∀ h', Fr h₀ L h' m → News h₀ L h' (g (W.listOf (List.toArray (vs ++ [v])) (k + 1))) → Q .none { s with heap := h' }) : wpAny (model prog w) A (call (.builtin "list.append") [.ref l, v]) Q E s := by
  refine append_K F N (upd_of U) (fun h' F' N' => h h' F' ?_) (by rw [sizeLine_eq]; simp; omega)
  simpa using N'
/-- range(a, b, c) -/
theorem range_L3 {a b c : Int} {u v : Tok} (F : Fr h₀ L s.heap m) (N : News h₀ L s.heap news) (hc : c ≠ 0) (hp : Builtin.divisionGoesByPylong (b - a) c = false)
    (h : ∀ r h' tk, Fr h₀ L h' m → News h₀ L h' ((r, { cls := .type "range", dict := none, data := .fields #[.int a t, .int b u, .int c v], slots := #[] }) :: news) → (∀ p ∈ news, p.1 < r) → Q (.ref r) { s with heap := h', toks := tk }) :
    wpAny (model prog w) A (call (.type "range") [.int a t, .int b u, .int c v]) Q E s :=
  call_range_3 hc (h _ _ _ (F.push _) (N.push F _) fun p hp => Heap.lt_size (N p hp).1) (.inl hp)
/-- range(a, b) -/
theorem range_L2 {a b : Int} {u : Tok} (F : Fr h₀ L s.heap m) (N : News h₀ L s.heap news)
    (h : ∀ r v h' tk, Fr h₀ L h' m → News h₀ L h' ((r, { cls := .type "range", dict := none, data := .fields #[.int a t, .int b u, .int 1 v], slots := #[] }) :: news) → (∀ p ∈ news, p.1 < r) → Q (.ref r) { s with heap := h', toks := tk }) :
    wpAny (model prog w) A (call (.type "range") [.int a t, .int b u]) Q E s :=
  call_range_2 (h _ _ _ _ (F.push _) (N.push F _) fun p hp => Heap.lt_size (N p hp).1)
/-- d[k], d a dict of the ledger's tail -/
theorem get_R {value slice : PySem.Expr} {d : Addr} {od : Obj} {p0 : Addr × Obj} {rest : List (Addr × Obj)} {kv : List (Int × Value)} {i : Int} (N : News h₀ L s.heap (p0 :: rest)) (hm : (d, od) ∈ rest) (hd : od.IsDictOf (intKind prog w) kv) (hv : valueAt kv i = some v) (h : Q v { s with toks := s.toks + 1 })
    (hs : subscripted slice false (.ref d) (.int i t) = operate [.ref d, .int i t] (getItem (.ref d) (.int i t)) := by with_unfolding_all rfl) : wpAny (model prog w) A (subscriptTail value slice (.ref d) (.int i t)) Q E s :=
  have hmm : s.heap.DictOf (intKind prog w) d kv := Heap.dictOf_iff.mpr ⟨od, N.get (.tail _ hm), hd⟩
  tail_any hmm.typeIs slot_dict_getitem.lookup (wpAny_getItem_of (intKind_is prog w i t) hmm.mapOf hv h) hs
theorem inst_rest {h : Heap} {y C dx : Addr} {od : Obj} {sl : Array (Option Value)} {p0 : Addr × Obj} {rest : List (Addr × Obj)} (N : News h₀ L h (p0 :: rest)) (h1 : (y, (⟨.ref C, some dx, .plain, sl⟩ : Obj)) ∈ rest) (h2 : (dx, od) ∈ rest) :
    InstAt h y ⟨.ref C, some dx, .plain, sl⟩ C (some od) := ⟨N.get (.tail _ h1), rfl, rfl, N.get (.tail _ h2)⟩
theorem pstr_same2 (b : Bool) : PySem.Spec.same (.list [.list [.str (pstr b)]]) (.list [.list [.str (pstr b)]]) = true := by cases b <;> decide +kernel
theorem shaped_Ag2 (b : Bool) : SeqAt.shaped (.list [.list [.str (pstr b)]]) = true := by cases b <;> decide +kernel
theorem mix_Ag2 (b : Bool) : SeqAt.noMix (.list [.list [.str (pstr b)]]) (.list [.list [.str (pstr b)]]) = true := by cases b <;> decide +kernel
/-- joined != [winner] -/
theorem ne_W {r e lu lw : Addr} {us1 us2 : List Value} {k1 k2 kk1 kk2 : Nat} {b : Bool} (N : News h₀ L s.heap news) (h1 : (r, W.listOf (List.toArray [Value.ref lu]) k1) ∈ news) (h2 : (e, W.listOf (List.toArray [Value.ref lw]) k2) ∈ news)
    (g1 : s.heap.get? lu = some (W.listOf (List.toArray us1) kk1)) (a1 : Ag us1 [b]) (g2 : s.heap.get? lw = some (W.listOf (List.toArray us2) kk2)) (a2 : Ag us2 [b]) (hu : A.units + 64 < cLine)
    (h : Q (.bool false) s) : wpAny (model prog w) A (compareOp .NotEq (.ref r) (.ref e)) Q E s := by
  obtain ⟨as1, r1⟩ := reads_Ag g1 a1
  obtain ⟨as2, r2⟩ := reads_Ag g2 a2
  refine ne_dataH_same (Reads.list (N.get h1) rfl rfl (ReadsAll.cons r1 ReadsAll.nil)) (Reads.list (N.get h2) rfl rfl (ReadsAll.cons r2 ReadsAll.nil)) (shaped_Ag2 _) (shaped_Ag2 _) hu (mix_Ag2 _) ?_
  rw [pstr_same2]
  exact h
end
/-- what stands in the heap below or in the ledger -/
def KeptAt (h₀ : Heap) (news : List (Addr × Obj)) (a : Addr) (o : Obj) : Prop := h₀.get? a = some o ∨ (a, o) ∈ news
theorem KeptAt.get {h₀ h : Heap} {L : Addr} {m : Str → Option Value} {news all : List (Addr × Obj)} {a : Addr} {o : Obj} (hk : KeptAt h₀ news a o) (F : Fr h₀ L h m) (N : News h₀ L h all) (hs : ∀ p ∈ news, p ∈ all) : h.get? a = some o := by
  rcases hk with e | e
  · exact F.keep _ _ e
  · exact (N _ (hs _ e)).1
theorem list_ne_frame {h₀ h : Heap} {L a : Addr} {m : Str → Option Value} {vs : Array Value} {k : Nat} (F : Fr h₀ L h m) (e : h.get? a = some (W.listOf vs k)) : a ≠ L := by
  rintro rfl
  obtain ⟨o, es, ep, ho, hd, _⟩ := F.ns
  rw [e] at ho
  cases ho
  cases hd
section
variable {w : World} {mean : ExcName → Option Value} {mg mb : Str → Option Value} {gd : Option (List Code)} {fr : Option (List Env)} {dp un : Nat} {s : Shared} {Q E : Value → Shared → Prop} {h₀ : Heap} {L : Addr} {m : Str → Option Value} {news : List (Addr × Obj)}
theorem board_J {n c : Nat} {t9 t8 : Tok} (F : Fr h₀ L s.heap m) (N : News h₀ L s.heap news) (X : (Mine.hd.heap_39 w.params).In h₀) (T : Top Mine.hd.view_39 (looseW Mine.hd.view_39 []) mean mg mb h₀) (hd : dp + 80 < recursionLimit) (hu : un + 800 < cLine)
    (hn1 : 1 ≤ n) (hn4 : n ≤ 4)
    (h : ∀ fd od fz h' tk, Fr h₀ L h' m → News h₀ L h' ((fd, od) :: fz) → BdAt PySem.Challenge.rw_rl0022_01.prog w (fun a o => (a, o) ∈ (fd, od) :: fz) (.ref fd) (boardM n c) → Q (.ref fd) { s with heap := h', toks := tk }) :
    wpAny (model PySem.Challenge.rw_rl0022_01.prog w) (arnd dp un gd fr) (call (.ref 77) [.int (n : Int) t9, .int (c : Int) t8]) Q E s := by
  refine board_spec w mean mg mb gd fr dp un s Q E (X.keeps F.keep) (T.keeps F.keep) hd hu n c t9 t8 hn1 hn4 ?_
  intro fd od kv fz s' kk hlo hadd hdo hcl
  obtain ⟨F', N', _⟩ := call_new kk F N hadd
  obtain ⟨h', tk, rfl, _⟩ := kk
  exact h fd od fz h' tk F' (fun p hp => N' p (List.mem_append_left _ hp)) ⟨fd, od, kv, rfl, hlo, .head _, hdo, hcl.mono fun a o hm => .tail _ hm⟩
theorem fallen_J {n : Nat} {t9 : Tok} {bd : Addr} {cs : List (Int × Bool)} (F : Fr h₀ L s.heap m) (N : News h₀ L s.heap news) (X : (Mine.hd.heap_39 w.params).In h₀) (T : Top Mine.hd.view_39 (looseW Mine.hd.view_39 []) mean mg mb h₀) (hd : dp + 80 < recursionLimit) (hu : un + 800 < cLine)
    (hn1 : 1 ≤ n) (hn4 : n ≤ 4) (hB : BdAt PySem.Challenge.rw_rl0022_01.prog w (fun a o => (a, o) ∈ news) (.ref bd) cs) (hk : cs.map (·.1) = keysT (n + 1))
    (h : ∀ fd od fz h' tk, Fr h₀ L h' m → News h₀ L h' (((fd, od) :: fz) ++ news) → (∀ q ∈ news, ∀ p ∈ (fd, od) :: fz, q.1 ≠ p.1) → BdAt PySem.Challenge.rw_rl0022_01.prog w (fun a o => (a, o) ∈ (fd, od) :: fz) (.ref fd) (fallM n cs) → Q (.ref fd) { s with heap := h', toks := tk }) :
    wpAny (model PySem.Challenge.rw_rl0022_01.prog w) (arnd dp un gd fr) (call (.ref 89) [.int (n : Int) t9, .ref bd]) Q E s := by
  obtain ⟨d, o, kvs, e, hsys, ho, hdo, hc⟩ := hB
  cases e
  refine fallen_spec w mean mg mb gd fr dp un s Q E (X.keeps F.keep) (T.keeps F.keep) hd hu n t9 bd o kvs cs hn1 hn4 (N _ ho).1 hdo (hc.mono fun a o hm => (N _ hm).1) hk ?_
  intro fd od kv fz s' kk hlo hadd hdo hcl
  obtain ⟨F', N', c'⟩ := call_new kk F N hadd
  obtain ⟨h', tk, rfl, _⟩ := kk
  exact h fd od fz h' tk F' N' c' ⟨fd, od, kv, rfl, hlo, .head _, hdo, hcl.mono fun a o hm => .tail _ hm⟩
theorem joined_J {n : Nat} {t9 : Tok} {bd : Addr} {cs : List (Int × Bool)} {b : Bool} (F : Fr h₀ L s.heap m) (N : News h₀ L s.heap news) (X : (Mine.hd.heap_39 w.params).In h₀) (T : Top Mine.hd.view_39 (looseW Mine.hd.view_39 []) mean mg mb h₀) (hd : dp + 80 < recursionLimit) (hu : un + 800 < cLine)
    (hn1 : 1 ≤ n) (hn4 : n ≤ 4) (hB : BdAt PySem.Challenge.rw_rl0022_01.prog w (fun a o => (a, o) ∈ news) (.ref bd) cs) (hk : cs.map (·.1) = keysT (n + 1)) (hj : joinedM n cs = some [b])
    (h : ∀ r lu us kk k rest h' tk, Fr h₀ L h' m → News h₀ L h' ((r, W.listOf (List.toArray [Value.ref lu]) k) :: rest) → (∀ p ∈ news, p ∈ rest) → KeptAt h₀ rest lu (W.listOf (List.toArray us) kk) → Ag us [b] → Q (.ref r) { s with heap := h', toks := tk }) :
    wpAny (model PySem.Challenge.rw_rl0022_01.prog w) (arnd dp un gd fr) (call (.ref 99) [.int (n : Int) t9, .ref bd]) Q E s := by
  obtain ⟨d, o, kvs, e, hsys, ho, hdo, hc⟩ := hB
  cases e
  refine joined_spec w mean mg mb gd fr dp un s Q E (X.keeps F.keep) (T.keeps F.keep) hd hu n t9 bd o kvs cs hn1 hn4 hsys (N _ ho).1 hdo (hc.mono fun a o hm => (N _ hm).1) hk [b] hj ?_
  intro r jv k s' kk hn hg hJL
  cases hJL with
  | @cons lu us ku _ _ _ hlu hag hnil =>
    cases hnil
    obtain ⟨F', N', _⟩ := call_new (add := [(r, W.listOf (List.toArray [Value.ref lu]) k)]) kk F N (fun p hp => by rw [List.mem_singleton.mp hp]; exact ⟨hg, hn⟩)
    have hne := list_ne_frame F hlu
    obtain ⟨h', tk, rfl, hkeep⟩ := kk
    cases hq : h₀.get? lu with
    | some o' =>
      have := F.keep _ _ hq
      rw [hlu] at this
      cases this
      exact h r lu us ku k news h' tk F' N' (fun p hp => hp) (.inl hq) hag
    | none =>
      refine h r lu us ku k ((lu, W.listOf (List.toArray us) ku) :: news) h' tk F' (fun p hp => ?_) (fun p hp => .tail _ hp) (.inr (.head _)) hag
      rcases List.mem_cons.mp hp with rfl | hp
      · exact N' _ (.head _)
      · rcases List.mem_cons.mp hp with rfl | hp
        · exact ⟨hkeep _ _ hlu, hne, hq⟩
        · exact N' _ (.tail _ hp)
end
end Mine

/- part AL -/
namespace Mine
local macro_rules | `(tactic| walk_at "pyIter ref") => `(tactic| refine Hold.mk ?_)
local macro_rules | `(tactic| walk_at "call type:range") => `(tactic| (k_extra "AL 1"; intro r' v' h' tk' F' N' l1; (try k_lt l1); (try k_sweep)))
local macro_rules | `(tactic| walk_at "call type:range") => `(tactic| (k_extra "AL 2"; intro r' h' tk' F' N' l1; (try k_lt l1); (try k_sweep)))
local macro_rules | `(tactic| k_all) => `(tactic| assumption)
local macro_rules | `(tactic| walk_at "call builtin:list.append") => `(tactic| (k_extra "AL 3"; intro h' F' N'; (try k_sweep)))
local macro_rules | `(tactic| k_inst) => `(tactic| (refine' inst_rest (by k_asm) (by assumption) (by assumption)))
set_option maxRecDepth 100000 in
set_option maxHeartbeats 8000000 in
theorem law_holds : PySem.Challenge.rw_rl0022_01.Holds := hd (by
  k_with_none
  k_with "call ref" => (refine Hold.mk ?_)
  k_with "compareOp NotEq ref ref" => (refine Hold.mk ?_)
  k_with "AL 1" => ((with_reducible show wpAny _ _ (call _ [_, _]) _ _ _); k_dflt (refine' range_L2 (by k_asm) (by k_asm) ?_))
  k_with "AL 2" => ((with_reducible show wpAny _ _ (call _ [_, _, _]) _ _ _); k_dflt (refine' range_L3 (by k_asm) (by k_asm) (by decide) (by exact PyProof.noPylong_small (by omega)) ?_))
  k_with "AL 3" => (k_dflt (refine' append_B (by k_asm) (by k_asm) (by k_updF) (by omega) ?_))
  k_with "subscriptTail" => ((with_reducible show wpAny _ _ (subscriptTail _ _ (Value.ref _) (Value.int _ _)) _ _ _); k_dflt (refine' nth_L (by k_asm) (by k_mem) (by assumption) (by omega) (by omega) ?_ (by with_unfolding_all rfl)))
  k_with "subscriptTail" => ((with_reducible show wpAny _ _ (subscriptTail _ _ (Value.ref _) (Value.int _ _)) _ _ _); k_dflt (refine' last_L (by k_asm) (by k_mem) (by assumption) ?_ (by with_unfolding_all rfl)))
  k_with "subscriptTail" => ((with_reducible show wpAny _ _ (subscriptTail _ _ (Value.ref _) (Value.int 0 _)) _ _ _); k_dflt (refine' get_R (by k_asm) (by assumption) (by assumption) (by assumption) ?_ (by with_unfolding_all rfl)))
  k_with "subscriptTail" => ((with_reducible show wpAny _ _ (subscriptTail _ _ (Value.ref _) (Value.int (_ - _) _)) _ _ _); refine Hold.mk ?_)
  k_go0
  (all_goals try k_fold)
  k_steps
  unfold Hold
  rename List Int => xs
  with_reducible rename News _ _ _ _ => N0
  with_reducible rename Fr _ _ _ _ => F0
  rename Frag.In _ _ => KX
  rename Top _ _ _ _ _ _ => TT
  have hc0 : 0 ≤ (81090 + (List.take 63 xs).sum).fmod 98304 := Int.fmod_nonneg_of_pos _ (by decide)
  generalize (81090 + (List.take 63 xs).sum).fmod 98304 = code at *
  obtain ⟨n, hn, hn2, hn4⟩ : ∃ n : Nat, 2 + code.fmod 3 = (n : Int) ∧ 2 ≤ n ∧ n ≤ 4 := by
    rw [Int.fmod_eq_emod_of_nonneg _ (by decide)]
    exact ⟨(2 + code % 3).toNat, by omega, by omega, by omega⟩
  obtain ⟨c, hc⟩ : ∃ c : Nat, code.fdiv 3 = (c : Int) := by
    rw [Int.fdiv_eq_ediv_of_nonneg _ (by decide)]
    exact ⟨(code / 3).toNat, by omega⟩
  dsimp only at F0
  rw [hn] at F0
  rw [hn, hc]
  k_dflt (refine board_J F0 N0 KX TT ?hd ?hu (by omega) hn4 ?_)
  case hd => decide
  case hu => decide
  intro fd od fz h1 tk1 F1 N1 B1
  generalize hrest : (fd, od) :: fz = rest at N1 B1
  clear hrest F0 N0
  k_steps
  unfold Hold
  rename_i bl h2 lbl h3 r2 h4 tk4 F9 N9 l9
  rename Shared => s1
  rename World => w1
  have hS := smallS n hn4
  refine iter_rangeF (δ := List Value × Nat × List (Addr × Obj)) (n := n) [Str.ofString "rows"]
    (fun d => (bl, W.listOf (List.toArray d.1) d.2.1) :: d.2.2)
    (fun i d => Bds PySem.Challenge.rw_rl0022_01.prog w1 (fun a o => (a, o) ∈ d.2.2) n c (i + 1) d.1 ∧ ∀ p ∈ d.2.2, p.1 ≠ bl)
    ([.ref fd], 0, rest) rfl (N9.get (by k_mem)) hS.1.1 hS.1.2 F9 (fun p hp => N9 p (List.mem_cons_of_mem _ hp)) ⟨?_, ?_⟩ ?_ ?_
  · exact ⟨rfl, fun j hj => ⟨.ref fd, by rw [show j = 0 by omega]; rfl, by rw [show j = 0 by omega]; exact B1⟩⟩
  · exact fun p hp => Nat.ne_of_lt (lbl p hp)
  · rintro I oI i t u ⟨vs, k, rest'⟩ h tk hi ⟨hB, hne⟩ hltI hneI F2 N2
    dsimp only at hB hne hltI hneI N2
    change Fr s1.heap s1.heap.objs.size h _ at F2
    change News s1.heap s1.heap.objs.size h _ at N2
    have hval : (n : Int) + (i : Int) * (-1) = ((n - i : Nat) : Int) := by omega
    rw [hval] at F2
    obtain ⟨d, hlast, hBd⟩ := hB.last
    have hI1 : @Ne Nat bl I := hneI (bl, W.listOf (List.toArray vs) k) (.head _)
    have hneI' : ∀ p ∈ rest', p.1 ≠ I := fun p hp => hneI p (.tail _ hp)
    have hlen : vs.length < 1000 := by rw [hB.1]; omega
    clear F9 N9 hltI hneI lbl l9
    (try ((with_reducible show wpAny _ _ _ _ _ _); k_fold))
    k_steps
    unfold Hold
    with_reducible rename News _ _ _ _ => N3
    with_reducible rename Fr _ _ _ _ => F3
    k_dflt (refine fallen_J F3 N3 KX TT ?hd ?hu (by omega) (by omega) (hBd.mono fun a o hm => .tail _ (.tail _ hm)) ?hk ?_)
    case hd => decide
    case hu => decide
    case hk => rw [ch_keys n c i (by omega)]
    intro fd2 od2 fz2 h2 tk2 F4 N4 c4 B4
    obtain ⟨rest2, hr2⟩ : ∃ r, r = ((fd2, od2) :: fz2) ++ rest' := ⟨_, rfl⟩
    have N5 : News s1.heap s1.heap.objs.size h2 ((I, oI) :: (bl, W.listOf (List.toArray vs) k) :: rest2) := fun p hp => N4 p (by
      rw [hr2] at hp
      simp only [List.mem_cons, List.mem_append] at hp ⊢
      rcases hp with h | h | (h | h) | h <;> simp [h])
    have hne2 : ∀ p ∈ rest2, p.1 ≠ bl := fun p hp => by
      rw [hr2] at hp
      rcases List.mem_append.mp hp with hp | hp
      · exact fun e => c4 (bl, W.listOf (List.toArray vs) k) (.tail _ (.head _)) p hp e.symm
      · exact hne p hp
    have hneI2 : ∀ p ∈ rest2, p.1 ≠ I := fun p hp => by
      rw [hr2] at hp
      rcases List.mem_append.mp hp with hp | hp
      · exact fun e => c4 (I, oI) (.head _) p hp e.symm
      · exact hneI' p hp
    have hB2 : Bds PySem.Challenge.rw_rl0022_01.prog w1 (fun a o => (a, o) ∈ rest2) n c (i + 1 + 1) (vs ++ [.ref fd2]) :=
      hB.snoc (fun a o hm => by rw [hr2]; exact List.mem_append_right _ hm) (B4.mono fun a o hm => by rw [hr2]; exact List.mem_append_left _ hm)
    clear N4 F3 N3 c4 B4 hr2
    (try ((with_reducible show wpAny _ _ _ _ _ _); k_fold))
    k_steps
    with_reducible rename News _ _ _ _ => N6
    with_reducible rename Fr _ _ _ _ => F6
    refine TurnPost.goF (vs ++ [.ref fd2], k + 1, rest2) F6 N6 (by k_mem) (fun p hp => List.mem_cons_of_mem _ hp) ?_ ⟨hB2, hne2⟩ (fun y hy => by (try dsimp only); (repeat (first | refine fo_ne (ne_forgot hy (by decide)) ?_ | refine fo_in hy ?_ | refine fo_in (sub_forgot hy (by decide)) ?_)); rfl)
    intro p hp
    rcases List.mem_cons.mp hp with h | h
    · rw [h]; exact hI1
    · exact hneI2 p h
  · rintro u ⟨vs, k, rest'⟩ h tk ⟨hB, hne⟩ F2 N2
    dsimp only at hB hne N2
    change Fr s1.heap s1.heap.objs.size h _ at F2
    change News s1.heap s1.heap.objs.size h _ at N2
    clear F9 N9 lbl l9
    obtain ⟨d, hlast, hBd⟩ := hB.last
    obtain ⟨_, od9, kv9, e9, hsys9, hod9, hdo9, hcl9⟩ := hBd
    cases e9
    obtain ⟨xw, dw, luw, lrw, z1, z2, z3, z4, usw, kkw, rlw, nw, hva, hx, hdx, hlu, hlr, hagw, _⟩ := hcl9.get (lookup_of_key (k := 0) (by rw [ch_keys n c n (Nat.le_refl n), Nat.sub_self]; decide))
    clear hcl9 hlr
    (try ((with_reducible show wpAny _ _ _ _ _ _); k_fold))
    k_steps
    unfold Hold
    with_reducible rename News _ _ _ _ => N7
    with_reducible rename Fr _ _ _ _ => F7
    refine iter_rangeF (δ := Unit) (n := n) [Str.ofString "rows"]
      (fun _ => (bl, W.listOf (List.toArray vs) k) :: rest') (fun _ _ => True)
      () rfl (N7.get (by k_mem)) hS.2.1 hS.2.2 F7 (fun p hp => N7 p (List.mem_cons_of_mem _ hp)) trivial ?_ ?_
    · rintro I oI i t u2 ⟨⟩ h3 tk3 hi _ hltI hneI F8 N8
      (try dsimp only at hltI)
      (try dsimp only at hneI)
      (try dsimp only at N8)
      change Fr s1.heap s1.heap.objs.size h3 _ at F8
      change News s1.heap s1.heap.objs.size h3 _ at N8
      have hval : (1 : Int) + (i : Int) * 1 = ((i + 1 : Nat) : Int) := by omega
      rw [hval] at F8
      obtain ⟨dj, hnth, hBj⟩ := hB.nth (j := n - 1 - i) (by omega)
      clear F7 N7 hlast
      (try ((with_reducible show wpAny _ _ _ _ _ _); k_fold))
      k_steps
      unfold Hold
      rw [show (n : Int) - ((i + 1 : Nat) : Int) = ((n - 1 - i : Nat) : Int) by omega]
      refine nth_L N8 (by k_mem) hnth rfl (by omega) ?_ (by with_unfolding_all rfl)
      (try ((with_reducible show wpAny _ _ _ _ _ _); k_fold))
      k_steps
      unfold Hold
      have hbj : BdAt PySem.Challenge.rw_rl0022_01.prog w1 (fun a o => (a, o) ∈ (I, oI) :: (bl, W.listOf (List.toArray vs) k) :: rest') (.ref dj) (chM n c (n - 1 - i)) := hBj.mono fun a o hm => .tail _ (.tail _ hm)
      have hkj : (chM n c (n - 1 - i)).map (·.1) = keysT ((i + 1) + 1) := by rw [ch_keys n c _ (by omega), show n - (n - 1 - i) + 1 = (i + 1) + 1 by omega]
      have hjj : joinedM (i + 1) (chM n c (n - 1 - i)) = some [colAt (chM n c n) 0] := ch_joined (by omega) hn4 (by omega)
      k_dflt (refine joined_J F8 N8 KX TT ?hd ?hu (by omega) (by omega) hbj hkj hjj ?_)
      case hd => decide
      case hu => decide
      intro r lu us kk kr rest2 h5 tk5 F9 N9 hsub hkept hag
      have hsub' : ∀ p ∈ (I, oI) :: (bl, W.listOf (List.toArray vs) k) :: rest', p ∈ rest2 := hsub
      clear hsub hbj hkj hjj hBj hnth N8 F8
      (try ((with_reducible show wpAny _ _ _ _ _ _); k_fold))
      k_steps
      unfold Hold
      with_reducible rename News _ _ _ _ => N10
      with_reducible rename Fr _ _ _ _ => F10
      k_dflt (refine ne_W N10 (.tail _ (.head _)) (.head _) (hkept.get F10 N10 (fun p hp => .tail _ (.tail _ hp))) hag (N10.get (.tail _ (.tail _ (hsub' _ (.tail _ (.tail _ hlu)))))) hagw ?hu ?_)
      case hu => ((try simp only [units_in1, units_deeper, Around.mark_units, units_caller]); decide)
      (try ((with_reducible show wpAny _ _ _ _ _ _); k_fold))
      k_steps
      with_reducible rename News _ _ _ _ => N11
      with_reducible rename Fr _ _ _ _ => F11
      exact TurnPost.goF () F11 N11 (.tail _ (.tail _ (hsub' _ (.head _)))) (fun p hp => .tail _ (.tail _ (hsub' p (.tail _ hp)))) hneI trivial (fun y hy => by (try dsimp only); (repeat (first | refine fo_ne (ne_forgot hy (by decide)) ?_ | refine fo_in hy ?_ | refine fo_in (sub_forgot hy (by decide)) ?_)); rfl)
    · rintro u2 ⟨⟩ h3 tk3 _ F8 N8
      change Fr s1.heap s1.heap.objs.size h3 _ at F8
      change News s1.heap s1.heap.objs.size h3 _ at N8
      clear F7 N7 hlast
      (try ((with_reducible show wpAny _ _ _ _ _ _); k_fold))
      k_steps)
end Mine

set_option maxRecDepth 100000 in
set_option maxHeartbeats 8000000 in
theorem PySem.Challenge.cw_rl0022_01_holds : PySem.Challenge.rw_rl0022_01.Holds := by
  exact Mine.law_holds
