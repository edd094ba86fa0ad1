import PyProof.Rows.All
import Wide.All
import OpenK.AllK
import Wide.FinOn
import Lean
import PySem.Challenge.RW_mr0158_01
open PySem PySem.W PyProof.Rows
set_option Elab.async false
set_option compiler.extract_closed false
set_option linter.unusedVariables false
local macro_rules | `(tactic| walk_at $s:str) => `(tactic| k_extra $s)
namespace Mine
set_option maxRecDepth 100000 in
set_option maxHeartbeats 8000000 in
open_top hd for PySem.Challenge.rw_mr0158_01
end Mine
/-! ## C0 -/
open PySem.Calls
namespace Mine

/-- from every heap to a later one all stays -/
noncomputable abbrev Keeps (h h' : Heap) : Prop := ∀ b o, h.get? b = some o → h'.get? b = some o

theorem fr_keeps {h₀ h h' : Heap} {L : Addr} {m : Str → Option Value} (F : Fr h₀ L h m) (k : Keeps h h') : Fr h₀ L h' m :=
  ⟨F.ns.keeps k, fun b o e => k b o (F.keep b o e), F.above⟩
theorem news_keeps {h₀ h h' : Heap} {L : Addr} {news : List (Addr × Obj)} (N : News h₀ L h news) (k : Keeps h h') : News h₀ L h' news :=
  fun p hp => ⟨k _ _ (N p hp).1, (N p hp).2⟩
theorem news_more {h₀ h h' : Heap} {L a : Addr} {o : Obj} {m : Str → Option Value} {news : List (Addr × Obj)} (F : Fr h₀ L h m) (hn : h.get? a = none) (hg : h'.get? a = some o) (N : News h₀ L h' news) : News h₀ L h' ((a, o) :: news) := by
  intro p hp
  rcases List.mem_cons.mp hp with rfl | hp
  · refine ⟨hg, fun q => ?_, ?_⟩
    · obtain ⟨oL, es, ep, e, r⟩ := F.ns
      have e' : h.get? a = some oL := by rw [show a = L from q]; exact e
      rw [hn] at e'; cases e'
    · cases q : h₀.get? a with
      | none => rfl
      | some o' => rw [F.keep _ _ q] at hn; cases hn
  · exact N p hp

section
variable {prog : Program} {w : World} {A A₀ : Around} {s : Shared} {K : Frag} {L : Addr} {h₀ base : Heap} {m mg mb : Str → Option Value} {news : List (Addr × Obj)} {p : Program} {loose : List Str} {mean : ExcName → Option Value}

/-- a def of the text is entered: its ground is the caller's whole heap but what is handed on in news -/
theorem enter_def {env : Env} {outer : List Env} {R : Result → Shared → Prop} {name qual : Str} {params : Arguments} {body : List Stmt} {scope : Scope} {dV kV doc pm cdv ct oc : Value} {an od : Option Addr} {osl : Array (Option Value)} {f : Addr} {args : Args} {binds : List (Str × Value)}
    (B : Below A₀ base outer h₀) (F : Fr h₀ L s.heap m) (X₀ : K.In h₀) (N : News h₀ L s.heap news) (T : Top p loose mean mg mb h₀) (hA : A.frames = some (env :: outer)) (hf : env.frame = some L) (hke : env.scope.kind = .function)
    (ho : K.lookup f = some ⟨oc, od, .func (fnOf name qual params body scope dV kV doc pm an cdv ct), osl⟩) (hcd : codeIn K cdv qual = true) (hroom : A.depth < recursionLimit)
    (hbind : BindsTo s (fnOf name qual params body scope dV kV doc pm an cdv ct) args binds) (hloc : ∀ y ∈ binds, scope.names.lookup y.1 = some .local)
    (h : ∀ g L' h₁, (∀ b o, s.heap.get? b = some o → b ∉ news.map (·.1) → g.get? b = some o) → (∀ b o, g.get? b = some o → s.heap.get? b = some o) → Fr g L' h₁ (fun y => binds.reverse.lookup y) → News g L' h₁ news → Below A base (env :: outer) g → K.In g → Top p loose mean mg mb g → s.heap.objs.size = L' →
      wpAny (model prog w) (A.deeper (envOf qual scope L' f cdv)) (execs body (envOf qual scope L' f cdv))
        (fun fl s' => R (.ok (.ret (match fl with | .ret v => v | _ => .none))) s')
        (fun e s' => wpAny (model prog w) (A.deeper (envOf qual scope L' f cdv)) (leaving (envOf qual scope L' f cdv) e) (fun _ s'' => R (.error e) s'') (fun e' s'' => R (.error e') s'') s')
        { s with heap := h₁, toks := s.toks + binds.length })
    (hco : scope.isCoroutine = false) (hgen : scope.isGenerator = false) (hk : scope.kind = .function)
    (hcell : ∀ x ∈ scope.names, x.2 ≠ .cell) : codeAny (model prog w) A (.call (.ref f) args) R s := by
  obtain ⟨FG, BG, st, lv⟩ := groundX (R := R) B F N hA hf hke
  have X := X₀.keeps F.keep
  refine codeAny_call_def (fd := fnOf name qual params body scope dV kV doc pm an cdv ct) (body := body) (binds := binds) hroom (X _ _ ho) rfl (T.nolimit.keeps F.keep) (codeRec_of X hcd) rfl hbind hcell hloc (fun h₁ hns hk₁ => ?_) hco hgen hk
  exact h _ s.heap.objs.size h₁ (fun b o e q => hideAll_get _ e q) (fun b o e => of_hideAll _ e) ⟨hns, fun b o e => hk₁ b o (of_hideAll _ e), Nat.le_of_eq (hideAll_size _ _)⟩
    (fun p hp => ⟨hk₁ _ _ (N p hp).1, Nat.ne_of_lt (Heap.lt_size (N p hp).1), hideAll_none _ (List.mem_map_of_mem hp)⟩) BG (X₀.keeps st) (T.keeps st) rfl

/-- the same for a def with cells -/
theorem enter_defC {env : Env} {outer : List Env} {R : Result → Shared → Prop} {name qual : Str} {params : Arguments} {body : List Stmt} {scope : Scope} {dV kV doc pm cdv ct oc : Value} {an od : Option Addr} {osl : Array (Option Value)} {f : Addr} {args : Args} {binds : List (Str × Value)}
    (B : Below A₀ base outer h₀) (F : Fr h₀ L s.heap m) (X₀ : K.In h₀) (N : News h₀ L s.heap news) (T : Top p loose mean mg mb h₀) (hA : A.frames = some (env :: outer)) (hf : env.frame = some L) (hke : env.scope.kind = .function)
    (ho : K.lookup f = some ⟨oc, od, .func (fnOf name qual params body scope dV kV doc pm an cdv ct), osl⟩) (hcd : codeIn K cdv qual = true) (hroom : A.depth < recursionLimit)
    (hbind : BindsTo s (fnOf name qual params body scope dV kV doc pm an cdv ct) args binds) (hkind : (binds.all fun y => scope.names.lookup y.1 == some .local || scope.names.lookup y.1 == some .cell) = true)
    (hnd : ((cellsFrom 0 scope.names []).map (·.1)).Nodup)
    (h : ∀ g L' h₁ tk cells, (∀ b o, s.heap.get? b = some o → b ∉ news.map (·.1) → g.get? b = some o) → (∀ b o, g.get? b = some o → s.heap.get? b = some o) → Fr g L' h₁ (bindL (envOfC qual scope L' f cdv).kindOf binds fun _ => none) → News g L' h₁ (cells ++ news) →
      CellsAre (bindC (envOfC qual scope L' f cdv).kindOf binds fun _ => none) (cellsFrom (L' + 1) scope.names []) cells → Below A base (env :: outer) g → K.In g → Top p loose mean mg mb g → (∀ p ∈ news, p.1 < L') →
      wpAny (model prog w) (A.deeper (envOfC qual scope L' f cdv)) (execs body (envOfC qual scope L' f cdv))
        (fun fl s' => R (.ok (.ret (match fl with | .ret v => v | _ => .none))) s')
        (fun e s' => wpAny (model prog w) (A.deeper (envOfC qual scope L' f cdv)) (leaving (envOfC qual scope L' f cdv) e) (fun _ s'' => R (.error e) s'') (fun e' s'' => R (.error e') s'') s')
        { s with heap := h₁, toks := tk })
    (hco : scope.isCoroutine = false) (hgen : scope.isGenerator = false) (hk : scope.kind = .function) : codeAny (model prog w) A (.call (.ref f) args) R s := by
  obtain ⟨FG, BG, st, lv⟩ := groundX (R := R) B F N hA hf hke
  have X := X₀.keeps F.keep
  refine codeAny_call_function hroom (X _ _ ho) rfl hco hgen rfl (codeRec_of X hcd) (hbind _ _ _ _ ?_)
  refine wpAny_newFunctionEnv_cells hk (kindsX hkind _) fun env' he s' x => ?_
  subst he
  refine ⟨(T.nolimit.keeps F.keep).keeps x.toInCall.keep, codeAny_func ?_⟩
  obtain ⟨h₁, tk, rfl, _⟩ := x.done
  have hk₁ := x.toInCall.keep
  obtain ⟨cells, NC, Y⟩ := Cl.news (h₀ := s.heap) (Nat.le_refl _) fun n c hm => ⟨x.cell n c (lookup_of_mem_nodup (cellsFrom_names scope.names 0 (s.heap.objs.size + 1) [] [] rfl ▸ hnd) hm), x.above n c hm⟩
  refine h _ s.heap.objs.size h₁ tk cells (fun b o e q => hideAll_get _ e q) (fun b o e => of_hideAll _ e) ⟨x.toInCall.ns, fun b o e => hk₁ b o (of_hideAll _ e), Nat.le_of_eq (hideAll_size _ _)⟩ (fun p hp => ?_) Y BG (X₀.keeps st) (T.keeps st) (fun p hp => Heap.lt_size (N p hp).1)
  rcases List.mem_append.mp hp with hp | hp
  · refine ⟨(NC p hp).1, (NC p hp).2.1, ?_⟩
    cases q : (hideAll s.heap (news.map (·.1))).get? p.1 with
    | none => rfl
    | some o => have := of_hideAll _ q; rw [(NC p hp).2.2] at this; cases this
  · exact ⟨hk₁ _ _ (N p hp).1, Nat.ne_of_lt (Heap.lt_size (N p hp).1), hideAll_none _ (List.mem_map_of_mem hp)⟩
end

/-- what is kept at a callee's end -/
theorem keeps_end {s : Heap} {g h₀ h' : Heap} {L L' : Addr} {m' : Str → Option Value} {news news' : List (Addr × Obj)} (N : News h₀ L s news) (k : ∀ b o, s.get? b = some o → b ∉ news.map (·.1) → g.get? b = some o)
    (F' : Fr g L' h' m') (N' : News g L' h' news') (hs : ∀ p ∈ news, p ∈ news') : Keeps s h' := fun b o e => by
  by_cases hb : b ∈ news.map (·.1)
  · obtain ⟨p, hp, rfl⟩ := List.mem_map.mp hb
    have := (N p hp).1
    rw [e] at this; cases this
    exact (N' p (hs p hp)).1
  · exact F'.keep b o (k b o e hb)
theorem keeps_end0 {s : Heap} {g h' : Heap} {L' : Addr} {m' : Str → Option Value} (k : ∀ b o, s.get? b = some o → b ∉ ([] : List (Addr × Obj)).map (·.1) → g.get? b = some o) (F' : Fr g L' h' m') : Keeps s h' := fun b o e => F'.keep b o (k b o e (by simp))
end Mine

/-! ## C2 -/
open PySem.Flt
namespace Mine

/-! the greatest and the least of three floats -/
noncomputable def fmax (a b : UInt64) : UInt64 := if (Float64.cmp a b == some .lt) = true then b else a
noncomputable def fmin (a b : UInt64) : UInt64 := if (Float64.cmp b a == some .lt) = true then b else a

theorem max3_any {prog : Program} {w : World} {A : Around} {E : Value → Shared → Prop} {s : Shared} {Q : Value → Shared → Prop} {a b c : Value} (hh : A.handled = none) (ha : NumV a) (hb : NumV b) (hc : NumV c)
    (h : ∀ h' tk, Keeps s.heap h' → Q (if ltV (if ltV a b then b else a) c then c else (if ltV a b then b else a)) { s with heap := h', toks := tk }) :
    wpAny (model prog w) A (call (.builtin "max") [a, b, c]) Q E s := by
  have hT : (s.heap.push { cls := .type "tuple", data := .seq #[a, b, c] }).IsTuple s.heap.objs.size #[a, b, c] := ⟨_, Heap.get?_push_size _ rfl, rfl, 0, rfl⟩
  refine call_max_three (wpAny_pyIter_tuple hT ?_)
  have hsz : (s.heap.push { cls := .type "tuple", data := .seq #[a, b, c] }).objs.size = s.heap.objs.size + 1 := Heap.size_push ..
  refine ⟨_, [_, s.heap.objs.size], [_], _, _, _, _, rfl, Walks.tuple (A := A.in1) hh _ s.heap.objs.size (by rw [hsz]; exact Nat.ne_of_lt (Nat.lt_succ_self _)) #[a, b, c],
    ⟨⟨_, Heap.get?_push_size _ rfl, rfl, rfl⟩, hT.push _⟩, fun d hd => ?_, by simp, cmpOf_gt #[a, b, c] (by simp [ha, hb, hc]), fun v h' tk hP hk => ?_⟩
  · rw [Heap.size_push, hsz]
    simp only [List.mem_cons, List.not_mem_nil, or_false] at hd
    rcases hd with e1 | e1
    · rw [e1, hsz]; exact Nat.lt_succ_self _
    · rw [e1]; exact Nat.lt_succ_of_lt (Nat.lt_succ_self _)
  · have hold : Keeps s.heap h' := fun d o e => by
      refine hk d o (fun hm => ?_) (Heap.get?_push_of_some _ (Heap.get?_push_of_some _ e))
      have := Heap.lt_size e
      rcases List.mem_cons.mp hm with e1 | hm
      · rw [e1] at this; dsimp only at this; rw [hsz] at this; exact Nat.lt_irrefl _ (Nat.lt_of_succ_lt this)
      · cases hm
    have := h h' tk hold
    have hv : v = if ltV (if ltV a b then b else a) c then c else (if ltV a b then b else a) := by
      cases h1 : ltV a b <;> cases h2 : ltV a c <;> cases h3 : ltV b c <;> simp [argBest, h1, h2, h3] at hP <;> subst hP <;> simp [h2, h3]
    rw [hv]; exact this

theorem min3_any {prog : Program} {w : World} {A : Around} {E : Value → Shared → Prop} {s : Shared} {Q : Value → Shared → Prop} {a b c : Value} (hh : A.handled = none) (ha : NumV a) (hb : NumV b) (hc : NumV c)
    (h : ∀ h' tk, Keeps s.heap h' → Q (if ltV c (if ltV b a then b else a) then c else (if ltV b a then b else a)) { s with heap := h', toks := tk }) :
    wpAny (model prog w) A (call (.builtin "min") [a, b, c]) Q E s := by
  have hT : (s.heap.push { cls := .type "tuple", data := .seq #[a, b, c] }).IsTuple s.heap.objs.size #[a, b, c] := ⟨_, Heap.get?_push_size _ rfl, rfl, 0, rfl⟩
  refine call_min_three (wpAny_pyIter_tuple hT ?_)
  have hsz : (s.heap.push { cls := .type "tuple", data := .seq #[a, b, c] }).objs.size = s.heap.objs.size + 1 := Heap.size_push ..
  refine ⟨_, [_, s.heap.objs.size], [_], _, _, _, _, rfl, Walks.tuple (A := A.in1) hh _ s.heap.objs.size (by rw [hsz]; exact Nat.ne_of_lt (Nat.lt_succ_self _)) #[a, b, c],
    ⟨⟨_, Heap.get?_push_size _ rfl, rfl, rfl⟩, hT.push _⟩, fun d hd => ?_, by simp, cmpOf_lt #[a, b, c] (by simp [ha, hb, hc]), fun v h' tk hP hk => ?_⟩
  · rw [Heap.size_push, hsz]
    simp only [List.mem_cons, List.not_mem_nil, or_false] at hd
    rcases hd with e1 | e1
    · rw [e1, hsz]; exact Nat.lt_succ_self _
    · rw [e1]; exact Nat.lt_succ_of_lt (Nat.lt_succ_self _)
  · have hold : Keeps s.heap h' := fun d o e => by
      refine hk d o (fun hm => ?_) (Heap.get?_push_of_some _ (Heap.get?_push_of_some _ e))
      have := Heap.lt_size e
      rcases List.mem_cons.mp hm with e1 | hm
      · rw [e1] at this; dsimp only at this; rw [hsz] at this; exact Nat.lt_irrefl _ (Nat.lt_of_succ_lt this)
      · cases hm
    have := h h' tk hold
    have hv : v = if ltV c (if ltV b a then b else a) then c else (if ltV b a then b else a) := by
      cases h1 : ltV b a <;> cases h2 : ltV c a <;> cases h3 : ltV c b <;> simp [argBest, h1, h2, h3] at hP <;> subst hP <;> simp [h2, h3]
    rw [hv]; exact this

section
variable {prog : Program} {w : World} {A : Around} {E : Value → Shared → Prop} {s : Shared} {Q : Value → Shared → Prop} {x y z : UInt64} {t u v : Tok} {h₀ : Heap} {L : Addr} {m : Str → Option Value} {news : List (Addr × Obj)}
theorem ltV_ff : ltV (.float x t) (.float y u) = (Float64.cmp x y == some .lt) := rfl
theorem max3_is : ∃ i, (if ltV (if ltV (.float x t) (.float y u) then (.float y u) else (.float x t)) (.float z v) then (.float z v) else (if ltV (.float x t) (.float y u) then (.float y u) else (.float x t))) = Value.float (fmax (fmax x y) z) i := by
  unfold fmax
  rw [ltV_ff]
  by_cases h1 : (Float64.cmp x y == some .lt) = true
  · simp only [h1, if_true, ltV_ff]
    by_cases h2 : (Float64.cmp y z == some .lt) = true
    · simp only [h2, if_true]; exact ⟨_, rfl⟩
    · rw [Bool.not_eq_true] at h2; simp only [h2, Bool.false_eq_true, if_false]; exact ⟨_, rfl⟩
  · rw [Bool.not_eq_true] at h1; simp only [h1, Bool.false_eq_true, if_false, ltV_ff]
    by_cases h2 : (Float64.cmp x z == some .lt) = true
    · simp only [h2, if_true]; exact ⟨_, rfl⟩
    · rw [Bool.not_eq_true] at h2; simp only [h2, Bool.false_eq_true, if_false]; exact ⟨_, rfl⟩
theorem min3_is : ∃ i, (if ltV (.float z v) (if ltV (.float y u) (.float x t) then (.float y u) else (.float x t)) then (.float z v) else (if ltV (.float y u) (.float x t) then (.float y u) else (.float x t))) = Value.float (fmin (fmin x y) z) i := by
  unfold fmin
  rw [ltV_ff]
  by_cases h1 : (Float64.cmp y x == some .lt) = true
  · simp only [h1, if_true, ltV_ff]
    by_cases h2 : (Float64.cmp z y == some .lt) = true
    · simp only [h2, if_true]; exact ⟨_, rfl⟩
    · rw [Bool.not_eq_true] at h2; simp only [h2, Bool.false_eq_true, if_false]; exact ⟨_, rfl⟩
  · rw [Bool.not_eq_true] at h1; simp only [h1, Bool.false_eq_true, if_false, ltV_ff]
    by_cases h2 : (Float64.cmp z x == some .lt) = true
    · simp only [h2, if_true]; exact ⟨_, rfl⟩
    · rw [Bool.not_eq_true] at h2; simp only [h2, Bool.false_eq_true, if_false]; exact ⟨_, rfl⟩
theorem max3_fff (hh : A.handled = none) (F : Fr h₀ L s.heap m) (N : News h₀ L s.heap news)
    (h : ∀ h' tk i, Fr h₀ L h' m → News h₀ L h' news → Q (.float (fmax (fmax x y) z) i) { s with heap := h', toks := tk }) :
    wpAny (model prog w) A (call (.builtin "max") [.float x t, .float y u, .float z v]) Q E s := by
  refine max3_any hh (.float _ _) (.float _ _) (.float _ _) fun h' tk k => ?_
  obtain ⟨i, e⟩ := max3_is (x := x) (y := y) (z := z) (t := t) (u := u) (v := v)
  rw [e]
  exact h h' tk i (fr_keeps F k) (news_keeps N k)
theorem min3_fff (hh : A.handled = none) (F : Fr h₀ L s.heap m) (N : News h₀ L s.heap news)
    (h : ∀ h' tk i, Fr h₀ L h' m → News h₀ L h' news → Q (.float (fmin (fmin x y) z) i) { s with heap := h', toks := tk }) :
    wpAny (model prog w) A (call (.builtin "min") [.float x t, .float y u, .float z v]) Q E s := by
  refine min3_any hh (.float _ _) (.float _ _) (.float _ _) fun h' tk k => ?_
  obtain ⟨i, e⟩ := min3_is (x := x) (y := y) (z := z) (t := t) (u := u) (v := v)
  rw [e]
  exact h h' tk i (fr_keeps F k) (news_keeps N k)
theorem div_ff (hh : A.handled = none) (hz : Float64.isZero y = false) (h : Q (.float (Float64.div x y) s.toks) { s with toks := s.toks + 1 }) : wpAny (model prog w) A (binaryOp .Div (.float x t) (.float y u)) Q E s :=
  truediv_float_or hh (fun q => absurd (hz.symm.trans q) (by simp)) fun _ => h
end
end Mine

/-! ## C3 -/
theorem Mine.LN0 : True := by
  k_with "mine enter" => (k_dflt (refine' Mine.enter_def (news := []) ?zqk1 ?zqk2 ?zqk3 ?zqk4 ?zqk5 ?zqkA ?zqkF ?zqkK ?zqk6 ?zqk7 ?zqk8 ?zqk9 ?zqkB ?_ ?zqc2 ?zqc3 ?zqc4 ?zqc5; (case zqkA => exact rfl); (case zqkF => exact rfl); (case zqkK => assumption); (case zqk1 => k_asm); (case zqk2 => k_asm); (case zqk3 => k_asm); (case zqk4 => exact News.nil); (case zqk5 => k_asm); (case zqk6 => k_is); (case zqk7 => k_is); (case zqk8 => ktr_room); (case zqk9 => exact BindsTo.of_eq rfl); (case zqc5 => decide); (case zqkB => exact locs rfl); (case zqc2 => exact rfl); (case zqc3 => exact rfl); (case zqc4 => exact rfl); k_whole; intro _ _ _ _ _ _ _ _ _ _ _; (try dsimp only); (try k_fold)))
  exact trivial
theorem Mine.LN1 : True := by
  k_with "call builtin:max" => (k_here; (with_reducible show wpAny _ _ (call _ [Value.float _ _, Value.float _ _, Value.float _ _]) _ _ _); (k_dflt (refine' Mine.max3_fff rfl ?zqk1 ?zqk2 ?_; (case zqk1 => k_asm); (case zqk2 => k_asm); k_whole)); intro _ _ _ _ _; (try k_sweep))
  exact trivial
theorem Mine.LN2 : True := by
  k_with "call builtin:min" => (k_here; (with_reducible show wpAny _ _ (call _ [Value.float _ _, Value.float _ _, Value.float _ _]) _ _ _); (k_dflt (refine' Mine.min3_fff rfl ?zqk1 ?zqk2 ?_; (case zqk1 => k_asm); (case zqk2 => k_asm); k_whole)); intro _ _ _ _ _; (try k_sweep))
  exact trivial
theorem Mine.LN3 : True := by
  k_with "binaryOp Div float float" => (refine Mine.div_ff rfl (by first | assumption | decide +kernel) ?_; (try dsimp only))
  exact trivial
namespace Mine

/-- k_fill wants the row and the written part in the goal -/
noncomputable def Seen (_K : Params → Frag) (_r : OpenLaw) (P : Prop) : Prop := P

/-! what the colour functions reckon -/
noncomputable abbrev c1 : UInt64 := 4607182418800017408
noncomputable abbrev c2 : UInt64 := 4611686018427387904
noncomputable abbrev c4 : UInt64 := 4616189618054758400
noncomputable abbrev c6 : UInt64 := 4618441417868443648
noncomputable abbrev cHalf : UInt64 := 4602678819172646912
noncomputable abbrev cThird : UInt64 := 4599676419421066581
noncomputable abbrev cSixth : UInt64 := 4595172819793696085
noncomputable abbrev cTwoThird : UInt64 := 4604180019048437077
noncomputable abbrev fMax (r g b : UInt64) : UInt64 := fmax (fmax r g) b
noncomputable abbrev fMin (r g b : UInt64) : UInt64 := fmin (fmin r g) b
noncomputable abbrev fRange (r g b : UInt64) : UInt64 := Float64.sub (fMax r g b) (fMin r g b)
noncomputable abbrev fShare (r g b x : UInt64) : UInt64 := Float64.div (Float64.sub (fMax r g b) x) (fRange r g b)
noncomputable def hueOf (r g b : UInt64) : UInt64 :=
  (Float64.divmod (Float64.div (if (Float64.cmp r (fMax r g b) == some .eq) = true then Float64.sub (fShare r g b b) (fShare r g b g)
    else if (Float64.cmp g (fMax r g b) == some .eq) = true then Float64.sub (Float64.add c2 (fShare r g b r)) (fShare r g b b)
    else Float64.sub (Float64.add c4 (fShare r g b g)) (fShare r g b r)) c6) c1).2
noncomputable def satOf (r g b : UInt64) : UInt64 := Float64.div (fRange r g b) (fMax r g b)
noncomputable def lightOf (r g b : UInt64) : UInt64 := Float64.div (Float64.add (fMax r g b) (fMin r g b)) c2
noncomputable def strOf (r g b : UInt64) : UInt64 :=
  if (Float64.cmp (lightOf r g b) cHalf == some .lt || Float64.cmp (lightOf r g b) cHalf == some .eq) = true then Float64.div (fRange r g b) (Float64.add (fMax r g b) (fMin r g b))
  else Float64.div (fRange r g b) (Float64.sub (Float64.sub c2 (fMax r g b)) (fMin r g b))
theorem hue_r {r g b : UInt64} (h : (Float64.cmp r (fMax r g b) == some .eq) = true) : (Float64.divmod (Float64.div (Float64.sub (fShare r g b b) (fShare r g b g)) c6) c1).2 = hueOf r g b := by
  unfold hueOf; rw [if_pos h]
theorem hue_g {r g b : UInt64} (h : (Float64.cmp r (fMax r g b) == some .eq) = false) (h' : (Float64.cmp g (fMax r g b) == some .eq) = true) : (Float64.divmod (Float64.div (Float64.sub (Float64.add c2 (fShare r g b r)) (fShare r g b b)) c6) c1).2 = hueOf r g b := by
  unfold hueOf; rw [if_neg (by rw [h]; exact Bool.false_ne_true), if_pos h']
theorem hue_b {r g b : UInt64} (h : (Float64.cmp r (fMax r g b) == some .eq) = false) (h' : (Float64.cmp g (fMax r g b) == some .eq) = false) : (Float64.divmod (Float64.div (Float64.sub (Float64.add c4 (fShare r g b g)) (fShare r g b r)) c6) c1).2 = hueOf r g b := by
  unfold hueOf; rw [if_neg (by rw [h]; exact Bool.false_ne_true), if_neg (by rw [h']; exact Bool.false_ne_true)]
noncomputable abbrev tup3 (x y z : Value) : Obj := { cls := .type "tuple", data := .seq #[x, y, z] }
theorem fresh_end {s g h' : Heap} {L' a : Addr} {o : Obj} {news : List (Addr × Obj)} (k : ∀ b o, s.get? b = some o → b ∉ ([] : List (Addr × Obj)).map (·.1) → g.get? b = some o) (N : News g L' h' news) (hm : (a, o) ∈ news) : s.get? a = none := by
  cases q : s.get? a with
  | none => rfl
  | some o' => have := (N _ hm).2.2; rw [k _ _ q (by simp)] at this; cases this
theorem get_tup {h' : Heap} {a : Addr} {x x' : UInt64} {t : Tok} {y z : Value} (e : h'.get? a = some (tup3 (.float x t) y z)) (q : x = x') : h'.get? a = some (tup3 (.float x' t) y z) := q ▸ e

set_option maxRecDepth 100000 in
set_option maxHeartbeats 8000000 in
theorem hsv_gives {prog : Program} {w : World} {p : Program} {loose : List Str} {mean : ExcName → Option Value} {mg mb : Str → Option Value} {dp un : Nat} {gd : Option (List Code)} {cn : Str} {cs : Scope} {a : Addr} {ccd : Value} {cl : List (Str × Addr)} {outer : List Env} {A₀ : Around} {base h₀ : Heap} {L : Addr} {m : Str → Option Value} {s : Shared} {Q E : Value → Shared → Prop}
    {r g b : UInt64} {t1 t2 t3 : Tok}
    (B : Below A₀ base outer h₀) (F : Fr h₀ L s.heap m) (X : (Mine.hd.heap_39 w.params).In h₀) (T : Top p loose mean mg mb h₀) (hk : cs.kind = .function) (hdp : dp + 1 < recursionLimit)
    (hne : (Float64.cmp (fMin r g b) (fMax r g b) == some .eq) = false) (hz1 : Float64.isZero (fMax r g b) = false) (hz2 : Float64.isZero (fRange r g b) = false)
    (hret : ∀ a t1 t2 t3 h' tk', Keeps s.heap h' → s.heap.get? a = none → h'.get? a = some (tup3 (.float (hueOf r g b) t1) (.float (satOf r g b) t2) (.float (fMax r g b) t3)) → Q (.ref a) { s with heap := h', toks := tk' }) :
    wpAny (model prog w) (ktrTop dp un gd cn cs L a ccd cl outer) (call (.ref 42) [.float r t1, .float g t2, .float b t3]) Q E s := by
  show Seen Mine.hd.heap_39 Challenge.rw_mr0158_01 _
  k_fill
  unfold Seen
  refine wpAny_call ?_
  walk_at "mine enter"
  k_steps
  all_goals (refine hret _ _ _ _ _ _ (keeps_end0 (by assumption) (by assumption)) (fresh_end (by assumption) (by assumption) (List.Mem.head _)) (get_tup (News.get (by assumption) (List.Mem.head _)) ?_))
  · exact hue_r (by assumption)
  · exact hue_g (by assumption) (by assumption)
  · exact hue_b (by assumption) (by assumption)

set_option maxRecDepth 100000 in
set_option maxHeartbeats 8000000 in
theorem hsv_grey {prog : Program} {w : World} {p : Program} {loose : List Str} {mean : ExcName → Option Value} {mg mb : Str → Option Value} {dp un : Nat} {gd : Option (List Code)} {cn : Str} {cs : Scope} {a : Addr} {ccd : Value} {cl : List (Str × Addr)} {outer : List Env} {A₀ : Around} {base h₀ : Heap} {L : Addr} {m : Str → Option Value} {s : Shared} {Q E : Value → Shared → Prop}
    {r g b : UInt64} {t1 t2 t3 : Tok}
    (B : Below A₀ base outer h₀) (F : Fr h₀ L s.heap m) (X : (Mine.hd.heap_39 w.params).In h₀) (T : Top p loose mean mg mb h₀) (hk : cs.kind = .function) (hdp : dp + 1 < recursionLimit)
    (hne : (Float64.cmp (fMin r g b) (fMax r g b) == some .eq) = true)
    (hret : ∀ a t1 t2 t3 h' tk', Keeps s.heap h' → s.heap.get? a = none → h'.get? a = some (tup3 (.float 0 t1) (.float 0 t2) (.float (fMax r g b) t3)) → Q (.ref a) { s with heap := h', toks := tk' }) :
    wpAny (model prog w) (ktrTop dp un gd cn cs L a ccd cl outer) (call (.ref 42) [.float r t1, .float g t2, .float b t3]) Q E s := by
  show Seen Mine.hd.heap_39 Challenge.rw_mr0158_01 _
  k_fill
  unfold Seen
  refine wpAny_call ?_
  walk_at "mine enter"
  k_steps
  all_goals (refine hret _ _ _ _ _ _ (keeps_end0 (by assumption) (by assumption)) (fresh_end (by assumption) (by assumption) (List.Mem.head _)) (News.get (by assumption) (List.Mem.head _)))

theorem str_lo {r g b : UInt64} (h : (Float64.cmp (lightOf r g b) cHalf == some .lt || Float64.cmp (lightOf r g b) cHalf == some .eq) = true) : Float64.div (fRange r g b) (Float64.add (fMax r g b) (fMin r g b)) = strOf r g b := by
  unfold strOf; rw [if_pos h]
theorem str_hi {r g b : UInt64} (h : (Float64.cmp (lightOf r g b) cHalf == some .lt || Float64.cmp (lightOf r g b) cHalf == some .eq) = false) : Float64.div (fRange r g b) (Float64.sub (Float64.sub c2 (fMax r g b)) (fMin r g b)) = strOf r g b := by
  unfold strOf; rw [if_neg (by rw [h]; exact Bool.false_ne_true)]
theorem get_tup2 {h' : Heap} {a : Addr} {x x' z z' : UInt64} {t u : Tok} {y : Value} (e : h'.get? a = some (tup3 (.float x t) y (.float z u))) (q : x = x') (q' : z = z') : h'.get? a = some (tup3 (.float x' t) y (.float z' u)) := q ▸ q' ▸ e

set_option maxRecDepth 100000 in
set_option maxHeartbeats 8000000 in
theorem hls_gives {prog : Program} {w : World} {p : Program} {loose : List Str} {mean : ExcName → Option Value} {mg mb : Str → Option Value} {dp un : Nat} {gd : Option (List Code)} {cn : Str} {cs : Scope} {a : Addr} {ccd : Value} {cl : List (Str × Addr)} {outer : List Env} {A₀ : Around} {base h₀ : Heap} {L : Addr} {m : Str → Option Value} {s : Shared} {Q E : Value → Shared → Prop}
    {r g b : UInt64} {t1 t2 t3 : Tok}
    (B : Below A₀ base outer h₀) (F : Fr h₀ L s.heap m) (X : (Mine.hd.heap_39 w.params).In h₀) (T : Top p loose mean mg mb h₀) (hk : cs.kind = .function) (hdp : dp + 1 < recursionLimit)
    (hne : (Float64.cmp (fMin r g b) (fMax r g b) == some .eq) = false) (hz1 : Float64.isZero (Float64.add (fMax r g b) (fMin r g b)) = false) (hz2 : Float64.isZero (fRange r g b) = false) (hz3 : Float64.isZero (Float64.sub (Float64.sub c2 (fMax r g b)) (fMin r g b)) = false)
    (hret : ∀ a t1 t2 t3 h' tk', Keeps s.heap h' → s.heap.get? a = none → h'.get? a = some (tup3 (.float (hueOf r g b) t1) (.float (lightOf r g b) t2) (.float (strOf r g b) t3)) → Q (.ref a) { s with heap := h', toks := tk' }) :
    wpAny (model prog w) (ktrTop dp un gd cn cs L a ccd cl outer) (call (.ref 21) [.float r t1, .float g t2, .float b t3]) Q E s := by
  show Seen Mine.hd.heap_39 Challenge.rw_mr0158_01 _
  k_fill
  unfold Seen
  refine wpAny_call ?_
  walk_at "mine enter"
  k_steps
  all_goals (refine hret _ _ _ _ _ _ (keeps_end0 (by assumption) (by assumption)) (fresh_end (by assumption) (by assumption) (List.Mem.head _)) (get_tup2 (News.get (by assumption) (List.Mem.head _)) ?_ ?_))
  all_goals first | exact str_lo (by assumption) | exact str_hi (by assumption) | exact hue_r (by assumption) | exact hue_g (by assumption) (by assumption) | exact hue_b (by assumption) (by assumption)

noncomputable def vOf (m1 m2 hue : UInt64) : UInt64 :=
  if (Float64.cmp (Float64.divmod hue c1).2 cSixth == some .lt) = true then Float64.add m1 (Float64.mul (Float64.mul (Float64.sub m2 m1) (Float64.divmod hue c1).2) c6)
  else if (Float64.cmp (Float64.divmod hue c1).2 cHalf == some .lt) = true then m2
  else if (Float64.cmp (Float64.divmod hue c1).2 cTwoThird == some .lt) = true then Float64.add m1 (Float64.mul (Float64.mul (Float64.sub m2 m1) (Float64.sub cTwoThird (Float64.divmod hue c1).2)) c6)
  else m1
theorem ret_float {s : Shared} {Q : Value → Shared → Prop} {x y : UInt64} {t : Tok} {h' : Heap} {tk' : Nat} (hret : ∀ t h' tk', Keeps s.heap h' → Q (.float x t) { s with heap := h', toks := tk' }) (k : Keeps s.heap h') (e : x = y) : Q (.float y t) { s with heap := h', toks := tk' } := by
  subst e; exact hret _ _ _ k

set_option maxRecDepth 100000 in
set_option maxHeartbeats 8000000 in
theorem v_gives {prog : Program} {w : World} {p : Program} {loose : List Str} {mean : ExcName → Option Value} {mg mb : Str → Option Value} {dp un : Nat} {gd : Option (List Code)} {cn : Str} {cs : Scope} {a : Addr} {ccd : Value} {cl : List (Str × Addr)} {outer : List Env} {A₀ : Around} {base h₀ : Heap} {L : Addr} {m : Str → Option Value} {s : Shared} {Q E : Value → Shared → Prop}
    {m1 m2 hue : UInt64} {t1 t2 t3 : Tok}
    (B : Below A₀ base outer h₀) (F : Fr h₀ L s.heap m) (X : (Mine.hd.heap_39 w.params).In h₀) (T : Top p loose mean mg mb h₀) (hk : cs.kind = .function) (hdp : dp + 1 < recursionLimit)
    (hret : ∀ t h' tk', Keeps s.heap h' → Q (.float (vOf m1 m2 hue) t) { s with heap := h', toks := tk' }) :
    wpAny (model prog w) (ktrTop dp un gd cn cs L a ccd cl outer) (call (.ref 35) [.float m1 t1, .float m2 t2, .float hue t3]) Q E s := by
  show Seen Mine.hd.heap_39 Challenge.rw_mr0158_01 _
  k_fill
  unfold Seen
  refine wpAny_call ?_
  walk_at "mine enter"
  k_steps
  all_goals (refine ret_float (Q := Q) (s := s) hret (keeps_end0 (by assumption) (by assumption)) ?_)
  all_goals (unfold vOf)
  · rw [if_pos (by assumption)]
  · rw [if_neg (ne_true_of_eq_false (by assumption)), if_pos (by assumption)]
  · rw [if_neg (ne_true_of_eq_false (by assumption)), if_neg (ne_true_of_eq_false (by assumption)), if_pos (by assumption)]
  · rw [if_neg (ne_true_of_eq_false (by assumption)), if_neg (ne_true_of_eq_false (by assumption)), if_neg (ne_true_of_eq_false (by assumption))]
end Mine

/-! ## C4 -/
namespace Mine
/-- a contract's leave in the caller: a float comes back -/
theorem v_use {prog : Program} {w : World} {p : Program} {loose : List Str} {mean : ExcName → Option Value} {mg mb : Str → Option Value} {dp un : Nat} {gd : Option (List Code)} {cn : Str} {cs : Scope} {a : Addr} {ccd : Value} {cl : List (Str × Addr)} {outer : List Env} {A₀ : Around} {base h₀ : Heap} {L : Addr} {m : Str → Option Value} {s : Shared} {Q E : Value → Shared → Prop}
    {m1 m2 hue : UInt64} {t1 t2 t3 : Tok} {news : List (Addr × Obj)}
    (B : Below A₀ base outer h₀) (F : Fr h₀ L s.heap m) (X : (Mine.hd.heap_39 w.params).In h₀) (N : News h₀ L s.heap news) (T : Top p loose mean mg mb h₀) (hk : cs.kind = .function) (hdp : dp + 1 < recursionLimit)
    (hret : ∀ t h' tk', Fr h₀ L h' m → News h₀ L h' news → Q (.float (vOf m1 m2 hue) t) { s with heap := h', toks := tk' }) :
    wpAny (model prog w) (ktrTop dp un gd cn cs L a ccd cl outer) (call (.ref 35) [.float m1 t1, .float m2 t2, .float hue t3]) Q E s :=
  v_gives B F X T hk hdp fun t h' tk' k => hret t h' tk' (fr_keeps F k) (news_keeps N k)
end Mine
theorem Mine.LN4 : True := by
  k_with "call ref" => (k_here; (with_reducible show wpAny _ _ (call (Value.ref 35) [Value.float _ _, Value.float _ _, Value.float _ _]) _ _ _); (k_dflt (refine' Mine.v_use ?zqk1 ?zqk2 ?zqk3 ?zqk4 ?zqk5 ?zqkK ?zqkd ?_; (case zqkK => first | exact rfl | assumption); (case zqk1 => k_asm); (case zqk2 => k_asm); (case zqk3 => k_asm); (case zqk4 => k_asm); (case zqk5 => k_asm); (case zqkd => ktr_room); k_whole)); intro _ _ _ _ _; (try dsimp only); (try k_sweep))
  exact trivial
namespace Mine
noncomputable def m2Of (l s : UInt64) : UInt64 := if (Float64.cmp l cHalf == some .lt || Float64.cmp l cHalf == some .eq) = true then Float64.mul l (Float64.add c1 s) else Float64.sub (Float64.add l s) (Float64.mul l s)
noncomputable def m1Of (l s : UInt64) : UInt64 := Float64.sub (Float64.mul c2 l) (m2Of l s)
theorem m2_lo {l s : UInt64} (h : (Float64.cmp l cHalf == some .lt || Float64.cmp l cHalf == some .eq) = true) : Float64.mul l (Float64.add c1 s) = m2Of l s := by
  unfold m2Of; rw [if_pos h]
theorem m2_hi {l s : UInt64} (h : (Float64.cmp l cHalf == some .lt || Float64.cmp l cHalf == some .eq) = false) : Float64.sub (Float64.add l s) (Float64.mul l s) = m2Of l s := by
  unfold m2Of; rw [if_neg (ne_true_of_eq_false h)]
theorem get_tupV {h' : Heap} {a : Addr} {m1 m2 m1' m2' x y z : UInt64} {t u v : Tok} (e : h'.get? a = some (tup3 (.float (vOf m1 m2 x) t) (.float (vOf m1 m2 y) u) (.float (vOf m1 m2 z) v))) (q1 : m1 = m1') (q2 : m2 = m2') :
    h'.get? a = some (tup3 (.float (vOf m1' m2' x) t) (.float (vOf m1' m2' y) u) (.float (vOf m1' m2' z) v)) := q1 ▸ q2 ▸ e

set_option maxRecDepth 100000 in
set_option maxHeartbeats 8000000 in
theorem hlsBack_gives {prog : Program} {w : World} {p : Program} {loose : List Str} {mean : ExcName → Option Value} {mg mb : Str → Option Value} {dp un : Nat} {gd : Option (List Code)} {cn : Str} {cs : Scope} {a : Addr} {ccd : Value} {cl : List (Str × Addr)} {outer : List Env} {A₀ : Around} {base h₀ : Heap} {L : Addr} {m : Str → Option Value} {s : Shared} {Q E : Value → Shared → Prop}
    {h l st : UInt64} {t1 t2 t3 : Tok}
    (B : Below A₀ base outer h₀) (F : Fr h₀ L s.heap m) (X : (Mine.hd.heap_39 w.params).In h₀) (T : Top p loose mean mg mb h₀) (hk : cs.kind = .function) (hdp : dp + 2 < recursionLimit)
    (hne : (Float64.cmp st 0 == some .eq) = false)
    (hret : ∀ a t1 t2 t3 h' tk', Keeps s.heap h' → s.heap.get? a = none → h'.get? a = some (tup3 (.float (vOf (m1Of l st) (m2Of l st) (Float64.add h cThird)) t1) (.float (vOf (m1Of l st) (m2Of l st) h) t2) (.float (vOf (m1Of l st) (m2Of l st) (Float64.sub h cThird)) t3)) → Q (.ref a) { s with heap := h', toks := tk' }) :
    wpAny (model prog w) (ktrTop dp un gd cn cs L a ccd cl outer) (call (.ref 28) [.float h t1, .float l t2, .float st t3]) Q E s := by
  show Seen Mine.hd.heap_39 Challenge.rw_mr0158_01 _
  k_fill
  unfold Seen
  refine wpAny_call ?_
  walk_at "mine enter"
  k_steps
  all_goals (refine hret _ _ _ _ _ _ (keeps_end0 (by assumption) (by assumption)) (fresh_end (by assumption) (by assumption) (List.Mem.head _)) (get_tupV (News.get (by assumption) (List.Mem.head _)) ?_ ?_))
  all_goals first | exact m2_lo (by assumption) | exact m2_hi (by assumption) | exact congrArg (Float64.sub _) (m2_lo (by assumption)) | exact congrArg (Float64.sub _) (m2_hi (by assumption))
end Mine

/-! ## C5 -/
namespace Mine
theorem int_f {prog : Program} {w : World} {A : Around} {E : Value → Shared → Prop} {s : Shared} {Q : Value → Shared → Prop} {x : UInt64} {t : Tok} (hA : A.handled = none) (hf : Float64.isFinite x = true) (h : Q (.int (toInt Float64.truncOf x) s.toks) { s with toks := s.toks + 1 }) :
    wpAny (model prog w) A (call (.type "int") [.float x t]) Q E s := by
  refine call_int_float3 hA (fun q => ?_) (fun q => ?_) fun _ => h
  · exfalso; unfold Float64.isFinite at hf; unfold Float64.isNaN at q; revert hf q; cases Float64.decode x <;> simp
  · exfalso; unfold Float64.isFinite at hf; unfold Float64.isInf at q; revert hf q; cases Float64.decode x <;> simp
theorem small_fits {n : Int} (h0 : -1024 < n) (h1 : n < 1024) : n.natAbs < 2 ^ 1023 := Nat.lt_of_lt_of_le (show n.natAbs < 2 ^ 10 by omega) (Nat.pow_le_pow_right (by decide) (by decide))
theorem sub_fi_small {prog : Program} {w : World} {A : Around} {E : Value → Shared → Prop} {s : Shared} {Q : Value → Shared → Prop} {a : UInt64} {t u : Tok} {n : Int} (h0 : -1024 < n) (h1 : n < 1024) (h : Q (.float (Float64.sub a (Float64.ofInt n)) s.toks) { s with toks := s.toks + 1 }) : wpAny (model prog w) A (binaryOp .Sub (.float a t) (.int n u)) Q E s := sub_fi_fits (small_fits h0 h1) h
end Mine
theorem Mine.LN5 : True := by
  k_with "binaryOp Sub float int" => (refine Mine.sub_fi_small (by omega) (by omega) ?_; (try dsimp only))
  exact trivial
theorem Mine.LN6 : True := by
  k_with "call type:int" => ((with_reducible show wpAny _ _ (call _ [Value.float _ _]) _ _ _); (refine Mine.int_f rfl (by assumption) ?_); (try dsimp only))
  exact trivial
namespace Mine
noncomputable abbrev hsvI (h : UInt64) : Int := toInt Float64.truncOf (Float64.mul h c6)
noncomputable abbrev hsvF (h : UInt64) : UInt64 := Float64.sub (Float64.mul h c6) (Float64.ofInt (hsvI h))
noncomputable abbrev hsvP (s v : UInt64) : UInt64 := Float64.mul v (Float64.sub c1 s)
noncomputable abbrev hsvQ (h s v : UInt64) : UInt64 := Float64.mul v (Float64.sub c1 (Float64.mul s (hsvF h)))
noncomputable abbrev hsvT (h s v : UInt64) : UInt64 := Float64.mul v (Float64.sub c1 (Float64.mul s (Float64.sub c1 (hsvF h))))

noncomputable def hsvBackOf (h s v : UInt64) : UInt64 × UInt64 × UInt64 :=
  if (hsvI h).fmod 6 = 0 then (v, hsvT h s v, hsvP s v) else if (hsvI h).fmod 6 = 1 then (hsvQ h s v, v, hsvP s v) else if (hsvI h).fmod 6 = 2 then (hsvP s v, v, hsvT h s v)
  else if (hsvI h).fmod 6 = 3 then (hsvP s v, hsvQ h s v, v) else if (hsvI h).fmod 6 = 4 then (hsvT h s v, hsvP s v, v) else (v, hsvP s v, hsvQ h s v)
theorem hb0 {h s v : UInt64} (k : (hsvI h).fmod 6 = 0) : (v, hsvT h s v, hsvP s v) = hsvBackOf h s v := by unfold hsvBackOf; rw [if_pos k]
theorem hb1 {h s v : UInt64} (k : (hsvI h).fmod 6 = 1) : (hsvQ h s v, v, hsvP s v) = hsvBackOf h s v := by unfold hsvBackOf; rw [k]; rfl
theorem hb2 {h s v : UInt64} (k : (hsvI h).fmod 6 = 2) : (hsvP s v, v, hsvT h s v) = hsvBackOf h s v := by unfold hsvBackOf; rw [k]; rfl
theorem hb3 {h s v : UInt64} (k : (hsvI h).fmod 6 = 3) : (hsvP s v, hsvQ h s v, v) = hsvBackOf h s v := by unfold hsvBackOf; rw [k]; rfl
theorem hb4 {h s v : UInt64} (k : (hsvI h).fmod 6 = 4) : (hsvT h s v, hsvP s v, v) = hsvBackOf h s v := by unfold hsvBackOf; rw [k]; rfl
theorem hb5 {h s v : UInt64} (k : (hsvI h).fmod 6 = 5) : (v, hsvP s v, hsvQ h s v) = hsvBackOf h s v := by unfold hsvBackOf; rw [k]; rfl
theorem get_tupB {h' : Heap} {a : Addr} {x y z : UInt64} {r : UInt64 × UInt64 × UInt64} {t u v : Tok} (e : h'.get? a = some (tup3 (.float x t) (.float y u) (.float z v))) (q : (x, y, z) = r) : h'.get? a = some (tup3 (.float r.1 t) (.float r.2.1 u) (.float r.2.2 v)) := q ▸ e

set_option maxRecDepth 100000 in
set_option maxHeartbeats 8000000 in
theorem hsvBack_gives {prog : Program} {w : World} {p : Program} {loose : List Str} {mean : ExcName → Option Value} {mg mb : Str → Option Value} {dp un : Nat} {gd : Option (List Code)} {cn : Str} {cs : Scope} {a : Addr} {ccd : Value} {cl : List (Str × Addr)} {outer : List Env} {A₀ : Around} {base h₀ : Heap} {L : Addr} {m : Str → Option Value} {s : Shared} {Q E : Value → Shared → Prop}
    {h sh v : UInt64} {t1 t2 t3 : Tok}
    (B : Below A₀ base outer h₀) (F : Fr h₀ L s.heap m) (X : (Mine.hd.heap_39 w.params).In h₀) (T : Top p loose mean mg mb h₀) (hk : cs.kind = .function) (hdp : dp + 1 < recursionLimit)
    (hne : (Float64.cmp sh 0 == some .eq) = false) (hfin : Float64.isFinite (Float64.mul h c6) = true) (hi0 : 0 ≤ hsvI h) (hi1 : hsvI h < 12)
    (hret : ∀ a t1 t2 t3 h' tk', Keeps s.heap h' → s.heap.get? a = none → h'.get? a = some (tup3 (.float (hsvBackOf h sh v).1 t1) (.float (hsvBackOf h sh v).2.1 t2) (.float (hsvBackOf h sh v).2.2 t3)) → Q (.ref a) { s with heap := h', toks := tk' }) :
    wpAny (model prog w) (ktrTop dp un gd cn cs L a ccd cl outer) (call (.ref 49) [.float h t1, .float sh t2, .float v t3]) Q E s := by
  show Seen Mine.hd.heap_39 Challenge.rw_mr0158_01 _
  k_fill
  unfold Seen
  have h6 : (toInt Float64.truncOf (Float64.mul h 4618441417868443648)).fmod 6 = (toInt Float64.truncOf (Float64.mul h 4618441417868443648)) % 6 := Int.fmod_eq_emod_of_nonneg _ (by decide)
  have hi0' : 0 ≤ toInt Float64.truncOf (Float64.mul h 4618441417868443648) := hi0
  have hi1' : toInt Float64.truncOf (Float64.mul h 4618441417868443648) < 12 := hi1
  refine wpAny_call ?_
  walk_at "mine enter"
  k_steps
  all_goals (try (exfalso; omega))
  all_goals (refine hret _ _ _ _ _ _ (keeps_end0 (by assumption) (by assumption)) (fresh_end (by assumption) (by assumption) (List.Mem.head _)) (get_tupB (News.get (by assumption) (List.Mem.head _)) ?_))
  all_goals first | exact hb0 (by assumption) | exact hb1 (by assumption) | exact hb2 (by assumption) | exact hb3 (by assumption) | exact hb4 (by assumption) | exact hb5 (by assumption)
end Mine

/-! ## C6a -/
theorem Mine.LN7 : True := by
  k_with "mine enterC" => (k_dflt (refine' Mine.enter_defC (news := []) ?zqk1 ?zqk2 ?zqk3 ?zqk4 ?zqk5 ?zqkA ?zqkF ?zqkK ?zqk6 ?zqk7 ?zqk8 ?zqk9 ?zqkB ?zqkD ?_ ?zqc2 ?zqc3 ?zqc4; (case zqkA => exact rfl); (case zqkF => exact rfl); (case zqkK => assumption); (case zqk1 => k_asm); (case zqk2 => k_asm); (case zqk3 => k_asm); (case zqk4 => exact News.nil); (case zqk5 => k_asm); (case zqk6 => k_is); (case zqk7 => k_is); (case zqk8 => ktr_room); (case zqk9 => exact BindsTo.of_eq rfl); (case zqkB => exact rfl); (case zqkD => decide +kernel); (case zqc2 => exact rfl); (case zqc3 => exact rfl); (case zqc4 => exact rfl); k_whole; intro _ _ _ _ _ _ _ _ N'z Y'z _ _ _ l1; (try k_lt l1); k_cells Y'z; (try simp only [List.cons_append, List.nil_append] at N'z); (try dsimp only); (try k_fold)))
  exact trivial
namespace Mine
noncomputable def figOf (n k : Int) : Int := (n.fdiv (10 ^ k.toNat)).fmod 10
theorem ret_int {s : Shared} {Q : Value → Shared → Prop} {x y : Int} {t : Tok} {h' : Heap} {tk' : Nat} (hret : ∀ t h' tk', Keeps s.heap h' → Q (.int x t) { s with heap := h', toks := tk' }) (k : Keeps s.heap h') (e : x = y) : Q (.int y t) { s with heap := h', toks := tk' } := by
  subst e; exact hret _ _ _ k
set_option maxRecDepth 100000 in
set_option maxHeartbeats 8000000 in
theorem fig_gives {prog : Program} {w : World} {p : Program} {loose : List Str} {mean : ExcName → Option Value} {mg mb : Str → Option Value} {dp un : Nat} {gd : Option (List Code)} {cn : Str} {cs : Scope} {a : Addr} {ccd : Value} {cl : List (Str × Addr)} {outer : List Env} {A₀ : Around} {base h₀ : Heap} {L : Addr} {m : Str → Option Value} {s : Shared} {Q E : Value → Shared → Prop}
    {n k : Int} {t1 t2 : Tok}
    (B : Below A₀ base outer h₀) (F : Fr h₀ L s.heap m) (X : (Mine.hd.heap_39 w.params).In h₀) (T : Top p loose mean mg mb h₀) (hk : cs.kind = .function) (hdp : dp + 1 < recursionLimit)
    (hkk : k = 0 ∨ k = 1 ∨ k = 2 ∨ k = 3 ∨ k = 4)
    (hret : ∀ t h' tk', Keeps s.heap h' → Q (.int (figOf n k) t) { s with heap := h', toks := tk' }) :
    wpAny (model prog w) (ktrTop dp un gd cn cs L a ccd cl outer) (call (.ref 63) [.int n t1, .int k t2]) Q E s := by
  show Seen Mine.hd.heap_39 Challenge.rw_mr0158_01 _
  k_fill
  unfold Seen
  rcases hkk with rfl | rfl | rfl | rfl | rfl
  all_goals (
    refine wpAny_call ?_
    walk_at "mine enter"
    k_steps)
  all_goals (refine ret_int (Q := Q) (s := s) hret (keeps_end0 (by assumption) (by assumption)) ?_)
  all_goals rfl
theorem fig_use {prog : Program} {w : World} {p : Program} {loose : List Str} {mean : ExcName → Option Value} {mg mb : Str → Option Value} {dp un : Nat} {gd : Option (List Code)} {cn : Str} {cs : Scope} {a : Addr} {ccd : Value} {cl : List (Str × Addr)} {outer : List Env} {A₀ : Around} {base h₀ : Heap} {L : Addr} {m : Str → Option Value} {s : Shared} {Q E : Value → Shared → Prop}
    {n k : Int} {t1 t2 : Tok} {news : List (Addr × Obj)}
    (B : Below A₀ base outer h₀) (F : Fr h₀ L s.heap m) (X : (Mine.hd.heap_39 w.params).In h₀) (N : News h₀ L s.heap news) (T : Top p loose mean mg mb h₀) (hk : cs.kind = .function) (hdp : dp + 1 < recursionLimit)
    (hkk : k = 0 ∨ k = 1 ∨ k = 2 ∨ k = 3 ∨ k = 4)
    (hret : ∀ q t h' tk', Fr h₀ L h' m → News h₀ L h' news → q = figOf n k → 0 ≤ q → q < 10 → Q (.int q t) { s with heap := h', toks := tk' }) :
    wpAny (model prog w) (ktrTop dp un gd cn cs L a ccd cl outer) (call (.ref 63) [.int n t1, .int k t2]) Q E s :=
  fig_gives B F X T hk hdp hkk fun t h' tk' k => hret _ t h' tk' (fr_keeps F k) (news_keeps N k) rfl (Int.fmod_nonneg_of_pos _ (by decide)) (Int.fmod_lt_of_pos _ (by decide))
end Mine
theorem Mine.LN8 : True := by
  k_with "call ref" => (k_here; (with_reducible show wpAny _ _ (call (Value.ref 63) [Value.int _ _, Value.int _ _]) _ _ _); (k_dflt (refine' Mine.fig_use ?zqk1 ?zqk2 ?zqk3 ?zqk4 ?zqk5 ?zqkK ?zqkd ?zqkk ?_; (case zqkK => first | exact rfl | assumption); (case zqk1 => k_asm); (case zqk2 => k_asm); (case zqk3 => k_asm); (case zqk4 => k_asm); (case zqk5 => k_asm); (case zqkd => ktr_room); (case zqkk => decide); k_whole)); intro _ _ _ _ _ _ _ _ _; (try dsimp only); (try k_sweep))
  exact trivial

/-! ## T1 -/
namespace Mine
theorem look_iadd : typeLookup (.type "list") (dunderI "add") = pure (some (.builtin "list.__iadd__")) := PySem.F.slot_list_iadd.lookup
theorem seq_is : isSeqSlot (some (.builtin "list.__iadd__")) = true := by decide +kernel
theorem fills_iadd : fillsInplaceSlot (.type "list") "add" (Operator.Add == .Add) = pure false := by
  unfold fillsInplaceSlot
  show (typeLookup (.type "list") (dunderI "add") >>= fun fi => pure (fi.isSome && !isSeqSlot fi)) = pure false
  rw [look_iadd, pure_bind, seq_is]; rfl
theorem seq_iadd : seqSlot? (.type "list") (dunderI "add") = pure (some (.builtin "list.__iadd__")) := by
  unfold seqSlot?
  rw [look_iadd, pure_bind, seq_is]; rfl
theorem iadd_ll {prog : Program} {w : World} {A : Around} {E : Value → Shared → Prop} {s : Shared} {Q : Value → Shared → Prop} {h₀ : Heap} {L D b : Addr} {m : Str → Option Value} {news news' : List (Addr × Obj)} {its its2 : Array Value} {n n2 : Nat} {l : List Value}
    (F : Fr h₀ L s.heap m) (N : News h₀ L s.heap news) (hb : (b, listOf its2 n2) ∈ news) (e : its.toList ++ its2.toList = l) (hne : its2.toList.length ≠ 0)
    (U : Upd D (listOf its n) (listOf l.toArray (n + 1)) news news') (hd : ¬(!its.isEmpty && Builtin.List.listTooLong (its.size + its2.size)) = true) (hz : its.toList.length ≤ sizeLine) (hz2 : its.size + its2.size ≤ sizeLine + 1)
    (h : ∀ h', Fr h₀ L h' m → News h₀ L h' news' → Q (.ref D) { s with heap := h' }) : wpAny (model prog w) A (inplaceOp .Add (.ref D) (.ref b)) Q E s := by
  obtain ⟨pre, post, rfl, rfl, a, c⟩ := U.split
  have z := N (D, listOf its n) (List.mem_append.mpr (.inr (.head _)))
  have ta : s.TypeIs (.ref D) "list" := ⟨_, z.1, rfl⟩
  have tb : s.TypeIs (.ref b) "list" := ⟨_, (N _ hb).1, rfl⟩
  unfold inplaceOp
  refine wpAny_holding ?_
  refine wpAny_bind (wpAny_typeOf ta (wpAny_bind (wpAny_of_eq fills_iadd ?_)))
  show wpAny _ A (if false = true then _ else _) Q E s
  rw [if_neg Bool.false_ne_true]
  refine wpAny_bind (wpAny_binaryOp1_none (nm := "add") ta tb noFill_list_add ?_)
  refine wpAny_bind (wpAny_of_eq seq_iadd ?_)
  refine wpAny_bind (wpAny_rule ?_)
  refine call_meets PySem.F.slot_list_iadd ta PySem.F.entry_list_iadd (PySem.F.args_list_iadd_2 _ _) (PySem.AutoSeq1.list___iadd___list_list_0 D its n b its2 n2 hd (by simpa using hz) hz2) ⟨z.1, (N _ hb).1, h _ (F.change (Heap.SameBut.update ..) z.2.1 z.2.2) (kl_turn _ N a c ?_ ?_)⟩
  · subst e
    apply Array.toList_inj.mp
    simp
  · subst e
    simp at hne ⊢
    exact hne
noncomputable def mostOf (k : Int) : Int := if k = 0 then 1 else if k = 1 then 2 else if k = 2 then 3 else if k = 3 then 4 else 6
theorem most_lo (k : Int) : 1 ≤ mostOf k := by unfold mostOf; (repeat' split) <;> omega
theorem most_hi (k : Int) : mostOf k ≤ 6 := by unfold mostOf; (repeat' split) <;> omega
theorem menu5 {prog : Program} {w : World} {A : Around} {E : Value → Shared → Prop} {s : Shared} {Q : Value → Shared → Prop} {h₀ : Heap} {L l : Addr} {news : List (Addr × Obj)} {value slice : PySem.Expr} {n : Nat} {k : Int} {u t0 t1 t2 t3 t4 : Tok}
    (N : News h₀ L s.heap news) (hm : (l, listOf #[.int 1 t0, .int 2 t1, .int 3 t2, .int 4 t3, .int 6 t4] n) ∈ news) (hk0 : 0 ≤ k) (hk5 : k < 5)
    (h : ∀ q t, q = mostOf k → 1 ≤ q → q ≤ 6 → Q (.int q t) s)
    (hs : subscripted slice false (.ref l) (.int k u) = operate [.ref l, .int k u] (getItem (.ref l) (.int k u)) := by with_unfolding_all rfl) :
    wpAny (model prog w) A (subscriptTail value slice (.ref l) (.int k u)) Q E s := by
  have hl : s.heap.IsList l #[.int 1 t0, .int 2 t1, .int 3 t2, .int 4 t3, .int 6 t4] := ⟨_, (N _ hm).1, rfl, _, rfl⟩
  have hq := fun t => h _ t rfl (most_lo k) (most_hi k)
  have e : k = 0 ∨ k = 1 ∨ k = 2 ∨ k = 3 ∨ k = 4 := by omega
  rcases e with rfl | rfl | rfl | rfl | rfl
  all_goals exact tail_any hl.typeIs slot_list_getitem.lookup (wpAny_getItem_list hl (by decide) (by decide) rfl (hq _)) hs
theorem fmod_lo (x : Int) {k : Int} (h : 0 < k) : 0 ≤ x.fmod k := Int.fmod_nonneg_of_pos x h
theorem mod_pos {prog : Program} {w : World} {A : Around} {E : Value → Shared → Prop} {s : Shared} {Q : Value → Shared → Prop} {a b : Int} {t u : Tok} (hb : 0 < b) (h : ∀ r, r = a.fmod b → 0 ≤ r → r < b → Q (.int r s.toks) { s with toks := s.toks + 1 }) :
    wpAny (model prog w) A (binaryOp .Mod (.int a t) (.int b u)) Q E s := mod_int' (by omega) (h _ rfl (fmod_lo a hb) (Int.fmod_lt_of_pos a hb))
theorem fmod_hi (x : Int) {k : Int} (h : 0 < k) : x.fmod k < k := Int.fmod_lt_of_pos x h
end Mine
theorem Mine.LN9 : True := by
  k_with "subscriptTail" => (k_here; (with_reducible show wpAny _ _ (subscriptTail _ _ (Value.ref _) (Value.int _ _)) _ _ _); (k_dflt (refine' Mine.menu5 ?zqk1 ?zqk2 ?zqk3 ?zqk4 ?_ ?zqk5; (case zqk1 => k_asm); (case zqk2 => k_mem); (case zqk3 => assumption); (case zqk4 => assumption); (case zqk5 => with_unfolding_all rfl); k_whole)); intro _ _ _ _ _; (try dsimp only))
  exact trivial
theorem Mine.LN10 : True := by
  k_with "binaryOp Mod int int" => (refine Mine.mod_pos (by omega) ?_; intro _ _ _ _; (try dsimp only))
  exact trivial
theorem Mine.LN11 : True := by
  k_with "inplaceOp Add ref" => (k_here; (with_reducible show wpAny _ _ (inplaceOp Operator.Add (Value.ref _) (Value.ref _)) _ _ _); k_dflt (refine' Mine.iadd_ll ?zqF ?zqN ?zqb ?zqe ?zqne ?zqU ?zqd ?zqz ?zqy ?_; (case zqF => k_asm); (case zqN => k_asm); (case zqb => k_mem); (case zqU => k_upd); (case zqe => kl_lit); (case zqne => kl_some); (case zqd => kl_no); (case zqz => kl_room); (case zqy => kl_room)); kl_rest)
  exact trivial

/-! ## T2 -/
namespace Mine
noncomputable def wayOf (m d k : Int) : Int × Int × Int := if k = 0 then (m, d, 0) else if k = 1 then (d, m, 0) else if k = 2 then (0, m, d) else if k = 3 then (0, d, m) else if k = 4 then (d, 0, m) else (m, 0, d)
noncomputable abbrev ints3 (x : Int × Int × Int) (t u v : Tok) : Obj := listOf #[.int x.1 t, .int x.2.1 u, .int x.2.2 v] 0
theorem way_bd {m d k : Int} (h0 : 0 ≤ d) (h1 : d ≤ m) (h2 : m ≤ 6) : (0 ≤ (wayOf m d k).1 ∧ (wayOf m d k).1 ≤ 6) ∧ (0 ≤ (wayOf m d k).2.1 ∧ (wayOf m d k).2.1 ≤ 6) ∧ (0 ≤ (wayOf m d k).2.2 ∧ (wayOf m d k).2.2 ≤ 6) := by
  unfold wayOf
  (repeat' split) <;> (dsimp only; omega)
theorem ways6 {prog : Program} {w : World} {A : Around} {E : Value → Shared → Prop} {s : Shared} {Q : Value → Shared → Prop} {h₀ : Heap} {L l : Addr} {news : List (Addr × Obj)} {value slice : PySem.Expr} {n : Nat} {m d k : Int} {u : Tok} {o1 o2 : Obj} {a0 a1 a2 a3 a4 a5 : Addr}
    {t0 t1 t2 t3 t4 t5 t6 t7 t8 t9 u0 u1 u2 u3 u4 u5 u6 u7 : Tok}
    (N : News h₀ L s.heap news) (hm : (l, listOf #[.ref a0, .ref a1, .ref a2, .ref a3, .ref a4, .ref a5] n) ∈ news)
    (m0 : (a0, listOf #[.int m t0, .int d t1, .int 0 t2] 0) ∈ news) (m1 : (a1, listOf #[.int d t3, .int m t4, .int 0 t5] 0) ∈ news) (m2 : (a2, listOf #[.int 0 t6, .int m t7, .int d t8] 0) ∈ news)
    (m3 : (a3, listOf #[.int 0 t9, .int d u0, .int m u1] 0) ∈ news) (m4 : (a4, listOf #[.int d u2, .int 0 u3, .int m u4] 0) ∈ news) (m5 : (a5, listOf #[.int m u5, .int 0 u6, .int d u7] 0) ∈ news)
    (hk0 : 0 ≤ k) (hk5 : k < 6)
    (c1 : (L + 1 + 1, o1) ∈ news) (c2 : (L + 1, o2) ∈ news)
    (h : ∀ x p0 p1 p2 t u v, News h₀ L s.heap [(x, listOf #[.int p0 t, .int p1 u, .int p2 v] 0), (L + 1 + 1, o1), (L + 1, o2)] → p0 = (wayOf m d k).1 → p1 = (wayOf m d k).2.1 → p2 = (wayOf m d k).2.2 → Q (.ref x) s)
    (hs : subscripted slice false (.ref l) (.int k u) = operate [.ref l, .int k u] (getItem (.ref l) (.int k u)) := by with_unfolding_all rfl) :
    wpAny (model prog w) A (subscriptTail value slice (.ref l) (.int k u)) Q E s := by
  have hl : s.heap.IsList l #[.ref a0, .ref a1, .ref a2, .ref a3, .ref a4, .ref a5] := ⟨_, (N _ hm).1, rfl, _, rfl⟩
  have hq : ∀ x t u v, (x, ints3 (wayOf m d k) t u v) ∈ news → Q (.ref x) s := fun x t u v hx => h x _ _ _ t u v (fun p hp => N p (by
    rcases List.mem_cons.mp hp with rfl | hp
    · exact hx
    rcases List.mem_cons.mp hp with rfl | hp
    · exact c1
    rcases List.mem_cons.mp hp with rfl | hp
    · exact c2
    cases hp)) rfl rfl rfl
  have e : k = 0 ∨ k = 1 ∨ k = 2 ∨ k = 3 ∨ k = 4 ∨ k = 5 := by omega
  rcases e with rfl | rfl | rfl | rfl | rfl | rfl
  · exact tail_any hl.typeIs slot_list_getitem.lookup (wpAny_getItem_list hl (by decide) (by decide) rfl (hq _ _ _ _ m0)) hs
  · exact tail_any hl.typeIs slot_list_getitem.lookup (wpAny_getItem_list hl (by decide) (by decide) rfl (hq _ _ _ _ m1)) hs
  · exact tail_any hl.typeIs slot_list_getitem.lookup (wpAny_getItem_list hl (by decide) (by decide) rfl (hq _ _ _ _ m2)) hs
  · exact tail_any hl.typeIs slot_list_getitem.lookup (wpAny_getItem_list hl (by decide) (by decide) rfl (hq _ _ _ _ m3)) hs
  · exact tail_any hl.typeIs slot_list_getitem.lookup (wpAny_getItem_list hl (by decide) (by decide) rfl (hq _ _ _ _ m4)) hs
  · exact tail_any hl.typeIs slot_list_getitem.lookup (wpAny_getItem_list hl (by decide) (by decide) rfl (hq _ _ _ _ m5)) hs
theorem mul_small {prog : Program} {w : World} {A : Around} {E : Value → Shared → Prop} {s : Shared} {Q : Value → Shared → Prop} {a b : Int} {t u : Tok} (h0 : -1024 < a) (h1 : a < 1024) (h : Q (.int (a * b) s.toks) { s with toks := s.toks + 1 }) : wpAny (model prog w) A (binaryOp .Mult (.int a t) (.int b u)) Q E s :=
  PyProof.Rows.mul_int h (IntMulOk.of_left (intBits_le_64 (by omega) (by omega)))
end Mine
theorem Mine.LN12 : True := by
  k_with "binaryOp Mult int int" => (refine Mine.mul_small (by omega) (by omega) ?_; (try dsimp only))
  exact trivial
theorem Mine.LN13 : True := by
  k_with "subscriptTail Name Name ref int" => (k_here; (rename News _ _ _ _ => N0'z); (k_dflt (refine' Mine.ways6 N0'z ?zqk2 ?zqm0 ?zqm1 ?zqm2 ?zqm3 ?zqm4 ?zqm5 ?zqk3 ?zqk4 ?zqc1 ?zqc2 ?_ ?zqk5; (case zqk2 => k_mem); (case zqm0 => k_mem); (case zqm1 => k_mem); (case zqm2 => k_mem); (case zqm3 => k_mem); (case zqm4 => k_mem); (case zqm5 => k_mem); (case zqk3 => with_reducible assumption); (case zqk4 => with_reducible assumption); (case zqc1 => k_mem); (case zqc2 => k_mem); (case zqk5 => with_unfolding_all rfl); k_whole)); clear N0'z; (repeat ((with_reducible rename (_ < _ ∧ _) => zz'z); clear zz'z)); intro _ _ _ _ _ _ _ _ _ _ _; (try dsimp only))
  exact trivial
theorem Mine.LN14 : True := by
  k_with "eval ListComp" => (k_here; k_dflt (refine LCg.ListComp_U (F₀ := by k_asm) (by with_unfolding_all rfl) (by decide) (by rfl) (by decide) (by rfl) ?_))
  exact trivial
theorem Mine.LN15 : True := by
  k_with "CompSrc" => (k_here; k_dflt (refine LCg.CompSrc.ledger (by rfl) (by k_asm) (by k_asm) (by k_mem) (by first | size_fits | exact Nat.le_of_ble_eq_true rfl) ?_; intro _; lcg_lit))
  exact trivial

/-! ## C6b -/
namespace Mine

/-! what a drawing is -/
noncomputable def mostN (n : Int) : Int := mostOf ((figOf n 0).fmod 5)
noncomputable def midN (n : Int) : Int := (figOf n 1).fmod (mostN n + 1)
noncomputable def sixN (n : Int) : Int := (figOf n 2).fmod 6
noncomputable def whiteN (n : Int) : Int := (figOf n 3).fmod 5
noncomputable def timesN (n : Int) : Int := (figOf n 4).fmod 3
noncomputable def stepN (n : Int) : Int := (12 * midN n).fdiv (mostN n)
noncomputable def placeN (n : Int) : Int := if 0 < timesN n then (12 * sixN n + (if (sixN n).fmod 2 = 1 then 12 - stepN n else stepN n)).fmod 72 else -1
noncomputable def colN (n : Int) : Int × Int × Int := (whiteN n + timesN n * (wayOf (mostN n) (midN n) (sixN n)).1, whiteN n + timesN n * (wayOf (mostN n) (midN n) (sixN n)).2.1, whiteN n + timesN n * (wayOf (mostN n) (midN n) (sixN n)).2.2)
noncomputable abbrev tup2 (x y : Value) : Obj := { cls := .type "tuple", data := .seq #[x, y] }
theorem get_draw {h' : Heap} {a : Addr} {x : Value} {p p' : Int} {t : Tok} (e : h'.get? a = some (tup2 x (.int p t))) (q : p = p') : h'.get? a = some (tup2 x (.int p' t)) := q ▸ e

/-- where a line stops the walk -/
noncomputable def SStop (P : Prop) : Prop := P
theorem SStop.out {P : Prop} (h : SStop P) : P := h

/-! one path behind 'a if t else b' of ints -/
structure JV (va : Int) (h₀ : Heap) (L : Addr) (m : Str → Option Value) (news : List (Addr × Obj)) (s : Shared) (v : Value) (s' : Shared) : Prop where
  out : ∃ z t, v = .int z t ∧ z = va
  here : KJoinAt h₀ L m news s s'
section
variable {M : Model} {A : Around} {E : Value → Shared → Prop} {s : Shared} {env : Env} {h₀ : Heap} {L : Addr} {m : Str → Option Value} {news : List (Addr × Obj)}
theorem kj_eval {x : PySem.Expr} {va : Int} {Q : Value → Shared → Prop} (_F : Fr h₀ L s.heap m) (_N : News h₀ L s.heap news)
    (hv : wpAny M A (eval x env) (fun v s₃ => JV va h₀ L m news s v s₃) E s)
    (hk : ∀ (t : Tok) (s₃ : Shared), KJoinAt h₀ L m news s s₃ → Q (.int va t) s₃) : wpAny M A (eval x env) Q E s := by
  refine wpAny_mono hv (fun v s₃ hv => ?_) fun _ _ h => h
  obtain ⟨⟨z, t, rfl, rfl⟩, h3⟩ := hv
  exact hk t s₃ h3
end
theorem mod_two {prog : Program} {w : World} {A : Around} {E : Value → Shared → Prop} {s : Shared} {Q : Value → Shared → Prop} {a : Int} {t u : Tok} (h : Q (.int (a.fmod 2) s.toks) { s with toks := s.toks + 1 }) :
    wpAny (model prog w) A (binaryOp .Mod (.int a t) (.int 2 u)) Q E s := mod_int' (by omega) h
theorem place_is {n r st : Int} (h1 : ((sixN n).fmod 2 = 1 ∧ st = 12 - stepN n) ∨ (¬ (sixN n).fmod 2 = 1 ∧ st = stepN n)) (h2 : (0 < timesN n ∧ r = (12 * sixN n + st).fmod 72) ∨ (¬ 0 < timesN n ∧ r = -1)) : r = placeN n := by
  unfold placeN
  rcases h2 with ⟨h, rfl⟩ | ⟨h, rfl⟩
  · rw [if_pos h]
    rcases h1 with ⟨h', rfl⟩ | ⟨h', rfl⟩
    · rw [if_pos h']
    · rw [if_neg h']
  · rw [if_neg h]
end Mine
theorem Mine.LN16 : True := by
  k_with "binaryOp Mod int int" => ((with_reducible show wpAny _ _ (binaryOp Operator.Mod (Value.int _ _) (Value.int 2 _)) _ _ _); refine Mine.mod_two ?_; (try dsimp only))
  exact trivial
theorem Mine.LN17 : True := by
  k_with "exec If" => (k_here; (with_reducible show wpAny _ _ (exec (Stmt.If _ [Stmt.Assign [Expr.Name (Str.ofString "step") _] _ _] [] _) _) _ _ _); kj_step)
  exact trivial
theorem Mine.LN18 : True := by
  k_with "eval IfExp" => (k_here; (with_reducible show wpAny _ _ (eval (Expr.IfExp (Expr.Compare (Expr.Name (Str.ofString "times") _) _ _ _) _ _ _) _) _ _ _); (refine Mine.SStop.out ?_))
  exact trivial
namespace Mine

set_option maxRecDepth 100000 in
set_option maxHeartbeats 2000000 in
theorem drawn_gives {prog : Program} {w : World} {p : Program} {loose : List Str} {mean : ExcName → Option Value} {mg mb : Str → Option Value} {dp un : Nat} {gd : Option (List Code)} {cn : Str} {cs : Scope} {a : Addr} {ccd : Value} {cl : List (Str × Addr)} {outer : List Env} {A₀ : Around} {base h₀ : Heap} {L : Addr} {m : Str → Option Value} {s : Shared} {Q E : Value → Shared → Prop}
    {n : Int} {t1 : Tok}
    (B : Below A₀ base outer h₀) (F : Fr h₀ L s.heap m) (X : (Mine.hd.heap_39 w.params).In h₀) (T : Top p loose mean mg mb h₀) (hk : cs.kind = .function) (hdp : dp + 3 < recursionLimit)
    (hret : ∀ x y t t1 t2 t3 h' tk', Keeps s.heap h' → s.heap.get? x = none → s.heap.get? y = none → h'.get? x = some (tup2 (.ref y) (.int (placeN n) t)) → h'.get? y = some (LCg.lst [.int (colN n).1 t1, .int (colN n).2.1 t2, .int (colN n).2.2 t3]) → Q (.ref x) { s with heap := h', toks := tk' }) :
    wpAny (model prog w) (ktrTop dp un gd cn cs L a ccd cl outer) (call (.ref 68) [.int n t1]) Q E s := by
  show Seen Mine.hd.heap_39 Challenge.rw_mr0158_01 _
  k_fill
  unfold Seen
  refine wpAny_call ?_
  walk_at "mine enterC"
  k_steps
  all_goals try k_data
  unfold SStop
  (rename Fr _ _ _ _ => F5)
  (rename News _ _ _ _ => N5)
  refine kj_eval (va := placeN n) F5 N5 ?hv ?hk
  case hv =>
    clear hret
    refine IfExp_ ?_
    k_steps
    all_goals subst_vars
    all_goals refine ⟨⟨_, _, rfl, ?_⟩, ⟨⟨_, _, rfl, by assumption, by assumption⟩⟩⟩
    · exact place_is (by assumption) (.inl ⟨by assumption, rfl⟩)
    · exact place_is (by assumption) (.inr ⟨by assumption, rfl⟩)
  case hk =>
    intro t s' hJ
    obtain ⟨h', tk', rfl, F6, N6⟩ := hJ.at_
    clear F5 N5
    k_steps
    all_goals subst_vars
    exact hret _ _ _ _ _ _ _ _ (keeps_end0 (by assumption) (by assumption)) (fresh_end (by assumption) (by assumption) (List.Mem.head _)) (fresh_end (by assumption) (by assumption) (List.Mem.tail _ (List.Mem.head _))) (News.get (by assumption) (List.Mem.head _)) (News.get (by assumption) (List.Mem.tail _ (List.Mem.head _)))
end Mine

/-! ## Z1 -/
section
open Sem (wp)
namespace Mine
/-! zip of a written text and a list -/
section
variable {prog : Program} {w : World} {A : Around} {E : Value → Shared → Prop} {s : Shared}
theorem nextOf_str_item {it : Addr} {x : Str} {t : Tok} {i c : Nat} {Q : Value → Shared → Prop} (hit : s.heap.IsStrIter it "str_ascii_iterator" x t i) (hx : x.cps[i]? = some c)
    (hQ : ∀ h', h'.IsStrIter it "str_ascii_iterator" x t (i + 1) → Heap.SameBut it s.heap h' → Q (.str ⟨#[c]⟩ s.toks) { s with heap := h', toks := s.toks + 1 }) :
    wpAny (model prog w) A (Builtin.SmallTypes.nextOf (.ref it)) Q E s := by
  obtain ⟨o, ho, hc, hd⟩ := id hit
  unfold Builtin.SmallTypes.nextOf
  refine wpAny_bind (wpAny_callSpecial?_slot (name := Str.ofString "__next__") hit.typeIs F.slot_str_ascii_iterator_next
    (wpAny_call_entry F.slot_str_ascii_iterator_next hit.typeIs F.entry_str_ascii_iterator_next ?_ (F.args_str_ascii_iterator_next_1 _)))
  show wpAny _ _ (field (.ref it) 0 >>= _) _ _ s
  refine wpAny_bind (wpAny_field ho hd (x := .str x t) rfl ?_)
  show wpAny _ _ (field (.ref it) 1 >>= _) _ _ s
  refine wpAny_bind (wpAny_field ho hd (x := .int i 0) rfl ?_)
  simp only [Int.toNat_natCast, hx]
  refine wpAny_bind (wpAny_setField ho hd (by simp) (wpAny_bind (wpAny_mkStr (wpAny_pure ⟨_, rfl, wpAny_pure (hQ _ ?_ (Heap.SameBut.update ..))⟩) (by show 1 ≤ sizeLine; decide))))
  exact ⟨_, Heap.get?_update_self _ ho (Obj.isFreed_of_fields (Obj.data_mapFields hd _)), (Obj.cls_mapFields ..).trans hc, by
    rw [Obj.data_mapFields hd]; simp [rawInt]⟩
theorem nextOf_str_end {it : Addr} {x : Str} {t : Tok} {i : Nat} {Q : Value → Shared → Prop} (hh : A.handled = none)
    (hit : s.heap.IsStrIter it "str_ascii_iterator" x t i) (hx : x.cps[i]? = none)
    (hE : ∀ h' e, Heap.ExtBut it s.heap h' → (∃ o, h'.get? e = some o ∧ o.cls = .type "StopIteration") → E (.ref e) { s with heap := h' }) :
    wpAny (model prog w) A (Builtin.SmallTypes.nextOf (.ref it)) Q E s := by
  obtain ⟨o, ho, hc, hd⟩ := id hit
  unfold Builtin.SmallTypes.nextOf
  refine wpAny_bind (wpAny_callSpecial?_slot (name := Str.ofString "__next__") hit.typeIs F.slot_str_ascii_iterator_next
    (wpAny_call_entry F.slot_str_ascii_iterator_next hit.typeIs F.entry_str_ascii_iterator_next ?_ (F.args_str_ascii_iterator_next_1 _)))
  show wpAny _ _ (field (.ref it) 0 >>= _) _ _ s
  refine wpAny_bind (wpAny_field ho hd (x := .str x t) rfl ?_)
  show wpAny _ _ (field (.ref it) 1 >>= _) _ _ s
  refine wpAny_bind (wpAny_field ho hd (x := .int i 0) rfl ?_)
  simp only [Int.toNat_natCast, hx]
  refine wpAny_bind (wpAny_rule (wpAny_bind (wpAny_setField ho hd (by simp) (wpAny_bind (wpAny_letGo ?_)))))
  show wpAny _ _ (newExc (.type "StopIteration") [] >>= _) _ _ _
  refine wpAny_bind ?_
  simp only [newExc, newTuple]
  refine wpAny_bind (wpAny_newObj_type ?_ (by size_fits))
  refine wpAny_bind (m := firstArgMember _ _) (wpAny_of_eq (a := Value.none) (by first | rfl | (simp only [firstArgMember]; rfl)) ?_)
  refine wpAny_newObj_type ?_ (by size_fits)
  simp only [raiseNew]
  refine wpAny_bind (wpAny_handled ?_)
  first | rw [show A.in1.handled = none from hh] | rw [hh]
  refine wpAny_bind (wpAny_pure (wpAny_throw ?_))
  exact hE _ _ (((Heap.SameBut.update ..).extBut.push _).push _) ⟨_, Heap.get?_push_size _ rfl, rfl⟩

theorem zipS_item {z TI TO i1 i2 l2 : Addr} {k : Nat} {x : Str} {t : Tok} {ys : Array Value} {c : Nat} {y a b : Value} {Q : Value → Shared → Prop} (D : ZipApart z TI TO i1 i2 l2 l2)
    (hz : IsZip s.heap z TI TO .none) (hTI : IsPair s.heap TI (.ref i1) (.ref i2)) (hTO : IsPair s.heap TO a b)
    (h1 : s.heap.IsStrIter i1 "str_ascii_iterator" x t k) (h2 : s.heap.IsListIter i2 l2 k) (hl2 : s.heap.IsList l2 ys) (hx : x.cps[k]? = some c) (hy : ys[k]? = some y)
    (hQ : ∀ h', IsZip h' z TI TO (rawInt s.heap.objs.size) → IsPair h' TO (.str ⟨#[c]⟩ s.toks) y → h'.IsStrIter i1 "str_ascii_iterator" x t (k + 1) → h'.IsListIter i2 l2 (k + 1) → IsPair h' s.heap.objs.size (.str ⟨#[c]⟩ s.toks) y →
      (∀ d o, d ≠ z → d ≠ TO → d ≠ i1 → d ≠ i2 → s.heap.get? d = some o → h'.get? d = some o) → Q (.ref s.heap.objs.size) { s with heap := h', toks := s.toks + 1 }) :
    wpAny (model prog w) A (Builtin.«zip.__next__» ⟨[.ref z], []⟩) (fun fin s' => ∃ v, fin = .done (.ret v) ∧ Q v s') E s := by
  show wpAny _ _ (field (.ref z) 2 >>= _) _ _ _
  refine wpAny_bind (wpAny_field hz rfl (x := .bool false) rfl ?_)
  show wpAny _ _ (field (.ref z) 3 >>= _) _ _ _
  refine wpAny_bind (wpAny_field hz rfl (x := .ref TI) rfl ?_)
  refine wpAny_bind (wpAny_seqItems hTI rfl ?_)
  show wpAny _ _ (Builtin.SmallTypes.ownedTupleIsFree (.ref z) >>= _) _ _ _
  refine wpAny_bind ?_
  unfold Builtin.SmallTypes.ownedTupleIsFree
  refine wpAny_bind (wpAny_field hz rfl (x := .none) rfl (wpAny_pure ?_))
  simp only [if_true]
  refine wpAny_bind (wpAny_rule ?_)
  refine wpAny_bind (wpAny_field hz rfl (x := .ref TO) rfl ?_)
  refine wpAny_bind (wpAny_setField_rec hz (by simp) fun h₁ hz₁ hs₁ => ?_)
  replace hz₁ : IsZip h₁ z TI TO .ellipsis := hz₁
  refine wpAny_bind ?_
  simp only [List.zipIdx_cons, List.zipIdx_nil, List.forIn_cons, List.forIn_nil]
  refine wpAny_bind (wpAny_bind (wpAny_onRaise ?_))
  show wpAny _ _ (Builtin.SmallTypes.nextOf (.ref i1) >>= _) _ _ _
  refine wpAny_bind (nextOf_str_item (h1.extBut hs₁.extBut D.i1z) hx fun h₂ h1₂ hs₂ => wpAny_pure ?_)
  have hTO₂ : IsPair h₂ TO a b := hs₂.extBut _ _ D.TOi1 (hs₁.extBut _ _ D.TOz hTO)
  refine wpAny_bind (wpAny_seqItems hTO₂ rfl ?_)
  refine wpAny_bind (wpAny_updateSeq_pair hTO₂ fun h₃ hTO₃ hs₃ => ?_)
  replace hTO₃ : IsPair h₃ TO (.str ⟨#[c]⟩ s.toks) b := hTO₃
  refine wpAny_bind (wpAny_letGo (wpAny_pure ?_))
  refine wpAny_bind (wpAny_bind (wpAny_onRaise ?_))
  show wpAny _ _ (Builtin.SmallTypes.nextOf (.ref i2) >>= _) _ _ _
  refine wpAny_bind (wpAny_nextOf_list_item (((h2.extBut hs₁.extBut D.i2z).extBut hs₂.extBut D.i12.symm).extBut hs₃.extBut D.TOi2.symm)
    (((hl2.extBut hs₁.extBut D.l2z).extBut hs₂.extBut D.l2i1).extBut hs₃.extBut D.l2TO) hy fun h₄ h2₄ hs₄ => wpAny_pure ?_)
  have hTO₄ : IsPair h₄ TO (.str ⟨#[c]⟩ s.toks) b := hs₄.extBut _ _ D.TOi2 hTO₃
  refine wpAny_bind (wpAny_seqItems hTO₄ rfl ?_)
  refine wpAny_bind (wpAny_updateSeq_pair hTO₄ fun h₅ hTO₅ hs₅ => ?_)
  replace hTO₅ : IsPair h₅ TO (.str ⟨#[c]⟩ s.toks) y := hTO₅
  refine wpAny_bind (wpAny_letGo (wpAny_pure (wpAny_pure ?_)))
  refine wpAny_bind (wpAny_seqItems hTO₅ rfl ?_)
  refine wpAny_bind (wpAny_newTuple ?_)
  have hsz : h₅.objs.size = s.heap.objs.size := by rw [hs₅.1, hs₄.1, hs₃.1, hs₂.1, hs₁.1]
  have hz₅ : IsZip h₅ z TI TO .ellipsis := hs₅.extBut _ _ D.TOz.symm (hs₄.extBut _ _ D.i2z.symm (hs₃.extBut _ _ D.TOz.symm (hs₂.extBut _ _ D.i1z.symm hz₁)))
  have hk₅ : ∀ d o, d ≠ z → d ≠ TO → d ≠ i1 → d ≠ i2 → s.heap.get? d = some o → h₅.get? d = some o := fun d o c1 c2 c3 c4 e =>
    hs₅.extBut _ _ c2 (hs₄.extBut _ _ c4 (hs₃.extBut _ _ c2 (hs₂.extBut _ _ c3 (hs₁.extBut _ _ c1 e))))
  have h1₅ : h₅.IsStrIter i1 "str_ascii_iterator" x t (k + 1) := ((h1₂.extBut hs₃.extBut D.TOi1.symm).extBut hs₄.extBut D.i12).extBut hs₅.extBut D.TOi1.symm
  have h2₅ : h₅.IsListIter i2 l2 (k + 1) := h2₄.extBut hs₅.extBut D.TOi2.symm
  have hzlt : z < h₅.objs.size := Heap.lt_size hz₅
  show wpAny _ _ (Builtin.SmallTypes.ownedTupleHandOut (.ref z) (.ref h₅.objs.size) >>= _) _ _ _
  refine wpAny_bind ?_
  unfold Builtin.SmallTypes.ownedTupleHandOut
  have hz₆ : IsZip (h₅.push { cls := .type "tuple", data := .seq #[.str ⟨#[c]⟩ s.toks, y] }) z TI TO .ellipsis := Heap.get?_push_of_some _ hz₅
  refine wpAny_bind (wpAny_setField_rec hz₆ (by simp) fun h₇ hz₇ hs₇ => ?_)
  replace hz₇ : IsZip h₇ z TI TO (rawInt h₅.objs.size) := hz₇
  refine wpAny_setField_rec hz₇ (by simp) fun h₈ hz₈ hs₈ => ?_
  replace hz₈ : IsZip h₈ z TI TO (rawInt h₅.objs.size) := hz₈
  have up : ∀ d o, d ≠ z → h₅.get? d = some o → h₈.get? d = some o := fun d o c1 e => hs₈.extBut _ _ c1 (hs₇.extBut _ _ c1 (Heap.get?_push_of_some _ e))
  have hT₈ : IsPair h₈ h₅.objs.size (.str ⟨#[c]⟩ s.toks) y := hs₈.extBut _ _ (Nat.ne_of_gt hzlt) (hs₇.extBut _ _ (Nat.ne_of_gt hzlt) (Heap.get?_push_size _ rfl))
  rw [hsz] at hz₈ hT₈
  refine wpAny_pure ⟨_, rfl, ?_⟩
  show Q (.ref h₅.objs.size) _
  rw [hsz]
  refine hQ h₈ hz₈ (up _ _ D.TOz hTO₅) ?_ (h2₅.at fun o e => up _ o D.i2z e) hT₈ fun d o c1 c2 c3 c4 e => up d o c1 (hk₅ d o c1 c2 c3 c4 e)
  obtain ⟨o, ho, r⟩ := h1₅
  exact ⟨o, up _ o D.i1z ho, r⟩

theorem zipS_end {z TI TO i1 i2 l2 : Addr} {k : Nat} {x : Str} {t : Tok} {a b : Value} {Q : Fin → Shared → Prop} (hh : A.handled = none) (D : ZipApart z TI TO i1 i2 l2 l2)
    (hz : IsZip s.heap z TI TO .none) (hTI : IsPair s.heap TI (.ref i1) (.ref i2)) (_hTO : IsPair s.heap TO a b)
    (h1 : s.heap.IsStrIter i1 "str_ascii_iterator" x t k) (hend : x.cps[k]? = none)
    (hE : ∀ h' e, (∀ d o, d ≠ z → d ≠ TO → d ≠ i1 → d ≠ i2 → s.heap.get? d = some o → h'.get? d = some o) → (∃ o, h'.get? e = some o ∧ o.cls = .type "StopIteration") → E (.ref e) { s with heap := h' }) :
    wpAny (model prog w) A (Builtin.«zip.__next__» ⟨[.ref z], []⟩) Q E s := by
  show wpAny _ _ (field (.ref z) 2 >>= _) _ _ _
  refine wpAny_bind (wpAny_field hz rfl (x := .bool false) rfl ?_)
  show wpAny _ _ (field (.ref z) 3 >>= _) _ _ _
  refine wpAny_bind (wpAny_field hz rfl (x := .ref TI) rfl ?_)
  refine wpAny_bind (wpAny_seqItems hTI rfl ?_)
  show wpAny _ _ (Builtin.SmallTypes.ownedTupleIsFree (.ref z) >>= _) _ _ _
  refine wpAny_bind ?_
  unfold Builtin.SmallTypes.ownedTupleIsFree
  refine wpAny_bind (wpAny_field hz rfl (x := .none) rfl (wpAny_pure ?_))
  simp only [if_true]
  refine wpAny_bind (wpAny_rule ?_)
  refine wpAny_bind (wpAny_field hz rfl (x := .ref TO) rfl ?_)
  refine wpAny_bind (wpAny_setField_rec hz (by simp) fun h₁ hz₁ hs₁ => ?_)
  replace hz₁ : IsZip h₁ z TI TO .ellipsis := hz₁
  refine wpAny_bind ?_
  simp only [List.zipIdx_cons, List.zipIdx_nil, List.forIn_cons, List.forIn_nil]
  refine wpAny_bind (wpAny_bind (wpAny_onRaise ?_))
  show wpAny _ _ (Builtin.SmallTypes.nextOf (.ref i1) >>= _) _ _ _
  refine wpAny_bind (nextOf_str_end hh (h1.extBut hs₁.extBut D.i1z) hend fun h₂ e hs₂ he => ?_)
  obtain ⟨oe, hoe, hce⟩ := he
  have hz₂ : IsZip h₂ z TI TO .ellipsis := hs₂ _ _ D.i1z.symm hz₁
  have hez : e ≠ z := fun x => by subst x; rw [hz₂] at hoe; cases hoe; simp at hce
  exact wpAny_setField_rec hz₂ (by simp) fun h₃ _ hs₃ => hE h₃ e (fun d o c1 _ c3 _ x => hs₃.extBut _ _ c1 (hs₂ _ _ c3 (hs₁.extBut _ _ c1 x))) ⟨oe, hs₃.extBut _ _ hez hoe, hce⟩

noncomputable abbrev ZipSSt (z TI TO i1 i2 l2 : Addr) (x : Str) (t : Tok) (ys : Array Value) (i : Nat) (h : Heap) : Prop :=
  IsZip h z TI TO .none ∧ IsPair h TI (.ref i1) (.ref i2) ∧ (∃ a b, IsPair h TO a b) ∧ h.IsStrIter i1 "str_ascii_iterator" x t i ∧ h.IsListIter i2 l2 i ∧ h.IsList l2 ys

theorem turns_zipS {elts : List PySem.Expr} {k : Nat} {pos : Pos} (hh : A.handled = none) (z TI TO i1 i2 l2 : Addr) (D : ZipApart z TI TO i1 i2 l2 l2) (x : Str) (t : Tok) (ys : Array Value) (hn : x.cps.size = ys.size) :
    KTurns prog w A (.Tuple elts k pos) z [z, TI, TO, i1, i2, l2] [z, TO, i1, i2] ys.size
      (fun i v h => ∃ T c u y, v = .ref T ∧ x.cps[i]? = some c ∧ ys[i]? = some y ∧ h.get? T = some { cls := .type "tuple", data := .seq #[.str ⟨#[c]⟩ u, y] } ∧ z < T)
      (fun i v h => ∃ T c u y, v = .ref T ∧ x.cps[i]? = some c ∧ ys[i]? = some y ∧ h.get? T = some { cls := .type "tuple", data := .seq #[.str ⟨#[c]⟩ u, y] } ∧ (IsZip h z TI TO (rawInt T) ∧ IsPair h TI (.ref i1) (.ref i2) ∧ (∃ a b, IsPair h TO a b) ∧ h.IsStrIter i1 "str_ascii_iterator" x t (i + 1) ∧ h.IsListIter i2 l2 (i + 1) ∧ h.IsList l2 ys) ∧ z < T)
      (ZipSSt z TI TO i1 i2 l2 x t ys) where
  sub := fun c hc => by simp at hc ⊢; rcases hc with rfl | rfl | rfl | rfl <;> simp
  frame := fun i h h' hst hk => by
    obtain ⟨hz, hTI, ⟨a, b, hTO⟩, ⟨o1, ho1, r1⟩, h2, hl2⟩ := hst
    exact ⟨hk z (by simp) _ hz, hk TI (by simp) _ hTI, ⟨a, b, hk TO (by simp) _ hTO⟩, ⟨o1, hk i1 (by simp) o1 ho1, r1⟩, h2.at fun o e => hk i2 (by simp) o e, hl2.at fun o e => hk l2 (by simp) o e⟩
  item := fun i s Q E hi hst hQ => by
    obtain ⟨hz, hTI, ⟨a, b, hTO⟩, h1, h2, hl2⟩ := hst
    have hT : s.TypeIs (.ref z) "zip" := ⟨_, hz, rfl⟩
    have hix : i < x.cps.size := by rw [hn]; exact hi
    unfold pyNext
    refine wpAny_bind (wpAny_attempt (wpAny_callSpecial?_slot (name := Str.ofString "__next__") hT F.slot_zip_next
      (wpAny_call_entry F.slot_zip_next hT F.entry_zip_next
        (zipS_item D hz hTI hTO h1 h2 hl2 (Array.getElem?_eq_getElem hix) (Array.getElem?_eq_getElem hi) fun h' a1 a2 a3 a4 a5 hk => wpAny_pure ?_) (F.args_zip_next_1 _))))
    exact hQ _ h' _ ⟨_, _, _, _, rfl, Array.getElem?_eq_getElem hix, Array.getElem?_eq_getElem hi, a5, ⟨a1, hk _ _ D.TIz D.TITO D.TIi1 D.TIi2 hTI, ⟨_, _, a2⟩, a3, a4, hl2.at fun o e => hk _ o D.l2z D.l2TO D.l2i1 D.l2i2 e⟩, Heap.lt_size hz⟩
      fun c o hc e => hk c o (fun x => hc (by simp [x])) (fun x => hc (by simp [x])) (fun x => hc (by simp [x])) (fun x => hc (by simp [x])) e
  go := fun i v s Q E hm hQ => by
    obtain ⟨T, c, u, y, rfl, hc, hy, hT, ⟨hz, hTI, ⟨a, b, hTO⟩, h1, h2, hl2⟩, n1⟩ := hm
    refine wpAny_letOwnedTupleGo_zip hz fun h' hz' hs' => hQ h' ⟨T, c, u, y, rfl, hc, hy, hs'.extBut _ _ (Nat.ne_of_gt n1) hT, n1⟩ ⟨hz', hs'.extBut _ _ D.TIz hTI, ⟨a, b, hs'.extBut _ _ D.TOz hTO⟩, h1.extBut hs'.extBut D.i1z, h2.extBut hs'.extBut D.i2z,
      hl2.extBut hs'.extBut D.l2z⟩ fun c o hc e => hs'.extBut _ _ (fun x => hc (by simp [x])) e
  done := fun s Q E hst hQ => by
    obtain ⟨hz, hTI, ⟨a, b, hTO⟩, h1, h2, hl2⟩ := hst
    have hT : s.TypeIs (.ref z) "zip" := ⟨_, hz, rfl⟩
    have hend : x.cps[ys.size]? = none := by rw [← hn]; exact Array.getElem?_eq_none (Nat.le_refl _)
    unfold pyNext
    refine wpAny_bind (wpAny_attempt (wpAny_callSpecial?_slot (name := Str.ofString "__next__") hT F.slot_zip_next
      (wpAny_call_entry F.slot_zip_next hT F.entry_zip_next (zipS_end hh D hz hTI hTO h1 hend fun h' e hk he => ?_) (F.args_zip_next_1 _))))
    obtain ⟨o, ho, hc⟩ := he
    refine wpAny_bind (wpAny_isInstance (T := "StopIteration") (b := true) ⟨o, ho, hc⟩ isSubtype_stop ?_)
    exact wpAny_pure (hQ _ _ fun c o hc e => hk c o (fun x => hc (by simp [x])) (fun x => hc (by simp [x])) (fun x => hc (by simp [x])) (fun x => hc (by simp [x])) e)
end
end Mine

end
/-! ## Z2 -/
section
open Sem (wp)
namespace Mine
noncomputable abbrev zsH1 (h : Heap) (o1 : Obj) : Heap := h.push o1
noncomputable abbrev zsH2 (h : Heap) (o1 : Obj) (l2 : Addr) : Heap := (zsH1 h o1).push { cls := .type "list_iterator", data := .fields #[.ref l2, .int 0 0] }
noncomputable abbrev zsH3 (h : Heap) (o1 : Obj) (l2 : Addr) : Heap := (zsH2 h o1 l2).push { cls := .type "tuple", data := .seq #[.ref h.objs.size, .ref (zsH1 h o1).objs.size] }
noncomputable abbrev zsH4 (h : Heap) (o1 : Obj) (l2 : Addr) : Heap := (zsH3 h o1 l2).push { cls := .type "tuple", data := .seq #[.none, .none] }
noncomputable abbrev zsH5 (h : Heap) (o1 : Obj) (l2 : Addr) : Heap := (zsH4 h o1 l2).push { cls := .type "zip", data := .fields #[.none, .bool false, .bool false, .ref (zsH2 h o1 l2).objs.size, .ref (zsH3 h o1 l2).objs.size] }

theorem meets_zipS_new (v1 : Value) (o1 : Obj) (l2 : Addr) (ys : Array Value)
    (hit : ∀ (prog : Program) (w : World) (A : Around) (Q : Value → Shared → Prop) (E : Value → Shared → Prop) (s : Shared), Q (.ref s.heap.objs.size) { s with heap := s.heap.push o1 } → wpAny (model prog w) A (pyIter v1) Q E s) :
    Meets (Builtin.«zip.__new__» ⟨[.type "zip", v1, .ref l2], []⟩) (fun _ R s => s.heap.IsList l2 ys ∧
      R (.ok (.ret (.ref (zsH4 s.heap o1 l2).objs.size))) { s with heap := zsH5 s.heap o1 l2 }) :=
  .of_wp fun prog w A R s h => by
    obtain ⟨hp, g, d, tk, os⟩ := s; obtain ⟨hl2, h⟩ := h
    have hsub := sub_zip
    have hL2 : Heap.IsList (Shared.heap ⟨hp.push o1, g, d, tk, os⟩) l2 ys := Heap.IsList.push hl2 _
    wp_walk using hit _ _, wpAny_pyIter_list hL2
    exact ⟨_, rfl, h⟩
section
variable {prog : Program} {w : World} {A : Around} {E : Value → Shared → Prop} {s : Shared}
theorem call_zipS {x : Str} {t : Tok} {l2 : Addr} {ys : Array Value} {Q : Value → Shared → Prop} (ha : x.cps.all (· < 128) = true) (hl2 : s.heap.IsList l2 ys)
    (h : ∀ h', IsZip h' (s.heap.objs.size + 4) (s.heap.objs.size + 2) (s.heap.objs.size + 3) .none → IsPair h' (s.heap.objs.size + 2) (.ref s.heap.objs.size) (.ref (s.heap.objs.size + 1)) →
      IsPair h' (s.heap.objs.size + 3) .none .none → h'.IsStrIter s.heap.objs.size "str_ascii_iterator" x t 0 → h'.IsListIter (s.heap.objs.size + 1) l2 0 →
      (∀ c o, s.heap.get? c = some o → h'.get? c = some o) → Q (.ref (s.heap.objs.size + 4)) { s with heap := h' }) :
    wpAny (model prog w) A (call (.type "zip") [.str x t, .ref l2]) Q E s := by
  refine callType_new F.called_zip (by decide) (F.typeCall_zip_2 _ _) (F.newCall_zip_2 _ _) (fun obj => F.args_object_init_3 obj _ _) F.entry_zip_new
    (meets_zipS_new (.str x t) { cls := .type "str_ascii_iterator", data := .fields #[.str x t, .int 0 0] } l2 ys fun prog w A Q E s q => wpAny_pyIter_ascii ha q) ⟨hl2, ?_⟩
  generalize hO : ({ cls := .type "str_ascii_iterator", data := .fields #[.str x t, .int 0 0] } : Obj) = o1
  have hf : o1.isFreed = false := by rw [← hO]; rfl
  have z1 : (zsH1 s.heap o1).objs.size = s.heap.objs.size + 1 := Heap.size_push ..
  have z2 : (zsH2 s.heap o1 l2).objs.size = s.heap.objs.size + 2 := by rw [Heap.size_push, z1]
  have z3 : (zsH3 s.heap o1 l2).objs.size = s.heap.objs.size + 3 := by rw [Heap.size_push, z2]
  have z4 : (zsH4 s.heap o1 l2).objs.size = s.heap.objs.size + 4 := by rw [Heap.size_push, z3]
  have g5 : (zsH5 s.heap o1 l2).get? (zsH4 s.heap o1 l2).objs.size = some _ := Heap.get?_push_size _ rfl
  have g4 : (zsH5 s.heap o1 l2).get? (zsH3 s.heap o1 l2).objs.size = some _ := Heap.get?_push_of_some _ (Heap.get?_push_size _ rfl)
  have g3 : (zsH5 s.heap o1 l2).get? (zsH2 s.heap o1 l2).objs.size = some _ := Heap.get?_push_of_some _ (Heap.get?_push_of_some _ (Heap.get?_push_size _ rfl))
  have g2 : (zsH5 s.heap o1 l2).get? (zsH1 s.heap o1).objs.size = some _ := Heap.get?_push_of_some _ (Heap.get?_push_of_some _ (Heap.get?_push_of_some _ (Heap.get?_push_size _ rfl)))
  have g1 : (zsH5 s.heap o1 l2).get? s.heap.objs.size = some o1 := Heap.get?_push_of_some _ (Heap.get?_push_of_some _ (Heap.get?_push_of_some _ (Heap.get?_push_of_some _ (Heap.get?_push_size _ hf))))
  show _ ∧ _
  rw [z2, z3, z4] at g5
  rw [z1, z2] at g3
  rw [z3] at g4
  rw [z1] at g2
  rw [z4]
  exact ⟨⟨_, g5, rfl⟩, h _ g5 g3 g4 ⟨_, g1, by rw [← hO], by rw [← hO]; rfl⟩ ⟨_, g2, rfl, rfl⟩ fun c o x =>
    Heap.get?_push_of_some _ (Heap.get?_push_of_some _ (Heap.get?_push_of_some _ (Heap.get?_push_of_some _ (Heap.get?_push_of_some _ x))))⟩
end
end Mine

end
/-! ## Z3 -/
section
open Sem (wp)
namespace Mine
/-- a turn's end: the list S is turned, the rest stands -/
noncomputable def ZEnd (h₀ : Heap) (L : Addr) (s : Shared) (nm : Str) (S : Addr) (V : List Value → Prop) (its : List (Addr × Obj)) (fl : Flow) (s' : Shared) : Prop :=
  ∃ h' tk' m' vs' n', s' = { s with heap := h', toks := tk' } ∧ fl = .next ∧ Fr h₀ L h' m' ∧ m' nm = some (.ref S) ∧ V vs' ∧ News h₀ L h' (its ++ [(S, listOf vs'.toArray n')])
theorem ZEnd.intro {h₀ : Heap} {L : Addr} {s : Shared} {nm : Str} {S : Addr} {V : List Value → Prop} {its news : List (Addr × Obj)} {h' : Heap} {tk' : Nat} {m' : Str → Option Value} {vs' : List Value} {n' : Nat} (F : Fr h₀ L h' m') (N : News h₀ L h' news) (hm : m' nm = some (.ref S)) (hs : ∀ p ∈ its ++ [(S, listOf vs'.toArray n')], p ∈ news) (hv : V vs') :
    ZEnd h₀ L s nm S V its .next { s with heap := h', toks := tk' } := ⟨h', tk', m', vs', n', rfl, rfl, F, hm, hv, fun p hp => N p (hs p hp)⟩
section
variable {prog : Program} {w : World} {A : Around} {E : Value → Shared → Prop} {s : Shared} {env : Env} {h₀ : Heap} {body : List Stmt} {Q : Flow → Shared → Prop}
theorem zip_loop {elts : List PySem.Expr} {k : Nat} {pos : Pos} {x : Str} {t : Tok} {CL S : Addr} {cols : Array Value} {m₀ : Str → Option Value} {vs₀ : List Value} {n₀ : Nat}
    (hh : A.handled = none) (F : Fr h₀ env.locals s.heap m₀) (N : News h₀ env.locals s.heap [(S, listOf vs₀.toArray n₀)]) (hCL : h₀.IsList CL cols) (ha : x.cps.all (· < 128) = true) (hn : x.cps.size = cols.size)
    (nm : Str) (hM : m₀ nm = some (.ref S)) (V : Nat → List Value → Prop) (hV : V 0 vs₀)
    (turn : ∀ i T c u y h tk m₁ vs n I o1 o2 o3 o4 o5, i < cols.size → x.cps[i]? = some c → cols[i]? = some y → m₁ nm = some (.ref S) → V i vs → S < I → I + 4 < T → Fr h₀ env.locals h m₁ →
      News h₀ env.locals h [(T, { cls := .type "tuple", data := .seq #[.str ⟨#[c]⟩ u, y] }), (I + 4, o1), (I + 2, o2), (I + 3, o3), (I, o4), (I + 1, o5), (S, listOf vs.toArray n)] →
      wpAny (model prog w) A (assign (.Tuple elts k pos) env (.ref T)) (fun _ s₃ => wpAny (model prog w) A (execs body env)
        (ZEnd h₀ env.locals s nm S (V (i + 1)) [(I + 4, o1), (I + 2, o2), (I + 3, o3), (I, o4), (I + 1, o5)]) E s₃) E { s with heap := h, toks := tk })
    (done : ∀ h tk m₁ vs n, m₁ nm = some (.ref S) → V cols.size vs → Fr h₀ env.locals h m₁ → News h₀ env.locals h [(S, listOf vs.toArray n)] → Q .next { s with heap := h, toks := tk }) :
    wpAny (model prog w) A (call (.type "zip") [.str x t, .ref CL]) (fun xv s₁ => wpAny (model prog w) A (pyIter xv) (fun it s₂ => TurnsAt prog w A h₀ env (.Tuple elts k pos) body Q E it s₂) E s₁) E s := by
  have hl2 : s.heap.IsList CL cols := hCL.at fun o e => F.keep CL o e
  have hCLlt : CL < h₀.objs.size := by obtain ⟨_, e, _⟩ := hCL; exact Heap.lt_size e
  have hL := F.above
  have hLs : env.locals < s.heap.objs.size := F.ns.lt
  have hS : S < s.heap.objs.size := Heap.lt_size (N _ (.head _)).1
  refine call_zipS ha hl2 fun h' hz hTI hTO hi1 hi2 hk => wpAny_pyIter_zip hz ?_
  have D : ZipApart (s.heap.objs.size + 4) (s.heap.objs.size + 2) (s.heap.objs.size + 3) s.heap.objs.size (s.heap.objs.size + 1) CL CL := ktu_apart _ _ _ (Nat.lt_trans (Nat.lt_of_lt_of_le hCLlt hL) hLs) (Nat.lt_trans (Nat.lt_of_lt_of_le hCLlt hL) hLs)
  generalize hI : s.heap.objs.size = I at *
  have new : ∀ b : Nat, env.locals < b → h₀.get? b = none := fun b hb => Heap.get?_none_of_le (Nat.le_trans hL (Nat.le_of_lt hb))
  refine ⟨I + 4, _, _, cols.size, _, _, _, m₀, [(S, listOf vs₀.toArray n₀)], fun i m₁ news₁ => m₁ nm = some (.ref S) ∧ ∃ vs n, news₁ = [(S, listOf vs.toArray n)] ∧ V i vs, rfl, turns_zipS hh (I + 4) (I + 2) (I + 3) I (I + 1) CL D x t cols hn, ?_, ?_, ?_, ⟨hz, hTI, ⟨_, _, hTO⟩, hi1, hi2, hl2.at fun o e => hk CL o e⟩, F.keeps hk, N.grown hk, ⟨hM, _, _, rfl, hV⟩, ?_, ?_⟩
  · intro hb
    have hb' : env.locals = I + 4 ∨ env.locals = I + 2 ∨ env.locals = I + 3 ∨ env.locals = I ∨ env.locals = I + 1 ∨ env.locals = CL := by simpa using hb
    have h1 := ltN hLs
    have h2 := ltN (Nat.lt_of_lt_of_le hCLlt hL)
    rcases hb' with e | e | e | e | e | e <;> (have e' : @Eq Nat env.locals _ := e; omega)
  · intro b hb
    have hb' : b = I + 4 ∨ b = I + 3 ∨ b = I ∨ b = I + 1 := by simpa using hb
    refine new b ?_
    have h1 := ltN hLs
    show @LT.lt Nat _ env.locals b
    rcases hb' with e | e | e | e <;> (have e' : @Eq Nat b _ := e; omega)
  · intro p hp hb
    rw [List.mem_singleton.mp hp] at hb
    have hb' : S = I + 4 ∨ S = I + 3 ∨ S = I ∨ S = I + 1 := by simpa using hb
    have h1 := ltN hS
    rcases hb' with e | e | e | e <;> (have e' : @Eq Nat S _ := e; omega)
  · rintro i v m₁ news₁ h₁ tk₁ own hi ⟨T, c, u, y, rfl, hc, hy, hT, hzT⟩ ⟨hM₁, vs, n, rfl, hV₁⟩ hnw hown1 hown2 hown3 ⟨hz₁, hTI₁, ⟨a, b, hTO₁⟩, ⟨oi1, hi1₁, r1⟩, h2₁, hl₁⟩ F₁ N₁
    obtain ⟨oi2, hi2₁, r2⟩ := h2₁
    obtain ⟨oz, hz₁⟩ : ∃ o, h₁.get? (I + 4) = some o := ⟨_, hz₁⟩
    obtain ⟨oTI, hTI₁⟩ : ∃ o, h₁.get? (I + 2) = some o := ⟨_, hTI₁⟩
    obtain ⟨oTO, hTO₁⟩ : ∃ o, h₁.get? (I + 3) = some o := ⟨_, hTO₁⟩
    have h1 := ltN hLs
    have hzT' := ltN hzT
    have one : ∀ (b : Nat) (o : Obj), h₁.get? b = some o → I ≤ b → h₁.get? b = some o ∧ b ≠ env.locals ∧ h₀.get? b = none := fun b o e hb => ⟨e, Nat.ne_of_gt (Nat.lt_of_lt_of_le h1 hb), new b (Nat.lt_of_lt_of_le h1 hb)⟩
    have NE : News h₀ env.locals h₁ [(T, { cls := .type "tuple", data := .seq #[.str ⟨#[c]⟩ u, y] }), (I + 4, oz), (I + 2, oTI), (I + 3, oTO), (I, oi1), (I + 1, oi2), (S, listOf vs.toArray n)] := by
      intro p hp
      rcases List.mem_cons.mp hp with rfl | hp
      · exact one _ _ hT (by show @LE.le Nat _ I T; omega)
      rcases List.mem_cons.mp hp with rfl | hp
      · exact one _ _ hz₁ (Nat.le_add_right _ _)
      rcases List.mem_cons.mp hp with rfl | hp
      · exact one _ _ hTI₁ (Nat.le_add_right _ _)
      rcases List.mem_cons.mp hp with rfl | hp
      · exact one _ _ hTO₁ (Nat.le_add_right _ _)
      rcases List.mem_cons.mp hp with rfl | hp
      · exact one _ _ hi1₁ (Nat.le_refl _)
      rcases List.mem_cons.mp hp with rfl | hp
      · exact one _ _ hi2₁ (Nat.le_add_right _ _)
      · exact N₁ _ (List.mem_append_right _ hp)
    refine wpAny_mono (turn i T c u y h₁ tk₁ m₁ vs n I _ _ _ _ _ hi hc hy hM₁ hV₁ hS hzT F₁ NE) (fun _ s₃ q => wpAny_mono q (fun fl s' q => ?_) fun _ _ e => e) fun _ _ e => e
    obtain ⟨h', tk', m', vs', n', rfl, rfl, F', hM', hV', N'⟩ := q
    refine ⟨rfl, h', tk', m', [(S, listOf vs'.toArray n')], rfl, F', ?_, ?_, hM', _, _, rfl, hV'⟩
    · intro p hp
      rcases List.mem_append.mp hp with hp | hp
      · have q1 := hown1 p hp
        have q2 := hown2 p hp
        have q3 := (N₁ p (List.mem_append_left _ hp)).2
        refine ⟨?_, q3⟩
        have q1' : p.1 = I + 4 ∨ p.1 = I + 2 ∨ p.1 = I + 3 ∨ p.1 = I ∨ p.1 = I + 1 ∨ p.1 = CL := by simpa using q1
        rcases q1' with e | e | e | e | e | e
        · rw [e, hz₁] at q2; rw [e, ← Option.some.inj q2]; exact (N' (I + 4, oz) (by simp)).1
        · rw [e, hTI₁] at q2; rw [e, ← Option.some.inj q2]; exact (N' (I + 2, oTI) (by simp)).1
        · rw [e, hTO₁] at q2; rw [e, ← Option.some.inj q2]; exact (N' (I + 3, oTO) (by simp)).1
        · rw [e, hi1₁] at q2; rw [e, ← Option.some.inj q2]; exact (N' (I, oi1) (by simp)).1
        · rw [e, hi2₁] at q2; rw [e, ← Option.some.inj q2]; exact (N' (I + 1, oi2) (by simp)).1
        · obtain ⟨oc, ec, _⟩ := hCL
          rw [e, ec] at q3; cases q3.2
      · exact N' p (by rw [List.mem_singleton.mp hp]; simp)
    · intro p hp hb
      rw [List.mem_singleton.mp hp] at hb
      have hb' : S = I + 4 ∨ S = I + 3 ∨ S = I ∨ S = I + 1 := by simpa using hb
      have h1 := ltN hS
      rcases hb' with e | e | e | e <;> (have e' : @Eq Nat S _ := e; omega)
  · rintro h₁ tk₁ m₁ news₁ F₁ N₁ _ ⟨hM₁, vs, n, rfl, hV₁⟩
    exact done h₁ tk₁ m₁ vs n hM₁ hV₁ F₁ N₁
end
end Mine

end
/-! ## W1 -/
namespace Mine
/-- an int divided by an int -/
noncomputable def fl (a b : Int) : UInt64 := Float64.ofFrac (decide (a < 0) != decide (b < 0)) a.natAbs b.natAbs
section
variable {prog : Program} {w : World} {A : Around} {E : Value → Shared → Prop} {s : Shared} {h₀ : Heap} {L D : Addr} {m : Str → Option Value} {news news' : List (Addr × Obj)}
theorem div_ii_small {Q : Value → Shared → Prop} {a b : Int} {t u : Tok} (hh : A.handled = none) (h0 : -1024 < a) (h1 : a < 1024) (hb : b ≠ 0) (h : Q (.float (fl a b) s.toks) { s with toks := s.toks + 1 }) : wpAny (model prog w) A (binaryOp .Div (.int a t) (.int b u)) Q E s :=
  div_ii_fits hh (small_fits h0 h1) (fun e => absurd e hb) fun _ _ => h
theorem mul_if_small {Q : Value → Shared → Prop} {n : Int} {a : UInt64} {t u : Tok} (h0 : -1024 < n) (h1 : n < 1024) (h : Q (.float (Float64.mul (Float64.ofInt n) a) s.toks) { s with toks := s.toks + 1 }) : wpAny (model prog w) A (binaryOp .Mult (.int n u) (.float a t)) Q E s := mul_if_fits (small_fits h0 h1) h
theorem round_f {Q : Value → Shared → Prop} {x : UInt64} {t : Tok} {p : Int} (hA : A.handled = none) (hf : Float64.isFinite x = true) (e : toInt Float64.nearestOf x = p) (h : Q (.int p s.toks) { s with toks := s.toks + 1 }) :
    wpAny (model prog w) A (call (.builtin "round") [.float x t]) Q E s := by
  subst e
  refine call_round_float hA (fun q => ?_) (fun q => ?_) fun _ => h
  · exfalso; unfold Float64.isFinite at hf; unfold Float64.isNaN at q; revert hf q; cases Float64.decode x <;> simp
  · exfalso; unfold Float64.isFinite at hf; unfold Float64.isInf at q; revert hf q; cases Float64.decode x <;> simp
theorem strs_set {x : Str} {u : Tok} : ∀ {vs : List Value} {ys : List Str}, StrsAre vs ys → ∀ j, StrsAre (vs.set j (.str x u)) (ys.set j x)
  | _, _, .nil, _ => .nil
  | _, _, .cons _ _ h, 0 => .cons x u h
  | _, _, .cons i t h, j + 1 => .cons i t (strs_set h j)
theorem strs_len : ∀ {vs : List Value} {ys : List Str}, StrsAre vs ys → vs.length = ys.length
  | _, _, .nil => rfl
  | _, _, .cons _ _ h => congrArg Nat.succ (strs_len h)
theorem set_str {Q : Unit → Shared → Prop} {vs : List Value} {ys : List Str} {n : Nat} {k : Int} {x : Str} {t u : Tok} (F : Fr h₀ L s.heap m) (N : News h₀ L s.heap news) (U : Upd D (listOf vs.toArray n) (listOf (vs.set k.toNat (.str x u)).toArray n) news news') (hi : StrsAre vs ys) (hl : ys.length = 144) (h0 : 0 ≤ k) (h1 : k < 144)
    (h : ∀ h', Fr h₀ L h' m → News h₀ L h' news' → StrsAre (vs.set k.toNat (.str x u)) (ys.set k.toNat x) → (ys.set k.toNat x).length = 144 → Q () { s with heap := h' }) :
    wpAny (model prog w) A (setItem (.ref D) (.int k t) (.str x u)) Q E s := by
  obtain ⟨pre, post, rfl, rfl, a, b⟩ := U.split
  have z := N (D, listOf vs.toArray n) (List.mem_append.mpr (.inr (.head _)))
  have hlv : vs.length = 144 := (strs_len hi).trans hl
  have hs : vs.toArray.size = 144 := by rw [List.size_toArray]; exact hlv
  refine ki_setAt z.1 h0 (by omega) (by omega) (h _ (F.change (Heap.SameBut.update ..) z.2.1 z.2.2) (ki_turn _ N a b ?_ ?_) (strs_set hi _) (by rw [List.length_set]; exact hl))
  · show vs.toArray.setIfInBounds k.toNat (.str x u) = (vs.set k.toNat (.str x u)).toArray
    apply Array.toList_inj.mp
    simp
  · simp
end
/-- what is asked of a colour that has a hue: its place is p -/
structure Hue (c : Int × Int × Int) (p : Int) : Prop where
  b1 : 0 ≤ c.1 ∧ c.1 ≤ 16
  b2 : 0 ≤ c.2.1 ∧ c.2.1 ≤ 16
  b3 : 0 ≤ c.2.2 ∧ c.2.2 ≤ 16
  p0 : 0 ≤ p
  p1 : p < 72
  ne : (Float64.cmp (fMin (fl c.1 16) (fl c.2.1 16) (fl c.2.2 16)) (fMax (fl c.1 16) (fl c.2.1 16) (fl c.2.2 16)) == some .eq) = false
  z1 : Float64.isZero (fMax (fl c.1 16) (fl c.2.1 16) (fl c.2.2 16)) = false
  z2 : Float64.isZero (fRange (fl c.1 16) (fl c.2.1 16) (fl c.2.2 16)) = false
  sh : (Float64.cmpInt (satOf (fl c.1 16) (fl c.2.1 16) (fl c.2.2 16)) 0 == some .gt) = true
  fin : Float64.isFinite (Float64.mul (Float64.ofInt 72) (hueOf (fl c.1 16) (fl c.2.1 16) (fl c.2.2 16))) = true
  rnd : toInt Float64.nearestOf (Float64.mul (Float64.ofInt 72) (hueOf (fl c.1 16) (fl c.2.1 16) (fl c.2.2 16))) = p
structure Grey (c : Int × Int × Int) : Prop where
  b1 : 0 ≤ c.1 ∧ c.1 ≤ 16
  b2 : 0 ≤ c.2.1 ∧ c.2.1 ≤ 16
  b3 : 0 ≤ c.2.2 ∧ c.2.2 ≤ 16
  ne : (Float64.cmp (fMin (fl c.1 16) (fl c.2.1 16) (fl c.2.2 16)) (fMax (fl c.1 16) (fl c.2.1 16) (fl c.2.2 16)) == some .eq) = true
noncomputable def GoodCol (c : Int × Int × Int) (p : Int) : Prop := Hue c p ∨ (Grey c ∧ p = -1)
section
variable {prog : Program} {w : World} {p : Program} {loose : List Str} {mean : ExcName → Option Value} {mg mb : Str → Option Value} {dp un : Nat} {gd : Option (List Code)} {cn : Str} {cs : Scope} {a : Addr} {ccd : Value} {cl : List (Str × Addr)} {outer : List Env} {A₀ : Around} {base h₀ : Heap} {L : Addr} {m : Str → Option Value} {s : Shared} {Q E : Value → Shared → Prop}
    {r g b : UInt64} {t1 t2 t3 : Tok} {news : List (Addr × Obj)}
theorem hsv_use (B : Below A₀ base outer h₀) (F : Fr h₀ L s.heap m) (X : (Mine.hd.heap_39 w.params).In h₀) (N : News h₀ L s.heap news) (T : Top p loose mean mg mb h₀) (hk : cs.kind = .function) (hdp : dp + 1 < recursionLimit)
    (hne : (Float64.cmp (fMin r g b) (fMax r g b) == some .eq) = false) (hz1 : Float64.isZero (fMax r g b) = false) (hz2 : Float64.isZero (fRange r g b) = false)
    (hret : ∀ a t1 t2 t3 h' tk', Fr h₀ L h' m → News h₀ L h' news → IsTup h' a #[.float (hueOf r g b) t1, .float (satOf r g b) t2, .float (fMax r g b) t3] → Q (.ref a) { s with heap := h', toks := tk' }) :
    wpAny (model prog w) (ktrTop dp un gd cn cs L a ccd cl outer) (call (.ref 42) [.float r t1, .float g t2, .float b t3]) Q E s :=
  hsv_gives B F X T hk hdp hne hz1 hz2 fun a t1 t2 t3 h' tk' k _ e => hret a t1 t2 t3 h' tk' (fr_keeps F k) (news_keeps N k) ⟨_, e, rfl, _, rfl⟩
theorem hsv_useG (B : Below A₀ base outer h₀) (F : Fr h₀ L s.heap m) (X : (Mine.hd.heap_39 w.params).In h₀) (N : News h₀ L s.heap news) (T : Top p loose mean mg mb h₀) (hk : cs.kind = .function) (hdp : dp + 1 < recursionLimit)
    (hne : (Float64.cmp (fMin r g b) (fMax r g b) == some .eq) = true)
    (hret : ∀ a t1 t2 t3 h' tk', Fr h₀ L h' m → News h₀ L h' news → IsTup h' a #[.float 0 t1, .float 0 t2, .float (fMax r g b) t3] → Q (.ref a) { s with heap := h', toks := tk' }) :
    wpAny (model prog w) (ktrTop dp un gd cn cs L a ccd cl outer) (call (.ref 42) [.float r t1, .float g t2, .float b t3]) Q E s :=
  hsv_grey B F X T hk hdp hne fun a t1 t2 t3 h' tk' k _ e => hret a t1 t2 t3 h' tk' (fr_keeps F k) (news_keeps N k) ⟨_, e, rfl, _, rfl⟩
theorem fr_env {name : Str} {scope : Scope} {a : Addr} {cd : Value} {h : Heap} (F : Fr h₀ (envOf name scope L a cd).locals h m) : Fr h₀ L h m := F
theorem news_env {name : Str} {scope : Scope} {a : Addr} {cd : Value} {h : Heap} (N : News h₀ (envOf name scope L a cd).locals h news) : News h₀ L h news := N
theorem news_sub {h₀ h : Heap} {L : Addr} {news news' : List (Addr × Obj)} (N : News h₀ L h news) (hs : ∀ p ∈ news', p ∈ news) : News h₀ L h news' := fun p hp => N p (hs p hp)
end
end Mine
theorem Mine.LN19 : True := by
  k_with "call ref" => (k_here; (with_reducible show wpAny _ _ (call (Value.ref 42) [Value.float _ _, Value.float _ _, Value.float _ _]) _ _ _); (k_dflt (first
  | (refine' Mine.hsv_use ?zqk1 ?zqk2 ?zqk3 ?zqk4 ?zqk5 ?zqkK ?zqkd ?zqh1 ?zqh2 ?zqh3 ?_; (case zqh1 => with_reducible assumption); (case zqh2 => with_reducible assumption); (case zqh3 => with_reducible assumption); (case zqkK => first | exact rfl | assumption); (case zqk1 => k_asm); (case zqk2 => k_asm); (case zqk3 => k_asm); (case zqk4 => k_asm); (case zqk5 => k_asm); (case zqkd => ktr_room); k_whole)
  | (refine' Mine.hsv_useG ?zqk1 ?zqk2 ?zqk3 ?zqk4 ?zqk5 ?zqkK ?zqkd ?zqh1 ?_; (case zqh1 => with_reducible assumption); (case zqkK => first | exact rfl | assumption); (case zqk1 => k_asm); (case zqk2 => k_asm); (case zqk3 => k_asm); (case zqk4 => k_asm); (case zqk5 => k_asm); (case zqkd => ktr_room); k_whole))); intro _ _ _ _ _ _ _ _ _; (try dsimp only); (try k_sweep))
  exact trivial
theorem Mine.LN20 : True := by
  k_with "binaryOp Div int int" => (refine Mine.div_ii_small rfl (by omega) (by omega) (by omega) ?_; (try dsimp only))
  exact trivial
theorem Mine.LN21 : True := by
  k_with "binaryOp Mult int float" => (refine Mine.mul_if_small (by omega) (by omega) ?_; (try dsimp only))
  exact trivial
theorem Mine.LN22 : True := by
  k_with "call builtin:round" => ((with_reducible show wpAny _ _ (call _ [Value.float _ _]) _ _ _); (refine Mine.round_f rfl (by with_reducible assumption) (by with_reducible assumption) ?_); (try dsimp only))
  exact trivial
theorem Mine.LN23 : True := by
  k_with "setItem ref int" => (k_here; (with_reducible show wpAny _ _ (setItem (Value.ref _) (Value.int _ _) (Value.str _ _)) _ _ _); k_dflt (refine' Mine.set_str ?zqk1 ?zqk2 ?zqk3 ?zqk4 ?zqk5 ?zqk6 ?zqk7 ?_; (case zqk1 => k_asm); (case zqk2 => k_asm); (case zqk3 => k_upd); (case zqk4 => with_reducible assumption); (case zqk5 => with_reducible assumption); (case zqk6 => omega); (case zqk7 => omega)); intro _ _ _ _ _; (try k_sweep))
  exact trivial
theorem Mine.LN24 : True := by
  k_with "exec For Tuple Call cons nil" => (k_here; (rename Fr _ _ _ _ => lF'z); (with_unfolding_all refine' For_turns lF'z ?_; k_whole))
  exact trivial
local macro_rules | `(tactic| lcg_off) => `(tactic| ((repeat ((with_reducible rename (_ ∧ _) => zz'); obtain ⟨z1', z2'⟩ := zz')); (repeat' apply And.intro) <;> first | assumption | trivial | k_ne))
theorem Mine.LN25 : True := by
  k_with "eval Name" => (k_here; (with_reducible show wpAny _ _ (eval (Expr.Name (Str.ofString "signs") _) (envOf _ _ _ _ _)) _ _ _); (with_reducible rename (_ = some (Value.ref _)) => hM'z); (refine ld (by k_asm) (by with_unfolding_all exact hM'z) ?_))
  exact trivial

/-! ## W2 -/
namespace Mine
/-- the colours as the law hands them on -/
noncomputable def IsCol (h : Heap) (y : Addr) (c : Int × Int × Int) : Prop := ∃ t1 t2 t3, h.get? y = some (LCg.lst [.int c.1 t1, .int c.2.1 t2, .int c.2.2 t3])
structure IsCols (h : Heap) (CL : Addr) (ys : List Addr) (cs : List (Int × Int × Int)) : Prop where
  list : h.get? CL = some (LCg.lst (ys.map .ref))
  len : ys.length = 6
  lenc : cs.length = 6
  item : ∀ i : Nat, ∀ y c, ys[i]? = some y → cs[i]? = some c → IsCol h y c

noncomputable def sgn (c : Nat) : Str := ⟨#[c]⟩
noncomputable def wheelStep (i : Nat) (p : Int) (w : List Str) : List Str := if 0 ≤ p then (w.set p.toNat (sgn (97 + i))).set (p + 72).toNat (sgn (97 + i)) else w
noncomputable def wheelTo (places : List Int) : Nat → List Str
  | 0 => List.replicate 144 (sgn 45)
  | i + 1 => wheelStep i (places.getD i (-1)) (wheelTo places i)
theorem wheel_len (places : List Int) : ∀ i, (wheelTo places i).length = 144
  | 0 => by simp [wheelTo]
  | i + 1 => by
    have := wheel_len places i
    unfold wheelTo wheelStep
    split
    · simp [this]
    · exact this
noncomputable def codeStep (i : Nat) (p : Int) (w : List Nat) : List Nat := if 0 ≤ p then (w.set p.toNat (97 + i)).set (p + 72).toNat (97 + i) else w
noncomputable def codesTo (places : List Int) : Nat → List Nat
  | 0 => List.replicate 144 45
  | i + 1 => codeStep i (places.getD i (-1)) (codesTo places i)
theorem wheel_codes (places : List Int) : ∀ i, wheelTo places i = (codesTo places i).map sgn
  | 0 => by simp [wheelTo, codesTo]
  | i + 1 => by
    unfold wheelTo codesTo wheelStep codeStep
    rw [wheel_codes places i]
    split
    · rw [List.map_set, List.map_set]
    · rfl
theorem codes_len (places : List Int) (i : Nat) : (codesTo places i).length = 144 := by
  have := wheel_len places i
  rw [wheel_codes, List.length_map] at this
  exact this
noncomputable def wheelStr (places : List Int) : Str := ⟨(codesTo places 6).toArray⟩
theorem join_sgn : ∀ l : List Nat, Str.join ⟨#[]⟩ (l.map sgn) = ⟨l.toArray⟩
  | [] => rfl
  | c :: r => by
    rw [List.map_cons, PyProof.Rows.join_nil_cons, join_sgn r]
    show (⟨#[c] ++ r.toArray⟩ : Str) = _
    simp
theorem join_wheel {prog : Program} {w : World} {A : Around} {E : Value → Shared → Prop} {s : Shared} {t : Tok} {Q : Value → Shared → Prop} {h₀ : Heap} {L D : Addr} {news : List (Addr × Obj)} {vs : List Value} {n : Nat} {places : List Int} (N : News h₀ L s.heap news) (hm : (D, listOf vs.toArray n) ∈ news) (hi : StrsAre vs (wheelTo places 6))
    (h : ∀ t' k, Q (.str (wheelStr places) t') { s with toks := k }) : wpAny (model prog w) A (call (.builtin "str.join") [.str (Str.ofString "") t, .ref D]) Q E s := by
  have hl : s.heap.IsList D vs.toArray := ⟨_, (N _ hm).1, rfl, _, rfl⟩
  have e0 : Str.ofString "" = (⟨#[]⟩ : Str) := by decide +kernel
  refine join_list hl hi ?_ fun t' k => ?_
  · rw [wheel_codes]
    have h1 : ((codesTo places 6).map sgn).map (·.length) = (codesTo places 6).map (fun _ => 1) := by rw [List.map_map]; rfl
    have h2 : ((codesTo places 6).map (fun _ => 1)).sum = (codesTo places 6).length := by
      generalize codesTo places 6 = l
      induction l with
      | nil => rfl
      | cons a r ih => simp at ih ⊢; omega
    rw [h1, h2, List.length_map, codes_len, e0]
    decide
  · rw [show Txt.join (Str.ofString "") (wheelTo places 6) = wheelStr places from by
      rw [e0, wheel_codes, eq_of_beq (PyProof.Rows.join_plain_closes _ _)]
      exact join_sgn _]
    exact h t' k
theorem letters_are : ∀ i : Nat, i < 6 → ([97, 98, 99, 100, 101, 102] : List Nat)[i]? = some (97 + i)
  | 0, _ => rfl
  | 1, _ => rfl
  | 2, _ => rfl
  | 3, _ => rfl
  | 4, _ => rfl
  | 5, _ => rfl
  | _ + 6, h => absurd h (Nat.not_lt.mpr (Nat.le_add_left _ _))
theorem letter_is {i c : Nat} (hi : i < 6) (h : (Str.ofString "abcdef").cps[i]? = some c) : c = 97 + i := by
  have e : (Str.ofString "abcdef").cps = [97, 98, 99, 100, 101, 102].toArray := by decide +kernel
  rw [e, List.getElem?_toArray, letters_are i hi] at h
  exact (Option.some.inj h).symm
section
variable {g s : Heap} {CL : Addr} {ys : List Addr} {cols : List (Int × Int × Int)} {places : List Int} (kp : ∀ b o, s.get? b = some o → b ∉ ([] : List (Addr × Obj)).map (·.1) → g.get? b = some o) (C : IsCols s CL ys cols)
include kp C in
theorem cols_list : g.IsList CL (ys.map Value.ref).toArray := ⟨_, kp _ _ C.list (by simp), rfl, _, rfl⟩
include C in
theorem cols_six : (Str.ofString "abcdef").cps.size = (ys.map Value.ref).toArray.size := by
  have e : (Str.ofString "abcdef").cps.size = 6 := by decide +kernel
  rw [e, List.size_toArray, List.length_map, C.len]
include kp C in
theorem wheel_prep (hp : places.length = 6) (G : ∀ i : Nat, ∀ c q, cols[i]? = some c → places[i]? = some q → GoodCol c q) {i c : Nat} {y : Value} (hi : i < (ys.map Value.ref).toArray.size) (hc : (Str.ofString "abcdef").cps[i]? = some c) (hy : (ys.map Value.ref).toArray[i]? = some y) :
    ∃ yi c0 c1 c2 q t1 t2 t3, y = .ref yi ∧ c = 97 + i ∧ q = places.getD i (-1) ∧ g.IsList yi #[.int c0 t1, .int c1 t2, .int c2 t3] ∧ GoodCol (c0, c1, c2) q := by
  have hi6 : i < 6 := by rw [← cols_six C] at hi; exact (by decide +kernel : (Str.ofString "abcdef").cps.size = 6) ▸ hi
  have e1 : ∃ yi, ys[i]? = some yi := ⟨_, List.getElem?_eq_getElem (by rw [C.len]; exact hi6)⟩
  have e2 : ∃ ci, cols[i]? = some ci := ⟨_, List.getElem?_eq_getElem (by rw [C.lenc]; exact hi6)⟩
  have e3 : ∃ q, places[i]? = some q := ⟨_, List.getElem?_eq_getElem (by rw [hp]; exact hi6)⟩
  obtain ⟨yi, e1⟩ := e1
  obtain ⟨⟨c0, c1, c2⟩, e2⟩ := e2
  obtain ⟨q, e3⟩ := e3
  obtain ⟨t1, t2, t3, hl⟩ := C.item i yi _ e1 e2
  refine ⟨yi, c0, c1, c2, q, t1, t2, t3, ?_, letter_is hi6 hc, ?_, ⟨_, kp _ _ hl (by simp), rfl, _, rfl⟩, G i _ _ e2 e3⟩
  · simp [e1] at hy; exact hy.symm
  · rw [List.getD_eq_getElem?_getD, e3]; rfl
end

theorem good_bd {c : Int × Int × Int} {p : Int} (h : GoodCol c p) : (0 ≤ c.1 ∧ c.1 ≤ 16) ∧ (0 ≤ c.2.1 ∧ c.2.1 ≤ 16) ∧ (0 ≤ c.2.2 ∧ c.2.2 ≤ 16) := by
  rcases h with h | h
  · exact ⟨h.b1, h.b2, h.b3⟩
  · exact ⟨h.1.b1, h.1.b2, h.1.b3⟩
end Mine
theorem Mine.LN26 : True := by
  k_with "call ref" => (k_here; (with_reducible show wpAny _ _ (call (Value.ref 42) _) _ _ _); (with_reducible rename Mine.GoodCol _ _ => hG'z); (refine Mine.SStop.out ?_))
  exact trivial
namespace Mine
set_option maxRecDepth 100000 in
set_option maxHeartbeats 4000000 in
theorem wheel_gives {prog : Program} {w : World} {p : Program} {loose : List Str} {mean : ExcName → Option Value} {mg mb : Str → Option Value} {dp un : Nat} {gd : Option (List Code)} {cn : Str} {cs : Scope} {a : Addr} {ccd : Value} {cl : List (Str × Addr)} {outer : List Env} {A₀ : Around} {base h₀ : Heap} {L : Addr} {m : Str → Option Value} {s : Shared} {Q E : Value → Shared → Prop}
    {CL : Addr} {ys : List Addr} {cols : List (Int × Int × Int)} {places : List Int}
    (B : Below A₀ base outer h₀) (F : Fr h₀ L s.heap m) (X : (Mine.hd.heap_39 w.params).In h₀) (T : Top p loose mean mg mb h₀) (hk : cs.kind = .function) (hdp : dp + 3 < recursionLimit)
    (C : IsCols s.heap CL ys cols) (hp : places.length = 6) (G : ∀ i : Nat, ∀ c q, cols[i]? = some c → places[i]? = some q → GoodCol c q)
    (hret : ∀ t h' tk', Keeps s.heap h' → Q (.str (wheelStr places) t) { s with heap := h', toks := tk' }) :
    wpAny (model prog w) (ktrTop dp un gd cn cs L a ccd cl outer) (call (.ref 73) [.ref CL]) Q E s := by
  show Seen Mine.hd.heap_39 Challenge.rw_mr0158_01 _
  k_fill
  unfold Seen
  refine wpAny_call ?_
  walk_at "mine enter"
  k_steps
  (rename News _ _ _ _ => N0)
  (rename Fr _ _ _ _ => F0)
  refine zip_loop (cols := (ys.map Value.ref).toArray) rfl F0 (news_sub N0 (fun p hp => by rw [List.mem_singleton.mp hp]; exact List.Mem.head _)) ?hCL (by decide +kernel) ?hn (Str.ofString "signs") ?hM (fun i vs => StrsAre vs (wheelTo places i)) ?hV ?turn ?done
  case hCL => exact cols_list (by assumption) C
  case hn => exact cols_six C
  case hM => rfl
  case hV =>
    show StrsAre _ (List.replicate 144 (sgn 45))
    repeat (first | exact .nil | refine .cons (sgn 45) _ ?_)
  case turn =>
    clear N0 F0
    intro i T c u y h tk m₁ vs n I o1 o2 o3 o4 o5 hi hc hy hM hV hSI hIT F1 N1
    replace F1 := fr_env F1
    replace hSI := ltN hSI
    replace hIT := ltN hIT
    replace N1 := news_env N1
    dsimp only
    obtain ⟨yi, c0, c1, c2, q, t1, t2, t3, rfl, rfl, hq, hcol, hgood⟩ := wheel_prep (by assumption) C hp G hi hc hy
    have hlen := wheel_len places i
    have hM2 := hM
    have hV' : StrsAre vs (wheelTo places i) := hV
    clear hc hy hi C G hV
    have hb := good_bd hgood
    dsimp only at hb
    obtain ⟨b1, b2, b3⟩ := hb
    k_steps
    unfold SStop
    (rename Mine.GoodCol _ _ => hG)
    clear b1 b2 b3
    rcases hG with ⟨_, _, _, p0, p1, ne, z1, z2, sh, fin, rnd⟩ | ⟨⟨_, _, _, ne⟩, hm1⟩
    · dsimp only at ne z1 z2 sh fin rnd
      k_steps
      refine ZEnd.intro (by assumption) (by assumption) (by with_unfolding_all exact hM) (by simp only [List.cons_append, List.nil_append]; lcg_sub) ?_
      show StrsAre _ (wheelStep i (places.getD i (-1)) (wheelTo places i))
      rw [← hq]
      unfold wheelStep
      rw [if_pos p0]
      assumption
    · dsimp only at ne
      have hz : (Float64.cmpInt 0 0 == some .gt) = false := by decide +kernel
      k_steps
      all_goals (try exact absurd (by assumption : (Float64.cmpInt 0 0 == some .gt) = true) (by decide +kernel))
      refine ZEnd.intro (by assumption) (by assumption) (by with_unfolding_all exact hM) (by simp only [List.cons_append, List.nil_append]; lcg_sub) ?_
      show StrsAre _ (wheelStep i (places.getD i (-1)) (wheelTo places i))
      rw [← hq]
      unfold wheelStep
      rw [if_neg (by rw [hm1]; decide)]
      assumption
  case done =>
    clear N0 F0
    intro h tk m₁ vs n hM hV F1 N1
    replace F1 := fr_env F1
    replace N1 := news_env N1
    dsimp only
    k_steps
    refine join_wheel (by k_asm) (by k_mem) (by simpa [C.len] using hV) ?_
    intro t' k
    exact hret _ _ _ (keeps_end0 (by assumption) F1)
end Mine

/-! ## S1 -/
section
open PySem.Builtin PySem.Builtin.ObjectAttr
set_option maxRecDepth 100000
namespace Mine
theorem store_function : StoreFacts "function" [.type "function", .type "object"] "object.__setattr__" "object" where
  mro := by kernel_rfl
  slot := .of (owner := "object") (n := "__setattr__") (by rw [typeLookup_type, builtinLookup_eq_fast]; kernel_rfl) (by decide +kernel) (by decide +kernel) (by decide +kernel)
    (by first | exact .inl (by decide +kernel) | exact .inr (by decide +kernel)) (by rw [isSubtype_type]; kernel_rfl)
  entry := PySem.F.entry_object_sa
  kind := by decide +kernel
  split := by decide +kernel
  hasOwner := by decide +kernel
  args := fun a b c => by unfold argsOk; kernel_rfl
  passes := fun self => by kernel_rfl
theorem span_look : typeLookup (.type "function") (Str.ofString "span") = pure none := by rw [typeLookup_type, builtinLookup_eq_fast]; kernel_rfl
theorem search_look : typeLookup (.type "function") (Str.ofString "search") = pure none := by rw [typeLookup_type, builtinLookup_eq_fast]; kernel_rfl
theorem fn_hasDict : typeHasDict (.type "function") = true := by decide +kernel
theorem fn_fin : finalisedInACycleAlone "function" = false := by decide +kernel
end Mine
namespace Mine
section
variable {prog : Program} {w : World} {A : Around} {E : Value → Shared → Prop} {s : Shared}
noncomputable abbrev fnObj (fd : FuncData) (d : Option Addr) : Obj := { cls := .type "function", dict := d, data := .func fd }
/-- a first attribute is stored on a function -/
theorem setattr_fn {f : Addr} {fd : FuncData} {name : Str} {v : Value} {Q : Unit → Shared → Prop} (hf : s.heap.get? f = some (fnObj fd none)) (hn : typeLookup (.type "function") name = pure none)
    (h : ∀ h', h'.get? f = some (fnObj fd (some s.heap.objs.size)) → h'.get? s.heap.objs.size = some { cls := .type "dict", data := .dict #[⟨PyData.keyHash w.params name, .str name (s.toks + 1), v⟩] 1 } →
      (∀ b o, b ≠ f → s.heap.get? b = some o → h'.get? b = some o) → Q () { s with heap := h', toks := s.toks + 2 }) :
    wpAny (model prog w) A (setAttr (.ref f) name v) Q E s := by
  have hT : ∀ tk : Nat, Shared.TypeIs { s with toks := tk } (.ref f) "function" := fun tk => ⟨_, hf, rfl⟩
  unfold setAttr
  refine wpAny_bind (wpAny_mkText ?_)
  refine wpAny_bind (wpAny_callSpecial?_slot (name := Str.ofString "__setattr__") (hT _) store_function.slot (wpAny_call_entry store_function.slot (hT _) store_function.entry ?_ (store_function.args _ _ _)))
  rw [osa_eq, refuse_eq]
  refine wpAny_bind (wpAny_bind (wpAny_typeOf (hT _) (wpAny_bind (wpAny_of_eq store_function.mro ?_))))
  rw [store_function.passes]
  refine wpAny_pure (wpAny_bind (wpAny_typeOf (hT _) (wpAny_bind (wpAny_of_eq hn (wpAny_bind (wpAny_of_eq (a := none) rfl ?_))))))
  show wpAny _ _ (storeInOwnDict _ _ _ _ _ _) _ _ _
  unfold storeInOwnDict
  refine wpAny_bind (wpAny_of_eq (a := ()) rfl ?_)
  show wpAny _ _ (ownDictForStores (.ref f) >>= _) _ _ _
  refine wpAny_bind ?_
  show wpAny _ _ (instanceDict f true) _ _ _
  unfold instanceDict
  refine wpAny_bind (wpAny_loadPart hf ?_)
  show wpAny _ _ (if (!true || !typeHasDict (.type "function")) = true then pure none else alloc { cls := Value.type "dict", data := Data.dict #[] } >>= fun d => update f (fun o => { o with dict := some d }) >>= fun _ => dictMade (.type "function") f d) _ _ _
  rw [fn_hasDict, if_neg (by decide)]
  refine wpAny_bind (wpAny_alloc ?_)
  have hf1 : (s.heap.push { cls := Value.type "dict", data := Data.dict #[] }).get? f = some (fnObj fd none) := Heap.get?_push_of_some _ hf
  refine wpAny_bind (wpAny_update hf1 ?_)
  unfold dictMade
  show wpAny _ _ (if finalisedInACycleAlone "function" = true then _ else _) _ _ _
  rw [fn_fin, if_neg (by decide)]
  refine wpAny_pure ?_
  show wpAny _ _ (storeInDict s.heap.objs.size (Value.str name s.toks) name v) _ _ _
  unfold storeInDict
  refine wpAny_bind (wpAny_of_eq (a := ()) rfl ?_)
  have hne : s.heap.objs.size ≠ f := Nat.ne_of_gt (Heap.lt_size hf)
  have hs2 : Heap.SameBut f (s.heap.push { cls := Value.type "dict", data := Data.dict #[] }) _ := Heap.SameBut.update (s.heap.push { cls := Value.type "dict", data := Data.dict #[] }) f (fun o => { o with dict := some s.heap.objs.size })
  have hd : ((s.heap.push { cls := Value.type "dict", data := Data.dict #[] }).update f (fun o => { o with dict := some s.heap.objs.size })).get? s.heap.objs.size = some { cls := Value.type "dict", data := Data.dict #[] } := (hs2.2 _ hne).trans (Heap.get?_push_size _ rfl)
  refine wpAny_bind ?_
  unfold nsSet
  refine wpAny_bind (wpAny_bind (wpAny_askSetting (wpAny_pure (wpAny_bind (wpAny_mkText (wpAny_bind (wpAny_loadPart hd ?_)))))))
  show wpAny _ _ (if aRefKeyMayBeTheName name #[] = true then _ else updatePart s.heap.objs.size (some (Value.str name 0)) (Obj.putName name (PyData.keyHash w.params name) (.str name (s.toks + 1)) v)) _ _ _
  rw [if_neg (show ¬ (aRefKeyMayBeTheName name #[] = true) from Bool.false_ne_true)]
  refine wpAny_updatePart hd ?_
  have hput : Obj.putName name (PyData.keyHash w.params name) (.str name (s.toks + 1)) v { cls := Value.type "dict", data := Data.dict #[] } = { cls := .type "dict", data := .dict #[⟨PyData.keyHash w.params name, .str name (s.toks + 1), v⟩] 1 } := by
    rfl
  have hd3 := Heap.get?_update_self (Obj.putName name (PyData.keyHash w.params name) (.str name (s.toks + 1)) v) hd (by rw [hput]; rfl)
  rw [hput] at hd3
  refine wpAny_bind (wpAny_lookBehind hd3 (pastItsLine_dict (by show 1 ≤ sizeLine + 1; decide)) ?_)
  refine wpAny_pure ⟨_, rfl, wpAny_pure ?_⟩
  have hs3 := Heap.SameBut.update ((s.heap.push { cls := Value.type "dict", data := Data.dict #[] }).update f (fun o => { o with dict := some s.heap.objs.size })) s.heap.objs.size (Obj.putName name (PyData.keyHash w.params name) (.str name (s.toks + 1)) v)
  refine h _ ?_ hd3 fun b o hb e => ?_
  · exact (hs3.2 _ hne.symm).trans (Heap.get?_update_self _ hf1 rfl)
  · exact (hs3.2 _ (Nat.ne_of_lt (Heap.lt_size e))).trans ((hs2.2 _ hb).trans (Heap.get?_push_of_some _ e))
end
end Mine

end
/-! ## S2 -/
namespace Mine
section
variable {prog : Program} {w : World} {A A₀ : Around} {s : Shared} {K : Frag} {L : Addr} {h₀ base : Heap} {m mg mb : Str → Option Value} {news : List (Addr × Obj)} {p : Program} {loose : List Str} {mean : ExcName → Option Value}
/-- a lambda is entered, wherever it lies -/
theorem enter_lam {env : Env} {outer : List Env} {R : Result → Shared → Prop} {name qual : Str} {params : Arguments} {body : PySem.Expr} {scope : Scope} {cl : List (Str × Addr)} {pm ctv : Value} {c' : Addr} {f : Addr} {args : Args} {binds : List (Str × Value)}
    (B : Below A₀ base outer h₀) (F : Fr h₀ L s.heap m) (X₀ : K.In h₀) (N : News h₀ L s.heap news) (T : Top p loose mean mg mb h₀) (hA : A.frames = some (env :: outer)) (hf : env.frame = some L) (hke : env.scope.kind = .function)
    (ho : s.heap.get? f = some (kla_obj name qual params body scope cl pm c' ctv)) (hcd : s.heap.CodeRec (.ref c') qual) (hroom : A.depth < recursionLimit)
    (hbind : bindArgs (kla_fn name qual params body scope cl pm (.ref c') ctv) args = pure binds) (hloc : ∀ y ∈ binds, scope.names.lookup y.1 = some .local)
    (h : ∀ g L' h₁, (∀ b o, s.heap.get? b = some o → b ∉ news.map (·.1) → g.get? b = some o) → (∀ b o, g.get? b = some o → s.heap.get? b = some o) → Fr g L' h₁ (fun y => binds.reverse.lookup y) → News g L' h₁ news → Below A base (env :: outer) g → K.In g → Top p loose mean mg mb g →
      wpAny (model prog w) (A.deeper (envX qual scope L' f (.ref c') cl)) (eval body (envX qual scope L' f (.ref c') cl))
        (fun v s' => R (.ok (.ret v)) s')
        (fun e s' => wpAny (model prog w) (A.deeper (envX qual scope L' f (.ref c') cl)) (leaving (envX qual scope L' f (.ref c') cl) e) (fun _ s'' => R (.error e) s'') (fun e' s'' => R (.error e') s'') s')
        { s with heap := h₁, toks := s.toks + binds.length })
    (hco : scope.isCoroutine = false) (hgen : scope.isGenerator = false) (hk : scope.kind = .function)
    (hcell : ∀ x ∈ scope.names, x.2 ≠ .cell) : codeAny (model prog w) A (.call (.ref f) args) R s := by
  obtain ⟨FG, BG, st, lv⟩ := groundX (R := R) B F N hA hf hke
  refine kla_callFunE hroom ho rfl hco hgen rfl hcd ?_
  rw [hbind]
  refine wpAny_pure (wpAny_newFunctionEnv hcell hloc (fun h₁ hns hsb => ⟨((T.nolimit).keeps F.keep).fresh _ hsb, ?_⟩) hk)
  show codeAny _ _ (.expr body (envX qual scope s.heap.objs.size f (.ref c') cl)) _ _
  have hk₁ : ∀ b o, s.heap.get? b = some o → h₁.get? b = some o := fun b o e => hsb.extBut b o (Nat.ne_of_lt (Heap.lt_size e)) (Heap.get?_push_of_some _ e)
  exact kla_codeExpr (h _ s.heap.objs.size h₁ (fun b o e q => hideAll_get _ e q) (fun b o e => of_hideAll _ e) ⟨hns, fun b o e => hk₁ b o (of_hideAll _ e), Nat.le_of_eq (hideAll_size _ _)⟩
    (fun p hp => ⟨hk₁ _ _ (N p hp).1, Nat.ne_of_lt (Heap.lt_size (N p hp).1), hideAll_none _ (List.mem_map_of_mem hp)⟩) BG (X₀.keeps st) (T.keeps st))
end

section
variable {prog : Program} {w : World} {A : Around} {E : Value → Shared → Prop} {s : Shared} {h₀ : Heap} {L : Addr} {m : Str → Option Value} {news : List (Addr × Obj)}
noncomputable abbrev dict1 (w : World) (name : Str) (t : Tok) (v : Value) : Obj := { cls := .type "dict", data := .dict #[⟨PyData.keyHash w.params name, .str name t, v⟩] 1 }
theorem setattr_fnN {f : Addr} {fd : FuncData} {name : Str} {v : Value} {Q : Unit → Shared → Prop} {g : Obj → List (Addr × Obj)} (F : Fr h₀ L s.heap m) (N : News h₀ L s.heap news) (U : UpdF f (fnObj fd none) news g) (hn : typeLookup (.type "function") name = pure none)
    (h : ∀ d t h', Fr h₀ L h' m → News h₀ L h' ((d, dict1 w name t v) :: g (fnObj fd (some d))) → (∀ q ∈ news, q.1 < d) → Q () { s with heap := h', toks := s.toks + 2 }) :
    wpAny (model prog w) A (setAttr (.ref f) name v) Q E s := by
  obtain ⟨own, rest, rfl, hgr, h1, h2⟩ := U.split
  have hm := N (f, fnObj fd none) (List.mem_append_right _ (.head _))
  refine setattr_fn hm.1 hn fun h' hf hd hk => ?_
  have hLs : L < s.heap.objs.size := F.ns.lt
  have hfr : h₀.get? s.heap.objs.size = none := Heap.get?_none_of_le (Nat.le_trans F.above (Nat.le_of_lt hLs))
  refine h s.heap.objs.size (s.toks + 1) h' ⟨F.ns.at' fun o e => hk _ o hm.2.1.symm e, fun b o e => hk b o (fun q => by rw [q, hm.2.2] at e; cases e) (F.keep b o e), F.above⟩ (fun q hq => ?_) (fun q hq => Heap.lt_size (N q hq).1)
  rcases List.mem_cons.mp hq with rfl | hq
  · exact ⟨hd, Nat.ne_of_gt hLs, hfr⟩
  · rw [hgr] at hq
    rcases List.mem_append.mp hq with hq | hq
    · have n := N q (List.mem_append_left _ hq)
      exact ⟨hk _ _ (h1 q hq) n.1, n.2⟩
    · rcases List.mem_cons.mp hq with rfl | hq
      · exact ⟨hf, hm.2⟩
      · have n := N q (List.mem_append_right _ (.tail _ hq))
        exact ⟨hk _ _ (h2 q hq) n.1, n.2⟩
end
end Mine
theorem Mine.LN27 : True := by
  k_with "setAttr ref" => (k_here; (k_dflt (refine' Mine.setattr_fnN ?zqF ?zqN ?zqU ?zqn ?_; (case zqF => k_asm); (case zqN => k_asm); (case zqU => k_updF); (case zqn => first | exact Mine.span_look | exact Mine.search_look); k_whole)); intro _ _ _ _ N'z l1; (try dsimp only at N'z); (try k_lt l1))
  exact trivial

/-! ## L1 -/
theorem Mine.LN28 : True := by
  k_with "mine enterL" => (k_dflt (refine' Mine.enter_defC (news := [(76, tabObj _)]) ?zqk1 ?zqk2 ?zqk3 ?zqk4 ?zqk5 ?zqkA ?zqkF ?zqkK ?zqk6 ?zqk7 ?zqk8 ?zqk9 ?zqkB ?zqkD ?_ ?zqc2 ?zqc3 ?zqc4; (case zqkA => exact rfl); (case zqkF => exact rfl); (case zqkK => assumption); (case zqk1 => k_asm); (case zqk2 => k_asm); (case zqk3 => k_asm); (case zqk4 => k_asm); (case zqk5 => k_asm); (case zqk6 => k_is); (case zqk7 => k_is); (case zqk8 => ktr_room); (case zqk9 => first | exact BindsTo.of_eq rfl | exact binds_K (by k_in) rfl (by k_is) rfl rfl rfl); (case zqkB => exact rfl); (case zqkD => decide +kernel); (case zqc2 => exact rfl); (case zqc3 => exact rfl); (case zqc4 => exact rfl); k_whole; intro _ _ _ _ _ _ _ _ N'z Y'z _ _ _ l1; (try k_lt l1); k_cells Y'z; (try simp only [List.cons_append, List.nil_append] at N'z); (try dsimp only); (try k_fold)))
  exact trivial
theorem Mine.LN29 : True := by
  k_with "mine enterLam" => (k_dflt (refine' Mine.enter_lam (news := []) ?zqk1 ?zqk2 ?zqk3 ?zqk4 ?zqk5 ?zqkA ?zqkF ?zqkK ?zqk6 ?zqk7 ?zqk8 ?zqk9 ?zqkB ?_ ?zqc2 ?zqc3 ?zqc4 ?zqc5; (case zqkA => exact rfl); (case zqkF => exact rfl); (case zqkK => assumption); (case zqk1 => k_asm); (case zqk2 => k_asm); (case zqk3 => k_asm); (case zqk4 => exact News.nil); (case zqk5 => k_asm); (case zqk6 => assumption); (case zqk7 => assumption); (case zqk8 => ktr_room); (case zqk9 => exact rfl); (case zqc5 => decide); (case zqkB => exact locs rfl); (case zqc2 => exact rfl); (case zqc3 => exact rfl); (case zqc4 => exact rfl); k_whole; intro _ _ _ _ _ _ _ _ _ _; (try dsimp only); (try k_fold)))
  exact trivial
namespace Mine
theorem codeHd_at {h h' : Heap} {c P : Addr} (x : CodeHd h c P) (k : ∀ o, h.get? c = some o → h'.get? c = some o) : CodeHd h' c P :=
  let ⟨o, vs, file, tf, flags, tg, inF, text, tt, e, r⟩ := x; ⟨o, vs, file, tf, flags, tg, inF, text, tt, k _ e, r⟩
theorem codeHd_in {h₀ s g : Heap} {L c P : Addr} {m : Str → Option Value} {news : List (Addr × Obj)} (x : CodeHd h₀ c P) (F : Fr h₀ L s m) (kp : ∀ b o, s.get? b = some o → b ∉ news.map (·.1) → g.get? b = some o) (hc : c ∉ news.map (·.1)) : CodeHd g c P :=
  codeHd_at x fun o e => kp _ _ (F.keep _ _ e) hc

noncomputable abbrev KeepsBut (P : Addr) (h h' : Heap) : Prop := ∀ b o, b ≠ P → h.get? b = some o → h'.get? b = some o
noncomputable def lamQ : Str := (Str.ofString "_law_letter" ++ ".<locals>.") ++ "<lambda>"
noncomputable def CodeIs (oc : Obj) (q : Str) : Prop := ∃ vs t, oc.data = .fields vs ∧ vs[1]? = some (.str q t)
/-- the table of _law_letter's code: empty, or with its two lambdas -/
noncomputable def TabS (ps : Array Value) (tobjs : List (Addr × Obj)) : Prop :=
  (ps = #[] ∧ tobjs = []) ∨ ∃ a b oa ob, ps = #[rawInt 132, rawInt 10, .ref a, rawInt 133, rawInt 15, .ref b] ∧ tobjs = [(a, oa), (b, ob)] ∧ CodeIs oa lamQ ∧ CodeIs ob lamQ
noncomputable abbrev restOf (W : Str) (b : Int) : Str := Txt.lstripChars (Txt.slice W (some b) none) (Str.ofString "-")
noncomputable abbrev firstOf (W : Str) (b : Int) : Int := (W.length : Int) - ((restOf W b).length : Int)
/-- a call of g, wherever objs stand, gives the pair i, i + 1 -/
noncomputable def SpansO (prog : Program) (w : World) (p : Program) (loose : List Str) (mean : ExcName → Option Value) (mg mb : Str → Option Value) (objs : List (Addr × Obj)) (g : Addr) (i : Int) : Prop :=
  ∀ (dp un : Nat) (gd : Option (List Code)) (cn : Str) (cs : Scope) (a : Addr) (ccd : Value) (cl : List (Str × Addr)) (outer : List Env) (A₀ : Around) (base h₀ : Heap) (L : Addr) (m : Str → Option Value) (s : Shared) (Q E : Value → Shared → Prop),
    (∀ q ∈ objs, s.heap.get? q.1 = some q.2) → Below A₀ base outer h₀ → Fr h₀ L s.heap m → (Mine.hd.heap_39 w.params).In h₀ → Top p loose mean mg mb h₀ → cs.kind = .function → dp + 1 < recursionLimit →
    (∀ a t1 t2 h' tk', Keeps s.heap h' → s.heap.get? a = none → IsTup h' a #[.int i t1, .int (i + 1) t2] → Q (.ref a) { s with heap := h', toks := tk' }) →
    wpAny (model prog w) (ktrTop dp un gd cn cs L a ccd cl outer) (call (.ref g) []) Q E s
noncomputable def HitO (prog : Program) (w : World) (p : Program) (loose : List Str) (mean : ExcName → Option Value) (mg mb : Str → Option Value) (objs : List (Addr × Obj)) (f : Addr) (i : Int) : Prop :=
  ∃ fd d g t gd, (f, fnObj fd (some d)) ∈ objs ∧ (d, dict1 w (Str.ofString "span") t (.ref g)) ∈ objs ∧ (g, fnObj gd none) ∈ objs ∧ SpansO prog w p loose mean mg mb objs g i
theorem ld_free {M : Model} {A : Around} {E : Value → Shared → Prop} {s : Shared} {h₀ : Heap} {L a C : Addr} {m : Str → Option Value} {cn x : Str} {cs : Scope} {ccd : Value} {cl : List (Str × Addr)} {pos : Pos} {v : Value} {o : Obj} {Q : Value → Shared → Prop}
    (F : Fr h₀ L s.heap m) (hc : cl.lookup x = some C) (hg : h₀.get? C = some o) (hd : o.data = .cell (some v)) (h : Q v s) (hk : (envX cn cs L a ccd cl).scope.kind = .function) (hx : (envX cn cs L a ccd cl).kindOf x = some .free)
    (hb : (x == ("__debug__" : Str)) = false := by decide) (hn : (x == ("__classdict__" : Str)) = false := by decide) :
    wpAny M A (eval (.Name x pos) (envX cn cs L a ccd cl)) Q E s := wpAny_Name (wpAny_loadName_free hk hx hc ⟨o, F.keep _ _ hg, hd⟩ h hn) hb
noncomputable abbrev osOf (news : List (Addr × Obj)) (tobjs : List (Addr × Obj)) : List (Addr × Obj) := news.filter (fun q => q.1 != 76) ++ tobjs
theorem mem_os {news tobjs : List (Addr × Obj)} {q : Addr × Obj} (hm : q ∈ news) (hn : @Ne Nat q.1 76) : q ∈ osOf news tobjs := List.mem_append_left _ (List.mem_filter.mpr ⟨hm, by simpa using hn⟩)
theorem mem_os2 {news tobjs : List (Addr × Obj)} {q : Addr × Obj} (hm : q ∈ tobjs) : q ∈ osOf news tobjs := List.mem_append_right _ hm
theorem spans_intro {prog : Program} {w : World} {p : Program} {loose : List Str} {mean : ExcName → Option Value} {mg mb : Str → Option Value} {OS : List (Addr × Obj)} {g C c' : Addr} {name qual : Str} {params : Arguments} {body : PySem.Expr} {scope : Scope} {cl : List (Str × Addr)} {pm ctv : Value} {oc o : Obj} {i : Int} {t : Tok}
    (hg : (g, kla_obj name qual params body scope cl pm c' ctv) ∈ OS) (hc : (c', oc) ∈ OS) (hci : CodeIs oc qual) (hcl : cl.lookup (Str.ofString "first") = some C) (hcell : (C, o) ∈ OS) (hd : o.data = .cell (some (.int i t)))
    (walk : ∀ (dp un : Nat) (gd : Option (List Code)) (cn : Str) (cs : Scope) (a : Addr) (ccd : Value) (cl' : List (Str × Addr)) (outer : List Env) (A₀ : Around) (base h₀ : Heap) (L : Addr) (m : Str → Option Value) (s : Shared) (Q E : Value → Shared → Prop),
      s.heap.get? g = some (kla_obj name qual params body scope cl pm c' ctv) → s.heap.CodeRec (.ref c') qual → s.heap.get? C = some o → o.data = .cell (some (.int i t)) → Below A₀ base outer h₀ → Fr h₀ L s.heap m → (Mine.hd.heap_39 w.params).In h₀ → Top p loose mean mg mb h₀ → cs.kind = .function → dp + 1 < recursionLimit →
      (∀ a t1 t2 h' tk', Keeps s.heap h' → s.heap.get? a = none → IsTup h' a #[.int i t1, .int (i + 1) t2] → Q (.ref a) { s with heap := h', toks := tk' }) →
      wpAny (model prog w) (ktrTop dp un gd cn cs L a ccd cl' outer) (call (.ref g) []) Q E s) :
    SpansO prog w p loose mean mg mb OS g i := fun dp un gd cn cs a ccd cl' outer A₀ base h₀ L m s Q E hobjs B F X T hk hdp hret => by
  obtain ⟨vs, tv, h1, h2⟩ := hci
  exact walk dp un gd cn cs a ccd cl' outer A₀ base h₀ L m s Q E (hobjs _ hg) ⟨c', oc, vs, tv, rfl, hobjs _ hc, h1, h2⟩ (hobjs _ hcell) hd B F X T hk hdp hret
theorem letter_end {prog : Program} {w : World} {p : Program} {loose : List Str} {mean : ExcName → Option Value} {mg mb : Str → Option Value} {g h' : Heap} {L' f a b : Addr} {oa ob : Obj} {m' : Str → Option Value} {s : Shared} {Q : Value → Shared → Prop} {i : Int} {ps ps' : Array Value} {tobjs news' : List (Addr × Obj)} {tk' : Nat}
    (hhit : ∀ f ps' tobjs' (osN objs : List (Addr × Obj)) h' tk', KeepsBut 76 s.heap h' → h'.get? 76 = some (tabObj ps') → TabS ps' tobjs' → (∀ q ∈ osN, h'.get? q.1 = some q.2 ∧ s.heap.get? q.1 = none) → (∀ q ∈ tobjs', q ∈ osN ∨ q ∈ tobjs) → (∀ q ∈ objs, q ∈ osN ∨ q ∈ tobjs) →
      HitO prog w p loose mean mg mb objs f i → Q (.ref f) { s with heap := h', toks := tk' })
    (kp : ∀ b o, s.heap.get? b = some o → b ∉ ([(76, tabObj ps)] : List (Addr × Obj)).map (·.1) → g.get? b = some o)
    (F' : Fr g L' h' m') (N' : News g L' h' news') (ht : (76, tabObj ps') ∈ news') (hps : ps' = #[rawInt 132, rawInt 10, .ref a, rawInt 133, rawInt 15, .ref b]) (hma : (a, oa) ∈ osOf news' tobjs) (hmb : (b, ob) ∈ osOf news' tobjs) (hca : CodeIs oa lamQ) (hcb : CodeIs ob lamQ) (hH : HitO prog w p loose mean mg mb (osOf news' tobjs) f i) : Q (.ref f) { s with heap := h', toks := tk' } := by
  have kp' : ∀ b o, b ≠ 76 → s.heap.get? b = some o → g.get? b = some o := fun b o hb e => kp b o e (by simpa using hb)
  have htm : ∀ q ∈ [(a, oa), (b, ob)], q ∈ osOf news' tobjs := fun q hq => by
    rcases List.mem_cons.mp hq with rfl | hq
    · exact hma
    · rw [List.mem_singleton.mp hq]; exact hmb
  refine hhit f ps' [(a, oa), (b, ob)] (news'.filter (fun q => q.1 != 76)) _ h' tk' (fun b o hb e => F'.keep b o (kp' b o hb e)) (N' _ ht).1 (.inr ⟨a, b, oa, ob, hps, rfl, hca, hcb⟩) (fun q hq => ?_) (fun q hq => List.mem_append.mp (htm q hq)) (fun q hq => List.mem_append.mp hq) hH
  obtain ⟨h1, h2⟩ := List.mem_filter.mp hq
  refine ⟨(N' q h1).1, ?_⟩
  cases e : s.heap.get? q.1 with
  | none => rfl
  | some o => have := (N' q h1).2.2; rw [kp' _ _ (by simpa using h2) e] at this; cases this
theorem tup_end {g h' : Heap} {L' a : Addr} {x y : Value} {news : List (Addr × Obj)} (N : News g L' h' ((a, tup2 x y) :: news)) : IsTup h' a #[x, y] := ⟨_, (N _ (.head _)).1, rfl, _, rfl⟩
end Mine
theorem Mine.LN30 : True := by
  k_with "eval Name" => (k_here; (with_reducible show wpAny _ _ (eval (Expr.Name (Str.ofString "first") _) (envX _ _ _ _ _ _)) _ _ _); k_dflt (refine' Mine.ld_free ?zqF ?zqc ?zqg ?zqd ?_ ?zqa ?zqb; (case zqa => rfl); (case zqb => rfl); (case zqF => k_asm); (case zqc => rfl); (case zqg => assumption); (case zqd => assumption); k_whole))
  exact trivial
namespace Mine
set_option maxRecDepth 100000 in
set_option maxHeartbeats 4000000 in
theorem letter_gives {prog : Program} {w : World} {p : Program} {loose : List Str} {mean : ExcName → Option Value} {mg mb : Str → Option Value} {dp un : Nat} {gd : Option (List Code)} {cn : Str} {cs : Scope} {a : Addr} {ccd : Value} {cl : List (Str × Addr)} {outer : List Env} {A₀ : Around} {base h₀ : Heap} {L : Addr} {m : Str → Option Value} {s : Shared} {Q E : Value → Shared → Prop}
    {W : Str} {b : Int} {t u : Tok} {ps : Array Value} {tobjs : List (Addr × Obj)}
    (B : Below A₀ base outer h₀) (F : Fr h₀ L s.heap m) (X : (Mine.hd.heap_39 w.params).In h₀) (T : Top p loose mean mg mb h₀) (hk : cs.kind = .function) (hdp : dp + 3 < recursionLimit) (CH : CodeHd h₀ 80 76)
    (N : News h₀ L s.heap [(76, tabObj ps)]) (hT : TabS ps tobjs) (hto : ∀ q ∈ tobjs, s.heap.get? q.1 = some q.2 ∧ q.1 ≠ 76) (hW : W.length = 144) (hb0 : 0 ≤ b) (hb1 : b ≤ 145)
    (hnone : (restOf W b == Str.ofString "") = true → ∀ h' tk', Keeps s.heap h' → Q .none { s with heap := h', toks := tk' })
    (hhit : (restOf W b == Str.ofString "") = false → ∀ f ps' tobjs' (osN objs : List (Addr × Obj)) h' tk', KeepsBut 76 s.heap h' → h'.get? 76 = some (tabObj ps') → TabS ps' tobjs' → (∀ q ∈ osN, h'.get? q.1 = some q.2 ∧ s.heap.get? q.1 = none) → (∀ q ∈ tobjs', q ∈ osN ∨ q ∈ tobjs) → (∀ q ∈ objs, q ∈ osN ∨ q ∈ tobjs) →
      HitO prog w p loose mean mg mb objs f (firstOf W b) → Q (.ref f) { s with heap := h', toks := tk' }) :
    wpAny (model prog w) (ktrTop dp un gd cn cs L a ccd cl outer) (call (.ref 81) [.str W t, .int b u]) Q E s := by
  show Seen Mine.hd.heap_39 Challenge.rw_mr0158_01 _
  k_fill
  unfold Seen
  rcases hT with ⟨rfl, rfl⟩ | ⟨ca, cb, oa, ob, rfl, rfl, hoa, hob⟩
  · refine wpAny_call ?_
    walk_at "mine enterL"
    have CH' := codeHd_in CH F (by assumption) (by simp)
    clear CH
    k_steps
    · exact hnone (by assumption) _ _ (keeps_end N (by assumption) (by assumption) (by assumption) (fun q hq => by rw [List.mem_singleton.mp hq]; k_mem))
    · refine letter_end (hhit (by assumption)) (by assumption) (by assumption) (by assumption) (by k_mem) rfl (mem_os (by k_mem) (by k_ne)) (mem_os (by k_mem) (by k_ne)) ⟨_, _, by assumption, by assumption⟩ ⟨_, _, by assumption, by assumption⟩ ?_
      refine ⟨_, _, _, _, _, mem_os (by k_mem) (by k_ne), mem_os (by k_mem) (by k_ne), mem_os (by k_mem) (by k_ne), ?_⟩
      refine spans_intro (mem_os (by k_mem) (by k_ne)) (mem_os (by k_mem) (by k_ne)) ⟨_, _, by assumption, by assumption⟩ rfl (mem_os (by k_mem) (by k_ne)) (by assumption) ?_
      clear hnone hhit hto N F B X T
      intro dp un gd cn cs a ccd cl' outer A₀ base h₀ L m s Q E ho hcd hC hd B F X T hk hdp hret
      refine wpAny_call ?_
      walk_at "mine enterLam"
      have hC' := (by assumption : ∀ b o, s.heap.get? b = some o → b ∉ ([] : List (Addr × Obj)).map (·.1) → _) _ _ hC (by simp)
      k_steps
      exact hret _ _ _ _ _ (keeps_end0 (by assumption) (by assumption)) (fresh_end (by assumption) (by assumption) (List.Mem.head _)) (tup_end (by assumption))
  · refine wpAny_call ?_
    walk_at "mine enterL"
    have CH' := codeHd_in CH F (by assumption) (by simp)
    clear CH
    k_steps
    · exact hnone (by assumption) _ _ (keeps_end N (by assumption) (by assumption) (by assumption) (fun q hq => by rw [List.mem_singleton.mp hq]; k_mem))
    · refine letter_end (hhit (by assumption)) (by assumption) (by assumption) (by assumption) (by k_mem) rfl (mem_os2 (by k_mem)) (mem_os2 (by k_mem)) (by assumption) (by assumption) ?_
      refine ⟨_, _, _, _, _, mem_os (by k_mem) (by k_ne), mem_os (by k_mem) (by k_ne), mem_os (by k_mem) (by k_ne), ?_⟩
      refine spans_intro (mem_os (by k_mem) (by k_ne)) (mem_os2 (by k_mem)) (by assumption) rfl (mem_os (by k_mem) (by k_ne)) (by assumption) ?_
      clear hnone hhit hto N F B X T
      intro dp un gd cn cs a ccd cl' outer A₀ base h₀ L m s Q E ho hcd hC hd B F X T hk hdp hret
      refine wpAny_call ?_
      walk_at "mine enterLam"
      have hC' := (by assumption : ∀ b o, s.heap.get? b = some o → b ∉ ([] : List (Addr × Obj)).map (·.1) → _) _ _ hC (by simp)
      k_steps
      exact hret _ _ _ _ _ (keeps_end0 (by assumption) (by assumption)) (fresh_end (by assumption) (by assumption) (List.Mem.head _)) (tup_end (by assumption))
end Mine

/-! ## S3 -/
section
open PySem.Builtin PySem.Builtin.ObjectAttr
set_option maxRecDepth 100000
namespace Mine
theorem fn_getattribute : typeLookup (.type "function") (Str.ofString "__getattribute__") = pure (some (.builtin "object.__getattribute__")) := by rw [typeLookup_type, builtinLookup_eq_fast]; kernel_rfl
theorem fn_getattr : typeLookup (.type "function") (Str.ofString "__getattr__") = pure none := by rw [typeLookup_type, builtinLookup_eq_fast]; kernel_rfl
theorem slot_fn_getattribute : Slot "function" "__getattribute__" "object.__getattribute__" := .of (owner := "object") (n := "__getattribute__") (by rw [typeLookup_type, builtinLookup_eq_fast]; kernel_rfl) (by decide +kernel) (by decide +kernel) (by decide +kernel)
    (by first | exact .inl (by decide +kernel) | exact .inr (by decide +kernel)) (by rw [isSubtype_type]; kernel_rfl)
theorem entry_getattribute : entryFor table "object.__getattribute__" = some Builtin.«object.__getattribute__» := entryFor_of_tree (by kernel_rfl)
theorem args_getattribute (a b : Value) : argsOk "object.__getattribute__" ⟨[a, b], []⟩ := by unfold argsOk; kernel_rfl
section
variable {prog : Program} {w : World} {A : Around} {E : Value → Shared → Prop} {s : Shared}
theorem getattr_fn {f d : Addr} {fd : FuncData} {name : Str} {t : Tok} {g : Addr} {expr : Bool} {Q : Value → Shared → Prop} (hf : s.heap.get? f = some (fnObj fd (some d))) (hd : s.heap.get? d = some (dict1 w name t (.ref g))) (hn : typeLookup (.type "function") name = pure none)
    (hl : nsLook name (dict1 w name t (.ref g)) = pure (some (.ref g)))
    (h : Q (.ref g) { s with toks := s.toks + 1 }) : wpAny (model prog w) A (getAttr (.ref f) name expr) Q E s := by
  have hT : ∀ tk : Nat, Shared.TypeIs { s with toks := tk } (.ref f) "function" := fun tk => ⟨_, hf, rfl⟩
  unfold getAttr getAttrBy
  refine wpAny_bind (wpAny_mkText (wpAny_holding (wpAny_bind (wpAny_typeOf (hT _) (wpAny_bind (wpAny_of_eq fn_getattribute ?_))))))
  show wpAny _ _ (getAttrByItsOwn _ _ _ _ _ _) _ _ _
  unfold getAttrByItsOwn
  refine wpAny_bind (wpAny_of_eq (a := none) rfl (wpAny_bind (wpAny_attempt (wpAny_holding ?_))))
  have hcg : callGetattribute (.ref f) (.str name s.toks) (.builtin "object.__getattribute__") expr = boundAndCalled (.builtin "object.__getattribute__") (.ref f) (.str name s.toks) := by
    unfold callGetattribute
    cases expr <;> rfl
  rw [hcg]
  unfold boundAndCalled
  refine wpAny_bind (wpAny_of_eq (slot_fn_getattribute.bind _) ?_)
  show wpAny _ _ (call (.builtin "object.__getattribute__") [.ref f, .str name s.toks]) _ _ _
  refine wpAny_call_entry slot_fn_getattribute (hT _) entry_getattribute ?_ (args_getattribute _ _)
  show wpAny _ _ (slotArgs "__getattribute__" 1 _ >>= _) _ _ _
  refine wpAny_bind (wpAny_of_eq (a := (Value.ref f, [.str name s.toks])) rfl ?_)
  show wpAny _ _ (attrName (.str name s.toks) >>= _) _ _ _
  refine wpAny_bind (wpAny_of_eq (a := name) rfl (wpAny_bind (wpAny_typeOf (hT _) (wpAny_bind ?_))))
  unfold find
  refine wpAny_bind (wpAny_of_eq hn (wpAny_bind (wpAny_of_eq (a := none) rfl (wpAny_bind (wpAny_of_eq (a := none) rfl ?_)))))
  show wpAny _ _ (ownThenClass (.ref f) name none none) _ _ _
  unfold ownThenClass
  refine wpAny_bind ?_
  show wpAny _ _ (ObjectAttr.ownDict f >>= fun d => inDict name d) _ _ _
  refine wpAny_bind ?_
  unfold ObjectAttr.ownDict
  show wpAny _ _ (loadHead f >>= _) _ _ _
  refine wpAny_bind ?_
  unfold loadHead
  refine wpAny_loadPart hf ?_
  show wpAny _ _ (instanceDict f false) _ _ _
  unfold instanceDict
  refine wpAny_bind (wpAny_loadPart hf ?_)
  show wpAny _ _ (pure (some d)) _ _ _
  refine wpAny_pure ?_
  show wpAny _ _ (nsGet d name) _ _ _
  unfold nsGet
  refine wpAny_bind (wpAny_loadPart hd ?_)
  refine wpAny_of_eq hl ?_
  refine wpAny_bind (wpAny_rule (wpAny_pure ?_))
  refine wpAny_pure ⟨_, rfl, wpAny_pure h⟩
theorem span_ns (w : World) (t : Tok) (g : Addr) : nsLook (Str.ofString "span") (dict1 w (Str.ofString "span") t (.ref g)) = pure (some (.ref g)) := by kernel_rfl
theorem search_ns (w : World) (t : Tok) (g : Addr) : nsLook (Str.ofString "search") (dict1 w (Str.ofString "search") t (.ref g)) = pure (some (.ref g)) := by kernel_rfl
theorem method_fnobj {f d : Addr} {fd : FuncData} {name : Str} {t : Tok} {g : Addr} {pl : Sem Bool} {Q : Value × List Value → Shared → Prop} (hf : s.heap.get? f = some (fnObj fd (some d))) (hd : s.heap.get? d = some (dict1 w name t (.ref g))) (hn : typeLookup (.type "function") name = pure none)
    (hl : nsLook name (dict1 w name t (.ref g)) = pure (some (.ref g)))
    (h : Q (.ref g, []) { s with toks := s.toks + 1 }) : wpAny (model prog w) A (getMethod (.ref f) name pl) Q E s := by
  have hT : s.TypeIs (.ref f) "function" := ⟨_, hf, rfl⟩
  unfold getMethod
  refine wpAny_bind ?_
  unfold specialOf
  refine wpAny_bind (wpAny_typeOf hT (wpAny_of_eq fn_getattribute ?_))
  show wpAny _ _ (if (Manifest.canonical "object.__getattribute__" != "object.__getattribute__") = true then _ else _) _ _ _
  rw [if_neg (by decide +kernel)]
  refine wpAny_bind (wpAny_bind (wpAny_typeOf hT (wpAny_of_eq fn_getattr ?_)))
  show wpAny _ _ (if (none : Option Value).isSome = true then _ else _) _ _ _
  rw [if_neg (by decide)]
  refine wpAny_bind (wpAny_bind (wpAny_typeOf hT (wpAny_of_eq hn ?_)))
  show wpAny _ _ (getAttr (.ref f) name >>= fun v => pure (v, [])) _ _ _
  exact wpAny_bind (getattr_fn hf hd hn hl (wpAny_pure h))
end
end Mine

end
/-! ## L2 -/
namespace Mine
section
variable {prog : Program} {w : World} {A : Around} {E : Value → Shared → Prop} {s : Shared}
theorem fn_bool : typeLookup (.type "function") (Str.ofString "__bool__") = pure none := by rw [typeLookup_type, builtinLookup_eq_fast]; kernel_rfl
theorem fn_len : typeLookup (.type "function") (Str.ofString "__len__") = pure none := by rw [typeLookup_type, builtinLookup_eq_fast]; kernel_rfl
theorem truthy_fn {f : Addr} {fd : FuncData} {dd : Option Addr} {Q : Bool → Shared → Prop} (hf : s.heap.get? f = some (fnObj fd dd)) (h : Q true s) : wpAny (model prog w) A (truthy (.ref f)) Q E s := by
  have hT : s.TypeIs (.ref f) "function" := ⟨_, hf, rfl⟩
  unfold truthy
  refine wpAny_bind ?_
  unfold callSpecial? specialOf
  refine wpAny_bind (wpAny_bind (wpAny_typeOf hT (wpAny_of_eq fn_bool ?_)))
  refine wpAny_pure ?_
  refine wpAny_bind (wpAny_bind (wpAny_typeOf hT (wpAny_of_eq fn_len ?_)))
  exact wpAny_pure h
end
set_option maxRecDepth 100000 in
set_option maxHeartbeats 4000000 in
theorem letter_gives0 {prog : Program} {w : World} {p : Program} {loose : List Str} {mean : ExcName → Option Value} {mg mb : Str → Option Value} {dp un : Nat} {gd : Option (List Code)} {cn : Str} {cs : Scope} {a : Addr} {ccd : Value} {cl : List (Str × Addr)} {outer : List Env} {A₀ : Around} {base h₀ : Heap} {L : Addr} {m : Str → Option Value} {s : Shared} {Q E : Value → Shared → Prop}
    {W : Str} {t : Tok} {ps : Array Value} {tobjs : List (Addr × Obj)}
    (B : Below A₀ base outer h₀) (F : Fr h₀ L s.heap m) (X : (Mine.hd.heap_39 w.params).In h₀) (T : Top p loose mean mg mb h₀) (hk : cs.kind = .function) (hdp : dp + 3 < recursionLimit) (CH : CodeHd h₀ 80 76)
    (N : News h₀ L s.heap [(76, tabObj ps)]) (hT : TabS ps tobjs) (hto : ∀ q ∈ tobjs, s.heap.get? q.1 = some q.2 ∧ q.1 ≠ 76) (hW : W.length = 144)
    (hnone : (restOf W 0 == Str.ofString "") = true → ∀ h' tk', Keeps s.heap h' → Q .none { s with heap := h', toks := tk' })
    (hhit : (restOf W 0 == Str.ofString "") = false → ∀ f ps' tobjs' (osN objs : List (Addr × Obj)) h' tk', KeepsBut 76 s.heap h' → h'.get? 76 = some (tabObj ps') → TabS ps' tobjs' → (∀ q ∈ osN, h'.get? q.1 = some q.2 ∧ s.heap.get? q.1 = none) → (∀ q ∈ tobjs', q ∈ osN ∨ q ∈ tobjs) → (∀ q ∈ objs, q ∈ osN ∨ q ∈ tobjs) →
      HitO prog w p loose mean mg mb objs f (firstOf W 0) → Q (.ref f) { s with heap := h', toks := tk' }) :
    wpAny (model prog w) (ktrTop dp un gd cn cs L a ccd cl outer) (call (.ref 81) [.str W t]) Q E s := by
  show Seen Mine.hd.heap_39 Challenge.rw_mr0158_01 _
  k_fill
  unfold Seen
  rcases hT with ⟨rfl, rfl⟩ | ⟨ca, cb, oa, ob, rfl, rfl, hoa, hob⟩
  · refine wpAny_call ?_
    walk_at "mine enterL"
    have CH' := codeHd_in CH F (by assumption) (by simp)
    clear CH
    k_steps
    · exact hnone (by assumption) _ _ (keeps_end N (by assumption) (by assumption) (by assumption) (fun q hq => by rw [List.mem_singleton.mp hq]; k_mem))
    · refine letter_end (hhit (by assumption)) (by assumption) (by assumption) (by assumption) (by k_mem) rfl (mem_os (by k_mem) (by k_ne)) (mem_os (by k_mem) (by k_ne)) ⟨_, _, by assumption, by assumption⟩ ⟨_, _, by assumption, by assumption⟩ ?_
      refine ⟨_, _, _, _, _, mem_os (by k_mem) (by k_ne), mem_os (by k_mem) (by k_ne), mem_os (by k_mem) (by k_ne), ?_⟩
      refine spans_intro (mem_os (by k_mem) (by k_ne)) (mem_os (by k_mem) (by k_ne)) ⟨_, _, by assumption, by assumption⟩ rfl (mem_os (by k_mem) (by k_ne)) (by assumption) ?_
      clear hnone hhit hto N F B X T
      intro dp un gd cn cs a ccd cl' outer A₀ base h₀ L m s Q E ho hcd hC hd B F X T hk hdp hret
      refine wpAny_call ?_
      walk_at "mine enterLam"
      have hC' := (by assumption : ∀ b o, s.heap.get? b = some o → b ∉ ([] : List (Addr × Obj)).map (·.1) → _) _ _ hC (by simp)
      k_steps
      exact hret _ _ _ _ _ (keeps_end0 (by assumption) (by assumption)) (fresh_end (by assumption) (by assumption) (List.Mem.head _)) (tup_end (by assumption))
  · refine wpAny_call ?_
    walk_at "mine enterL"
    have CH' := codeHd_in CH F (by assumption) (by simp)
    clear CH
    k_steps
    · exact hnone (by assumption) _ _ (keeps_end N (by assumption) (by assumption) (by assumption) (fun q hq => by rw [List.mem_singleton.mp hq]; k_mem))
    · refine letter_end (hhit (by assumption)) (by assumption) (by assumption) (by assumption) (by k_mem) rfl (mem_os2 (by k_mem)) (mem_os2 (by k_mem)) (by assumption) (by assumption) ?_
      refine ⟨_, _, _, _, _, mem_os (by k_mem) (by k_ne), mem_os (by k_mem) (by k_ne), mem_os (by k_mem) (by k_ne), ?_⟩
      refine spans_intro (mem_os (by k_mem) (by k_ne)) (mem_os2 (by k_mem)) (by assumption) rfl (mem_os (by k_mem) (by k_ne)) (by assumption) ?_
      clear hnone hhit hto N F B X T
      intro dp un gd cn cs a ccd cl' outer A₀ base h₀ L m s Q E ho hcd hC hd B F X T hk hdp hret
      refine wpAny_call ?_
      walk_at "mine enterLam"
      have hC' := (by assumption : ∀ b o, s.heap.get? b = some o → b ∉ ([] : List (Addr × Obj)).map (·.1) → _) _ _ hC (by simp)
      k_steps
      exact hret _ _ _ _ _ (keeps_end0 (by assumption) (by assumption)) (fresh_end (by assumption) (by assumption) (List.Mem.head _)) (tup_end (by assumption))
end Mine

/-! ## P1 -/
namespace Mine
/-! the next letter of a text of codes -/
noncomputable def nxt (cs : List Nat) (b : Nat) : List Nat := (cs.drop b).dropWhile (fun c => c == 45)
theorem dropWhile_facts (p : Nat → Bool) : ∀ (l : List Nat), ∃ n, l.dropWhile p = l.drop n ∧ n ≤ l.length ∧ (∀ k, k < n → ∃ c, l[k]? = some c ∧ p c = true) ∧ (n < l.length → ∃ c, l[n]? = some c ∧ p c = false)
  | [] => ⟨0, rfl, Nat.le_refl _, fun k h => absurd h (Nat.not_lt_zero _), fun h => absurd h (Nat.lt_irrefl _)⟩
  | a :: r => by
    by_cases h : p a = true
    · obtain ⟨n, e, h1, h2, h3⟩ := dropWhile_facts p r
      refine ⟨n + 1, ?_, by simp; omega, fun k hk => ?_, fun hn => ?_⟩
      · rw [List.dropWhile_cons, if_pos h, e]; rfl
      · cases k with
        | zero => exact ⟨a, rfl, h⟩
        | succ k => obtain ⟨c, q, q'⟩ := h2 k (by omega); exact ⟨c, by simpa using q, q'⟩
      · obtain ⟨c, q, q'⟩ := h3 (by simp at hn; omega); exact ⟨c, by simpa using q, q'⟩
    · refine ⟨0, ?_, Nat.zero_le _, fun k hk => absurd hk (Nat.not_lt_zero _), fun _ => ⟨a, rfl, by simpa using h⟩⟩
      rw [List.dropWhile_cons, if_neg h]; rfl
/-- what nxt says -/
theorem nxt_facts (cs : List Nat) (b : Nat) (hb : b ≤ cs.length) : ∃ n, b ≤ n ∧ n ≤ cs.length ∧ (nxt cs b).length = cs.length - n ∧ (∀ k, b ≤ k → k < n → cs[k]? = some 45) ∧ (n < cs.length → ∃ c, cs[n]? = some c ∧ c ≠ 45) := by
  obtain ⟨n, e, h1, h2, h3⟩ := dropWhile_facts (fun c => c == 45) (cs.drop b)
  rw [List.length_drop] at h1 h3
  refine ⟨b + n, by omega, by omega, ?_, fun k hk hkn => ?_, fun hn => ?_⟩
  · unfold nxt; rw [e, List.drop_drop, List.length_drop]
  · obtain ⟨c, q, q'⟩ := h2 (k - b) (by omega)
    rw [List.getElem?_drop, show b + (k - b) = k by omega] at q
    rw [q]; simp at q'; rw [q']
  · obtain ⟨c, q, q'⟩ := h3 (by omega)
    rw [List.getElem?_drop] at q
    exact ⟨c, q, by simpa using q'⟩
theorem drop_take_while (p : Nat → Bool) : ∀ l : List Nat, l.drop (l.takeWhile p).length = l.dropWhile p
  | [] => rfl
  | a :: r => by
    by_cases h : p a = true
    · rw [List.takeWhile_cons, if_pos h, List.dropWhile_cons, if_pos h, List.length_cons, List.drop_succ_cons, drop_take_while p r]
    · rw [List.takeWhile_cons, if_neg h, List.dropWhile_cons, if_neg h]; rfl
theorem lstrip_is (l : List Nat) : Txt.lstripChars ⟨l.toArray⟩ (Str.ofString "-") = ⟨(l.dropWhile (fun c => c == 45)).toArray⟩ := by
  have e : (Str.ofString "-").cps.contains = fun c => c == 45 := by
    have e1 : (Str.ofString "-").cps = #[45] := by decide +kernel
    rw [e1]
    funext c
    exact Bool.eq_iff_iff.mpr (by simp)
  unfold Txt.lstripChars
  rw [PyProof.Rows.stripBy_eq, e]
  show (⟨l.toArray.extract (l.takeWhile (fun c => c == 45)).length l.toArray.size⟩ : Str) = _
  congr 1
  apply Array.toList_inj.mp
  rw [Array.toList_extract]
  show List.take _ (List.drop _ l) = _
  rw [List.take_of_length_le (by rw [List.length_drop, List.size_toArray]; omega), drop_take_while]
theorem rest_is (cs : List Nat) (b : Int) (h0 : 0 ≤ b) (h1 : b ≤ cs.length) : restOf ⟨cs.toArray⟩ b = ⟨(nxt cs b.toNat).toArray⟩ := by
  have hs : Txt.slice (⟨cs.toArray⟩ : Str) (some b) none = ⟨(cs.drop b.toNat).toArray⟩ := by
    rw [slice_from_eq (x := ⟨cs.toArray⟩) (b := cs.length) h0 (by show b ≤ ((cs.toArray.size : Nat) : Int); rw [List.size_toArray]; exact h1) (by show _ = ((cs.toArray.size : Nat) : Int); rw [List.size_toArray])]
    congr 2
    show List.take _ (List.drop _ cs) = _
    exact List.take_of_length_le (by rw [List.length_drop]; omega)
  unfold restOf
  rw [hs, lstrip_is]
  rfl
theorem rest_nil {cs : List Nat} {b : Int} (h0 : 0 ≤ b) (h1 : b ≤ cs.length) : (restOf ⟨cs.toArray⟩ b == Str.ofString "") = decide ((nxt cs b.toNat).length = 0) := by
  rw [rest_is cs b h0 h1]
  have e : Str.ofString "" = (⟨#[]⟩ : Str) := by decide +kernel
  rw [e]
  cases h : nxt cs b.toNat with
  | nil => rfl
  | cons a r =>
    have : ((⟨(a :: r).toArray⟩ : Str) == ⟨#[]⟩) = false := by
      apply beq_eq_false_iff_ne.mpr
      intro q
      have := congrArg (fun x : Str => x.cps.size) q
      simp at this
    rw [this]; simp
theorem first_is {cs : List Nat} {b : Int} (h0 : 0 ≤ b) (h1 : b ≤ cs.length) : firstOf ⟨cs.toArray⟩ b = (cs.length : Int) - ((nxt cs b.toNat).length : Int) := by
  unfold firstOf
  rw [rest_is cs b h0 h1]
  show ((cs.toArray.size : Nat) : Int) - (((nxt cs b.toNat).toArray.size : Nat) : Int) = _
  rw [List.size_toArray, List.size_toArray]
/-- the letter's place at or behind b, or none -/
theorem letter_none {cs : List Nat} {b : Int} (h0 : 0 ≤ b) (h1 : b ≤ cs.length) (h : (restOf ⟨cs.toArray⟩ b == Str.ofString "") = true) : ∀ k : Nat, b ≤ k → k < cs.length → cs[k]? = some 45 := by
  rw [rest_nil h0 h1] at h
  have h := of_decide_eq_true h
  obtain ⟨n, a1, a2, a3, a4, a5⟩ := nxt_facts cs b.toNat (by omega)
  intro k hk hkl
  exact a4 k (by omega) (by omega)
theorem letter_some {cs : List Nat} {b : Int} (h0 : 0 ≤ b) (h1 : b ≤ cs.length) (h : (restOf ⟨cs.toArray⟩ b == Str.ofString "") = false) :
    ∃ n : Nat, firstOf ⟨cs.toArray⟩ b = n ∧ b ≤ n ∧ n < cs.length ∧ (∀ k : Nat, b ≤ k → k < n → cs[k]? = some 45) ∧ ∃ c, cs[n]? = some c ∧ c ≠ 45 := by
  rw [rest_nil h0 h1] at h
  have h := of_decide_eq_false h
  obtain ⟨n, a1, a2, a3, a4, a5⟩ := nxt_facts cs b.toNat (by omega)
  have hn : n < cs.length := by clear a4 a5; omega
  have hbn : b ≤ (n : Int) := by clear a4 a5; omega
  refine ⟨n, ?_, hbn, hn, fun k hk hkn => a4 k (by clear a4 a5; omega) hkn, a5 hn⟩
  clear a4 a5
  rw [first_is h0 h1]; omega
end Mine

/-! ## S4 -/
namespace Mine
/-- objs stand: in the ground (and are of bs), or among the new ones -/
noncomputable def Held (bs : List (Addr × Obj)) (h₀ : Heap) (os objs : List (Addr × Obj)) : Prop := ∀ q ∈ objs, (h₀.get? q.1 = some q.2 ∧ q ∈ bs) ∨ q ∈ os
noncomputable def Off76 (os : List (Addr × Obj)) : Prop := ∀ q ∈ os, q.1 ≠ 76
theorem Held.at {h₀ h : Heap} {L : Addr} {m : Str → Option Value} {bs os objs : List (Addr × Obj)} {p0 : Addr × Obj} (F : Fr h₀ L h m) (N : News h₀ L h (p0 :: os)) (H : Held bs h₀ os objs) : ∀ q ∈ objs, h.get? q.1 = some q.2 := fun q hq =>
  (H q hq).elim (fun e => F.keep _ _ e.1) fun hm => (N q (.tail _ hm)).1
theorem Held.more {h₀ : Heap} {bs os objs : List (Addr × Obj)} (osN : List (Addr × Obj)) (H : Held bs h₀ os objs) : Held bs h₀ (osN ++ os) objs := fun q hq => (H q hq).imp id fun hm => List.mem_append_right _ hm
section
variable {prog : Program} {w : World} {p : Program} {loose : List Str} {mean : ExcName → Option Value} {mg mb : Str → Option Value} {dp un : Nat} {gd : Option (List Code)} {cn : Str} {cs : Scope} {a : Addr} {ccd : Value} {cl : List (Str × Addr)} {outer : List Env} {A A₀ : Around} {base h₀ : Heap} {L : Addr} {m : Str → Option Value} {s : Shared}
  {bs os objs tobjs : List (Addr × Obj)} {p0 : Addr × Obj} {f g : Addr} {i : Int}
theorem method_search {fd : FuncData} {d : Addr} {t : Tok} {pl : Sem Bool} {E : Value → Shared → Prop} {Q : Value × List Value → Shared → Prop} (F : Fr h₀ L s.heap m) (hf : h₀.get? f = some (fnObj fd (some d))) (hd : h₀.get? d = some (dict1 w (Str.ofString "search") t (.ref 81)))
    (h : Q (.ref 81, []) { s with toks := s.toks + 1 }) : wpAny (model prog w) A (getMethod (.ref f) (Str.ofString "search") pl) Q E s :=
  method_fnobj (F.keep _ _ hf) (F.keep _ _ hd) search_look (search_ns _ _ _) h
theorem method_span {pl : Sem Bool} {E : Value → Shared → Prop} {Q : Value × List Value → Shared → Prop} (F : Fr h₀ L s.heap m) (N : News h₀ L s.heap (p0 :: os)) (H : Held bs h₀ os objs) (HO : HitO prog w p loose mean mg mb objs f i)
    (h : ∀ g, SpansO prog w p loose mean mg mb objs g i → FnAt g s.heap → Q (.ref g, []) { s with toks := s.toks + 1 }) : wpAny (model prog w) A (getMethod (.ref f) (Str.ofString "span") pl) Q E s := by
  obtain ⟨fd, d, g, t, gd, m1, m2, m3, S⟩ := HO
  exact method_fnobj (Held.at F N H _ m1) (Held.at F N H _ m2) span_look (span_ns _ _ _) (h g S ⟨_, _, _, _, Held.at F N H _ m3⟩)
theorem truthy_hit {E : Value → Shared → Prop} {Q : Bool → Shared → Prop} (F : Fr h₀ L s.heap m) (N : News h₀ L s.heap (p0 :: os)) (H : Held bs h₀ os objs) (HO : HitO prog w p loose mean mg mb objs f i) (h : Q true s) : wpAny (model prog w) A (truthy (.ref f)) Q E s := by
  obtain ⟨fd, d, g, t, gd, m1, m2, m3, S⟩ := HO
  exact truthy_fn (Held.at F N H _ m1) h
theorem call_span {Q E : Value → Shared → Prop} (B : Below A₀ base outer h₀) (F : Fr h₀ L s.heap m) (X : (Mine.hd.heap_39 w.params).In h₀) (N : News h₀ L s.heap (p0 :: os)) (T : Top p loose mean mg mb h₀) (hk : cs.kind = .function) (hdp : dp + 1 < recursionLimit) (H : Held bs h₀ os objs) (S : SpansO prog w p loose mean mg mb objs g i)
    (hret : ∀ a t1 t2 h' tk', Fr h₀ L h' m → News h₀ L h' (p0 :: os) → IsTup h' a #[.int i t1, .int (i + 1) t2] → Q (.ref a) { s with heap := h', toks := tk' }) :
    wpAny (model prog w) (ktrTop dp un gd cn cs L a ccd cl outer) (call (.ref g) []) Q E s :=
  S dp un gd cn cs a ccd cl outer A₀ base h₀ L m s Q E (Held.at F N H) B F X T hk hdp fun a t1 t2 h' tk' k _ e => hret a t1 t2 h' tk' (fr_keeps F k) (news_keeps N k) e
theorem keepsBut_fr {h h' : Heap} {ps : Array Value} (F : Fr h₀ L h m) (N : News h₀ L h ((76, tabObj ps) :: os)) (k : KeepsBut 76 h h') : Fr h₀ L h' m := by
  have h76 := N _ (.head _)
  refine ⟨F.ns.at' fun o e => k _ o h76.2.1.symm e, fun b o e => k b o (fun q => ?_) (F.keep b o e), F.above⟩
  rw [q] at e
  have := h76.2.2
  rw [show (76, tabObj ps).1 = (76 : Addr) from rfl, e] at this
  cases this
theorem keepsBut_news {h h' : Heap} {ps ps' : Array Value} {osN : List (Addr × Obj)} (F : Fr h₀ L h m) (N : News h₀ L h ((76, tabObj ps) :: os)) (hoff : Off76 os) (k : KeepsBut 76 h h') (ht : h'.get? 76 = some (tabObj ps')) (hN : ∀ q ∈ osN, h'.get? q.1 = some q.2 ∧ h.get? q.1 = none) :
    News h₀ L h' ((76, tabObj ps') :: (osN ++ os)) := fun q hq => by
  rcases List.mem_cons.mp hq with rfl | hq
  · exact ⟨ht, (N (76, tabObj ps) (.head _)).2⟩
  rcases List.mem_append.mp hq with hq | hq
  · refine ⟨(hN q hq).1, fun e => ?_, ?_⟩
    · obtain ⟨oL, es, ep, eL, _⟩ := F.ns
      have := (hN q hq).2
      rw [e, eL] at this; cases this
    · cases e : h₀.get? q.1 with
      | none => rfl
      | some o => have := (hN q hq).2; rw [F.keep _ _ e] at this; cases this
  · exact ⟨k _ _ (hoff q hq) (N q (.tail _ hq)).1, (N q (.tail _ hq)).2⟩
section
variable {Q E : Value → Shared → Prop} {W : Str} {b : Int} {t u : Tok} {ps : Array Value}
    (B : Below A₀ base outer h₀) (F : Fr h₀ L s.heap m) (X : (Mine.hd.heap_39 w.params).In h₀) (N : News h₀ L s.heap ((76, tabObj ps) :: os)) (T : Top p loose mean mg mb h₀) (hk : cs.kind = .function) (hdp : dp + 3 < recursionLimit) (CH : CodeHd h₀ 80 76)
    (hT : TabS ps tobjs) (Ht : Held bs h₀ os tobjs) (h76 : Off76 tobjs) (hoff : Off76 os) (hW : W.length = 144)
include B F X N T hk hdp CH hT Ht h76 hoff hW
theorem off_new {osN : List (Addr × Obj)} {h' : Heap} (hN : ∀ q ∈ osN, h'.get? q.1 = some q.2 ∧ s.heap.get? q.1 = none) : Off76 osN := fun q hq e => by
  have := (hN q hq).2
  rw [e, (N (76, tabObj ps) (.head _)).1] at this; cases this
theorem letter_use (hb0 : 0 ≤ b) (hb1 : b ≤ 145)
    (hnone : (restOf W b == Str.ofString "") = true → ∀ h' tk', Fr h₀ L h' m → News h₀ L h' ((76, tabObj ps) :: os) → Q .none { s with heap := h', toks := tk' })
    (hhit : (restOf W b == Str.ofString "") = false → ∀ f ps' tobjs' os' objs h' tk', Fr h₀ L h' m → News h₀ L h' ((76, tabObj ps') :: os') → (∀ q ∈ os, q ∈ os') → Off76 os' → TabS ps' tobjs' → Held bs h₀ os' tobjs' → Off76 tobjs' → Held bs h₀ os' objs →
      HitO prog w p loose mean mg mb objs f (firstOf W b) → Q (.ref f) { s with heap := h', toks := tk' }) :
    wpAny (model prog w) (ktrTop dp un gd cn cs L a ccd cl outer) (call (.ref 81) [.str W t, .int b u]) Q E s := by
  have hN1 : News h₀ L s.heap [(76, tabObj ps)] := fun q hq => N q (by rw [List.mem_singleton.mp hq]; exact .head _)
  refine letter_gives B F X T hk hdp CH hN1 hT (fun q hq => ⟨Held.at F N Ht q hq, h76 q hq⟩) hW hb0 hb1 (fun hr h' tk' k => hnone hr h' tk' (fr_keeps F k) (news_keeps N k)) fun hr f ps' tobjs' osN objs h' tk' k ht hT' hN htm hom HO => ?_
  have hoN := off_new B F X N T hk hdp CH hT Ht h76 hoff hW hN
  have held : ∀ l : List (Addr × Obj), (∀ q ∈ l, q ∈ osN ∨ q ∈ tobjs) → Held bs h₀ (osN ++ os) l := fun l hl q hq => (hl q hq).elim (fun e => .inr (List.mem_append_left _ e)) fun e => (Ht q e).imp id fun e => List.mem_append_right _ e
  exact hhit hr f ps' tobjs' (osN ++ os) objs h' tk' (keepsBut_fr F N k) (keepsBut_news F N hoff k ht hN) (fun q hq => List.mem_append_right _ hq) (fun q hq => (List.mem_append.mp hq).elim (hoN q) (hoff q)) hT' (held _ htm) (fun q hq => (htm q hq).elim (hoN q) (h76 q)) (held _ hom) HO
theorem letter_use0
    (hnone : (restOf W 0 == Str.ofString "") = true → ∀ h' tk', Fr h₀ L h' m → News h₀ L h' ((76, tabObj ps) :: os) → Q .none { s with heap := h', toks := tk' })
    (hhit : (restOf W 0 == Str.ofString "") = false → ∀ f ps' tobjs' os' objs h' tk', Fr h₀ L h' m → News h₀ L h' ((76, tabObj ps') :: os') → (∀ q ∈ os, q ∈ os') → Off76 os' → TabS ps' tobjs' → Held bs h₀ os' tobjs' → Off76 tobjs' → Held bs h₀ os' objs →
      HitO prog w p loose mean mg mb objs f (firstOf W 0) → Q (.ref f) { s with heap := h', toks := tk' }) :
    wpAny (model prog w) (ktrTop dp un gd cn cs L a ccd cl outer) (call (.ref 81) [.str W t]) Q E s := by
  have hN1 : News h₀ L s.heap [(76, tabObj ps)] := fun q hq => N q (by rw [List.mem_singleton.mp hq]; exact .head _)
  refine letter_gives0 B F X T hk hdp CH hN1 hT (fun q hq => ⟨Held.at F N Ht q hq, h76 q hq⟩) hW (fun hr h' tk' k => hnone hr h' tk' (fr_keeps F k) (news_keeps N k)) fun hr f ps' tobjs' osN objs h' tk' k ht hT' hN htm hom HO => ?_
  have hoN := off_new B F X N T hk hdp CH hT Ht h76 hoff hW hN
  have held : ∀ l : List (Addr × Obj), (∀ q ∈ l, q ∈ osN ∨ q ∈ tobjs) → Held bs h₀ (osN ++ os) l := fun l hl q hq => (hl q hq).elim (fun e => .inr (List.mem_append_left _ e)) fun e => (Ht q e).imp id fun e => List.mem_append_right _ e
  exact hhit hr f ps' tobjs' (osN ++ os) objs h' tk' (keepsBut_fr F N k) (keepsBut_news F N hoff k ht hN) (fun q hq => List.mem_append_right _ hq) (fun q hq => (List.mem_append.mp hq).elim (hoN q) (hoff q)) hT' (held _ htm) (fun q hq => (htm q hq).elim (hoN q) (h76 q)) (held _ hom) HO
end
end
end Mine

/-! ## SR -/
theorem Mine.LN31 : True := by
  k_with "mine enter76" => (k_dflt (refine' Mine.enter_def (news := [(76, tabObj _)]) ?zqk1 ?zqk2 ?zqk3 ?zqk4 ?zqk5 ?zqkA ?zqkF ?zqkK ?zqk6 ?zqk7 ?zqk8 ?zqk9 ?zqkB ?_ ?zqc2 ?zqc3 ?zqc4 ?zqc5; (case zqkA => exact rfl); (case zqkF => exact rfl); (case zqkK => assumption); (case zqk1 => k_asm); (case zqk2 => k_asm); (case zqk3 => k_asm); (case zqk4 => k_asm); (case zqk5 => k_asm); (case zqk6 => k_is); (case zqk7 => k_is); (case zqk8 => ktr_room); (case zqk9 => exact BindsTo.of_eq rfl); (case zqc5 => decide); (case zqkB => exact locs rfl); (case zqc2 => exact rfl); (case zqc3 => exact rfl); (case zqc4 => exact rfl); k_whole; intro _ _ _ _ _ _ _ _ _ _ _; (try dsimp only); (try k_fold)))
  exact trivial
theorem Mine.LN32 : True := by
  k_with "getMethod ref" => (k_here; k_dflt (first
  | (refine' Mine.method_search ?zqF ?zqf ?zqd ?_; (case zqF => k_asm); (case zqf => assumption); (case zqd => assumption); k_whole)
  | (refine' Mine.method_span ?zqF ?zqN ?zqH ?zqO ?_; (case zqF => k_asm); (case zqN => k_asm); (case zqO => assumption); (case zqH => assumption); k_whole; intro _ _ _; (try dsimp only))))
  exact trivial
theorem Mine.LN33 : True := by
  k_with "callWith ref" => (k_here; k_dflt (refine' callWith_F0 ?zqk1 ?_; (case zqk1 => assumption); k_whole; try dsimp only [List.nil_append, List.cons_append]))
  exact trivial
theorem Mine.LN34 : True := by
  k_with "truthy ref" => (k_here; k_dflt (refine' Mine.truthy_hit ?zqF ?zqN ?zqH ?zqO ?_; (case zqF => k_asm); (case zqN => k_asm); (case zqO => assumption); (case zqH => assumption); k_whole))
  exact trivial
theorem Mine.LN35 : True := by
  k_with "call ref" => (k_here; (with_reducible show wpAny _ _ (call (Value.ref _) []) _ _ _); (k_dflt (refine' Mine.call_span ?zqk1 ?zqk2 ?zqk3 ?zqk4 ?zqk5 ?zqkK ?zqkd ?zqH ?zqS ?_; (case zqS => assumption); (case zqH => assumption); (case zqkK => first | exact rfl | assumption); (case zqk1 => k_asm); (case zqk2 => k_asm); (case zqk3 => k_asm); (case zqk4 => k_asm); (case zqk5 => k_asm); (case zqkd => ktr_room); k_whole)); intro _ _ _ _ _ _ _ _; (try dsimp only))
  exact trivial
theorem Mine.LN36 : True := by
  k_with "call ref" => (k_here; (with_reducible show wpAny _ _ (call (Value.ref 81) [Value.str _ _]) _ _ _); (k_dflt (refine' Mine.letter_use0 ?zqk1 ?zqk2 ?zqk3 ?zqk4 ?zqk5 ?zqkK ?zqkd ?zqCH ?zqhT ?zqHt ?zqh76 ?zqhoff ?zqhW ?_ ?_; (case zqkK => first | exact rfl | assumption); (case zqk1 => k_asm); (case zqk2 => k_asm); (case zqk3 => k_asm); (case zqk4 => k_asm); (case zqk5 => k_asm); (case zqhT => assumption); (case zqHt => assumption); (case zqh76 => assumption); (case zqhoff => assumption); (case zqhW => assumption); (case zqCH => assumption); (case zqkd => ktr_room))); (intro _ _ _ _ _; (try dsimp only)); (rotate_left); (intro _ _ _ _ _ _ _ _ _ _ _ _ _ _ _ _ _; (try dsimp only)))
  exact trivial
namespace Mine
noncomputable def Stop (P : Prop) : Prop := P
theorem Stop.out {P : Prop} (h : Stop P) : P := h
end Mine
theorem Mine.LN37 : True := by
  k_with "exec While BoolOp cons nil" => (k_here; refine Mine.Stop.out ?_)
  exact trivial
namespace Mine
/-- the locals of search_reverse in its loop -/
noncomputable def srMap (mB : Str → Option Value) (j i : Int) (tj ti : Tok) (vm vf : Value) : Str → Option Value := fun y => if y = Str.ofString "j" then some (.int j tj) else if y = Str.ofString "i" then some (.int i ti) else if y = Str.ofString "m" then some vm else if y = Str.ofString "found" then some vf else mB y
theorem srMap0 {mB : Str → Option Value} {j i : Int} {tj ti : Tok} {vm vf : Value} : (fun y => if y = Str.ofString "j" then some (.int j tj) else if y = Str.ofString "i" then some (.int i ti) else if y = Str.ofString "found" then some vf else if y = Str.ofString "m" then some vm else mB y) = srMap mB j i tj ti vm vf := by
  funext y
  unfold srMap
  by_cases h1 : y = Str.ofString "j"
  · simp only [h1, if_true]
  · by_cases h2 : y = Str.ofString "i"
    · simp only [if_neg h1, h2, if_true]
    · simp only [if_neg h1, if_neg h2]
      by_cases h3 : y = Str.ofString "m"
      · rw [h3]; rfl
      · rw [if_neg h3, if_neg h3]
theorem srMap1 {mB : Str → Option Value} {j i j' i' : Int} {tj ti tj' ti' : Tok} {vm vf vm' vf' : Value} : (fun y => if y = Str.ofString "j" then some (.int j' tj') else if y = Str.ofString "i" then some (.int i' ti') else if y = Str.ofString "m" then some vm' else if y = Str.ofString "found" then some vf' else if y = Str.ofString "j" then some (.int j tj) else if y = Str.ofString "i" then some (.int i ti) else if y = Str.ofString "m" then some vm else if y = Str.ofString "found" then some vf else mB y) = srMap mB j' i' tj' ti' vm' vf' := by
  funext y
  unfold srMap
  by_cases h1 : y = Str.ofString "j"
  · simp only [if_pos h1]
  · by_cases h2 : y = Str.ofString "i"
    · simp only [if_neg h1, if_pos h2]
    · by_cases h3 : y = Str.ofString "m"
      · simp only [if_neg h1, if_neg h2, if_pos h3]
      · by_cases h4 : y = Str.ofString "found"
        · simp only [if_neg h1, if_neg h2, if_neg h3, if_pos h4]
        · simp only [if_neg h1, if_neg h2, if_neg h3, if_neg h4]
noncomputable def IsLetter (codes : List Nat) (k : Nat) : Prop := ∃ c, codes[k]? = some c ∧ c ≠ 45
noncomputable def Blank (codes : List Nat) (k : Nat) : Prop := codes[k]? = some 45
section
variable (prog : Program) (w : World) (p : Program) (loose : List Str) (mean : ExcName → Option Value) (mg mb : Str → Option Value) (bs : List (Addr × Obj)) (h₀ : Heap)
noncomputable def Fnd (os : List (Addr × Obj)) (codes : List Nat) (col : Int) (i : Nat) (vf : Value) : Prop :=
  (vf = .none ∧ ∀ k, k < i → Blank codes k) ∨ ∃ f' i' objs', vf = .ref f' ∧ Held bs h₀ os objs' ∧ HitO prog w p loose mean mg mb objs' f' ((i' : Nat) : Int) ∧ i' < i ∧ ((i' : Nat) : Int) < col ∧ IsLetter codes i' ∧ ∀ k, i' < k → k < i → Blank codes k
noncomputable def SRInv (mB : Str → Option Value) (codes : List Nat) (col : Int) (n : Nat) (m₁ : Str → Option Value) (news₁ : List (Addr × Obj)) : Prop :=
  ∃ (i : Nat) (f : Addr) (objs os : List (Addr × Obj)) (ps : Array Value) (tobjs : List (Addr × Obj)) (tj ti : Tok) (vf : Value), m₁ = srMap mB ((i : Int) + 1) i tj ti (.ref f) vf ∧ news₁ = (76, tabObj ps) :: os ∧ Off76 os ∧ TabS ps tobjs ∧ Held bs h₀ os tobjs ∧ Off76 tobjs ∧ Held bs h₀ os objs ∧ HitO prog w p loose mean mg mb objs f (i : Int) ∧
    i < 144 ∧ IsLetter codes i ∧ Fnd prog w p loose mean mg mb bs h₀ os codes col i vf ∧ n = 144 - i
end
theorem fr_sr0 {g h : Heap} {L : Addr} {mB : Str → Option Value} {j i : Int} {tj ti : Tok} {vm vf : Value} (F : Fr g L h (fun y => if y = Str.ofString "j" then some (.int j tj) else if y = Str.ofString "i" then some (.int i ti) else if y = Str.ofString "found" then some vf else if y = Str.ofString "m" then some vm else mB y)) : Fr g L h (srMap mB j i tj ti vm vf) := srMap0 ▸ F
theorem fr_sr1 {g h : Heap} {L : Addr} {mB : Str → Option Value} {j i j' i' : Int} {tj ti tj' ti' : Tok} {vm vf vm' vf' : Value} (F : Fr g L h (fun y => if y = Str.ofString "j" then some (.int j' tj') else if y = Str.ofString "i" then some (.int i' ti') else if y = Str.ofString "m" then some vm' else if y = Str.ofString "found" then some vf' else if y = Str.ofString "j" then some (.int j tj) else if y = Str.ofString "i" then some (.int i ti) else if y = Str.ofString "m" then some vm else if y = Str.ofString "found" then some vf else mB y)) : Fr g L h (srMap mB j' i' tj' ti' vm' vf') := srMap1 ▸ F
/-- what a call of search_reverse leaves -/
structure EndSt (bs : List (Addr × Obj)) (s h' : Heap) (ps' : Array Value) (tobjs' os' : List (Addr × Obj)) : Prop where
  keeps : KeepsBut 76 s h'
  tab : h'.get? 76 = some (tabObj ps')
  tabS : TabS ps' tobjs'
  off : Off76 tobjs'
  new : ∀ q ∈ os', h'.get? q.1 = some q.2 ∧ s.get? q.1 = none
  held : ∀ q ∈ tobjs', q ∈ os' ∨ q ∈ bs
theorem end_st {s g h' : Heap} {L' : Addr} {m' : Str → Option Value} {ps ps' : Array Value} {bs os tobjs : List (Addr × Obj)} (kp : ∀ b o, s.get? b = some o → b ∉ ([(76, tabObj ps)] : List (Addr × Obj)).map (·.1) → g.get? b = some o) 
    (F' : Fr g L' h' m') (N' : News g L' h' ((76, tabObj ps') :: os)) (ho : Off76 os) (hT : TabS ps' tobjs) (Ht : Held bs g os tobjs) (h76 : Off76 tobjs) : EndSt bs s h' ps' tobjs os where
  keeps := fun b o hb e => F'.keep b o (kp b o e (by simpa using hb))
  tab := (N' _ (.head _)).1
  tabS := hT
  off := h76
  new := fun q hq => ⟨(N' q (.tail _ hq)).1, by
    cases e : s.get? q.1 with
    | none => rfl
    | some o => have := (N' q (.tail _ hq)).2.2; rw [kp _ _ e (by simpa using ho q hq)] at this; cases this⟩
  held := fun q hq => (Ht q hq).elim (fun e => .inr e.2) .inl
theorem held_end {g : Heap} {bs os objs : List (Addr × Obj)} (H : Held bs g os objs) : ∀ q ∈ objs, q ∈ os ∨ q ∈ bs := fun q hq => (H q hq).elim (fun e => .inr e.2) .inl
set_option maxRecDepth 100000 in
set_option maxHeartbeats 1000000 in
theorem search_gives {prog : Program} {w : World} {p : Program} {loose : List Str} {mean : ExcName → Option Value} {mg mb : Str → Option Value} {dp un : Nat} {gd : Option (List Code)} {cn : Str} {cs : Scope} {a : Addr} {ccd : Value} {cl : List (Str × Addr)} {outer : List Env} {A₀ : Around} {base h₀ : Heap} {L : Addr} {m : Str → Option Value} {s : Shared} {Q E : Value → Shared → Prop}
    {codes : List Nat} {col : Int} {t u : Tok} {ps : Array Value} {tobjs : List (Addr × Obj)} {fP dP : Addr} {fd : FuncData} {tP : Tok}
    (B : Below A₀ base outer h₀) (F : Fr h₀ L s.heap m) (X : (Mine.hd.heap_39 w.params).In h₀) (T : Top p loose mean mg mb h₀) (hk : cs.kind = .function) (hdp : dp + 5 < recursionLimit) (CH : CodeHd h₀ 80 76)
    (N : News h₀ L s.heap [(76, tabObj ps)]) (hT : TabS ps tobjs) (hto : ∀ q ∈ tobjs, s.heap.get? q.1 = some q.2 ∧ q.1 ≠ 76) (hlen : codes.length = 144)
    (hP : s.heap.get? fP = some (fnObj fd (some dP))) (hdP : s.heap.get? dP = some (dict1 w (Str.ofString "search") tP (.ref 81))) (hP76 : fP ≠ 76) (hdP76 : dP ≠ 76)
    (hc0 : 0 ≤ col) (hc1 : col ≤ 144)
    (hnone : (∀ k : Nat, (k : Int) < col → k < 144 → Blank codes k) → ∀ ps' tobjs' os' h' tk', EndSt tobjs s.heap h' ps' tobjs' os' → Q .none { s with heap := h', toks := tk' })
    (hhit : ∀ i : Nat, (i : Int) < col → IsLetter codes i → (∀ k : Nat, i < k → (k : Int) < col → k < 144 → Blank codes k) → ∀ f ps' tobjs' os' objs h' tk', EndSt tobjs s.heap h' ps' tobjs' os' → (∀ q ∈ objs, q ∈ os' ∨ q ∈ tobjs) → HitO prog w p loose mean mg mb objs f i → Q (.ref f) { s with heap := h', toks := tk' }) :
    wpAny (model prog w) (ktrTop dp un gd cn cs L a ccd cl outer) (call (.ref 56) [.ref fP, .str ⟨codes.toArray⟩ t, .int col u]) Q E s := by
  show Seen Mine.hd.heap_39 Challenge.rw_mr0158_01 _
  k_fill
  unfold Seen
  refine wpAny_call ?_
  walk_at "mine enter76"
  rename_i g' L' h' kp' pk' F' N' B' X' T' eL'
  have CH' := codeHd_in CH F kp' (by simp)
  have hPg := kp' _ _ hP (by simpa using hP76)
  have hdPg := kp' _ _ hdP (by simpa using hdP76)
  have hHt : Held tobjs g' [] tobjs := fun q hq => .inl ⟨kp' _ _ (hto q hq).1 (by simpa using (hto q hq).2), hq⟩
  have h76 : Off76 tobjs := fun q hq => (hto q hq).2
  have hoff : Off76 [] := fun q hq => nomatch hq
  have hW : Str.length ⟨codes.toArray⟩ = 144 := by show codes.toArray.size = 144; rw [List.size_toArray]; exact hlen
  have hl0 : (0 : Int) ≤ (codes.length : Int) := by omega
  k_steps
  · unfold Stop
    obtain ⟨n0, e0, b0, n1, hbl, hlet⟩ := letter_some (by decide) hl0 (by assumption : (restOf ⟨codes.toArray⟩ 0 == Str.ofString "") = false)
    (rename Fr _ _ _ _ => F1)
    (rename News _ _ _ _ => N1)
    (rename HitO _ _ _ _ _ _ _ _ _ _ => HO1)
    rw [e0] at F1 HO1
    refine While_inv2 (SRInv prog w p loose mean mg mb tobjs g' _ codes col) (fr_sr0 F1) N1 ⟨n0, _, _, _, _, _, _, _, _, rfl, rfl, by assumption, by assumption, by assumption, by assumption, by assumption, HO1, by omega, hlet, .inl ⟨rfl, fun k hk => hbl k (by omega) hk⟩, rfl⟩ ?turn
    clear F1 N1 HO1 hbl hlet
    intro n m₁ news₁ h₁ tk₁ F₁ N₁ hJ
    obtain ⟨i, f, objs, os, ps1, tobjs1, tj, ti, vf, rfl, rfl, ho, hT1, Ht1, ht76, Ho1, HO, hi, hlet, hfnd, rfl⟩ := hJ
    unfold srMap at F₁
    k_steps
    all_goals (first | (exfalso; omega) | skip)
    · (refine' Mine.letter_use ?k1 ?k2 ?k3 ?k4 ?k5 ?kK ?kd ?CH ?hT ?Ht ?h76 ?hoff ?hW ?b0 ?b1 ?_ ?_; (case kK => first | exact rfl | assumption); (case k1 => k_asm); (case k2 => k_asm); (case k3 => k_asm); (case k4 => k_asm); (case k5 => k_asm); (case hT => assumption); (case Ht => assumption); (case h76 => assumption); (case hoff => assumption); (case hW => assumption); (case CH => assumption);  (case kd => ktr_room))
      · omega
      · omega
      · intro r1 h1 tk1 F1 N1
        dsimp only
        k_steps
        dsimp only [WhileStep2]
        k_steps
        (rename Fr _ _ _ _ => F2)
        (rename News _ _ _ _ => N2)
        have hbl := letter_none (by omega) (by omega) r1
        exact hhit i (by assumption) hlet (fun k h1 h2 h3 => hbl k (by omega) (by omega)) _ _ _ _ _ _ _ (end_st kp' F2 N2 ho hT1 Ht1 ht76) (held_end Ho1) HO
      · intro r1 f1 ps1 to1 os1 ob1 h1 tk1 F1 N1 sub1 off1 T1 Ht1' o761 Ho1' HO1
        dsimp only
        k_steps
        (rename Fr _ _ _ _ => F2)
        (rename News _ _ _ _ => N2)
        obtain ⟨n2, e2, b2, n3, hbl, hlet'⟩ := letter_some (by omega) (by omega) r1
        rw [e2] at F2 HO1
        exact ⟨_, _, _, _, _, rfl, fr_sr1 F2, N2, (by omega : 144 - n2 < 144 - i), n2, _, _, _, _, _, _, _, _, rfl, rfl, by assumption, by assumption, by assumption, by assumption, by assumption, HO1, by omega, hlet', .inr ⟨_, i, _, rfl, fun q hq => (Ho1 q hq).imp id (sub1 q), HO, by omega, by assumption, hlet, fun k hk1 hk2 => hbl k (by omega) (by omega)⟩, rfl⟩
    · k_steps
      (rename ¬ _ => hge)
      rcases hfnd with ⟨rfl, hb⟩ | ⟨f', i', objs', rfl, Ho', HO', l1, l2, l3, hb⟩
      · exact hnone (fun k h1 h2 => hb k (by omega)) _ _ _ _ _ (end_st kp' F₁ N₁ ho hT1 Ht1 ht76)
      · exact hhit i' l2 l3 (fun k h1 h2 h3 => hb k h1 (by omega)) _ _ _ _ _ _ _ (end_st kp' F₁ N₁ ho hT1 Ht1 ht76) (held_end Ho') HO'
  · exact hnone (fun k _ hk => letter_none (by decide) hl0 (by assumption) k (by omega) (by omega)) _ _ _ _ _ (end_st (os := []) kp' (by assumption) (by assumption) hoff hT hHt h76)
end Mine

/-! ## A1 -/
theorem Mine.LN38 : True := by
  k_with "mine enter2" => (k_dflt (refine' Mine.enter_def (news := [(76, tabObj _), (83, tabObj _)]) ?zqk1 ?zqk2 ?zqk3 ?zqk4 ?zqk5 ?zqkA ?zqkF ?zqkK ?zqk6 ?zqk7 ?zqk8 ?zqk9 ?zqkB ?_ ?zqc2 ?zqc3 ?zqc4 ?zqc5; (case zqkA => exact rfl); (case zqkF => exact rfl); (case zqkK => assumption); (case zqk1 => k_asm); (case zqk2 => k_asm); (case zqk3 => k_asm); (case zqk4 => k_asm); (case zqk5 => k_asm); (case zqk6 => k_is); (case zqk7 => k_is); (case zqk8 => ktr_room); (case zqk9 => exact BindsTo.of_eq rfl); (case zqc5 => decide); (case zqkB => exact locs rfl); (case zqc2 => exact rfl); (case zqc3 => exact rfl); (case zqc4 => exact rfl); k_whole; intro _ _ _ _ _ _ _ _ _ _ _; (try dsimp only); (try k_fold)))
  exact trivial
namespace Mine
noncomputable def lamP : Str := (Str.ofString "_law_ahead" ++ ".<locals>.") ++ "<lambda>"
/-- the table of _law_ahead's code: empty, or with its lambda -/
noncomputable def TabA (ps : Array Value) (aobjs : List (Addr × Obj)) : Prop :=
  (ps = #[] ∧ aobjs = []) ∨ ∃ a oa, ps = #[rawInt 136, rawInt 11, .ref a] ∧ aobjs = [(a, oa)] ∧ CodeIs oa lamP
theorem news_front {g h : Heap} {L : Addr} {news : List (Addr × Obj)} {ps : Array Value} (N : News g L h news) (hm : (76, tabObj ps) ∈ news) : ∃ os, News g L h ((76, tabObj ps) :: os) ∧ Off76 os ∧ ∀ q ∈ news, @Ne Nat q.1 76 → q ∈ os := by
  refine ⟨news.filter (fun q => q.1 != 76), fun q hq => ?_, fun q hq => ?_, fun q hq hn => List.mem_filter.mpr ⟨hq, by simpa using hn⟩⟩
  · rcases List.mem_cons.mp hq with rfl | hq
    · exact N _ hm
    · exact N _ (List.mem_filter.mp hq).1
  · simpa using (List.mem_filter.mp hq).2
/-- what a call of _law_ahead leaves -/
structure AheadEnd (bs : List (Addr × Obj)) (s h' : Heap) (ps' ps8' : Array Value) (tobjs' aobjs' : List (Addr × Obj)) : Prop where
  keeps : ∀ b o, b ≠ 76 → b ≠ 83 → s.get? b = some o → h'.get? b = some o
  tab : h'.get? 76 = some (tabObj ps')
  tab8 : h'.get? 83 = some (tabObj ps8')
  tabS : TabS ps' tobjs'
  tabA : TabA ps8' aobjs'
  held : ∀ q ∈ tobjs' ++ aobjs', h'.get? q.1 = some q.2 ∧ q.1 ≠ 76 ∧ q.1 ≠ 83 ∧ (s.get? q.1 = none ∨ q ∈ bs)
theorem ahead_end {bs : List (Addr × Obj)} {s g h' : Heap} {L' : Addr} {m' : Str → Option Value} {ps0 ps80 ps ps8 : Array Value} {tobjs aobjs os : List (Addr × Obj)}
    (kp : ∀ b o, s.get? b = some o → b ∉ ([(76, tabObj ps0), (83, tabObj ps80)] : List (Addr × Obj)).map (·.1) → g.get? b = some o) (h0 : ∀ q ∈ bs, s.get? q.1 = some q.2 ∧ q.1 ≠ 76 ∧ q.1 ≠ 83)
    (F : Fr g L' h' m') (N : News g L' h' os) (h76 : (76, tabObj ps) ∈ os) (h83 : (83, tabObj ps8) ∈ os) (hT : TabS ps tobjs) (hA : TabA ps8 aobjs)
    (ho : ∀ q ∈ tobjs ++ aobjs, q ∈ bs ∨ (q ∈ os ∧ @Ne Nat q.1 76 ∧ @Ne Nat q.1 83)) : AheadEnd bs s h' ps ps8 tobjs aobjs := by
  have kp2 : ∀ b o, b ≠ 76 → b ≠ 83 → s.get? b = some o → g.get? b = some o := fun b o n1 n2 e => kp b o e (by simp [n1, n2])
  refine ⟨fun b o n1 n2 e => F.keep _ _ (kp2 b o n1 n2 e), (N _ h76).1, (N _ h83).1, hT, hA, fun q hq => ?_⟩
  rcases ho q hq with e | ⟨e, n1, n2⟩
  · have := h0 q e
    exact ⟨F.keep _ _ (kp2 _ _ this.2.1 this.2.2 this.1), this.2.1, this.2.2, .inr e⟩
  · refine ⟨(N q e).1, n1, n2, .inl ?_⟩
    cases e' : s.get? q.1 with
    | none => rfl
    | some o => have := (N q e).2.2; rw [kp2 _ _ n1 n2 e'] at this; cases this
theorem fresh2 {s g h' : Heap} {L' a : Addr} {o : Obj} {ps0 ps80 : Array Value} {os : List (Addr × Obj)} (kp : ∀ b o, s.get? b = some o → b ∉ ([(76, tabObj ps0), (83, tabObj ps80)] : List (Addr × Obj)).map (·.1) → g.get? b = some o)
    (N : News g L' h' os) (h : (a, o) ∈ os) (n1 : @Ne Nat a 76) (n2 : @Ne Nat a 83) : s.get? a = none := by
  cases e' : s.get? a with
  | none => rfl
  | some o => have := (N _ h).2.2; rw [kp _ _ e' (by simp; exact ⟨n1, n2⟩)] at this; cases this
theorem allLt_mem {d : Nat} {q : Addr × Obj} {l : List (Addr × Obj)} (h : AllLt d l) (hm : q ∈ l) : @LT.lt Nat _ q.1 d := by
  induction l with
  | nil => cases hm
  | cons x r ih =>
    rcases List.mem_cons.mp hm with e | hm
    · rw [e]; exact h.1
    · exact ih h.2 hm
theorem ahead_fin {s s1 g h2 h' : Heap} {L' l : Addr} {o o83 : Obj} {m' : Str → Option Value} {ps0 ps80 ps' ps8' : Array Value} {tobjs aobjs tobjs' aobjs' os' os1 : List (Addr × Obj)}
    (kp : ∀ b o, s.get? b = some o → b ∉ ([(76, tabObj ps0), (83, tabObj ps80)] : List (Addr × Obj)).map (·.1) → g.get? b = some o) (h0 : ∀ q ∈ tobjs ++ aobjs, s.get? q.1 = some q.2 ∧ q.1 ≠ 76 ∧ q.1 ≠ 83)
    (F : Fr g L' h' m') (N : News g L' h' ((l, o) :: (76, tabObj ps') :: (os' ++ os1))) (l1 : @LT.lt Nat _ 76 l ∧ AllLt l (os' ++ os1)) (E2 : EndSt tobjs s1 h2 ps' tobjs' os') (m83 : (83, tabObj ps8') ∈ os1) (h83 : s1.get? 83 = some o83) (hA : TabA ps8' aobjs')
    (ha : ∀ q ∈ aobjs', q ∈ aobjs ∨ (q ∈ os1 ∧ @Ne Nat q.1 76 ∧ @Ne Nat q.1 83)) : AheadEnd (tobjs ++ aobjs) s h' ps' ps8' tobjs' aobjs' ∧ s.get? l = none ∧ h'.get? l = some o := by
  have hl : @LT.lt Nat _ 83 l := allLt_mem l1.2 (List.mem_append_right _ m83)
  refine ⟨ahead_end kp h0 F N (.tail _ (.head _)) (.tail _ (.tail _ (List.mem_append_right _ m83))) E2.tabS hA fun q hq => ?_, fresh2 kp N (.head _) (Nat.ne_of_gt l1.1) (Nat.ne_of_gt hl), (N _ (.head _)).1⟩
  rcases List.mem_append.mp hq with hq | hq
  · rcases E2.held q hq with e | e
    · refine .inr ⟨.tail _ (.tail _ (List.mem_append_left _ e)), E2.off q hq, fun e8 => ?_⟩
      have := (E2.new q e).2
      rw [e8, h83] at this; cases this
    · exact .inl (List.mem_append_left _ e)
  · rcases ha q hq with e | ⟨e, n1, n2⟩
    · exact .inl (List.mem_append_right _ e)
    · exact .inr ⟨.tail _ (.tail _ (List.mem_append_right _ e)), n1, n2⟩
set_option maxRecDepth 100000 in
set_option maxHeartbeats 1000000 in
theorem ahead_gives {prog : Program} {w : World} {p : Program} {loose : List Str} {mean : ExcName → Option Value} {mg mb : Str → Option Value} {dp un : Nat} {gd : Option (List Code)} {cn : Str} {cs : Scope} {a : Addr} {ccd : Value} {cl : List (Str × Addr)} {outer : List Env} {A₀ : Around} {base h₀ : Heap} {L : Addr} {m : Str → Option Value} {s : Shared} {Q E : Value → Shared → Prop}
    {codes : List Nat} {col : Int} {t u : Tok} {ps ps8 : Array Value} {tobjs aobjs : List (Addr × Obj)}
    (B : Below A₀ base outer h₀) (F : Fr h₀ L s.heap m) (X : (Mine.hd.heap_39 w.params).In h₀) (T : Top p loose mean mg mb h₀) (hk : cs.kind = .function) (hdp : dp + 6 < recursionLimit) (CH : CodeHd h₀ 80 76) (CA : CodeHd h₀ 87 83)
    (N : News h₀ L s.heap [(76, tabObj ps), (83, tabObj ps8)]) (hT : TabS ps tobjs) (hA : TabA ps8 aobjs) (hto : ∀ q ∈ tobjs ++ aobjs, s.heap.get? q.1 = some q.2 ∧ q.1 ≠ 76 ∧ q.1 ≠ 83) (hlen : codes.length = 144)
    (hc0 : 0 ≤ col) (hc1 : col ≤ 144)
    (hnone : (∀ k : Nat, (k : Int) < col → k < 144 → Blank codes k) → ∀ f h' tk' ps' ps8' tobjs' aobjs', AheadEnd (tobjs ++ aobjs) s.heap h' ps' ps8' tobjs' aobjs' → s.heap.get? f = none → h'.get? f = some (W.listOf #[] 0) → Q (.ref f) { s with heap := h', toks := tk' })
    (hhit : ∀ i : Nat, (i : Int) < col → IsLetter codes i → (∀ k : Nat, i < k → (k : Int) < col → k < 144 → Blank codes k) → ∀ f ti h' tk' ps' ps8' tobjs' aobjs', AheadEnd (tobjs ++ aobjs) s.heap h' ps' ps8' tobjs' aobjs' → s.heap.get? f = none → h'.get? f = some (W.listOf #[.int i ti] 0) → Q (.ref f) { s with heap := h', toks := tk' }) :
    wpAny (model prog w) (ktrTop dp un gd cn cs L a ccd cl outer) (call (.ref 88) [.str ⟨codes.toArray⟩ t, .int col u]) Q E s := by
  show Seen Mine.hd.heap_39 Challenge.rw_mr0158_01 _
  k_fill
  unfold Seen
  rcases hA with ⟨rfl, rfl⟩ | ⟨ca, oa, rfl, rfl, hoa⟩
  · refine wpAny_call ?_
    walk_at "mine enter2"
    rename_i g' L' h' kp' pk' F' N' B' X' T' eL'
    have CH' := codeHd_in CH F kp' (by simp)
    have CA' := codeHd_in CA F kp' (by simp)
    clear CH CA
    k_steps
    (rename Fr _ _ _ _ => F1)
    (rename News _ _ _ _ => N1)
    have hto1 : ∀ q ∈ tobjs, g'.get? q.1 = some q.2 ∧ q.1 ≠ 76 := fun q hq => ⟨kp' _ _ (hto q (List.mem_append_left _ hq)).1 (by have := (hto q (List.mem_append_left _ hq)).2; simpa using this), (hto q (List.mem_append_left _ hq)).2.1⟩
    obtain ⟨os1, N2, hoff1, hin⟩ := news_front (ps := ps) N1 (by k_mem)
    have n83 := (N1 (83, tabObj _) (by k_mem)).1
    have m83 := hin (83, tabObj _) (by k_mem) (show (83 : Nat) ≠ 76 by decide)
    refine search_gives (by assumption) F1 (by assumption) (by assumption) rfl (by ktr_room) CH' (fun q hq => N2 q (by rw [List.mem_singleton.mp hq]; exact .head _)) hT (fun q hq => ⟨F1.keep _ _ (hto1 q hq).1, (hto1 q hq).2⟩) hlen (N1 (_, fnObj _ _) (by k_mem)).1 (N1 (_, dict1 _ _ _ _) (by k_mem)).1 (by k_ne) (by k_ne) hc0 hc1 ?n ?h
    case n =>
      intro hbl ps' tobjs' os' h2 tk2 E2
      have F2 := keepsBut_fr F1 N2 E2.keeps
      have N3 := keepsBut_news F1 N2 hoff1 E2.keeps E2.tab E2.new
      k_steps
      (rename Fr _ _ _ _ => F3)
      (rename News _ _ _ _ => N4)
      have AE := ahead_fin kp' hto F3 N4 (by assumption) E2 m83 n83 (.inr ⟨_, _, rfl, rfl, ⟨_, _, by assumption, by assumption⟩⟩) (fun q hq => by rw [List.mem_singleton.mp hq]; exact .inr ⟨hin _ (by k_mem) (by k_ne), by k_ne, by k_ne⟩)
      exact hnone hbl _ _ _ _ _ _ _ AE.1 AE.2.1 AE.2.2
    case h =>
      intro i hi hlet hbl f ps' tobjs' os' objs h2 tk2 E2 ho HO
      have F2 := keepsBut_fr F1 N2 E2.keeps
      have N3 := keepsBut_news F1 N2 hoff1 E2.keeps E2.tab E2.new
      have Hd : Held tobjs g' (os' ++ os1) objs := fun q hq => (ho q hq).elim (fun e => .inr (List.mem_append_left _ e)) fun e => .inl ⟨(hto1 q e).1, e⟩
      k_steps
      (rename Fr _ _ _ _ => F3)
      (rename News _ _ _ _ => N4)
      have AE := ahead_fin kp' hto F3 N4 (by assumption) E2 m83 n83 (.inr ⟨_, _, rfl, rfl, ⟨_, _, by assumption, by assumption⟩⟩) (fun q hq => by rw [List.mem_singleton.mp hq]; exact .inr ⟨hin _ (by k_mem) (by k_ne), by k_ne, by k_ne⟩)
      exact hhit i hi hlet hbl _ _ _ _ _ _ _ _ AE.1 AE.2.1 AE.2.2
  · refine wpAny_call ?_
    walk_at "mine enter2"
    rename_i g' L' h' kp' pk' F' N' B' X' T' eL'
    have CH' := codeHd_in CH F kp' (by simp)
    have CA' := codeHd_in CA F kp' (by simp)
    clear CH CA
    k_steps
    (rename Fr _ _ _ _ => F1)
    (rename News _ _ _ _ => N1)
    have hto1 : ∀ q ∈ tobjs, g'.get? q.1 = some q.2 ∧ q.1 ≠ 76 := fun q hq => ⟨kp' _ _ (hto q (List.mem_append_left _ hq)).1 (by have := (hto q (List.mem_append_left _ hq)).2; simpa using this), (hto q (List.mem_append_left _ hq)).2.1⟩
    obtain ⟨os1, N2, hoff1, hin⟩ := news_front (ps := ps) N1 (by k_mem)
    have n83 := (N1 (83, tabObj _) (by k_mem)).1
    have m83 := hin (83, tabObj _) (by k_mem) (show (83 : Nat) ≠ 76 by decide)
    refine search_gives (by assumption) F1 (by assumption) (by assumption) rfl (by ktr_room) CH' (fun q hq => N2 q (by rw [List.mem_singleton.mp hq]; exact .head _)) hT (fun q hq => ⟨F1.keep _ _ (hto1 q hq).1, (hto1 q hq).2⟩) hlen (N1 (_, fnObj _ _) (by k_mem)).1 (N1 (_, dict1 _ _ _ _) (by k_mem)).1 (by k_ne) (by k_ne) hc0 hc1 ?n ?h
    case n =>
      intro hbl ps' tobjs' os' h2 tk2 E2
      have F2 := keepsBut_fr F1 N2 E2.keeps
      have N3 := keepsBut_news F1 N2 hoff1 E2.keeps E2.tab E2.new
      k_steps
      (rename Fr _ _ _ _ => F3)
      (rename News _ _ _ _ => N4)
      have AE := ahead_fin kp' hto F3 N4 (by assumption) E2 m83 n83 (.inr ⟨_, _, rfl, rfl, hoa⟩) (fun q hq => .inl hq)
      exact hnone hbl _ _ _ _ _ _ _ AE.1 AE.2.1 AE.2.2
    case h =>
      intro i hi hlet hbl f ps' tobjs' os' objs h2 tk2 E2 ho HO
      have F2 := keepsBut_fr F1 N2 E2.keeps
      have N3 := keepsBut_news F1 N2 hoff1 E2.keeps E2.tab E2.new
      have Hd : Held tobjs g' (os' ++ os1) objs := fun q hq => (ho q hq).elim (fun e => .inr (List.mem_append_left _ e)) fun e => .inl ⟨(hto1 q e).1, e⟩
      k_steps
      (rename Fr _ _ _ _ => F3)
      (rename News _ _ _ _ => N4)
      have AE := ahead_fin kp' hto F3 N4 (by assumption) E2 m83 n83 (.inr ⟨_, _, rfl, rfl, hoa⟩) (fun q hq => .inl hq)
      exact hhit i hi hlet hbl _ _ _ _ _ _ _ _ AE.1 AE.2.1 AE.2.2
end Mine

/-! ## M1 -/
namespace Mine
section
variable {prog : Program} {w : World} {A : Around} {E : Value → Shared → Prop} {s : Shared} {h₀ : Heap} {L l : Addr} {m : Str → Option Value} {news : List (Addr × Obj)} {value slice : PySem.Expr} {vs ws : List Value} {ns ms : List Int} {vl vu vk : Value} {lo hi st : Option Int} {Q : Value → Shared → Prop}
/-- a stepped slice of a list of ints is a list of ints -/
theorem slice3_ints {ops : List Value} (F : Fr h₀ L s.heap m) (N : News h₀ L s.heap news) (hl : h₀.IsList l vs.toArray) (hI : IntsAre vs ns) (pl : IsPart vl lo) (pu : IsPart vu hi) (pk : IsPart vk st) (h0 : st ≠ some 0)
    (h : ∀ D h' ws ms, Fr h₀ L h' m → News h₀ L h' ((D, listOf (List.toArray ws) 0) :: news) → (∀ p ∈ news, p.1 < D) → IntsAre ws ms → Q (.ref D) { s with heap := h' })
    (hs : subscripted slice false (.ref l) (.ref s.heap.objs.size) = operate ops (getItem (.ref l) (.ref s.heap.objs.size))) (ht : ∀ r, letTemporaryGo value (.ref l) r = pure ()) (hz : vs.toArray.size ≤ sizeLine) :
    wpAny (model prog w) A (subscriptTail value slice (.ref l) (.ref s.heap.objs.size)) Q E { s with heap := s.heap.push { cls := .type "slice", data := .fields #[vl, vu, vk] } } := by
  have hl' : s.heap.IsList l vs.toArray := by obtain ⟨o, e, r⟩ := hl; exact ⟨o, F.keep _ _ e, r⟩
  exact kmk_slice3_lit F N hl' pl pu pk h0 rfl (fun D h' F' N' l1 => h D h' _ _ F' N' l1 (hI.pick lo hi st)) hs ht hz
/-- a list of ints of the ledger is summed -/
theorem sum_led (hh : A.handled = none) (F : Fr h₀ L s.heap m) (N : News h₀ L s.heap ((l, listOf (List.toArray ws) 0) :: news)) (hI : IntsAre ws ms)
    (h : ∀ x t h' tk, Fr h₀ L h' m → News h₀ L h' news → Q (.int x t) { s with heap := h', toks := tk }) :
    wpAny (model prog w) A (call (.builtin "sum") [.ref l]) Q E s := by
  have hl : s.heap.IsList l ws.toArray := ⟨_, (N _ (.head _)).1, rfl, _, rfl⟩
  obtain ⟨xs, e⟩ := hI.allInts.items
  rw [e] at hl
  refine sum_intListG hh hl fun h' tk t' hk => h _ _ h' tk (fr_keeps F hk) (news_keeps (news_sub N fun q hq => .tail _ hq) hk)
end
end Mine
theorem Mine.LN39 : True := by
  k_with "subscriptTail Name Slice ref ref" => (k_here; (with_reducible show wpAny _ _ (subscriptTail _ (PySem.Expr.Slice _ _ (some _) _) (Value.ref _) (Value.ref _)) _ _ _); k_dflt (refine' Mine.slice3_ints ?zqF ?zqN ?zql ?zqi ?zqp ?zqq ?zqk ?zqo ?_ ?zqs ?zqt ?zqz; (case zqF => k_asm); (case zqN => k_asm); (case zql => assumption); (case zqi => assumption); (case zqp => kmk_part); (case zqq => kmk_part); (case zqk => kmk_part); (case zqo => decide); (case zqs => with_unfolding_all rfl); (case zqt => kmk_pure); (case zqz => kmk_size)); intro _ _ _ _ _ _ l1 _; clear l1)
  exact trivial
theorem Mine.LN40 : True := by
  k_with "call builtin:sum" => (k_here; k_dflt (refine' Mine.sum_led ?zqh ?zqF ?zqN ?zqi ?_; (case zqh => exact rfl); (case zqF => k_asm); (case zqN => k_asm); (case zqi => assumption)); (try (rename IntsAre _ _ => hI9'z; clear hI9'z)); intro _ _ _ _ _ _; (try dsimp only))
  exact trivial

/-! ## M2 -/
namespace Mine
/-- two addresses differ (a word that omega does not see) -/
noncomputable def Dif (a b : Addr) : Prop := a ≠ b
theorem Dif.ne {a b : Addr} (h : Dif a b) : a ≠ b := h
theorem Dif.en {a b : Addr} (h : Dif a b) : b ≠ a := fun e => h e.symm
noncomputable def NeAll (d : Addr) : List (Addr × Obj) → Prop
  | [] => True
  | p :: r => Dif p.1 d ∧ NeAll d r
theorem neAll_of {d : Addr} : ∀ {l : List (Addr × Obj)}, (∀ p ∈ l, p.1 ≠ d) → NeAll d l
  | [], _ => trivial
  | p :: r, h => ⟨h p (.head _), neAll_of fun q hq => h q (.tail _ hq)⟩
theorem news_ne {h₀ h : Heap} {L x : Addr} {news : List (Addr × Obj)} (N : News h₀ L h news) (e : h.get? x = none) : ∀ p ∈ news, p.1 ≠ x := fun p hp q => by
  have := (N p hp).1
  rw [q, e] at this; cases this
theorem news_add {h₀ h h' : Heap} {L x : Addr} {o : Obj} {m : Str → Option Value} {news : List (Addr × Obj)} (F : Fr h₀ L h m) (N : News h₀ L h' news) (e : h.get? x = none) (e' : h'.get? x = some o) : News h₀ L h' ((x, o) :: news) := fun q hq => by
  rcases List.mem_cons.mp hq with rfl | hq
  · refine ⟨e', fun q => ?_, ?_⟩
    · obtain ⟨oL, _, _, eL, _⟩ := F.ns
      change x = L at q
      rw [q, eL] at e; cases e
    · cases r : h₀.get? x with
      | none => rfl
      | some o => rw [F.keep _ _ r] at e; cases e
  · exact N q hq
end Mine

/-! ## M3a -/
namespace Mine
noncomputable def lawStmt : Stmt := Challenge.pw_mr0158_01.main.body.getD 17 (.Pass ⟨0, 0, 0, 0⟩)
noncomputable def lawBody : List Stmt := match lawStmt with | .FunctionDef _ _ b _ _ _ _ _ _ _ => b | _ => []
noncomputable def lawScope : Scope := match lawStmt with | .FunctionDef _ _ _ _ _ _ s _ _ _ => s | _ => { kind := .function, names := [], isGenerator := false, isCoroutine := false }
noncomputable def lawFor : Stmt := lawBody.getD 8 (.Pass ⟨0, 0, 0, 0⟩)
noncomputable def forBody : List Stmt := match lawFor with | .For _ _ b _ _ => b | _ => []
end Mine

/-! ## N0 -/
namespace Mine
section
variable {prog : Program} {w : World} {A : Around} {E : Value → Shared → Prop} {s : Shared} {h₀ : Heap} {L : Addr} {m : Str → Option Value} {env : Env}
/-- a comprehension by an invariant over its made list and its ledger -/
theorem rest_ind {elt : PySem.Expr} {x : Str} {scope : Scope} {cl : List (Str × Addr)} {S : List (Addr × Obj) → Prop} {P : Nat → Value → Prop} {Fin : List Value → List (Addr × Obj) → Prop} {n : Nat} {news : List (Addr × Obj)} (J : Nat → List Value → List (Addr × Obj) → Prop) (h0 : J 0 [] news)
    (turn : ∀ i v I oI C oC D m₂ ys nw h tk (E' : Value → Shared → Prop), i < n → J i ys nw → P i v → LCg.NsObj oC m₂ → m₂ x = some v → Fr h₀ L h m → News h₀ L h ((I, oI) :: (C, oC) :: (D, LCg.lst ys) :: nw) → LCg.Off3 I C D nw → ((@Ne Nat I C) ∧ (@Ne Nat I D) ∧ (@Ne Nat C D)) →
      wpAny (model prog w) A (eval elt (compEnvC scope cl C env)) (LCg.CompEnd h₀ L m { s with heap := h, toks := tk } I oI C oC D (LCg.lst ys) S (fun y nw' => J (i + 1) (ys ++ [y]) nw')) E' { s with heap := h, toks := tk })
    (fin : ∀ ys nw, J n ys nw → Fin ys nw) : LCg.CompRest prog w A h₀ L m env elt x scope cl s S P Fin n 0 [] news := by
  have key : ∀ k i ys nw, i + k = n → J i ys nw → LCg.CompRest prog w A h₀ L m env elt x scope cl s S P Fin k i ys nw := by
    intro k
    induction k with
    | zero => intro i ys nw e hj; exact LCg.CompRest.zero (fin ys nw (by rw [show n = i by omega]; exact hj))
    | succ k ih =>
      intro i ys nw e hj
      refine LCg.CompRest.succ ?_
      intro v I oI C oC D m₂ h tk E' hP hC hx F N off ne
      refine wpAny_mono (turn i v I oI C oC D m₂ ys nw h tk E' (by omega) hj hP hC hx F N off ne) (fun y s' hq => ?_) fun _ _ e => e
      obtain ⟨h', tk', nw', e', F', N', off', hS, hr⟩ := hq
      exact ⟨h', tk', nw', e', F', N', off', hS, ih _ _ _ (by omega) hr⟩
  exact key n 0 [] news (by omega) h0
theorem rest_indT {ct elt : PySem.Expr} {x : Str} {scope : Scope} {cl : List (Str × Addr)} {S : List (Addr × Obj) → Prop} {P : Nat → Value → Prop} {Fin : List Value → List (Addr × Obj) → Prop} {n : Nat} {news : List (Addr × Obj)} (J : Nat → List Value → List (Addr × Obj) → Prop) (h0 : J 0 [] news)
    (turn : ∀ i v I oI C oC D m₂ ys nw h tk (E' : Value → Shared → Prop), i < n → J i ys nw → P i v → LCg.NsObj oC m₂ → m₂ x = some v → Fr h₀ L h m → News h₀ L h ((I, oI) :: (C, oC) :: (D, LCg.lst ys) :: nw) → LCg.Off3 I C D nw → ((@Ne Nat I C) ∧ (@Ne Nat I D) ∧ (@Ne Nat C D)) →
      wpAny (model prog w) A (isTrue ct (compEnvC scope cl C env) (eval ct (compEnvC scope cl C env))) (fun ok s' => if ok = true then
        wpAny (model prog w) A (eval elt (compEnvC scope cl C env)) (LCg.CompEnd h₀ L m { s with heap := h, toks := tk } I oI C oC D (LCg.lst ys) S (fun y nw' => J (i + 1) (ys ++ [y]) nw')) E' s'
        else LCg.CompEnd h₀ L m { s with heap := h, toks := tk } I oI C oC D (LCg.lst ys) S (fun _ nw' => J (i + 1) ys nw') Value.none s') E' { s with heap := h, toks := tk })
    (fin : ∀ ys nw, J n ys nw → Fin ys nw) : LCt.CompRestT prog w A h₀ L m env ct elt x scope cl s S P Fin n 0 [] news := by
  have key : ∀ k i ys nw, i + k = n → J i ys nw → LCt.CompRestT prog w A h₀ L m env ct elt x scope cl s S P Fin k i ys nw := by
    intro k
    induction k with
    | zero => intro i ys nw e hj; exact LCt.CompRestT.zero (fin ys nw (by rw [show n = i by omega]; exact hj))
    | succ k ih =>
      intro i ys nw e hj
      refine LCt.CompRestT.succ ?_
      intro v I oI C oC D m₂ h tk E' hP hC hx F N off ne
      refine wpAny_mono (turn i v I oI C oC D m₂ ys nw h tk E' (by omega) hj hP hC hx F N off ne) (fun ok s' hq => ?_) fun _ _ e => e
      cases ok with
      | true =>
        simp only [if_true] at hq ⊢
        refine wpAny_mono hq (fun y s₃ hr => ?_) fun _ _ e => e
        obtain ⟨h', tk', nw', e', F', N', off', hS, hr⟩ := hr
        exact ⟨h', tk', nw', e', F', N', off', hS, ih _ _ _ (by omega) hr⟩
      | false =>
        simp only [Bool.false_eq_true, if_false] at hq ⊢
        obtain ⟨h', tk', nw', e', F', N', off', hS, hr⟩ := hq
        exact ⟨h', tk', nw', e', F', N', off', hS, ih _ _ _ (by omega) hr⟩
  exact key n 0 [] news (by omega) h0
end
/-- a name of the frame holds v -/
noncomputable def MapHas (m : Str → Option Value) (x : Str) (v : Value) : Prop := m x = some v
theorem MapHas.get {m : Str → Option Value} {x : Str} {v : Value} (h : MapHas m x v) : m x = some v := h
theorem mem_of {a : Addr × Obj} {l : List (Addr × Obj)} (h : a ∈ l) : List.Mem a l := h
end Mine
local macro_rules | `(tactic| k_mem) => `(tactic| first | with_reducible assumption | ((refine Mine.mem_of ?_); with_reducible assumption))
theorem Mine.LN41 : True := by
  k_with "CompEnd" => (refine Mine.SStop.out ?_)
  exact trivial
theorem Mine.LN42 : True := by
  k_with "CompSrc" => (refine Mine.SStop.out ?_)
  exact trivial
theorem Mine.LN43 : True := by
  k_with "CompSrcT" => (refine Mine.SStop.out ?_)
  exact trivial
theorem Mine.LN44 : True := by
  k_with "eval Name" => (k_here; (with_reducible show wpAny _ _ (eval (Expr.Name (Str.ofString "wheel") _) _) _ _ _); (with_reducible rename Mine.MapHas _ (Str.ofString "wheel") _ => hM'z); (refine nameX_L (by k_asm) (by with_unfolding_all exact hM'z) ?_))
  exact trivial
theorem Mine.LN45 : True := by
  k_with "eval Name" => (k_here; (with_reducible show wpAny _ _ (eval (Expr.Name (Str.ofString "colours") _) _) _ _ _); (with_reducible rename Mine.MapHas _ (Str.ofString "colours") _ => hM'z); (refine nameX_L (by k_asm) (by with_unfolding_all exact hM'z) ?_))
  exact trivial
theorem Mine.LN46 : True := by
  k_with "eval Name" => (k_here; (with_reducible show wpAny _ _ (eval (Expr.Name (Str.ofString "col") _) _) _ _ _); (with_reducible rename Mine.MapHas _ (Str.ofString "col") _ => hM'z); (refine nameX_L (by k_asm) (by with_unfolding_all exact hM'z) ?_))
  exact trivial
theorem Mine.LN47 : True := by
  k_with "eval Name" => (k_here; (with_reducible show wpAny _ _ (eval (Expr.Name (Str.ofString "backs") _) _) _ _ _); (with_reducible rename Mine.MapHas _ (Str.ofString "backs") _ => hM'z); (refine nameX_L (by k_asm) (by with_unfolding_all exact hM'z) ?_))
  exact trivial
theorem Mine.LN48 : True := by
  k_with "eval Name" => (k_here; (with_reducible show wpAny _ _ (eval (Expr.Name (Str.ofString "letter") _) _) _ _ _); (with_reducible rename Mine.MapHas _ (Str.ofString "letter") _ => hM'z); (refine nameX_L (by k_asm) (by with_unfolding_all exact hM'z) ?_))
  exact trivial
theorem Mine.LN49 : True := by
  k_with "eval Name" => (k_here; (with_reducible show wpAny _ _ (eval (Expr.Name (Str.ofString "share") _) _) _ _ _); (with_reducible rename Mine.MapHas _ (Str.ofString "share") _ => hM'z); (refine nameX_L (by k_asm) (by with_unfolding_all exact hM'z) ?_))
  exact trivial
theorem Mine.LN50 : True := by
  k_with "eval Name" => (k_here; (with_reducible show wpAny _ _ (eval (Expr.Name (Str.ofString "value") _) _) _ _ _); (with_reducible rename Mine.MapHas _ (Str.ofString "value") _ => hM'z); (refine nameX_L (by k_asm) (by with_unfolding_all exact hM'z) ?_))
  exact trivial
theorem Mine.LN51 : True := by
  k_with "eval Name" => (k_here; (with_reducible show wpAny _ _ (eval (Expr.Name (Str.ofString "light") _) _) _ _ _); (with_reducible rename Mine.MapHas _ (Str.ofString "light") _ => hM'z); (refine nameX_L (by k_asm) (by with_unfolding_all exact hM'z) ?_))
  exact trivial
theorem Mine.LN52 : True := by
  k_with "eval Name" => (k_here; (with_reducible show wpAny _ _ (eval (Expr.Name (Str.ofString "strength") _) _) _ _ _); (with_reducible rename Mine.MapHas _ (Str.ofString "strength") _ => hM'z); (refine nameX_L (by k_asm) (by with_unfolding_all exact hM'z) ?_))
  exact trivial
theorem Mine.LN53 : True := by
  k_with "eval Name" => (k_here; (with_reducible show wpAny _ _ (eval (Expr.Name (Str.ofString "angle") _) _) _ _ _); (with_reducible rename Mine.MapHas _ (Str.ofString "angle") _ => hM'z); (refine nameX_L (by k_asm) (by with_unfolding_all exact hM'z) ?_))
  exact trivial
theorem Mine.LN54 : True := by
  k_with "eval Name" => (k_here; (with_reducible show wpAny _ _ (eval (Expr.Name (Str.ofString "numbers") _) _) _ _ _); (with_reducible rename Mine.MapHas _ (Str.ofString "numbers") _ => hM'z); (refine nameX_L (by k_asm) (by with_unfolding_all exact hM'z) ?_))
  exact trivial
theorem Mine.LN55 : True := by
  k_with "eval Name" => (k_here; (with_reducible show wpAny _ _ (eval (Expr.Name (Str.ofString "drawn") _) _) _ _ _); (with_reducible rename Mine.MapHas _ (Str.ofString "drawn") _ => hM'z); (refine nameX_L (by k_asm) (by with_unfolding_all exact hM'z) ?_))
  exact trivial

/-! ## N1a -/
namespace Mine
noncomputable abbrev lawEnv (L fa : Addr) (cd : Value) : Env := envOfC (Str.ofString "law") lawScope L fa cd
/-- the ledger of the law's loop: three cells, two tables, the rest -/
noncomputable abbrev led (L : Addr) (c5 c4 c3 : Obj) (ps ps8 : Array Value) (rest : List (Addr × Obj)) : List (Addr × Obj) :=
  (L + 1 + 1 + 1 + 1 + 1, c5) :: (L + 1 + 1 + 1 + 1, c4) :: (L + 1 + 1 + 1, c3) :: (76, tabObj ps) :: (83, tabObj ps8) :: rest
noncomputable def Off5 (L : Addr) (rest : List (Addr × Obj)) : Prop := ∀ q ∈ rest, q.1 ≠ L + 1 + 1 + 1 + 1 + 1 ∧ q.1 ≠ L + 1 + 1 + 1 + 1 ∧ q.1 ≠ L + 1 + 1 + 1 ∧ q.1 ≠ 76 ∧ q.1 ≠ 83
theorem off5_new {h₀ h : Heap} {L x : Addr} {c5 c4 c3 : Obj} {ps ps8 : Array Value} {rest : List (Addr × Obj)} (N : News h₀ L h (led L c5 c4 c3 ps ps8 rest)) (e : h.get? x = none) :
    x ≠ L + 1 + 1 + 1 + 1 + 1 ∧ x ≠ L + 1 + 1 + 1 + 1 ∧ x ≠ L + 1 + 1 + 1 ∧ x ≠ 76 ∧ x ≠ 83 := by
  have key : ∀ p ∈ led L c5 c4 c3 ps ps8 rest, x ≠ p.1 := fun p hp q => by
    have := (N p hp).1
    rw [← q, e] at this; cases this
  exact ⟨key _ (.head _), key _ (.tail _ (.head _)), key _ (.tail _ (.tail _ (.head _))), key _ (.tail _ (.tail _ (.tail _ (.head _)))), key _ (.tail _ (.tail _ (.tail _ (.tail _ (.head _)))))⟩
theorem new_news {h₀ h h' : Heap} {L x : Addr} {o : Obj} {m : Str → Option Value} (F : Fr h₀ L h m) (e : h.get? x = none) (e' : h'.get? x = some o) : h'.get? x = some o ∧ x ≠ L ∧ h₀.get? x = none := by
  refine ⟨e', fun q => ?_, ?_⟩
  · obtain ⟨oL, _, _, eL, _⟩ := F.ns
    rw [q, eL] at e; cases e
  · cases r : h₀.get? x with
    | none => rfl
    | some o => rw [F.keep _ _ r] at e; cases e
theorem ahead_led {h₀ h h' : Heap} {L f : Addr} {o c5 c4 c3 : Obj} {m : Str → Option Value} {ps ps8 ps' ps8' : Array Value} {rest tobjs aobjs tobjs' aobjs' : List (Addr × Obj)} (F : Fr h₀ L h m) (N : News h₀ L h (led L c5 c4 c3 ps ps8 rest)) (O : Off5 L rest) (hL : @LT.lt Nat _ 83 L)
    (hta : ∀ q ∈ tobjs ++ aobjs, q ∈ rest) (AE : AheadEnd (tobjs ++ aobjs) h h' ps' ps8' tobjs' aobjs') (hf : h.get? f = none) (hf' : h'.get? f = some o) :
    Fr h₀ L h' m ∧ News h₀ L h' (led L c5 c4 c3 ps' ps8' ((f, o) :: ((tobjs' ++ aobjs') ++ rest))) ∧ Off5 L ((f, o) :: ((tobjs' ++ aobjs') ++ rest)) := by
  have n76 := N (76, tabObj ps) (.tail _ (.tail _ (.tail _ (.head _))))
  have n83 := N (83, tabObj ps8) (.tail _ (.tail _ (.tail _ (.tail _ (.head _)))))
  have kp : ∀ b o, @Ne Nat b 76 → @Ne Nat b 83 → h.get? b = some o → h'.get? b = some o := fun b o n1 n2 e => AE.keeps b o n1 n2 e
  refine ⟨⟨F.ns.at' fun o e => kp _ o (by omega) (by omega) e, fun b o e => kp b o (fun q => ?_) (fun q => ?_) (F.keep b o e), F.above⟩, fun p hp => ?_, fun p hp => ?_⟩
  · have := n76.2.2
    rw [show (76, tabObj ps).1 = (76 : Addr) from rfl, ← q, e] at this; cases this
  · have := n83.2.2
    rw [show (83, tabObj ps8).1 = (83 : Addr) from rfl, ← q, e] at this; cases this
  · rcases List.mem_cons.mp hp with rfl | hp
    · have z := N _ (.head _)
      exact ⟨kp _ _ (by show @Ne Nat (L + 1 + 1 + 1 + 1 + 1) 76; omega) (by show @Ne Nat (L + 1 + 1 + 1 + 1 + 1) 83; omega) z.1, z.2⟩
    rcases List.mem_cons.mp hp with rfl | hp
    · have z := N _ (.tail _ (.head _))
      exact ⟨kp _ _ (by show @Ne Nat (L + 1 + 1 + 1 + 1) 76; omega) (by show @Ne Nat (L + 1 + 1 + 1 + 1) 83; omega) z.1, z.2⟩
    rcases List.mem_cons.mp hp with rfl | hp
    · have z := N _ (.tail _ (.tail _ (.head _)))
      exact ⟨kp _ _ (by show @Ne Nat (L + 1 + 1 + 1) 76; omega) (by show @Ne Nat (L + 1 + 1 + 1) 83; omega) z.1, z.2⟩
    rcases List.mem_cons.mp hp with rfl | hp
    · exact ⟨AE.tab, n76.2⟩
    rcases List.mem_cons.mp hp with rfl | hp
    · exact ⟨AE.tab8, n83.2⟩
    rcases List.mem_cons.mp hp with rfl | hp
    · exact new_news F hf hf'
    have old : ∀ q ∈ rest, h'.get? q.1 = some q.2 ∧ q.1 ≠ L ∧ h₀.get? q.1 = none := fun q hq => by
      have z := N q (.tail _ (.tail _ (.tail _ (.tail _ (.tail _ hq)))))
      exact ⟨kp _ _ (O q hq).2.2.2.1 (O q hq).2.2.2.2 z.1, z.2⟩
    rcases List.mem_append.mp hp with hp | hp
    · have z := AE.held p hp
      rcases z.2.2.2 with e | e
      · exact new_news F e z.1
      · exact old p (hta p e)
    · exact old p hp
  · rcases List.mem_cons.mp hp with rfl | hp
    · exact off5_new N hf
    rcases List.mem_append.mp hp with hp | hp
    · have z := AE.held p hp
      rcases z.2.2.2 with e | e
      · exact off5_new N e
      · exact O p (hta p e)
    · exact O p hp
theorem list_at {h₀ h : Heap} {L l : Addr} {news : List (Addr × Obj)} {vs : List Value} {c : Nat} (N : News h₀ L h news) (hm : (l, W.listOf vs.toArray c) ∈ news) : h.IsList l vs.toArray := ⟨_, (N _ hm).1, rfl, _, rfl⟩
/-- what the backs are -/
noncomputable def backsOf (mark : Int) (places : List Int) : List Int := (places.filter (fun p => decide (0 ≤ p))).map fun p => (mark - 1 - p).fmod 72
theorem take_succ_at {places : List Int} {i : Nat} {p : Int} (h : places[i]? = some p) : places.take (i + 1) = places.take i ++ [p] := by
  rw [List.take_add_one, h]; rfl
theorem backs_yes {mark : Int} {places : List Int} {i : Nat} {p : Int} (h : places[i]? = some p) (h0 : 0 ≤ p) : backsOf mark (places.take (i + 1)) = backsOf mark (places.take i) ++ [(mark - 1 - p).fmod 72] := by
  rw [take_succ_at h]; unfold backsOf
  rw [List.filter_append, List.map_append]
  simp [h0]
theorem backs_no {mark : Int} {places : List Int} {i : Nat} {p : Int} (h : places[i]? = some p) (h0 : ¬ 0 ≤ p) : backsOf mark (places.take (i + 1)) = backsOf mark (places.take i) := by
  rw [take_succ_at h]; unfold backsOf
  rw [List.filter_append, List.map_append]
  simp [h0]
theorem backs_len {mark : Int} {places : List Int} (h : places.length = 6) : (backsOf mark places).length < 64 := by
  unfold backsOf
  rw [List.length_map]
  have := List.length_filter_le (fun p => decide (0 ≤ p)) places
  omega
theorem mem_led {L : Addr} {c5 c4 c3 : Obj} {ps ps8 : Array Value} {rest : List (Addr × Obj)} {q : Addr × Obj} (h : q ∈ rest) : q ∈ led L c5 c4 c3 ps ps8 rest := .tail _ (.tail _ (.tail _ (.tail _ (.tail _ h))))
theorem off5_cons {L D : Addr} {o c5 c4 c3 : Obj} {ps ps8 : Array Value} {rest : List (Addr × Obj)} (O : Off5 L rest) (l : ∀ q ∈ led L c5 c4 c3 ps ps8 rest, q.1 < D) : Off5 L ((D, o) :: rest) := by
  intro q hq
  rcases List.mem_cons.mp hq with rfl | hq
  · have h1 := ltN (l _ (.head _)); have h2 := ltN (l _ (.tail _ (.head _))); have h3 := ltN (l _ (.tail _ (.tail _ (.head _)))); have h4 := ltN (l _ (.tail _ (.tail _ (.tail _ (.head _))))); have h5 := ltN (l _ (.tail _ (.tail _ (.tail _ (.tail _ (.head _))))))
    exact ⟨Nat.ne_of_gt h1, Nat.ne_of_gt h2, Nat.ne_of_gt h3, Nat.ne_of_gt h4, Nat.ne_of_gt h5⟩
  · exact O q hq
theorem led_in {h₀ h : Heap} {L : Addr} {c5 c4 c3 : Obj} {ps ps8 : Array Value} {rest : List (Addr × Obj)} {q : Addr × Obj} (N : News h₀ L h (q :: led L c5 c4 c3 ps ps8 rest)) : News h₀ L h (led L c5 c4 c3 ps ps8 (q :: rest)) := by
  refine news_sub N fun p hp => ?_
  rcases List.mem_cons.mp hp with rfl | hp
  · exact .tail _ (.head _)
  rcases List.mem_cons.mp hp with rfl | hp
  · exact .tail _ (.tail _ (.head _))
  rcases List.mem_cons.mp hp with rfl | hp
  · exact .tail _ (.tail _ (.tail _ (.head _)))
  rcases List.mem_cons.mp hp with rfl | hp
  · exact .tail _ (.tail _ (.tail _ (.tail _ (.head _))))
  rcases List.mem_cons.mp hp with rfl | hp
  · exact .tail _ (.tail _ (.tail _ (.tail _ (.tail _ (.head _)))))
  rcases List.mem_cons.mp hp with rfl | hp
  · exact .head _
  · exact .tail _ (mem_led hp)
theorem two_led {L : Addr} {c5 c4 c3 : Obj} {ps ps8 : Array Value} {rest : List (Addr × Obj)} : ∀ q ∈ [(76, tabObj ps), (83, tabObj ps8)], q ∈ led L c5 c4 c3 ps ps8 rest := fun q hq => by
  rcases List.mem_cons.mp hq with rfl | hq
  · exact .tail _ (.tail _ (.tail _ (.head _)))
  · rw [List.mem_singleton.mp hq]; exact .tail _ (.tail _ (.tail _ (.tail _ (.head _))))
theorem told_off {L : Addr} {c4 c3 : Obj} {ps ps8 : Array Value} {rest : List (Addr × Obj)} (hL : @LT.lt Nat _ 83 L) (O : Off5 L rest) : ∀ p ∈ (L + 1 + 1 + 1 + 1, c4) :: (L + 1 + 1 + 1, c3) :: (76, tabObj ps) :: (83, tabObj ps8) :: rest, p.1 ≠ L + 1 + 1 + 1 + 1 + 1 := fun p hp => by
  refine neN ?_
  rcases List.mem_cons.mp hp with rfl | hp
  · show @Ne Nat (L + 1 + 1 + 1 + 1) (L + 1 + 1 + 1 + 1 + 1); omega
  rcases List.mem_cons.mp hp with rfl | hp
  · show @Ne Nat (L + 1 + 1 + 1) (L + 1 + 1 + 1 + 1 + 1); omega
  rcases List.mem_cons.mp hp with rfl | hp
  · show @Ne Nat 76 (L + 1 + 1 + 1 + 1 + 1); omega
  rcases List.mem_cons.mp hp with rfl | hp
  · show @Ne Nat 83 (L + 1 + 1 + 1 + 1 + 1); omega
  exact (O p hp).1
end Mine
theorem Mine.LN56 : True := by
  k_with "call ref" => (k_here; (with_reducible show wpAny _ _ (call (Value.ref 88) _) _ _ _); (refine Mine.SStop.out ?_))
  exact trivial
theorem Mine.LN57 : True := by
  k_with "call builtin:sorted" => (k_here; (refine Mine.SStop.out ?_))
  exact trivial
theorem Mine.LN58 : True := by
  k_with "eval ListComp" => (k_here; (with_reducible show wpAny _ _ (eval (Expr.ListComp _ [⟨Expr.Name _ _, _, [_], 0⟩] _ _) _) _ _ _); k_dflt (refine' LCt.ListComp_T (F₀ := by k_asm) ?zqc1 ?zqc2 ?zqc3 ?zqc4 ?zqc5 ?_; (case zqc1 => with_unfolding_all rfl); (case zqc2 => decide); (case zqc3 => rfl); (case zqc4 => decide); (case zqc5 => rfl)))
  exact trivial
theorem Mine.LN59 : True := by
  k_with "eval ListComp" => (k_here; (with_reducible show wpAny _ _ (eval (Expr.ListComp _ [⟨Expr.Name _ _, _, [], 0⟩] _ _) _) _ _ _); k_dflt (refine' LCg.ListComp_U (F₀ := by k_asm) ?zqc1 ?zqc2 ?zqc3 ?zqc4 ?zqc5 ?_; (case zqc1 => with_unfolding_all rfl); (case zqc2 => decide); (case zqc3 => rfl); (case zqc4 => decide); (case zqc5 => rfl)))
  exact trivial
theorem Mine.LN60 : True := by
  k_with "storeName" => (k_here; (with_reducible show wpAny _ _ (storeName _ (Str.ofString "told") _) _ _ _); (refine Mine.SStop.out ?_))
  exact trivial
theorem Mine.LN61 : True := by
  k_with "storeName" => (k_here; (with_reducible show wpAny _ _ (storeName _ (Str.ofString "mark") _) _ _ _); (refine Mine.SStop.out ?_))
  exact trivial
theorem Mine.LN62 : True := by
  k_with "subscriptTail Name Slice ref ref" => (k_here; (with_reducible show wpAny _ _ (subscriptTail _ (PySem.Expr.Slice none (some _) none _) (Value.ref _) (Value.ref _)) _ _ _); k_dflt (refine' kmk_slice_ints ?zqF ?zqN ?zql ?zqp ?zqq ?zqi ?zqm ?zqc ?_ ?zqs ?zqt ?zqz; (case zqF => k_asm); (case zqN => k_asm); (case zql => exact Mine.list_at (by k_asm) (by k_mem)); (case zqp => kmk_part); (case zqq => kmk_part); (case zqi => with_reducible assumption); (case zqm => exact kmk_upto (by with_reducible assumption) (by decide)); (case zqc => exact rfl); (case zqs => with_unfolding_all rfl); (case zqt => kmk_pure); (case zqz => with_reducible assumption)); intro _ _ _ _ _ _ _ _ _)
  exact trivial
theorem Mine.LN63 : True := by
  k_with "compareOp NotEq ref ref" => (k_here; (refine Mine.SStop.out ?_))
  exact trivial
theorem Mine.LN64 : True := by
  k_with "compareOp Eq ref ref" => (k_here; (refine Mine.SStop.out ?_))
  exact trivial
theorem Mine.LN65 : True := by
  k_with "execs cons" => (k_here; (with_reducible show wpAny _ _ (execs (Stmt.Assign [Expr.Name (Str.ofString "letter") _] _ _ :: _) _) _ _ _); (refine Mine.SStop.out ?_))
  exact trivial
theorem Mine.LN66 : True := by
  k_with "execs cons" => (k_here; (with_reducible show wpAny _ _ (execs (Stmt.Assign [Expr.Tuple [Expr.Name (Str.ofString "red") _, _, _] _ _] _ _ :: _) _) _ _ _); (refine Mine.SStop.out ?_))
  exact trivial
theorem Mine.LN67 : True := by
  k_with "execs cons" => (k_here; (with_reducible show wpAny _ _ (execs (Stmt.For (Expr.Name (Str.ofString "painted") _) _ _ _ _ :: _) _) _ _ _); (refine Mine.SStop.out ?_))
  exact trivial

/-! ## N1b -/
namespace Mine
set_option maxRecDepth 100000 in
set_option maxHeartbeats 1000000 in
theorem turn1b {prog : Program} {w : World} {p : Program} {loose : List Str} {mean : ExcName → Option Value} {mg mb : Str → Option Value} {fa : Addr} {cd : Value} {base h₀ : Heap} {L : Addr} {m : Str → Option Value} {s : Shared} {Q : Flow → Shared → Prop} {E : Value → Shared → Prop}
    {c5 c4 c3 : Obj} {ps ps8 : Array Value} {rest : List (Addr × Obj)} {mark : Int} {tm : Tok} {Ds f : Addr} {vs1 tvs : List Value} {ns1 T : List Int} {cs1 : Nat}
    (B : Below callerA base [] h₀) (F : Fr h₀ L s.heap m) (X : (Mine.hd.heap_39 w.params).In h₀) (TT : Top p loose mean mg mb h₀)
    (N : News h₀ L s.heap (led L c5 c4 c3 ps ps8 rest)) 
    (d5 : c5.data = .cell (some (.ref f))) (d4 : c4.data = .cell (some (.int mark tm)))
    (hm : (Ds, W.listOf vs1.toArray cs1) ∈ rest) (hI : IntsAre vs1 ns1) (hz1 : vs1.toArray.size ≤ sizeLine) (hf : (f, W.listOf tvs.toArray 0) ∈ rest) (hIT : IntsAre tvs T) (hb : MapHas m (Str.ofString "backs") (.ref Ds))
    (hEq : T = (ns1.take 1).map (fun b => mark - 1 - b))
    (hret : T = [] → ∀ h' tk', Fr h₀ L h' m → News h₀ L h' (led L c5 c4 c3 ps ps8 rest) → Q (.ret (.bool true)) { s with heap := h', toks := tk' })
    (hnext : T ≠ [] → ∀ h' tk', Fr h₀ L h' m → News h₀ L h' (led L c5 c4 c3 ps ps8 rest) → wpAny (model prog w) (callerA.deeper (lawEnv L fa cd)) (execs (forBody.drop 4) (lawEnv L fa cd)) Q E { s with heap := h', toks := tk' }) :
    wpAny (model prog w) (callerA.deeper (lawEnv L fa cd)) (execs (forBody.drop 2) (lawEnv L fa cd)) Q E s := by
  show Seen Mine.hd.heap_39 Challenge.rw_mr0158_01 _
  k_fill
  unfold Seen
  show wpAny (model prog w) (callerA.deeper (envOfC (Str.ofString "law") lawScope L fa cd)) (execs (forBody.drop 2) (envOfC (Str.ofString "law") lawScope L fa cd)) Q E s
  conv in List.drop 2 forBody => whnf
  have hf' : (f, W.listOf tvs.toArray 0) ∈ led L c5 c4 c3 ps ps8 rest := mem_led hf
  k_steps
  unfold SStop
  (rename Fr _ _ _ _ => F1)
  (rename News _ _ _ _ => N1)
  (rename IntsAre _ (List.take (Int.toNat 1) _) => hI2)
  refine LCg.CompSrc.ledger rfl F1 N1 (.head _) (by rw [sizeLine_eq, List.size_toArray, hI2.length, List.length_take]; omega) ?_
  intro g'
  refine rest_ind (fun i ys nw => nw = _ ∧ IntsAre ys (((ns1.take 1).map (fun b => mark - 1 - b)).take i)) ⟨rfl, .nil⟩ ?turn ?fin
  case turn =>
    intro i v I oI C oC D m₂ ys nw h tk E' hi hJ hP hC hx F2 N2 off ne
    obtain ⟨rfl, hys⟩ := hJ
    obtain ⟨b, t, rfl, hb⟩ := IntsAre.at hI2 i v (by simpa using hP)
    clear hret hnext
    k_steps
    all_goals unfold SStop
    · refine LCg.CompEnd.intro F2 N2 _ (fun _ h => h) off (.inr ⟨_, .head _, rfl, _, rfl⟩) ⟨rfl, ?_⟩
      rw [take_succ_at (p := mark - 1 - b) (by rw [List.getElem?_map]; rw [show Int.toNat 1 = 1 from rfl] at hb; rw [hb]; rfl)]
      exact IntsAre.append hys (.cons _ _ .nil)
  case fin =>
    intro ys nw hJ
    obtain ⟨rfl, hys⟩ := hJ
    rw [List.take_of_length_le (by rw [List.size_toArray, hI2.length, List.length_map, List.length_take, List.length_take]; exact Nat.le_refl _), ← hEq] at hys
    clear F1 N1
    k_steps
    unfold SStop
    (rename Fr _ _ _ _ => F3)
    (rename News _ _ _ _ => N3)
    refine ne_intsK (list_at N3 (.tail _ (.tail _ hf'))) hIT (list_at N3 (.head _)) hys (by units_room) ?_
    rw [decide_eq_true rfl]
    replace N3 := news_sub N3 (fun q hq => List.Mem.tail _ (List.Mem.tail _ hq))
    clear hys hI2
    k_steps
    unfold SStop
    (rename Fr _ _ _ _ => F4)
    (rename News _ _ _ _ => N4)
    refine eq_intsK (list_at N4 (.tail _ hf')) hIT (list_at (vs := []) N4 (.head _)) .nil (by units_room) ?_
    by_cases hT0 : T = []
    · rw [decide_eq_true hT0]
      k_steps
      exact hret hT0 _ _ F4 (news_sub N4 (fun q hq => List.Mem.tail _ hq))
    · rw [decide_eq_false hT0]
      k_steps
      unfold SStop
      exact hnext hT0 _ _ F4 (news_sub N4 (fun q hq => List.Mem.tail _ hq))
end Mine

/-! ## N1 -/
namespace Mine
set_option maxRecDepth 100000 in
set_option maxHeartbeats 1000000 in
theorem turn1 {prog : Program} {w : World} {p : Program} {loose : List Str} {mean : ExcName → Option Value} {mg mb : Str → Option Value} {fa : Addr} {cd : Value} {base h₀ : Heap} {L : Addr} {m : Str → Option Value} {s : Shared} {Q : Flow → Shared → Prop} {E : Value → Shared → Prop}
    {c5 c4 c3 : Obj} {ps ps8 : Array Value} {rest tobjs aobjs : List (Addr × Obj)} {codes : List Nat} {mark : Int} {places : List Int} {vs : List Value} {PL : Addr} {tw tc tm : Tok} {v5 : Option Value}
    (B : Below callerA base [] h₀) (F : Fr h₀ L s.heap m) (X : (Mine.hd.heap_39 w.params).In h₀) (T : Top p loose mean mg mb h₀) (CH : CodeHd h₀ 80 76) (CA : CodeHd h₀ 87 83)
    (N : News h₀ L s.heap (led L c5 c4 c3 ps ps8 rest)) (O : Off5 L rest) (hL : @LT.lt Nat _ 83 L) (hT : TabS ps tobjs) (hA : TabA ps8 aobjs) (hta : ∀ q ∈ tobjs ++ aobjs, q ∈ rest)
    (d5 : c5.data = .cell v5) (d4 : c4.data = .cell (some (.int mark tm))) (d3 : c3.data = .cell (some (.ref PL)))
    (hPL : (PL, LCg.lst vs) ∈ rest) (hI : IntsAre vs places) (h6 : places.length = 6) (hw : MapHas m (Str.ofString "wheel") (.str ⟨codes.toArray⟩ tw)) (hc : MapHas m (Str.ofString "col") (.int mark tc)) (hlen : codes.length = 144) (hm0 : 72 ≤ mark) (hm1 : mark < 144)
    (hnil : (∀ k : Nat, (k : Int) < mark → k < 144 → Blank codes k) → backsOf mark places = [])
    (hcons : ∀ i : Nat, (i : Int) < mark → IsLetter codes i → (∀ k : Nat, i < k → (k : Int) < mark → k < 144 → Blank codes k) → ∃ b ∈ backsOf mark places, (∀ x ∈ backsOf mark places, b ≤ x) ∧ mark - 1 - b = i)
    (hret : ∀ h' tk' c5' ps' ps8' rest' m', Fr h₀ L h' m' → News h₀ L h' (led L c5' c4 c3 ps' ps8' rest') → Q (.ret (.bool true)) { s with heap := h', toks := tk' })
    (hnext : ∀ (i : Nat) f ti c5' m' rest' ps' ps8' tobjs' aobjs' h' tk', (i : Int) < mark → IsLetter codes i → (∀ k : Nat, i < k → (k : Int) < mark → k < 144 → Blank codes k) →
      Fr h₀ L h' m' → News h₀ L h' (led L c5' c4 c3 ps' ps8' rest') → Off5 L rest' → TabS ps' tobjs' → TabA ps8' aobjs' → (∀ q ∈ tobjs' ++ aobjs', q ∈ rest') → (∀ q ∈ rest, q ∈ rest') → c5'.data = .cell (some (.ref f)) → (f, W.listOf #[.int i ti] 0) ∈ rest' →
      (∀ x v, x ≠ Str.ofString "backs" → m x = v → m' x = v) →
      wpAny (model prog w) (callerA.deeper (lawEnv L fa cd)) (execs (forBody.drop 4) (lawEnv L fa cd)) Q E { s with heap := h', toks := tk' }) :
    wpAny (model prog w) (callerA.deeper (lawEnv L fa cd)) (execs forBody (lawEnv L fa cd)) Q E s := by
  show Seen Mine.hd.heap_39 Challenge.rw_mr0158_01 _
  k_fill
  unfold Seen
  show wpAny (model prog w) (callerA.deeper (envOfC (Str.ofString "law") lawScope L fa cd)) (execs forBody (envOfC (Str.ofString "law") lawScope L fa cd)) Q E s
  conv in forBody => whnf
  k_steps
  unfold SStop
  refine LCt.CompSrcT.ledger rfl F N (mem_led hPL) (by rw [sizeLine_eq, List.size_toArray, hI.length]; omega) ?_
  intro g'
  refine rest_indT (fun i ys nw => nw = led L c5 c4 c3 ps ps8 rest ∧ IntsAre ys (backsOf mark (places.take i))) ⟨rfl, .nil⟩ ?turn ?fin
  case turn =>
    intro i v I oI C oC D m₂ ys nw h tk E' hi hJ hP hC hx F1 N1 off ne
    obtain ⟨rfl, hys⟩ := hJ
    obtain ⟨p, t, rfl, hp⟩ := IntsAre.at hI i v (by simpa using hP)
    clear hnil hcons hret hnext
    k_steps
    all_goals unfold SStop
    · refine LCg.CompEnd.intro F1 N1 _ (fun _ h => h) off (.inr ⟨_, mem_led hPL, rfl, _, rfl⟩) ⟨rfl, ?_⟩
      subst_vars
      rw [backs_yes hp (by assumption)]
      exact IntsAre.append hys (.cons _ _ .nil)
    · refine LCg.CompEnd.intro F1 N1 _ (fun _ h => h) off (.inr ⟨_, mem_led hPL, rfl, _, rfl⟩) ⟨rfl, ?_⟩
      rw [backs_no hp (by assumption)]
      exact hys
  case fin =>
    intro ys nw hJ
    obtain ⟨rfl, hys⟩ := hJ
    rw [show List.take vs.toArray.size places = places from List.take_of_length_le (by rw [List.size_toArray, hI.length]; omega)] at hys
    clear N F
    k_steps
    unfold SStop
    (rename Fr _ _ _ _ => F1)
    (rename News _ _ _ _ => N1)
    refine kso_sorted F1 (news_sub N1 fun q hq => .tail _ hq) ⟨_, (N1 _ (.head _)).1, rfl, _, rfl⟩ hys (backs_len h6) ?_
    clear F1 N1
    intro Ds vs1 ns1 cs1 h1 F2 N2 l1 hI1 hl1 hperm hsort hmin
    have O1 : Off5 L ((Ds, W.listOf vs1.toArray cs1) :: rest) := off5_cons O l1
    replace N2 := led_in N2
    clear l1 ys hys
    have hz1 : vs1.toArray.size ≤ sizeLine := by rw [sizeLine_eq, List.size_toArray, hI1.length, hl1]; have := backs_len (mark := mark) h6; omega
    have hm : (Ds, W.listOf vs1.toArray cs1) ∈ (Ds, W.listOf vs1.toArray cs1) :: rest := .head _
    have hPL1 : (PL, LCg.lst vs) ∈ (Ds, W.listOf vs1.toArray cs1) :: rest := .tail _ hPL
    have hta1 : ∀ q ∈ tobjs ++ aobjs, q ∈ (Ds, W.listOf vs1.toArray cs1) :: rest := fun q hq => .tail _ (hta q hq)
    have hsub : ∀ q ∈ rest, q ∈ (Ds, W.listOf vs1.toArray cs1) :: rest := fun q hq => .tail _ hq
    generalize (Ds, W.listOf vs1.toArray cs1) :: rest = rest1 at N2 O1 hm hPL1 hta1 hsub
    k_steps
    unfold SStop
    (rename Fr _ _ _ _ => F3)
    (rename News _ _ _ _ => N3)
    refine ahead_gives B F3 X T rfl (by ktr_room) CH CA (news_sub N3 two_led) hT hA (fun q hq => ⟨(N3 q (mem_led (hta1 q hq))).1, (O1 q (hta1 q hq)).2.2.2⟩) hlen (by omega) (by omega) ?none ?hit
    case none =>
      intro hbl f h2 tk2 ps' ps8' tobjs' aobjs' AE hf hf'
      obtain ⟨F4, N4, O4⟩ := ahead_led F3 N3 O1 hL hta1 AE hf hf'
      have hm2 : (Ds, W.listOf vs1.toArray cs1) ∈ (f, W.listOf #[] 0) :: ((tobjs' ++ aobjs') ++ rest1) := .tail _ (List.mem_append_right _ hm)
      have hf2 : (f, W.listOf (List.toArray []) 0) ∈ (f, W.listOf #[] 0) :: ((tobjs' ++ aobjs') ++ rest1) := .head _
      generalize (f, W.listOf #[] 0) :: ((tobjs' ++ aobjs') ++ rest1) = rest2 at N4 O4 hm2 hf2
      clear F3 N3 AE hf hf' hta1 hPL1 hsub O1 hm
      k_steps
      unfold SStop
      refine storeX_C F4 N4 rfl (UpdF.head (told_off hL O4)) d5 ?_
      intro h3 c5' F5 N5 d5'
      have e0 : ns1 = [] := List.eq_nil_of_length_eq_zero (by rw [hl1, hnil hbl]; rfl)
      refine turn1b (vs1 := vs1) B F5 X T N5 d5' d4 hm2 hI1 hz1 hf2 .nil (show MapHas _ _ _ from rfl) (by rw [e0]; rfl) (fun _ h' tk' F6 N6 => hret h' tk' _ _ _ _ _ F6 N6) (fun h => absurd rfl h)
    case hit =>
      intro i hi hlet hbl f ti h2 tk2 ps' ps8' tobjs' aobjs' AE hf hf'
      obtain ⟨F4, N4, O4⟩ := ahead_led F3 N3 O1 hL hta1 AE hf hf'
      have hm2 : (Ds, W.listOf vs1.toArray cs1) ∈ (f, W.listOf #[.int i ti] 0) :: ((tobjs' ++ aobjs') ++ rest1) := .tail _ (List.mem_append_right _ hm)
      have hf2 : (f, W.listOf (List.toArray [.int i ti]) 0) ∈ (f, W.listOf #[.int i ti] 0) :: ((tobjs' ++ aobjs') ++ rest1) := .head _
      have hta2 : ∀ q ∈ tobjs' ++ aobjs', q ∈ (f, W.listOf #[.int i ti] 0) :: ((tobjs' ++ aobjs') ++ rest1) := fun q hq => .tail _ (List.mem_append_left _ hq)
      have hsub2 : ∀ q ∈ rest, q ∈ (f, W.listOf #[.int i ti] 0) :: ((tobjs' ++ aobjs') ++ rest1) := fun q hq => .tail _ (List.mem_append_right _ (hsub q hq))
      generalize (f, W.listOf #[.int i ti] 0) :: ((tobjs' ++ aobjs') ++ rest1) = rest2 at N4 O4 hm2 hf2 hta2 hsub2
      have hT' := AE.tabS
      have hA' := AE.tabA
      clear F3 N3 AE hf hf' hta1 hPL1 hsub O1 hm
      k_steps
      unfold SStop
      refine storeX_C F4 N4 rfl (UpdF.head (told_off hL O4)) d5 ?_
      intro h3 c5' F5 N5 d5'
      obtain ⟨b, hb1, hb2, hb3⟩ := hcons i hi hlet hbl
      have hpos : 0 < (backsOf mark places).length := List.length_pos_of_mem hb1
      obtain ⟨q1, q2⟩ := hmin hpos
      have e0 : ns1.take 1 = [b] := by
        cases ns1 with
        | nil => simp at hl1; omega
        | cons a r =>
          have e : a = b := Int.le_antisymm (q2 b hb1) (hb2 a q1)
          rw [e]; rfl
      refine turn1b (vs1 := vs1) B F5 X T N5 d5' d4 hm2 hI1 hz1 hf2 (.cons _ _ .nil) (show MapHas _ _ _ from rfl) (by rw [e0]; exact congrArg (fun z => [z]) hb3.symm) (fun h => absurd h (by simp)) (fun _ h' tk' F6 N6 => ?_)
      exact hnext i f ti c5' _ rest2 ps' ps8' tobjs' aobjs' h' tk' hi hlet hbl F6 N6 O4 hT' hA' hta2 hsub2 d5' hf2 (fun x v hx e => by rw [if_neg hx]; exact e)
end Mine

/-! ## N2 -/
namespace Mine
section
variable {prog : Program} {w : World} {A : Around} {E : Value → Shared → Prop} {s : Shared} {h₀ : Heap} {L l : Addr} {m : Str → Option Value} {news : List (Addr × Obj)} {value slice : PySem.Expr} {vs : List Value} {Q : Value → Shared → Prop}
theorem item_at {k : Int} {u : Tok} {v : Value} {o : Obj} {n : Nat} (N : News h₀ L s.heap news) (hm : (l, o) ∈ news) (ho : o = W.listOf vs.toArray n) (h0 : 0 ≤ k) (h1 : k < 1024) (hx : vs[k.toNat]? = some v) (h : Q v s)
    (hs : subscripted slice false (.ref l) (.int k u) = operate [.ref l, .int k u] (getItem (.ref l) (.int k u))) :
    wpAny (model prog w) A (subscriptTail value slice (.ref l) (.int k u)) Q E s :=
  have hl : s.heap.IsList l vs.toArray := by subst ho; exact list_at N hm
  tail_any hl.typeIs slot_list_getitem.lookup (wpAny_getItem_list hl h0 (by omega) (by simpa using hx) h) hs
theorem str_item {cs : List Nat} {i : Int} {c : Nat} {t u : Tok} (h0 : 0 ≤ i) (h1 : i < 1024) (hi : cs[i.toNat]? = some c) (h : ∀ t k, Q (.str (sgn c) t) { s with toks := k })
    (hs : subscripted slice false (.str ⟨cs.toArray⟩ t) (.int i u) = operate [.str ⟨cs.toArray⟩ t, .int i u] (getItem (.str ⟨cs.toArray⟩ t) (.int i u)))
    (ht : ∀ r, letTemporaryGo value (.str ⟨cs.toArray⟩ t) r = pure ()) :
    wpAny (model prog w) A (subscriptTail value slice (.str ⟨cs.toArray⟩ t) (.int i u)) Q E s := by
  have hlt : i.toNat < cs.length := (List.getElem?_eq_some_iff.mp hi).1
  have hl : (⟨cs.toArray⟩ : Str).length = cs.length := rfl
  refine item_str (fitsSsize_of (N := 9223372036854775808) (by omega) (by omega) (Int.le_refl _)) (by rw [hl]; omega) (by rw [hl]; omega) (fun _ => ?_) hs ht
  have e : Txt.item ⟨cs.toArray⟩ i = sgn c := by
    unfold Txt.item Txt.charAt sgn
    have e1 : seqIndex? i (⟨cs.toArray⟩ : Str).length = some i.toNat := by
      rw [hl]
      unfold seqIndex?
      have h2 : ¬ i < 0 := by omega
      have h3 : i < (cs.length : Int) := by omega
      simp [h2, h0, h3]
    rw [e1]
    simp [hi]
  rw [e]
  exact h _ _
end
end Mine
theorem Mine.LN68 : True := by
  k_with "subscriptTail Name Name ref int" => (k_here; (refine Mine.SStop.out ?_))
  exact trivial
theorem Mine.LN69 : True := by
  k_with "subscriptTail Name Constant ref int" => (k_here; (refine Mine.SStop.out ?_))
  exact trivial
theorem Mine.LN70 : True := by
  k_with "subscriptTail Name Subscript str int" => (k_here; (refine Mine.SStop.out ?_))
  exact trivial
theorem Mine.LN71 : True := by
  k_with "subscriptTail Constant Name str int" => (k_here; (refine Mine.SStop.out ?_))
  exact trivial
theorem Mine.LN72 : True := by
  k_with "compareOp NotEq str str" => (k_here; (refine Mine.SStop.out ?_))
  exact trivial
theorem Mine.LN73 : True := by
  k_with "call builtin:max" => (k_here; (refine Mine.SStop.out ?_))
  exact trivial
namespace Mine
/-- a copy of a fact that the lines do not rename -/
noncomputable def IntsK (vs : List Value) (ns : List Int) : Prop := IntsAre vs ns
theorem IntsK.out {vs : List Value} {ns : List Int} (h : IntsK vs ns) : IntsAre vs ns := h
noncomputable def lettersOf (places : List Int) (r : Int) (n : Nat) : List Int := ((List.range n).filter (fun k => places[k]? == some r)).map Int.ofNat
theorem letters_yes {places : List Int} {r : Int} {j : Nat} (h : places[j]? = some r) : lettersOf places r (j + 1) = lettersOf places r j ++ [(j : Int)] := by
  unfold lettersOf
  rw [List.range_succ, List.filter_append, List.map_append]
  simp [h]
theorem letters_no {places : List Int} {r : Int} {j : Nat} (h : places[j]? ≠ some r) : lettersOf places r (j + 1) = lettersOf places r j := by
  unfold lettersOf
  rw [List.range_succ, List.filter_append, List.map_append]
  simp [h]
theorem letters_mem {places : List Int} {r x : Int} {n : Nat} : x ∈ lettersOf places r n ↔ ∃ j : Nat, x = (j : Int) ∧ j < n ∧ places[j]? = some r := by
  unfold lettersOf
  simp only [List.mem_map, List.mem_filter, List.mem_range, beq_iff_eq]
  constructor
  · rintro ⟨j, ⟨h1, h2⟩, rfl⟩; exact ⟨j, rfl, h1, h2⟩
  · rintro ⟨j, rfl, h1, h2⟩; exact ⟨j, ⟨h1, h2⟩, rfl⟩
theorem abc_ne {k : Nat} (h : k < 6) : (sgn (97 + k) != Txt.item (Str.ofString "abcdef") (k : Int)) = false := by
  have : k = 0 ∨ k = 1 ∨ k = 2 ∨ k = 3 ∨ k = 4 ∨ k = 5 := by omega
  rcases this with rfl | rfl | rfl | rfl | rfl | rfl <;> decide +kernel
set_option maxRecDepth 100000 in
set_option maxHeartbeats 1000000 in
theorem turn2 {prog : Program} {w : World} {p : Program} {loose : List Str} {mean : ExcName → Option Value} {mg mb : Str → Option Value} {fa : Addr} {cd : Value} {base h₀ : Heap} {L : Addr} {m : Str → Option Value} {s : Shared} {Q : Flow → Shared → Prop} {E : Value → Shared → Prop}
    {c5 c4 c3 : Obj} {ps ps8 : Array Value} {rest : List (Addr × Obj)} {codes : List Nat} {places : List Int} {vs : List Value} {PL f : Addr} {tw ti : Tok} {i k : Nat}
    (B : Below callerA base [] h₀) (F : Fr h₀ L s.heap m) (X : (Mine.hd.heap_39 w.params).In h₀) (T : Top p loose mean mg mb h₀)
    (N : News h₀ L s.heap (led L c5 c4 c3 ps ps8 rest))
    (d5 : c5.data = .cell (some (.ref f))) (d3 : c3.data = .cell (some (.ref PL))) (hf : (f, W.listOf #[.int i ti] 0) ∈ rest)
    (hPL : (PL, LCg.lst vs) ∈ rest) (hI : IntsAre vs places) (h6 : places.length = 6) (hw : MapHas m (Str.ofString "wheel") (.str ⟨codes.toArray⟩ tw)) (hi : i < 144)
    (hk : k < 6) (hpk : places[k]? = some ((i : Int).fmod 72)) (hkm : ∀ j : Nat, j < 6 → places[j]? = some ((i : Int).fmod 72) → j ≤ k) (hck : codes[i]? = some (97 + k))
    (hnext : ∀ t h' tk', Fr h₀ L h' (fun y => if y = Str.ofString "letter" then some (.int k t) else m y) → News h₀ L h' (led L c5 c4 c3 ps ps8 rest) →
      wpAny (model prog w) (callerA.deeper (lawEnv L fa cd)) (execs (forBody.drop 6) (lawEnv L fa cd)) Q E { s with heap := h', toks := tk' }) :
    wpAny (model prog w) (callerA.deeper (lawEnv L fa cd)) (execs (forBody.drop 4) (lawEnv L fa cd)) Q E s := by
  show Seen Mine.hd.heap_39 Challenge.rw_mr0158_01 _
  k_fill
  unfold Seen
  show wpAny (model prog w) (callerA.deeper (envOfC (Str.ofString "law") lawScope L fa cd)) (execs (forBody.drop 4) (envOfC (Str.ofString "law") lawScope L fa cd)) Q E s
  conv in List.drop 4 forBody => whnf
  have hIK : IntsK vs places := hI
  refine wpAny_execs_cons ?_
  k_steps
  unfold SStop
  (rename Fr _ _ _ _ => F1)
  (rename News _ _ _ _ => N1)
  (rename IsRange _ _ _ _ _ _ _ _ => hR)
  refine LCt.CompSrcT.range (n := 6) rfl F1 N1 hR (by decide) (by decide) (by rw [sizeLine_eq]; decide) ?_
  intro g'
  refine rest_indT (fun j ys nw => nw = led L c5 c4 c3 ps ps8 rest ∧ IntsAre ys (lettersOf places ((i : Int).fmod 72) j)) ⟨rfl, .nil⟩ ?turn ?fin
  case turn =>
    intro j v I oI C oC D m₂ ys nw h tk E' hj hJ hP hC hx F2 N2 off ne
    obtain ⟨rfl, hys⟩ := hJ
    obtain ⟨t, rfl⟩ := hP
    obtain ⟨tp, hvj⟩ := IntsAre.get hIK.out j places[j] (by simp [show j < places.length by omega])
    clear hnext
    k_steps
    unfold SStop
    refine item_at N2 (.tail _ (.tail _ (.tail _ (mem_led hPL)))) rfl (by omega) (by omega) (by rw [show ((0 : Int) + (j : Int)).toNat = j by omega]; exact hvj) ?_ (by with_unfolding_all rfl)
    k_steps
    unfold SStop
    refine item_at (vs := [_]) N2 (.tail _ (.tail _ (.tail _ (mem_led hf)))) rfl (by omega) (by omega) rfl ?_ (by with_unfolding_all rfl)
    k_steps
    all_goals unfold SStop
    · refine LCg.CompEnd.intro F2 N2 _ (fun _ h => h) off trivial ⟨rfl, ?_⟩
      rw [letters_yes (show places[j]? = some _ by rw [List.getElem?_eq_getElem (by omega)]; exact congrArg some (by subst_vars; assumption)), show (0 : Int) + (j : Int) = (j : Int) by omega]
      exact IntsAre.append hys (.cons _ _ .nil)
    · refine LCg.CompEnd.intro F2 N2 _ (fun _ h => h) off trivial ⟨rfl, ?_⟩
      rw [letters_no (show places[j]? ≠ some _ by rw [List.getElem?_eq_getElem (by omega)]; subst_vars; intro hq; exact absurd (Option.some.inj hq) (by assumption))]
      exact hys
  case fin =>
    intro ys nw hJ
    obtain ⟨rfl, hys⟩ := hJ
    clear N1 F1
    k_steps
    unfold SStop
    (rename Fr _ _ _ _ => F3)
    (rename News _ _ _ _ => N3)
    refine kso_max F3 (news_sub N3 fun q hq => .tail _ hq) (list_at N3 (.head _)) hys (List.length_pos_of_mem (letters_mem.mpr ⟨k, rfl, hk, hpk⟩)) rfl ?_
    clear F3 N3
    intro h1 M t tk1 F4 N4 hM1 hM2
    obtain ⟨j, e1, e2, e3⟩ := letters_mem.mp hM1
    have e4 := hM2 _ (letters_mem.mpr ⟨k, rfl, hk, hpk⟩)
    have e5 := hkm j e2 e3
    obtain rfl : M = (k : Int) := by omega
    clear hM1 hM2 e1 e3 e4 hys
    k_steps
    unfold SStop
    (rename Fr _ _ _ _ => F5)
    (rename News _ _ _ _ => N5)
    refine item_at (vs := [_]) N5 (mem_led hf) rfl (by omega) (by omega) rfl ?_ (by with_unfolding_all rfl)
    k_steps
    unfold SStop
    refine str_item (by omega) (by omega) hck (fun t1 k1 => ?_) (by with_unfolding_all rfl) (by intro _; with_unfolding_all rfl)
    k_steps
    unfold SStop
    refine PyProof.Rows.ne_str ?_
    rw [show (sgn (97 + k) != Txt.item (Str.ofString "abcdef") (k : Int)) = false from abc_ne hk]
    k_steps
    unfold SStop
    exact hnext _ _ _ F5 N5
end Mine

/-! ## N3a -/
namespace Mine
section
variable {prog : Program} {w : World} {A : Around} {E : Value → Shared → Prop} {s : Shared} {h₀ : Heap} {L : Addr} {m : Str → Option Value} {env : Env}
theorem tup_st {ax I : Addr} {its : Array Value} {n : Nat} : ∀ i (h h' : Heap) (o : Obj) (nw : List (Addr × Obj)), (h.IsTupleIter I ax i ∧ h.IsTuple ax its) → h.get? I = some o → h'.get? I = some o → (∀ b o, h₀.get? b = some o → h'.get? b = some o) → News h₀ L h' nw →
    (ax, ({ cls := .type "tuple", data := .seq its n } : Obj)) ∈ nw → (h'.IsTupleIter I ax i ∧ h'.IsTuple ax its) :=
  fun i h h' o nw st e e' k N S => ⟨by obtain ⟨o', q, r⟩ := st.1; rw [e] at q; cases q; exact ⟨o, e', r⟩, ⟨_, (N _ S).1, rfl, _, rfl⟩⟩
/-- a comprehension over a tuple of the ledger -/
noncomputable def TupSrc (prog : Program) (w : World) (A : Around) (h₀ : Heap) (L : Addr) (m : Str → Option Value) (env : Env) (elt : PySem.Expr) (x : Str) (scope : Scope) (cl : List (Str × Addr)) (Fin : Shared → List Value → List (Addr × Obj) → Prop) (xv : Value) (s₁ : Shared) : Prop :=
  ∃ ax its n news, xv = .ref ax ∧ A.handled = none ∧ Fr h₀ L s₁.heap m ∧ News h₀ L s₁.heap news ∧ (ax, ({ cls := .type "tuple", data := .seq its n } : Obj)) ∈ news ∧ its.size ≤ sizeLine ∧
    ∀ s₂ : Shared, (∃ h, s₂ = { s₁ with heap := h }) → LCg.CompRest prog w A h₀ L m env elt x scope cl s₂ (fun nw => (ax, ({ cls := .type "tuple", data := .seq its n } : Obj)) ∈ nw) (fun i v => its[i]? = some v) (Fin s₂) its.size 0 [] news
theorem ListComp_tup {elt iter : PySem.Expr} {x : Str} {px : Pos} {scope : Scope} {cl : List (Str × Addr)} {pos : Pos} {Q : Value → Shared → Prop} (F₀ : Fr h₀ L s.heap m)
    (hclos : closureFor scope env = pure cl) (hcell : ∀ y ∈ scope.names, y.2 ≠ .cell) (hkind : scope.kind = .function)
    (hnames : ∀ y ∈ scope.names, y.2 = .local → scope.names.lookup y.1 = some .local) (hx : scope.names.lookup x = some .local)
    (h : wpAny (model prog w) A (eval iter env) (TupSrc prog w A h₀ L m env elt x scope cl (fun s₂ => LCg.FinE h₀ L m s₂ Q)) E s)
    (hs : ∀ x, foldedSetIterable iter env x = pure x := by intro _; rfl) :
    wpAny (model prog w) A (eval (.ListComp elt [⟨.Name x px, iter, [], 0⟩] scope pos) env) Q E s := by
  rw [eval_ListComp]
  refine wpAny_comprehension_free (use := none) rfl hs hclos hkind hnames (wpAny_mono h (fun xv s₁ h₁ => ?_) fun _ _ e => e)
  obtain ⟨ax, its, n, news, rfl, hh, F, N, S, hsz, R⟩ := h₁
  have hl : s₁.heap.IsTuple ax its := ⟨_, (N _ S).1, rfl, _, rfl⟩
  have hlt : ax < s₁.heap.objs.size := Heap.lt_size (N _ S).1
  refine wpAny_pyIter_tuple hl ?_
  have up : ∀ b o, s₁.heap.get? b = some o → (s₁.heap.push { cls := .type "tuple_iterator", data := .fields #[.ref ax, .int 0 0] }).get? b = some o := fun b o e => Heap.get?_push_of_some _ e
  refine LCg.block_U (Walks.tuple hh s₁.heap.objs.size ax (Nat.ne_of_lt hlt) its) hsz (fun i h st => by obtain ⟨o, e, _⟩ := st.1; exact ⟨o, e⟩) tup_st hcell hkind hx ⟨⟨_, Heap.get?_push_size _ rfl, rfl, rfl⟩, hl.push _⟩ (fun b hb => ?_)
    (F.keeps up) (N.grown up) (Nat.ne_of_lt F.ns.lt) (next_is_new F) (fun p hp => Nat.ne_of_lt (Heap.lt_size (N p hp).1)) S (R _ ⟨_, rfl⟩) ?_
  · show b < (s₁.heap.push _).objs.size
    rw [Heap.size_push]
    rcases List.mem_cons.mp hb with rfl | hb
    · exact Nat.lt_succ_self _
    · rw [List.mem_singleton.mp hb]; exact Nat.lt_succ_of_lt hlt
  · intro D C h tk m' ys news' F' N' o1 hn hC₀ hD₀ hCL hDL hCD offC fin
    refine ⟨m', hn, fun h'' hs'' => fin D h'' tk (F'.change hs'' hCL hC₀) (fun p hp => ?_) o1⟩
    refine ⟨hs''.extBut _ _ ?_ (N' p hp).1, (N' p hp).2⟩
    rcases List.mem_cons.mp hp with rfl | hp
    · exact Ne.symm hCD
    · exact offC p hp
end
/-- a fact that the walk's lines do not look into -/
noncomputable def Hid (P : Prop) : Prop := P
theorem Hid.out {P : Prop} (h : Hid P) : P := h
/-- floats in a list of values -/
inductive FlsAre : List Value → List UInt64 → Prop
  | nil : FlsAre [] []
  | cons (x : UInt64) (t : Tok) {vs : List Value} {xs : List UInt64} : FlsAre vs xs → FlsAre (.float x t :: vs) (x :: xs)
theorem FlsAre.snoc {vs : List Value} {xs : List UInt64} (h : FlsAre vs xs) (x : UInt64) (t : Tok) : FlsAre (vs ++ [.float x t]) (xs ++ [x]) := by
  induction h with
  | nil => exact .cons _ _ .nil
  | cons y u _ ih => exact .cons y u ih
theorem FlsAre.three {vs : List Value} {x y z : UInt64} (h : FlsAre vs [x, y, z]) : ∃ t u v, vs = [.float x t, .float y u, .float z v] := by
  cases h with | cons _ t h => cases h with | cons _ u h => cases h with | cons _ v h => cases h; exact ⟨t, u, v, rfl⟩
section
variable {prog : Program} {w : World} {p : Program} {loose : List Str} {mean : ExcName → Option Value} {mg mb : Str → Option Value} {dp un : Nat} {gd : Option (List Code)} {cn : Str} {cs : Scope} {a : Addr} {ccd : Value} {cl : List (Str × Addr)} {outer : List Env} {A₀ : Around} {base h₀ : Heap} {L : Addr} {m : Str → Option Value} {s : Shared} {Q E : Value → Shared → Prop}
    {r g b : UInt64} {t1 t2 t3 : Tok} {news : List (Addr × Obj)}
theorem hls_use (B : Below A₀ base outer h₀) (F : Fr h₀ L s.heap m) (X : (Mine.hd.heap_39 w.params).In h₀) (N : News h₀ L s.heap news) (T : Top p loose mean mg mb h₀) (hk : cs.kind = .function) (hdp : dp + 1 < recursionLimit)
    (hne : (Float64.cmp (fMin r g b) (fMax r g b) == some .eq) = false) (hz1 : Float64.isZero (Float64.add (fMax r g b) (fMin r g b)) = false) (hz2 : Float64.isZero (fRange r g b) = false) (hz3 : Float64.isZero (Float64.sub (Float64.sub c2 (fMax r g b)) (fMin r g b)) = false)
    (hret : ∀ a t1 t2 t3 h' tk', Fr h₀ L h' m → News h₀ L h' news → IsTup h' a #[.float (hueOf r g b) t1, .float (lightOf r g b) t2, .float (strOf r g b) t3] → Q (.ref a) { s with heap := h', toks := tk' }) :
    wpAny (model prog w) (ktrTop dp un gd cn cs L a ccd cl outer) (call (.ref 21) [.float r t1, .float g t2, .float b t3]) Q E s :=
  hls_gives B F X T hk hdp hne hz1 hz2 hz3 fun a t1 t2 t3 h' tk' k _ e => hret a t1 t2 t3 h' tk' (fr_keeps F k) (news_keeps N k) ⟨_, e, rfl, _, rfl⟩
theorem hsvBack_use {h sh v : UInt64} (B : Below A₀ base outer h₀) (F : Fr h₀ L s.heap m) (X : (Mine.hd.heap_39 w.params).In h₀) (N : News h₀ L s.heap news) (T : Top p loose mean mg mb h₀) (hk : cs.kind = .function) (hdp : dp + 1 < recursionLimit)
    (hne : (Float64.cmp sh 0 == some .eq) = false) (hfin : Float64.isFinite (Float64.mul h c6) = true) (hi0 : 0 ≤ hsvI h) (hi1 : hsvI h < 12)
    (hret : ∀ a t1 t2 t3 h' tk', Fr h₀ L h' m → News h₀ L h' ((a, tup3 (.float (hsvBackOf h sh v).1 t1) (.float (hsvBackOf h sh v).2.1 t2) (.float (hsvBackOf h sh v).2.2 t3)) :: news) → Q (.ref a) { s with heap := h', toks := tk' }) :
    wpAny (model prog w) (ktrTop dp un gd cn cs L a ccd cl outer) (call (.ref 49) [.float h t1, .float sh t2, .float v t3]) Q E s :=
  hsvBack_gives B F X T hk hdp hne hfin hi0 hi1 fun a t1 t2 t3 h' tk' k ea e => hret a t1 t2 t3 h' tk' (fr_keeps F k) (news_add F (news_keeps N k) ea e)
theorem hlsBack_use {h l st : UInt64} (B : Below A₀ base outer h₀) (F : Fr h₀ L s.heap m) (X : (Mine.hd.heap_39 w.params).In h₀) (N : News h₀ L s.heap news) (T : Top p loose mean mg mb h₀) (hk : cs.kind = .function) (hdp : dp + 2 < recursionLimit)
    (hne : (Float64.cmp st 0 == some .eq) = false)
    (hret : ∀ a t1 t2 t3 h' tk', Fr h₀ L h' m → News h₀ L h' ((a, tup3 (.float (vOf (m1Of l st) (m2Of l st) (Float64.add h cThird)) t1) (.float (vOf (m1Of l st) (m2Of l st) h) t2) (.float (vOf (m1Of l st) (m2Of l st) (Float64.sub h cThird)) t3)) :: news) → Q (.ref a) { s with heap := h', toks := tk' }) :
    wpAny (model prog w) (ktrTop dp un gd cn cs L a ccd cl outer) (call (.ref 28) [.float h t1, .float l t2, .float st t3]) Q E s :=
  hlsBack_gives B F X T hk hdp hne fun a t1 t2 t3 h' tk' k ea e => hret a t1 t2 t3 h' tk' (fr_keeps F k) (news_add F (news_keeps N k) ea e)
end
end Mine
theorem Mine.LN74 : True := by
  k_with "call ref" => (k_here; (with_reducible show wpAny _ _ (call (Value.ref 21) [Value.float _ _, Value.float _ _, Value.float _ _]) _ _ _); (k_dflt (refine' Mine.hls_use ?zqk1 ?zqk2 ?zqk3 ?zqk4 ?zqk5 ?zqkK ?zqkd ?zqh1 ?zqh2 ?zqh3 ?zqh4 ?_; (case zqh1 => exact Mine.Hid.out (by with_reducible assumption)); (case zqh2 => exact Mine.Hid.out (by with_reducible assumption)); (case zqh3 => exact Mine.Hid.out (by with_reducible assumption)); (case zqh4 => exact Mine.Hid.out (by with_reducible assumption)); (case zqkK => first | exact rfl | assumption); (case zqk1 => k_asm); (case zqk2 => k_asm); (case zqk3 => k_asm); (case zqk4 => k_asm); (case zqk5 => k_asm); (case zqkd => ktr_room); k_whole)); intro _ _ _ _ _ _ _ _ _; (try dsimp only))
  exact trivial
theorem Mine.LN75 : True := by
  k_with "call ref" => (k_here; (with_reducible show wpAny _ _ (call (Value.ref 49) [Value.float _ _, Value.float _ _, Value.float _ _]) _ _ _); (k_dflt (refine' Mine.hsvBack_use ?zqk1 ?zqk2 ?zqk3 ?zqk4 ?zqk5 ?zqkK ?zqkd ?zqh1 ?zqh2 ?zqh3 ?zqh4 ?_; (case zqh1 => exact Mine.Hid.out (by with_reducible assumption)); (case zqh2 => exact Mine.Hid.out (by with_reducible assumption)); (case zqh3 => exact Mine.Hid.out (by with_reducible assumption)); (case zqh4 => exact Mine.Hid.out (by with_reducible assumption)); (case zqkK => first | exact rfl | assumption); (case zqk1 => k_asm); (case zqk2 => k_asm); (case zqk3 => k_asm); (case zqk4 => k_asm); (case zqk5 => k_asm); (case zqkd => ktr_room); k_whole)); intro _ _ _ _ _ _ _ _; (try dsimp only))
  exact trivial
theorem Mine.LN76 : True := by
  k_with "call ref" => (k_here; (with_reducible show wpAny _ _ (call (Value.ref 28) [Value.float _ _, Value.float _ _, Value.float _ _]) _ _ _); (k_dflt (refine' Mine.hlsBack_use ?zqk1 ?zqk2 ?zqk3 ?zqk4 ?zqk5 ?zqkK ?zqkd ?zqh1 ?_; (case zqh1 => exact Mine.Hid.out (by with_reducible assumption)); (case zqkK => first | exact rfl | assumption); (case zqk1 => k_asm); (case zqk2 => k_asm); (case zqk3 => k_asm); (case zqk4 => k_asm); (case zqk5 => k_asm); (case zqkd => ktr_room); k_whole)); intro _ _ _ _ _ _ _ _; (try dsimp only))
  exact trivial
theorem Mine.LN77 : True := by
  k_with "TupSrc" => (refine Mine.SStop.out ?_)
  exact trivial
theorem Mine.LN78 : True := by
  k_with "call ref" => (k_here; (with_reducible show wpAny _ _ (call (Value.ref 42) [Value.float _ _, Value.float _ _, Value.float _ _]) _ _ _); (k_dflt (refine' Mine.hsv_use ?zqk1 ?zqk2 ?zqk3 ?zqk4 ?zqk5 ?zqkK ?zqkd ?zqh1 ?zqh2 ?zqh3 ?_; (case zqh1 => exact Mine.Hid.out (by with_reducible assumption)); (case zqh2 => exact Mine.Hid.out (by with_reducible assumption)); (case zqh3 => exact Mine.Hid.out (by with_reducible assumption)); (case zqkK => first | exact rfl | assumption); (case zqk1 => k_asm); (case zqk2 => k_asm); (case zqk3 => k_asm); (case zqk4 => k_asm); (case zqk5 => k_asm); (case zqkd => ktr_room); k_whole)); intro _ _ _ _ _ _ _ _ _; (try dsimp only))
  exact trivial
theorem Mine.LN79 : True := by
  k_with "call builtin:round" => ((with_reducible show wpAny _ _ (call _ [Value.float _ _]) _ _ _); (refine Mine.round_f rfl (Mine.Hid.out (by with_reducible assumption)) (Mine.Hid.out (by with_reducible assumption)) ?_); (try dsimp only))
  exact trivial

/-! ## N3b -/
theorem Mine.LN80 : True := by
  k_with "eval ListComp" => (k_here; (with_reducible show wpAny _ _ (eval (Expr.ListComp _ [⟨Expr.Name _ _, Expr.Name (Str.ofString "painted") _, [], 0⟩] _ _) _) _ _ _); k_dflt (refine' Mine.ListComp_tup (F₀ := by k_asm) ?zqc1 ?zqc2 ?zqc3 ?zqc4 ?zqc5 ?_; (case zqc1 => with_unfolding_all rfl); (case zqc2 => decide); (case zqc3 => rfl); (case zqc4 => decide); (case zqc5 => rfl)))
  exact trivial
theorem Mine.LN81 : True := by
  k_with "eval Name" => (k_here; (with_reducible show wpAny _ _ (eval (Expr.Name (Str.ofString "painted") _) _) _ _ _); (with_reducible rename Mine.MapHas _ (Str.ofString "painted") _ => hM'z); (refine nameX_L (by k_asm) (by with_unfolding_all exact hM'z) ?_))
  exact trivial
namespace Mine
noncomputable def paintBody : List Stmt := match forBody.getD 9 (.Pass ⟨0, 0, 0, 0⟩) with | .For _ _ b _ _ => b | _ => []
/-- x times 16 is c, rounded -/
noncomputable def Rnd16 (x : UInt64) (c : Int) : Prop := Float64.isFinite (Float64.mul (Float64.ofInt 16) x) = true ∧ toInt Float64.nearestOf (Float64.mul (Float64.ofInt 16) x) = c
set_option maxRecDepth 100000 in
set_option maxHeartbeats 1000000 in
theorem paint1 {prog : Program} {w : World} {p : Program} {loose : List Str} {mean : ExcName → Option Value} {mg mb : Str → Option Value} {fa : Addr} {cd : Value} {base h₀ : Heap} {L : Addr} {m : Str → Option Value} {s : Shared} {Q : Flow → Shared → Prop} {E : Value → Shared → Prop}
    {news : List (Addr × Obj)} {CL a yk : Addr} {ys : List Addr} {k : Nat} {x0 x1 x2 : UInt64} {i0 i1 i2 : Int} {t0 t1 t2 u0 u1 u2 tl : Tok}
    (B : Below callerA base [] h₀) (F : Fr h₀ L s.heap m) (X : (Mine.hd.heap_39 w.params).In h₀) (T : Top p loose mean mg mb h₀) (N : News h₀ L s.heap news)
    (hp : MapHas m (Str.ofString "painted") (.ref a)) (ha : (a, tup3 (.float x0 t0) (.float x1 t1) (.float x2 t2)) ∈ news) (hcl : MapHas m (Str.ofString "colours") (.ref CL)) (hCL : (CL, LCg.lst (ys.map .ref)) ∈ news)
    (hlt : MapHas m (Str.ofString "letter") (.int k tl)) (hk : k < 6) (hyk : ys[k]? = some yk) (hc : (yk, LCg.lst [.int i0 u0, .int i1 u1, .int i2 u2]) ∈ news)
    (r0 : Rnd16 x0 i0) (r1 : Rnd16 x1 i1) (r2 : Rnd16 x2 i2)
    (hnext : ∀ h' tk', Fr h₀ L h' m → News h₀ L h' news → Q .next { s with heap := h', toks := tk' }) :
    wpAny (model prog w) (callerA.deeper (lawEnv L fa cd)) (execs paintBody (lawEnv L fa cd)) Q E s := by
  show Seen Mine.hd.heap_39 Challenge.rw_mr0158_01 _
  k_fill
  unfold Seen
  show wpAny (model prog w) (callerA.deeper (envOfC (Str.ofString "law") lawScope L fa cd)) (execs paintBody (envOfC (Str.ofString "law") lawScope L fa cd)) Q E s
  conv in paintBody => whnf
  k_steps
  unfold SStop
  refine ⟨a, #[.float x0 t0, .float x1 t1, .float x2 t2], _, news, rfl, rfl, F, N, ha, by rw [sizeLine_eq]; exact Nat.le_of_ble_eq_true rfl, ?_⟩
  intro s₂ hs2
  obtain ⟨g', rfl⟩ := hs2
  refine rest_ind (fun j vs nw => nw = news ∧ IntsAre vs ([i0, i1, i2].take j)) ⟨rfl, .nil⟩ ?turn ?fin
  case turn =>
    intro j v I oI C oC D m₂ vs nw h tk E' hj hJ hP hC hx F2 N2 off ne
    obtain ⟨rfl, hys⟩ := hJ
    obtain ⟨x, c, t, rfl, hcj, hr⟩ : ∃ x c t, v = .float x t ∧ [i0, i1, i2][j]? = some c ∧ Rnd16 x c := by
      have : j = 0 ∨ j = 1 ∨ j = 2 := by have : j < 3 := hj; omega
      rcases this with rfl | rfl | rfl
      · exact ⟨x0, i0, t0, (Option.some.inj hP).symm, rfl, r0⟩
      · exact ⟨x1, i1, t1, (Option.some.inj hP).symm, rfl, r1⟩
      · exact ⟨x2, i2, t2, (Option.some.inj hP).symm, rfl, r2⟩
    have hr1 := (show Hid _ from hr.1)
    have hr2 := (show Hid _ from hr.2)
    clear hr
    clear hnext
    k_steps
    unfold SStop
    refine LCg.CompEnd.intro F2 N2 _ (fun _ h => h) off ha ⟨rfl, ?_⟩
    rw [take_succ_at hcj]
    exact IntsAre.append hys (.cons _ _ .nil)
  case fin =>
    intro vs nw hJ
    obtain ⟨rfl, hys⟩ := hJ
    rw [show List.take (Array.size #[Value.float x0 t0, .float x1 t1, .float x2 t2]) [i0, i1, i2] = [i0, i1, i2] from rfl] at hys
    clear N F
    k_steps
    unfold SStop
    (rename Fr _ _ _ _ => F3)
    (rename News _ _ _ _ => N3)
    refine item_at (v := .ref yk) N3 (.tail _ hCL) rfl (by omega) (by omega) (by simp [hyk]) ?_ (by with_unfolding_all rfl)
    k_steps
    unfold SStop
    refine ne_intsK (list_at N3 (.head _)) hys (list_at N3 (.tail _ hc)) (.cons _ _ (.cons _ _ (.cons _ _ .nil))) (by units_room) ?_
    rw [decide_eq_true rfl]
    k_steps
    exact hnext _ _ F3 (news_sub N3 (fun q hq => List.Mem.tail _ hq))
end Mine

/-! ## N4 -/
local macro_rules | `(tactic| walk_at "pyIter ref") => `(tactic| (k_here; (refine Mine.SStop.out ?_)))
namespace Mine
theorem mark_off {L : Addr} {c3 : Obj} {ps ps8 : Array Value} {rest : List (Addr × Obj)} (hL : @LT.lt Nat _ 83 L) (O : Off5 L rest) : ∀ p ∈ (L + 1 + 1 + 1, c3) :: (76, tabObj ps) :: (83, tabObj ps8) :: rest, p.1 ≠ L + 1 + 1 + 1 + 1 := fun p hp => by
  refine neN ?_
  rcases List.mem_cons.mp hp with rfl | hp
  · show @Ne Nat (L + 1 + 1 + 1) (L + 1 + 1 + 1 + 1); omega
  rcases List.mem_cons.mp hp with rfl | hp
  · show @Ne Nat 76 (L + 1 + 1 + 1 + 1); omega
  rcases List.mem_cons.mp hp with rfl | hp
  · show @Ne Nat 83 (L + 1 + 1 + 1 + 1); omega
  exact (O p hp).2.1
theorem fr_envC {h₀ : Heap} {L : Addr} {m : Str → Option Value} {name : Str} {scope : Scope} {a : Addr} {cd : Value} {h : Heap} (F : Fr h₀ (envOfC name scope L a cd).locals h m) : Fr h₀ L h m := F
theorem news_envC {h₀ : Heap} {L : Addr} {news : List (Addr × Obj)} {name : Str} {scope : Scope} {a : Addr} {cd : Value} {h : Heap} (N : News h₀ (envOfC name scope L a cd).locals h news) : News h₀ L h news := N
set_option maxRecDepth 100000 in
set_option maxHeartbeats 1000000 in
theorem turn4 {prog : Program} {w : World} {p : Program} {loose : List Str} {mean : ExcName → Option Value} {mg mb : Str → Option Value} {fa : Addr} {cd : Value} {base h₀ : Heap} {L : Addr} {m : Str → Option Value} {s : Shared} {Q : Flow → Shared → Prop} {E : Value → Shared → Prop}
    {c5 c4 c3 : Obj} {ps ps8 : Array Value} {rest : List (Addr × Obj)} {places : List Int} {vs : List Value} {PL CL f yk : Addr} {ys : List Addr} {ti tl u0 u1 u2 t1 t2 t3 t4 t5 : Tok} {i k : Nat} {i0 i1 i2 pk : Int} {v4 : Option Value}
    {sat val lig str ang : UInt64}
    (B : Below callerA base [] h₀) (F : Fr h₀ L s.heap m) (X : (Mine.hd.heap_39 w.params).In h₀) (T : Top p loose mean mg mb h₀)
    (N : News h₀ L s.heap (led L c5 c4 c3 ps ps8 rest)) (O : Off5 L rest) (hL : @LT.lt Nat _ 83 L)
    (d5 : c5.data = .cell (some (.ref f))) (d4 : c4.data = .cell v4) (d3 : c3.data = .cell (some (.ref PL))) (hf : (f, W.listOf #[.int i ti] 0) ∈ rest)
    (hPL : (PL, LCg.lst vs) ∈ rest) (hI : IntsAre vs places) (hi : i < 144) (hk : k < 6) (hpk : places[k]? = some pk)
    (hcl : MapHas m (Str.ofString "colours") (.ref CL)) (hlt : MapHas m (Str.ofString "letter") (.int k tl)) (hCL : (CL, LCg.lst (ys.map .ref)) ∈ rest) (hyk : ys[k]? = some yk) (hc : (yk, LCg.lst [.int i0 u0, .int i1 u1, .int i2 u2]) ∈ rest)
    (hsh : MapHas m (Str.ofString "share") (.float sat t1)) (hva : MapHas m (Str.ofString "value") (.float val t2)) (hli : MapHas m (Str.ofString "light") (.float lig t3)) (hst : MapHas m (Str.ofString "strength") (.float str t4)) (han : MapHas m (Str.ofString "angle") (.float ang t5))
    (p3 : Hid ((Float64.cmp sat 0 == some .eq) = false)) (p4 : Hid (Float64.isFinite (Float64.mul (fl i 72) c6) = true)) (p5 : Hid (0 ≤ hsvI (fl i 72))) (p6 : Hid (hsvI (fl i 72) < 12)) (p7 : Hid ((Float64.cmp str 0 == some .eq) = false))
    (v0 : Rnd16 (hsvBackOf (fl i 72) sat val).1 i0) (v1 : Rnd16 (hsvBackOf (fl i 72) sat val).2.1 i1) (v2 : Rnd16 (hsvBackOf (fl i 72) sat val).2.2 i2)
    (l0 : Rnd16 (vOf (m1Of lig str) (m2Of lig str) (Float64.add (fl i 72) cThird)) i0) (l1 : Rnd16 (vOf (m1Of lig str) (m2Of lig str) (fl i 72)) i1) (l2 : Rnd16 (vOf (m1Of lig str) (m2Of lig str) (Float64.sub (fl i 72) cThird)) i2)
    (a1 : Hid (Float64.isFinite (Float64.mul (Float64.ofInt 72) ang) = true)) (a2 : Hid (toInt Float64.nearestOf (Float64.mul (Float64.ofInt 72) ang) = pk)) (hp0 : 0 ≤ pk) (hp1 : pk < 72)
    (hE : PassesOwn (model prog w) (callerA.deeper (lawEnv L fa cd)) (lawEnv L fa cd) E)
    (hnext : ∀ t t' c4' m' h' tk', Fr h₀ L h' m' → News h₀ L h' (led L c5 c4' c3 ps ps8 rest) → c4'.data = .cell (some (.int (72 + pk) t)) → MapHas m' (Str.ofString "col") (.int (72 + pk) t') →
      m' (Str.ofString "wheel") = m (Str.ofString "wheel") → m' (Str.ofString "colours") = m (Str.ofString "colours") → Q .next { s with heap := h', toks := tk' }) :
    wpAny (model prog w) (callerA.deeper (lawEnv L fa cd)) (execs (forBody.drop 9) (lawEnv L fa cd)) Q E s := by
  show Seen Mine.hd.heap_39 Challenge.rw_mr0158_01 _
  k_fill
  unfold Seen
  show wpAny (model prog w) (callerA.deeper (envOfC (Str.ofString "law") lawScope L fa cd)) (execs (forBody.drop 9) (envOfC (Str.ofString "law") lawScope L fa cd)) Q E s
  conv in List.drop 9 forBody => whnf
  refine wpAny_execs_cons ?_
  refine For_invV h₀ rfl rfl ?_ ?hs ?hE
  case hs => intro _; rfl
  case hE => exact hE
  k_steps
  unfold SStop
  refine item_at (vs := [_]) N (mem_led hf) rfl (by omega) (by omega) rfl ?_ (by with_unfolding_all rfl)
  k_steps
  unfold SStop
  (rename Fr _ _ _ _ => F1)
  (rename News _ _ _ _ => N1)
  refine item_at (vs := [_]) N1 (.tail _ (mem_led hf)) rfl (by omega) (by omega) rfl ?_ (by with_unfolding_all rfl)
  k_steps
  unfold SStop
  (rename Fr _ _ _ _ => F2)
  (rename News _ _ _ _ => N2)
  refine iter_listUnr (vs := [_, _]) rfl F2 N2 (.head _) rfl rfl ?_
  intro I hIlt
  (try clear F2)
  (try clear N2)
  (try clear F1)
  (try clear N1)
  (try clear F)
  (try clear N)
  refine ListRest.succ ?_
  intro it h3 tk3 hit F3 N3
  refine paint1 B F3 X T N3 rfl (.tail _ (.tail _ (.tail _ (.head _)))) hcl (.tail _ (.tail _ (.tail _ (.tail _ (mem_led hCL))))) hlt hk hyk (.tail _ (.tail _ (.tail _ (.tail _ (mem_led hc))))) v0 v1 v2 ?_
  intro h4 tk4 F4 N4
  refine UnrEnd.intro F4 N4 _ (fun _ h => h) (fun q hq => Nat.ne_of_lt (hIlt q hq)) ⟨.head _, ?_⟩
  clear F3 N3 F4 N4 hit
  refine ListRest.succ ?_
  intro it5 h5 tk5 hit5 F5 N5
  refine paint1 B F5 X T N5 rfl (.tail _ (.tail _ (.head _))) hcl (.tail _ (.tail _ (.tail _ (.tail _ (mem_led hCL))))) hlt hk hyk (.tail _ (.tail _ (.tail _ (.tail _ (mem_led hc))))) l0 l1 l2 ?_
  intro h6 tk6 F6 N6
  refine UnrEnd.intro F6 N6 _ (fun _ h => h) (fun q hq => Nat.ne_of_lt (hIlt q hq)) ⟨.head _, ?_⟩
  clear F5 N5 F6 N6 hit5
  refine ListRest.zero ?_
  intro h7 tk7 F7 N7
  replace F7 := fr_envC F7
  replace N7 := news_envC N7
  replace N7 := news_sub N7 (fun q hq => List.Mem.tail _ (List.Mem.tail _ (List.Mem.tail _ hq)))
  clear hIlt
  dsimp only
  k_steps
  refine nameX_L (by k_asm) (by with_unfolding_all exact hlt) ?_
  k_steps
  unfold SStop
  (rename Fr _ _ _ _ => F8)
  (rename News _ _ _ _ => N8)
  obtain ⟨tp, hvk⟩ := IntsAre.get hI k pk hpk
  refine item_at N8 (mem_led hPL) rfl (by omega) (by omega) (by simpa using hvk) ?_ (by with_unfolding_all rfl)
  k_steps
  unfold SStop
  refine storeX_C F8 N8 rfl (UpdF.tail (by k_ne) (UpdF.head (mark_off hL O))) d4 ?_
  intro h9 c4' F9 N9 d4'
  k_steps
  refine hnext _ _ c4' _ _ _ F9 N9 d4' rfl rfl rfl
end Mine

/-! ## N3 -/
namespace Mine
/-- what is asked of a colour at the place i of the two turns -/
structure Paint (c : Int × Int × Int) (i : Int) : Prop where
  z1 : Float64.isZero (Float64.add (fMax (fl c.1 16) (fl c.2.1 16) (fl c.2.2 16)) (fMin (fl c.1 16) (fl c.2.1 16) (fl c.2.2 16))) = false
  z3 : Float64.isZero (Float64.sub (Float64.sub c2 (fMax (fl c.1 16) (fl c.2.1 16) (fl c.2.2 16))) (fMin (fl c.1 16) (fl c.2.1 16) (fl c.2.2 16))) = false
  sne : (Float64.cmp (satOf (fl c.1 16) (fl c.2.1 16) (fl c.2.2 16)) 0 == some .eq) = false
  fin : Float64.isFinite (Float64.mul (fl i 72) c6) = true
  i0 : 0 ≤ hsvI (fl i 72)
  i1 : hsvI (fl i 72) < 12
  st : (Float64.cmp (strOf (fl c.1 16) (fl c.2.1 16) (fl c.2.2 16)) 0 == some .eq) = false
  v0 : Rnd16 (hsvBackOf (fl i 72) (satOf (fl c.1 16) (fl c.2.1 16) (fl c.2.2 16)) (fMax (fl c.1 16) (fl c.2.1 16) (fl c.2.2 16))).1 c.1
  v1 : Rnd16 (hsvBackOf (fl i 72) (satOf (fl c.1 16) (fl c.2.1 16) (fl c.2.2 16)) (fMax (fl c.1 16) (fl c.2.1 16) (fl c.2.2 16))).2.1 c.2.1
  v2 : Rnd16 (hsvBackOf (fl i 72) (satOf (fl c.1 16) (fl c.2.1 16) (fl c.2.2 16)) (fMax (fl c.1 16) (fl c.2.1 16) (fl c.2.2 16))).2.2 c.2.2
  l0 : Rnd16 (vOf (m1Of (lightOf (fl c.1 16) (fl c.2.1 16) (fl c.2.2 16)) (strOf (fl c.1 16) (fl c.2.1 16) (fl c.2.2 16))) (m2Of (lightOf (fl c.1 16) (fl c.2.1 16) (fl c.2.2 16)) (strOf (fl c.1 16) (fl c.2.1 16) (fl c.2.2 16))) (Float64.add (fl i 72) cThird)) c.1
  l1 : Rnd16 (vOf (m1Of (lightOf (fl c.1 16) (fl c.2.1 16) (fl c.2.2 16)) (strOf (fl c.1 16) (fl c.2.1 16) (fl c.2.2 16))) (m2Of (lightOf (fl c.1 16) (fl c.2.1 16) (fl c.2.2 16)) (strOf (fl c.1 16) (fl c.2.1 16) (fl c.2.2 16))) (fl i 72)) c.2.1
  l2 : Rnd16 (vOf (m1Of (lightOf (fl c.1 16) (fl c.2.1 16) (fl c.2.2 16)) (strOf (fl c.1 16) (fl c.2.1 16) (fl c.2.2 16))) (m2Of (lightOf (fl c.1 16) (fl c.2.1 16) (fl c.2.2 16)) (strOf (fl c.1 16) (fl c.2.1 16) (fl c.2.2 16))) (Float64.sub (fl i 72) cThird)) c.2.2
set_option maxRecDepth 100000 in
set_option maxHeartbeats 1000000 in
theorem turn3 {prog : Program} {w : World} {p : Program} {loose : List Str} {mean : ExcName → Option Value} {mg mb : Str → Option Value} {fa : Addr} {cd : Value} {base h₀ : Heap} {L : Addr} {m : Str → Option Value} {s : Shared} {Q : Flow → Shared → Prop} {E : Value → Shared → Prop}
    {c5 c4 c3 : Obj} {ps ps8 : Array Value} {rest : List (Addr × Obj)} {places : List Int} {vs : List Value} {PL CL f yk : Addr} {ys : List Addr} {ti tl u0 u1 u2 : Tok} {i k : Nat} {i0 i1 i2 pk : Int} {v4 : Option Value}
    (B : Below callerA base [] h₀) (F : Fr h₀ L s.heap m) (X : (Mine.hd.heap_39 w.params).In h₀) (T : Top p loose mean mg mb h₀)
    (N : News h₀ L s.heap (led L c5 c4 c3 ps ps8 rest)) (O : Off5 L rest) (hL : @LT.lt Nat _ 83 L)
    (d5 : c5.data = .cell (some (.ref f))) (d4 : c4.data = .cell v4) (d3 : c3.data = .cell (some (.ref PL))) (hf : (f, W.listOf #[.int i ti] 0) ∈ rest)
    (hPL : (PL, LCg.lst vs) ∈ rest) (hI : IntsAre vs places) (hi : i < 144) (hk : k < 6) (hpk : places[k]? = some pk)
    (hcl : MapHas m (Str.ofString "colours") (.ref CL)) (hlt : MapHas m (Str.ofString "letter") (.int k tl)) (hCL : (CL, LCg.lst (ys.map .ref)) ∈ rest) (hyk : ys[k]? = some yk) (hc : (yk, LCg.lst [.int i0 u0, .int i1 u1, .int i2 u2]) ∈ rest)
    (H : Hue (i0, i1, i2) pk) (P : Paint (i0, i1, i2) i)
    (hE : PassesOwn (model prog w) (callerA.deeper (lawEnv L fa cd)) (lawEnv L fa cd) E)
    (hnext : ∀ t t' c4' m' h' tk', Fr h₀ L h' m' → News h₀ L h' (led L c5 c4' c3 ps ps8 rest) → c4'.data = .cell (some (.int (72 + pk) t)) → MapHas m' (Str.ofString "col") (.int (72 + pk) t') →
      m' (Str.ofString "wheel") = m (Str.ofString "wheel") → m' (Str.ofString "colours") = m (Str.ofString "colours") → Q .next { s with heap := h', toks := tk' }) :
    wpAny (model prog w) (callerA.deeper (lawEnv L fa cd)) (execs (forBody.drop 6) (lawEnv L fa cd)) Q E s := by
  show Seen Mine.hd.heap_39 Challenge.rw_mr0158_01 _
  k_fill
  unfold Seen
  show wpAny (model prog w) (callerA.deeper (envOfC (Str.ofString "law") lawScope L fa cd)) (execs (forBody.drop 6) (envOfC (Str.ofString "law") lawScope L fa cd)) Q E s
  conv in List.drop 6 forBody => whnf
  have hclK : Hid (MapHas m (Str.ofString "colours") (.ref CL)) := hcl
  have hltK : Hid (MapHas m (Str.ofString "letter") (.int k tl)) := hlt
  have b1 : 0 ≤ i0 ∧ i0 ≤ 16 := H.b1
  have b2 : 0 ≤ i1 ∧ i1 ≤ 16 := H.b2
  have b3 : 0 ≤ i2 ∧ i2 ≤ 16 := H.b3
  refine wpAny_execs_cons ?_
  k_steps
  unfold SStop
  refine item_at (v := .ref yk) N (mem_led hCL) rfl (by omega) (by omega) (by simp [hyk]) ?_ (by with_unfolding_all rfl)
  k_steps
  unfold SStop
  refine LCg.CompSrc.ledger rfl F N (mem_led hc) (by rw [sizeLine_eq]; exact Nat.le_of_ble_eq_true rfl) ?_
  intro g'
  refine rest_ind (fun j vs nw => nw = led L c5 c4 c3 ps ps8 rest ∧ FlsAre vs ([fl i0 16, fl i1 16, fl i2 16].take j)) ⟨rfl, .nil⟩ ?turn ?fin
  case turn =>
    intro j v I oI C oC D m₂ vs nw h tk E' hj hJ hP hC hx F2 N2 off ne
    obtain ⟨rfl, hys⟩ := hJ
    obtain ⟨c, t, rfl, hcj, hr0, hr1⟩ : ∃ c t, v = .int c t ∧ [fl i0 16, fl i1 16, fl i2 16][j]? = some (fl c 16) ∧ 0 ≤ c ∧ c ≤ 16 := by
      have : j = 0 ∨ j = 1 ∨ j = 2 := by have : j < 3 := hj; omega
      rcases this with rfl | rfl | rfl
      · exact ⟨i0, u0, (Option.some.inj hP).symm, rfl, b1⟩
      · exact ⟨i1, u1, (Option.some.inj hP).symm, rfl, b2⟩
      · exact ⟨i2, u2, (Option.some.inj hP).symm, rfl, b3⟩
    clear hnext P
    k_steps
    unfold SStop
    refine LCg.CompEnd.intro F2 N2 _ (fun _ h => h) off (.inr ⟨_, mem_led hc, rfl, _, rfl⟩) ⟨rfl, ?_⟩
    rw [List.take_add_one, hcj]
    exact FlsAre.snoc hys _ _
  case fin =>
    intro vs nw hJ
    obtain ⟨rfl, hys⟩ := hJ
    obtain ⟨t1, t2, t3, rfl⟩ := FlsAre.three hys
    have f1 := show Hid _ from H.ne
    have f2 := show Hid _ from H.z1
    have f3 := show Hid _ from H.z2
    have f4 := show Hid _ from H.fin
    have f5 := show Hid _ from H.rnd
    have p1 := show Hid _ from P.z1
    have p2 := show Hid _ from P.z3
    have p3 := show Hid _ from P.sne
    have p4 := show Hid _ from P.fin
    have p5 := show Hid _ from P.i0
    have p6 := show Hid _ from P.i1
    have p7 := show Hid _ from P.st
    dsimp only at f1 f2 f3 f4 f5 p1 p2 p3 p7
    clear N F hys
    k_steps
    unfold SStop
    (rename Fr _ _ _ _ => F9)
    (rename News _ _ _ _ => N9)
    refine turn4 B F9 X T (news_sub N9 (fun q hq => List.Mem.tail _ hq)) O hL d5 d4 d3 hf hPL hI hi hk hpk (by with_unfolding_all exact hclK.out) (by with_unfolding_all exact hltK.out) hCL hyk hc rfl rfl rfl rfl rfl p3 p4 p5 p6 p7 P.v0 P.v1 P.v2 P.l0 P.l1 P.l2 f4 f5 H.p0 H.p1 hE ?_
    intro t t' c4' m' h' tk' F' N' d4' hcol hw' hc'
    exact hnext t t' c4' m' h' tk' F' N' d4' hcol hw' hc'
end Mine

/-! ## N5 -/
namespace Mine
/-- what stands through the loop -/
structure Stand (CL PL : Addr) (ys : List Addr) (cols : List (Int × Int × Int)) (vs : List Value) (places : List Int) (stand : List (Addr × Obj)) : Prop where
  cl : (CL, LCg.lst (ys.map .ref)) ∈ stand
  pl : (PL, LCg.lst vs) ∈ stand
  leny : ys.length = 6
  lenc : cols.length = 6
  lenp : places.length = 6
  intsA : IntsAre vs places
  item : ∀ i : Nat, ∀ y c, ys[i]? = some y → cols[i]? = some c → ∃ t1 t2 t3, (y, LCg.lst [.int c.1 t1, .int c.2.1 t2, .int c.2.2 t3]) ∈ stand
  good : ∀ i : Nat, ∀ c q, cols[i]? = some c → places[i]? = some q → 0 ≤ q → Hue c q ∧ Paint c q ∧ Paint c (q + 72)
/-- the wheel's plain facts -/
structure Wheel (codes : List Nat) (places : List Int) : Prop where
  len : codes.length = 144
  nil : ∀ mark : Int, 72 ≤ mark → mark < 144 → (∀ k : Nat, (k : Int) < mark → k < 144 → Blank codes k) → backsOf mark places = []
  cons : ∀ mark : Int, 72 ≤ mark → mark < 144 → ∀ i : Nat, (i : Int) < mark → IsLetter codes i → (∀ k : Nat, i < k → (k : Int) < mark → k < 144 → Blank codes k) → ∃ b ∈ backsOf mark places, (∀ x ∈ backsOf mark places, b ≤ x) ∧ mark - 1 - b = i
  letter : ∀ i : Nat, i < 144 → IsLetter codes i → ∃ k : Nat, k < 6 ∧ places[k]? = some ((i : Int).fmod 72) ∧ (∀ j : Nat, j < 6 → places[j]? = some ((i : Int).fmod 72) → j ≤ k) ∧ codes[i]? = some (97 + k)
/-- between two turns -/
noncomputable def LoopJ (L CL PL I : Addr) (codes : List Nat) (stand : List (Addr × Obj)) (m : Str → Option Value) (news : List (Addr × Obj)) : Prop :=
  ∃ (mark : Int) (c5 c4 c3 : Obj) (ps ps8 : Array Value) (tobjs aobjs : List (Addr × Obj)) (v5 : Option Value) (tm tw tc : Tok), news = led L c5 c4 c3 ps ps8 (stand ++ (tobjs ++ aobjs)) ∧ Off5 L (stand ++ (tobjs ++ aobjs)) ∧ (∀ q ∈ news, q.1 ≠ I) ∧ TabS ps tobjs ∧ TabA ps8 aobjs ∧
    c5.data = .cell v5 ∧ c4.data = .cell (some (.int mark tm)) ∧ c3.data = .cell (some (.ref PL)) ∧ MapHas m (Str.ofString "wheel") (.str ⟨codes.toArray⟩ tw) ∧ MapHas m (Str.ofString "colours") (.ref CL) ∧ MapHas m (Str.ofString "col") (.int mark tc) ∧ 72 ≤ mark ∧ mark < 144
theorem led_ne {L I : Addr} {c5 c4 c3 c5' c4' : Obj} {ps ps8 ps' ps8' : Array Value} {rest rest' : List (Addr × Obj)} (h : ∀ q ∈ led L c5 c4 c3 ps ps8 rest, q.1 ≠ I) (hr : ∀ q ∈ rest', q.1 ≠ I) : ∀ q ∈ led L c5' c4' c3 ps' ps8' rest', q.1 ≠ I := fun q hq => by
  rcases List.mem_cons.mp hq with rfl | hq
  · exact h (L + 1 + 1 + 1 + 1 + 1, c5) (.head _)
  rcases List.mem_cons.mp hq with rfl | hq
  · exact h (L + 1 + 1 + 1 + 1, c4) (.tail _ (.head _))
  rcases List.mem_cons.mp hq with rfl | hq
  · exact h (L + 1 + 1 + 1, c3) (.tail _ (.tail _ (.head _)))
  rcases List.mem_cons.mp hq with rfl | hq
  · exact h (76, tabObj ps) (.tail _ (.tail _ (.tail _ (.head _))))
  rcases List.mem_cons.mp hq with rfl | hq
  · exact h (83, tabObj ps8) (.tail _ (.tail _ (.tail _ (.tail _ (.head _)))))
  · exact hr q hq
theorem has_skip {m : Str → Option Value} {x y : Str} {u v : Value} (h : MapHas m x v) (hn : x ≠ y) : MapHas (fun z => if z = y then some u else m z) x v := by
  show (if x = y then some u else m x) = some v
  rw [if_neg hn]; exact h
theorem ne_of_dec {x y : Str} (h : decide (x = y) = false) : x ≠ y := of_decide_eq_false h
theorem n1 : Str.ofString "wheel" ≠ Str.ofString "turn" := by decide +kernel
theorem n2 : Str.ofString "colours" ≠ Str.ofString "turn" := by decide +kernel
theorem n3 : Str.ofString "col" ≠ Str.ofString "turn" := by decide +kernel
theorem n4 : Str.ofString "wheel" ≠ Str.ofString "backs" := by decide +kernel
theorem n5 : Str.ofString "colours" ≠ Str.ofString "backs" := by decide +kernel
theorem n6 : Str.ofString "wheel" ≠ Str.ofString "letter" := by decide +kernel
theorem n7 : Str.ofString "colours" ≠ Str.ofString "letter" := by decide +kernel
theorem itR_not {x l : Int} {q : Str} : ¬ CodeIs (itR x l) q := fun ⟨vs, t, e, h⟩ => by
  unfold itR at e
  injection e with e
  subst e
  cases h
theorem tab_not {ps ps8 : Array Value} {tobjs aobjs : List (Addr × Obj)} {x l : Int} (hT : TabS ps tobjs) (hA : TabA ps8 aobjs) : ∀ q ∈ tobjs ++ aobjs, q.2 ≠ itR x l := fun q hq e => by
  rcases List.mem_append.mp hq with hq | hq
  · rcases hT with ⟨_, rfl⟩ | ⟨a, b, oa, ob, _, rfl, h1, h2⟩
    · cases hq
    · rcases List.mem_cons.mp hq with rfl | hq
      · exact itR_not ((show oa = itR x l from e) ▸ h1)
      · rw [List.mem_singleton.mp hq] at e; exact itR_not ((show ob = itR x l from e) ▸ h2)
  · rcases hA with ⟨_, rfl⟩ | ⟨a, oa, _, rfl, h1⟩
    · cases hq
    · rw [List.mem_singleton.mp hq] at e; exact itR_not ((show oa = itR x l from e) ▸ h1)

theorem loop_turn {prog : Program} {w : World} {p : Program} {loose : List Str} {mean : ExcName → Option Value} {mg mb : Str → Option Value} {fa : Addr} {cd : Value} {base h₀ : Heap} {L : Addr} {m : Str → Option Value} {s : Shared} {Q : Flow → Shared → Prop} {E : Value → Shared → Prop}
    {CL PL I : Addr} {codes : List Nat} {stand news : List (Addr × Obj)} {ys : List Addr} {cols : List (Int × Int × Int)} {vs : List Value} {places : List Int} {x l n : Int} {t : Tok} {h : Heap} {tk : Nat}
    (B : Below callerA base [] h₀) (X : (Mine.hd.heap_39 w.params).In h₀) (T : Top p loose mean mg mb h₀) (CH : CodeHd h₀ 80 76) (CA : CodeHd h₀ 87 83) (hL : @LT.lt Nat _ 83 L)
    (hE : PassesOwn (model prog w) (callerA.deeper (lawEnv L fa cd)) (lawEnv L fa cd) E) (S : Stand CL PL ys cols vs places stand) (W : Wheel codes places) (hst : ∀ q ∈ stand, q.1 ≠ I) (J : LoopJ L CL PL I codes stand m news)
    (F : Fr h₀ L h (fun y => if y = Str.ofString "turn" then some (.int n t) else m y)) (N : News h₀ L h ((I, itR x l) :: news))
    (hret : ∀ h' tk' c5' c4' c3' ps' ps8' rest' m', Fr h₀ L h' m' → News h₀ L h' (led L c5' c4' c3' ps' ps8' rest') → Q (.ret (.bool true)) { s with heap := h', toks := tk' })
    (hnext : ∀ h' tk' m' news', Fr h₀ L h' m' → News h₀ L h' ((I, itR x l) :: news') → (∀ q ∈ news', q.1 ≠ I) → LoopJ L CL PL I codes stand m' news' → Q .next { s with heap := h', toks := tk' }) :
    wpAny (model prog w) (callerA.deeper (lawEnv L fa cd)) (execs forBody (lawEnv L fa cd)) Q E { s with heap := h, toks := tk } := by
  obtain ⟨mark, c5, c4, c3, ps, ps8, tobjs, aobjs, v5, tm, tw, tc, rfl, O, hne, hT, hA, d5, d4, d3, hw, hc, hcol, hm0, hm1⟩ := J
  have N' := led_in N
  have O' : Off5 L ((I, itR x l) :: (stand ++ (tobjs ++ aobjs))) := fun q hq => by
    rcases List.mem_cons.mp hq with rfl | hq
    · exact ⟨(hne _ (.head _)).symm, (hne _ (.tail _ (.head _))).symm, (hne _ (.tail _ (.tail _ (.head _)))).symm, (hne _ (.tail _ (.tail _ (.tail _ (.head _))))).symm, (hne _ (.tail _ (.tail _ (.tail _ (.tail _ (.head _)))))).symm⟩
    · exact O q hq
  refine turn1 (s := { s with heap := h, toks := tk }) B F X T CH CA N' O' hL hT hA (fun q hq => .tail _ (List.mem_append_right _ hq)) d5 d4 d3 (.tail _ (List.mem_append_left _ S.pl)) S.intsA S.lenp (has_skip hw n1) (has_skip hcol n3) W.len hm0 hm1 (W.nil mark hm0 hm1) (W.cons mark hm0 hm1)
    (fun h' tk' c5' ps' ps8' rest' m' F' N' => hret h' tk' _ _ _ _ _ _ _ F' N') ?_
  intro i f ti c5' m1 rest1 ps1 ps81 tobjs1 aobjs1 h1 tk1 hi hlet hbl F1 N1 O1 hT1 hA1 hta1 hsub d5' hf hm1'
  have hi2 : i < 144 := by omega
  obtain ⟨k, hk, hpk, hkm, hck⟩ := W.letter i hi2 hlet
  have hw1 : MapHas m1 (Str.ofString "wheel") (.str ⟨codes.toArray⟩ tw) := hm1' _ _ n4 (has_skip hw n1)
  have hc1 : MapHas m1 (Str.ofString "colours") (.ref CL) := hm1' _ _ n5 (has_skip hc n2)
  have hPL1 : (PL, LCg.lst vs) ∈ rest1 := hsub _ (.tail _ (List.mem_append_left _ S.pl))
  refine turn2 (s := { s with heap := h1, toks := tk1 }) B F1 X T N1 d5' d3 hf hPL1 S.intsA S.lenp hw1 hi2 hk hpk hkm hck ?_
  intro tl h2 tk2 F2 N2
  obtain ⟨yk, hyk⟩ : ∃ yk, ys[k]? = some yk := ⟨_, List.getElem?_eq_getElem (by rw [S.leny]; exact hk)⟩
  obtain ⟨⟨i0, i1, i2⟩, hck2⟩ : ∃ c, cols[k]? = some c := ⟨_, List.getElem?_eq_getElem (by rw [S.lenc]; exact hk)⟩
  obtain ⟨u0, u1, u2, hcm⟩ := S.item k yk _ hyk hck2
  have hp0 : 0 ≤ (i : Int).fmod 72 := Int.fmod_nonneg_of_pos _ (by decide)
  obtain ⟨H, P1, P2⟩ := S.good k _ _ hck2 hpk hp0
  have P : Paint (i0, i1, i2) i := by
    have e : (i : Int).fmod 72 = (i : Int) % 72 := Int.fmod_eq_emod_of_nonneg _ (by decide)
    by_cases h72 : i < 72
    · rw [show (i : Int).fmod 72 = (i : Int) by omega] at P1; exact P1
    · rw [show (i : Int).fmod 72 + 72 = (i : Int) by omega] at P2; exact P2
  refine turn3 (s := { s with heap := h2, toks := tk2 }) B F2 X T N2 O1 hL d5' d4 d3 hf hPL1 S.intsA hi2 hk hpk (has_skip hc1 n7) (by show (if _ then _ else _) = _; rw [if_pos rfl]) (hsub _ (.tail _ (List.mem_append_left _ S.cl))) hyk (hsub _ (.tail _ (List.mem_append_left _ hcm))) H P hE ?_
  intro t1 t2 c4' m3 h3 tk3 F3 N3 d4' hcol3 hw3 hc3
  have hIm : (I, itR x l) ∈ rest1 := hsub _ (.head _)
  have hta : ∀ q ∈ stand ++ (tobjs1 ++ aobjs1), q ∈ rest1 := fun q hq => (List.mem_append.mp hq).elim (fun h => hsub _ (.tail _ (List.mem_append_left _ h))) (hta1 q)
  have hneI : ∀ q ∈ stand ++ (tobjs1 ++ aobjs1), q.1 ≠ I := fun q hq => by
    rcases List.mem_append.mp hq with h | h
    · exact hst q h
    · intro e
      have e1 := (N3 q (mem_led (hta q hq))).1
      have e2 := (N3 _ (mem_led hIm)).1
      rw [e, e2] at e1
      exact tab_not hT1 hA1 q h (Option.some.inj e1).symm
  have hall : ∀ q ∈ led L c5' c4' c3 ps1 ps81 (stand ++ (tobjs1 ++ aobjs1)), q.1 ≠ I := led_ne hne hneI
  refine hnext h3 tk3 m3 (led L c5' c4' c3 ps1 ps81 (stand ++ (tobjs1 ++ aobjs1))) F3 (news_sub N3 fun q hq => ?_) hall ?_
  · rcases List.mem_cons.mp hq with rfl | hq
    · exact mem_led hIm
    · rcases List.mem_cons.mp hq with rfl | hq
      · exact .head _
      rcases List.mem_cons.mp hq with rfl | hq
      · exact .tail _ (.head _)
      rcases List.mem_cons.mp hq with rfl | hq
      · exact .tail _ (.tail _ (.head _))
      rcases List.mem_cons.mp hq with rfl | hq
      · exact .tail _ (.tail _ (.tail _ (.head _)))
      rcases List.mem_cons.mp hq with rfl | hq
      · exact .tail _ (.tail _ (.tail _ (.tail _ (.head _))))
      · exact mem_led (hta q hq)
  · refine ⟨72 + (i : Int).fmod 72, c5', c4', c3, ps1, ps81, tobjs1, aobjs1, _, _, tw, _, rfl, fun q hq => O1 q (hta q hq), hall, hT1, hA1, d5', d4', d3, ?_, ?_, hcol3, by omega, ?_⟩
    · show m3 _ = _; rw [hw3]; exact has_skip hw1 n6
    · show m3 _ = _; rw [hc3]; exact has_skip hc1 n7
    · have := Int.fmod_lt_of_pos (i : Int) (show (0 : Int) < 72 by decide); omega
theorem loop_all {prog : Program} {w : World} {p : Program} {loose : List Str} {mean : ExcName → Option Value} {mg mb : Str → Option Value} {fa : Addr} {cd : Value} {base h₀ : Heap} {L : Addr} {s : Shared} {Q : Flow → Shared → Prop} {E : Value → Shared → Prop}
    {CL PL I : Addr} {codes : List Nat} {stand : List (Addr × Obj)} {ys : List Addr} {cols : List (Int × Int × Int)} {vs : List Value} {places : List Int} {a : Int} {n : Nat}
    (B : Below callerA base [] h₀) (X : (Mine.hd.heap_39 w.params).In h₀) (T : Top p loose mean mg mb h₀) (CH : CodeHd h₀ 80 76) (CA : CodeHd h₀ 87 83) (hL : @LT.lt Nat _ 83 L)
    (hE : PassesOwn (model prog w) (callerA.deeper (lawEnv L fa cd)) (lawEnv L fa cd) E) (S : Stand CL PL ys cols vs places stand) (W : Wheel codes places) (hst : ∀ q ∈ stand, q.1 ≠ I)
    (hret : ∀ h' tk' c5' c4' c3' ps' ps8' rest' m', Fr h₀ L h' m' → News h₀ L h' (led L c5' c4' c3' ps' ps8' rest') → Q (.ret (.bool true)) { s with heap := h', toks := tk' })
    (hend : ∀ h' tk' c5' c4' c3' ps' ps8' rest' m', Fr h₀ L h' m' → News h₀ L h' (led L c5' c4' c3' ps' ps8' rest') → Q .next { s with heap := h', toks := tk' }) :
    ∀ k i m news, LoopJ L CL PL I codes stand m news → RangeRest prog w (callerA.deeper (lawEnv L fa cd)) E h₀ (lawEnv L fa cd) (Str.ofString "turn") forBody Q s I a n k i m news := by
  intro k
  induction k with
  | zero =>
    intro i m news J
    obtain ⟨mark, c5, c4, c3, ps, ps8, tobjs, aobjs, v5, tm, tw, tc, rfl, _⟩ := J
    exact RangeRest.zero fun h tk F N => hend h tk _ _ _ _ _ _ _ F N
  | succ k ih =>
    intro i m news J
    refine RangeRest.succ fun t h tk F N => ?_
    refine loop_turn B X T CH CA hL hE S W hst J F N (fun h' tk' c5' c4' c3' ps' ps8' rest' m' F' N' => hret h' tk' _ _ _ _ _ _ _ F' N') (fun h' tk' m' news' F' N' hne J' => ?_)
    exact UnrEnd.intro F' N' news' (fun _ h => h) hne (ih (i + 1) m' news' J')
end Mine

/-! ## N6a -/
theorem Mine.LN82 : True := by
  k_with "execs cons" => (k_here; (with_reducible show wpAny _ _ (execs (Stmt.Assign [Expr.Name (Str.ofString "drawn") _] _ _ :: _) _) _ _ _); (refine Mine.SStop.out ?_))
  exact trivial
theorem Mine.LN83 : True := by
  k_with "execs cons" => (k_here; (with_reducible show wpAny _ _ (execs (Stmt.Assign [Expr.Name (Str.ofString "colours") _] _ _ :: _) _) _ _ _); (refine Mine.SStop.out ?_))
  exact trivial
theorem Mine.LN84 : True := by
  k_with "execs cons" => (k_here; (with_reducible show wpAny _ _ (execs (Stmt.Assign [Expr.Name (Str.ofString "wheel") _] _ _ :: _) _) _ _ _); (refine Mine.SStop.out ?_))
  exact trivial
theorem Mine.LN85 : True := by
  k_with "execs cons" => (k_here; (with_reducible show wpAny _ _ (execs (Stmt.For (Expr.Name (Str.ofString "turn") _) _ _ _ _ :: _) _) _ _ _); (refine Mine.SStop.out ?_))
  exact trivial
namespace Mine
theorem seven_at {t0 t1 t2 t3 t4 t5 t6 : Tok} {k : Int} (h : 0 ≤ k ∧ k < 7) : ∃ x t, [Value.int 11111 t0, .int 3202 t1, .int 23034 t2, .int 12514 t3, .int 21322 t4, .int 10000 t5, .int 50 t6][k.toNat]? = some (.int x t) := by
  have : k = 0 ∨ k = 1 ∨ k = 2 ∨ k = 3 ∨ k = 4 ∨ k = 5 ∨ k = 6 := by omega
  rcases this with rfl | rfl | rfl | rfl | rfl | rfl | rfl <;> exact ⟨_, _, rfl⟩
theorem item_ex {prog : Program} {w : World} {A : Around} {E : Value → Shared → Prop} {s : Shared} {h₀ : Heap} {L l : Addr} {news : List (Addr × Obj)} {value slice : PySem.Expr} {vs : List Value} {Q : Value → Shared → Prop} {k : Int} {u : Tok} {o : Obj} {n : Nat} (N : News h₀ L s.heap news) (hm : (l, o) ∈ news) (ho : o = W.listOf vs.toArray n) (h0 : 0 ≤ k) (h1 : k < 1024) (hx : ∃ x t, vs[k.toNat]? = some (.int x t)) (h : ∀ x t, Q (.int x t) s)
    (hs : subscripted slice false (.ref l) (.int k u) = operate [.ref l, .int k u] (getItem (.ref l) (.int k u))) :
    wpAny (model prog w) A (subscriptTail value slice (.ref l) (.int k u)) Q E s := by
  obtain ⟨x, t, e⟩ := hx
  exact item_at N hm ho h0 h1 e (h x t) hs
set_option maxRecDepth 100000 in
set_option maxHeartbeats 1000000 in
theorem pre1 {prog : Program} {w : World} {p : Program} {loose : List Str} {mean : ExcName → Option Value} {mg mb : Str → Option Value} {fa : Addr} {cd : Value} {base h₀ : Heap} {L : Addr} {m : Str → Option Value} {s : Shared} {Q : Flow → Shared → Prop} {E : Value → Shared → Prop}
    {c5 c4 c3 c2 c1 : Obj} {l : Addr} {svs : List Value} {sns : List Int} {v2 : Option Value}
    (B : Below callerA base [] h₀) (F : Fr h₀ L s.heap m) (X : (Mine.hd.heap_39 w.params).In h₀) (T : Top p loose mean mg mb h₀)
    (N : News h₀ L s.heap [(L + 1 + 1 + 1 + 1 + 1, c5), (L + 1 + 1 + 1 + 1, c4), (L + 1 + 1 + 1, c3), (L + 1 + 1, c2), (L + 1, c1), (76, tabObj #[]), (83, tabObj #[])]) (hL : @LT.lt Nat _ 83 L)
    (d1 : c1.data = .cell (some (.ref l))) (d2 : c2.data = .cell v2) (hl : h₀.IsList l svs.toArray) (hI : IntsAre svs sns) (hz : svs.toArray.size ≤ sizeLine)
    (hnext : ∀ DN nvs ns m' h' tk', Fr h₀ L h' m' → MapHas m' (Str.ofString "numbers") (.ref DN) → News h₀ L h' (led L c5 c4 c3 #[] #[] [(DN, LCg.lst nvs)]) → Off5 L [(DN, LCg.lst nvs)] → IntsAre nvs ns → ns.length = 7 →
      wpAny (model prog w) (callerA.deeper (lawEnv L fa cd)) (execs (lawBody.drop 2) (lawEnv L fa cd)) Q E { s with heap := h', toks := tk' }) :
    wpAny (model prog w) (callerA.deeper (lawEnv L fa cd)) (execs lawBody (lawEnv L fa cd)) Q E s := by
  show Seen Mine.hd.heap_39 Challenge.rw_mr0158_01 _
  k_fill
  unfold Seen
  show wpAny (model prog w) (callerA.deeper (envOfC (Str.ofString "law") lawScope L fa cd)) (execs lawBody (envOfC (Str.ofString "law") lawScope L fa cd)) Q E s
  conv in lawBody => whnf
  k_steps
  unfold SStop
  (rename Fr _ _ _ _ => F1)
  (rename News _ _ _ _ => N1)
  (rename IsRange _ _ _ _ _ _ _ _ => hR)
  refine LCg.CompSrc.range (n := 7) rfl F1 N1 hR (by decide) (by decide) (by rw [sizeLine_eq]; decide) ?_
  intro g'
  refine rest_ind (fun j ys nw => nw = _ ∧ ∃ ns, IntsAre ys ns ∧ ns.length = j) ⟨rfl, [], .nil, rfl⟩ ?turn ?fin
  case turn =>
    intro j v I oI C oC D m₂ ys nw h tk E' hj hJ hP hC hx F2 N2 off ne
    obtain ⟨rfl, ns, hys, hlen⟩ := hJ
    obtain ⟨t, rfl⟩ := hP
    clear hnext
    k_steps
    unfold SStop
    refine item_ex N2 (.tail _ (.tail _ (.tail _ (.head _)))) rfl (by omega) (by omega) (seven_at (by omega)) ?_ (by with_unfolding_all rfl)
    intro x t0
    k_steps
    unfold SStop
    (rename Fr _ _ _ _ => F3)
    (rename News _ _ _ _ => N3)
    refine LCg.CompEnd.intro F3 N3 _ (fun _ h => h) off trivial ⟨rfl, _, IntsAre.append hys (.cons _ _ .nil), ?_⟩
    rw [List.length_append, hlen]; rfl
  case fin =>
    intro ys nw hJ
    obtain ⟨rfl, ns, hys, hlen⟩ := hJ
    k_steps
    unfold SStop
    (rename Fr _ _ _ _ => F4)
    (rename News _ _ _ _ => N4)
    (rename (_ ≠ _ ∧ _) => o1)
    obtain ⟨_, a5, a4, a3, _, _, a76, a83⟩ := o1
    refine hnext _ ys ns _ _ _ F4 rfl (news_sub N4 fun q hq => ?_) (fun q hq => ?_) hys hlen
    · rcases List.mem_cons.mp hq with rfl | hq
      · k_mem
      rcases List.mem_cons.mp hq with rfl | hq
      · k_mem
      rcases List.mem_cons.mp hq with rfl | hq
      · k_mem
      rcases List.mem_cons.mp hq with rfl | hq
      · k_mem
      rcases List.mem_cons.mp hq with rfl | hq
      · k_mem
      rw [List.mem_singleton.mp hq]; k_mem
    · rw [List.mem_singleton.mp hq]; exact ⟨Ne.symm a5, Ne.symm a4, Ne.symm a3, Ne.symm a76, Ne.symm a83⟩
end Mine

/-! ## N6b -/
theorem Mine.LN86 : True := by
  k_with "call ref" => (k_here; (with_reducible show wpAny _ _ (call (Value.ref 68) _) _ _ _); (refine Mine.SStop.out ?_))
  exact trivial
namespace Mine
noncomputable def DrawnIn (objs : List (Addr × Obj)) (ys : List Value) (l : List Int) : Prop := ys.length = l.length ∧ ∀ j : Nat, ∀ n, l[j]? = some n → ∃ x y t t1 t2 t3, ys[j]? = some (.ref x) ∧ (x, tup2 (.ref y) (.int (placeN n) t)) ∈ objs ∧ (y, LCg.lst [.int (colN n).1 t1, .int (colN n).2.1 t2, .int (colN n).2.2 t3]) ∈ objs
theorem DrawnIn.nil {objs : List (Addr × Obj)} : DrawnIn objs [] [] := ⟨rfl, fun j n h => by simp at h⟩
theorem DrawnIn.mono {objs objs' : List (Addr × Obj)} {ys : List Value} {l : List Int} (h : DrawnIn objs ys l) (hs : ∀ q ∈ objs, q ∈ objs') : DrawnIn objs' ys l := ⟨h.1, fun j n e => by
  obtain ⟨x, y, t, t1, t2, t3, e1, e2, e3⟩ := h.2 j n e
  exact ⟨x, y, t, t1, t2, t3, e1, hs _ e2, hs _ e3⟩⟩
theorem DrawnIn.snoc {objs : List (Addr × Obj)} {ys : List Value} {l : List Int} {n : Int} {x y : Addr} {t t1 t2 t3 : Tok} (h : DrawnIn objs ys l) (h1 : (x, tup2 (.ref y) (.int (placeN n) t)) ∈ objs) (h2 : (y, LCg.lst [.int (colN n).1 t1, .int (colN n).2.1 t2, .int (colN n).2.2 t3]) ∈ objs) : DrawnIn objs (ys ++ [.ref x]) (l ++ [n]) := by
  refine ⟨by simp [h.1], fun j k e => ?_⟩
  by_cases hj : j < l.length
  · rw [List.getElem?_append_left hj] at e
    obtain ⟨x, y, t, t1, t2, t3, e1, e2, e3⟩ := h.2 j k e
    exact ⟨x, y, t, t1, t2, t3, by rw [List.getElem?_append_left (by rw [h.1]; exact hj)]; exact e1, e2, e3⟩
  · rw [List.getElem?_append_right (by omega)] at e
    have e0 : j - l.length = 0 := by
      have := (List.getElem?_eq_some_iff.mp e).1
      simp at this; omega
    rw [e0] at e
    obtain rfl : n = k := by simpa using e
    exact ⟨x, y, t, t1, t2, t3, by rw [List.getElem?_append_right (by rw [h.1]; omega), h.1, e0]; rfl, h1, h2⟩
theorem off3_cons {I C D x : Addr} {o : Obj} {nw : List (Addr × Obj)} (h : LCg.Off3 I C D nw) (hx : x ≠ I ∧ x ≠ C ∧ x ≠ D) : LCg.Off3 I C D ((x, o) :: nw) := ⟨hx, h⟩
theorem led_of_app {L : Addr} {c5 c4 c3 : Obj} {ps ps8 : Array Value} {rest objs : List (Addr × Obj)} {I C D z : Addr × Obj} : ∀ q ∈ led L c5 c4 c3 ps ps8 rest, q ∈ I :: C :: D :: (objs ++ (z :: led L c5 c4 c3 ps ps8 rest)) := fun _ hq => .tail _ (.tail _ (.tail _ (List.mem_append_right _ (.tail _ hq))))
theorem off1_mem {D : Addr} {l : List (Addr × Obj)} (h : LCg.Off1 D l) (q : Addr × Obj) (hq : q ∈ l) : q.1 ≠ D := by
  induction l with
  | nil => cases hq
  | cons a r ih =>
    rcases List.mem_cons.mp hq with e | hq
    · rw [e]; exact h.1
    · exact ih h.2 hq
theorem led_mid {h₀ h : Heap} {L : Addr} {c5 c4 c3 : Obj} {ps ps8 : Array Value} {rest objs : List (Addr × Obj)} {z y : Addr × Obj} (N : News h₀ L h (z :: (objs ++ (y :: led L c5 c4 c3 ps ps8 rest)))) : News h₀ L h (led L c5 c4 c3 ps ps8 (z :: (objs ++ rest))) := by
  have up : ∀ q ∈ led L c5 c4 c3 ps ps8 rest, q ∈ z :: (objs ++ (y :: led L c5 c4 c3 ps ps8 rest)) := fun q hq => .tail _ (List.mem_append_right _ (.tail _ hq))
  refine news_sub N fun p hp => ?_
  rcases List.mem_cons.mp hp with rfl | hp
  · exact up _ (.head _)
  rcases List.mem_cons.mp hp with rfl | hp
  · exact up _ (.tail _ (.head _))
  rcases List.mem_cons.mp hp with rfl | hp
  · exact up _ (.tail _ (.tail _ (.head _)))
  rcases List.mem_cons.mp hp with rfl | hp
  · exact up _ (.tail _ (.tail _ (.tail _ (.head _))))
  rcases List.mem_cons.mp hp with rfl | hp
  · exact up _ (.tail _ (.tail _ (.tail _ (.tail _ (.head _)))))
  rcases List.mem_cons.mp hp with rfl | hp
  · exact .head _
  rcases List.mem_append.mp hp with hp | hp
  · exact .tail _ (List.mem_append_left _ hp)
  · exact up _ (mem_led hp)
theorem off5_mid {L D : Addr} {o c5 c4 c3 : Obj} {ps ps8 : Array Value} {rest objs : List (Addr × Obj)} {y : Addr × Obj} (o1 : LCg.Off1 D (objs ++ (y :: led L c5 c4 c3 ps ps8 rest))) (hO : Off5 L objs) (O : Off5 L rest) : Off5 L ((D, o) :: (objs ++ rest)) := by
  have up : ∀ q ∈ led L c5 c4 c3 ps ps8 rest, D ≠ q.1 := fun q hq => (off1_mem o1 q (List.mem_append_right _ (.tail _ hq))).symm
  intro q hq
  rcases List.mem_cons.mp hq with rfl | hq
  · exact ⟨up _ (.head _), up _ (.tail _ (.head _)), up _ (.tail _ (.tail _ (.head _))), up _ (.tail _ (.tail _ (.tail _ (.head _)))), up _ (.tail _ (.tail _ (.tail _ (.tail _ (.head _)))))⟩
  rcases List.mem_append.mp hq with hq | hq
  · exact hO q hq
  · exact O q hq
set_option maxRecDepth 100000 in
set_option maxHeartbeats 1000000 in
theorem pre2 {prog : Program} {w : World} {p : Program} {loose : List Str} {mean : ExcName → Option Value} {mg mb : Str → Option Value} {fa : Addr} {cd : Value} {base h₀ : Heap} {L : Addr} {m : Str → Option Value} {s : Shared} {Q : Flow → Shared → Prop} {E : Value → Shared → Prop}
    {c5 c4 c3 : Obj} {DN : Addr} {nvs : List Value} {ns : List Int} {rest : List (Addr × Obj)} {ps ps8 : Array Value}
    (B : Below callerA base [] h₀) (F : Fr h₀ L s.heap m) (X : (Mine.hd.heap_39 w.params).In h₀) (T : Top p loose mean mg mb h₀)
    (N : News h₀ L s.heap (led L c5 c4 c3 ps ps8 rest)) (O : Off5 L rest) (hN : MapHas m (Str.ofString "numbers") (.ref DN)) (hDN : (DN, W.listOf nvs.toArray nvs.length) ∈ rest) (hI : IntsAre nvs ns) (h7 : ns.length = 7)
    (hnext : ∀ DD ys rest' m' h' tk', Fr h₀ L h' m' → MapHas m' (Str.ofString "numbers") (.ref DN) → MapHas m' (Str.ofString "drawn") (.ref DD) → News h₀ L h' (led L c5 c4 c3 ps ps8 rest') → Off5 L rest' → (∀ q ∈ rest, q ∈ rest') → (DD, LCg.lst ys) ∈ rest' → DrawnIn rest' ys (ns.take 6) →
      wpAny (model prog w) (callerA.deeper (lawEnv L fa cd)) (execs (lawBody.drop 3) (lawEnv L fa cd)) Q E { s with heap := h', toks := tk' }) :
    wpAny (model prog w) (callerA.deeper (lawEnv L fa cd)) (execs (lawBody.drop 2) (lawEnv L fa cd)) Q E s := by
  show Seen Mine.hd.heap_39 Challenge.rw_mr0158_01 _
  k_fill
  unfold Seen
  show wpAny (model prog w) (callerA.deeper (envOfC (Str.ofString "law") lawScope L fa cd)) (execs (lawBody.drop 2) (envOfC (Str.ofString "law") lawScope L fa cd)) Q E s
  conv in List.drop 2 lawBody => whnf
  have hNK : Hid (MapHas m (Str.ofString "numbers") (.ref DN)) := hN
  have hz1 : nvs.toArray.size ≤ sizeLine := by rw [sizeLine_eq, List.size_toArray, hI.length]; omega
  refine wpAny_execs_cons ?_
  k_steps
  unfold SStop
  (rename Fr _ _ _ _ => F1)
  (rename News _ _ _ _ => N1)
  (rename IntsAre _ (List.take (Int.toNat 6) _) => hI2)
  replace hI2 := show IntsAre _ (List.take 6 ns) from hI2
  refine LCg.CompSrc.ledger rfl F1 N1 (.head _) (by rw [sizeLine_eq, List.size_toArray, hI2.length, List.length_take]; omega) ?_
  intro g'
  refine rest_ind (fun j ys nw => ∃ objs, nw = objs ++ (_ :: led L c5 c4 c3 ps ps8 rest) ∧ Off5 L objs ∧ DrawnIn objs ys ((ns.take 6).take j)) ⟨[], rfl, fun q hq => (nomatch hq), .nil⟩ ?turn ?fin
  case turn =>
    intro j v I oI C oC D m₂ ys nw h tk E' hj hJ hP hC hx F2 N2 off ne
    obtain ⟨objs, rfl, hO, hD⟩ := hJ
    obtain ⟨n, t, rfl, hn⟩ := IntsAre.at hI2 j v (by simpa using hP)
    clear hnext
    k_steps
    unfold SStop
    refine drawn_gives B F2 X T rfl (by ktr_room) ?_
    intro x y tt t1 t2 t3 h' tk' kp ex ey hx' hy'
    have fre : ∀ z, h.get? z = none → z ≠ I ∧ z ≠ C ∧ z ≠ D := fun z ez => ⟨fun e => (news_ne N2 ez) _ (.head _) e.symm, fun e => (news_ne N2 ez) _ (.tail _ (.head _)) e.symm, fun e => (news_ne N2 ez) _ (.tail _ (.tail _ (.head _))) e.symm⟩
    have N3 := news_sub N2 (led_of_app (I := (I, oI)) (C := (C, oC)) (D := (D, LCg.lst ys)))
    refine LCg.CompEnd.intro (fr_keeps F2 kp) (news_add F2 (news_add F2 (news_keeps N2 kp) ey hy') ex hx') ((x, tup2 (.ref y) (.int (placeN n) tt)) :: (y, LCg.lst [.int (colN n).1 t1, .int (colN n).2.1 t2, .int (colN n).2.2 t3]) :: (objs ++ _)) ?sub (off3_cons (off3_cons off (fre y ey)) (fre x ex)) (.inr ⟨_, .tail _ (.tail _ (List.mem_append_right _ (.head _))), rfl, _, rfl⟩) ⟨(x, tup2 (.ref y) (.int (placeN n) tt)) :: (y, LCg.lst [.int (colN n).1 t1, .int (colN n).2.1 t2, .int (colN n).2.2 t3]) :: objs, rfl, ?off, ?dr⟩
    case sub =>
      intro q hq
      rcases List.mem_cons.mp hq with rfl | hq
      · exact .tail _ (.tail _ (.head _))
      rcases List.mem_cons.mp hq with rfl | hq
      · exact .tail _ (.tail _ (.tail _ (.head _)))
      rcases List.mem_cons.mp hq with rfl | hq
      · exact .tail _ (.tail _ (.tail _ (.tail _ (.head _))))
      rcases List.mem_cons.mp hq with rfl | hq
      · exact .head _
      rcases List.mem_cons.mp hq with rfl | hq
      · exact .tail _ (.head _)
      · exact .tail _ (.tail _ (.tail _ (.tail _ (.tail _ hq))))
    case off =>
      intro q hq
      rcases List.mem_cons.mp hq with rfl | hq
      · exact off5_new N3 ex
      rcases List.mem_cons.mp hq with rfl | hq
      · exact off5_new N3 ey
      · exact hO q hq
    case dr =>
      rw [take_succ_at hn]
      exact (hD.mono fun q hq => .tail _ (.tail _ hq)).snoc (.head _) (.tail _ (.head _))
  case fin =>
    intro ys nw hJ
    obtain ⟨objs, rfl, hO, hD⟩ := hJ
    rw [List.take_of_length_le (by rw [List.size_toArray, hI2.length]; exact Nat.le_refl _)] at hD
    k_steps
    unfold SStop
    (rename Fr _ _ _ _ => F4)
    (rename News _ _ _ _ => N4)
    (rename LCg.Off1 _ _ => o1)
    refine hnext _ ys (_ :: (objs ++ rest)) _ _ _ F4 (by with_unfolding_all exact hNK.out) rfl (led_mid N4) (off5_mid o1 hO O) (fun q hq => .tail _ (List.mem_append_right _ hq)) (.head _) (hD.mono fun q hq => .tail _ (List.mem_append_left _ hq))
end Mine

/-! ## N6c -/
theorem Mine.LN87 : True := by
  k_with "storeName" => (k_here; (with_reducible show wpAny _ _ (storeName _ (Str.ofString "places") _) _ _ _); (refine Mine.SStop.out ?_))
  exact trivial
theorem Mine.LN88 : True := by
  k_with "execs cons" => (k_here; (with_reducible show wpAny _ _ (execs (Stmt.Assign [Expr.Name (Str.ofString "places") _] _ _ :: _) _) _ _ _); (refine Mine.SStop.out ?_))
  exact trivial
namespace Mine
noncomputable def ColsIn (objs : List (Addr × Obj)) (as : List Addr) (l : List Int) : Prop := as.length = l.length ∧ ∀ j : Nat, ∀ n, l[j]? = some n → ∃ y t1 t2 t3, as[j]? = some y ∧ (y, LCg.lst [.int (colN n).1 t1, .int (colN n).2.1 t2, .int (colN n).2.2 t3]) ∈ objs
theorem ColsIn.nil {objs : List (Addr × Obj)} : ColsIn objs [] [] := ⟨rfl, fun j n h => by simp at h⟩
theorem ColsIn.mono {objs objs' : List (Addr × Obj)} {ys : List Addr} {l : List Int} (h : ColsIn objs ys l) (hs : ∀ q ∈ objs, q ∈ objs') : ColsIn objs' ys l := ⟨h.1, fun j n e => by
  obtain ⟨y, t1, t2, t3, e1, e3⟩ := h.2 j n e
  exact ⟨y, t1, t2, t3, e1, hs _ e3⟩⟩
theorem ColsIn.snoc {objs : List (Addr × Obj)} {ys : List Addr} {l : List Int} {n : Int} {y : Addr} {t1 t2 t3 : Tok} (h : ColsIn objs ys l) (h2 : (y, LCg.lst [.int (colN n).1 t1, .int (colN n).2.1 t2, .int (colN n).2.2 t3]) ∈ objs) : ColsIn objs (ys ++ [y]) (l ++ [n]) := by
  refine ⟨by simp [h.1], fun j k e => ?_⟩
  by_cases hj : j < l.length
  · rw [List.getElem?_append_left hj] at e
    obtain ⟨y, t1, t2, t3, e1, e3⟩ := h.2 j k e
    exact ⟨y, t1, t2, t3, by rw [List.getElem?_append_left (by rw [h.1]; exact hj)]; exact e1, e3⟩
  · rw [List.getElem?_append_right (by omega)] at e
    have e0 : j - l.length = 0 := by
      have := (List.getElem?_eq_some_iff.mp e).1
      simp at this; omega
    rw [e0] at e
    obtain rfl : n = k := by simpa using e
    exact ⟨y, t1, t2, t3, by rw [List.getElem?_append_right (by rw [h.1]; omega), h.1, e0]; rfl, h2⟩
theorem tup_item {prog : Program} {w : World} {A : Around} {E : Value → Shared → Prop} {s : Shared} {h₀ : Heap} {L l : Addr} {news : List (Addr × Obj)} {value slice : PySem.Expr} {vs : List Value} {Q : Value → Shared → Prop} {k : Int} {u : Tok} {v : Value} {n : Nat} (N : News h₀ L s.heap news) (hm : (l, ({ cls := .type "tuple", data := .seq vs.toArray n } : Obj)) ∈ news) (h0 : 0 ≤ k) (h1 : k < 1024) (hx : vs[k.toNat]? = some v) (h : Q v s)
    (hs : subscripted slice false (.ref l) (.int k u) = operate [.ref l, .int k u] (getItem (.ref l) (.int k u))) :
    wpAny (model prog w) A (subscriptTail value slice (.ref l) (.int k u)) Q E s :=
  have ht : IsTup s.heap l vs.toArray := ⟨_, (N _ hm).1, rfl, _, rfl⟩
  have hlt : k.toNat < vs.length := (List.getElem?_eq_some_iff.mp hx).1
  tail_any ht.typeIs slot_tuple_getitem.lookup (getItem_tuple ht (by omega) (by omega) (seqIndex_of h0 (by rw [List.size_toArray]; omega)) (x := v) (by simpa using hx) h) hs
theorem places_off {L : Addr} {ps ps8 : Array Value} {rest : List (Addr × Obj)} (hL : @LT.lt Nat _ 83 L) (O : Off5 L rest) : ∀ p ∈ (76, tabObj ps) :: (83, tabObj ps8) :: rest, p.1 ≠ L + 1 + 1 + 1 := fun p hp => by
  refine neN ?_
  rcases List.mem_cons.mp hp with rfl | hp
  · show @Ne Nat 76 (L + 1 + 1 + 1); omega
  rcases List.mem_cons.mp hp with rfl | hp
  · show @Ne Nat 83 (L + 1 + 1 + 1); omega
  exact (O p hp).2.2.1
set_option maxRecDepth 100000 in
set_option maxHeartbeats 1000000 in
theorem pre3 {prog : Program} {w : World} {p : Program} {loose : List Str} {mean : ExcName → Option Value} {mg mb : Str → Option Value} {fa : Addr} {cd : Value} {base h₀ : Heap} {L : Addr} {m : Str → Option Value} {s : Shared} {Q : Flow → Shared → Prop} {E : Value → Shared → Prop}
    {c5 c4 c3 : Obj} {DN DD : Addr} {ys : List Value} {l : List Int} {rest : List (Addr × Obj)} {ps ps8 : Array Value} {v3 : Option Value}
    (B : Below callerA base [] h₀) (F : Fr h₀ L s.heap m) (X : (Mine.hd.heap_39 w.params).In h₀) (T : Top p loose mean mg mb h₀)
    (N : News h₀ L s.heap (led L c5 c4 c3 ps ps8 rest)) (O : Off5 L rest) (hL : @LT.lt Nat _ 83 L) (hN : MapHas m (Str.ofString "numbers") (.ref DN)) (hD : MapHas m (Str.ofString "drawn") (.ref DD)) (hDD : (DD, LCg.lst ys) ∈ rest) (hdr : DrawnIn rest ys l) (h6 : l.length = 6) (d3 : c3.data = .cell v3)
    (hnext : ∀ CL as PL vs rest' m' c3' h' tk', Fr h₀ L h' m' → MapHas m' (Str.ofString "numbers") (.ref DN) → MapHas m' (Str.ofString "colours") (.ref CL) → News h₀ L h' (led L c5 c4 c3' ps ps8 rest') → Off5 L rest' → (∀ q ∈ rest, q ∈ rest') → c3'.data = .cell (some (.ref PL)) →
      (CL, LCg.lst (as.map .ref)) ∈ rest' → ColsIn rest' as l → (PL, LCg.lst vs) ∈ rest' → IntsAre vs (l.map placeN) →
      wpAny (model prog w) (callerA.deeper (lawEnv L fa cd)) (execs (lawBody.drop 5) (lawEnv L fa cd)) Q E { s with heap := h', toks := tk' }) :
    wpAny (model prog w) (callerA.deeper (lawEnv L fa cd)) (execs (lawBody.drop 3) (lawEnv L fa cd)) Q E s := by
  show Seen Mine.hd.heap_39 Challenge.rw_mr0158_01 _
  k_fill
  unfold Seen
  show wpAny (model prog w) (callerA.deeper (envOfC (Str.ofString "law") lawScope L fa cd)) (execs (lawBody.drop 3) (envOfC (Str.ofString "law") lawScope L fa cd)) Q E s
  conv in List.drop 3 lawBody => whnf
  have hNK : Hid (MapHas m (Str.ofString "numbers") (.ref DN)) := hN
  have hDK : Hid (MapHas m (Str.ofString "drawn") (.ref DD)) := hD
  refine wpAny_execs_cons ?_
  k_steps
  unfold SStop
  refine LCg.CompSrc.ledger rfl F N (mem_led hDD) (by rw [sizeLine_eq, List.size_toArray, hdr.1]; omega) ?_
  intro g'
  refine rest_ind (fun j zs nw => nw = led L c5 c4 c3 ps ps8 rest ∧ ∃ as, zs = List.map Value.ref as ∧ ColsIn rest as (l.take j)) ⟨rfl, [], rfl, .nil⟩ ?turn ?fin
  case turn =>
    intro j v I oI C oC D m₂ zs nw h tk E' hj hJ hP hC hx F2 N2 off ne
    obtain ⟨rfl, as, rfl, hcs⟩ := hJ
    have hj' : j < l.length := by rw [List.size_toArray, hdr.1] at hj; exact hj
    obtain ⟨x, y, t, t1, t2, t3, e1, e2, e3⟩ := hdr.2 j l[j] (List.getElem?_eq_getElem hj')
    obtain rfl : v = .ref x := by
      have hP' : ys[j]? = some v := by simpa using hP
      rw [e1] at hP'; exact (Option.some.inj hP').symm
    clear hnext
    k_steps
    unfold SStop
    refine tup_item N2 (.tail _ (.tail _ (.tail _ (mem_led e2)))) (by decide) (by decide) rfl ?_ (by with_unfolding_all rfl)
    k_steps
    unfold SStop
    refine LCg.CompEnd.intro F2 N2 _ (fun _ h => h) off (.inr ⟨_, mem_led hDD, rfl, _, rfl⟩) ⟨rfl, as ++ [y], by rw [List.map_append]; rfl, ?_⟩
    rw [take_succ_at (List.getElem?_eq_getElem hj')]
    exact hcs.snoc e3
  case fin =>
    intro zs nw hJ
    obtain ⟨rfl, as, rfl, hcs⟩ := hJ
    rw [List.take_of_length_le (by rw [List.size_toArray, hdr.1]; exact Nat.le_refl _)] at hcs
    clear F N
    k_steps
    unfold SStop
    (rename Fr _ _ _ _ => F3)
    (rename News _ _ _ _ => N3)
    (rename (_ ≠ _ ∧ _) => o1)
    replace N3 := led_in N3
    (rename_i CL h3 tk3)
    have O3 : Off5 L ((CL, LCg.lst (List.map Value.ref as)) :: rest) := fun q hq => by
      rcases List.mem_cons.mp hq with rfl | hq
      · exact ⟨Ne.symm o1.1, Ne.symm o1.2.1, Ne.symm o1.2.2.1, Ne.symm o1.2.2.2.1, Ne.symm o1.2.2.2.2.1⟩
      · exact O q hq
    have hCL : (CL, LCg.lst (List.map Value.ref as)) ∈ (CL, LCg.lst (List.map Value.ref as)) :: rest := .head _
    have hsub : ∀ q ∈ rest, q ∈ (CL, LCg.lst (List.map Value.ref as)) :: rest := fun q hq => .tail _ hq
    generalize (CL, LCg.lst (List.map Value.ref as)) :: rest = rest1 at N3 O3 hCL hsub
    refine wpAny_execs_cons ?_
    k_steps
    unfold SStop
    refine LCg.CompSrc.ledger rfl F3 N3 (mem_led (hsub _ hDD)) (by rw [sizeLine_eq, List.size_toArray, hdr.1]; omega) ?_
    intro g2
    refine rest_ind (fun j zs nw => nw = led L c5 c4 c3 ps ps8 rest1 ∧ IntsAre zs ((l.map placeN).take j)) ⟨rfl, .nil⟩ ?turn2 ?fin2
    case turn2 =>
      intro j v I oI C oC D m₂ zs nw h tk E' hj hJ hP hC hx F2 N2 off ne
      obtain ⟨rfl, hys⟩ := hJ
      have hj' : j < l.length := by rw [List.size_toArray, hdr.1] at hj; exact hj
      obtain ⟨x, y, t, t1, t2, t3, e1, e2, e3⟩ := hdr.2 j l[j] (List.getElem?_eq_getElem hj')
      obtain rfl : v = .ref x := by
        have hP' : ys[j]? = some v := by simpa using hP
        rw [e1] at hP'; exact (Option.some.inj hP').symm
      clear hnext
      k_steps
      unfold SStop
      refine tup_item N2 (.tail _ (.tail _ (.tail _ (mem_led (hsub _ e2))))) (by decide) (by decide) rfl ?_ (by with_unfolding_all rfl)
      k_steps
      unfold SStop
      refine LCg.CompEnd.intro F2 N2 _ (fun _ h => h) off (.inr ⟨_, mem_led (hsub _ hDD), rfl, _, rfl⟩) ⟨rfl, ?_⟩
      rw [take_succ_at (p := placeN l[j]) (by rw [List.getElem?_map, List.getElem?_eq_getElem hj']; rfl)]
      exact IntsAre.append hys (.cons _ _ .nil)
    case fin2 =>
      intro zs nw hJ
      obtain ⟨rfl, hys⟩ := hJ
      rw [List.take_of_length_le (by rw [List.size_toArray, hdr.1, List.length_map]; exact Nat.le_refl _)] at hys
      clear F3 N3 o1
      k_steps
      unfold SStop
      (rename Fr _ _ _ _ => F4)
      (rename News _ _ _ _ => N4)
      (rename (_ ≠ _ ∧ _) => o2)
      (rename_i PL h4 tk4)
      replace N4 := led_in N4
      have O4 : Off5 L ((PL, LCg.lst zs) :: rest1) := fun q hq => by
        rcases List.mem_cons.mp hq with rfl | hq
        · exact ⟨Ne.symm o2.1, Ne.symm o2.2.1, Ne.symm o2.2.2.1, Ne.symm o2.2.2.2.1, Ne.symm o2.2.2.2.2.1⟩
        · exact O3 q hq
      refine storeX_C F4 N4 rfl (UpdF.tail (by k_ne) (UpdF.tail (by k_ne) (UpdF.head (places_off hL O4)))) d3 ?_
      intro h5 c3' F5 N5 d3'
      refine hnext CL as PL zs ((PL, LCg.lst zs) :: rest1) _ c3' _ _ F5 (by with_unfolding_all exact hNK.out) rfl N5 O4 (fun q hq => .tail _ (hsub q hq)) d3' (.tail _ hCL) (hcs.mono fun q hq => .tail _ (hsub q hq)) (.head _) hys
end Mine

/-! ## N6d -/
theorem Mine.LN89 : True := by
  k_with "call ref" => (k_here; (with_reducible show wpAny _ _ (call (Value.ref 73) _) _ _ _); (refine Mine.SStop.out ?_))
  exact trivial
namespace Mine
set_option maxRecDepth 100000 in
set_option maxHeartbeats 1000000 in
theorem pre4 {prog : Program} {w : World} {p : Program} {loose : List Str} {mean : ExcName → Option Value} {mg mb : Str → Option Value} {fa : Addr} {cd : Value} {base h₀ : Heap} {L : Addr} {m : Str → Option Value} {s : Shared} {Q : Flow → Shared → Prop} {E : Value → Shared → Prop}
    {c5 c4 c3 : Obj} {DN CL PL : Addr} {as : List Addr} {vs nvs : List Value} {l ns : List Int} {rest : List (Addr × Obj)} {v5 v4 : Option Value}
    (B : Below callerA base [] h₀) (F : Fr h₀ L s.heap m) (X : (Mine.hd.heap_39 w.params).In h₀) (T : Top p loose mean mg mb h₀) (CH : CodeHd h₀ 80 76) (CA : CodeHd h₀ 87 83)
    (N : News h₀ L s.heap (led L c5 c4 c3 #[] #[] rest)) (O : Off5 L rest) (hL : @LT.lt Nat _ 83 L) (hE : PassesOwn (model prog w) (callerA.deeper (lawEnv L fa cd)) (lawEnv L fa cd) E)
    (hN : MapHas m (Str.ofString "numbers") (.ref DN)) (hC : MapHas m (Str.ofString "colours") (.ref CL)) (hDN : (DN, W.listOf nvs.toArray nvs.length) ∈ rest) (hI : IntsAre nvs ns) (h7 : ns.length = 7)
    (d5 : c5.data = .cell v5) (d4 : c4.data = .cell v4) (d3 : c3.data = .cell (some (.ref PL))) (hCL : (CL, LCg.lst (as.map .ref)) ∈ rest) (hcs : ColsIn rest as l) (hPL : (PL, LCg.lst vs) ∈ rest) (hvs : IntsAre vs (l.map placeN)) (h6 : l.length = 6)
    (hG : ∀ n, GoodCol (colN n) (placeN n)) (hP : ∀ n, 0 ≤ placeN n → Paint (colN n) (placeN n) ∧ Paint (colN n) (placeN n + 72)) (hW : Wheel (codesTo (l.map placeN) 6) (l.map placeN))
    (hret : ∀ h' tk' c5' c4' c3' ps' ps8' rest' m', Fr h₀ L h' m' → News h₀ L h' (led L c5' c4' c3' ps' ps8' rest') → Q (.ret (.bool true)) { s with heap := h', toks := tk' }) :
    wpAny (model prog w) (callerA.deeper (lawEnv L fa cd)) (execs (lawBody.drop 5) (lawEnv L fa cd)) Q E s := by
  show Seen Mine.hd.heap_39 Challenge.rw_mr0158_01 _
  k_fill
  unfold Seen
  show wpAny (model prog w) (callerA.deeper (envOfC (Str.ofString "law") lawScope L fa cd)) (execs (lawBody.drop 5) (envOfC (Str.ofString "law") lawScope L fa cd)) Q E s
  conv in List.drop 5 lawBody => whnf
  have hvK : IntsK vs (l.map placeN) := hvs
  have hIK : IntsK nvs ns := hI
  have hNK : Hid (MapHas m (Str.ofString "numbers") (.ref DN)) := hN
  have hCK : Hid (MapHas m (Str.ofString "colours") (.ref CL)) := hC
  have cols : IsCols s.heap CL as (l.map colN) := ⟨(N _ (mem_led hCL)).1, hcs.1.trans h6, by rw [List.length_map]; exact h6, fun i y c ey ec => by
    rw [List.getElem?_map] at ec
    obtain ⟨n, en, rfl⟩ := Option.map_eq_some_iff.mp ec
    obtain ⟨y', t1, t2, t3, e1, e2⟩ := hcs.2 i n en
    rw [ey] at e1; cases e1
    exact ⟨t1, t2, t3, (N _ (mem_led e2)).1⟩⟩
  have hGH : Hid (∀ n, GoodCol (colN n) (placeN n)) := hG
  have hPH : Hid (∀ n, 0 ≤ placeN n → Paint (colN n) (placeN n) ∧ Paint (colN n) (placeN n + 72)) := hP
  have hWH : Hid (Wheel (codesTo (l.map placeN) 6) (l.map placeN)) := hW
  clear hG hP hW
  refine wpAny_execs_cons ?_
  k_steps
  unfold SStop
  refine wheel_gives (places := l.map placeN) B F X T rfl (by ktr_room) cols (by rw [List.length_map]; exact h6) (fun i c q ec eq => ?_) ?_
  · rw [List.getElem?_map] at ec eq
    obtain ⟨n, en, rfl⟩ := Option.map_eq_some_iff.mp ec
    rw [en] at eq
    obtain rfl := Option.some.inj eq
    exact hGH.out n
  intro tw h1 tk1 k1
  have F1 := fr_keeps F k1
  have N1 := news_keeps N k1
  clear cols k1 F N
  k_steps
  refine nameX_L (by k_asm) (by with_unfolding_all exact hNK.out) ?_
  k_steps
  unfold SStop
  (rename News _ _ _ _ => N1)
  refine item_ex N1 (mem_led hDN) rfl (by decide) (by decide) ?_ ?_ (by with_unfolding_all rfl)
  · obtain ⟨t, e⟩ := IntsAre.get hIK.out 6 ns[6] (by simp)
    exact ⟨_, t, e⟩
  intro x t0
  k_steps
  unfold SStop
  (rename Fr _ _ _ _ => F2)
  (rename News _ _ _ _ => N2)
  rename_i r0 e0 q1 q2 r1 e1 q3 q4
  refine storeX_C F2 N2 rfl (UpdF.tail (by k_ne) (UpdF.head (mark_off hL O))) d4 ?_
  intro h3 c4' F3 N3 d4'
  clear F2 N2
  k_steps
  unfold SStop
  refine wpAny_execs_cons ?_
  refine For_invV h₀ rfl rfl ?_ ?hs ?hE
  case hs => intro _; rfl
  case hE => exact hE
  k_steps
  unfold SStop
  (rename Fr _ _ _ _ => F4)
  (rename News _ _ _ _ => N4)
  (rename IsRange _ _ _ _ _ _ _ _ => hR)
  refine iter_rangeUnr (n := 7) rfl hR (by decide) (by decide) F4 (show News h₀ L _ (led L c5 c4' c3 #[] #[] (rest ++ ([] ++ []))) from by rw [List.append_nil, List.append_nil]; exact N4) ?_
  intro I hIlt
  refine loop_all (fa := fa) (cd := cd) (places := l.map placeN) (cols := l.map colN) (vs := vs) (ys := as) (stand := rest) B X T CH CA hL hE ⟨hCL, hPL, hcs.1.trans h6, ?_, ?_, hvK.out, ?_, ?_⟩ hWH.out (fun q hq => Nat.ne_of_lt (hIlt q (mem_led (List.mem_append_left _ hq)))) ?ret ?fini 7 0 _ _ ⟨72 + r1, c5, c4', c3, #[], #[], [], [], v5, _, tw, _, rfl, ?_, fun q hq => Nat.ne_of_lt (hIlt q hq), .inl ⟨rfl, rfl⟩, .inl ⟨rfl, rfl⟩, d5, d4', d3, rfl, hCK.out, rfl, by omega, by omega⟩
  case ret => exact fun h' tk' c5' c4' c3' ps' ps8' rest' m' F' N' => hret h' tk' _ _ _ _ _ _ _ F' N'
  case fini =>
    intro h' tk' c5' c4'' c3' ps' ps8' rest' m' F' N'
    dsimp only
    clear hIlt F4 N4
    k_steps
    exact hret _ _ _ _ _ _ _ _ _ F' N'
  · rw [List.length_map]; exact h6
  · rw [List.length_map]; exact h6
  · intro i y c ey ec
    rw [List.getElem?_map] at ec
    obtain ⟨n, en, rfl⟩ := Option.map_eq_some_iff.mp ec
    obtain ⟨y', t1, t2, t3, e1, e2⟩ := hcs.2 i n en
    rw [ey] at e1; cases e1
    exact ⟨t1, t2, t3, e2⟩
  · intro i c q ec eq hq
    rw [List.getElem?_map] at ec eq
    obtain ⟨n, en, rfl⟩ := Option.map_eq_some_iff.mp ec
    rw [en] at eq
    obtain rfl := Option.some.inj eq
    refine ⟨?_, hPH.out n hq⟩
    rcases hGH.out n with h | h
    · exact h
    · rw [h.2] at hq; exact absurd hq (by decide)
  · rw [List.append_nil, List.append_nil]; exact O
end Mine

/-! ## N7 -/
namespace Mine
set_option maxHeartbeats 4000000 in
theorem law_all {prog : Program} {w : World} {p : Program} {loose : List Str} {mean : ExcName → Option Value} {mg mb : Str → Option Value} {fa : Addr} {cd : Value} {base h₀ : Heap} {L : Addr} {m : Str → Option Value} {s : Shared} {Q : Flow → Shared → Prop} {E : Value → Shared → Prop}
    {c5 c4 c3 c2 c1 : Obj} {l : Addr} {svs : List Value} {sns : List Int} {v5 v4 v3 v2 : Option Value}
    (hG : ∀ n, GoodCol (colN n) (placeN n)) (hP : ∀ n, 0 ≤ placeN n → Paint (colN n) (placeN n) ∧ Paint (colN n) (placeN n + 72)) (hW : ∀ l : List Int, l.length = 6 → Wheel (codesTo (l.map placeN) 6) (l.map placeN))
    (B : Below callerA base [] h₀) (F : Fr h₀ L s.heap m) (X : (Mine.hd.heap_39 w.params).In h₀) (T : Top p loose mean mg mb h₀) (CH : CodeHd h₀ 80 76) (CA : CodeHd h₀ 87 83)
    (N : News h₀ L s.heap [(L + 1 + 1 + 1 + 1 + 1, c5), (L + 1 + 1 + 1 + 1, c4), (L + 1 + 1 + 1, c3), (L + 1 + 1, c2), (L + 1, c1), (76, tabObj #[]), (83, tabObj #[])]) (hL : @LT.lt Nat _ 83 L)
    (d1 : c1.data = .cell (some (.ref l))) (d2 : c2.data = .cell v2) (d3 : c3.data = .cell v3) (d4 : c4.data = .cell v4) (d5 : c5.data = .cell v5) (hl : h₀.IsList l svs.toArray) (hI : IntsAre svs sns) (h63 : sns.length ≤ 63)
    (hE : PassesOwn (model prog w) (callerA.deeper (lawEnv L fa cd)) (lawEnv L fa cd) E)
    (hret : ∀ h' tk' c5' c4' c3' ps' ps8' rest' m', Fr h₀ L h' m' → News h₀ L h' (led L c5' c4' c3' ps' ps8' rest') → Q (.ret (.bool true)) { s with heap := h', toks := tk' }) :
    wpAny (model prog w) (callerA.deeper (lawEnv L fa cd)) (execs lawBody (lawEnv L fa cd)) Q E s := by
  have hz : svs.toArray.size ≤ sizeLine := by rw [sizeLine_eq, List.size_toArray, hI.length]; omega
  refine pre1 (fa := fa) (cd := cd) B F X T N hL d1 d2 hl hI hz ?_
  intro DN nvs ns m1 h1 tk1 F1 hN1 N1 O1 hn1 h7
  refine pre2 (s := { s with heap := h1, toks := tk1 }) B F1 X T N1 O1 hN1 (.head _) hn1 h7 ?_
  intro DD ys rest2 m2 h2 tk2 F2 hN2 hD2 N2 O2 hs2 hDD hdr
  have h6 : (ns.take 6).length = 6 := by rw [List.length_take]; omega
  refine pre3 (s := { s with heap := h2, toks := tk2 }) B F2 X T N2 O2 hL hN2 hD2 hDD hdr h6 d3 ?_
  intro CL as PL vs rest3 m3 c3' h3 tk3 F3 hN3 hC3 N3 O3 hs3 d3' hCL hcs hPL hvs
  refine pre4 (s := { s with heap := h3, toks := tk3 }) B F3 X T CH CA N3 O3 hL hE hN3 hC3 (hs3 _ (hs2 _ (.head _))) hn1 h7 d5 d4 d3' hCL hcs hPL hvs h6 hG hP (hW _ h6) ?_
  intro h' tk' c5' c4' c3'' ps' ps8' rest' m' F' N'
  exact hret h' tk' _ _ _ _ _ _ _ F' N'
end Mine

/-! ## PW -/
namespace Mine
theorem f72 (j : Nat) : (j : Int).fmod 72 = ((j % 72 : Nat) : Int) := by
  rw [Int.fmod_eq_emod_of_nonneg _ (by decide)]; rfl
theorem pl_lt {p : Int} (h : p = -1 ∨ (0 ≤ p ∧ p < 72)) : p < 72 := by
  rcases h with rfl | h
  · decide
  · exact h.2
theorem pl_eq {p : Int} {j : Nat} (hq : p = ((j % 72 : Nat) : Int)) (h1 : (p + 72).toNat ≠ j) (hj : j < 144) : p.toNat = j := by
  subst hq
  rw [Int.toNat_natCast]
  replace h1 : j % 72 + 72 ≠ j := h1
  omega
theorem pl_ne {p : Int} {j : Nat} (h0 : 0 ≤ p) (hl : p < 72) (hq : p ≠ ((j % 72 : Nat) : Int)) : (p + 72).toNat ≠ j ∧ p.toNat ≠ j := by
  obtain ⟨n, rfl⟩ := Int.eq_ofNat_of_zero_le h0
  replace hl : n < 72 := Int.ofNat_lt.mp hl
  rw [Int.toNat_natCast]
  show n + 72 ≠ j ∧ n ≠ j
  refine ⟨fun e => hq ?_, fun e => hq ?_⟩
  · rw [← e, Nat.add_mod_right, Nat.mod_eq_of_lt hl]
  · rw [← e, Nat.mod_eq_of_lt hl]
theorem pl_neg {p : Int} {j : Nat} (h0 : ¬ 0 ≤ p) : p ≠ ((j % 72 : Nat) : Int) := fun e => h0 (e ▸ Int.natCast_nonneg _)
/-- what stands at the place j when i letters have been set -/
theorem codes_spec {places : List Int} (h6 : places.length = 6) (hp : ∀ p ∈ places, p = -1 ∨ (0 ≤ p ∧ p < 72)) : ∀ i : Nat, i ≤ 6 → ∀ j : Nat, j < 144 →
    (∃ k : Nat, k < i ∧ places[k]? = some ((j % 72 : Nat) : Int) ∧ (∀ k' : Nat, k' < i → places[k']? = some ((j % 72 : Nat) : Int) → k' ≤ k) ∧ (codesTo places i)[j]? = some (97 + k)) ∨
    ((∀ k : Nat, k < i → places[k]? ≠ some ((j % 72 : Nat) : Int)) ∧ (codesTo places i)[j]? = some 45)
  | 0, _, j, hj => .inr ⟨fun k hk => absurd hk (Nat.not_lt_zero _), by unfold codesTo; rw [List.getElem?_replicate, if_pos hj]⟩
  | i + 1, hi, j, hj => by
    have ih := codes_spec h6 hp i (Nat.le_of_succ_le hi) j hj
    have hil : i < places.length := h6.symm ▸ hi
    have hlen := codes_len places i
    have hpi : places[i]? = some places[i] := List.getElem?_eq_getElem hil
    have hd : places.getD i (-1) = places[i] := by rw [List.getD_eq_getElem?_getD, hpi]; rfl
    have hm := hp places[i] (List.getElem_mem _)
    have e : codesTo places (i + 1) = codeStep i places[i] (codesTo places i) := by
      show codeStep i (places.getD i (-1)) (codesTo places i) = _
      rw [hd]
    rw [e]
    unfold codeStep
    by_cases h0 : 0 ≤ places[i]
    · rw [if_pos h0]
      have hlt := pl_lt hm
      by_cases hq : places[i] = ((j % 72 : Nat) : Int)
      · refine .inl ⟨i, Nat.lt_succ_self _, by rw [hpi, hq], fun k' hk' _ => Nat.lt_succ_iff.mp hk', ?_⟩
        by_cases h1 : (places[i] + 72).toNat = j
        · rw [h1, List.getElem?_set_self (by rw [List.length_set, hlen]; exact hj)]
        · rw [List.getElem?_set_ne h1]
          rw [pl_eq hq h1 hj, List.getElem?_set_self (by rw [hlen]; exact hj)]
      · rw [List.getElem?_set_ne (pl_ne h0 hlt hq).1, List.getElem?_set_ne (pl_ne h0 hlt hq).2]
        rcases ih with ⟨k, hk, e1, e2, e3⟩ | ⟨e1, e2⟩
        · refine .inl ⟨k, Nat.lt_succ_of_lt hk, e1, fun k' hk' e' => ?_, e3⟩
          by_cases hki : k' = i
          · rw [hki, hpi] at e'; exact absurd (Option.some.inj e') hq
          · exact e2 k' (Nat.lt_of_le_of_ne (Nat.le_of_lt_succ hk') hki) e'
        · refine .inr ⟨fun k' hk' e' => ?_, e2⟩
          by_cases hki : k' = i
          · rw [hki, hpi] at e'; exact absurd (Option.some.inj e') hq
          · exact e1 k' (Nat.lt_of_le_of_ne (Nat.le_of_lt_succ hk') hki) e'
    · rw [if_neg h0]
      have hq : places[i] ≠ ((j % 72 : Nat) : Int) := pl_neg h0
      rcases ih with ⟨k, hk, e1, e2, e3⟩ | ⟨e1, e2⟩
      · refine .inl ⟨k, Nat.lt_succ_of_lt hk, e1, fun k' hk' e' => ?_, e3⟩
        by_cases hki : k' = i
        · rw [hki, hpi] at e'; exact absurd (Option.some.inj e') hq
        · exact e2 k' (Nat.lt_of_le_of_ne (Nat.le_of_lt_succ hk') hki) e'
      · refine .inr ⟨fun k' hk' e' => ?_, e2⟩
        by_cases hki : k' = i
        · rw [hki, hpi] at e'; exact absurd (Option.some.inj e') hq
        · exact e1 k' (Nat.lt_of_le_of_ne (Nat.le_of_lt_succ hk') hki) e'
theorem has_letter {places : List Int} (h6 : places.length = 6) (hp : ∀ p ∈ places, p = -1 ∨ (0 ≤ p ∧ p < 72)) {p : Int} (hm : p ∈ places) {j : Nat} (hj : j < 144) (e : p = ((j % 72 : Nat) : Int)) : ¬ Blank (codesTo places 6) j := by
  intro hb
  obtain ⟨k, hk, ek⟩ := List.getElem_of_mem hm
  rcases codes_spec h6 hp 6 (Nat.le_refl _) j hj with ⟨k', _, _, _, e3⟩ | ⟨e1, _⟩
  · rw [show (codesTo places 6)[j]? = some 45 from hb] at e3
    exact absurd (Option.some.inj e3) (Nat.ne_of_lt (Nat.lt_of_lt_of_le (by decide : 45 < 97) (Nat.le_add_right _ _)))
  · exact e1 k (h6 ▸ hk) (by rw [List.getElem?_eq_getElem hk, ek, e])
theorem wp1 {p : Int} (h0 : 0 ≤ p) (h1 : p < 72) : p = ((p.toNat % 72 : Nat) : Int) := by
  rw [Nat.mod_eq_of_lt ((Int.toNat_lt h0).mpr h1)]; exact (Int.toNat_of_nonneg h0).symm
theorem wp2 {p mark : Int} (h0 : 0 ≤ p) (h1 : p < 72) (hm : 72 ≤ mark) : p.toNat < 144 ∧ ((p.toNat : Nat) : Int) < mark := by
  rw [Int.toNat_of_nonneg h0]
  exact ⟨(Int.toNat_lt h0).mpr (Int.lt_trans h1 (by decide)), Int.lt_of_lt_of_le h1 hm⟩
theorem wp3 {mark : Int} {i : Nat} (h1 : mark < 144) (hg : ¬ mark - 1 - (i : Int) < 72) : i + 72 < 144 ∧ ((i + 72 : Nat) : Int) < mark := by omega
theorem wp4 {mark : Int} {i : Nat} (h : (i : Int) < mark) (hl : mark - 1 - (i : Int) < 72) : (mark - 1 - ((i % 72 : Nat) : Int)) % 72 = mark - 1 - i := by omega
theorem wp5 {mark q : Int} {i : Nat} (h0 : 72 ≤ mark) (h1 : mark < 144) (hl : ¬ mark - 1 - (i : Int) ≤ (mark - 1 - q) % 72) (q0 : 0 ≤ q) (q1 : q < 72) :
    ∃ j : Nat, j < 144 ∧ q = ((j % 72 : Nat) : Int) ∧ i < j ∧ (j : Int) < mark := ⟨(mark - 1 - (mark - 1 - q) % 72).toNat, by omega, by omega, by omega, by omega⟩
theorem wheel_plain {places : List Int} (h6 : places.length = 6) (hp : ∀ p ∈ places, p = -1 ∨ (0 ≤ p ∧ p < 72)) : Wheel (codesTo places 6) places where
  len := codes_len places 6
  nil := fun mark h0 h1 hb => by
    unfold backsOf
    rw [List.map_eq_nil_iff, List.filter_eq_nil_iff]
    intro p hm hq
    have hq' : 0 ≤ p := by simpa using hq
    have hlt := pl_lt (hp p hm)
    have h2 := wp2 hq' hlt h0
    exact has_letter h6 hp hm (j := p.toNat) h2.1 (wp1 hq' hlt) (hb p.toNat h2.2 h2.1)
  cons := fun mark h0 h1 i hi hl hb => by
    obtain ⟨c, ec, hc⟩ := hl
    have hi2 : i < 144 := Int.ofNat_lt.mp (Int.lt_trans hi h1)
    obtain ⟨k, hk, e1, e2, e3⟩ : ∃ k : Nat, k < 6 ∧ places[k]? = some ((i % 72 : Nat) : Int) ∧ (∀ k' : Nat, k' < 6 → places[k']? = some ((i % 72 : Nat) : Int) → k' ≤ k) ∧ (codesTo places 6)[i]? = some (97 + k) := by
      rcases codes_spec h6 hp 6 (Nat.le_refl _) i hi2 with h | ⟨_, h⟩
      · exact h
      · rw [ec] at h; exact absurd (Option.some.inj h) hc
    have hm : (((i % 72 : Nat) : Int)) ∈ places := List.mem_of_getElem? e1
    have hlt : mark - 1 - (i : Int) < 72 := by
      apply Classical.byContradiction
      intro hge
      have h3 := wp3 h1 hge
      exact has_letter h6 hp hm (j := i + 72) h3.1 (by rw [Nat.add_mod_right]) (hb (i + 72) (Nat.lt_add_of_pos_right (by decide)) h3.2 h3.1)
    refine ⟨mark - 1 - i, ?_, ?_, Int.sub_sub_self _ _⟩
    · unfold backsOf
      refine List.mem_map.mpr ⟨_, List.mem_filter.mpr ⟨hm, decide_eq_true (Int.natCast_nonneg _)⟩, ?_⟩
      rw [Int.fmod_eq_emod_of_nonneg _ (by decide)]
      exact wp4 hi hlt
    · intro x hx
      unfold backsOf at hx
      obtain ⟨q, hq, rfl⟩ := List.mem_map.mp hx
      obtain ⟨hq1, hq2⟩ := List.mem_filter.mp hq
      have hq0 : 0 ≤ q := by simpa using hq2
      have hql := pl_lt (hp q hq1)
      rw [Int.fmod_eq_emod_of_nonneg _ (by decide)]
      apply Classical.byContradiction
      intro hlt'
      obtain ⟨j, j1, j2, j3, j4⟩ := wp5 h0 h1 hlt' hq0 hql
      exact has_letter h6 hp hq1 (j := j) j1 j2 (hb _ j3 j4 j1)
  letter := fun i hi hl => by
    obtain ⟨c, ec, hc⟩ := hl
    rw [f72]
    rcases codes_spec h6 hp 6 (Nat.le_refl _) i hi with h | ⟨_, h⟩
    · exact h
    · rw [ec] at h; exact absurd (Option.some.inj h) hc
theorem good_place {n : Int} (h : GoodCol (colN n) (placeN n)) : placeN n = -1 ∨ (0 ≤ placeN n ∧ placeN n < 72) := by
  rcases h with h | h
  · exact .inr ⟨h.p0, h.p1⟩
  · exact .inl h.2
theorem plainW_of (hG : ∀ n, GoodCol (colN n) (placeN n)) (l : List Int) (h6 : l.length = 6) : Wheel (codesTo (l.map placeN) 6) (l.map placeN) :=
  wheel_plain (by rw [List.length_map]; exact h6) fun p hp => by
    obtain ⟨n, _, rfl⟩ := List.mem_map.mp hp
    exact good_place (hG n)
end Mine

/-! ## PF1 -/
set_option maxRecDepth 100000
namespace Mine
/-- all numbers below n -/
noncomputable def allB (n : Nat) (f : Nat → Bool) : Bool := match n with | 0 => true | k + 1 => f k && allB k f
theorem allB_spec {f : Nat → Bool} : ∀ {n : Nat}, allB n f = true → ∀ k, k < n → f k = true
  | n + 1, h, k, hk => by
    have h' : (f n && allB n f) = true := h
    rw [Bool.and_eq_true] at h'
    by_cases e : k = n
    · rw [e]; exact h'.1
    · exact allB_spec h'.2 k (by omega)
theorem cmp_tab : allB 17 (fun a => allB 17 (fun b => Float64.cmp (fl (a : Int) 16) (fl (b : Int) 16) == some (if a < b then .lt else if a = b then .eq else .gt))) = true := by decide +kernel
theorem cmp16 {a b : Nat} (ha : a ≤ 16) (hb : b ≤ 16) : Float64.cmp (fl (a : Int) 16) (fl (b : Int) 16) = some (if a < b then .lt else if a = b then .eq else .gt) :=
  eq_of_beq (allB_spec (allB_spec cmp_tab a (by omega)) b (by omega))
theorem sub_tab : allB 17 (fun a => allB (a + 1) (fun b => Float64.sub (fl (a : Int) 16) (fl (b : Int) 16) == fl ((a - b : Nat) : Int) 16)) = true := by decide +kernel
theorem sub16 {a b : Nat} (ha : a ≤ 16) (hb : b ≤ a) : Float64.sub (fl (a : Int) 16) (fl (b : Int) 16) = fl ((a - b : Nat) : Int) 16 :=
  eq_of_beq (allB_spec (allB_spec sub_tab a (by omega)) b (by omega))
theorem fmax16 {a b : Nat} (ha : a ≤ 16) (hb : b ≤ 16) : fmax (fl (a : Int) 16) (fl (b : Int) 16) = fl ((max a b : Nat) : Int) 16 := by
  unfold fmax
  rw [cmp16 ha hb]
  by_cases h : a < b
  · rw [if_pos h, if_pos (by decide), Nat.max_eq_right (Nat.le_of_lt h)]
  · rw [if_neg h]
    by_cases h2 : a = b
    · rw [if_pos h2, if_neg (by decide), Nat.max_eq_left (by omega)]
    · rw [if_neg h2, if_neg (by decide), Nat.max_eq_left (by omega)]
theorem fmin16 {a b : Nat} (ha : a ≤ 16) (hb : b ≤ 16) : fmin (fl (a : Int) 16) (fl (b : Int) 16) = fl ((min a b : Nat) : Int) 16 := by
  unfold fmin
  rw [cmp16 hb ha]
  by_cases h : b < a
  · rw [if_pos h, if_pos (by decide), Nat.min_eq_right (Nat.le_of_lt h)]
  · rw [if_neg h]
    by_cases h2 : b = a
    · rw [if_pos h2, if_neg (by decide), Nat.min_eq_left (by omega)]
    · rw [if_neg h2, if_neg (by decide), Nat.min_eq_left (by omega)]
section
variable {a b c : Nat} (ha : a ≤ 16) (hb : b ≤ 16) (hc : c ≤ 16)
include ha hb hc
omit hc in
theorem max_le16 : max a b ≤ 16 := Nat.max_le.mpr ⟨ha, hb⟩
theorem fMax16 : fMax (fl (a : Int) 16) (fl (b : Int) 16) (fl (c : Int) 16) = fl ((max (max a b) c : Nat) : Int) 16 := by
  unfold fMax; rw [fmax16 ha hb, fmax16 (max_le16 ha hb) hc]
theorem fMin16 : fMin (fl (a : Int) 16) (fl (b : Int) 16) (fl (c : Int) 16) = fl ((min (min a b) c : Nat) : Int) 16 := by
  unfold fMin; rw [fmin16 ha hb, fmin16 (Nat.le_trans (Nat.min_le_left _ _) ha) hc]
theorem fRange16 : fRange (fl (a : Int) 16) (fl (b : Int) 16) (fl (c : Int) 16) = fl ((max (max a b) c - min (min a b) c : Nat) : Int) 16 := by
  unfold fRange; rw [fMax16 ha hb hc, fMin16 ha hb hc, sub16 (max_le16 (max_le16 ha hb) hc) (Nat.le_trans (Nat.min_le_right _ _) (Nat.le_max_right _ _))]
/-- the hue by the distances from the greatest part -/
noncomputable def hueD (x y z r : Nat) : UInt64 :=
  (Float64.divmod (Float64.div (if x = 0 then Float64.sub (Float64.div (fl (z : Int) 16) (fl (r : Int) 16)) (Float64.div (fl (y : Int) 16) (fl (r : Int) 16))
    else if y = 0 then Float64.sub (Float64.add c2 (Float64.div (fl (x : Int) 16) (fl (r : Int) 16))) (Float64.div (fl (z : Int) 16) (fl (r : Int) 16))
    else Float64.sub (Float64.add c4 (Float64.div (fl (y : Int) 16) (fl (r : Int) 16))) (Float64.div (fl (x : Int) 16) (fl (r : Int) 16))) c6) c1).2
theorem hue16 : hueOf (fl (a : Int) 16) (fl (b : Int) 16) (fl (c : Int) 16) = hueD (max (max a b) c - a) (max (max a b) c - b) (max (max a b) c - c) (max (max a b) c - min (min a b) c) := by
  unfold hueOf hueD fShare
  have ma : a ≤ max (max a b) c := Nat.le_trans (Nat.le_max_left _ _) (Nat.le_max_left _ _)
  have mb : b ≤ max (max a b) c := Nat.le_trans (Nat.le_max_right _ _) (Nat.le_max_left _ _)
  have mc : c ≤ max (max a b) c := Nat.le_max_right _ _
  have mM : max (max a b) c ≤ 16 := max_le16 (max_le16 ha hb) hc
  rw [fRange16 ha hb hc, fMax16 ha hb hc]
  generalize max (max a b) c = M at ma mb mc mM ⊢
  generalize M - min (min a b) c = r
  rw [sub16 mM ma, sub16 mM mb, sub16 mM mc, cmp16 ha mM, cmp16 hb mM]
  congr 2
  by_cases h1 : a = M
  · rw [if_pos (show M - a = 0 by rw [h1, Nat.sub_self]), if_pos]
    rw [if_neg (show ¬ a < M by rw [h1]; exact Nat.lt_irrefl _), if_pos h1]; rfl
  · have la := Nat.lt_of_le_of_ne ma h1
    rw [if_neg (Nat.sub_ne_zero_of_lt la), if_neg]
    · by_cases h2 : b = M
      · rw [if_pos (show M - b = 0 by rw [h2, Nat.sub_self]), if_pos]
        rw [if_neg (show ¬ b < M by rw [h2]; exact Nat.lt_irrefl _), if_pos h2]; rfl
      · have lb := Nat.lt_of_le_of_ne mb h2
        rw [if_neg (Nat.sub_ne_zero_of_lt lb), if_neg]
        rw [if_pos lb]; decide
    · rw [if_pos la]; decide
end
end Mine

/-! ## PF2 -/
set_option maxRecDepth 100000
namespace Mine
/-- what is reckoned of white W and range R -/
structure RowW where
  W : Nat
  R : Nat
  s : UInt64
  v : UInt64
  p : UInt64
  lg : UInt64
  st : UInt64
  m1 : UInt64
  m2 : UInt64
  dm : UInt64
/-- what is reckoned of a place -/
structure RowI where
  i : Nat
  h : UInt64
  k : Nat
  f : UInt64
  g : UInt64
  cr : Nat
  ur : UInt64
  cg : Nat
  ug : UInt64
  cb : Nat
  ub : UInt64
noncomputable def rowsW : List RowW := [
  ⟨0, 1, 4607182418800017408, 4589168020290535424, 0, 4584664420663164928, 4607182418800017408, 0, 4589168020290535424, 4589168020290535424⟩,
  ⟨0, 2, 4607182418800017408, 4593671619917905920, 0, 4589168020290535424, 4607182418800017408, 0, 4593671619917905920, 4593671619917905920⟩,
  ⟨0, 3, 4607182418800017408, 4595923419731591168, 0, 4591419820104220672, 4607182418800017408, 0, 4595923419731591168, 4595923419731591168⟩,
  ⟨0, 4, 4607182418800017408, 4598175219545276416, 0, 4593671619917905920, 4607182418800017408, 0, 4598175219545276416, 4598175219545276416⟩,
  ⟨0, 6, 4607182418800017408, 4600427019358961664, 0, 4595923419731591168, 4607182418800017408, 0, 4600427019358961664, 4600427019358961664⟩,
  ⟨0, 8, 4607182418800017408, 4602678819172646912, 0, 4598175219545276416, 4607182418800017408, 0, 4602678819172646912, 4602678819172646912⟩,
  ⟨0, 12, 4607182418800017408, 4604930618986332160, 0, 4600427019358961664, 4607182418800017408, 0, 4604930618986332160, 4604930618986332160⟩,
  ⟨1, 1, 4602678819172646912, 4593671619917905920, 4589168020290535424, 4591419820104220672, 4599676419421066581, 4589168020290535424, 4593671619917905920, 4589168020290535424⟩,
  ⟨1, 2, 4604180019048437077, 4595923419731591168, 4589168020290535424, 4593671619917905920, 4602678819172646912, 4589168020290535424, 4595923419731591168, 4593671619917905920⟩,
  ⟨1, 3, 4604930618986332160, 4598175219545276416, 4589168020290535424, 4594797519824748544, 4603579539098121011, 4589168020290535424, 4598175219545276416, 4595923419731591168⟩,
  ⟨1, 4, 4605380978949069210, 4599301119452119040, 4589168020290535422, 4595923419731591168, 4604180019048437077, 4589168020290535424, 4599301119452119040, 4598175219545276416⟩,
  ⟨1, 6, 4605895676049340123, 4601552919265804288, 4589168020290535426, 4598175219545276416, 4604930618986332160, 4589168020290535424, 4601552919265804288, 4600427019358961664⟩,
  ⟨1, 8, 4606181618882823964, 4603241769126068224, 4589168020290535426, 4599301119452119040, 4605380978949069210, 4589168020290535424, 4603241769126068224, 4602678819172646912⟩,
  ⟨1, 12, 4606489557318883486, 4605493568939753472, 4589168020290535418, 4601552919265804288, 4605895676049340123, 4589168020290535424, 4605493568939753472, 4604930618986332160⟩,
  ⟨2, 1, 4599676419421066581, 4595923419731591168, 4593671619917905920, 4594797519824748544, 4596373779694328218, 4593671619917905920, 4595923419731591168, 4589168020290535424⟩,
  ⟨2, 2, 4602678819172646912, 4598175219545276416, 4593671619917905920, 4595923419731591168, 4599676419421066581, 4593671619917905920, 4598175219545276416, 4593671619917905920⟩,
  ⟨2, 3, 4603579539098121011, 4599301119452119040, 4593671619917905920, 4597049319638433792, 4601392076421969627, 4593671619917905920, 4599301119452119040, 4595923419731591168⟩,
  ⟨2, 4, 4604180019048437077, 4600427019358961664, 4593671619917905920, 4598175219545276416, 4602678819172646912, 4593671619917905920, 4600427019358961664, 4598175219545276416⟩,
  ⟨2, 6, 4604930618986332160, 4602678819172646912, 4593671619917905920, 4599301119452119040, 4603579539098121011, 4593671619917905920, 4602678819172646912, 4600427019358961664⟩,
  ⟨2, 8, 4605380978949069210, 4603804719079489536, 4593671619917905918, 4600427019358961664, 4604180019048437077, 4593671619917905920, 4603804719079489536, 4602678819172646912⟩,
  ⟨2, 12, 4605895676049340123, 4606056518893174784, 4593671619917905922, 4602678819172646912, 4604930618986332160, 4593671619917905920, 4606056518893174784, 4604930618986332160⟩,
  ⟨3, 1, 4598175219545276416, 4598175219545276416, 4595923419731591168, 4597049319638433792, 4594314991293244562, 4595923419731591168, 4598175219545276416, 4589168020290535424⟩,
  ⟨3, 2, 4600877379321698714, 4599301119452119040, 4595923419731591168, 4598175219545276416, 4598175219545276416, 4595923419731591168, 4599301119452119040, 4593671619917905920⟩,
  ⟨3, 3, 4602678819172646912, 4600427019358961664, 4595923419731591168, 4598738169498697728, 4599676419421066581, 4595923419731591168, 4600427019358961664, 4595923419731591168⟩,
  ⟨3, 4, 4603322190547985554, 4601552919265804288, 4595923419731591168, 4599301119452119040, 4600877379321698714, 4595923419731591168, 4601552919265804288, 4598175219545276416⟩,
  ⟨3, 6, 4604180019048437077, 4603241769126068224, 4595923419731591169, 4600427019358961664, 4602678819172646912, 4595923419731591168, 4603241769126068224, 4600427019358961664⟩,
  ⟨3, 8, 4604725909912360774, 4604367669032910848, 4595923419731591168, 4601552919265804288, 4603322190547985554, 4595923419731591168, 4604367669032910848, 4602678819172646912⟩,
  ⟨3, 12, 4605380978949069210, 4606619468846596096, 4595923419731591166, 4603241769126068224, 4605895676049340123, 4595923419731591164, 4606619468846596097, 4604930618986332162⟩,
  ⟨4, 1, 4596373779694328218, 4599301119452119040, 4598175219545276416, 4598738169498697728, 4592670820000712476, 4598175219545276416, 4599301119452119040, 4589168020290535424⟩,
  ⟨4, 2, 4599676419421066581, 4600427019358961664, 4598175219545276416, 4599301119452119040, 4596373779694328218, 4598175219545276416, 4600427019358961664, 4593671619917905920⟩,
  ⟨4, 3, 4601392076421969627, 4601552919265804288, 4598175219545276416, 4599864069405540352, 4598584637693219188, 4598175219545276416, 4601552919265804288, 4595923419731591168⟩,
  ⟨4, 4, 4602678819172646912, 4602678819172646912, 4598175219545276416, 4600427019358961664, 4599676419421066581, 4598175219545276416, 4602678819172646912, 4598175219545276416⟩,
  ⟨4, 6, 4603579539098121011, 4603804719079489536, 4598175219545276416, 4601552919265804288, 4601392076421969627, 4598175219545276416, 4603804719079489536, 4600427019358961664⟩,
  ⟨4, 8, 4604180019048437077, 4604930618986332160, 4598175219545276416, 4602678819172646912, 4602678819172646912, 4598175219545276416, 4604930618986332160, 4602678819172646912⟩,
  ⟨4, 12, 4604930618986332160, 4607182418800017408, 4598175219545276416, 4603804719079489536, 4607182418800017408, 4598175219545276416, 4607182418800017408, 4604930618986332160⟩]
noncomputable def rowsI : List RowI := [
  ⟨0, 0, 0, 0, 4607182418800017408, 1, 0, 0, 0, 3, 0⟩,
  ⟨1, 4579160021118600988, 0, 4590669220166325589, 4606431818862122325, 1, 0, 0, 4579160021118600988, 3, 0⟩,
  ⟨2, 4583663620745971484, 0, 4595172819793696085, 4605681218924227243, 1, 0, 0, 4583663620745971484, 3, 0⟩,
  ⟨3, 4586165620538955093, 0, 4598175219545276416, 4604930618986332160, 1, 0, 0, 4586165620538955093, 3, 0⟩,
  ⟨4, 4588167220373341980, 0, 4599676419421066581, 4604180019048437078, 1, 0, 0, 4588167220373341980, 3, 0⟩,
  ⟨5, 4589668420249132146, 0, 4601177619296856747, 4603429419110541994, 1, 0, 0, 4589668420249132146, 3, 0⟩,
  ⟨6, 4590669220166325589, 0, 4602678819172646912, 4602678819172646912, 1, 0, 0, 4590669220166325589, 3, 0⟩,
  ⟨7, 4591670020083519033, 0, 4603429419110541995, 4601177619296856746, 1, 0, 0, 4591670020083519033, 3, 0⟩,
  ⟨8, 4592670820000712476, 0, 4604180019048437077, 4599676419421066582, 1, 0, 0, 4592670820000712476, 3, 0⟩,
  ⟨9, 4593671619917905920, 0, 4604930618986332160, 4598175219545276416, 1, 0, 0, 4593671619917905920, 3, 0⟩,
  ⟨10, 4594172019876502642, 0, 4605681218924227243, 4595172819793696084, 1, 0, 0, 4594172019876502642, 3, 0⟩,
  ⟨11, 4594672419835099364, 0, 4606431818862122326, 4590669220166325584, 1, 0, 0, 4594672419835099364, 3, 0⟩,
  ⟨12, 4595172819793696085, 1, 0, 4607182418800017408, 2, 4595172819793696084, 1, 0, 3, 0⟩,
  ⟨13, 4595673219752292807, 1, 4590669220166325584, 4606431818862122326, 2, 4594672419835099364, 1, 0, 3, 0⟩,
  ⟨14, 4596173619710889529, 1, 4595172819793696088, 4605681218924227242, 2, 4594172019876502640, 1, 0, 3, 0⟩,
  ⟨15, 4596674019669486251, 1, 4598175219545276416, 4604930618986332160, 2, 4593671619917905920, 1, 0, 3, 0⟩,
  ⟨16, 4597174419628082972, 1, 4599676419421066580, 4604180019048437078, 2, 4592670820000712472, 1, 0, 3, 0⟩,
  ⟨17, 4597674819586679694, 1, 4601177619296856744, 4603429419110541996, 2, 4591670020083519032, 1, 0, 3, 0⟩,
  ⟨18, 4598175219545276416, 1, 4602678819172646912, 4602678819172646912, 2, 4590669220166325592, 1, 0, 3, 0⟩,
  ⟨19, 4598425419524574777, 1, 4603429419110541996, 4601177619296856744, 2, 4589668420249132144, 1, 0, 3, 0⟩,
  ⟨20, 4598675619503873138, 1, 4604180019048437078, 4599676419421066580, 2, 4588167220373341968, 1, 0, 3, 0⟩,
  ⟨21, 4598925819483171499, 1, 4604930618986332160, 4598175219545276416, 2, 4586165620538955088, 1, 0, 3, 0⟩,
  ⟨22, 4599176019462469860, 1, 4605681218924227244, 4595172819793696080, 2, 4583663620745971488, 1, 0, 3, 0⟩,
  ⟨23, 4599426219441768220, 1, 4606431818862122324, 4590669220166325600, 2, 4579160021118601024, 1, 0, 3, 0⟩,
  ⟨24, 4599676419421066581, 2, 0, 4607182418800017408, 3, 0, 1, 0, 0, 0⟩,
  ⟨25, 4599926619400364942, 2, 4590669220166325568, 4606431818862122328, 3, 0, 1, 0, 0, 4579160021118600992⟩,
  ⟨26, 4600176819379663303, 2, 4595172819793696080, 4605681218924227244, 3, 0, 1, 0, 0, 4583663620745971488⟩,
  ⟨27, 4600427019358961664, 2, 4598175219545276416, 4604930618986332160, 3, 0, 1, 0, 0, 4586165620538955096⟩,
  ⟨28, 4600677219338260025, 2, 4599676419421066584, 4604180019048437076, 3, 0, 1, 0, 0, 4588167220373341984⟩,
  ⟨29, 4600927419317558386, 2, 4601177619296856752, 4603429419110541992, 3, 0, 1, 0, 0, 4589668420249132148⟩,
  ⟨30, 4601177619296856747, 2, 4602678819172646912, 4602678819172646912, 3, 0, 1, 0, 0, 4590669220166325592⟩,
  ⟨31, 4601427819276155108, 2, 4603429419110541996, 4601177619296856744, 3, 0, 1, 0, 0, 4591670020083519036⟩,
  ⟨32, 4601678019255453468, 2, 4604180019048437076, 4599676419421066584, 3, 0, 1, 0, 0, 4592670820000712476⟩,
  ⟨33, 4601928219234751829, 2, 4604930618986332160, 4598175219545276416, 3, 0, 1, 0, 0, 4593671619917905920⟩,
  ⟨34, 4602178419214050190, 2, 4605681218924227240, 4595172819793696096, 3, 0, 1, 0, 0, 4594172019876502642⟩,
  ⟨35, 4602428619193348551, 2, 4606431818862122324, 4590669220166325600, 3, 0, 1, 0, 0, 4594672419835099364⟩,
  ⟨36, 4602678819172646912, 3, 0, 4607182418800017408, 3, 0, 2, 4595172819793696084, 1, 0⟩,
  ⟨37, 4602803919162296092, 3, 4590669220166325568, 4606431818862122328, 3, 0, 2, 4594672419835099364, 1, 0⟩,
  ⟨38, 4602929019151945273, 3, 4595172819793696096, 4605681218924227240, 3, 0, 2, 4594172019876502640, 1, 0⟩,
  ⟨39, 4603054119141594453, 3, 4598175219545276416, 4604930618986332160, 3, 0, 2, 4593671619917905920, 1, 0⟩,
  ⟨40, 4603179219131243634, 3, 4599676419421066584, 4604180019048437076, 3, 0, 2, 4592670820000712472, 1, 0⟩,
  ⟨41, 4603304319120892814, 3, 4601177619296856744, 4603429419110541996, 3, 0, 2, 4591670020083519032, 1, 0⟩,
  ⟨42, 4603429419110541995, 3, 4602678819172646912, 4602678819172646912, 3, 0, 2, 4590669220166325584, 1, 0⟩,
  ⟨43, 4603554519100191175, 3, 4603429419110541992, 4601177619296856752, 3, 0, 2, 4589668420249132144, 1, 0⟩,
  ⟨44, 4603679619089840356, 3, 4604180019048437080, 4599676419421066576, 3, 0, 2, 4588167220373341968, 1, 0⟩,
  ⟨45, 4603804719079489536, 3, 4604930618986332160, 4598175219545276416, 3, 0, 2, 4586165620538955088, 1, 0⟩,
  ⟨46, 4603929819069138716, 3, 4605681218924227240, 4595172819793696096, 3, 0, 2, 4583663620745971488, 1, 0⟩,
  ⟨47, 4604054919058787897, 3, 4606431818862122328, 4590669220166325568, 3, 0, 2, 4579160021118600960, 1, 0⟩,
  ⟨48, 4604180019048437077, 4, 0, 4607182418800017408, 0, 0, 3, 0, 1, 0⟩,
  ⟨49, 4604305119038086258, 4, 4590669220166325632, 4606431818862122320, 0, 4579160021118600960, 3, 0, 1, 0⟩,
  ⟨50, 4604430219027735438, 4, 4595172819793696064, 4605681218924227248, 0, 4583663620745971456, 3, 0, 1, 0⟩,
  ⟨51, 4604555319017384619, 4, 4598175219545276416, 4604930618986332160, 0, 4586165620538955104, 3, 0, 1, 0⟩,
  ⟨52, 4604680419007033799, 4, 4599676419421066576, 4604180019048437080, 0, 4588167220373341984, 3, 0, 1, 0⟩,
  ⟨53, 4604805518996682980, 4, 4601177619296856752, 4603429419110541992, 0, 4589668420249132144, 3, 0, 1, 0⟩,
  ⟨54, 4604930618986332160, 4, 4602678819172646912, 4602678819172646912, 0, 4590669220166325584, 3, 0, 1, 0⟩,
  ⟨55, 4605055718975981340, 4, 4603429419110541992, 4601177619296856752, 0, 4591670020083519024, 3, 0, 1, 0⟩,
  ⟨56, 4605180818965630521, 4, 4604180019048437080, 4599676419421066576, 0, 4592670820000712480, 3, 0, 1, 0⟩,
  ⟨57, 4605305918955279701, 4, 4604930618986332160, 4598175219545276416, 0, 4593671619917905920, 3, 0, 1, 0⟩,
  ⟨58, 4605431018944928882, 4, 4605681218924227248, 4595172819793696064, 0, 4594172019876502640, 3, 0, 1, 0⟩,
  ⟨59, 4605556118934578062, 4, 4606431818862122320, 4590669220166325632, 0, 4594672419835099360, 3, 0, 1, 0⟩,
  ⟨60, 4605681218924227243, 5, 0, 4607182418800017408, 1, 0, 3, 0, 2, 4595172819793696084⟩,
  ⟨61, 4605806318913876423, 5, 4590669220166325568, 4606431818862122328, 1, 0, 3, 0, 2, 4594672419835099364⟩,
  ⟨62, 4605931418903525604, 5, 4595172819793696096, 4605681218924227240, 1, 0, 3, 0, 2, 4594172019876502636⟩,
  ⟨63, 4606056518893174784, 5, 4598175219545276416, 4604930618986332160, 1, 0, 3, 0, 2, 4593671619917905912⟩,
  ⟨64, 4606181618882823964, 5, 4599676419421066576, 4604180019048437080, 1, 0, 3, 0, 2, 4592670820000712472⟩,
  ⟨65, 4606306718872473145, 5, 4601177619296856752, 4603429419110541992, 1, 0, 3, 0, 2, 4591670020083519032⟩,
  ⟨66, 4606431818862122325, 5, 4602678819172646912, 4602678819172646912, 1, 0, 3, 0, 2, 4590669220166325592⟩,
  ⟨67, 4606556918851771506, 5, 4603429419110542000, 4601177619296856736, 1, 0, 3, 0, 2, 4589668420249132136⟩,
  ⟨68, 4606682018841420686, 5, 4604180019048437072, 4599676419421066592, 1, 0, 3, 0, 2, 4588167220373341968⟩,
  ⟨69, 4606807118831069867, 5, 4604930618986332160, 4598175219545276416, 1, 0, 3, 0, 2, 4586165620538955088⟩,
  ⟨70, 4606932218820719047, 5, 4605681218924227240, 4595172819793696096, 1, 0, 3, 0, 2, 4583663620745971488⟩,
  ⟨71, 4607057318810368228, 5, 4606431818862122328, 4590669220166325568, 1, 0, 3, 0, 2, 4579160021118600896⟩,
  ⟨72, 4607182418800017408, 6, 0, 4607182418800017408, 1, 0, 0, 0, 3, 0⟩,
  ⟨73, 4607244968794841998, 6, 4590669220166325568, 4606431818862122328, 1, 0, 0, 4579160021118600960, 3, 0⟩,
  ⟨74, 4607307518789666588, 6, 4595172819793696064, 4605681218924227248, 1, 0, 0, 4583663620745971456, 3, 0⟩,
  ⟨75, 4607370068784491179, 6, 4598175219545276416, 4604930618986332160, 1, 0, 0, 4586165620538955104, 3, 0⟩,
  ⟨76, 4607432618779315769, 6, 4599676419421066592, 4604180019048437072, 1, 0, 0, 4588167220373341984, 3, 0⟩,
  ⟨77, 4607495168774140359, 6, 4601177619296856736, 4603429419110542000, 1, 0, 0, 4589668420249132144, 3, 0⟩,
  ⟨78, 4607557718768964949, 6, 4602678819172646912, 4602678819172646912, 1, 0, 0, 4590669220166325584, 3, 0⟩,
  ⟨79, 4607620268763789540, 6, 4603429419110542000, 4601177619296856736, 1, 0, 0, 4591670020083519040, 3, 0⟩,
  ⟨80, 4607682818758614130, 6, 4604180019048437080, 4599676419421066576, 1, 0, 0, 4592670820000712480, 3, 0⟩,
  ⟨81, 4607745368753438720, 6, 4604930618986332160, 4598175219545276416, 1, 0, 0, 4593671619917905920, 3, 0⟩,
  ⟨82, 4607807918748263310, 6, 4605681218924227240, 4595172819793696096, 1, 0, 0, 4594172019876502640, 3, 0⟩,
  ⟨83, 4607870468743087900, 6, 4606431818862122320, 4590669220166325632, 1, 0, 0, 4594672419835099360, 3, 0⟩,
  ⟨84, 4607933018737912491, 7, 0, 4607182418800017408, 2, 4595172819793696084, 1, 0, 3, 0⟩,
  ⟨85, 4607995568732737081, 7, 4590669220166325632, 4606431818862122320, 2, 4594672419835099364, 1, 0, 3, 0⟩,
  ⟨86, 4608058118727561671, 7, 4595172819793696064, 4605681218924227248, 2, 4594172019876502644, 1, 0, 3, 0⟩,
  ⟨87, 4608120668722386261, 7, 4598175219545276416, 4604930618986332160, 2, 4593671619917905924, 1, 0, 3, 0⟩,
  ⟨88, 4608183218717210852, 7, 4599676419421066592, 4604180019048437072, 2, 4592670820000712472, 1, 0, 3, 0⟩,
  ⟨89, 4608245768712035442, 7, 4601177619296856752, 4603429419110541992, 2, 4591670020083519032, 1, 0, 3, 0⟩,
  ⟨90, 4608308318706860032, 7, 4602678819172646912, 4602678819172646912, 2, 4590669220166325592, 1, 0, 3, 0⟩,
  ⟨91, 4608370868701684622, 7, 4603429419110541992, 4601177619296856752, 2, 4589668420249132152, 1, 0, 3, 0⟩,
  ⟨92, 4608433418696509212, 7, 4604180019048437072, 4599676419421066592, 2, 4588167220373342000, 1, 0, 3, 0⟩,
  ⟨93, 4608495968691333803, 7, 4604930618986332160, 4598175219545276416, 2, 4586165620538955088, 1, 0, 3, 0⟩,
  ⟨94, 4608558518686158393, 7, 4605681218924227248, 4595172819793696064, 2, 4583663620745971488, 1, 0, 3, 0⟩,
  ⟨95, 4608621068680982983, 7, 4606431818862122320, 4590669220166325632, 2, 4579160021118601024, 1, 0, 3, 0⟩,
  ⟨96, 4608683618675807573, 8, 0, 4607182418800017408, 2, 4368491638549381120, 1, 0, 0, 0⟩,
  ⟨97, 4608746168670632164, 8, 4590669220166325632, 4606431818862122320, 3, 0, 1, 0, 0, 4579160021118601088⟩,
  ⟨98, 4608808718665456754, 8, 4595172819793696128, 4605681218924227232, 3, 0, 1, 0, 0, 4583663620745971520⟩,
  ⟨99, 4608871268660281344, 8, 4598175219545276416, 4604930618986332160, 3, 0, 1, 0, 0, 4586165620538955104⟩,
  ⟨100, 4608933818655105934, 8, 4599676419421066560, 4604180019048437088, 3, 0, 1, 0, 0, 4588167220373341984⟩,
  ⟨101, 4608996368649930524, 8, 4601177619296856736, 4603429419110542000, 3, 0, 1, 0, 0, 4589668420249132144⟩,
  ⟨102, 4609058918644755115, 8, 4602678819172646912, 4602678819172646912, 3, 0, 1, 0, 0, 4590669220166325600⟩,
  ⟨103, 4609121468639579705, 8, 4603429419110542000, 4601177619296856736, 3, 0, 1, 0, 0, 4591670020083519040⟩,
  ⟨104, 4609184018634404295, 8, 4604180019048437072, 4599676419421066592, 3, 0, 1, 0, 0, 4592670820000712480⟩,
  ⟨105, 4609246568629228885, 8, 4604930618986332160, 4598175219545276416, 3, 0, 1, 0, 0, 4593671619917905920⟩,
  ⟨106, 4609309118624053476, 8, 4605681218924227248, 4595172819793696064, 3, 0, 1, 0, 0, 4594172019876502648⟩,
  ⟨107, 4609371668618878066, 8, 4606431818862122336, 4590669220166325504, 3, 0, 1, 0, 0, 4594672419835099368⟩,
  ⟨108, 4609434218613702656, 9, 0, 4607182418800017408, 3, 0, 2, 4595172819793696084, 1, 0⟩,
  ⟨109, 4609496768608527246, 9, 4590669220166325504, 4606431818862122336, 3, 0, 2, 4594672419835099364, 1, 0⟩,
  ⟨110, 4609559318603351836, 9, 4595172819793696064, 4605681218924227248, 3, 0, 2, 4594172019876502644, 1, 0⟩,
  ⟨111, 4609621868598176427, 9, 4598175219545276416, 4604930618986332160, 3, 0, 2, 4593671619917905912, 1, 0⟩,
  ⟨112, 4609684418593001017, 9, 4599676419421066592, 4604180019048437072, 3, 0, 2, 4592670820000712472, 1, 0⟩,
  ⟨113, 4609746968587825607, 9, 4601177619296856736, 4603429419110542000, 3, 0, 2, 4591670020083519032, 1, 0⟩,
  ⟨114, 4609809518582650197, 9, 4602678819172646912, 4602678819172646912, 3, 0, 2, 4590669220166325592, 1, 0⟩,
  ⟨115, 4609872068577474788, 9, 4603429419110542000, 4601177619296856736, 3, 0, 2, 4589668420249132136, 1, 0⟩,
  ⟨116, 4609934618572299378, 9, 4604180019048437088, 4599676419421066560, 3, 0, 2, 4588167220373341968, 1, 0⟩,
  ⟨117, 4609997168567123968, 9, 4604930618986332160, 4598175219545276416, 3, 0, 2, 4586165620538955088, 1, 0⟩,
  ⟨118, 4610059718561948558, 9, 4605681218924227232, 4595172819793696128, 3, 0, 2, 4583663620745971488, 1, 0⟩,
  ⟨119, 4610122268556773148, 9, 4606431818862122320, 4590669220166325632, 3, 0, 2, 4579160021118601024, 1, 0⟩,
  ⟨120, 4610184818551597739, 10, 0, 4607182418800017408, 0, 0, 3, 0, 1, 0⟩,
  ⟨121, 4610247368546422329, 10, 4590669220166325632, 4606431818862122320, 0, 4579160021118600960, 3, 0, 1, 0⟩,
  ⟨122, 4610309918541246919, 10, 4595172819793696064, 4605681218924227248, 0, 4583663620745971456, 3, 0, 1, 0⟩,
  ⟨123, 4610372468536071509, 10, 4598175219545276416, 4604930618986332160, 0, 4586165620538955072, 3, 0, 1, 0⟩,
  ⟨124, 4610435018530896100, 10, 4599676419421066592, 4604180019048437072, 0, 4588167220373342016, 3, 0, 1, 0⟩,
  ⟨125, 4610497568525720690, 10, 4601177619296856768, 4603429419110541984, 0, 4589668420249132160, 3, 0, 1, 0⟩,
  ⟨126, 4610560118520545280, 10, 4602678819172646912, 4602678819172646912, 0, 4590669220166325600, 3, 0, 1, 0⟩,
  ⟨127, 4610622668515369870, 10, 4603429419110541984, 4601177619296856768, 0, 4591670020083519040, 3, 0, 1, 0⟩,
  ⟨128, 4610685218510194460, 10, 4604180019048437072, 4599676419421066592, 0, 4592670820000712480, 3, 0, 1, 0⟩,
  ⟨129, 4610747768505019051, 10, 4604930618986332160, 4598175219545276416, 0, 4593671619917905920, 3, 0, 1, 0⟩,
  ⟨130, 4610810318499843641, 10, 4605681218924227248, 4595172819793696064, 0, 4594172019876502640, 3, 0, 1, 0⟩,
  ⟨131, 4610872868494668231, 10, 4606431818862122320, 4590669220166325632, 0, 4594672419835099360, 3, 0, 1, 0⟩,
  ⟨132, 4610935418489492821, 11, 0, 4607182418800017408, 0, 4595172819793696080, 3, 0, 2, 4595172819793696084⟩,
  ⟨133, 4610997968484317412, 11, 4590669220166325632, 4606431818862122320, 1, 0, 3, 0, 2, 4594672419835099356⟩,
  ⟨134, 4611060518479142002, 11, 4595172819793696128, 4605681218924227232, 1, 0, 3, 0, 2, 4594172019876502636⟩,
  ⟨135, 4611123068473966592, 11, 4598175219545276416, 4604930618986332160, 1, 0, 3, 0, 2, 4593671619917905912⟩,
  ⟨136, 4611185618468791182, 11, 4599676419421066560, 4604180019048437088, 1, 0, 3, 0, 2, 4592670820000712472⟩,
  ⟨137, 4611248168463615772, 11, 4601177619296856736, 4603429419110542000, 1, 0, 3, 0, 2, 4591670020083519032⟩,
  ⟨138, 4611310718458440363, 11, 4602678819172646912, 4602678819172646912, 1, 0, 3, 0, 2, 4590669220166325576⟩,
  ⟨139, 4611373268453264953, 11, 4603429419110542000, 4601177619296856736, 1, 0, 3, 0, 2, 4589668420249132136⟩,
  ⟨140, 4611435818448089543, 11, 4604180019048437072, 4599676419421066592, 1, 0, 3, 0, 2, 4588167220373341968⟩,
  ⟨141, 4611498368442914133, 11, 4604930618986332160, 4598175219545276416, 1, 0, 3, 0, 2, 4586165620538955088⟩,
  ⟨142, 4611560918437738724, 11, 4605681218924227248, 4595172819793696064, 1, 0, 3, 0, 2, 4583663620745971424⟩,
  ⟨143, 4611623468432563314, 11, 4606431818862122336, 4590669220166325504, 1, 0, 3, 0, 2, 4579160021118600896⟩]

noncomputable def rnd16b (x : UInt64) (c : Nat) : Bool := Float64.isFinite (Float64.mul (Float64.ofInt 16) x) && toInt Float64.nearestOf (Float64.mul (Float64.ofInt 16) x) == (c : Int)
theorem rnd16_of {x : UInt64} {c : Nat} (h : rnd16b x c = true) : Rnd16 x (c : Int) := by
  unfold rnd16b at h
  rw [Bool.and_eq_true] at h
  exact ⟨h.1, eq_of_beq h.2⟩
noncomputable abbrev leHalf (x : UInt64) : Bool := Float64.cmp x cHalf == some .lt || Float64.cmp x cHalf == some .eq
noncomputable def okW (r : RowW) : Bool :=
  r.v == fl ((r.W + r.R : Nat) : Int) 16 && r.s == Float64.div (fl (r.R : Int) 16) r.v && r.p == Float64.mul r.v (Float64.sub c1 r.s) && r.lg == Float64.div (Float64.add r.v (fl (r.W : Int) 16)) c2 &&
  r.st == (if leHalf r.lg then Float64.div (fl (r.R : Int) 16) (Float64.add r.v (fl (r.W : Int) 16)) else Float64.div (fl (r.R : Int) 16) (Float64.sub (Float64.sub c2 r.v) (fl (r.W : Int) 16))) &&
  r.m2 == m2Of r.lg r.st && r.m1 == Float64.sub (Float64.mul c2 r.lg) r.m2 && r.dm == Float64.sub r.m2 r.m1 &&
  !Float64.isZero r.v && !Float64.isZero (Float64.add r.v (fl (r.W : Int) 16)) && !Float64.isZero (Float64.sub (Float64.sub c2 r.v) (fl (r.W : Int) 16)) && !(Float64.cmp r.s 0 == some .eq) && (Float64.cmpInt r.s 0 == some .gt) && !(Float64.cmp r.st 0 == some .eq) && !Float64.isZero (fl (r.R : Int) 16) &&
  rnd16b r.v (r.W + r.R) && rnd16b r.p r.W && rnd16b r.m2 (r.W + r.R) && rnd16b r.m1 r.W
theorem all_split {α : Type} {l : List α} {f : α → Bool} (n : Nat) (h1 : (l.take n).all f = true) (h2 : (l.drop n).all f = true) : l.all f = true := by
  rw [← List.take_append_drop n l, List.all_append, h1, h2]; rfl
theorem okW_1 : (rowsW.take 18).all okW = true := by decide +kernel
theorem okW_2 : (rowsW.drop 18).all okW = true := by decide +kernel
theorem okW_all : rowsW.all okW = true := all_split 18 okW_1 okW_2
noncomputable def catOf (x : UInt64) : Nat := if (Float64.cmp x cSixth == some .lt) = true then 0 else if (Float64.cmp x cHalf == some .lt) = true then 1 else if (Float64.cmp x cTwoThird == some .lt) = true then 2 else 3
noncomputable def uOk (x : UInt64) (c : Nat) (u : UInt64) : Bool := catOf x == c && (if c = 0 then u == x else if c = 2 then u == Float64.sub cTwoThird x else true)
noncomputable def okI (t : RowI) : Bool :=
  t.h == fl (t.i : Int) 72 && Float64.isFinite (Float64.mul t.h c6) && hsvI t.h == (t.k : Int) && t.k == t.i / 12 && t.f == hsvF t.h && t.g == Float64.sub c1 t.f &&
  uOk (Float64.divmod (Float64.add t.h cThird) c1).2 t.cr t.ur && uOk (Float64.divmod t.h c1).2 t.cg t.ug && uOk (Float64.divmod (Float64.sub t.h cThird) c1).2 t.cb t.ub
theorem okI_1 : (rowsI.take 36).all okI = true := by decide +kernel
theorem okI_2 : ((rowsI.drop 36).take 36).all okI = true := by decide +kernel
theorem okI_3 : (((rowsI.drop 36).drop 36).take 36).all okI = true := by decide +kernel
theorem okI_4 : (((rowsI.drop 36).drop 36).drop 36).all okI = true := by decide +kernel
theorem okI_all : rowsI.all okI = true := all_split 36 okI_1 (all_split 36 okI_2 (all_split 36 okI_3 okI_4))
end Mine

/-! ## PFK -/
set_option maxRecDepth 100000
namespace Mine
/-! floats that are not negative, by their bits, with few steps -/
noncomputable def mantN (X : Nat) : Nat := if X / 4503599627370496 = 0 then X % 4503599627370496 else 4503599627370496 + X % 4503599627370496
noncomputable def beN (X : Nat) : Nat := if X / 4503599627370496 = 0 then 1 else X / 4503599627370496
noncomputable def finN (X : Nat) : Bool := Nat.blt X 9218868437227405312
theorem decode_pos {x : UInt64} (h : finN x.toNat = true) : Float64.decode x = .fin false (mantN x.toNat) ((beN x.toNat : Int) - 1075) := by
  have hlt : x.toNat < 9218868437227405312 := by unfold finN at h; simpa [Nat.blt_eq] using h
  unfold Float64.decode mantN beN
  generalize x.toNat = X at hlt
  have e1 : (X / 2 ^ 63 == 1) = false := by
    rw [beq_eq_false_iff_ne]; show X / 9223372036854775808 ≠ 1; rw [Nat.div_eq_of_lt (Nat.lt_trans hlt (by decide))]; decide
  have hd : X / 4503599627370496 < 2047 := Nat.div_lt_of_lt_mul hlt
  have e2 : X / 2 ^ 52 % 2048 = X / 4503599627370496 := Nat.mod_eq_of_lt (Nat.lt_succ_of_lt hd)
  have e3 : X % 2 ^ 52 = X % 4503599627370496 := rfl
  simp only [e1, e2, e3]
  have e4 : (X / 4503599627370496 == 2047) = false := by rw [beq_eq_false_iff_ne]; exact Nat.ne_of_lt hd
  rw [e4]
  by_cases h0 : X / 4503599627370496 = 0
  · rw [if_pos h0, if_pos h0]
    simp [h0]
  · rw [if_neg h0, if_neg h0]
    have e5 : (X / 4503599627370496 == 0) = false := by rw [beq_eq_false_iff_ne]; exact h0
    rw [e5]
    simp
/-- n over two to the s, rounded -/
noncomputable def rpN (n s : Nat) : Nat := if n = 0 then 0 else
  if n.log2 + 1022 - s ≤ 1074 then min Float64.infMag ((n.log2 + 1022 - s) * 2 ^ 52 + Float64.halfEven (n * 2 ^ (1074 - (n.log2 + 1022 - s))) (2 ^ s))
  else min Float64.infMag ((n.log2 + 1022 - s) * 2 ^ 52 + Float64.halfEven n (2 ^ s * 2 ^ (n.log2 + 1022 - s - 1074)))
theorem rp1 {l s : Nat} (h : -((l : Int) - (s : Int)) ≥ 0) : s = l + (-((l : Int) - (s : Int))).toNat := by omega
theorem rp2 {l s : Nat} (h : ¬ -((l : Int) - (s : Int)) ≥ 0) : s + (-(-((l : Int) - (s : Int)))).toNat = l := by omega
theorem rp3 {l s : Nat} : max ((l : Int) - (s : Int) - 52) (-1074) = ((l + 1022 - s : Nat) : Int) - 1074 := by
  by_cases h : s ≤ l + 1022
  · rw [Int.ofNat_sub h, Int.max_eq_left] <;> omega
  · rw [Nat.sub_eq_zero_of_le (Nat.le_of_not_le h), Int.max_eq_right] <;> omega
theorem neg_nat {x : Int} {n : Nat} (e : x = -(n : Int)) (h : 0 < n) : ¬ x ≥ 0 ∧ (-x).toNat = n := by
  subst e
  rw [Int.neg_neg]
  exact ⟨Int.not_le.mpr (Int.neg_neg_of_pos (Int.natCast_pos.mpr h)), Int.toNat_natCast n⟩
theorem sub_neg {a b : Nat} (h : a ≤ b) : (a : Int) - (b : Int) = -((b - a : Nat) : Int) := by rw [Int.ofNat_sub h, Int.neg_sub]
theorem rp4 {E : Nat} : (((E : Nat) : Int) - 1074 + 1074).toNat = E := by rw [Int.sub_add_cancel]; exact Int.toNat_natCast E
theorem rp5 {E : Nat} (h : E ≤ 1074) : -(((E : Nat) : Int) - 1074) ≥ 0 ∧ (-(((E : Nat) : Int) - 1074)).toNat = 1074 - E := by
  rw [show ((E : Nat) : Int) - 1074 = -((1074 - E : Nat) : Int) from sub_neg h, Int.neg_neg]
  exact ⟨Int.natCast_nonneg _, Int.toNat_natCast _⟩
theorem rp6 {E : Nat} (h : ¬ E ≤ 1074) : ¬ -(((E : Nat) : Int) - 1074) ≥ 0 ∧ (-(-(((E : Nat) : Int) - 1074))).toNat = E - 1074 :=
  neg_nat (by rw [Int.ofNat_sub (Nat.le_of_not_le h)]; rfl) (Nat.sub_pos_of_lt (Nat.lt_of_not_le h))
theorem rp7 {a b : Nat} (h : a + b < 2150) : ¬ ((a : Int) - 1075 + ((b : Int) - 1075)) ≥ 0 ∧ (-((a : Int) - 1075 + ((b : Int) - 1075))).toNat = 2150 - (a + b) :=
  neg_nat (by rw [← sub_neg (Nat.le_of_lt h), Int.natCast_add]; omega) (Nat.sub_pos_of_lt h)
theorem rp8 {G : Nat} (h : G < 1075) : ¬ ((G : Int) - 1075) ≥ 0 ∧ (-((G : Int) - 1075)).toNat = 1075 - G :=
  neg_nat (sub_neg (Nat.le_of_lt h)) (Nat.sub_pos_of_lt h)
theorem rp9 {a b : Nat} : min ((a : Int) - 1075) ((b : Int) - 1075) = ((min a b : Nat) : Int) - 1075 := by
  rcases Nat.le_total a b with h | h
  · rw [Nat.min_eq_left h, Int.min_eq_left (Int.sub_le_sub_right (Int.ofNat_le.mpr h) _)]
  · rw [Nat.min_eq_right h, Int.min_eq_right (Int.sub_le_sub_right (Int.ofNat_le.mpr h) _)]
theorem rp10 {a g : Nat} : ((a : Int) - 1075 - ((g : Int) - 1075)).toNat = a - g := by rw [show (a : Int) - 1075 - ((g : Int) - 1075) = (a : Int) - (g : Int) by omega]; exact Int.toNat_sub a g
theorem rp_eq (n s : Nat) : Float64.roundMag n (2 ^ s) = rpN n s := by
  unfold Float64.roundMag rpN
  by_cases h0 : n = 0
  · have hb : (n == 0) = true := by rw [beq_iff_eq]; exact h0
    rw [hb, if_pos h0, if_pos rfl]
  have hb : (n == 0) = false := by rw [beq_eq_false_iff_ne]; exact h0
  rw [hb, if_neg h0]
  simp only [Bool.false_eq_true, if_false, Nat.log2_two_pow]
  have hn : 2 ^ n.log2 ≤ n := Nat.log2_self_le h0
  have hab : ¬ (Float64.shift n (2 ^ s) (-((n.log2 : Int) - (s : Int)))).1 < (Float64.shift n (2 ^ s) (-((n.log2 : Int) - (s : Int)))).2 := by
    unfold Float64.shift
    by_cases hl : -((n.log2 : Int) - (s : Int)) ≥ 0
    · rw [if_pos hl]
      show ¬ n * 2 ^ (-((n.log2 : Int) - (s : Int))).toNat < 2 ^ s
      have e : 2 ^ s = 2 ^ n.log2 * 2 ^ (-((n.log2 : Int) - (s : Int))).toNat := by rw [← Nat.pow_add]; congr 1; exact rp1 hl
      rw [e]
      exact Nat.not_lt.mpr (Nat.mul_le_mul_right _ hn)
    · rw [if_neg hl]
      show ¬ n < 2 ^ s * 2 ^ (-(-((n.log2 : Int) - (s : Int)))).toNat
      rw [← Nat.pow_add]
      rw [rp2 hl]
      exact Nat.not_lt.mpr hn
  rw [if_pos (Nat.not_lt.mp hab)]
  generalize (2 : Nat) ^ 52 = c52
  generalize Float64.infMag = cInf
  rw [rp3]
  generalize n.log2 + 1022 - s = E
  rw [rp4]
  by_cases hE : E ≤ 1074
  · rw [if_pos hE]
    have e1 : Float64.shift n (2 ^ s) (-(((E : Nat) : Int) - 1074)) = (n * 2 ^ (1074 - E), 2 ^ s) := by
      unfold Float64.shift
      rw [if_pos (rp5 hE).1, (rp5 hE).2]
    rw [e1]
  · rw [if_neg hE]
    have e1 : Float64.shift n (2 ^ s) (-(((E : Nat) : Int) - 1074)) = (n, 2 ^ s * 2 ^ (E - 1074)) := by
      unfold Float64.shift
      rw [if_neg (rp6 hE).1, (rp6 hE).2]
    rw [e1]
theorem rp_lt (n s : Nat) : rpN n s < 18446744073709551616 := by
  unfold rpN
  split
  · decide
  · split
    · exact Nat.lt_of_le_of_lt (Nat.min_le_left _ _) (by decide +kernel)
    · exact Nat.lt_of_le_of_lt (Nat.min_le_left _ _) (by decide +kernel)
theorem pack_is {n s : Nat} : Float64.ofFrac false n (2 ^ s) = (rpN n s).toUInt64 := by
  unfold Float64.ofFrac Float64.pack
  rw [rp_eq]
  simp
theorem toNat_rp {n s : Nat} : ((rpN n s).toUInt64).toNat = rpN n s := by
  rw [Nat.toUInt64_eq, UInt64.toNat_ofNat', Nat.mod_eq_of_lt (rp_lt n s)]
/-- a product -/
noncomputable def mulN (X Y : Nat) : Nat := rpN (mantN X * mantN Y) (2150 - (beN X + beN Y))
noncomputable def mulOk (X Y : Nat) : Bool := finN X && finN Y && Nat.blt (beN X + beN Y) 2150
theorem mul_fast {x y : UInt64} (h : mulOk x.toNat y.toNat = true) : Float64.mul x y = (mulN x.toNat y.toNat).toUInt64 := by
  unfold mulOk at h
  simp only [Bool.and_eq_true] at h
  have hb : beN x.toNat + beN y.toNat < 2150 := by have := h.2; simpa [Nat.blt_eq] using this
  unfold Float64.mul mulN
  rw [decode_pos h.1.1, decode_pos h.1.2]
  dsimp only
  unfold Float64.ofBin
  have e : Float64.shift (mantN x.toNat * mantN y.toNat) 1 ((beN x.toNat : Int) - 1075 + ((beN y.toNat : Int) - 1075)) = (mantN x.toNat * mantN y.toNat, 2 ^ (2150 - (beN x.toNat + beN y.toNat))) := by
    unfold Float64.shift
    rw [if_neg (rp7 hb).1, Nat.one_mul, (rp7 hb).2]
  rw [e]
  exact pack_is
theorem align_pos {m k b1 b2 : Nat} : Float64.align false m ((b1 : Int) - 1075) false k ((b2 : Int) - 1075) = (((m * 2 ^ (b1 - min b1 b2) : Nat) : Int), ((k * 2 ^ (b2 - min b1 b2) : Nat) : Int), ((min b1 b2 : Nat) : Int) - 1075) := by
  unfold Float64.align Float64.sgn
  simp only [rp9, Bool.false_eq_true, if_false]
  rw [rp10, rp10]
/-- a sum -/
noncomputable def addN (X Y : Nat) : Nat := rpN (mantN X * 2 ^ (beN X - min (beN X) (beN Y)) + mantN Y * 2 ^ (beN Y - min (beN X) (beN Y))) (1075 - min (beN X) (beN Y))
noncomputable def addOk (X Y : Nat) : Bool := finN X && finN Y && Nat.blt (min (beN X) (beN Y)) 1075
theorem add_fast {x y : UInt64} (h : addOk x.toNat y.toNat = true) : Float64.add x y = (addN x.toNat y.toNat).toUInt64 := by
  unfold addOk at h
  simp only [Bool.and_eq_true] at h
  have hb : min (beN x.toNat) (beN y.toNat) < 1075 := by have := h.2; simpa [Nat.blt_eq] using this
  unfold Float64.add addN
  rw [decode_pos h.1.1, decode_pos h.1.2]
  generalize x.toNat = X at *
  generalize y.toNat = Y at *
  dsimp only
  rw [align_pos]
  dsimp only
  generalize mantN X * 2 ^ (beN X - min (beN X) (beN Y)) = p
  generalize mantN Y * 2 ^ (beN Y - min (beN X) (beN Y)) = q
  generalize min (beN X) (beN Y) = G at *
  by_cases h0 : p + q = 0
  · have : ((p : Int) + (q : Int) == 0) = true := by rw [beq_iff_eq]; exact congrArg Int.ofNat h0
    rw [if_pos this, h0]
    rfl
  · have : ((p : Int) + (q : Int) == 0) = false := by rw [beq_eq_false_iff_ne]; exact fun e => h0 (Int.ofNat.inj e)
    rw [this]
    simp only [Bool.false_eq_true, if_false]
    have hn : decide ((p : Int) + (q : Int) < 0) = false := by rw [decide_eq_false_iff_not]; exact Int.not_lt.mpr (Int.natCast_nonneg (p + q))
    rw [hn, show ((p : Int) + (q : Int)).natAbs = p + q from Int.natAbs_natCast (p + q)]
    unfold Float64.ofBin
    have e : Float64.shift (p + q) 1 ((G : Int) - 1075) = (p + q, 2 ^ (1075 - G)) := by
      unfold Float64.shift
      rw [if_neg (rp8 hb).1, Nat.one_mul, (rp8 hb).2]
    rw [e]
    exact pack_is
noncomputable def rndN (X : Nat) : Nat := Float64.halfEven (mantN X) (2 ^ (1075 - beN X))
noncomputable def rndOk (X : Nat) : Bool := finN X && Nat.blt (beN X) 1075
theorem rnd_fast {x : UInt64} (h : rndOk x.toNat = true) : Float64.isFinite x = true ∧ toInt Float64.nearestOf x = ((rndN x.toNat : Nat) : Int) := by
  unfold rndOk at h
  rw [Bool.and_eq_true] at h
  have hb : beN x.toNat < 1075 := by have := h.2; simpa [Nat.blt_eq] using this
  constructor
  · unfold Float64.isFinite; rw [decode_pos h.1]
  · unfold toInt Float64.nearestOf rndN
    rw [decode_pos h.1]
    dsimp only
    have e : Float64.shift (mantN x.toNat) 1 ((beN x.toNat : Int) - 1075) = (mantN x.toNat, 2 ^ (1075 - beN x.toNat)) := by
      unfold Float64.shift
      rw [if_neg (rp8 hb).1, Nat.one_mul, (rp8 hb).2]
    rw [e]
    rfl
end Mine

/-! ## PF3 -/
set_option maxRecDepth 100000
namespace Mine
noncomputable def upN (W R r : Nat) : Nat := W + R * r / 12
/-- the colour of white W and range R at the place i -/
noncomputable def colAt (W R i : Nat) : Nat × Nat × Nat := match i / 12 % 6 with
  | 0 => (W + R, upN W R (i % 12), W)
  | 1 => (upN W R (12 - i % 12), W + R, W)
  | 2 => (W, W + R, upN W R (i % 12))
  | 3 => (W, upN W R (12 - i % 12), W + R)
  | 4 => (upN W R (i % 12), W, W + R)
  | _ => (W + R, W, upN W R (12 - i % 12))
noncomputable def feas (R i : Nat) : Bool := if R = 12 then i % 2 == 0 else R * (i % 12) % 12 == 0
noncomputable def chkC (r : RowW) (c : Nat) (u : UInt64) (x : Nat) : Bool := if c = 1 then x == r.W + r.R else if c = 3 then x == r.W else rnd16b (Float64.add r.m1 (Float64.mul (Float64.mul r.dm u) c6)) x
noncomputable def chk (r : RowW) (t : RowI) : Bool :=
  (if t.k % 2 = 0 then rnd16b (Float64.mul r.v (Float64.sub c1 (Float64.mul r.s t.g))) (upN r.W r.R (t.i % 12)) else rnd16b (Float64.mul r.v (Float64.sub c1 (Float64.mul r.s t.f))) (upN r.W r.R (12 - t.i % 12))) &&
  chkC r t.cr t.ur (colAt r.W r.R t.i).1 && chkC r t.cg t.ug (colAt r.W r.R t.i).2.1 && chkC r t.cb t.ub (colAt r.W r.R t.i).2.2
noncomputable def okR (r : RowW) : Bool := rowsI.all fun t => if feas r.R t.i = true then chk r t else true
/-! the same with few steps -/
noncomputable def rnd16K (X c : Nat) : Bool := mulOk 4625196817309499392 X && rndOk (mulN 4625196817309499392 X) && Nat.beq (rndN (mulN 4625196817309499392 X)) c
noncomputable def chkCK (r : RowW) (c : Nat) (u : UInt64) (x : Nat) : Bool := if c = 1 then Nat.beq x (r.W + r.R) else if c = 3 then Nat.beq x r.W else
  mulOk r.dm.toNat u.toNat && mulOk (mulN r.dm.toNat u.toNat) 4618441417868443648 && addOk r.m1.toNat (mulN (mulN r.dm.toNat u.toNat) 4618441417868443648) && rnd16K (addN r.m1.toNat (mulN (mulN r.dm.toNat u.toNat) 4618441417868443648)) x
noncomputable def subK (X : Nat) : Nat := (Float64.sub c1 X.toUInt64).toNat
noncomputable def chkHK (r : RowW) (g : UInt64) (x : Nat) : Bool := mulOk r.s.toNat g.toNat && mulOk r.v.toNat (subK (mulN r.s.toNat g.toNat)) && rnd16K (mulN r.v.toNat (subK (mulN r.s.toNat g.toNat))) x
noncomputable def chkK (r : RowW) (t : RowI) : Bool :=
  (if t.k % 2 = 0 then chkHK r t.g (upN r.W r.R (t.i % 12)) else chkHK r t.f (upN r.W r.R (12 - t.i % 12))) &&
  chkCK r t.cr t.ur (colAt r.W r.R t.i).1 && chkCK r t.cg t.ug (colAt r.W r.R t.i).2.1 && chkCK r t.cb t.ub (colAt r.W r.R t.i).2.2
noncomputable def okRK (r : RowW) : Bool := rowsI.all fun t => if feas r.R t.i = true then chkK r t else true
theorem ofInt16 : Float64.ofInt 16 = 4625196817309499392 := by decide +kernel
theorem toNat16 : (4625196817309499392 : UInt64).toNat = 4625196817309499392 := by decide +kernel
theorem toNat6 : (c6 : UInt64).toNat = 4618441417868443648 := by decide +kernel
theorem mul_toNat {X Y : Nat} : ((mulN X Y).toUInt64).toNat = mulN X Y := toNat_rp
theorem rnd16_fast {x : UInt64} {c : Nat} (h : rnd16K x.toNat c = true) : rnd16b x c = true := by
  unfold rnd16K at h
  simp only [Bool.and_eq_true] at h
  obtain ⟨⟨h1, h2⟩, h3⟩ := h
  unfold rnd16b
  rw [ofInt16, mul_fast (x := 4625196817309499392) (y := x) (by rw [toNat16]; exact h1), toNat16]
  have := rnd_fast (x := (mulN 4625196817309499392 x.toNat).toUInt64) (by rw [mul_toNat]; exact h2)
  rw [mul_toNat] at this
  rw [this.1, this.2, Nat.eq_of_beq_eq_true h3]
  simp
theorem chkC_fast {r : RowW} {c x : Nat} {u : UInt64} (h : chkCK r c u x = true) : chkC r c u x = true := by
  unfold chkCK at h
  unfold chkC
  by_cases h1 : c = 1
  · rw [if_pos h1] at h ⊢; rw [Nat.eq_of_beq_eq_true h]; simp
  rw [if_neg h1] at h ⊢
  by_cases h2 : c = 3
  · rw [if_pos h2] at h ⊢; rw [Nat.eq_of_beq_eq_true h]; simp
  rw [if_neg h2] at h ⊢
  simp only [Bool.and_eq_true] at h
  obtain ⟨⟨⟨k1, k2⟩, k3⟩, k4⟩ := h
  have e1 := mul_fast (x := r.dm) (y := u) k1
  have e2 := mul_fast (x := (mulN r.dm.toNat u.toNat).toUInt64) (y := c6) (by rw [mul_toNat, toNat6]; exact k2)
  rw [mul_toNat, toNat6] at e2
  have e3 := add_fast (x := r.m1) (y := (mulN (mulN r.dm.toNat u.toNat) 4618441417868443648).toUInt64) (by rw [mul_toNat]; exact k3)
  rw [mul_toNat] at e3
  rw [e1, e2, e3]
  refine rnd16_fast ?_
  rw [show ((addN r.m1.toNat (mulN (mulN r.dm.toNat u.toNat) 4618441417868443648)).toUInt64).toNat = addN r.m1.toNat (mulN (mulN r.dm.toNat u.toNat) 4618441417868443648) from toNat_rp]
  exact k4
theorem chkH_fast {r : RowW} {g : UInt64} {x : Nat} (h : chkHK r g x = true) : rnd16b (Float64.mul r.v (Float64.sub c1 (Float64.mul r.s g))) x = true := by
  unfold chkHK at h
  simp only [Bool.and_eq_true] at h
  obtain ⟨⟨k1, k2⟩, k3⟩ := h
  rw [mul_fast k1]
  unfold subK at k2 k3
  rw [mul_fast k2]
  refine rnd16_fast ?_
  rw [mul_toNat]
  exact k3
theorem chk_fast {r : RowW} {t : RowI} (h : chkK r t = true) : chk r t = true := by
  unfold chkK at h
  unfold chk
  simp only [Bool.and_eq_true] at h ⊢
  obtain ⟨⟨⟨h1, h2⟩, h3⟩, h4⟩ := h
  refine ⟨⟨⟨?_, chkC_fast h2⟩, chkC_fast h3⟩, chkC_fast h4⟩
  by_cases hk : t.k % 2 = 0
  · rw [if_pos hk] at h1 ⊢; exact chkH_fast h1
  · rw [if_neg hk] at h1 ⊢; exact chkH_fast h1
theorem okR_fast {r : RowW} (h : okRK r = true) : okR r = true := by
  unfold okRK at h
  unfold okR
  rw [List.all_eq_true] at h ⊢
  intro t ht
  have := h t ht
  by_cases hf : feas r.R t.i = true
  · rw [if_pos hf] at this ⊢; exact chk_fast this
  · rw [if_neg hf]
theorem p3_0 : okR ⟨0, 1, 4607182418800017408, 4589168020290535424, 0, 4584664420663164928, 4607182418800017408, 0, 4589168020290535424, 4589168020290535424⟩ = true := okR_fast (by decide +kernel)
theorem p3_1 : okR ⟨0, 2, 4607182418800017408, 4593671619917905920, 0, 4589168020290535424, 4607182418800017408, 0, 4593671619917905920, 4593671619917905920⟩ = true := okR_fast (by decide +kernel)
theorem p3_2 : okR ⟨0, 3, 4607182418800017408, 4595923419731591168, 0, 4591419820104220672, 4607182418800017408, 0, 4595923419731591168, 4595923419731591168⟩ = true := okR_fast (by decide +kernel)
theorem p3_3 : okR ⟨0, 4, 4607182418800017408, 4598175219545276416, 0, 4593671619917905920, 4607182418800017408, 0, 4598175219545276416, 4598175219545276416⟩ = true := okR_fast (by decide +kernel)
theorem p3_4 : okR ⟨0, 6, 4607182418800017408, 4600427019358961664, 0, 4595923419731591168, 4607182418800017408, 0, 4600427019358961664, 4600427019358961664⟩ = true := okR_fast (by decide +kernel)
theorem p3_5 : okR ⟨0, 8, 4607182418800017408, 4602678819172646912, 0, 4598175219545276416, 4607182418800017408, 0, 4602678819172646912, 4602678819172646912⟩ = true := okR_fast (by decide +kernel)
theorem p3_6 : okR ⟨0, 12, 4607182418800017408, 4604930618986332160, 0, 4600427019358961664, 4607182418800017408, 0, 4604930618986332160, 4604930618986332160⟩ = true := okR_fast (by decide +kernel)
theorem p3_7 : okR ⟨1, 1, 4602678819172646912, 4593671619917905920, 4589168020290535424, 4591419820104220672, 4599676419421066581, 4589168020290535424, 4593671619917905920, 4589168020290535424⟩ = true := okR_fast (by decide +kernel)
theorem p3_8 : okR ⟨1, 2, 4604180019048437077, 4595923419731591168, 4589168020290535424, 4593671619917905920, 4602678819172646912, 4589168020290535424, 4595923419731591168, 4593671619917905920⟩ = true := okR_fast (by decide +kernel)
theorem p3_9 : okR ⟨1, 3, 4604930618986332160, 4598175219545276416, 4589168020290535424, 4594797519824748544, 4603579539098121011, 4589168020290535424, 4598175219545276416, 4595923419731591168⟩ = true := okR_fast (by decide +kernel)
theorem p3_10 : okR ⟨1, 4, 4605380978949069210, 4599301119452119040, 4589168020290535422, 4595923419731591168, 4604180019048437077, 4589168020290535424, 4599301119452119040, 4598175219545276416⟩ = true := okR_fast (by decide +kernel)
theorem p3_11 : okR ⟨1, 6, 4605895676049340123, 4601552919265804288, 4589168020290535426, 4598175219545276416, 4604930618986332160, 4589168020290535424, 4601552919265804288, 4600427019358961664⟩ = true := okR_fast (by decide +kernel)
theorem p3_12 : okR ⟨1, 8, 4606181618882823964, 4603241769126068224, 4589168020290535426, 4599301119452119040, 4605380978949069210, 4589168020290535424, 4603241769126068224, 4602678819172646912⟩ = true := okR_fast (by decide +kernel)
theorem p3_13 : okR ⟨1, 12, 4606489557318883486, 4605493568939753472, 4589168020290535418, 4601552919265804288, 4605895676049340123, 4589168020290535424, 4605493568939753472, 4604930618986332160⟩ = true := okR_fast (by decide +kernel)
theorem p3_14 : okR ⟨2, 1, 4599676419421066581, 4595923419731591168, 4593671619917905920, 4594797519824748544, 4596373779694328218, 4593671619917905920, 4595923419731591168, 4589168020290535424⟩ = true := okR_fast (by decide +kernel)
theorem p3_15 : okR ⟨2, 2, 4602678819172646912, 4598175219545276416, 4593671619917905920, 4595923419731591168, 4599676419421066581, 4593671619917905920, 4598175219545276416, 4593671619917905920⟩ = true := okR_fast (by decide +kernel)
theorem p3_16 : okR ⟨2, 3, 4603579539098121011, 4599301119452119040, 4593671619917905920, 4597049319638433792, 4601392076421969627, 4593671619917905920, 4599301119452119040, 4595923419731591168⟩ = true := okR_fast (by decide +kernel)
theorem p3_17 : okR ⟨2, 4, 4604180019048437077, 4600427019358961664, 4593671619917905920, 4598175219545276416, 4602678819172646912, 4593671619917905920, 4600427019358961664, 4598175219545276416⟩ = true := okR_fast (by decide +kernel)
theorem p3_18 : okR ⟨2, 6, 4604930618986332160, 4602678819172646912, 4593671619917905920, 4599301119452119040, 4603579539098121011, 4593671619917905920, 4602678819172646912, 4600427019358961664⟩ = true := okR_fast (by decide +kernel)
theorem p3_19 : okR ⟨2, 8, 4605380978949069210, 4603804719079489536, 4593671619917905918, 4600427019358961664, 4604180019048437077, 4593671619917905920, 4603804719079489536, 4602678819172646912⟩ = true := okR_fast (by decide +kernel)
theorem p3_20 : okR ⟨2, 12, 4605895676049340123, 4606056518893174784, 4593671619917905922, 4602678819172646912, 4604930618986332160, 4593671619917905920, 4606056518893174784, 4604930618986332160⟩ = true := okR_fast (by decide +kernel)
theorem p3_21 : okR ⟨3, 1, 4598175219545276416, 4598175219545276416, 4595923419731591168, 4597049319638433792, 4594314991293244562, 4595923419731591168, 4598175219545276416, 4589168020290535424⟩ = true := okR_fast (by decide +kernel)
theorem p3_22 : okR ⟨3, 2, 4600877379321698714, 4599301119452119040, 4595923419731591168, 4598175219545276416, 4598175219545276416, 4595923419731591168, 4599301119452119040, 4593671619917905920⟩ = true := okR_fast (by decide +kernel)
theorem p3_23 : okR ⟨3, 3, 4602678819172646912, 4600427019358961664, 4595923419731591168, 4598738169498697728, 4599676419421066581, 4595923419731591168, 4600427019358961664, 4595923419731591168⟩ = true := okR_fast (by decide +kernel)
theorem p3_24 : okR ⟨3, 4, 4603322190547985554, 4601552919265804288, 4595923419731591168, 4599301119452119040, 4600877379321698714, 4595923419731591168, 4601552919265804288, 4598175219545276416⟩ = true := okR_fast (by decide +kernel)
theorem p3_25 : okR ⟨3, 6, 4604180019048437077, 4603241769126068224, 4595923419731591169, 4600427019358961664, 4602678819172646912, 4595923419731591168, 4603241769126068224, 4600427019358961664⟩ = true := okR_fast (by decide +kernel)
theorem p3_26 : okR ⟨3, 8, 4604725909912360774, 4604367669032910848, 4595923419731591168, 4601552919265804288, 4603322190547985554, 4595923419731591168, 4604367669032910848, 4602678819172646912⟩ = true := okR_fast (by decide +kernel)
theorem p3_27 : okR ⟨3, 12, 4605380978949069210, 4606619468846596096, 4595923419731591166, 4603241769126068224, 4605895676049340123, 4595923419731591164, 4606619468846596097, 4604930618986332162⟩ = true := okR_fast (by decide +kernel)
theorem p3_28 : okR ⟨4, 1, 4596373779694328218, 4599301119452119040, 4598175219545276416, 4598738169498697728, 4592670820000712476, 4598175219545276416, 4599301119452119040, 4589168020290535424⟩ = true := okR_fast (by decide +kernel)
theorem p3_29 : okR ⟨4, 2, 4599676419421066581, 4600427019358961664, 4598175219545276416, 4599301119452119040, 4596373779694328218, 4598175219545276416, 4600427019358961664, 4593671619917905920⟩ = true := okR_fast (by decide +kernel)
theorem p3_30 : okR ⟨4, 3, 4601392076421969627, 4601552919265804288, 4598175219545276416, 4599864069405540352, 4598584637693219188, 4598175219545276416, 4601552919265804288, 4595923419731591168⟩ = true := okR_fast (by decide +kernel)
theorem p3_31 : okR ⟨4, 4, 4602678819172646912, 4602678819172646912, 4598175219545276416, 4600427019358961664, 4599676419421066581, 4598175219545276416, 4602678819172646912, 4598175219545276416⟩ = true := okR_fast (by decide +kernel)
theorem p3_32 : okR ⟨4, 6, 4603579539098121011, 4603804719079489536, 4598175219545276416, 4601552919265804288, 4601392076421969627, 4598175219545276416, 4603804719079489536, 4600427019358961664⟩ = true := okR_fast (by decide +kernel)
theorem p3_33 : okR ⟨4, 8, 4604180019048437077, 4604930618986332160, 4598175219545276416, 4602678819172646912, 4602678819172646912, 4598175219545276416, 4604930618986332160, 4602678819172646912⟩ = true := okR_fast (by decide +kernel)
theorem p3_34 : okR ⟨4, 12, 4604930618986332160, 4607182418800017408, 4598175219545276416, 4603804719079489536, 4607182418800017408, 4598175219545276416, 4607182418800017408, 4604930618986332160⟩ = true := okR_fast (by decide +kernel)
theorem okR_all : rowsW.all okR = true := by
  unfold rowsW
  simp only [List.all_cons, List.all_nil, p3_0, p3_1, p3_2, p3_3, p3_4, p3_5, p3_6, p3_7, p3_8, p3_9, p3_10, p3_11, p3_12, p3_13, p3_14, p3_15, p3_16, p3_17, p3_18, p3_19, p3_20, p3_21, p3_22, p3_23, p3_24, p3_25, p3_26, p3_27, p3_28, p3_29, p3_30, p3_31, p3_32, p3_33, p3_34, Bool.and_self]
end Mine

/-! ## PF4 -/
set_option maxRecDepth 100000
namespace Mine
noncomputable def goodR (R : Nat) : Bool := R == 1 || R == 2 || R == 3 || R == 4 || R == 6 || R == 8 || R == 12
/-- the hue's place by range and place -/
noncomputable def okHue (R i : Nat) : Bool := Float64.isFinite (Float64.mul (Float64.ofInt 72) (hueD (R - (colAt 0 R i).1) (R - (colAt 0 R i).2.1) (R - (colAt 0 R i).2.2) R)) && toInt Float64.nearestOf (Float64.mul (Float64.ofInt 72) (hueD (R - (colAt 0 R i).1) (R - (colAt 0 R i).2.1) (R - (colAt 0 R i).2.2) R)) == (i : Int)
noncomputable def okHues (R : Nat) : Bool := allB 72 (fun i => if feas R i = true then okHue R i else true)
theorem hue_1 : okHues 1 = true := by decide +kernel
theorem hue_2 : okHues 2 = true := by decide +kernel
theorem hue_3 : okHues 3 = true := by decide +kernel
theorem hue_4 : okHues 4 = true := by decide +kernel
theorem hue_6 : okHues 6 = true := by decide +kernel
theorem hue_8 : okHues 8 = true := by decide +kernel
theorem hue_12 : okHues 12 = true := by decide +kernel
theorem goodR_or {R : Nat} (h : goodR R = true) : R = 1 ∨ R = 2 ∨ R = 3 ∨ R = 4 ∨ R = 6 ∨ R = 8 ∨ R = 12 := by
  unfold goodR at h
  simpa [or_assoc] using h
theorem good_le {R : Nat} (h : goodR R = true) : 1 ≤ R ∧ R ≤ 12 := by
  rcases goodR_or h with rfl | rfl | rfl | rfl | rfl | rfl | rfl <;> decide
theorem hues {R i : Nat} (h : goodR R = true) (hi : i < 72) (hf : feas R i = true) : okHue R i = true := by
  have key : okHues R = true := by
    rcases goodR_or h with rfl | rfl | rfl | rfl | rfl | rfl | rfl
    · exact hue_1
    · exact hue_2
    · exact hue_3
    · exact hue_4
    · exact hue_6
    · exact hue_8
    · exact hue_12
  have := allB_spec key i hi
  rw [if_pos hf] at this
  exact this
theorem up_le {W R r : Nat} (h : r ≤ 12) : W ≤ upN W R r ∧ upN W R r ≤ W + R ∧ upN W R r = W + upN 0 R r := by
  unfold upN
  have h1 : R * r / 12 ≤ R := Nat.div_le_of_le_mul (by rw [Nat.mul_comm 12 R]; exact Nat.mul_le_mul_left _ h)
  exact ⟨Nat.le_add_right _ _, Nat.add_le_add_left h1 _, by rw [Nat.zero_add]⟩
theorem max_is {x y z T : Nat} (hx : x ≤ T) (hy : y ≤ T) (hz : z ≤ T) (h : x = T ∨ y = T ∨ z = T) : max (max x y) z = T := by
  refine Nat.le_antisymm (Nat.max_le.mpr ⟨Nat.max_le.mpr ⟨hx, hy⟩, hz⟩) ?_
  rcases h with rfl | rfl | rfl
  · exact Nat.le_trans (Nat.le_max_left _ _) (Nat.le_max_left _ _)
  · exact Nat.le_trans (Nat.le_max_right _ _) (Nat.le_max_left _ _)
  · exact Nat.le_max_right _ _
theorem min_is {x y z T : Nat} (hx : T ≤ x) (hy : T ≤ y) (hz : T ≤ z) (h : x = T ∨ y = T ∨ z = T) : min (min x y) z = T := by
  refine Nat.le_antisymm ?_ (Nat.le_min.mpr ⟨Nat.le_min.mpr ⟨hx, hy⟩, hz⟩)
  rcases h with rfl | rfl | rfl
  · exact Nat.le_trans (Nat.min_le_left _ _) (Nat.min_le_left _ _)
  · exact Nat.le_trans (Nat.min_le_left _ _) (Nat.min_le_right _ _)
  · exact Nat.min_le_right _ _
/-- a part of a colour -/
noncomputable def PartOf (W R x x0 : Nat) : Prop := W ≤ x ∧ x ≤ W + R ∧ x = W + x0
theorem part_top {W R : Nat} : PartOf W R (W + R) (0 + R) := ⟨Nat.le_add_right _ _, Nat.le_refl _, by rw [Nat.zero_add]⟩
theorem part_bot {W R : Nat} : PartOf W R W 0 := ⟨Nat.le_refl _, Nat.le_add_right _ _, rfl⟩
theorem parts {W R x y z x0 y0 z0 : Nat} (hx : PartOf W R x x0) (hy : PartOf W R y y0) (hz : PartOf W R z z0) (hT : x = W + R ∨ y = W + R ∨ z = W + R) (hB : x = W ∨ y = W ∨ z = W) :
    W ≤ x ∧ W ≤ y ∧ W ≤ z ∧ x = W + x0 ∧ y = W + y0 ∧ z = W + z0 ∧ max (max x y) z = W + R ∧ min (min x y) z = W :=
  ⟨hx.1, hy.1, hz.1, hx.2.2, hy.2.2, hz.2.2, max_is hx.2.1 hy.2.1 hz.2.1 hT, min_is hx.1 hy.1 hz.1 hB⟩
/-- the three parts of a colour at a place: the greatest, the least, and between -/
theorem colAt_facts (W R i : Nat) : W ≤ (colAt W R i).1 ∧ W ≤ (colAt W R i).2.1 ∧ W ≤ (colAt W R i).2.2 ∧ (colAt W R i).1 = W + (colAt 0 R i).1 ∧ (colAt W R i).2.1 = W + (colAt 0 R i).2.1 ∧ (colAt W R i).2.2 = W + (colAt 0 R i).2.2 ∧
    max (max (colAt W R i).1 (colAt W R i).2.1) (colAt W R i).2.2 = W + R ∧ min (min (colAt W R i).1 (colAt W R i).2.1) (colAt W R i).2.2 = W := by
  have u1 : PartOf W R (upN W R (i % 12)) (upN 0 R (i % 12)) := up_le (Nat.le_of_lt (Nat.mod_lt _ (by decide)))
  have u2 : PartOf W R (upN W R (12 - i % 12)) (upN 0 R (12 - i % 12)) := up_le (Nat.sub_le _ _)
  unfold colAt
  split
  · exact parts part_top u1 part_bot (.inl rfl) (.inr (.inr rfl))
  · exact parts u2 part_top part_bot (.inr (.inl rfl)) (.inr (.inr rfl))
  · exact parts part_bot part_top u1 (.inr (.inl rfl)) (.inl rfl)
  · exact parts part_bot u2 part_top (.inr (.inr rfl)) (.inl rfl)
  · exact parts u1 part_bot part_top (.inr (.inr rfl)) (.inr (.inl rfl))
  · exact parts part_top part_bot u2 (.inl rfl) (.inr (.inl rfl))
noncomputable def rowOf (W R : Nat) : Option RowW := rowsW.find? fun r => r.W == W && r.R == R
theorem rows_have : allB 5 (fun W => allB 13 (fun R => !goodR R || (rowsW.any fun r => r.W == W && r.R == R))) = true := by decide +kernel
theorem row_ex {W R : Nat} (hW : W < 5) (hR : goodR R = true) : ∃ r ∈ rowsW, r.W = W ∧ r.R = R := by
  have h13 : R < 13 := Nat.lt_succ_of_le (good_le hR).2
  have := allB_spec (allB_spec rows_have W hW) R h13
  rw [hR] at this
  have h2 : (rowsW.any fun r => r.W == W && r.R == R) = true := by simpa using this
  obtain ⟨r, hr, e⟩ := List.any_eq_true.mp h2
  rw [Bool.and_eq_true] at e
  exact ⟨r, hr, eq_of_beq e.1, eq_of_beq e.2⟩
theorem its_have : allB 144 (fun i => rowsI.any fun t => t.i == i) = true := by decide +kernel
theorem it_ex {i : Nat} (hi : i < 144) : ∃ t ∈ rowsI, t.i = i := by
  obtain ⟨t, ht, e⟩ := List.any_eq_true.mp (allB_spec its_have i hi)
  exact ⟨t, ht, eq_of_beq e⟩
end Mine

/-! ## PF5 -/
set_option maxRecDepth 100000
namespace Mine
structure RowFacts (r : RowW) : Prop where
  v : r.v = fl ((r.W + r.R : Nat) : Int) 16
  s : r.s = Float64.div (fl (r.R : Int) 16) r.v
  p : r.p = Float64.mul r.v (Float64.sub c1 r.s)
  lg : r.lg = Float64.div (Float64.add r.v (fl (r.W : Int) 16)) c2
  st : r.st = (if leHalf r.lg then Float64.div (fl (r.R : Int) 16) (Float64.add r.v (fl (r.W : Int) 16)) else Float64.div (fl (r.R : Int) 16) (Float64.sub (Float64.sub c2 r.v) (fl (r.W : Int) 16)))
  m2 : r.m2 = m2Of r.lg r.st
  m1 : r.m1 = Float64.sub (Float64.mul c2 r.lg) r.m2
  dm : r.dm = Float64.sub r.m2 r.m1
  zv : Float64.isZero r.v = false
  za : Float64.isZero (Float64.add r.v (fl (r.W : Int) 16)) = false
  zs : Float64.isZero (Float64.sub (Float64.sub c2 r.v) (fl (r.W : Int) 16)) = false
  sn : (Float64.cmp r.s 0 == some .eq) = false
  sg : (Float64.cmpInt r.s 0 == some .gt) = true
  stn : (Float64.cmp r.st 0 == some .eq) = false
  zr : Float64.isZero (fl (r.R : Int) 16) = false
  rv : Rnd16 r.v ((r.W + r.R : Nat) : Int)
  rp : Rnd16 r.p (r.W : Int)
  rm2 : Rnd16 r.m2 ((r.W + r.R : Nat) : Int)
  rm1 : Rnd16 r.m1 (r.W : Int)
theorem row_facts {r : RowW} (hr : r ∈ rowsW) : RowFacts r := by
  have h := List.all_eq_true.mp okW_all r hr
  unfold okW at h
  simp only [Bool.and_eq_true, Bool.not_eq_true'] at h
  obtain ⟨⟨⟨⟨⟨⟨⟨⟨⟨⟨⟨⟨⟨⟨⟨⟨⟨⟨h1, h2⟩, h3⟩, h4⟩, h5⟩, h6⟩, h7⟩, h8⟩, h9⟩, h10⟩, h11⟩, h12⟩, h13⟩, h14⟩, h15⟩, h16⟩, h17⟩, h18⟩, h19⟩ := h
  exact ⟨eq_of_beq h1, eq_of_beq h2, eq_of_beq h3, eq_of_beq h4, eq_of_beq h5, eq_of_beq h6, eq_of_beq h7, eq_of_beq h8, h9, h10, h11, h12, h13, h14, h15, rnd16_of h16, rnd16_of h17, rnd16_of h18, rnd16_of h19⟩
structure ItFacts (t : RowI) : Prop where
  h : t.h = fl (t.i : Int) 72
  fin : Float64.isFinite (Float64.mul t.h c6) = true
  k : hsvI t.h = (t.k : Int)
  k12 : t.k = t.i / 12
  f : t.f = hsvF t.h
  g : t.g = Float64.sub c1 t.f
  r : uOk (Float64.divmod (Float64.add t.h cThird) c1).2 t.cr t.ur = true
  gg : uOk (Float64.divmod t.h c1).2 t.cg t.ug = true
  b : uOk (Float64.divmod (Float64.sub t.h cThird) c1).2 t.cb t.ub = true
theorem it_facts {t : RowI} (ht : t ∈ rowsI) : ItFacts t := by
  have h := List.all_eq_true.mp okI_all t ht
  unfold okI at h
  simp only [Bool.and_eq_true] at h
  obtain ⟨⟨⟨⟨⟨⟨⟨⟨h1, h2⟩, h3⟩, h4⟩, h5⟩, h6⟩, h7⟩, h8⟩, h9⟩ := h
  exact ⟨eq_of_beq h1, h2, eq_of_beq h3, eq_of_beq h4, eq_of_beq h5, eq_of_beq h6, h7, h8, h9⟩
theorem v_round {r : RowW} (F : RowFacts r) {hue u : UInt64} {c x : Nat} (hu : uOk (Float64.divmod hue c1).2 c u = true) (hc : chkC r c u x = true) : Rnd16 (vOf r.m1 r.m2 hue) (x : Int) := by
  unfold uOk at hu
  rw [Bool.and_eq_true] at hu
  obtain ⟨hu1, hu2⟩ := hu
  replace hu1 := eq_of_beq hu1
  unfold chkC at hc
  unfold catOf at hu1
  unfold vOf
  rw [← F.dm]
  by_cases q1 : (Float64.cmp (Float64.divmod hue c1).2 cSixth == some .lt) = true
  · rw [if_pos q1] at hu1 ⊢
    subst hu1
    rw [if_pos rfl] at hu2
    rw [if_neg (by decide), if_neg (by decide)] at hc
    rw [← eq_of_beq hu2]
    exact rnd16_of hc
  rw [if_neg q1] at hu1 ⊢
  by_cases q2 : (Float64.cmp (Float64.divmod hue c1).2 cHalf == some .lt) = true
  · rw [if_pos q2] at hu1 ⊢
    subst hu1
    rw [if_pos rfl] at hc
    rw [eq_of_beq hc]
    exact F.rm2
  rw [if_neg q2] at hu1 ⊢
  by_cases q3 : (Float64.cmp (Float64.divmod hue c1).2 cTwoThird == some .lt) = true
  · rw [if_pos q3] at hu1 ⊢
    subst hu1
    rw [if_neg (by decide), if_pos rfl] at hu2
    rw [if_neg (by decide), if_neg (by decide)] at hc
    rw [← eq_of_beq hu2]
    exact rnd16_of hc
  rw [if_neg q3] at hu1 ⊢
  subst hu1
  rw [if_neg (by decide), if_pos rfl] at hc
  rw [eq_of_beq hc]
  exact F.rm1
noncomputable abbrev icol (W R i : Nat) : Int × Int × Int := (((colAt W R i).1 : Int), ((colAt W R i).2.1 : Int), ((colAt W R i).2.2 : Int))
section
variable {W R i : Nat} (hW : W < 5) (hR : goodR R = true)
include hW hR
theorem col_bound : (colAt W R i).1 ≤ 16 ∧ (colAt W R i).2.1 ≤ 16 ∧ (colAt W R i).2.2 ≤ 16 := by
  have hb : W + R ≤ 16 := Nat.add_le_add (Nat.le_of_lt_succ hW) (good_le hR).2
  have m := Nat.le_trans (Nat.le_of_eq (colAt_facts W R i).2.2.2.2.2.2.1) hb
  exact ⟨Nat.le_trans (Nat.le_trans (Nat.le_max_left _ _) (Nat.le_max_left _ _)) m, Nat.le_trans (Nat.le_trans (Nat.le_max_right _ _) (Nat.le_max_left _ _)) m, Nat.le_trans (Nat.le_max_right _ _) m⟩
theorem cMax : fMax (fl (icol W R i).1 16) (fl (icol W R i).2.1 16) (fl (icol W R i).2.2 16) = fl ((W + R : Nat) : Int) 16 := by
  have b := col_bound (i := i) hW hR
  rw [fMax16 b.1 b.2.1 b.2.2, (colAt_facts W R i).2.2.2.2.2.2.1]
theorem cMin : fMin (fl (icol W R i).1 16) (fl (icol W R i).2.1 16) (fl (icol W R i).2.2 16) = fl (W : Int) 16 := by
  have b := col_bound (i := i) hW hR
  rw [fMin16 b.1 b.2.1 b.2.2, (colAt_facts W R i).2.2.2.2.2.2.2]
theorem cRange : fRange (fl (icol W R i).1 16) (fl (icol W R i).2.1 16) (fl (icol W R i).2.2 16) = fl (R : Int) 16 := by
  have b := col_bound (i := i) hW hR
  rw [fRange16 b.1 b.2.1 b.2.2, (colAt_facts W R i).2.2.2.2.2.2.1, (colAt_facts W R i).2.2.2.2.2.2.2, Nat.add_sub_cancel_left]
theorem cHue : hueOf (fl (icol W R i).1 16) (fl (icol W R i).2.1 16) (fl (icol W R i).2.2 16) = hueD (R - (colAt 0 R i).1) (R - (colAt 0 R i).2.1) (R - (colAt 0 R i).2.2) R := by
  have b := col_bound (i := i) hW hR
  have c := colAt_facts W R i
  rw [hue16 b.1 b.2.1 b.2.2, c.2.2.2.2.2.2.1, c.2.2.2.2.2.2.2]
  rw [c.2.2.2.1, c.2.2.2.2.1, c.2.2.2.2.2.1, Nat.add_sub_add_left, Nat.add_sub_add_left, Nat.add_sub_add_left, Nat.add_sub_cancel_left]
end
theorem bd16 {x : Nat} (h : x ≤ 16) : (0 : Int) ≤ (x : Int) ∧ (x : Int) ≤ 16 := ⟨Int.natCast_nonneg _, Int.ofNat_le.mpr h⟩
theorem col_hue {W R i : Nat} (hW : W < 5) (hR : goodR R = true) (hi : i < 72) (hf : feas R i = true) : Hue (icol W R i) i := by
  obtain ⟨r, hr, rfl, rfl⟩ := row_ex hW hR
  have F := row_facts hr
  have b := col_bound (i := i) hW hR
  have hR1 : 1 ≤ r.R := (good_le hR).1
  have hR2 : r.R ≤ 12 := (good_le hR).2
  have hh := hues hR hi hf
  unfold okHue at hh
  rw [Bool.and_eq_true] at hh
  refine ⟨?_, ?_, ?_, ?_, ?_, ?_, ?_, ?_, ?_, ?_, ?_⟩
  · exact bd16 b.1
  · exact bd16 b.2.1
  · exact bd16 b.2.2
  · exact Int.natCast_nonneg _
  · exact Int.ofNat_lt.mpr hi
  · have hb : r.W + r.R ≤ 16 := Nat.add_le_add (Nat.le_of_lt_succ hW) hR2
    rw [cMax hW hR, cMin hW hR, cmp16 (Nat.le_trans (Nat.le_add_right _ _) hb) hb, if_pos (Nat.lt_add_of_pos_right hR1)]; rfl
  · rw [cMax hW hR, ← F.v]; exact F.zv
  · rw [cRange hW hR]; exact F.zr
  · unfold satOf; rw [cRange hW hR, cMax hW hR, ← F.v, ← F.s]; exact F.sg
  · rw [cHue hW hR]; exact hh.1
  · rw [cHue hW hR]; exact eq_of_beq hh.2
theorem mod62 (x : Nat) : x % 2 = x % 6 % 2 := (Nat.mod_mod_of_dvd x (by decide : 2 ∣ 6)).symm
theorem six_or {x : Nat} (h : x < 6) : x = 0 ∨ x = 1 ∨ x = 2 ∨ x = 3 ∨ x = 4 ∨ x = 5 := by omega
theorem col_paint {W R i : Nat} (hW : W < 5) (hR : goodR R = true) (hi : i < 144) (hf : feas R i = true) : Paint (icol W R i) i := by
  obtain ⟨r, hr, rfl, rfl⟩ := row_ex hW hR
  obtain ⟨t, ht, rfl⟩ := it_ex hi
  have F := row_facts hr
  have I := it_facts ht
  have hc := List.all_eq_true.mp (List.all_eq_true.mp okR_all r hr) t ht
  rw [if_pos hf] at hc
  unfold chk at hc
  simp only [Bool.and_eq_true] at hc
  obtain ⟨⟨⟨hc1, hc2⟩, hc3⟩, hc4⟩ := hc
  have e1 := cMax (i := t.i) hW hR
  have e2 := cMin (i := t.i) hW hR
  have e3 := cRange (i := t.i) hW hR
  have es : satOf (fl (icol r.W r.R t.i).1 16) (fl (icol r.W r.R t.i).2.1 16) (fl (icol r.W r.R t.i).2.2 16) = r.s := by unfold satOf; rw [e3, e1, ← F.v, ← F.s]
  have el : lightOf (fl (icol r.W r.R t.i).1 16) (fl (icol r.W r.R t.i).2.1 16) (fl (icol r.W r.R t.i).2.2 16) = r.lg := by unfold lightOf; rw [e1, e2, ← F.v, ← F.lg]
  have et : strOf (fl (icol r.W r.R t.i).1 16) (fl (icol r.W r.R t.i).2.1 16) (fl (icol r.W r.R t.i).2.2 16) = r.st := by unfold strOf; rw [el, e3, e1, e2, ← F.v, F.st]
  have em1 : m1Of r.lg r.st = r.m1 := by unfold m1Of; rw [← F.m2, ← F.m1]
  have hb : Rnd16 (hsvBackOf t.h r.s r.v).1 (icol r.W r.R t.i).1 ∧ Rnd16 (hsvBackOf t.h r.s r.v).2.1 (icol r.W r.R t.i).2.1 ∧ Rnd16 (hsvBackOf t.h r.s r.v).2.2 (icol r.W r.R t.i).2.2 := by
    have hk6 : (hsvI t.h).fmod 6 = ((t.i / 12 % 6 : Nat) : Int) := by rw [I.k, I.k12, Int.fmod_eq_emod_of_nonneg _ (by decide)]; rfl
    have hkk : t.k % 2 = t.i / 12 % 6 % 2 := by rw [I.k12]; exact mod62 _
    have hP : Rnd16 (hsvP r.s r.v) (r.W : Int) := by have := F.rp; rw [F.p] at this; exact this
    have hT : t.k % 2 = 0 → Rnd16 (hsvT t.h r.s r.v) ((upN r.W r.R (t.i % 12) : Nat) : Int) := fun e => by
      rw [if_pos e, I.g, I.f] at hc1; exact rnd16_of hc1
    have hQ : ¬ t.k % 2 = 0 → Rnd16 (hsvQ t.h r.s r.v) ((upN r.W r.R (12 - t.i % 12) : Nat) : Int) := fun e => by
      rw [if_neg e, I.f] at hc1; exact rnd16_of hc1
    have := six_or (Nat.mod_lt (t.i / 12) (by decide : 0 < 6))
    unfold icol colAt
    rcases this with h | h | h | h | h | h
    · rw [← hb0 (s := r.s) (v := r.v) (by rw [hk6, h]; rfl)]; rw [h]; exact ⟨F.rv, hT (by rw [hkk, h]), hP⟩
    · rw [← hb1 (s := r.s) (v := r.v) (by rw [hk6, h]; rfl)]; rw [h]; exact ⟨hQ (by rw [hkk, h]; decide), F.rv, hP⟩
    · rw [← hb2 (s := r.s) (v := r.v) (by rw [hk6, h]; rfl)]; rw [h]; exact ⟨hP, F.rv, hT (by rw [hkk, h])⟩
    · rw [← hb3 (s := r.s) (v := r.v) (by rw [hk6, h]; rfl)]; rw [h]; exact ⟨hP, hQ (by rw [hkk, h]; decide), F.rv⟩
    · rw [← hb4 (s := r.s) (v := r.v) (by rw [hk6, h]; rfl)]; rw [h]; exact ⟨hT (by rw [hkk, h]), hP, F.rv⟩
    · rw [← hb5 (s := r.s) (v := r.v) (by rw [hk6, h]; rfl)]; rw [h]; exact ⟨F.rv, hP, hQ (by rw [hkk, h]; decide)⟩
  have hkI := I.k
  have hkk := I.k12
  refine ⟨?_, ?_, ?_, ?_, ?_, ?_, ?_, ?_, ?_, ?_, ?_, ?_, ?_⟩
  · rw [e1, e2, ← F.v]; exact F.za
  · rw [e1, e2, ← F.v]; exact F.zs
  · rw [es]; exact F.sn
  · rw [← I.h]; exact I.fin
  · rw [← I.h, hkI]; exact Int.natCast_nonneg _
  · rw [← I.h, hkI, hkk]; exact Int.ofNat_lt.mpr (Nat.div_lt_of_lt_mul hi)
  · rw [et]; exact F.stn
  · rw [es, e1, ← I.h, ← F.v]; exact hb.1
  · rw [es, e1, ← I.h, ← F.v]; exact hb.2.1
  · rw [es, e1, ← I.h, ← F.v]; exact hb.2.2
  · rw [el, et, em1, ← F.m2, ← I.h]; exact v_round F I.r hc2
  · rw [el, et, em1, ← F.m2, ← I.h]; exact v_round F I.gg hc3
  · rw [el, et, em1, ← F.m2, ← I.h]; exact v_round F I.b hc4
end Mine

/-! ## PF6 -/
set_option maxRecDepth 100000
namespace Mine
/-- the place by most, middle and sixth -/
noncomputable def plI (mo d k : Int) : Int := (12 * k + (if k.fmod 2 = 1 then 12 - (12 * d).fdiv mo else (12 * d).fdiv mo)).fmod 72
noncomputable def colI (w t : Int) (x : Int × Int × Int) : Int × Int × Int := (w + t * x.1, w + t * x.2.1, w + t * x.2.2)
noncomputable def okDraw (j d k w t : Nat) : Bool :=
  if (d : Int) ≤ mostOf j then
    let mo := mostOf j
    let p := plI mo d k
    let R := (t * mo).toNat
    decide (0 ≤ p) && decide (p < 72) && goodR R && feas R p.toNat && feas R (p.toNat + 72) && (colI w t (wayOf mo d k) == icol w R p.toNat) && (icol w R p.toNat == icol w R (p.toNat + 72))
  else true
theorem draw_tab : allB 5 (fun j => allB 7 (fun d => allB 6 (fun k => allB 5 (fun w => okDraw j d k w 1 && okDraw j d k w 2)))) = true := by decide +kernel
theorem nat_of {x b : Int} (h0 : 0 ≤ x) (h1 : x < b) : ∃ n : Nat, x = (n : Int) ∧ (n : Int) < b := ⟨x.toNat, (Int.toNat_of_nonneg h0).symm, by rw [Int.toNat_of_nonneg h0]; exact h1⟩
theorem lt_seven {d : Nat} {x : Int} (h1 : (d : Int) < x + 1) (h2 : x ≤ 6) : d < 7 := Int.ofNat_lt.mp (Int.lt_of_lt_of_le h1 (Int.add_le_add_right h2 1))
theorem one_two {t : Nat} (h1 : (0 : Int) < t) (h2 : (t : Int) < 3) : t = 1 ∨ t = 2 := by omega
theorem toNat_lt {x : Int} (h0 : 0 ≤ x) (h1 : x < 72) : x.toNat < 72 := Int.ofNat_lt.mp (by rw [Int.toNat_of_nonneg h0]; exact h1)
theorem plain_draw (n : Int) (ht : 0 < timesN n) : ∃ W R i : Nat, W < 5 ∧ goodR R = true ∧ i < 72 ∧ feas R i = true ∧ feas R (i + 72) = true ∧ placeN n = (i : Int) ∧ colN n = icol W R i ∧ colN n = icol W R (i + 72) := by
  obtain ⟨j, ej, hj⟩ := nat_of (fmod_lo (figOf n 0) (by decide : (0 : Int) < 5)) (fmod_hi (figOf n 0) (by decide))
  have hmo : mostN n = mostOf j := by unfold mostN; rw [ej]
  have hm1 : 0 < mostN n + 1 := by rw [hmo]; exact Int.lt_add_one_of_le (Int.le_trans (by decide) (most_lo j))
  obtain ⟨d, ed, hd⟩ : ∃ d : Nat, midN n = (d : Int) ∧ (d : Int) < mostN n + 1 := nat_of (fmod_lo _ hm1) (fmod_hi _ hm1)
  obtain ⟨k, ek, hk⟩ : ∃ k : Nat, sixN n = (k : Int) ∧ (k : Int) < 6 := nat_of (fmod_lo _ (by decide)) (fmod_hi _ (by decide))
  obtain ⟨w, ew, hw⟩ : ∃ w : Nat, whiteN n = (w : Int) ∧ (w : Int) < 5 := nat_of (fmod_lo _ (by decide)) (fmod_hi _ (by decide))
  obtain ⟨t, et, htt⟩ : ∃ t : Nat, timesN n = (t : Int) ∧ (t : Int) < 3 := nat_of (Int.le_of_lt ht) (fmod_hi _ (by decide))
  rw [hmo] at hd
  have hd7 : d < 7 := lt_seven hd (most_hi j)
  have hw5 : w < 5 := Int.ofNat_lt.mp hw
  have key : okDraw j d k w t = true := by
    have h := allB_spec (allB_spec (allB_spec (allB_spec draw_tab j (Int.ofNat_lt.mp hj)) d hd7) k (Int.ofNat_lt.mp hk)) w hw5
    rw [Bool.and_eq_true] at h
    rcases one_two (et ▸ ht) htt with rfl | rfl
    · exact h.1
    · exact h.2
  unfold okDraw at key
  rw [if_pos (Int.le_of_lt_add_one hd)] at key
  simp only [Bool.and_eq_true, decide_eq_true_eq] at key
  obtain ⟨⟨⟨⟨⟨⟨k1, k2⟩, k3⟩, k4⟩, k5⟩, k6⟩, k7⟩ := key
  have hpl : placeN n = plI (mostOf j) d k := by
    unfold placeN plI stepN
    rw [if_pos ht, hmo, ed, ek]
  have hcol : colN n = colI w t (wayOf (mostOf j) d k) := by
    unfold colN colI
    rw [hmo, ed, ek, ew, et]
  refine ⟨w, ((t : Int) * mostOf j).toNat, (plI (mostOf j) d k).toNat, hw5, k3, toNat_lt k1 k2, k4, k5, by rw [hpl, Int.toNat_of_nonneg k1], ?_, ?_⟩
  · rw [hcol]; exact eq_of_beq k6
  · rw [hcol, eq_of_beq k6]; exact eq_of_beq k7
theorem grey_of {w : Nat} (hw : w < 5) : Grey ((w : Int), (w : Int), (w : Int)) := by
  have h := bd16 (Nat.le_trans (Nat.le_of_lt hw) (by decide : 5 ≤ 16))
  have h' : w ≤ 16 := Nat.le_trans (Nat.le_of_lt hw) (by decide)
  refine ⟨h, h, h, ?_⟩
  dsimp only
  rw [fMax16 h' h' h', fMin16 h' h' h', Nat.max_self, Nat.max_self, Nat.min_self, Nat.min_self, cmp16 h' h', if_neg (Nat.lt_irrefl _), if_pos rfl]
  rfl
theorem plainG (n : Int) : GoodCol (colN n) (placeN n) := by
  by_cases ht : 0 < timesN n
  · obtain ⟨W, R, i, h1, h2, h3, h4, _, h5, h6, _⟩ := plain_draw n ht
    rw [h5, h6]
    exact .inl (col_hue h1 h2 h3 h4)
  · have ht0 : timesN n = 0 := Int.le_antisymm (Int.not_lt.mp ht) (fmod_lo _ (by decide))
    obtain ⟨w, ew, hw⟩ : ∃ w : Nat, whiteN n = (w : Int) ∧ (w : Int) < 5 := nat_of (fmod_lo _ (by decide)) (fmod_hi _ (by decide))
    have hcol : colN n = ((w : Int), (w : Int), (w : Int)) := by
      unfold colN
      rw [ht0, ew]
      simp
    have hpl : placeN n = -1 := by unfold placeN; rw [if_neg ht]
    rw [hcol, hpl]
    exact .inr ⟨grey_of (Int.ofNat_lt.mp hw), rfl⟩
theorem plainP (n : Int) (h0 : 0 ≤ placeN n) : Paint (colN n) (placeN n) ∧ Paint (colN n) (placeN n + 72) := by
  have ht : 0 < timesN n := by
    apply Classical.byContradiction
    intro ht
    have hpl : placeN n = -1 := by unfold placeN; rw [if_neg ht]
    rw [hpl] at h0; exact absurd h0 (by decide)
  obtain ⟨W, R, i, h1, h2, h3, h4, h5, h6, h7, h8⟩ := plain_draw n ht
  rw [h6]
  refine ⟨by rw [h7]; exact col_paint h1 h2 (Nat.lt_of_lt_of_le h3 (by decide)) h4, ?_⟩
  rw [h8]
  exact col_paint (i := i + 72) h1 h2 (Nat.add_lt_add_right h3 72) h5
end Mine

set_option maxRecDepth 100000 in
set_option maxHeartbeats 8000000 in
theorem PySem.Challenge.cw_mr0158_01_holds : PySem.Challenge.rw_mr0158_01.Holds :=
  Mine.hd (by
  k_go0
  all_goals try k_fold
  (rename Fr _ _ _ _ => F1)
  (rename News _ _ _ _ => N1)
  refine Mine.law_all Mine.plainG Mine.plainP (Mine.plainW_of Mine.plainG) (by k_asm) F1 (by k_asm) (by k_asm) (by assumption) (by assumption) N1 (by omega) (by assumption) (by assumption) (by assumption) (by assumption) (by assumption) (by assumption) (by assumption) (by omega) (by passes_own) ?_
  intro h' tk' c5' c4' c3' ps' ps8' rest' m' F' N'
  refine ⟨?_, ⟨GrownAt.of N' (.tail _ (.tail _ (.tail _ (.head _)))), ⟨GrownAt.of N' (.tail _ (.tail _ (.tail _ (.tail _ (.head _))))), trivial⟩⟩⟩
  dsimp only
  k_steps)
