import PyProof.Rows.All
import Wide.All
import OpenK.AllK
import Wide.FinOn
import PySem.Challenge.RW_kl0455_01
set_option Elab.async false

section
open PySem PySem.W PyProof.Rows
namespace Mine
set_option maxRecDepth 100000 in
set_option maxHeartbeats 8000000 in
open_top hd for PySem.Challenge.rw_kl0455_01
end Mine
end

section
open PySem PySem.W PyProof.Rows PySem.Calls
set_option Elab.async false
namespace Mine
noncomputable abbrev lo3 : List Str := looseW hd.view_39 [Str.ofString "_twin_re_1", Str.ofString "_indent", Str.ofString "_safe_string"]
abbrev At (outer : List Env) (d u : Nat) : Around := { handled := none, depth := d, frames := some outer, guards := none, units := u }

theorem at_le {M : Model} {A : Around} {outer : List Env} {d u : Nat} {c : Code} {R : Result → Shared → Prop} {s : Shared} (h : codeAny M (At outer d u) c R s)
    (h1 : A.handled = none) (h2 : A.frames = some outer) (h3 : A.depth ≤ d) (h4 : A.units ≤ u) : codeAny M A c R s := by
  intro Γ p hc hΓ
  refine h Γ p hc ⟨hΓ.1.trans h1, Nat.le_trans hΓ.2.1 h3, fun l hl => hΓ.2.2.1 l (h2.trans hl), fun g hg => ?_, Nat.le_trans hΓ.2.2.2.2 h4⟩
  cases hg

structure Gr (w : World) (base g : Heap) (outer : List Env) (mean : ExcName → Option Value) (mg mb : Str → Option Value) (s : Shared) (args : List (Addr × Obj)) : Prop where
  B : Below (At outer 0 0) base outer g
  X : (hd.heap_39 w.params).In g
  T : Top hd.view_39 lo3 mean mg mb g
  st : g.StaysIn s.heap
  sz : g.objs.size ≤ s.heap.objs.size
  N : ∀ p ∈ args, s.heap.get? p.1 = some p.2 ∧ g.get? p.1 = none
  back : ∀ b o, s.heap.get? b = some o → b ∉ args.map (·.1) → g.get? b = some o

def Ret (s : Shared) (P : Value → List (Addr × Obj) → Prop) (r : Result) (s' : Shared) : Prop :=
  ∃ v own h' tk', r = .ok (.ret v) ∧ s' = { s with heap := h', toks := tk' } ∧ s.heap.StaysIn h' ∧ (∀ p ∈ own, h'.get? p.1 = some p.2 ∧ s.heap.get? p.1 = none) ∧ P v own

section
variable {w : World} {base g : Heap} {outer : List Env} {mean : ExcName → Option Value} {mg mb : Str → Option Value} {s : Shared} {args : List (Addr × Obj)}

theorem Gr.news {h₁ : Heap} (G : Gr w base g outer mean mg mb s args) (hk : ∀ b o, s.heap.get? b = some o → h₁.get? b = some o) : News g s.heap.objs.size h₁ args :=
  fun p hp => ⟨hk _ _ (G.N p hp).1, Nat.ne_of_lt (Heap.lt_size (G.N p hp).1), (G.N p hp).2⟩

theorem Gr.stays (G : Gr w base g outer mean mg mb s args) {L' : Addr} {h' : Heap} {m' : Str → Option Value} {news' : List (Addr × Obj)} (F : Fr g L' h' m') (N : News g L' h' news') (ha : ∀ p ∈ args, p ∈ news') : s.heap.StaysIn h' := by
  intro b o e
  by_cases hb : b ∈ args.map (·.1)
  · obtain ⟨p, hp, rfl⟩ := List.mem_map.mp hb
    have h1 := (G.N p hp).1
    rw [e] at h1; cases h1
    exact (N p (ha p hp)).1
  · exact F.keep b o (G.back b o e hb)

theorem Gr.fresh (G : Gr w base g outer mean mg mb s args) {a : Addr} (h1 : g.get? a = none) (h2 : a ∉ args.map (·.1)) : s.heap.get? a = none := by
  cases q : s.heap.get? a with
  | none => rfl
  | some o => rw [G.back a o q h2] at h1; cases h1

theorem Gr.ret (G : Gr w base g outer mean mg mb s args) {L' : Addr} {h' : Heap} {m' : Str → Option Value} {news' : List (Addr × Obj)} {P : Value → List (Addr × Obj) → Prop} {v : Value} {tk' : Nat} (own : List (Addr × Obj))
    (F : Fr g L' h' m') (N : News g L' h' news') (ha : ∀ p ∈ args, p ∈ news') (ho : ∀ p ∈ own, p ∈ news') (hd : ∀ p ∈ own, p.1 ∉ args.map (·.1)) (hP : P v own) :
    Ret s P (.ok (.ret v)) { s with heap := h', toks := tk' } :=
  ⟨v, own, h', tk', rfl, rfl, G.stays F N ha, fun p hp => ⟨(N p (ho p hp)).1, G.fresh (N p (ho p hp)).2.2 (hd p hp)⟩, hP⟩

/-- the ground of a callee, out of the caller's facts -/
theorem Gr.of_caller {A₀ A : Around} {h₀ : Heap} {L : Addr} {m : Str → Option Value} {env : Env} {news : List (Addr × Obj)}
    (B : Below A₀ base outer h₀) (F : Fr h₀ L s.heap m) (N : News h₀ L s.heap news) (X : (hd.heap_39 w.params).In h₀) (T : Top hd.view_39 lo3 mean mg mb h₀)
    (hA : A.frames = some (env :: outer)) (hf : env.frame = some L) (hke : env.scope.kind = .function) (ha : ∀ p ∈ args, p ∈ news) :
    Gr w base (hideAll s.heap (args.map (·.1))) (env :: outer) mean mg mb s args := by
  obtain ⟨FG, BG, st, _⟩ := groundX (A := A) (R := fun _ _ => True) B F (fun p hp => N p (ha p hp)) hA hf hke
  exact ⟨⟨rfl, BG.stays, BG.frames⟩, Frag.In.keeps X st, T.keeps st, fun b o e => of_hideAll _ e, Nat.le_of_eq (hideAll_size _ _), fun p hp => ⟨(N p (ha p hp)).1, hideAll_none _ (List.mem_map_of_mem hp)⟩, fun b o e q => hideAll_get _ e q⟩

theorem useS {prog : Program} {A₀ A : Around} {h₀ : Heap} {L : Addr} {m : Str → Option Value} {env : Env} {news : List (Addr × Obj)} {d u : Nat} {f : Addr} {vals : List Value} {kw : List (Str × Value)} {E : Value → Shared → Prop} {Q : Value → Shared → Prop} {P : Value → List (Addr × Obj) → Prop}
    (args : List (Addr × Obj))
    (C : ∀ g base outer, Gr w base g outer mean mg mb s args → codeAny (model prog w) (At outer d u) (.call (.ref f) ⟨vals, kw⟩) (Ret s P) s)
    (B : Below A₀ base outer h₀) (F : Fr h₀ L s.heap m) (N : News h₀ L s.heap news) (X : (hd.heap_39 w.params).In h₀) (T : Top hd.view_39 lo3 mean mg mb h₀)
    (hA : A.frames = some (env :: outer)) (hf : env.frame = some L) (hke : env.scope.kind = .function) (ha : ∀ p ∈ args, p ∈ news)
    (hh : A.handled = none) (hd : A.depth ≤ d) (hu : A.units ≤ u)
    (h : ∀ v own h' tk', P v own → Fr h₀ L h' m → News h₀ L h' (own ++ news) → (∀ p ∈ own, ∀ q ∈ news, q.1 ≠ p.1) → Q v { s with heap := h', toks := tk' }) :
    wpAny (model prog w) A (call (.ref f) vals kw) Q E s := by
  refine wpAny_call (codeAny_mono (at_le (C _ _ _ (Gr.of_caller B F N X T hA hf hke ha)) hh hA hd hu) ?_)
  rintro r s' ⟨v, own, h', tk', rfl, rfl, st, hown, hP⟩
  obtain ⟨oL, es, ep, hL, hLd, hLk, hLf⟩ := F.ns
  refine h v own h' tk' hP ⟨⟨oL, es, ep, st _ _ hL, hLd, hLk, hLf⟩, fun b o e => st _ _ (F.keep b o e), F.above⟩ (fun p hp => ?_) fun p hp q hq e => ?_
  · rcases List.mem_append.mp hp with hp | hp
    · refine ⟨(hown p hp).1, fun e => ?_, ?_⟩
      · have := (hown p hp).2; rw [e, hL] at this; cases this
      · cases q : h₀.get? p.1 with
        | none => rfl
        | some o => have := (hown p hp).2; rw [F.keep _ _ q] at this; cases this
    · exact ⟨st _ _ (N p hp).1, (N p hp).2⟩
  · have h1 := (hown p hp).2
    rw [← e, (N q hq).1] at h1; cases h1

theorem enterS {prog : Program} {d u : Nat} {R : Result → Shared → Prop} {name qual : Str} {params : Arguments} {body : List Stmt} {scope : Scope} {dV kV doc pm cdv ct oc : Value} {an od : Option Addr} {osl : Array (Option Value)} {f : Addr} {cargs : Args} {binds : List (Str × Value)}
    (G : Gr w base g outer mean mg mb s args)
    (ho : (hd.heap_39 w.params).lookup f = some ⟨oc, od, .func (fnOf name qual params body scope dV kV doc pm an cdv ct), osl⟩) (hcd : codeIn (hd.heap_39 w.params) cdv qual = true) (hroom : d < recursionLimit)
    (hbind : BindsTo s (fnOf name qual params body scope dV kV doc pm an cdv ct) cargs binds) (hloc : ∀ y ∈ binds, scope.names.lookup y.1 = some .local)
    (h : ∀ L' h₁, Fr g L' h₁ (fun y => binds.reverse.lookup y) → News g L' h₁ args → Below (At outer d u) base outer g → (hd.heap_39 w.params).In g → Top hd.view_39 lo3 mean mg mb g →
      wpAny (model prog w) ((At outer d u).deeper (envOf qual scope L' f cdv)) (execs body (envOf qual scope L' f cdv))
        (fun fl s' => R (.ok (.ret (match fl with | .ret v => v | _ => .none))) s')
        (fun e s' => wpAny (model prog w) ((At outer d u).deeper (envOf qual scope L' f cdv)) (leaving (envOf qual scope L' f cdv) e) (fun _ s'' => R (.error e) s'') (fun e' s'' => R (.error e') s'') s')
        { s with heap := h₁, toks := s.toks + binds.length })
    (hco : scope.isCoroutine = false) (hgen : scope.isGenerator = false) (hk : scope.kind = .function)
    (hcell : ∀ x ∈ scope.names, x.2 ≠ .cell) : codeAny (model prog w) (At outer d u) (.call (.ref f) cargs) R s := by
  refine codeAny_call_def (fd := fnOf name qual params body scope dV kV doc pm an cdv ct) (body := body) (binds := binds) hroom (G.st _ _ (G.X _ _ ho)) rfl (G.T.nolimit.keeps G.st) (codeRec_of (Frag.In.keeps G.X G.st) hcd) rfl hbind hcell hloc (fun h₁ hns hk₁ => ?_) hco hgen hk
  exact h s.heap.objs.size h₁ ⟨hns, fun b o e => hk₁ b o (G.st b o e), G.sz⟩ (G.news hk₁) ⟨rfl, G.B.stays, G.B.frames⟩ G.X G.T
end
theorem off1 {D a : Addr} {o o' : Obj} (h : @Ne Nat D a) : ∀ p ∈ [((D, o) : Addr × Obj)], p.1 ∉ [((a, o') : Addr × Obj)].map (·.1) := by
  intro p hp q
  rw [List.mem_singleton.mp hp] at q
  exact h (List.mem_singleton.mp q)
end Mine
end

section
namespace Mine
open PySem PySem.Sre
abbrev reCode : Array Nat := #[14, 4, 0, 0, 0, 6, 1, 5, 5, 0, 6, 6, 1, 1]

def iterM : Nat → M → M
  | 0, m => m
  | n + 1, m => iterM n m.step
theorem step_done {m : M} (h : m.outcome.isSome = true) : m.step = m := by unfold M.step; rw [if_pos h]
theorem iterM_done : ∀ (n : Nat) {m : M}, m.outcome.isSome = true → iterM n m = m
  | 0, _, _ => rfl
  | n + 1, m, h => by rw [iterM, step_done h]; exact iterM_done n h
theorem iterM_add : ∀ (a b : Nat) (m : M), iterM (a + b) m = iterM b (iterM a m)
  | 0, b, m => by rw [Nat.zero_add]; rfl
  | a + 1, b, m => by rw [Nat.succ_add]; exact iterM_add a b m.step
theorem runFor_eq : ∀ (n : Nat) (m : M), M.runFor n m = iterM n m
  | 0, _ => rfl
  | n + 1, m => by
    unfold M.runFor
    by_cases h : m.outcome.isSome = true
    · rw [if_pos h, iterM_done _ h]
    · rw [if_neg h]; exact runFor_eq n m.step

def cfg (text : Array Nat) (lim s : Nat) (first must : Bool) (seen : Seen) : M :=
  { code := reCode, text, lim, start := s, lastStart := lim, mustAdvance := must, pc := 5, pos := s, handed := s, outermost := first, marks := #[],
    frames := [{ wait := .nextStart, pc := 5, pos := s, outermost := first }], weight := 1, seen }

def lineStart (text : Array Nat) (s : Nat) : Bool := s == 0 || text.getD (s - 1) 0 == 10
def lineEnd (text : Array Nat) (lim s : Nat) : Bool := s == lim || text.getD s 0 == 10

section
variable {text : Array Nat} {lim s : Nat} {first must : Bool} {seen : Seen}

/-- the machine stands at a place that matched -/
def IsHit (m : M) (p : Nat) : Prop := m.outcome matches some .matched ∧ m.start = p ∧ m.handed = p


/-- the two ends of a try that fails at s -/
def failAt (text : Array Nat) (lim s : Nat) (first must : Bool) (seen : Seen) (pc pos handed : Nat) (om : Bool) : M :=
  { code := reCode, text, lim, start := s, lastStart := lim, mustAdvance := must, pc, pos, handed, outermost := om, marks := #[],
    frames := [{ wait := .nextStart, pc := 5, pos := s, outermost := first }], weight := 1, seen, answer := some false }
theorem next_fail {pc pos handed : Nat} {om : Bool} (hs : s < lim) : (failAt text lim s first must seen pc pos handed om).step = cfg text lim (s + 1) false false seen := by
  simp [failAt, M.step, M.resume, M.attemptFrom, M.hasFirstSet, M.attemptAt, M.attempt, cfg, hs]
theorem last_fail {pc pos handed : Nat} {om : Bool} (hs : ¬ s < lim) : ((failAt text lim s first must seen pc pos handed om).step.step).outcome = some .failed := by
  simp [failAt, M.step, M.resume, M.say, hs]

theorem run_noStart (h : lineStart text s = false) : (cfg text lim s first must seen).step = failAt text lim s first must ((seen.add 6).add 44) 5 s s first := by
  unfold lineStart at h
  simp at h
  simp [cfg, M.step, M.exec, M.word, M.isAt, ops, M.say, h, failAt]

def cfg1 (text : Array Nat) (lim s : Nat) (first must : Bool) (seen : Seen) : M := { cfg text lim s first must seen with pc := 7 }
theorem run_start (h : lineStart text s = true) : (cfg text lim s first must seen).step = cfg1 text lim s first must ((seen.add 6).add 44) := by
  unfold lineStart at h
  simp at h
  simp [cfg, cfg1, M.step, M.exec, M.word, M.isAt, ops, h]
def cfg2 (text : Array Nat) (lim s : Nat) (first must : Bool) (seen : Seen) : M :=
  { cfg text lim s first must seen with pc := 10, outermost := false, weight := 2, frames := [{ wait := .lookNot, pc := 7, pos := s, outermost := first }, { wait := .nextStart, pc := 5, pos := s, outermost := first }] }
theorem run_assert : (cfg1 text lim s first must seen).step = cfg2 text lim s first must (seen.add 5) := by
  simp [cfg, cfg1, cfg2, M.step, M.exec, M.word, ops, M.attempt, M.frame, M.keep]
theorem run_end (h : lineEnd text lim s = true) : (cfg2 text lim s first must seen).step.step.step = failAt text lim s first must (((seen.add 6).add 49).add 1) 7 s s first := by
  unfold lineEnd at h
  simp at h
  simp [cfg, cfg2, M.step, M.exec, M.word, M.isAt, ops, M.say, h, M.resume, failAt]
def cfg3 (text : Array Nat) (lim s : Nat) (first must : Bool) (seen : Seen) : M := { cfg text lim s first must seen with pc := 13 }
theorem run_noEnd (h : lineEnd text lim s = false) : (cfg2 text lim s first must seen).step.step = cfg3 text lim s first must ((seen.add 6).add 49) := by
  unfold lineEnd at h
  simp at h
  simp [cfg, cfg2, cfg3, M.step, M.exec, M.word, M.isAt, ops, M.say, h, M.resume, M.putBack]
theorem run_must (h : (first && must) = true) : (cfg3 text lim s first must seen).step = failAt text lim s first must (seen.add 1) 13 s s first := by
  have h1 : first = true := by cases first <;> simp_all
  have h2 : must = true := by cases must <;> simp_all
  subst h1 h2
  simp [cfg, cfg3, M.step, M.exec, M.word, ops, M.say, failAt]
theorem run_hit (h : (first && must) = false) : ((cfg3 text lim s first must seen).step.step.step).outcome = some .matched ∧ ((cfg3 text lim s first must seen).step.step.step).start = s ∧ ((cfg3 text lim s first must seen).step.step.step).handed = s := by
  cases first <;> cases must <;> first | exact absurd h (by decide) | simp [cfg, cfg3, M.step, M.exec, M.word, ops, M.say, M.resume]

/-- the next place from s on: (must: not s itself) -/
def hitAt (text : Array Nat) (lim s : Nat) : Bool := lineStart text s && !lineEnd text lim s
def nextHit (text : Array Nat) (lim : Nat) : Nat → Nat → Bool → Option Nat
  | 0, s, must => if hitAt text lim s && !must then some s else none
  | n + 1, s, must => if hitAt text lim s && !must then some s else nextHit text lim n (s + 1) false

/-- what the machine comes to -/
def Ends (m : M) : Option Nat → Prop
  | some p => m.outcome = some .matched ∧ m.start = p ∧ m.handed = p
  | none => m.outcome = some .failed

theorem one_try (hm : must = true → first = true) : (hitAt text lim s && !must) = true ∧ (∃ n, n ≤ 7 ∧ Ends (iterM n (cfg text lim s first must seen)) (some s)) ∨
    (hitAt text lim s && !must) = false ∧ ∃ n seen' pc pos handed om, n ≤ 7 ∧ iterM n (cfg text lim s first must seen) = failAt text lim s first must seen' pc pos handed om := by
  cases h1 : lineStart text s with
  | false => exact .inr ⟨by simp [hitAt, h1], 1, _, _, _, _, _, by omega, (show (cfg text lim s first must seen).step = _ from run_noStart h1)⟩
  | true =>
    cases h2 : lineEnd text lim s with
    | true =>
      exact .inr ⟨by simp [hitAt, h2], 5, _, _, _, _, _, by omega, (show (cfg text lim s first must seen).step.step.step.step.step = _ from (congrArg (fun m : M => m.step.step.step.step) (run_start h1)).trans ((congrArg (fun m : M => m.step.step.step) run_assert).trans (run_end h2)))⟩
    | false =>
      cases h3 : must with
      | true =>
        subst h3
        have hf := hm rfl
        subst hf
        exact .inr ⟨by simp, 5, _, _, _, _, _, by omega, (show (cfg text lim s true true seen).step.step.step.step.step = _ from (congrArg (fun m : M => m.step.step.step.step) (run_start h1)).trans ((congrArg (fun m : M => m.step.step.step) run_assert).trans ((congrArg (fun m : M => m.step) (run_noEnd h2)).trans (run_must rfl))))⟩
      | false =>
        subst h3
        refine .inl ⟨by simp [hitAt, h1, h2], 7, by omega, ?_⟩
        show Ends (cfg text lim s first false seen).step.step.step.step.step.step.step (some s)
        rw [run_start h1, run_assert, run_noEnd h2]
        exact run_hit (by cases first <;> rfl)

theorem search_run (text : Array Nat) (lim : Nat) : ∀ (k s : Nat) (first must : Bool) (seen : Seen), s + k = lim → (must = true → first = true) →
    ∃ n, n ≤ 8 * (k + 2) ∧ Ends (iterM n (cfg text lim s first must seen)) (nextHit text lim k s must)
  | 0, s, first, must, seen, hk, hm => by
    rcases one_try (text := text) (lim := lim) (s := s) (first := first) (must := must) (seen := seen) hm with ⟨h, n, hn, e⟩ | ⟨h, n, seen', pc, pos, handed, om, hn, e⟩
    · refine ⟨n, by omega, ?_⟩
      unfold nextHit; rw [if_pos h]; exact e
    · refine ⟨n + 2, by omega, ?_⟩
      unfold nextHit
      rw [if_neg (by rw [h]; exact Bool.false_ne_true), iterM_add, e]
      exact last_fail (by omega)
  | k + 1, s, first, must, seen, hk, hm => by
    rcases one_try (text := text) (lim := lim) (s := s) (first := first) (must := must) (seen := seen) hm with ⟨h, n, hn, e⟩ | ⟨h, n, seen', pc, pos, handed, om, hn, e⟩
    · refine ⟨n, by omega, ?_⟩
      unfold nextHit; rw [if_pos h]; exact e
    · obtain ⟨n2, hn2, e2⟩ := search_run text lim k (s + 1) false false seen' (by omega) (fun h => by cases h)
      refine ⟨n + (1 + n2), by omega, ?_⟩
      unfold nextHit
      rw [if_neg (by rw [h]; exact Bool.false_ne_true), iterM_add, e, iterM_add]
      show Ends (iterM n2 (failAt text lim s first must seen' pc pos handed om).step) _
      rw [next_fail (by omega)]
      exact e2

theorem forSearch_eq {start : Nat} (h : start ≤ lim) : ∃ seen, forSearch reCode text 0 start lim must = cfg text lim start true must seen := by
  refine ⟨({} : Seen).add 14, ?_⟩
  have hc : ¬ ((decide (start > lim) || decide (lim - start < 0)) = true) := by simp; omega
  show (if (decide (start > lim) || decide (lim - start < 0)) = true then _ else _) = _
  rw [if_neg hc]
  rfl
theorem search_all {start : Nat} (h : start ≤ lim) : ∃ n, n ≤ 8 * (lim + 2) ∧ Ends (iterM n (forSearch reCode text 0 start lim must)) (nextHit text lim (lim - start) start must) := by
  obtain ⟨seen, e⟩ := forSearch_eq (text := text) (must := must) h
  rw [e]
  obtain ⟨n, hn, e2⟩ := search_run text lim (lim - start) start true must seen (by omega) (fun _ => rfl)
  exact ⟨n, by omega, e2⟩
end
end Mine
end

section
namespace Mine
open PySem PySem.Sre
section
variable {text : Array Nat} {rep : List Nat}
/-- the text from d on with rep ahead of each place that matches (must: not at d) -/
def put (rep : List Nat) (text : Array Nat) : Nat → Nat → Bool → List Nat
  | 0, _, _ => []
  | k + 1, d, must => (if hitAt text text.size d && !must then rep else []) ++ text.getD d 0 :: put rep text k (d + 1) false

theorem put_succ {k d : Nat} {must : Bool} : put rep text (k + 1) d must = (if hitAt text text.size d && !must then rep else []) ++ text.getD d 0 :: put rep text k (d + 1) false := rfl
theorem noHit_end : hitAt text text.size text.size = false := by simp [hitAt, lineEnd]

theorem ext_succ {d e : Nat} (h : d < e) (he : e ≤ text.size) : (text.extract d e).toList = text.getD d 0 :: (text.extract (d + 1) e).toList := by
  have hd : d < text.size := by omega
  rw [Array.toList_extract, Array.toList_extract, List.extract_eq_take_drop, List.extract_eq_take_drop]
  have : text.toList.drop d = text.getD d 0 :: text.toList.drop (d + 1) := by
    rw [List.drop_eq_getElem_cons (by simpa using hd)]
    congr 1
    simp [Array.getD, hd]
  rw [this, show e - d = (e - (d + 1)) + 1 by omega, List.take_succ_cons]

theorem next_none : ∀ (k d : Nat) (must : Bool), d + k = text.size → nextHit text text.size k d must = none → put rep text k d must = (text.extract d text.size).toList
  | 0, d, must, hk, _ => by
    have : d = text.size := by omega
    subst this
    simp [put]
  | k + 1, d, must, hk, h => by
    unfold nextHit at h
    cases hc : (hitAt text text.size d && !must) with
    | true => rw [if_pos hc] at h; cases h
    | false =>
      rw [if_neg (by rw [hc]; exact Bool.false_ne_true)] at h
      rw [put_succ, if_neg (by rw [hc]; exact Bool.false_ne_true), next_none k (d + 1) false (by omega) h, List.nil_append, ← ext_succ (by omega) (Nat.le_refl _)]

theorem next_some : ∀ (k d : Nat) (must : Bool) (p : Nat), d + k = text.size → nextHit text text.size k d must = some p →
    d ≤ p ∧ p < text.size ∧ (must = true → d < p) ∧ put rep text k d must = (text.extract d p).toList ++ rep ++ put rep text (text.size - p) p true
  | 0, d, must, p, hk, h => by
    have : d = text.size := by omega
    subst this
    unfold nextHit at h
    rw [if_neg (by rw [noHit_end]; simp)] at h
    cases h
  | k + 1, d, must, p, hk, h => by
    unfold nextHit at h
    cases hc : (hitAt text text.size d && !must) with
    | true =>
      rw [if_pos hc] at h
      cases h
      have hm : must = false := by cases must <;> simp_all
      refine ⟨Nat.le_refl _, by omega, (fun q => by rw [hm] at q; cases q), ?_⟩
      rw [show text.size - d = k + 1 by omega, put_succ, put_succ, if_pos hc, if_neg (by simp)]
      simp
    | false =>
      rw [if_neg (by rw [hc]; exact Bool.false_ne_true)] at h
      obtain ⟨h1, h2, _, h4⟩ := next_some k (d + 1) false p (by omega) h
      refine ⟨by omega, h2, fun _ => by omega, ?_⟩
      rw [ext_succ (d := d) (e := p) (by omega) (by omega)]
      rw [put_succ, if_neg (by rw [hc]; exact Bool.false_ne_true), List.nil_append, h4]
      simp

/-- the same, sign by sign -/
def ins (rep : List Nat) : Bool → List Nat → List Nat
  | _, [] => []
  | st, c :: r => (if st && c != 10 then rep else []) ++ c :: ins rep (c == 10) r
theorem put_ins : ∀ (k d : Nat), d + k = text.size → put rep text k d false = ins rep (lineStart text d) (text.toList.drop d)
  | 0, d, hk => by
    rw [List.drop_of_length_le (by simp; omega)]
    rfl
  | k + 1, d, hk => by
    have hd : d < text.size := by omega
    have e : text.toList.drop d = text.getD d 0 :: text.toList.drop (d + 1) := by
      rw [List.drop_eq_getElem_cons (by simpa using hd)]
      congr 1
      simp [Array.getD, hd]
    rw [put_succ, e, put_ins k (d + 1) (by omega)]
    have hs : lineStart text (d + 1) = (text.getD d 0 == 10) := by simp [lineStart]
    have hh : (hitAt text text.size d && !false) = (lineStart text d && text.getD d 0 != 10) := by
      simp only [hitAt, lineEnd, Bool.not_false, Bool.and_true]
      have : (d == text.size) = false := by simp; omega
      rw [this, Bool.false_or]
      rfl
    rw [hh, hs]
    rfl
theorem put_all : put rep text text.size 0 false = ins rep true text.toList := by
  have := put_ins (rep := rep) (text := text) text.size 0 (by omega)
  rw [this]
  simp [lineStart]
/-- a row set in -/
def indL (rep : List Nat) (row : List Nat) : List Nat := if row = [] then [] else rep ++ row
theorem ins_plain : ∀ (row rest : List Nat), 10 ∉ row → ins rep false (row ++ rest) = row ++ ins rep false rest
  | [], _, _ => rfl
  | c :: r, rest, h => by
    have hc : (c == 10) = false := by simp; rintro rfl; exact h (.head _)
    show [] ++ c :: ins rep (c == 10) (r ++ rest) = _
    rw [hc, ins_plain r rest fun q => h (.tail _ q)]
    rfl
theorem ins_row (row rest : List Nat) (h : 10 ∉ row) : ins rep true (row ++ 10 :: rest) = indL rep row ++ 10 :: ins rep true rest := by
  cases row with
  | nil => simp [ins, indL]
  | cons c r =>
    have hc : (c == 10) = false := by simp; rintro rfl; exact h (.head _)
    have hn : (c != 10) = true := by simp [bne, hc]
    show (if (true && c != 10) = true then rep else []) ++ c :: ins rep (c == 10) (r ++ 10 :: rest) = _
    rw [hc, ins_plain r _ fun q => h (.tail _ q), hn]
    simp [ins, indL]
theorem ins_last (row : List Nat) (h : 10 ∉ row) : ins rep true row = indL rep row := by
  cases row with
  | nil => rfl
  | cons c r =>
    have hc : (c == 10) = false := by simp; rintro rfl; exact h (.head _)
    have hn : (c != 10) = true := by simp [bne, hc]
    have := ins_plain (rep := rep) r [] fun q => h (.tail _ q)
    simp only [List.append_nil] at this
    show (if (true && c != 10) = true then rep else []) ++ c :: ins rep (c == 10) r = _
    rw [hc, this, hn]
    simp [ins, indL]
/-- rows glued by the line's end -/
def glue10 : List (List Nat) → List Nat
  | [] => []
  | [x] => x
  | x :: y :: r => x ++ 10 :: glue10 (y :: r)
theorem ins_glue : ∀ rows : List (List Nat), (∀ x ∈ rows, 10 ∉ x) → ins rep true (glue10 rows) = glue10 (rows.map (indL rep))
  | [], _ => rfl
  | [x], h => ins_last x (h x (.head _))
  | x :: y :: r, h => by
    show ins rep true (x ++ 10 :: glue10 (y :: r)) = indL rep x ++ 10 :: glue10 ((y :: r).map (indL rep))
    rw [ins_row x _ (h x (.head _)), ins_glue (y :: r) fun z hz => h z (.tail _ hz)]
end
end Mine
end

section
open PySem PySem.W PyProof.Rows PySem.Calls PySem.Builtin PySem.Builtin.Re PySem.Sre
set_option Elab.async false
namespace Mine
section
variable {M : Model} {A : Around} {E : Value → Shared → Prop} {s : Shared}

theorem wp_drive {Q : Sre.M → Shared → Prop} : ∀ (N turns : Nat) (m : Sre.M), (iterM (4 * N) m).outcome.isSome = true → N ≤ turns → 1 ≤ turns → Q (iterM (4 * N) m) s → wpAny M A (reDrive turns m) Q E s
  | N, 0, m, _, _, h1, _ => absurd h1 (by omega)
  | N, t + 1, m, h, hN, _, hQ => by
    show wpAny M A (let m := m.runFor reTurnSteps; if m.outcome.isSome then pure m else do rule "sre.turn"; reDrive t m) Q E s
    rw [show m.runFor reTurnSteps = iterM 4 m from runFor_eq 4 m]
    by_cases q : (iterM 4 m).outcome.isSome = true
    · dsimp only
      rw [if_pos q]
      refine wpAny_pure ?_
      have e : iterM (4 * N) m = iterM 4 m := by
        cases N with
        | zero =>
          have : m.outcome.isSome = true := h
          show m = _
          rw [iterM_done 4 this]
        | succ N =>
          rw [show 4 * (N + 1) = 4 + 4 * N by omega, iterM_add]
          exact iterM_done _ q
      rw [← e]; exact hQ
    · dsimp only
      rw [if_neg q]
      refine wpAny_bind (wpAny_rule ?_)
      cases N with
      | zero =>
        have : m.outcome.isSome = true := h
        rw [iterM_done 4 this] at q
        exact absurd this q
      | succ N =>
        rw [show 4 * (N + 1) = 4 + 4 * N by omega, iterM_add] at h hQ
        cases N with
        | zero => exact absurd h q
        | succ N => exact wp_drive (N + 1) t _ h (by omega) (by omega) hQ

theorem wp_forIn {α : Type} {b : α → PUnit → Sem (ForInStep PUnit)} {Q : PUnit → Shared → Prop} (hb : ∀ i r (Q : ForInStep PUnit → Shared → Prop) s, Q (.yield ⟨⟩) s → wpAny M A (b i r) Q E s) :
    ∀ l : List α, Q ⟨⟩ s → wpAny M A (forIn l PUnit.unit b) Q E s
  | [], h => wpAny_pure h
  | a :: l, h => by
    rw [List.forIn_cons]
    exact wpAny_bind (hb _ _ _ _ (wp_forIn hb l h))

theorem wp_runToEnd {Q : Option Sre.M → Shared → Prop} {N : Nat} {m : Sre.M} {r : Option Nat} (hN : N ≤ 2 ^ 40) (h : Ends (iterM N m) r)
    (hQ : ∀ o, (match r with | some p => ∃ m', o = some m' ∧ m'.start = p ∧ m'.handed = p | none => o = none) → Q o s) : wpAny M A (reRunToEnd m) Q E s := by
  have ho : (iterM N m).outcome.isSome = true := by cases r <;> first | (rw [h.1]; rfl) | (rw [show (iterM N m).outcome = _ from h]; rfl)
  have e : iterM (4 * N) m = iterM N m := by rw [show 4 * N = N + 3 * N by omega, iterM_add]; exact iterM_done _ ho
  unfold reRunToEnd
  refine wpAny_bind (wp_drive N _ m (by rw [e]; exact ho) (by omega) (by omega) ?_)
  rw [e]
  refine wpAny_bind (wp_forIn (fun i r Q s hq => ?_) _ ?_)
  · split
    · exact wpAny_bind (wpAny_rule (wpAny_pure hq))
    · exact wpAny_pure hq
  · cases r with
    | some p =>
      rw [h.1]
      exact wpAny_pure (hQ _ ⟨_, rfl, h.2⟩)
    | none =>
      rw [show (iterM N m).outcome = _ from h]
      exact wpAny_pure (hQ _ rfl)
end

theorem plainAttrs_rePattern : PlainAttrs "re.Pattern" :=
  ⟨⟨"object.__getattribute__", by rw [typeLookup_type, builtinLookup_eq_fast]; kernel_rfl, by decide +kernel⟩, by rw [typeLookup_type, builtinLookup_eq_fast]; kernel_rfl⟩
theorem slot_reSub : Slot "re.Pattern" "sub" "re.Pattern.sub" :=
  .of (owner := "re.Pattern") (n := "sub") (by rw [typeLookup_type, builtinLookup_eq_fast]; kernel_rfl) (by decide +kernel) (by decide +kernel) (by decide +kernel)
    (by first | exact .inl (by decide +kernel) | exact .inr (by decide +kernel)) (by rw [isSubtype_type]; kernel_rfl)
theorem type_reSub : typeOf (.builtin "re.Pattern.sub") = pure (.type "method_descriptor") := by show builtinType _ = _; rw [builtinType_eq_fast]; kernel_rfl
theorem entry_reSub : entryFor table "re.Pattern.sub" = some Builtin.«re.Pattern.sub» := entryFor_of_tree (by kernel_rfl)
theorem entry_reSubLoop : entryFor table "re.Pattern.sub.loop" = some Builtin.«re.Pattern.sub.loop» := entryFor_of_tree (by kernel_rfl)
theorem plain_reSubLoop : plainId "re.Pattern.sub.loop" = true := by decide +kernel
theorem owner_rePattern : Manifest.owners.lookup (String.ofList ['n', 'r', 'e', 't', 't', 'a', 'P', '.', 'e', 'r'].reverse) = some Manifest.sig_re_Pattern := by kernel_rfl
theorem args_reSub (a b c : Value) : argsOk "re.Pattern.sub" ⟨[a, b, c], []⟩ := by
  unfold argsOk; rw [signature?_of (id := "re.Pattern.sub") (n := ['b', 'u', 's']) (o := ['n', 'r', 'e', 't', 't', 'a', 'P', '.', 'e', 'r']) (by kernel_rfl) owner_rePattern]; kernel_rfl

abbrev patObj : Obj := { cls := .type "re.Pattern", data := .fields #[.str (Str.ofString "(?m)^(?!$)") 285, .int 40 302, .int 0 0, .none, .none, .ref 35, .int 0 0] }
abbrev codeObj : Obj := { cls := .type "tuple", data := .seq #[.int 14 0, .int 4 0, .int 0 0, .int 0 0, .int 0 0, .int 6 0, .int 1 0, .int 5 0, .int 5 0, .int 0 0, .int 6 0, .int 6 0, .int 1 0, .int 1 0] }
example (P : Params) : (hd.heap_39 P).lookup 36 = some patObj := by rfl
example (P : Params) : (hd.heap_39 P).lookup 35 = some codeObj := by rfl

section
variable {prog : Program} {w : World} {A : Around} {E : Value → Shared → Prop} {s : Shared} {x : Str} {t : Tok}

theorem wp_whole {M : Model} {Q : ReTarget → Shared → Prop} (hP : s.heap.get? 36 = some patObj) (hC : s.heap.get? 35 = some codeObj)
    (h : Q { pattern := .ref 36, string := .str x t, code := reCode, text := x.cps, kind := 0, groups := 0, pos := 0, lim := x.cps.size } s) : wpAny M A (reWholeTarget (.ref 36) (.str x t)) Q E s := by
  unfold reWholeTarget
  refine wpAny_bind (wpAny_fieldsOf hP rfl ?_)
  refine wpAny_bind (Q := _) (m := reTextOf (.str x t)) (wpAny_pure ?_)
  dsimp only
  refine wpAny_bind (m := reNoCollectionInside (.str x t) 0) (wpAny_pure ?_)
  refine wpAny_bind (m := reRawItems (.ref 35)) ?_
  unfold reRawItems
  refine wpAny_bind (wpAny_seqItems hC rfl (wpAny_pure ?_))
  refine wpAny_pure ?_
  rw [show Array.map (fun x : Int => x.toNat) (Array.map reRawOf ((some #[Value.int 14 0, Value.int 4 0, Value.int 0 0, Value.int 0 0, Value.int 0 0, Value.int 6 0, Value.int 1 0, Value.int 5 0, Value.int 5 0, Value.int 0 0, Value.int 6 0, Value.int 6 0, Value.int 1 0, Value.int 1 0]).getD #[])) = reCode from by decide +kernel]
  exact h

/-- the pieces' text -/
def cat (ps : List (Str × Tok)) : List Nat := ps.flatMap fun p => p.1.cps.toList

theorem next_found {M : Model} {d : Nat} {must : Bool} {Q : Option Sre.M → Shared → Prop} (hd : d ≤ x.cps.size) (hs : x.cps.size ≤ 100000)
    (hQ : ∀ o, (match nextHit x.cps x.cps.size (x.cps.size - d) d must with | some p => ∃ m', o = some m' ∧ m'.start = p ∧ m'.handed = p | none => o = none) → Q o s) :
    wpAny M A (reNextFound { pattern := .ref 36, string := .str x t, code := reCode, text := x.cps, kind := 0, groups := 0, pos := 0, lim := x.cps.size } d must) Q E s := by
  obtain ⟨n, hn, e⟩ := search_all (text := x.cps) (lim := x.cps.size) (must := must) hd
  exact wp_runToEnd (by omega) e hQ

theorem cat_append (ps qs : List (Str × Tok)) : cat (ps ++ qs) = cat ps ++ cat qs := by simp [cat]
theorem values_push (ps : List (Str × Tok)) (y : Str) (u : Tok) : (strValues ps).toArray.push (.str y u) = (strValues (ps ++ [(y, u)])).toArray := by simp [strValues]

theorem isList_update {h : Heap} {l : Addr} {its : Array Value} {f : Array Value → Array Value} (hl : h.IsList l its) : (h.update l (Obj.mapSeq f)).IsList l (f its) := by
  obtain ⟨⟨c, d, dt, sl⟩, ho, hc, n, hd⟩ := hl
  simp only at hc hd
  subst hd
  exact ⟨_, Heap.get?_update_self _ ho rfl, hc, _, rfl⟩

/-- one more piece -/
theorem wp_push {M : Model} {l : Addr} {ps : List (Str × Tok)} {y : Str} {u : Tok} {Q : Unit → Shared → Prop} (hl : s.heap.IsList l (strValues ps).toArray) (hz : ps.length < 1000000)
    (h : ∀ h', Heap.SameBut l s.heap h' → h'.IsList l (strValues (ps ++ [(y, u)])).toArray → Q () { s with heap := h' }) : wpAny M A (updateSeq l (·.push (.str y u))) Q E s := by
  have hsz : (strValues ps).toArray.size ≤ sizeLine := by rw [sizeLine_eq]; simp [strValues]; omega
  have hsz' : ((strValues ps).toArray.push (.str y u)).size ≤ sizeLine + 1 := by rw [Array.size_push]; omega
  have hl2 := isList_update (f := (·.push (Value.str y u))) hl
  rw [values_push] at hl2
  obtain ⟨o, ho, hc, n, hd⟩ := hl
  exact wpAny_updateSeq ho hd (h _ (Heap.SameBut.update ..) hl2) hsz hsz'

theorem wp_slice {M : Model} {d e : Nat} {Q : Value → Shared → Prop} (hx : x.cps.size ≤ 100000) (h : Q (.str ⟨x.cps.extract d e⟩ s.toks) { s with toks := s.toks + 1 }) : wpAny M A (reSlice x.cps 0 d e) Q E s := by
  unfold reSlice
  refine wpAny_mkStr h ?_
  rw [sizeLine_eq]
  show (x.cps.extract d e).size ≤ _
  rw [Array.size_extract]
  omega

def SubEnd (s : Shared) (l : Addr) (cps : List Nat) (r : Result) (s' : Shared) : Prop :=
  ∃ t' h' k', r = .ok (.ret (.str ⟨cps.toArray⟩ t')) ∧ s' = { s with heap := h', toks := k' } ∧ Heap.SameBut l s.heap h'

theorem join_cat (ps : List (Str × Tok)) : (Txt.join ⟨#[]⟩ (ps.map (·.1))).cps.toList = cat ps := by
  show (Builtin.Str.glued ⟨#[]⟩ (ps.map (·.1))).cps.toList = cat ps
  have key : ∀ (r : List (Str × Tok)) (acc : Array Nat), ((r.map (·.1)).foldl (fun (acc : Array Nat) (p : Str) => acc ++ (#[] : Array Nat) ++ p.cps) acc).toList = acc.toList ++ cat r := by
    intro r
    induction r with
    | nil => intro acc; simp [cat]
    | cons q r ih => intro acc; rw [List.map_cons, List.foldl_cons, ih]; simp [cat]
  cases ps with
  | nil => rfl
  | cons q r =>
    unfold Builtin.Str.glued
    simp only [List.map_cons, List.drop_succ_cons, List.drop_zero, List.headD_cons]
    rw [key]
    simp [cat]

theorem joinOk_cat (ps : List (Str × Tok)) (h : (cat ps).length ≤ 1000000) : JoinOk ⟨#[]⟩ (ps.map (·.1)) = true := by
  unfold JoinOk
  rw [Bool.not_eq_true']
  rw [StrLaws.joinTotal]
  have e : ((ps.map (·.1)).map (·.length)).sum = (cat ps).length := by
    induction ps with
    | nil => rfl
    | cons q r ih =>
      have hl : (cat (q :: r)).length = q.1.length + (cat r).length := by simp [cat, Str.length]
      rw [List.map_cons, List.map_cons, List.sum_cons, hl, ih (by omega)]
  rw [e]
  have e2 : ((cat ps).length + (ps.map (·.1)).length * (⟨#[]⟩ : Str).length) = (cat ps).length := by simp [Str.length]
  rw [e2]
  unfold Builtin.Str.tooLong
  rw [sizeLine_eq]
  exact decide_eq_false (by omega)

theorem SubEnd.on {s : Shared} {l : Addr} {c c' : List Nat} {h' : Heap} {k' : Nat} {r : Result} {s' : Shared} (hs : Heap.SameBut l s.heap h') (e : c' = c) (h : SubEnd { s with heap := h', toks := k' } l c' r s') : SubEnd s l c r s' := by
  obtain ⟨t', h2, k2, rfl, rfl, sb⟩ := h
  subst e
  exact ⟨t', h2, k2, rfl, rfl, hs.trans sb⟩
theorem ext_list (d e : Nat) (u : Tok) : cat [((⟨x.cps.extract d e⟩ : Str), u)] = (x.cps.extract d e).toList := by simp [cat]

theorem sub_fin {l : Addr} {qs : List (Str × Tok)} {cnt : Int} {R : Fin → Shared → Prop} {b : String} (hb' : b = "str.join") (hx : x.cps.size ≤ 100000) (hl : s.heap.IsList l (strValues qs).toArray) (hb : (cat qs).length ≤ 1000000)
    (h : ∀ t' k, R (.done (.ret (.str ⟨(cat qs).toArray⟩ t'))) { s with toks := k }) :
    wpAny (model prog w) A (do
      let joiner ← reSlice x.cps 0 0 0
      let __do_lift ← seqItems? (Value.ref l)
      if (__do_lift.getD #[]).isEmpty = true then do
          let text ← pure joiner
          if false = true then do
              let __do_lift ←
                holding [text] do
                    let __do_lift ← mkInt cnt
                    newTuple [text, __do_lift]
              ret __do_lift
            else ret text
        else do
          let text ← call (Value.builtin b) [joiner, Value.ref l]
          if false = true then do
              let __do_lift ←
                holding [text] do
                    let __do_lift ← mkInt cnt
                    newTuple [text, __do_lift]
              ret __do_lift
            else ret text) R E s := by
  subst hb'
  refine wpAny_bind (wp_slice hx ?_)
  have hls := hl
  obtain ⟨o, ho, hc, n, hd⟩ := hl
  refine wpAny_bind (wpAny_seqItems ho hd ?_)
  have ej : (⟨x.cps.extract 0 0⟩ : Str) = ⟨#[]⟩ := by congr 1; simp
  rw [ej]
  cases hq : ((some (strValues qs).toArray).getD #[]).isEmpty with
  | true =>
    rw [if_pos (by rfl)]
    refine wpAny_bind (wpAny_pure ?_)
    rw [if_neg (by simp)]
    have e : qs = [] := by
      cases qs with
      | nil => rfl
      | cons a r => simp [strValues] at hq
    subst e
    exact wpAny_pure (h _ _)
  | false =>
    rw [if_neg (by simp)]
    refine wpAny_bind (SC.join (D := l) (l := qs) hls rfl (joinOk_cat qs hb) fun t' k => ?_)
    rw [if_neg (by simp)]
    have e : Txt.join ⟨#[]⟩ (qs.map (·.1)) = ⟨(cat qs).toArray⟩ := by
      have := join_cat qs
      rw [← this]
    rw [e]
    exact wpAny_pure (h _ _)

theorem sub_loop {l : Addr} {rep : Str} {u : Tok} (hl36 : l ≠ 36) (hl35 : l ≠ 35) (hx : x.cps.size ≤ 100000) : ∀ (n : Nat) (ps : List (Str × Tok)) (d : Nat) (must : Bool) (cnt : Int) (s : Shared),
    2 * (x.cps.size - d) + (if must then 0 else 1) < n → d ≤ x.cps.size → s.heap.get? 36 = some patObj → s.heap.get? 35 = some codeObj → s.heap.IsList l (strValues ps).toArray →
    (cat ps ++ put rep.cps.toList x.cps (x.cps.size - d) d must).length ≤ 1000000 → ps.length + 2 * n < 900000 →
    codeAny (model prog w) A (.builtin "re.Pattern.sub.loop" ⟨[.ref 36, .str x t, .str rep u, .int 0 0, .int 0 0, .int cnt 0, .int (d : Int) 0, .int (d : Int) 0, .bool must, .ref l, .bool false], []⟩)
      (SubEnd s l (cat ps ++ put rep.cps.toList x.cps (x.cps.size - d) d must)) s := by
  intro n
  induction n with
  | zero =>
    intro ps d must cnt s hn
    exact absurd hn (Nat.not_lt_zero _)
  | succ n ih =>
    intro ps d must cnt s hn hd hP hC hl hb hz
    refine codeAny_builtin entry_reSubLoop ?_
    rw [Around.under_plainId plain_reSubLoop]
    unfold Builtin.«re.Pattern.sub.loop»
    dsimp only
    refine wpAny_bind (wp_whole hP hC ?_)
    rw [if_pos (by rfl)]
    refine wpAny_bind (m := reLiteralCannotBeTurned (.str rep u)) (wpAny_pure ?_)
    rw [if_neg (by simp)]
    simp only [Int.toNat_natCast]
    refine wpAny_bind (next_found hd hx fun o ho => ?_)
    cases hn' : nextHit x.cps x.cps.size (x.cps.size - d) d must with
    | some p =>
      rw [hn'] at ho
      obtain ⟨m', rfl, hs, hh⟩ := ho
      obtain ⟨h1, h2, h3, h4⟩ := next_some (rep := rep.cps.toList) _ _ _ _ (by omega) hn'
      dsimp only
      rw [hs, hh]
      have hmeas : 2 * (x.cps.size - p) + (if true = true then 0 else 1) < n := by
        cases must with
        | true => have := h3 rfl; simp only [if_true] at hn ⊢; omega
        | false => simp only [if_true, Bool.false_eq_true, if_false] at hn ⊢; omega
      by_cases q : d < p
      · rw [if_pos q]
        refine wpAny_bind (wp_slice hx ?_)
        refine wpAny_bind (wp_push hl (by omega) fun ha sba hla => ?_)
        rw [if_pos (by rfl)]
        refine wpAny_bind (wpAny_pure ?_)
        rw [if_pos (by rfl)]
        refine wpAny_bind (wp_push hla (by simp; omega) fun hb' sbb hlb => ?_)
        have e : cat (ps ++ [((⟨x.cps.extract d p⟩ : Str), s.toks)] ++ [(rep, u)]) ++ put rep.cps.toList x.cps (x.cps.size - p) p true = cat ps ++ put rep.cps.toList x.cps (x.cps.size - d) d must := by
          rw [h4, cat_append, cat_append, ext_list]; simp [cat]
        refine wpAny_pure ⟨plainId_quiet plain_reSubLoop _, ?_⟩
        rw [beq_self_eq_true]
        refine codeAny_mono (ih _ p true (cnt + 1) _ hmeas (by omega) ?_ ?_ hlb (by rw [e]; exact hb) (by simp; omega)) fun r s' z => SubEnd.on (sba.trans sbb) e z
        · exact (sbb.2 _ hl36.symm).trans ((sba.2 _ hl36.symm).trans hP)
        · exact (sbb.2 _ hl35.symm).trans ((sba.2 _ hl35.symm).trans hC)
      · rw [if_neg q]
        rw [if_pos (by rfl)]
        refine wpAny_bind (wpAny_pure ?_)
        rw [if_pos (by rfl)]
        refine wpAny_bind (wp_push hl (by omega) fun hb' sbb hlb => ?_)
        have e : cat (ps ++ [(rep, u)]) ++ put rep.cps.toList x.cps (x.cps.size - p) p true = cat ps ++ put rep.cps.toList x.cps (x.cps.size - d) d must := by
          rw [h4, cat_append]
          have : d = p := by omega
          subst this
          simp [cat]
        refine wpAny_pure ⟨plainId_quiet plain_reSubLoop _, ?_⟩
        rw [beq_self_eq_true]
        refine codeAny_mono (ih _ p true (cnt + 1) _ hmeas (by omega) ?_ ?_ hlb (by rw [e]; exact hb) (by simp; omega)) fun r s' z => SubEnd.on sbb e z
        · exact (sbb.2 _ hl36.symm).trans hP
        · exact (sbb.2 _ hl35.symm).trans hC
    | none =>
      rw [hn'] at ho
      subst ho
      have h4 := next_none (rep := rep.cps.toList) _ _ _ (by omega) hn'
      dsimp only
      by_cases q : d < x.cps.size
      · rw [if_pos q]
        refine wpAny_bind (wp_slice hx ?_)
        refine wpAny_bind (wp_push hl (by omega) fun ha sba hla => ?_)
        have e : cat (ps ++ [((⟨x.cps.extract d x.cps.size⟩ : Str), s.toks)]) = cat ps ++ put rep.cps.toList x.cps (x.cps.size - d) d must := by
          rw [h4, cat_append, ext_list]
        refine sub_fin (qs := ps ++ [((⟨x.cps.extract d x.cps.size⟩ : Str), s.toks)]) rfl hx hla (by rw [e]; exact hb) fun t' k => ?_
        rw [e]
        exact ⟨t', _, k, rfl, rfl, sba⟩
      · rw [if_neg q]
        have e : cat ps = cat ps ++ put rep.cps.toList x.cps (x.cps.size - d) d must := by
          rw [h4]
          have : d = x.cps.size := by omega
          subst this
          simp
        refine sub_fin (qs := ps) rfl hx hl (by rw [e]; exact hb) fun t' k => ?_
        rw [← e]
        exact ⟨t', _, k, rfl, rfl, Heap.SameBut.refl _ _⟩
end
end Mine
end

section
open PySem PySem.W PyProof.Rows PySem.Calls PySem.Builtin PySem.Builtin.Re PySem.Sre
set_option Elab.async false
namespace Mine
theorem fr_stays {h₀ h h' : Heap} {L : Addr} {m : Str → Option Value} (F : Fr h₀ L h m) (st : h.StaysIn h') : Fr h₀ L h' m := by
  obtain ⟨oL, es, ep, hL, r⟩ := F.ns
  exact ⟨⟨oL, es, ep, st _ _ hL, r⟩, fun b o e => st _ _ (F.keep b o e), F.above⟩
theorem news_stays {h₀ h h' : Heap} {L : Addr} {news : List (Addr × Obj)} (N : News h₀ L h news) (st : h.StaysIn h') : News h₀ L h' news :=
  fun p hp => ⟨st _ _ (N p hp).1, (N p hp).2⟩
theorem nocall_str : typeLookup (.type "str") "__call__" = pure none := by rw [typeLookup_type, builtinLookup_eq_fast]; kernel_rfl

section
variable {prog : Program} {w : World} {A : Around} {E : Value → Shared → Prop} {s : Shared} {x rep : Str} {t u : Tok}
theorem named_sub (a b : Value) : reNamed "re.Pattern.sub" "sub" ["repl", "string", "count"] 2 [a, b] [] = pure [some a, some b, none] := by rfl

theorem sub_call {h₀ : Heap} {L : Addr} {m : Str → Option Value} {news : List (Addr × Obj)} {Q : Value → Shared → Prop} (F : Fr h₀ L s.heap m) (N : News h₀ L s.heap news) (X : (hd.heap_39 w.params).In h₀)
    (hrep : rep.cps.contains 92 = false) (hx : x.cps.size ≤ 100000) (hb : (ins rep.cps.toList true x.cps.toList).length ≤ 1000000)
    (h : ∀ t' h' k', Fr h₀ L h' m → News h₀ L h' news → Q (.str ⟨(ins rep.cps.toList true x.cps.toList).toArray⟩ t') { s with heap := h', toks := k' }) :
    wpAny (model prog w) A (call (.builtin "re.Pattern.sub") [.ref 36, .str rep u, .str x t]) Q E s := by
  have hP : s.heap.get? 36 = some patObj := F.keep _ _ (X _ _ rfl)
  have hC : s.heap.get? 35 = some codeObj := F.keep _ _ (X _ _ rfl)
  refine wpAny_call (codeAny_call_builtin slot_reSub.plain entry_reSub (slot_reSub.check _ _ _ _ _ _ _ _ ⟨patObj, hP, rfl⟩ (args_reSub _ _ _) ?_))
  unfold Builtin.«re.Pattern.sub» reSubstitute
  dsimp only
  rw [named_sub]
  refine wpAny_bind (wpAny_pure ?_)
  dsimp only
  refine wpAny_bind (wpAny_pure ?_)
  refine wpAny_bind (wpAny_specialOf (T := "str") rfl nocall_str ?_)
  rw [if_neg (by simp)]
  refine wpAny_bind (m := asStr? (.str rep u)) (wpAny_pure ?_)
  dsimp only
  refine wpAny_bind (wpAny_pure ?_)
  rw [if_neg (by simp), hrep, if_pos (by rfl)]
  refine wpAny_bind (wpAny_pure ?_)
  refine wpAny_bind (wpAny_holding (wp_whole hP hC ?_))
  dsimp only
  rw [if_neg (by decide)]
  refine wpAny_bind (newList_N F N (fun h1 F1 N1 => ?_) (by simp [sizeLine]))
  have hl := N1 _ (.head _)
  have n36 : s.heap.objs.size ≠ 36 := fun e => by
    have h2 := hl.2.2
    have h3 : h₀.get? 36 = some patObj := X _ _ rfl
    rw [show ((s.heap.objs.size, ({ cls := .type "list", data := .seq ([] : List Value).toArray } : Obj)) : Addr × Obj).1 = s.heap.objs.size from rfl, e, h3] at h2
    cases h2
  have n35 : s.heap.objs.size ≠ 35 := fun e => by
    have h2 := hl.2.2
    have h3 : h₀.get? 35 = some codeObj := X _ _ rfl
    rw [show ((s.heap.objs.size, ({ cls := .type "list", data := .seq ([] : List Value).toArray } : Obj)) : Addr × Obj).1 = s.heap.objs.size from rfl, e, h3] at h2
    cases h2
  refine wpAny_pure ⟨plainId_quiet plain_reSubLoop _, ?_⟩
  have e : cat ([] : List (Str × Tok)) ++ put rep.cps.toList x.cps (x.cps.size - 0) 0 false = ins rep.cps.toList true x.cps.toList := put_all
  refine codeAny_mono (sub_loop (l := s.heap.objs.size) n36 n35 hx (2 * x.cps.size + 2) [] 0 false 0 _ (by simp) (Nat.zero_le _) (F1.keep _ _ (X _ _ rfl)) (F1.keep _ _ (X _ _ rfl)) ⟨_, hl.1, rfl, _, rfl⟩ (by rw [e]; exact hb) (by simp; omega)) ?_
  rintro r s' ⟨t', h2, k2, rfl, rfl, sb⟩
  rw [e]
  refine h t' h2 k2 ?_ ?_
  · obtain ⟨oL, es, ep, hL, r⟩ := F1.ns
    refine ⟨⟨oL, es, ep, (sb.2 _ fun q => hl.2.1 q.symm).trans hL, r⟩, fun b o q => (sb.2 _ fun z => ?_).trans (F1.keep b o q), F1.above⟩
    have := hl.2.2
    rw [z] at q
    rw [show h₀.get? s.heap.objs.size = none from this] at q
    cases q
  · intro p hp
    exact ⟨(sb.2 _ (Nat.ne_of_lt (Heap.lt_size (N p hp).1))).trans (N1 p (.tail _ hp)).1, (N p hp).2⟩

theorem getMethod_sub {M : Model} {h₀ : Heap} {L : Addr} {m : Str → Option Value} {pl : Sem Bool} {Q : Value × List Value → Shared → Prop} (F : Fr h₀ L s.heap m) (X : (hd.heap_39 w.params).In h₀)
    (h : Q (.builtin "re.Pattern.sub", [.ref 36]) s) : wpAny M A (getMethod (.ref 36) (Str.ofString "sub") pl) Q E s := by
  have hP : s.heap.get? 36 = some patObj := F.keep _ _ (X _ _ rfl)
  exact getMethod_builtin ⟨patObj, hP, rfl⟩ plainAttrs_rePattern slot_reSub type_reSub (fun a e => by cases e; exact ⟨patObj, hP, rfl⟩) h
end
end Mine
end

section
open PySem PySem.W PyProof.Rows PySem.Calls PySem.Builtin
set_option Elab.async false
namespace Mine
def spaces (n : Int) : List Nat := List.replicate n.toNat 32
abbrev Sp : Str := Str.ofString " "
theorem sp_len : Sp.length = 1 := by decide +kernel
theorem sp_cps : Sp.cps = #[32] := by decide +kernel
theorem mulOk_sp {n : Int} (h1 : -1000000 ≤ n) (h2 : n ≤ 1000000) : MulOk Sp n := by
  refine ⟨?_, fun h3 _ => ?_, fun _ _ => ?_⟩
  · rw [decide_eq_false (by omega), decide_eq_false (by omega)]; rfl
  · rw [sp_len]
    have : (1 : Int) ≤ (2 ^ 63 - 1) / n := by
      rw [Int.le_ediv_iff_mul_le (by omega)]; omega
    omega
  · rw [sp_len]
    unfold Builtin.Str.tooLong
    rw [sizeLine_eq]
    exact decide_eq_false (by omega)
theorem mul_sp {n : Int} : Txt.mul Sp n = ⟨(spaces n).toArray⟩ := by
  unfold Txt.mul
  by_cases h : n < 1
  · rw [if_pos h]
    have : n.toNat = 0 := by omega
    unfold spaces
    rw [this]; rfl
  · rw [if_neg h]
    by_cases h2 : n = 1
    · subst h2; decide +kernel
    · have h3 : (n == 1 || Sp.length == 0) = false := by rw [sp_len]; simp [h2]
      rw [if_neg (by rw [h3]; exact Bool.false_ne_true), sp_cps]
      congr 1
      apply Array.ext'
      unfold spaces
      have key : ∀ (k : Nat) (acc : Array Nat), ((List.replicate k (#[32] : Array Nat)).foldl (· ++ ·) acc).toList = acc.toList ++ List.replicate k 32 := by
        intro k
        induction k with
        | zero => intro acc; simp
        | succ k ih => intro acc; rw [List.replicate_succ, List.foldl_cons, ih]; simp [List.replicate_succ]
      rw [key]
      simp

section
variable {prog : Program} {w : World} {A : Around} {E : Value → Shared → Prop} {s : Shared} {t u : Tok} {n : Int}
theorem mul_str_sp {Q : Value → Shared → Prop} (h1 : -1000000 ≤ n) (h2 : n ≤ 1000000) (h : ∀ t' k, Q (.str ⟨(spaces n).toArray⟩ t') { s with toks := k }) :
    wpAny (model prog w) A (binaryOp .Mult (.str Sp t) (.int n u)) Q E s := SB.mul (mulOk_sp h1 h2) (by rw [mul_sp]; exact h)
theorem mul_int_sp {Q : Value → Shared → Prop} (h1 : -1000000 ≤ n) (h2 : n ≤ 1000000) (h : ∀ t' k, Q (.str ⟨(spaces n).toArray⟩ t') { s with toks := k }) :
    wpAny (model prog w) A (binaryOp .Mult (.int n u) (.str Sp t)) Q E s := by
  have hok := mulOk_sp h1 h2
  refine lm_binaryOp_repeat_right (T := "str") (U := "int") (by decide) (fun s' => typeIs_int s' n u) (typeIs_str s Sp t) F.fills_int_mul noFill_str_mul F.slot_int_mul lm_noRepeat_int repeat_str F.slot_int_index.lookup
    (call_gives F.slot_int_mul (typeIs_int s n u) F.entry_int_mul (F.args_int_mul_2 _ _) (AutoIntG3.int___mul___int_str_0 n u Sp t)
      ⟨rfl, typeIs_str _ _ _, call_gives F.slot_str_mul (typeIs_str s Sp t) F.entry_str_mul (F.args_str_mul_2 _ _) (gives_str_mul Sp n t u hok.1 hok.2.1 hok.2.2) ?_⟩)
  have h' : ∀ t' k, Q (.str (Txt.mul Sp n) t') { s with toks := k } := by rw [mul_sp]; exact h
  unfold Txt.mul at h'
  by_cases q : n < 1
  · rw [if_pos q]; have z := h' s.toks (s.toks + 1); rw [if_pos q] at z; exact ⟨by decide, z⟩
  · rw [if_neg q]; refine post_val_or_made (fun hc => fits_reps (hok.2.2 q (by simpa using hc))) fun t' k => ?_
    have z := h' t' k; rw [if_neg q] at z; exact z
theorem spaces_no92 : (⟨(spaces n).toArray⟩ : Str).cps.contains 92 = false := by
  unfold spaces
  simp
end
theorem ins_len (rep : List Nat) : ∀ (l : List Nat) (st : Bool), (ins rep st l).length ≤ (rep.length + 1) * l.length
  | [], _ => by simp [ins]
  | c :: r, st => by
    have := ins_len rep r (c == 10)
    have e : ins rep st (c :: r) = (if st && c != 10 then rep else []) ++ c :: ins rep (c == 10) r := rfl
    rw [e, List.length_append, List.length_cons, List.length_cons, Nat.mul_succ]
    split
    · omega
    · simp; omega
theorem spaces_len (n : Int) : (spaces n).length = n.toNat := by simp [spaces]
theorem ins_fits {n : Int} {x : Str} (hx : x.length ≤ 10000) (hn : n ≤ 4) : (ins (⟨(spaces n).toArray⟩ : Str).cps.toList true x.cps.toList).length ≤ 1000000 := by
  have := ins_len (spaces n) x.cps.toList true
  rw [spaces_len] at this
  have h1 : x.cps.toList.length ≤ 10000 := by simpa [Str.length] using hx
  have h2 : (n.toNat + 1) * x.cps.toList.length ≤ 5 * 10000 := Nat.mul_le_mul (by omega) h1
  show (ins (spaces n) true x.cps.toList).length ≤ 1000000
  omega
end Mine
end

open PySem PySem.W PyProof.Rows PySem.Calls
local macro_rules | `(tactic| walk_at $s:str) => `(tactic| (k_extra $s))
local macro_rules | `(tactic| k_room) => `(tactic| first | exact Nat.le_of_ble_eq_true rfl | ((simp only [depth_under_make, depth_under_kw, depth_in1, depth_deeper]); exact Nat.le_of_ble_eq_true rfl))
section
open PySem PySem.W PyProof.Rows PySem.Calls
set_option Elab.async false

namespace Mine

set_option maxRecDepth 100000 in
set_option maxHeartbeats 8000000 in
theorem c_indent {w : World} {base g : Heap} {outer : List Env} {mean : ExcName → Option Value} {mg mb : Str → Option Value} {s : Shared} {x : Str} {wd : Int} {t1 t2 : Tok}
    (hx : x.length ≤ 10000) (hw : -1 ≤ wd) (hw' : wd ≤ 4) (G : Gr w base g outer mean mg mb s []) :
    codeAny (model PySem.Challenge.rw_kl0455_01.row.toRowW.prog w) (At outer 400 5000) (.call (.ref 44) ⟨[.str x t1, .int wd t2], []⟩) (Ret s fun v own => own = [] ∧ ∃ t', v = .str ⟨(ins (spaces wd) true x.cps.toList).toArray⟩ t') s := by
  have XS := Frag.In.keeps G.X G.st
  have X0 := G.X
  revert X0; k_fill; intro X0
  refine' enterS (binds := [(Str.ofString "s", .str x t1), (Str.ofString "indent", .int wd t2)]) G ?k6 ?k7 ?k8 ?k9 ?kB ?_ ?c2 ?c3 ?c4 ?c5; (case k6 => k_is); (case k7 => k_is); (case k8 => exact Nat.le_of_ble_eq_true rfl); (case k9 => first | exact BindsTo.of_eq rfl | exact binds_K (by k_in) rfl (by k_is) rfl rfl rfl | fail "k_enter: no rule for these arguments"); (case c5 => decide); (case kB => exact locs rfl); (case c2 => exact rfl); (case c3 => exact rfl); (case c4 => exact rfl)
  k_whole
  clear XS
  intro L' h' F' N' B' X' T'
  (try dsimp only)
  k_fold
  k_with_none
  k_with "getMethod ref" => (k_here; (with_reducible show wpAny _ _ (getMethod (Value.ref 36) (PySem.Str.ofString "sub") _) _ _ _); k_dflt (refine' getMethod_sub ?hq1_F ?hq1_X ?_; (case hq1_F => k_asm); (case hq1_X => k_asm)))
  k_with "binaryOp Mult int str" => (k_here; refine mul_int_sp (by omega) (by omega) ?_; intro _ _)
  k_with "binaryOp Mult str int" => (k_here; refine mul_str_sp (by omega) (by omega) ?_; intro _ _)
  k_with "call builtin:re.Pattern.sub" => (k_here; k_dflt (refine' sub_call ?hq4_F ?hq4_N ?hq4_X spaces_no92 ?hq4_b ?hq4_c ?_; (case hq4_F => k_asm); (case hq4_N => k_asm); (case hq4_X => k_asm); (case hq4_b => (refine Nat.le_trans (by assumption) (by omega))); (case hq4_c => exact ins_fits (by assumption) (by first | assumption | omega))); intro t9q h9q k9q F9q N9q)
  w_top off
  k_steps
  exact Gr.ret G [] (by assumption) (by assumption) (by simp) (by simp) (by simp) ⟨rfl, _, rfl⟩
set_option maxRecDepth 100000 in
set_option maxHeartbeats 8000000 in
theorem c_indent4 {w : World} {base g : Heap} {outer : List Env} {mean : ExcName → Option Value} {mg mb : Str → Option Value} {s : Shared} {x : Str} {t1 : Tok}
    (hx : x.length ≤ 10000) (G : Gr w base g outer mean mg mb s []) :
    codeAny (model PySem.Challenge.rw_kl0455_01.row.toRowW.prog w) (At outer 400 5000) (.call (.ref 44) ⟨[.str x t1], []⟩) (Ret s fun v own => own = [] ∧ ∃ t', v = .str ⟨(ins (spaces 4) true x.cps.toList).toArray⟩ t') s := by
  have XS := Frag.In.keeps G.X G.st
  have X0 := G.X
  revert X0; k_fill; intro X0
  refine' enterS (binds := [(Str.ofString "s", .str x t1), (Str.ofString "indent", .int 4 304)]) G ?k6 ?k7 ?k8 ?k9 ?kB ?_ ?c2 ?c3 ?c4 ?c5; (case k6 => k_is); (case k7 => k_is); (case k8 => exact Nat.le_of_ble_eq_true rfl); (case k9 => first | exact BindsTo.of_eq rfl | exact binds_K (by k_in) rfl (by k_is) rfl rfl rfl | fail "k_enter: no rule for these arguments"); (case c5 => decide); (case kB => exact locs rfl); (case c2 => exact rfl); (case c3 => exact rfl); (case c4 => exact rfl)
  k_whole
  clear XS
  intro L' h' F' N' B' X' T'
  (try dsimp only)
  k_fold
  k_with_none
  k_with "getMethod ref" => (k_here; (with_reducible show wpAny _ _ (getMethod (Value.ref 36) (PySem.Str.ofString "sub") _) _ _ _); k_dflt (refine' getMethod_sub ?hq5_F ?hq5_X ?_; (case hq5_F => k_asm); (case hq5_X => k_asm)))
  k_with "binaryOp Mult int str" => (k_here; refine mul_int_sp (by omega) (by omega) ?_; intro _ _)
  k_with "binaryOp Mult str int" => (k_here; refine mul_str_sp (by omega) (by omega) ?_; intro _ _)
  k_with "call builtin:re.Pattern.sub" => (k_here; k_dflt (refine' sub_call ?hq8_F ?hq8_N ?hq8_X spaces_no92 ?hq8_b ?hq8_c ?_; (case hq8_F => k_asm); (case hq8_N => k_asm); (case hq8_X => k_asm); (case hq8_b => (refine Nat.le_trans (by assumption) (by omega))); (case hq8_c => exact ins_fits (by assumption) (by first | assumption | omega))); intro t9q h9q k9q F9q N9q)
  w_top off
  k_steps
  exact Gr.ret G [] (by assumption) (by assumption) (by simp) (by simp) (by simp) ⟨rfl, _, rfl⟩
end Mine
end

section
open PySem PySem.W PyProof.Rows PySem.Calls
set_option Elab.async false
namespace Mine
abbrev NL : Str := Str.ofString "\n"
theorem nl_cps : NL.cps = #[10] := by decide +kernel
theorem nl_eq : NL = ⟨#[10]⟩ := by decide +kernel
def cpl (x : Str) : List Nat := x.cps.toList
theorem cpl_inj {x y : Str} (h : cpl x = cpl y) : x = y := by
  obtain ⟨a⟩ := x
  obtain ⟨b⟩ := y
  exact congrArg Str.mk (Array.toList_inj.mp h)

theorem glue_join : ∀ rows : List Str, cpl (Str.join NL rows) = glue10 (rows.map cpl)
  | [] => rfl
  | [x] => rfl
  | x :: y :: r => by
    have ih := glue_join (y :: r)
    show cpl (x ++ NL ++ Str.join NL (y :: r)) = cpl x ++ 10 :: glue10 ((y :: r).map cpl)
    rw [← ih]
    unfold cpl
    rw [Str.cps_append, Str.cps_append, nl_cps]
    simp
theorem txt_join (rows : List Str) : Txt.join NL rows = ⟨(glue10 (rows.map cpl)).toArray⟩ := by
  apply cpl_inj
  show cpl (Builtin.Str.glued NL rows) = _
  rw [StrLaws.glued_eq_join, glue_join]
  rfl

theorem glue_split {a b : List Nat} {r q : List Nat} (ha : 10 ∉ a) (hb : 10 ∉ b) (h : a ++ 10 :: r = b ++ 10 :: q) : a = b ∧ r = q := by
  induction a generalizing b with
  | nil =>
    cases b with
    | nil => exact ⟨rfl, (List.cons.inj h).2⟩
    | cons c b => exact absurd ((List.cons.inj h).1 ▸ List.Mem.head _) hb
  | cons c a ih =>
    cases b with
    | nil => exact absurd ((List.cons.inj h).1.symm ▸ List.Mem.head _) ha
    | cons d b =>
      obtain ⟨h1, h2⟩ := List.cons.inj h
      obtain ⟨h3, h4⟩ := ih (fun z => ha (.tail _ z)) (fun z => hb (.tail _ z)) h2
      exact ⟨by rw [h1, h3], h4⟩
theorem glue_inj : ∀ {a b : List (List Nat)}, a ≠ [] → b ≠ [] → (∀ x ∈ a, 10 ∉ x) → (∀ x ∈ b, 10 ∉ x) → glue10 a = glue10 b → a = b
  | [], _, h, _, _, _, _ => absurd rfl h
  | _ :: _, [], _, h, _, _, _ => absurd rfl h
  | [x], [y], _, _, _, _, h => by rw [show x = y from h]
  | [x], y :: z :: r, _, _, ha, _, h => by
    have : (10 : Nat) ∈ x := by rw [show x = y ++ 10 :: glue10 (z :: r) from h]; simp
    exact absurd this (ha x (.head _))
  | x :: z :: r, [y], _, _, _, hb, h => by
    have : (10 : Nat) ∈ y := by rw [show y = x ++ 10 :: glue10 (z :: r) from h.symm]; simp
    exact absurd this (hb y (.head _))
  | x :: x2 :: r, y :: y2 :: q, _, _, ha, hb, h => by
    obtain ⟨h1, h2⟩ := glue_split (ha x (.head _)) (hb y (.head _)) (show x ++ 10 :: glue10 (x2 :: r) = y ++ 10 :: glue10 (y2 :: q) from h)
    rw [h1, glue_inj (by simp) (by simp) (fun z hz => ha z (.tail _ hz)) (fun z hz => hb z (.tail _ hz)) h2]

theorem map_cpl_inj : ∀ {a b : List Str}, a.map cpl = b.map cpl → a = b
  | [], [], _ => rfl
  | x :: a, y :: b, h => by
    obtain ⟨h1, h2⟩ := List.cons.inj (show cpl x :: a.map cpl = cpl y :: b.map cpl from h)
    rw [cpl_inj h1, map_cpl_inj h2]

theorem split_glue {rows : List Str} (h0 : rows ≠ []) (hf : ∀ x ∈ rows, 10 ∉ cpl x) : Txt.split ⟨(glue10 (rows.map cpl)).toArray⟩ NL = rows := by
  have h1 := StrLaws.join_split ⟨(glue10 (rows.map cpl)).toArray⟩ NL
  have h2 := StrLaws.split_free ⟨(glue10 (rows.map cpl)).toArray⟩ 10
  rw [← nl_eq] at h2
  have h3 := split_pos ⟨(glue10 (rows.map cpl)).toArray⟩ NL
  apply map_cpl_inj
  refine glue_inj ?_ ?_ ?_ ?_ ?_
  · intro q
    have := congrArg List.length q
    simp at this
    rw [this] at h3
    simp at h3
  · intro q; exact h0 (List.map_eq_nil_iff.mp q)
  · intro x hx
    obtain ⟨p, hp, rfl⟩ := List.mem_map.mp hx
    exact h2 p hp
  · intro x hx
    obtain ⟨p, hp, rfl⟩ := List.mem_map.mp hx
    exact hf p hp
  · rw [← glue_join, h1]
    rfl

/-- a row set in -/
def ind (w : Int) (x : Str) : Str := ⟨(indL (spaces w) (cpl x)).toArray⟩
theorem cpl_ind (w : Int) (x : Str) : cpl (ind w x) = indL (spaces w) (cpl x) := rfl
theorem no10_spaces (w : Int) : 10 ∉ spaces w := by simp [spaces]
theorem no10_ind {w : Int} {x : Str} (h : 10 ∉ cpl x) : 10 ∉ cpl (ind w x) := by
  rw [cpl_ind]
  unfold indL
  split
  · simp
  · intro q
    rcases List.mem_append.mp q with q | q
    · exact no10_spaces w q
    · exact h q
theorem len_ind {w : Int} {x : Str} : (ind w x).length ≤ w.toNat + x.length := by
  show (indL (spaces w) (cpl x)).toArray.size ≤ _
  unfold indL
  split
  · simp
  · rw [List.size_toArray, List.length_append, spaces_len]
    simp [cpl, Str.length]

/-- the block set in and split again -/
theorem block_rows {w : Int} {rows : List Str} (h0 : rows ≠ []) (hf : ∀ x ∈ rows, 10 ∉ cpl x) :
    Txt.split ⟨(ins (spaces w) true (Txt.join NL rows).cps.toList).toArray⟩ NL = rows.map (ind w) := by
  rw [txt_join]
  have e := ins_glue (rep := spaces w) (rows.map cpl) (fun x hx => by obtain ⟨p, hp, rfl⟩ := List.mem_map.mp hx; exact hf p hp)
  have e2 : (rows.map cpl).map (indL (spaces w)) = (rows.map (ind w)).map cpl := by simp [List.map_map, Function.comp_def, cpl_ind]
  show Txt.split ⟨(ins (spaces w) true (glue10 (rows.map cpl))).toArray⟩ NL = _
  rw [e, e2]
  refine split_glue (by simpa using h0) fun x hx => ?_
  obtain ⟨p, hp, rfl⟩ := List.mem_map.mp hx
  exact no10_ind (hf p hp)

def setIn (rows : List Str) (f l w : Int) : List Str := rows.take f.toNat ++ ((rows.drop f.toNat).take ((l + 1).toNat - f.toNat)).map (ind w) ++ rows.drop (l + 1).toNat

theorem join_ok {rows : List Str} (h : rows.length ≤ 10) (hb : ∀ x ∈ rows, x.length ≤ 1000) : JoinOk NL rows = true := by
  unfold JoinOk
  rw [Bool.not_eq_true']
  have h2 : NL.length = 1 := by decide +kernel
  have h3 : rows.length * 1000 + rows.length * NL.length ≤ 16777216 := by rw [h2]; omega
  exact StrLaws.joinFits hb h3
theorem join_len {rows : List Str} (h : rows.length ≤ 9) (hb : ∀ x ∈ rows, x.length ≤ 1000) : (Txt.join NL rows).length ≤ 10000 := by
  have h1 := StrLaws.join_length_le NL rows
  have h2 : NL.length = 1 := by decide +kernel
  have h3 : (rows.map (·.length)).sum ≤ rows.length * 1000 := by
    clear h h1
    induction rows with
    | nil => simp
    | cons x r ih =>
      rw [List.map_cons, List.sum_cons, List.length_cons, Nat.succ_mul]
      have := hb x (.head _)
      have := ih fun z hz => hb z (.tail _ hz)
      omega
  show (Builtin.Str.glued NL rows).length ≤ _
  rw [StrLaws.glued_eq_join]
  rw [h2] at h1
  omega
end Mine
end

section
open PySem PySem.W PyProof.Rows PySem.Calls
set_option Elab.async false
namespace Mine
theorem clampN {x : Int} (h : 0 ≤ x) (n : Nat) : min x (n : Int) = ((min x.toNat n : Nat) : Int) := by
  obtain ⟨a, rfl⟩ := Int.eq_ofNat_of_zero_le h
  rcases Nat.le_total a n with q | q
  · rw [Int.toNat_natCast, Nat.min_eq_left q, Int.min_eq_left (Int.ofNat_le.mpr q)]
  · rw [Int.toNat_natCast, Nat.min_eq_right q, Int.min_eq_right (Int.ofNat_le.mpr q)]
theorem max0N (k : Nat) : max 0 (k : Int) = (k : Int) := Int.max_eq_right (Int.natCast_nonneg _)
theorem cutv_run {vs : List Value} {x y : Int} (h : 0 ≤ x) (h2 : 0 ≤ y) : slicePick vs.toArray (some x) (some y) none = ((vs.drop x.toNat).take (y.toNat - x.toNat)).toArray := by
  have e : sliceBounds (some x) (some y) none vs.toArray.size = (((min x.toNat vs.toArray.size : Nat) : Int), ((min y.toNat vs.toArray.size : Nat) : Int), 1) := by
    simp only [sliceBounds, Option.getD_none, show (1 : Int) > 0 by decide, if_true, if_neg (Int.not_lt.mpr h), if_neg (Int.not_lt.mpr h2), clampN h, clampN h2, max0N]
  rw [kmk_pick_nat _ e]
  show ((vs.drop (min x.toNat vs.toArray.size)).take (min y.toNat vs.toArray.size - min x.toNat vs.toArray.size)).toArray = _
  rw [List.size_toArray, kmk_drop_min]
  congr 1
  rcases Nat.le_total x.toNat vs.length with q | q
  · rw [Nat.min_eq_left q]
    rcases Nat.le_total y.toNat vs.length with q2 | q2
    · rw [Nat.min_eq_left q2]
    · rw [Nat.min_eq_right q2, List.take_of_length_le (by rw [List.length_drop]; exact Nat.le_refl _), List.take_of_length_le (by rw [List.length_drop]; exact Nat.sub_le_sub_right q2 _)]
  · rw [List.drop_of_length_le q, List.take_nil, List.take_nil]
theorem cutv_upto {vs : List Value} {y : Int} (h : 0 ≤ y) : slicePick vs.toArray none (some y) none = (vs.take y.toNat).toArray := by
  have e : sliceBounds none (some y) none vs.toArray.size = (((0 : Nat) : Int), ((min y.toNat vs.toArray.size : Nat) : Int), 1) := by
    simp only [sliceBounds, Option.getD_none, show (1 : Int) > 0 by decide, if_true, if_neg (Int.not_lt.mpr h), clampN h, max0N]
    rfl
  rw [kmk_pick_nat _ e]
  show ((vs.drop 0).take (min y.toNat vs.toArray.size - 0)).toArray = _
  rw [List.drop_zero, Nat.sub_zero, List.size_toArray, kmk_take_min]
theorem cutv_from {vs : List Value} {x : Int} (h : 0 ≤ x) : slicePick vs.toArray (some x) none none = (vs.drop x.toNat).toArray := by
  have e : sliceBounds (some x) none none vs.toArray.size = (((min x.toNat vs.toArray.size : Nat) : Int), ((vs.toArray.size : Nat) : Int), 1) := by
    simp only [sliceBounds, Option.getD_none, show (1 : Int) > 0 by decide, if_true, if_neg (Int.not_lt.mpr h), clampN h, max0N]
  rw [kmk_pick_nat _ e]
  show ((vs.drop (min x.toNat vs.toArray.size)).take (vs.toArray.size - min x.toNat vs.toArray.size)).toArray = _
  rw [List.size_toArray, kmk_drop_min, List.take_of_length_le (by rw [List.length_drop]; rcases Nat.le_total x.toNat vs.length with q | q; rw [Nat.min_eq_left q]; exact Nat.le_refl _; rw [Nat.sub_eq_zero_of_le q]; exact Nat.zero_le _)]
section
variable {ls : List (Str × Tok)} {x y : Int}
theorem cut_run (h : 0 ≤ x) (h2 : 0 ≤ y) : slicePick (strValues ls).toArray (some x) (some y) none = (strValues ((ls.drop x.toNat).take (y.toNat - x.toNat))).toArray := by
  rw [cutv_run h h2]; unfold strValues; rw [List.map_take, List.map_drop]
theorem cut_upto (h : 0 ≤ y) : slicePick (strValues ls).toArray none (some y) none = (strValues (ls.take y.toNat)).toArray := by
  rw [cutv_upto h]; unfold strValues; rw [List.map_take]
theorem cut_from (h : 0 ≤ x) : slicePick (strValues ls).toArray (some x) none none = (strValues (ls.drop x.toNat)).toArray := by
  rw [cutv_from h]; unfold strValues; rw [List.map_drop]
end
section
variable {prog : Program} {w : World} {A : Around} {E : Value → Shared → Prop} {s : Shared} {h₀ : Heap} {L l a b : Addr} {m : Str → Option Value} {news : List (Addr × Obj)} {value slice : PySem.Expr} {ls ms : List (Str × Tok)} {vl vu : Value} {lo hi : Option Int} {t : Tok} {n : Nat} {Q : Value → Shared → Prop}
theorem slice_strs (F : Fr h₀ L s.heap m) (N : News h₀ L s.heap news) (hl : s.heap.IsList l (strValues ls).toArray) (pl : IsPart vl lo) (pu : IsPart vu hi) (e : slicePick (strValues ls).toArray lo hi none = (strValues ms).toArray)
    (h : ∀ D h', Fr h₀ L h' m → News h₀ L h' ((D, listOf (strValues ms).toArray 0) :: news) → (∀ p ∈ news, p.1 < D) → Q (.ref D) { s with heap := h' })
    (hs : subscripted slice false (.ref l) (.ref s.heap.objs.size) = operate [.ref s.heap.objs.size, .ref l] (getItem (.ref l) (.ref s.heap.objs.size))) (ht : ∀ r, letTemporaryGo value (.ref l) r = pure ()) (hz : (strValues ls).toArray.size ≤ sizeLine) :
    wpAny (model prog w) A (subscriptTail value slice (.ref l) (.ref s.heap.objs.size)) Q E { s with heap := s.heap.push { cls := .type "slice", data := .fields #[vl, vu, .none] } } := by
  refine kmk_slice F N hl pl pu (fun D h' F' N' l1 => h D h' F' ?_ l1) hs ht hz
  rw [← e]; exact N'
theorem join_strs (N : News h₀ L s.heap news) (hm : (a, listOf (strValues ls).toArray n) ∈ news) (hok : JoinOk NL (ls.map (·.1)) = true)
    (h : ∀ t' k, Q (.str (Txt.join NL (ls.map (·.1))) t') { s with toks := k }) : wpAny (model prog w) A (call (.builtin "str.join") [.str NL t, .ref a]) Q E s :=
  SC.join (News.isList N hm) rfl hok h
theorem add_strs {n2 : Nat} (F : Fr h₀ L s.heap m) (N : News h₀ L s.heap news) (ha : (a, listOf (strValues ls).toArray n) ∈ news) (hb : (b, listOf (strValues ms).toArray n2) ∈ news)
    (h : ∀ D h', Fr h₀ L h' m → News h₀ L h' ((D, listOf (strValues (ls ++ ms)).toArray 0) :: news) → (∀ p ∈ news, p.1 < D) → Q (.ref D) { s with heap := h' })
    (hz : ls.length + ms.length ≤ 1000000) : wpAny (model prog w) A (binaryOp .Add (.ref a) (.ref b)) Q E s := by
  refine kmk_add_lit F N (News.isList N ha) (News.isList N hb) (zs := strValues (ls ++ ms)) ?_ h ?_
  · simp [strValues]
  · rw [sizeLine_eq]; simp [strValues]; omega
theorem split_nl {x : Str} {t u : Tok} {rows : List Str} (F : Fr h₀ L s.heap m) (N : News h₀ L s.heap news) (e : Txt.split x NL = rows)
    (h : ∀ D l h' k, l.map (·.1) = rows → Fr h₀ L h' m → News h₀ L h' ((D, listOf (strValues l).toArray 0) :: news) → (∀ p ∈ news, p.1 < D) → Q (.ref D) { s with heap := h', toks := k }) (hsz : x.length ≤ 1000000) :
    wpAny (model prog w) A (call (.builtin "str.split") [.str x t, .str NL u]) Q E s :=
  KSpl.split1 F N (by decide +kernel) (fun D l h' k e' _ F' N' l1 => h D l h' k (e'.trans e) F' N' l1) (by rw [sizeLine_eq]; omega)
end
section
variable {ls : List (Str × Tok)} {a b : Nat}
theorem part_mem {x : Str} (h : x ∈ ((ls.drop a).take b).map (·.1)) : x ∈ ls.map (·.1) := by
  rw [List.map_take, List.map_drop] at h
  exact List.mem_of_mem_drop (List.mem_of_mem_take h)
theorem part_ok (hl : ls.length = 6) (hb : ∀ x ∈ ls.map (·.1), x.length ≤ 1000) : JoinOk NL (((ls.drop a).take b).map (·.1)) = true :=
  join_ok (by rw [List.length_map, List.length_take, List.length_drop]; omega) fun x hx => hb x (part_mem hx)
theorem part_len (hl : ls.length = 6) (hb : ∀ x ∈ ls.map (·.1), x.length ≤ 1000) : (Txt.join NL (((ls.drop a).take b).map (·.1))).length ≤ 10000 :=
  join_len (by rw [List.length_map, List.length_take, List.length_drop]; omega) fun x hx => hb x (part_mem hx)
theorem part_rows {f l w : Int} (hl : ls.length = 6) (hf : ∀ x ∈ ls.map (·.1), 10 ∉ cpl x) (h0 : 0 ≤ f) (h1 : f ≤ l) (h2 : l < 6) :
    Txt.split ⟨(ins (spaces w) true (Txt.join NL (((ls.drop f.toNat).take ((l + 1).toNat - f.toNat)).map (·.1))).cps.toList).toArray⟩ NL = (((ls.map (·.1)).drop f.toNat).take ((l + 1).toNat - f.toNat)).map (ind w) := by
  rw [block_rows ?_ fun x hx => hf x (part_mem hx), List.map_take, List.map_drop]
  intro q
  have h3 := congrArg List.length q
  obtain ⟨a, rfl⟩ := Int.eq_ofNat_of_zero_le h0
  obtain ⟨b, rfl⟩ := Int.eq_ofNat_of_zero_le (Int.le_trans h0 h1)
  have h1' := Int.ofNat_le.mp h1
  have h2' : b < 6 := Int.ofNat_lt.mp h2
  have h4 : (((ls.drop a).take (b + 1 - a)).map (·.1)).length = 0 := h3
  rw [List.length_map, List.length_take, List.length_drop, hl, Nat.min_eq_left (Nat.sub_le_sub_right h2' a)] at h4
  exact absurd h1' (Nat.not_le.mpr (Nat.lt_of_succ_le (Nat.sub_eq_zero_iff_le.mp h4)))
theorem part_fits {x : Str} {w : Int} (hx : x.length ≤ 10000) (hw : w ≤ 4) : (⟨(ins (spaces w) true x.cps.toList).toArray⟩ : Str).length ≤ 1000000 := by
  have := ins_fits (n := w) hx hw
  show (ins (spaces w) true x.cps.toList).toArray.size ≤ _
  rw [List.size_toArray]
  exact this
end
theorem len9 {ls l9 : List (Str × Tok)} {a b : Nat} {F : Str → Str} (e : l9.map (·.1) = (((ls.map (·.1)).drop a).take b).map F) (hl : ls.length = 6) : l9.length ≤ 6 := by
  have h := congrArg List.length e
  simp only [List.length_map, List.length_take, List.length_drop] at h
  omega
theorem close_set {ls l9 : List (Str × Tok)} {f l w : Int} (e : l9.map (·.1) = (((ls.map (·.1)).drop f.toNat).take ((l + 1).toNat - f.toNat)).map (ind w)) :
    (ls.take f.toNat ++ l9 ++ ls.drop (l + 1).toNat).map (·.1) = setIn (ls.map (·.1)) f l w := by
  unfold setIn
  rw [List.map_append, List.map_append, e, List.map_take, List.map_drop]
theorem close_set4 {ls l9 : List (Str × Tok)} {f l w : Int} (h : w = 4) (e : l9.map (·.1) = (((ls.map (·.1)).drop f.toNat).take ((l + 1).toNat - f.toNat)).map (ind 4)) :
    (ls.take f.toNat ++ l9 ++ ls.drop (l + 1).toNat).map (·.1) = setIn (ls.map (·.1)) f l w := by
  subst h; exact close_set e
end Mine
end

section
open PySem PySem.W PyProof.Rows PySem.Calls
set_option Elab.async false

namespace Mine

set_option maxRecDepth 100000 in
set_option maxHeartbeats 8000000 in
theorem c_set_in {w : World} {base g : Heap} {outer : List Env} {mean : ExcName → Option Value} {mg mb : Str → Option Value} {s : Shared} {a : Addr} {ls : List (Str × Tok)} {n : Nat} {f l wd : Int} {t1 t2 t3 : Tok}
    (hlen : ls.length = 6) (hbd : ∀ x ∈ ls.map (·.1), x.length ≤ 1000) (hfr : ∀ x ∈ ls.map (·.1), 10 ∉ cpl x) (hf : 0 ≤ f) (hl : f ≤ l) (hl' : l < 6) (hw : -1 ≤ wd) (hw' : wd ≤ 4)
    (G : Gr w base g outer mean mg mb s [(a, listOf (strValues ls).toArray n)]) :
    codeAny (model PySem.Challenge.rw_kl0455_01.row.toRowW.prog w) (At outer 390 4900) (.call (.ref 91) ⟨[.ref a, .int f t1, .int l t2, .int wd t3], []⟩)
      (Ret s fun v own => ∃ b l' n', v = .ref b ∧ own = [(b, listOf (strValues l').toArray n')] ∧ l'.map (·.1) = setIn (ls.map (·.1)) f l wd) s := by
  have XS := Frag.In.keeps G.X G.st
  have X0 := G.X
  revert X0; k_fill; intro X0
  refine' enterS (binds := [(Str.ofString "rows", .ref a), (Str.ofString "first", .int f t1), (Str.ofString "last", .int l t2), (Str.ofString "width", .int wd t3)]) G ?k6 ?k7 ?k8 ?k9 ?kB ?_ ?c2 ?c3 ?c4 ?c5; (case k6 => k_is); (case k7 => k_is); (case k8 => exact Nat.le_of_ble_eq_true rfl); (case k9 => first | exact BindsTo.of_eq rfl | exact binds_K (by k_in) rfl (by k_is) rfl rfl rfl | fail "k_enter: no rule for these arguments"); (case c5 => decide); (case kB => exact locs rfl); (case c2 => exact rfl); (case c3 => exact rfl); (case c4 => exact rfl)
  k_whole
  clear XS
  intro L' h' F' N' B' X' T'
  (try dsimp only)
  k_fold
  k_with_none
  k_with "getMethod ref" => (k_here; (with_reducible show wpAny _ _ (getMethod (Value.ref 36) (PySem.Str.ofString "sub") _) _ _ _); k_dflt (refine' getMethod_sub ?hq9_F ?hq9_X ?_; (case hq9_F => k_asm); (case hq9_X => k_asm)))
  k_with "binaryOp Mult int str" => (k_here; refine mul_int_sp (by omega) (by omega) ?_; intro _ _)
  k_with "binaryOp Mult str int" => (k_here; refine mul_str_sp (by omega) (by omega) ?_; intro _ _)
  k_with "call builtin:re.Pattern.sub" => (k_here; k_dflt (refine' sub_call ?hq12_F ?hq12_N ?hq12_X spaces_no92 ?hq12_b ?hq12_c ?_; (case hq12_F => k_asm); (case hq12_N => k_asm); (case hq12_X => k_asm); (case hq12_b => (refine Nat.le_trans (by assumption) (by omega))); (case hq12_c => exact ins_fits (by assumption) (by first | assumption | omega))); intro t9q h9q k9q F9q N9q)
  k_with "subscriptTail Name Slice ref ref" => (k_here; (with_reducible show wpAny _ _ (subscriptTail _ (PySem.Expr.Slice _ _ none _) (Value.ref _) (Value.ref _)) _ _ _); k_dflt (refine' slice_strs ?hq13_F ?hq13_N ?hq13_l ?hq13_p ?hq13_q ?hq13_e ?_ ?hq13_s ?hq13_t ?hq13_z; (case hq13_F => k_asm); (case hq13_N => k_asm); (case hq13_l => exact News.isList (by k_asm) (by k_mem)); (case hq13_p => kmk_part); (case hq13_q => kmk_part); (case hq13_e => first | ((with_reducible refine cut_run ?_ ?_) <;> omega) | ((with_reducible refine cut_upto ?_) <;> omega) | ((with_reducible refine cut_from ?_) <;> omega)); (case hq13_s => with_unfolding_all rfl); (case hq13_t => kmk_pure); (case hq13_z => (rw [sizeLine_eq]; simp [strValues]; omega))); intro D'q h'q F'q N'q l1q; (try k_lt l1q); (try k_sweep))
  k_with "call builtin:str.join" => (k_here; (with_reducible show wpAny _ _ (call (Value.builtin "str.join") [Value.str _ _, Value.ref _]) _ _ _); k_dflt (refine' join_strs ?hq14_N ?hq14_m ?hq14_o ?_; (case hq14_N => k_asm); (case hq14_m => k_mem); (case hq14_o => exact part_ok (by assumption) (by assumption))); intro t9q k9q)
  k_with "call builtin:str.split" => (k_here; k_dflt (refine' split_nl ?hq15_F ?hq15_N ?hq15_e ?_ ?hq15_z; (case hq15_F => k_asm); (case hq15_N => k_asm); (case hq15_e => exact part_rows (by assumption) (by assumption) (by omega) (by omega) (by omega)); (case hq15_z => exact part_fits (part_len (by assumption) (by assumption)) (by omega))); intro D'q ls9q h'q k9q e9q F'q N'q l1q; (try k_lt l1q); (try k_sweep))
  k_with "binaryOp Add ref ref" => (k_here; (with_reducible show wpAny _ _ (binaryOp _ (Value.ref _) (Value.ref _)) _ _ _); k_dflt (refine' add_strs ?hq16_F ?hq16_N ?hq16_a ?hq16_b ?_ ?hq16_z; (case hq16_F => k_asm); (case hq16_N => k_asm); (case hq16_a => k_mem); (case hq16_b => k_mem); (case hq16_z => ((have h8q := len9 (by assumption) (by assumption)); (simp only [List.length_append, List.length_take, List.length_drop]); omega))); intro D'q h'q F'q N'q l1q; (try k_lt l1q); (try k_sweep))
  k_with "call ref" => (k_here; (with_reducible show wpAny _ _ (call (Value.ref 44) _ _) _ _ _); k_dflt (refine' useS [] ?hq17_C ?hq17_B ?hq17_F ?hq17_N ?hq17_X ?hq17_T ?hq17_hA ?hq17_hf ?hq17_hke ?hq17_ha ?hq17_hh ?hq17_hd ?hq17_hu ?_; (case hq17_C => (intro g9q b9q o9q G9q; first | exact c_indent4 (part_len (by assumption) (by assumption)) G9q | exact c_indent (part_len (by assumption) (by assumption)) (by omega) (by omega) G9q)); (case hq17_B => k_asm); (case hq17_F => k_asm); (case hq17_N => k_asm); (case hq17_X => k_asm); (case hq17_T => k_asm); (case hq17_hA => exact rfl); (case hq17_hf => exact rfl); (case hq17_hke => exact rfl); (case hq17_ha => intro pq hpq; cases hpq); (case hq17_hh => exact rfl); (case hq17_hd => exact Nat.le_of_ble_eq_true rfl); (case hq17_hu => exact Nat.le_of_ble_eq_true rfl)); intro v9q own9q h'q tk9q hP9q F'q N'q hne9q; (obtain ⟨e9aq, t9q, e9bq⟩ := hP9q); subst e9aq e9bq; (simp only [List.nil_append] at N'q); clear hne9q; (try k_sweep))
  w_top off
  k_steps
  all_goals (try k_unmd)
  all_goals k_steps
  all_goals refine Gr.ret G [(_, _)] (by k_asm) (by k_asm) (by intro p hp; rw [List.mem_singleton.mp hp]; k_mem) (by intro p hp; rw [List.mem_singleton.mp hp]; k_mem) (off1 (by k_ne)) ⟨_, _, _, rfl, rfl, ?_⟩
  all_goals first | exact close_set4 (by assumption) (by assumption) | exact close_set (by assumption)
end Mine
end

section
open PySem PySem.W PyProof.Rows PySem.Calls
set_option Elab.async false
namespace Mine
/-- six rows, no longer than B, without a line's end -/
structure RowsOk (B : Nat) (rows : List Str) : Prop where
  len : rows.length = 6
  bd : ∀ x ∈ rows, x.length ≤ B
  fr : ∀ x ∈ rows, 10 ∉ cpl x
theorem cut_len {α : Type} {rows : List α} {g : α → α} {a c : Nat} (hac : a ≤ c) (hc : c ≤ rows.length) : (rows.take a ++ ((rows.drop a).take (c - a)).map g ++ rows.drop c).length = rows.length := by
  rw [List.length_append, List.length_append, List.length_map, List.length_take_of_le (Nat.le_trans hac hc), List.length_take, List.length_drop, Nat.min_eq_left (Nat.sub_le_sub_right hc a), List.length_drop, Nat.add_sub_cancel' hac, Nat.add_sub_cancel' hc]
theorem setIn_len {rows : List Str} {f l w : Int} (h0 : 0 ≤ f) (h1 : f ≤ l) (h2 : l < (rows.length : Int)) : (setIn rows f l w).length = rows.length := by
  obtain ⟨a, rfl⟩ := Int.eq_ofNat_of_zero_le h0
  obtain ⟨b, rfl⟩ := Int.eq_ofNat_of_zero_le (Int.le_trans h0 h1)
  exact cut_len (Nat.le_succ_of_le (Int.ofNat_le.mp h1)) (Int.ofNat_lt.mp h2)
theorem setIn_mem {rows : List Str} {f l w : Int} {x : Str} (h : x ∈ setIn rows f l w) : x ∈ rows ∨ ∃ y ∈ rows, x = ind w y := by
  unfold setIn at h
  rcases List.mem_append.mp h with h | h
  · rcases List.mem_append.mp h with h | h
    · exact .inl (List.mem_of_mem_take h)
    · obtain ⟨y, hy, rfl⟩ := List.mem_map.mp h
      exact .inr ⟨y, List.mem_of_mem_drop (List.mem_of_mem_take hy), rfl⟩
  · exact .inl (List.mem_of_mem_drop h)
theorem RowsOk.setIn {B : Nat} {rows : List Str} {f l w : Int} (h : RowsOk B rows) (h0 : 0 ≤ f) (h1 : f ≤ l) (h2 : l < 6) (hw : w ≤ 4) : RowsOk (B + 4) (setIn rows f l w) := by
  refine ⟨?_, fun x hx => ?_, fun x hx => ?_⟩
  · rw [setIn_len h0 h1 (by rw [h.len]; exact h2), h.len]
  · rcases setIn_mem hx with hx | ⟨y, hy, rfl⟩
    · have := h.bd x hx; omega
    · have := h.bd y hy
      have := len_ind (w := w) (x := y)
      omega
  · rcases setIn_mem hx with hx | ⟨y, hy, rfl⟩
    · exact h.fr x hx
    · exact no10_ind (h.fr y hy)
theorem RowsOk.weak {B C : Nat} {rows : List Str} (h : RowsOk B rows) (hc : B ≤ C) : RowsOk C rows := ⟨h.len, fun x hx => Nat.le_trans (h.bd x hx) hc, h.fr⟩
theorem ret_mono {s : Shared} {P P' : Value → List (Addr × Obj) → Prop} {r : Result} {s' : Shared} (h : Ret s P r s') (hp : ∀ v own, P v own → P' v own) : Ret s P' r s' := by
  obtain ⟨v, own, h', tk, e1, e2, st, ho, q⟩ := h
  exact ⟨v, own, h', tk, e1, e2, st, ho, hp _ _ q⟩
theorem c_set_in2 {w : World} {base g : Heap} {outer : List Env} {mean : ExcName → Option Value} {mg mb : Str → Option Value} {s : Shared} {a : Addr} {ls : List (Str × Tok)} {n : Nat} {f l wd : Int} {t1 t2 t3 : Tok} {B : Nat}
    (hk : RowsOk B (ls.map (·.1))) (hB : B ≤ 1000) (hf : 0 ≤ f) (hl : f ≤ l) (hl' : l < 6) (hw : -1 ≤ wd) (hw' : wd ≤ 4)
    (G : Gr w base g outer mean mg mb s [(a, listOf (strValues ls).toArray n)]) :
    codeAny (model PySem.Challenge.rw_kl0455_01.row.toRowW.prog w) (At outer 390 4900) (.call (.ref 91) ⟨[.ref a, .int f t1, .int l t2, .int wd t3], []⟩)
      (Ret s fun v own => ∃ b l' n', v = .ref b ∧ own = [(b, listOf (strValues l').toArray n')] ∧ l'.map (·.1) = setIn (ls.map (·.1)) f l wd ∧ RowsOk (B + 4) (l'.map (·.1))) s :=
  codeAny_mono (c_set_in (by have := hk.len; simpa using this) (fun x hx => Nat.le_trans (hk.bd x hx) hB) hk.fr hf hl hl' hw hw' G) fun r s' h => ret_mono h fun v own ⟨b, l', n', e1, e2, e3⟩ => ⟨b, l', n', e1, e2, e3, e3 ▸ hk.setIn hf hl hl' hw'⟩
def AllNe (d : Nat) : List (Addr × Obj) → Prop
  | [] => True
  | p :: r => @Ne Nat p.1 d ∧ AllNe d r
theorem allNe_of {d : Addr} : ∀ {l : List (Addr × Obj)}, (∀ p ∈ l, p.1 ≠ d) → AllNe d l
  | [], _ => trivial
  | p :: _, h => ⟨h p (.head _), allNe_of fun q hq => h q (.tail _ hq)⟩
theorem allNe_to {d : Addr} : ∀ {l : List (Addr × Obj)}, AllNe d l → d ∉ l.map (·.1)
  | [], _ => by simp
  | p :: _, h => by
    intro q
    rcases List.mem_cons.mp q with q | q
    · exact h.1 q.symm
    · exact allNe_to h.2 q
theorem offs {D : Addr} {o : Obj} {args : List (Addr × Obj)} (h : AllNe D args) : ∀ p ∈ [((D, o) : Addr × Obj)], p.1 ∉ args.map (·.1) := by
  intro p hp
  rw [List.mem_singleton.mp hp]
  exact allNe_to h
theorem subs_nil {l : List (Addr × Obj)} : ∀ p ∈ ([] : List (Addr × Obj)), p ∈ l := fun _ h => nomatch h
theorem subs_cons {q : Addr × Obj} {r l : List (Addr × Obj)} (h : q ∈ l) (h2 : ∀ p ∈ r, p ∈ l) : ∀ p ∈ q :: r, p ∈ l := List.forall_mem_cons.mpr ⟨h, h2⟩
end Mine
end

section
open PySem PySem.W PyProof.Rows PySem.Calls PySem.Builtin
set_option Elab.async false
set_option maxRecDepth 100000
namespace Mine
abbrev excObj (t : Addr) (d : Option Addr) (tb : Value) (sl : Array (Option Value) := #[]) : Obj := { cls := .ref 68, dict := d, data := .fields #[.ref t, tb, .none, .none, .bool false, .none], slots := sl }
abbrev tupObj (vs : List Value) : Obj := { cls := .type "tuple", data := .seq vs.toArray }
abbrev bmE : List Value := [.type "Exception", .type "BaseException", .type "object"]
abbrev clsE : Obj := excClassObj (Str.ofString "DocTestFailure") (Str.ofString "DocTestFailure") 68 67 [.type "Exception"] bmE true [] [] false none none (some (.ref 45)) none (some (.str (Str.ofString "DocTestFailure") 313)) (some (.str (Str.ofString "DocTestFailure") 321)) (some (.bool true)) "Exception.__new__"
theorem clsE_in (P : Params) : (hd.heap_39 P).lookup 68 = some clsE := by rfl
theorem findInit {P : Params} : findIn (hd.heap_39 P) (.ref 68) (Str.ofString "__init__") = some (some (.ref 58)) := by rfl
theorem typeInit {P : Params} : typeIn (hd.heap_39 P) (.ref 58) = some (.type "function") := by rfl
section
variable {prog : Program} {w : World} {A : Around} {R : Result → Shared → Prop} {h : Heap} {g : Array GenState} {d : Drawn} {t : Nat} {os : OsState}

theorem make_exc {rest : List Value} (X : (hd.heap_39 w.params).In h)
    (hr : codeAny (model prog w) (A.under (.builtin "type.__call__" ⟨.ref 68 :: rest, []⟩)) (.call (.ref 58) ⟨.ref (h.objs.size + 1) :: rest, []⟩) (InitBack (h.objs.size + 1) R) ⟨(h.push (tupObj rest)).push (excObj h.objs.size none .none), g, d, t, os⟩)
    (hrest : rest.length ≤ sizeLine) : codeAny (model prog w) A (.call (.ref 68) ⟨rest, []⟩) R ⟨h, g, d, t, os⟩ := by
  have hC : h.get? 68 = some clsE := X _ _ (clsE_in _)
  have f1 := tc_lookup
  have f2 := tc_bind (.ref 68)
  have hT : (⟨h, g, d, t, os⟩ : Shared).TypeIs (.ref 68) "type" := ⟨_, hC, rfl⟩
  refine codeAny_of_tree ?_
  show wpAny _ _ (callAny (.ref 68) _) _ _ _
  repeat (any_goals (first | assumption | with_reducible refine wpAny_loadPart_at hC ?_ | wp_step))
  refine ⟨rfl, ?_⟩
  refine codeAny_call_builtin_at (Code.quiet_builtin _ (by decide +kernel)) entry_typeCall (wpAny_check_type_call_sub hC ?_)
  repeat (first | with_reducible refine wpAny_loadPart_at hC ?_ | with_reducible refine wpAny_madeBy_exc hC ?_ | wp_step)
  refine codeAny_call_builtin_code (Code.quiet_builtin _ PySem.F.excBase_Exception.quiet) (wpAny_check_new_subU PySem.F.excBase_Exception (by decide +kernel) .base hC ?_)
  refine codeAny_exc_new_subU PySem.F.excBase_Exception (by decide +kernel) PySem.F.excBase_Exception .base hC ?_ hrest
  show wpAny _ _ _ _ _ _
  have X₁ := Frag.In.keeps X (fun b o e => Heap.get?_push_of_some (excObj h.objs.size none .none) (Heap.get?_push_of_some (tupObj rest) e))
  have hC₁ : ((h.push (tupObj rest)).push (excObj h.objs.size none .none)).get? 68 = some clsE := X₁ _ _ (clsE_in _)
  have hget : ((h.push (tupObj rest)).push (excObj h.objs.size none .none)).get? (h.objs.size + 1) = some (excObj h.objs.size none .none) := by
    have := Heap.get?_push_size (h.push (tupObj rest)) (o := excObj h.objs.size none .none) rfl
    rw [Heap.size_push] at this
    exact this
  have hcC : (Value.ref 68 :: bmE).contains (.ref 68) = true := by decide +kernel
  have lt : ∀ M : Model, Looks M ((h.push (tupObj rest)).push (excObj h.objs.size none .none)) (typeOf (.ref (h.objs.size + 1))) (.ref 68) := fun M => (Looks.ld hget).andThen .now
  refine wpAny_bind (wpAny_bind ((lt _).here (wpAny_isSubtype_exc hC₁ ?_)))
  rw [hcC, if_neg (by decide)]
  refine wpAny_bind (wpAny_holding ?_)
  refine wpAny_bind (wpAny_bind ((lt _).here ((looks_findIn X₁ findInit).here ?_)))
  dsimp only
  refine wpAny_holding (wpAny_bind ((bind_fn X₁ _ typeInit).here (wpAny_bind (wpAny_call ?_))))
  refine codeAny_mono hr ?_
  rintro r s' hb
  match r, hb with
  | .ok (.ret v), ⟨hv, hR⟩ =>
    subst hv
    refine wpAny_pure ?_
    dsimp only
    rw [if_neg (by decide)]
    exact wpAny_pure hR
  | .error e, hR => exact hR
end
end Mine
end

section
open PySem PySem.W PyProof.Rows PySem.Calls PySem.Builtin
set_option Elab.async false
set_option maxRecDepth 100000
namespace Mine
/-- a dict of names -/
def DictIs (od : Obj) (mA : Str → Option Value) : Prop := ∃ es ep, od.data = .dict es ep ∧ StrKeys es ∧ UniqKeys es ∧ ∀ name, nsFind es name = mA name
def put1 (mA : Str → Option Value) (n : Str) (v : Value) : Str → Option Value := fun y => if y = n then some v else mA y
theorem ns67_ok {P : Params} : nsOkIn (hd.heap_39 P) 67 = true := by kernel_rfl
theorem ns67_set {P : Params} : nsIn (hd.heap_39 P) 67 (Str.ofString "__setattr__") = some none := by rfl
theorem ns67_test {P : Params} : nsIn (hd.heap_39 P) 67 (Str.ofString "test") = some none := by rfl
theorem ns67_example {P : Params} : nsIn (hd.heap_39 P) 67 (Str.ofString "example") = some none := by rfl
theorem ns67_got {P : Params} : nsIn (hd.heap_39 P) 67 (Str.ofString "got") = some none := by rfl
theorem exc_test : typeLookup (.type "Exception") (Str.ofString "test") = pure none := by rw [typeLookup_type, builtinLookup_eq_fast]; kernel_rfl
theorem exc_example : typeLookup (.type "Exception") (Str.ofString "example") = pure none := by rw [typeLookup_type, builtinLookup_eq_fast]; kernel_rfl
theorem exc_got : typeLookup (.type "Exception") (Str.ofString "got") = pure none := by rw [typeLookup_type, builtinLookup_eq_fast]; kernel_rfl

section
variable {prog : Program} {w : World} {A : Around} {E : Value → Shared → Prop} {s : Shared} {h₀ : Heap} {L e d tp : Addr} {m : Str → Option Value} {news : List (Addr × Obj)} {name : Str} {v tb : Value} {sl : Array (Option Value)} {od : Obj} {mA : Str → Option Value} {Q : Unit → Shared → Prop}

theorem entry_first {hp : Heap} {g : Array GenState} {dr : Drawn} {t : Nat} {os : OsState} {R : Fin → Shared → Prop} {tk : Tok} (X : (hd.heap_39 w.params).In hp) (hE : hp.get? e = some (excObj tp none tb sl))
    (hn : nsIn (hd.heap_39 w.params) 67 name = some none) (hB : typeLookup (.type "Exception") name = pure none)
    (h : ∀ od h' tk', h'.get? hp.objs.size = some od → DictIs od (put1 (fun _ => none) name v) → h'.get? e = some (excObj tp (some hp.objs.size) tb sl) → (∀ b o, b ≠ e → hp.get? b = some o → h'.get? b = some o) → R (.done (.ret .none)) ⟨h', g, dr, tk', os⟩) :
    wpAny (model prog w) A (Builtin.«object.__setattr__» ⟨[.ref e, .str name tk, v], []⟩) R E ⟨hp, g, dr, t, os⟩ := by
  have hC : hp.get? 68 = some clsE := X _ _ (clsE_in _)
  have hN : hp.Ns 67 (hp.nsMap 67) := .of_isNs (isNs_of_in X ns67_ok)
  have hna := nsMap_none_of_in X ns67_ok hn
  have hpass := PySem.F.store_Exception.passes (.ref e)
  have hxs : e ≠ hp.objs.size := Nat.ne_of_lt (Heap.lt_size hE)
  obtain ⟨o, ho⟩ : ∃ o, o = excObj tp none tb sl := ⟨_, rfl⟩
  have ho1 : o.cls = .ref 68 := by rw [ho]
  have ho2 : o.dict = none := by rw [ho]
  have ho3 : ∀ c, o.data ≠ .cls c := fun c q => by rw [ho] at q; cases q
  rw [← ho] at hE
  unfold Builtin.«object.__setattr__»
  repeat (first | rw [refuse_eq] | (rw [refuseLoop_ref, hpass]) | (with_reducible refine wpAny_loadPart_at hE ?_; rw [ho1]) | with_reducible refine wpAny_mroOf_exc hC ?_ | (with_reducible refine wpAny_typeLookup_exc hC hN PySem.F.store_Exception.mro hB ?_; rw [hna]) | wp_step)
  rw [ho2, if_neg (by simp [typeHasDict])]
  split
  · rename_i q; cases q
  split
  · rename_i c q; exact absurd q (ho3 c)
  have hx₁ : (hp.push { cls := .type "dict", data := .dict #[] }).get? e = some o := Heap.get?_push_of_some _ hE
  refine wpAny_bind (wpAny_alloc' (wpAny_bind (wpAny_update' hx₁ (wpAny_pure ?_))))
  have hgd : ((hp.push { cls := .type "dict", data := .dict #[] }).update e fun o => { cls := o.cls, dict := some hp.objs.size, data := o.data, slots := o.slots }).get? hp.objs.size = some { cls := .type "dict", data := .dict #[] } :=
    (Heap.get?_update_ne _ _ _ _ hxs.symm).trans (Heap.get?_push_at rfl rfl)
  have hnd : ((hp.push { cls := .type "dict", data := .dict #[] }).update e fun o => { cls := o.cls, dict := some hp.objs.size, data := o.data, slots := o.slots }).Ns hp.objs.size (fun _ => none) :=
    ⟨_, #[], _, hgd, rfl, fun e he => absurd he (by simp), fun _ => rfl⟩
  show wpAny _ _ (Builtin.ObjectAttr.storeInDict hp.objs.size (.str name tk) name v) _ _ _
  unfold Builtin.ObjectAttr.storeInDict Builtin.ObjectAttr.newKeyGuard
  refine wpAny_bind (wpAny_pure (wpAny_bind (wpAny_nsSet1 (Heap.Ns1.of_empty hnd) fun h' hn' hs => ?_)))
  obtain ⟨oD, esD, epD, hoD, hdD, hcD⟩ := hn'.count (Within.cons name v Within.nil)
  refine wpAny_bind (wpAny_lookBehind hoD (by rw [hdD]; exact pastItsLine_dict (Nat.le_trans hcD (by rw [List.length_cons, List.length_nil, sizeLine_eq]; omega))) ?_)
  wp_walk
  obtain ⟨od, es, ep, e1, e2, e3, eu, e4⟩ := hn'
  refine h od h' _ e1 ⟨es, ep, e2, e3, eu, e4⟩ ?_ fun b ob hbx hb => (hs.2 b (Nat.ne_of_lt (Heap.lt_size hb))).trans ((Heap.get?_update_ne _ _ _ _ hbx).trans (Heap.get?_push_of_some _ hb))
  refine (hs.2 e hxs).trans ((Heap.get?_update_self _ hx₁ ?_).trans ?_)
  · rw [ho]; rfl
  · rw [ho]
end
end Mine
end

section
open PySem PySem.W PyProof.Rows PySem.Calls PySem.Builtin
set_option Elab.async false
set_option maxRecDepth 100000
namespace Mine
theorem findSet {P : Params} : findIn (hd.heap_39 P) (.ref 68) (Str.ofString "__setattr__") = some (some (.builtin "object.__setattr__")) := by kernel_rfl
theorem mroObj {P : Params} : mroIn (hd.heap_39 P) 68 (.type "object") = some true := by kernel_rfl
theorem findGA {P : Params} : findIn (hd.heap_39 P) (.ref 68) (Str.ofString "__getattribute__") = some (some (.builtin "BaseException.__getattribute__")) := by kernel_rfl
section
variable {prog : Program} {w : World} {A : Around} {E : Value → Shared → Prop} {s : Shared} {h₀ : Heap} {L e d tp : Addr} {m : Str → Option Value} {news : List (Addr × Obj)} {name : Str} {v tb : Value} {sl : Array (Option Value)} {od : Obj} {mA : Str → Option Value}

theorem not68 (X : (hd.heap_39 w.params).In h₀) {a : Addr} (hf : h₀.get? a = none) : a ≠ 68 := fun q => by
  have h1 : h₀.get? 68 = some clsE := X _ _ (clsE_in _)
  rw [q, h1] at hf
  cases hf

theorem set_first {Q : Unit → Shared → Prop} (F : Fr h₀ L s.heap m) (N : News h₀ L s.heap ((e, excObj tp none tb sl) :: news)) (X : (hd.heap_39 w.params).In h₀) (hne : ∀ p ∈ news, p.1 ≠ e)
    (hn : nsIn (hd.heap_39 w.params) 67 name = some none) (hB : typeLookup (.type "Exception") name = pure none)
    (h : ∀ d od h' tk', Fr h₀ L h' m → News h₀ L h' ((e, excObj tp (some d) tb sl) :: (d, od) :: news) → DictIs od (put1 (fun _ => none) name v) → (∀ p ∈ (e, excObj tp (some d) tb sl) :: news, p.1 < d) → Q () { s with heap := h', toks := tk' }) :
    wpAny (model prog w) A (setAttr (.ref e) name v) Q E s := by
  obtain ⟨hp, g, dr, t, os⟩ := s
  have Xs := Frag.In.keeps X F.keep
  have hE := N _ (.head _)
  have hCe : e ≠ 68 := not68 X hE.2.2
  have hE1 : hp.get? e = some (excObj tp none tb sl) := hE.1
  have hC : hp.get? 68 = some clsE := Xs _ _ (clsE_in _)
  have I : InstAt hp e (excObj tp none tb sl) 68 none := ⟨hE1, rfl, rfl, trivial⟩
  refine set_plain Xs I findSet ?_
  refine codeAny_call_builtin PySem.F.store_Exception.slot.plain PySem.F.store_Exception.entry ?_
  have sub : Looks (model prog w) hp (isInstance (.ref e) (.type "object")) true := I.type.andThen (looks_mroIn Xs mroObj)
  refine @check_slot (model prog w) _ _ _ "object.__setattr__" "object" "__setattr__" (.ref e) [.str name t, v] [] _ PySem.F.store_object.kind PySem.F.store_object.split sub (PySem.F.store_object.args (.ref e) (.str name t) v) ?_
  refine entry_first Xs hE1 hn hB fun od h' tk' h1 h2 h3 h4 => ?_
  have hL : L ≠ hp.objs.size := Nat.ne_of_lt F.ns.lt
  have hLe : L ≠ e := fun q => hE.2.1 q.symm
  refine h _ od h' tk' ?_ ?_ h2 fun p hp' => by
    rcases List.mem_cons.mp hp' with rfl | hp'
    · exact Heap.lt_size hE.1
    · exact Heap.lt_size (N p (.tail _ hp')).1
  · obtain ⟨oL, es, ep, hoL, r⟩ := F.ns
    exact ⟨⟨oL, es, ep, h4 _ _ hLe hoL, r⟩, fun b o q => h4 _ _ (fun z => by rw [z, show h₀.get? e = none from hE.2.2] at q; cases q) (F.keep _ _ q), F.above⟩
  · intro p hp'
    rcases List.mem_cons.mp hp' with rfl | hp'
    · exact ⟨h3, hE.2⟩
    · rcases List.mem_cons.mp hp' with rfl | hp'
      · refine ⟨h1, hL.symm, ?_⟩
        cases q : h₀.get? hp.objs.size with
        | none => rfl
        | some o => exact absurd (Heap.lt_size (F.keep _ _ q)) (Nat.lt_irrefl _)
      · exact ⟨h4 _ _ (hne p hp') (N p (.tail _ hp')).1, (N p (.tail _ hp')).2⟩

theorem set_next {Q : Unit → Shared → Prop} {ns : List Str} (F : Fr h₀ L s.heap m) (N : News h₀ L s.heap ((e, excObj tp (some d) tb sl) :: (d, od) :: news)) (X : (hd.heap_39 w.params).In h₀) (hde : d ≠ e) (hne : ∀ p ∈ news, p.1 ≠ e) (hnd : ∀ p ∈ news, p.1 ≠ d)
    (hn : nsIn (hd.heap_39 w.params) 67 name = some none) (hB : typeLookup (.type "Exception") name = pure none) (hD : DictIs od mA) (hw : Within mA ns) (hsz : ns.length ≤ 100)
    (h : ∀ od h' tk', Fr h₀ L h' m → News h₀ L h' ((e, excObj tp (some d) tb sl) :: (d, od) :: news) → DictIs od (put1 mA name v) → Q () { s with heap := h', toks := tk' }) :
    wpAny (model prog w) A (setAttr (.ref e) name v) Q E s := by
  obtain ⟨hp, g, dr, t, os⟩ := s
  have Xs := Frag.In.keeps X F.keep
  have hE := N _ (.head _)
  have hDd := N _ (.tail _ (.head _))
  have hCe : e ≠ 68 := not68 X hE.2.2
  have hC : hp.get? 68 = some clsE := Xs _ _ (clsE_in _)
  obtain ⟨es, ep, d1, d2, d3, d4⟩ := hD
  refine store_attr (C := 68) (mA := mA) (ns := ns) PySem.F.store_Exception hC (.of_isNs (isNs_of_in Xs ns67_ok)) (nsMap_none_of_in Xs ns67_ok ns67_set) (nsMap_none_of_in Xs ns67_ok hn) hB hCe
    ⟨_, hE.1, rfl, (fun c q => by cases q), .inr ⟨d, rfl, hde, od, es, ep, hDd.1, d1, d2, d3, d4⟩⟩ ?_ hw (by rw [sizeLine_eq]; omega)
  intro h' tk' hI hk hs
  obtain ⟨o1, h1, c1, da1, s1, di1⟩ := hs _ hE.1
  have hd1 := di1 d rfl
  have eo : o1 = excObj tp (some d) tb sl := by
    obtain ⟨oc, odi, oda, osl⟩ := o1
    simp only at c1 da1 s1 hd1
    rw [c1, da1, s1, hd1]
  obtain ⟨o2, h2, c2, _, hd2⟩ := hI
  rw [h1] at h2; cases h2
  have keep : ∀ b o, b ≠ e → b ≠ d → hp.get? b = some o → h'.get? b = some o := fun b o hb hbd e1 => hk b o hb (fun o₀ dx' q1 q2 => by
    have q0 : hp.get? e = some (excObj tp (some d) tb sl) := hE.1
    rw [q0] at q1; cases q1; cases q2; exact hbd) e1
  rcases hd2 with ⟨q, _⟩ | ⟨dx, hdx, hdn, od', es', ep', hod, k0, k1, k2, k3⟩
  · rw [hd1] at q; cases q
  · rw [hd1] at hdx; cases hdx
    have hLe : L ≠ e := fun q => hE.2.1 q.symm
    have hLd : L ≠ d := fun q => hDd.2.1 q.symm
    refine h od' h' tk' ?_ ?_ ⟨es', ep', k0, k1, k2, k3⟩
    · obtain ⟨oL, esL, epL, hoL, r⟩ := F.ns
      exact ⟨⟨oL, esL, epL, keep _ _ hLe hLd hoL, r⟩, fun b o q => keep _ _ (fun z => by rw [z, show h₀.get? e = none from hE.2.2] at q; cases q) (fun z => by rw [z, show h₀.get? d = none from hDd.2.2] at q; cases q) (F.keep _ _ q), F.above⟩
    · intro p hp'
      rcases List.mem_cons.mp hp' with rfl | hp'
      · exact ⟨eo ▸ h1, hE.2⟩
      · rcases List.mem_cons.mp hp' with rfl | hp'
        · exact ⟨hod, hDd.2⟩
        · exact ⟨keep _ _ (hne p hp') (hnd p hp') (N p (.tail _ (.tail _ hp'))).1, (N p (.tail _ (.tail _ hp'))).2⟩

theorem clsE_is {P : Params} : clsIn (hd.heap_39 P) 68 = some { name := Str.ofString "DocTestFailure", bases := [.type "Exception"], mro := .ref 68 :: bmE, ns := 67, qualname := Str.ofString "DocTestFailure" } := by rfl
theorem findGAttr {P : Params} : findIn (hd.heap_39 P) (.ref 68) (Str.ofString "__getattr__") = some none := by kernel_rfl
theorem slotGA : Slot "Exception" "__getattribute__" "BaseException.__getattribute__" :=
  .of (owner := "BaseException") (n := "__getattribute__") (by rw [typeLookup_type, builtinLookup_eq_fast]; kernel_rfl) (by decide +kernel) (by decide +kernel) (by decide +kernel)
    (by first | exact .inl (by decide +kernel) | exact .inr (by decide +kernel)) (by rw [isSubtype_type]; kernel_rfl)
theorem get_exc {hp : Heap} {g : Array GenState} {dr : Drawn} {t : Nat} {os : OsState} {expr : Bool} {Q : Value → Shared → Prop} (X : (hd.heap_39 w.params).In hp) (hE : hp.get? e = some (excObj tp (some d) tb sl)) (hD0 : hp.get? d = some od) (hD : DictIs od mA)
    (hf : findIn (hd.heap_39 w.params) (.ref 68) name = some none) (hv : mA name = some v) (hh : handedOut v = pure v) (hq : Q v ⟨hp, g, dr, t + 1, os⟩) :
    wpAny (model prog w) A (getAttr (.ref e) name expr) Q E ⟨hp, g, dr, t, os⟩ := by
  have hC : hp.get? 68 = some clsE := X _ _ (clsE_in _)
  have hns : hp.Ns d mA := by obtain ⟨es, ep, d1, d2, d3, d4⟩ := hD; exact ⟨od, es, ep, hD0, d1, d2, d4⟩
  have f3 := slotGA.bind (.ref e)
  have hx0 : (expr && onTheHeap (Value.builtin "BaseException.__getattribute__")) = false := by cases expr <;> rfl
  unfold getAttr getAttrBy
  repeat (first | (with_reducible refine wpAny_loadPart_at hE ?_; dsimp only) | with_reducible refine (looks_findIn X findGA).here ?_ | with_reducible refine (looks_findIn X findGAttr).here ?_ | wp_step)
  refine codeAny_call_builtin slotGA.plain PySem.F.entry_bexc_ga (wpAny_check_ga_own (o := excObj tp (some d) tb sl) PySem.F.attrBase_Exception hC .base hE rfl ?_)
  unfold Builtin.«object.__getattribute__»
  repeat (first | (with_reducible refine wpAny_loadPart_at hE ?_; dsimp only) | with_reducible refine (looks_findIn X hf).here ?_ | (with_reducible refine wpAny_nsGet hns ?_; rw [hv]) | with_reducible refine (looks_clsIn X clsE_is).here ?_ | wp_step)
  exact hq
end
end Mine
end

section
open PySem PySem.W PyProof.Rows PySem.Calls PySem.Builtin
set_option Elab.async false
set_option maxRecDepth 100000
namespace Mine
/-- T is an entry of a traceback, not in flight but for fl -/
def TbAt (h : Heap) (T : Addr) (fl : Value) : Prop := ∃ oT ts, h.get? T = some oT ∧ oT.data = .fields ts ∧ ts[3]? = some fl
/-- what stood stands, up to the slots of S; of X nothing is said -/
def KeepU (S X : List Addr) (h h' : Heap) : Prop := ∀ b o, h.get? b = some o → b ∉ X → (b ∉ S → h'.get? b = some o) ∧ ∃ sl, h'.get? b = some { o with slots := sl }
theorem KeepU.refl (S X : List Addr) (h : Heap) : KeepU S X h h := fun _ o e _ => ⟨fun _ => e, o.slots, e⟩
theorem KeepU.trans {S X : List Addr} {h₁ h₂ h₃ : Heap} (x : KeepU S X h₁ h₂) (y : KeepU S X h₂ h₃) : KeepU S X h₁ h₃ := fun b o e n => by
  obtain ⟨a1, sl, a2⟩ := x b o e n
  obtain ⟨_, sl2, b2⟩ := y b _ a2 n
  exact ⟨fun hs => (y b o (a1 hs) n).1 hs, sl2, b2⟩
section
variable {M : Model} {A : Around} {E : Value → Shared → Prop} {s : Shared} {base : Heap} {env : Env} {outer : List Env} {L e T t : Addr} {d : Option Addr} {sl : Array (Option Value)} {Q : Unit → Shared → Prop}

theorem wp_flight {fl : Value} (he : s.heap.get? e = some (excObj t d (.ref T) sl)) (hT : TbAt s.heap T fl) (hne : T ≠ e)
    (hQ : ∀ h', (∀ b, b ≠ T → h'.get? b = s.heap.get? b) → TbAt h' T .none → Q () { s with heap := h' }) : wpAny M A (setFlight (.ref e) none) Q E s := by
  obtain ⟨oT, ts, h1, h2, h3⟩ := hT
  have hsz : 3 < ts.size := (Array.getElem?_eq_some_iff.mp h3).1
  unfold setFlight
  refine wpAny_bind (wpAny_field he rfl (x := .ref T) rfl ?_)
  rw [if_pos (by simp)]
  refine wpAny_setField h1 h2 hsz (hQ _ (fun b hb => Heap.get?_update_other _ _ (Ne.symm hb)) ?_)
  exact ⟨_, _, Heap.get?_update_self _ h1 (Obj.isFreed_of_fields (Obj.data_mapFields h2 _)), Obj.data_mapFields h2 _, by simp [hsz]⟩

theorem wp_entry {tb head : Value} {hadNext : Bool} (hfr : A.frames = some (env :: outer)) (hl : s.heap.FunFrames base (env :: outer)) (hf : env.frame = some L)
    (he : s.heap.get? e = some (excObj t d tb sl))
    (hQ : ∀ h' T, s.heap.get? T = none → T ≠ e → KeepU ((env :: outer).filterMap (·.frame)) [e] s.heap h' → h'.get? e = some (excObj t d (.ref T) sl) → TbAt h' T (rawInt L) → Q () { s with heap := h' }) :
    wpAny M A (do let a ← frameOf env; let pl ← entryPlaceOf L hadNext; let b ← EntryCells.newEntry head a .none (rawInt L) .none pl; setField (.ref e) 1 b) Q E s := by
  have hene : e ∉ (env :: outer).filterMap (·.frame) := fun hm => by
    obtain ⟨_, o, ho, hnf⟩ := hl.mem hm
    rw [he] at ho; injection ho with ho; subst ho; exact hnf _ rfl
  refine wpAny_bind (wpAny_frameOf_fun hfr hl hf fun h₁ hs₁ => ?_)
  refine wpAny_bind (wpAny_entryPlaceOf fun pl hpl => ?_)
  unfold EntryCells.newEntry newFields
  refine wpAny_bind (wpAny_newObj_type ?_ (hpl.sizeOk5 _ _ _ _ _))
  have he₁ : h₁.get? e = some (excObj t d tb sl) := (hs₁.2.1 e hene).trans he
  have he₂ := Heap.get?_push_of_some (h := h₁) { cls := .type "traceback", dict := none, data := .fields ([head, .ref L, .none, rawInt L, .none] ++ (if pl.isEmpty then List.replicate 6 Value.none else pl)).toArray } he₁
  refine wpAny_setField he₂ rfl (show 1 < 6 by decide) ?_
  have hTe : h₁.objs.size ≠ e := Nat.ne_of_gt (Heap.lt_size he₁)
  refine hQ _ h₁.objs.size ?_ hTe (fun b o hb hx => ?_) ?_ ⟨_, _, (Heap.get?_update_other _ _ (Ne.symm hTe)).trans (Heap.get?_push_size h₁ rfl), rfl, ?_⟩
  · cases q : s.heap.get? h₁.objs.size with
    | none => rfl
    | some o => exact absurd (Heap.lt_size q) (by rw [hs₁.1]; exact Nat.lt_irrefl _)
  · have hbe : b ≠ e := fun q => hx (by rw [q]; exact List.mem_singleton.mpr rfl)
    refine ⟨fun hS => ?_, ?_⟩
    · rw [Heap.get?_update_other _ _ (Ne.symm hbe)]
      exact Heap.get?_push_of_some _ ((hs₁.2.1 b hS).trans hb)
    · obtain ⟨sl', h2⟩ := hs₁.2.2 b o hb
      refine ⟨sl', ?_⟩
      rw [Heap.get?_update_other _ _ (Ne.symm hbe)]
      exact Heap.get?_push_of_some _ h2
  · exact (Heap.get?_update_self _ he₂ rfl).trans rfl
  · first | (simp; done) | (rcases hpl with rfl | ⟨_, _, _, _, _, _, _, rfl⟩ <;> simp)

/-- the first frame that the exception leaves -/
theorem wp_leave1 (hfr : A.frames = some (env :: outer)) (hl : s.heap.FunFrames base (env :: outer)) (hf : env.frame = some L) (he : s.heap.get? e = some (excObj t d .none sl))
    (hQ : ∀ h' T, s.heap.get? T = none → T ≠ e → KeepU ((env :: outer).filterMap (·.frame)) [e] s.heap h' → h'.get? e = some (excObj t d (.ref T) sl) → TbAt h' T .none → Q () { s with heap := h' }) :
    wpAny M A (leaving env (.ref e)) Q E s := by
  unfold leaving noteFrame
  simp only [hf]
  refine wpAny_bind (wpAny_bind (wpAny_field he rfl (x := .none) rfl ?_))
  rw [if_neg (by decide)]
  refine wp_entry hfr hl hf he fun h' T x1 x2 x3 x4 x5 => ?_
  refine wp_flight (s := { s with heap := h' }) x4 x5 x2 fun h2 y1 y2 => ?_
  refine hQ h2 T x1 x2 (fun b o hb hx => ?_) ((y1 e (Ne.symm x2)).trans x4) y2
  have hbT : b ≠ T := fun q => by rw [q, x1] at hb; cases hb
  rw [y1 b hbT]
  exact x3 b o hb hx

/-- the frame that looks at it -/
theorem wp_note (hfr : A.frames = some (env :: outer)) (hl : s.heap.FunFrames base (env :: outer)) (hf : env.frame = some L) (he : s.heap.get? e = some (excObj t d (.ref T) sl)) (hT : TbAt s.heap T .none) (hne : T ≠ e)
    (hQ : ∀ h' T', s.heap.get? T' = none → T' ≠ e → KeepU ((env :: outer).filterMap (·.frame)) [e, T] s.heap h' → h'.get? e = some (excObj t d (.ref T') sl) → TbAt h' T' (rawInt L) → Q () { s with heap := h' }) :
    wpAny M A (noteFrame (.ref e) env) Q E s := by
  obtain ⟨oT, ts, h1, h2, h3⟩ := hT
  have hsz : 3 < ts.size := (Array.getElem?_eq_some_iff.mp h3).1
  unfold noteFrame
  simp only [hf]
  refine wpAny_bind (wpAny_field he rfl (x := .ref T) rfl ?_)
  rw [if_pos (by simp)]
  refine wpAny_bind (wpAny_field h1 h2 h3 ?_)
  rw [if_neg (by simp [rawInt])]
  refine wpAny_bind (wpAny_setField h1 h2 hsz ?_)
  have other : ∀ b, b ≠ T → (s.heap.update T (Obj.mapFields (·.setIfInBounds 3 Value.none))).get? b = s.heap.get? b := fun b hb => Heap.get?_update_other _ _ (Ne.symm hb)
  have noRec : ∀ b o, s.heap.get? b = some o → (∀ vs, o.data ≠ .fields vs) → b ≠ T := fun b o hb hnf q => by
    rw [q, h1] at hb; injection hb with hb; subst hb; exact hnf ts h2
  refine wp_entry (s := { s with heap := s.heap.update T (Obj.mapFields (·.setIfInBounds 3 Value.none)) }) hfr (hl.of_keeps fun b o hb hnf => ⟨o, (other b (noRec b o hb hnf)).trans hb, rfl⟩) hf ((other e (Ne.symm hne)).trans he) fun h' T' x1 x2 x3 x4 x5 => ?_
  have hT' : T' ≠ T := fun q => by
    have := Heap.get?_update_self (Obj.mapFields (·.setIfInBounds 3 Value.none)) h1 (Obj.isFreed_of_fields (Obj.data_mapFields h2 _))
    rw [q] at x1
    rw [show (s.heap.update T (Obj.mapFields (·.setIfInBounds 3 Value.none))).get? T = none from x1] at this
    cases this
  refine hQ h' T' ((other T' hT').symm.trans x1) x2 (fun b o hb hx => ?_) x4 x5
  have hbT : b ≠ T := fun q => hx (by rw [q]; simp)
  have hbe : b ∉ [e] := fun q => hx (by rw [List.mem_singleton.mp q]; simp)
  exact x3 b o ((other b hbT).trans hb) hbe
end
end Mine
end

section
open PySem PySem.W PyProof.Rows PySem.Calls PySem.Builtin
set_option Elab.async false
set_option maxRecDepth 100000
namespace Mine
section
variable {prog : Program} {w : World} {A : Around} {E : Value → Shared → Prop} {s : Shared} {env : Env}
theorem wp_raise {x : Sem Value} {Q : Flow → Shared → Prop} (hh : A.handled = none)
    (h : wpAny (model prog w) A x (fun v s₁ => ∃ e t d sl, v = .ref e ∧ (hd.heap_39 w.params).In s₁.heap ∧ s₁.heap.get? e = some (excObj t d .none sl) ∧ E (.ref e) s₁) E s) :
    wpAny (model prog w) A (raiseStmt env (some x) none) Q E s := by
  unfold raiseStmt
  refine wpAny_bind (wpAny_mono h (fun v s₁ h₁ => ?_) fun _ _ x => x)
  obtain ⟨e, t, d, sl, rfl, X, he, hE⟩ := h₁
  obtain ⟨hp, g, dr, tk, os⟩ := s₁
  have hC : hp.get? 68 = some clsE := X _ _ (clsE_in _)
  have hcB : (Value.ref 68 :: bmE).contains (.type "BaseException") = true := by decide +kernel
  repeat (first | with_reducible refine wpAny_loadPart_at he ?_ | with_reducible refine wpAny_loadPart_at hC ?_ | (with_reducible refine wpAny_isSubtype_exc hC ?_; rw [hcB]) | wp_step)
  exact wpAny_raiseNew_none hh hE
end
end Mine
end

section
open PySem PySem.W PyProof.Rows PySem.Calls PySem.Builtin
set_option Elab.async false
set_option maxRecDepth 100000
namespace Mine
section
variable {prog : Program} {w : World} {A : Around} {E : Value → Shared → Prop} {s : Shared} {env : Env} {h₀ : Heap} {x : Str} {body : List Stmt} {Q : Flow → Shared → Prop}
/-- a for over range(a, b): J holds ahead of each turn -/
theorem for_rangeJ {r : Addr} {a₀ b₀ : Int} {t₀ u₀ v₀ : Tok} {m₀ : Str → Option Value} {news : List (Addr × Obj)} (n : Nat) (J : Nat → (Str → Option Value) → List (Addr × Obj) → Prop)
    (hh : A.handled = none) (hr : IsRange s.heap r a₀ b₀ 1 t₀ u₀ v₀) (hn : b₀ = a₀ + n) (hb1 : -1000000 ≤ a₀) (hb2 : a₀ ≤ 1000000) (hb3 : n ≤ 1000000) (F : Fr h₀ env.locals s.heap m₀) (N : News h₀ env.locals s.heap news) (hj : J 0 m₀ news)
    (turn : ∀ i t m₁ news₁ h tk own, i < n → news₁.map (·.1) = news.map (·.1) → OwnOff own (news.map (·.1)) → J i m₁ news₁ → Fr h₀ env.locals h (fun y => if y = x then some (.int (a₀ + (i : Int)) t) else m₁ y) → News h₀ env.locals h (news₁ ++ own) →
      wpAny (model prog w) A (execs body env) (InvPostN h₀ env.locals (J (i + 1)) own (news.map (·.1)) { s with heap := h, toks := tk } Q) E { s with heap := h, toks := tk })
    (done : ∀ m₁ news₁ h tk, news₁.map (·.1) = news.map (·.1) → J n m₁ news₁ → Fr h₀ env.locals h m₁ → News h₀ env.locals h news₁ → Q .next { s with heap := h, toks := tk }) :
    wpAny (model prog w) A (pyIter (.ref r)) (fun it s₂ => LoopAtV prog w A h₀ env x body Q E it s₂) E s := by
  have hsz : Builtin.Range.rangeSize a₀ b₀ 1 = (n : Int) := by rw [rangeSize_nat, hn]; omega
  have hsmall : Builtin.Range.small a₀ b₀ 1 = true := small_one (by omega) (by omega) (by omega) (by omega)
  refine wpAny_pyIter_range hr hsmall ?_
  have W : Walks prog w A s.heap.objs.size [s.heap.objs.size] [s.heap.objs.size] n (fun i v => ∃ t, v = .int (a₀ + i * 1) t)
      (fun i h => IsRangeIter h s.heap.objs.size (a₀ + (i : Nat) * 1) ((n : Int) - (i : Nat)) 1) := Walks.range hh _ a₀ 1 n
  refine loop_invN (fun i m nx => nx.map (·.1) = news.map (·.1) ∧ J i m nx) W ?_ ?_ ?_ ?_ (by show IsRangeIter _ _ _ _ _; rw [hsz]; simpa using Heap.get?_push_size _ rfl) (F.push _) (fun p hp => ⟨Heap.get?_push_of_some _ (N p hp).1, (N p hp).2⟩) ⟨rfl, hj⟩ ?_ ?_
  · intro hm
    exact absurd F.ns.lt ((List.mem_singleton.mp hm) ▸ Nat.lt_irrefl _)
  · intro b hb
    rw [List.mem_singleton.mp hb]
    exact next_is_new F
  · intro p hp hI
    exact absurd (Heap.lt_size (N p hp).1) ((List.mem_singleton.mp hI) ▸ Nat.lt_irrefl _)
  · intro p hp hI
    exact absurd (Heap.lt_size (N p hp).1) ((List.mem_singleton.mp hI) ▸ Nat.lt_irrefl _)
  · rintro i v m₁ nx h tk own hi ⟨t, rfl⟩ ha hoff ⟨_, hJ⟩ F₁ N₁
    have e1 : a₀ + (i : Int) * 1 = a₀ + (i : Int) := by omega
    rw [e1] at F₁
    refine wpAny_mono (turn i t m₁ nx h tk own hi ha hoff hJ F₁ N₁) (fun f s₂ p => ?_) fun _ _ x => x
    have up : InvEndN h₀ env.locals (J (i + 1)) own (news.map (·.1)) { s with heap := h, toks := tk } s₂ →
        InvEndN h₀ env.locals (fun m' nx => nx.map (·.1) = news.map (·.1) ∧ J (i + 1) m' nx) own (news.map (·.1)) { s with heap := h, toks := tk } s₂ := by
      rintro ⟨h', tk', m', news', nx', e', F', N', hn', ho', ha', hS⟩
      exact ⟨h', tk', m', news', nx', e', F', N', hn', ho', ha', ha', hS⟩
    cases f with
    | ret v => exact p
    | brk => exact p
    | next => exact up p
    | cont => exact up p
  · rintro m₁ nx h tk ⟨ha, hJ⟩ F₁ N₁
    exact done m₁ nx h tk ha hJ F₁ N₁
end

def RaiseOk (w : World) (E : Value → Shared → Prop) (v : Value) (s₁ : Shared) : Prop := ∃ e t d sl, v = .ref e ∧ (hd.heap_39 w.params).In s₁.heap ∧ s₁.heap.get? e = some (excObj t d .none sl) ∧ E (.ref e) s₁
section
variable {prog : Program} {w : World} {A : Around} {E : Value → Shared → Prop} {s : Shared} {env : Env} {h₀ : Heap} {L e : Addr} {m : Str → Option Value} {news : List (Addr × Obj)}
theorem exec_raise {ex : PySem.Expr} {pos : Pos} {Q : Flow → Shared → Prop} (hh : A.handled = none) (h : wpAny (model prog w) A (eval ex env) (fun v s₁ => RaiseOk w E v s₁) E s) :
    wpAny (model prog w) A (exec (.Raise (some ex) none pos) env) Q E s := by
  rw [arm_exec_Raise]
  refine wpAny_bind (wpAny_standAt ?_)
  exact wp_raise hh (wpAny_bind (wpAny_mono h (fun v s₁ h₁ => wpAny_bind (wpAny_standAt (wpAny_pure h₁))) fun _ _ x => x))
theorem raiseOk_of {t : Addr} {d : Option Addr} {sl : Array (Option Value)} (F : Fr h₀ L s.heap m) (N : News h₀ L s.heap news) (X : (hd.heap_39 w.params).In h₀) (hm : (e, excObj t d .none sl) ∈ news) (h : E (.ref e) s) : RaiseOk w E (.ref e) s :=
  ⟨e, t, d, sl, rfl, Frag.In.keeps X F.keep, (N _ hm).1, h⟩

theorem make_exc_N {rest : List Value} {R : Result → Shared → Prop} (F : Fr h₀ L s.heap m) (N : News h₀ L s.heap news) (X : (hd.heap_39 w.params).In h₀)
    (h : ∀ e t h', Fr h₀ L h' m → News h₀ L h' ((e, excObj t none .none) :: (t, tupObj rest) :: news) → (∀ p ∈ news, p.1 < t) → t < e →
      codeAny (model prog w) (A.under (.builtin "type.__call__" ⟨.ref 68 :: rest, []⟩)) (.call (.ref 58) ⟨.ref e :: rest, []⟩) (InitBack e R) { s with heap := h' })
    (hz : rest.length ≤ sizeLine) : codeAny (model prog w) A (.call (.ref 68) ⟨rest, []⟩) R s := by
  obtain ⟨hp, g, dr, tk, os⟩ := s
  refine make_exc (Frag.In.keeps X F.keep) (h (hp.objs.size + 1) hp.objs.size _ ((F.push _).push _) ?_ (fun p hp' => Heap.lt_size (N p hp').1) (Nat.lt_succ_self _)) hz
  have := (N.push F (tupObj rest)).push (F.push _) (excObj hp.objs.size none .none)
  rw [Heap.size_push] at this
  exact this

/-- the frame that raised is left -/
theorem leave_look {M : Model} {A : Around} {base g : Heap} {outer : List Env} {name : Str} {scope : Scope} {a d t : Addr} {cd : Value} {od : Obj} {sl : Array (Option Value)} {Q : Unit → Shared → Prop}
    (B : Below A base outer g) (F : Fr g L s.heap m) (N : News g L s.heap news) (hm : (e, excObj t (some d) .none sl) ∈ news) (hd : (d, od) ∈ news) (hde : @Ne Nat d e)
    (hQ : ∀ h' T, KeepU (L :: outer.filterMap (·.frame)) [e] s.heap h' → h'.get? e = some (excObj t (some d) (.ref T) sl) → TbAt h' T .none → T ≠ e → s.heap.get? T = none → h'.get? d = some od → Q () { s with heap := h' })
    (hk : scope.kind = .function := by rfl) : wpAny M (A.deeper (envOf name scope L a cd)) (leaving (envOf name scope L a cd) (.ref e)) Q E s := by
  have B' := B.push (name := name) (a := a) (cd := cd) F hk
  refine wp_leave1 B'.stack B'.frames rfl (N _ hm).1 fun h' T x1 x2 x3 x4 x5 => ?_
  have e1 : (envOf name scope L a cd :: outer).filterMap (·.frame) = L :: outer.filterMap (·.frame) := rfl
  rw [e1] at x3
  refine hQ h' T x3 x4 x5 x2 x1 ((x3 d od (N _ hd).1 (fun q => hde (List.mem_singleton.mp q))).1 fun q => ?_)
  rcases List.mem_cons.mp q with q | q
  · exact (N _ hd).2.1 q
  · obtain ⟨_, o, ho, _⟩ := B.frames.mem q
    rw [show g.get? d = none from (N _ hd).2.2] at ho
    cases ho
end

section
variable {w : World} {base g : Heap} {outer : List Env} {mean : ExcName → Option Value} {mg mb : Str → Option Value} {s : Shared} {args : List (Addr × Obj)}
theorem enterL {prog : Program} {d u : Nat} {R : Result → Shared → Prop} {name qual : Str} {params : Arguments} {body : List Stmt} {scope : Scope} {dV kV doc pm cdv ct oc : Value} {an od : Option Addr} {osl : Array (Option Value)} {f : Addr} {cargs : Args} {binds : List (Str × Value)}
    (G : Gr w base g outer mean mg mb s args)
    (ho : (hd.heap_39 w.params).lookup f = some ⟨oc, od, .func (fnOf name qual params body scope dV kV doc pm an cdv ct), osl⟩) (hcd : codeIn (hd.heap_39 w.params) cdv qual = true) (hroom : d < recursionLimit)
    (hbind : BindsTo s (fnOf name qual params body scope dV kV doc pm an cdv ct) cargs binds) (hloc : ∀ y ∈ binds, scope.names.lookup y.1 = some .local)
    (h : ∀ L' h₁, L' = s.heap.objs.size → Fr g L' h₁ (fun y => binds.reverse.lookup y) → News g L' h₁ args → Below (At outer d u) base outer g → (hd.heap_39 w.params).In g → Top hd.view_39 lo3 mean mg mb g →
      wpAny (model prog w) ((At outer d u).deeper (envOf qual scope L' f cdv)) (execs body (envOf qual scope L' f cdv))
        (fun fl s' => R (.ok (.ret (match fl with | .ret v => v | _ => .none))) s')
        (fun e s' => wpAny (model prog w) ((At outer d u).deeper (envOf qual scope L' f cdv)) (leaving (envOf qual scope L' f cdv) e) (fun _ s'' => R (.error e) s'') (fun e' s'' => R (.error e') s'') s')
        { s with heap := h₁, toks := s.toks + binds.length })
    (hco : scope.isCoroutine = false) (hgen : scope.isGenerator = false) (hk : scope.kind = .function)
    (hcell : ∀ x ∈ scope.names, x.2 ≠ .cell) : codeAny (model prog w) (At outer d u) (.call (.ref f) cargs) R s := by
  refine codeAny_call_def (fd := fnOf name qual params body scope dV kV doc pm an cdv ct) (body := body) (binds := binds) hroom (G.st _ _ (G.X _ _ ho)) rfl (G.T.nolimit.keeps G.st) (codeRec_of (Frag.In.keeps G.X G.st) hcd) rfl hbind hcell hloc (fun h₁ hns hk₁ => ?_) hco hgen hk
  exact h s.heap.objs.size h₁ rfl ⟨hns, fun b o e => hk₁ b o (G.st b o e), G.sz⟩ (G.news hk₁) ⟨rfl, G.B.stays, G.B.frames⟩ G.X G.T
end
/-- what a look down the page gives: nothing, or the failure in flight -/
def Raised (s : Shared) (frs : List Addr) (mA : Str → Option Value) (r : Result) (s' : Shared) : Prop :=
  ∃ e t d od T sl h' tk', r = .error (.ref e) ∧ s' = { s with heap := h', toks := tk' } ∧ KeepU frs [] s.heap h' ∧ h'.get? e = some (excObj t (some d) (.ref T) sl) ∧ TbAt h' T .none ∧ T ≠ e ∧ h'.get? d = some od ∧ DictIs od mA ∧
    s.heap.get? e = none ∧ s.heap.get? d = none ∧ s.heap.get? T = none ∧ d ≠ e ∧ d ≠ T

theorem raised_of {w : World} {base g : Heap} {outer : List Env} {mean : ExcName → Option Value} {mg mb : Str → Option Value} {s s₁ : Shared} {args : List (Addr × Obj)} {L' e t d T : Addr} {m' : Str → Option Value} {news' : List (Addr × Obj)} {od : Obj} {sl : Array (Option Value)} {mA : Str → Option Value} {h' : Heap} {tk' : Nat}
    (G : Gr w base g outer mean mg mb s args) (hL : L' = s.heap.objs.size) (F : Fr g L' s₁.heap m') (N : News g L' s₁.heap news') (ha : ∀ p ∈ args, p ∈ news') (he : (e, excObj t (some d) .none sl) ∈ news') (hd : (d, od) ∈ news')
    (hea : e ∉ args.map (·.1)) (hda : d ∉ args.map (·.1)) (hde : d ≠ e) (hD : DictIs od mA)
    (k1 : KeepU (L' :: outer.filterMap (·.frame)) [e] s₁.heap h') (k2 : h'.get? e = some (excObj t (some d) (.ref T) sl)) (k3 : TbAt h' T .none) (k4 : T ≠ e) (k5 : s₁.heap.get? T = none) (k6 : h'.get? d = some od) :
    Raised s (outer.filterMap (·.frame)) mA (.error (.ref e)) { s with heap := h', toks := tk' } := by
  have st := G.stays F N ha
  have fe := G.fresh (N _ he).2.2 hea
  have fd := G.fresh (N _ hd).2.2 hda
  refine ⟨e, t, d, od, T, sl, h', tk', rfl, rfl, fun b o hb _ => ?_, k2, k3, k4, k6, hD, fe, fd, ?_, hde, fun q => ?_⟩
  · have hbe : b ∉ [e] := fun q => by rw [List.mem_singleton.mp q, fe] at hb; cases hb
    obtain ⟨z1, z2⟩ := k1 b o (st b o hb) hbe
    refine ⟨fun hS => z1 fun q => ?_, z2⟩
    rcases List.mem_cons.mp q with q | q
    · rw [q, hL] at hb; exact absurd (Heap.lt_size hb) (Nat.lt_irrefl _)
    · exact hS q
  · cases q : s.heap.get? T with
    | none => rfl
    | some o => rw [st T o q] at k5; cases k5
  · rw [← q, (N _ hd).1] at k5; cases k5
end Mine
end

section
open PySem PySem.W PyProof.Rows PySem.Calls PySem.Builtin
set_option Elab.async false
set_option maxRecDepth 100000
namespace Mine
section
variable {prog : Program} {w : World} {A : Around} {E : Value → Shared → Prop} {s : Shared} {h₀ : Heap} {L l : Addr} {m : Str → Option Value} {news : List (Addr × Obj)} {ls : List (Str × Tok)} {n : Nat} {k : Int} {u : Tok} {Q : Value → Shared → Prop}
theorem item_strs {value slice : PySem.Expr} (N : News h₀ L s.heap news) (hm : (l, listOf (strValues ls).toArray n) ∈ news) (h0 : 0 ≤ k) (h1 : k < ls.length) (h2 : k < 1000000)
    (h : ∀ y t, ls[k.toNat]? = some (y, t) → Q (.str y t) s)
    (hs : subscripted slice false (.ref l) (.int k u) = operate [.ref l, .int k u] (getItem (.ref l) (.int k u)) := by with_unfolding_all rfl) :
    wpAny (model prog w) A (subscriptTail value slice (.ref l) (.int k u)) Q E s := by
  have hl := News.isList N hm
  obtain ⟨⟨y, t⟩, e⟩ : ∃ p, ls[k.toNat]? = some p := ⟨_, List.getElem?_eq_getElem (by omega)⟩
  exact tail_any hl.typeIs slot_list_getitem.lookup (wpAny_getItem_list hl h0 (by omega) (by simp [strValues, e]) (h y t e)) hs
theorem len_strs {c : Nat} (N : News h₀ L s.heap news) (hm : (l, listOf (strValues ls).toArray n) ∈ news) (hc : ls.length = c) (hb : c ≤ 1000000) (h : ∀ t k, Q (.int (c : Int) t) { s with toks := k }) :
    wpAny (model prog w) A (call (.builtin "len") [.ref l]) Q E s := by
  have e : (strValues ls).toArray.size = c := by simp [strValues, hc]
  refine len_list (News.isList N hm) (by rw [e]; omega) ?_
  rw [e]
  exact h _ _
end
theorem len_strs6 {prog : Program} {w : World} {A : Around} {E : Value → Shared → Prop} {s : Shared} {h₀ : Heap} {L l : Addr} {news : List (Addr × Obj)} {ls : List (Str × Tok)} {n : Nat} {Q : Value → Shared → Prop} (N : News h₀ L s.heap news) (hm : (l, listOf (strValues ls).toArray n) ∈ news) (hc : ls.length = 6) (h : ∀ t k, Q (.int 6 t) { s with toks := k }) :
    wpAny (model prog w) A (call (.builtin "len") [.ref l]) Q E s := len_strs N hm hc (by decide) h
def SameP (m₀ : Str → Option Value) (news : List (Addr × Obj)) (x : Str) (P : Prop) : (Str → Option Value) → List (Addr × Obj) → Prop := fun m' nx => nx = news ∧ (∀ z, z ≠ x → m' z = m₀ z) ∧ P
section
variable {prog : Program} {w : World} {A : Around} {E : Value → Shared → Prop} {s : Shared} {env : Env} {h₀ : Heap} {x : Str} {body : List Stmt} {Q : Flow → Shared → Prop}
/-- a for over a range whose turns store nothing -/
theorem for_rangeP {r : Addr} {a₀ b₀ : Int} {t₀ u₀ v₀ : Tok} {m₀ : Str → Option Value} {news : List (Addr × Obj)} (n : Nat) (P : Nat → Prop)
    (hh : A.handled = none) (hr : IsRange s.heap r a₀ b₀ 1 t₀ u₀ v₀) (hn : b₀ = a₀ + n) (hb1 : -1000000 ≤ a₀) (hb2 : a₀ ≤ 1000000) (hb3 : n ≤ 1000000) (F : Fr h₀ env.locals s.heap m₀) (N : News h₀ env.locals s.heap news) (hp : P 0)
    (turn : ∀ i t h tk own, i < n → OwnOff own (news.map (·.1)) → P i → Fr h₀ env.locals h (fun y => if y = x then some (.int (a₀ + (i : Int)) t) else m₀ y) → News h₀ env.locals h (news ++ own) →
      wpAny (model prog w) A (execs body env) (InvPostN h₀ env.locals (SameP m₀ news x (P (i + 1))) own (news.map (·.1)) { s with heap := h, toks := tk } Q) E { s with heap := h, toks := tk })
    (done : ∀ (u : Str → Option Value) h tk, P n → Fr h₀ env.locals h (fun y => if y = x then u y else m₀ y) → News h₀ env.locals h news → Q .next { s with heap := h, toks := tk }) :
    wpAny (model prog w) A (pyIter (.ref r)) (fun it s₂ => LoopAtV prog w A h₀ env x body Q E it s₂) E s := by
  refine for_rangeJ n (fun i => SameP m₀ news x (P i)) hh hr hn hb1 hb2 hb3 F N ⟨rfl, fun _ _ => rfl, hp⟩ ?_ ?_
  · rintro i t m₁ news₁ h tk own hi ha ho ⟨rfl, hm, hP⟩ F₁ N₁
    refine turn i t h tk own hi ho hP ?_ N₁
    have e : (fun y => if y = x then some (Value.int (a₀ + (i : Int)) t) else m₀ y) = fun y => if y = x then some (Value.int (a₀ + (i : Int)) t) else m₁ y := by
      funext y
      by_cases q : y = x
      · rw [if_pos q, if_pos q]
      · rw [if_neg q, if_neg q, hm y q]
    rw [e]; exact F₁
  · rintro m₁ news₁ h tk ha ⟨rfl, hm, hP⟩ F₁ N₁
    refine done m₁ h tk hP ?_ N₁
    have e : (fun y => if y = x then m₁ y else m₀ y) = m₁ := by
      funext y
      by_cases q : y = x
      · rw [if_pos q]
      · rw [if_neg q, hm y q]
    rw [e]; exact F₁
theorem sameP_end {m₀ m' : Str → Option Value} {news : List (Addr × Obj)} {P : Prop} {L : Addr} {own news' : List (Addr × Obj)} {adr : List Addr} {s₁ : Shared} {h' : Heap} {tk : Nat} (F : Fr h₀ L h' m') (N : News h₀ L h' news')
    (hm : ∀ z, z ≠ x → m' z = m₀ z) (hP : P) (hn : ∀ p ∈ news, p ∈ news') (ho : ∀ p ∈ own, p ∈ news') (ha : news.map (·.1) = adr) :
    InvEndN h₀ L (SameP m₀ news x P) own adr s₁ { s₁ with heap := h', toks := tk } := InvEndN.intro F N ⟨rfl, hm, hP⟩ ha hn ho
end
/-- the rows are as due above i -/
def SameTo (l1 l2 : List (Str × Tok)) (i : Nat) : Prop := ∀ j, j < i → (l1.map (·.1))[j]? = (l2.map (·.1))[j]?
theorem same_step {l1 l2 : List (Str × Tok)} {i : Nat} {y y' : Str} {t t' : Tok} (h : SameTo l1 l2 i) (h1 : l1[(0 + (i : Int)).toNat]? = some (y, t)) (h2 : l2[(0 + (i : Int)).toNat]? = some (y', t')) (e : y' = y) : SameTo l1 l2 (i + 1) := by
  intro j hj
  have e1 : (0 + (i : Int)).toNat = i := by omega
  rw [e1] at h1 h2
  by_cases q : j = i
  · subst q; simp [h1, h2, e]
  · exact h j (by omega)
theorem same_step' {l1 l2 : List (Str × Tok)} {i : Nat} {y y' : Str} {t t' : Tok} (h : SameTo l1 l2 i) (h2 : l2[(0 + (i : Int)).toNat]? = some (y', t')) (h1 : l1[(0 + (i : Int)).toNat]? = some (y, t)) (e : (y' != y) = false) : SameTo l1 l2 (i + 1) := same_step h h1 h2 (by simpa using e)
theorem same_all {l1 l2 : List (Str × Tok)} (h : SameTo l1 l2 6) (h1 : l1.length = 6) (h2 : l2.length = 6) : l1.map (·.1) = l2.map (·.1) := by
  apply List.ext_getElem?
  intro j
  by_cases q : j < 6
  · exact h j q
  · rw [List.getElem?_eq_none (by simp; omega), List.getElem?_eq_none (by simp; omega)]
theorem News.cut3 {h₀ h : Heap} {L : Addr} {a b c : Addr × Obj} {own : List (Addr × Obj)} (N : News h₀ L h (a :: b :: c :: own)) : News h₀ L h [a, b, c] := fun p hp => N p (by
  simp only [List.mem_cons, List.not_mem_nil, or_false] at hp ⊢
  rcases hp with h | h | h
  · exact .inl h
  · exact .inr (.inl h)
  · exact .inr (.inr (.inl h)))
theorem own_sub3 {a b c : Addr × Obj} {own : List (Addr × Obj)} : ∀ p ∈ own, p ∈ a :: b :: c :: own := fun _ h => .tail _ (.tail _ (.tail _ h))
theorem off_col {f m : Str → Option Value} {x : Str} {v : Option Value} (h : f = fun y => if y = x then v else m y) : ∀ z, z ≠ x → f z = m z := fun z hz => by rw [h]; exact if_neg hz
theorem within_put1 {mA : Str → Option Value} {ns : List Str} {n : Str} {v : Value} (h : Within mA ns) : Within (put1 mA n v) (n :: ns) := Within.cons n v h
def mA3 (k : Nat) (x y : Str) (t1 t2 t3 : Tok) : Str → Option Value := put1 (put1 (put1 (fun _ => none) (Str.ofString "test") (.int (0 + (k : Int)) t1)) (Str.ofString "example") (.str x t2)) (Str.ofString "got") (.str y t3)
/-- what a look gives: nothing where the two columns agree, or the failure at the first row that differs -/
def LookPost (s : Shared) (frs : List Addr) (l1 l2 : List (Str × Tok)) (r : Result) (s' : Shared) : Prop :=
  (∃ h' tk', r = .ok (.ret .none) ∧ s' = { s with heap := h', toks := tk' } ∧ s.heap.StaysIn h' ∧ l1.map (·.1) = l2.map (·.1)) ∨
  (∃ k x y t1 t2 t3 u1 u2, k < 6 ∧ l1[k]? = some (x, u1) ∧ l2[k]? = some (y, u2) ∧ y ≠ x ∧ SameTo l1 l2 k ∧ Raised s frs (mA3 k x y t1 t2 t3) r s')
theorem look_none {w : World} {base g : Heap} {outer : List Env} {mean : ExcName → Option Value} {mg mb : Str → Option Value} {s : Shared} {args : List (Addr × Obj)} {frs : List Addr} {l1 l2 : List (Str × Tok)} {L' : Addr} {h' : Heap} {m' : Str → Option Value} {news' : List (Addr × Obj)} {tk' : Nat}
    (G : Gr w base g outer mean mg mb s args) (F : Fr g L' h' m') (N : News g L' h' news') (ha : ∀ p ∈ args, p ∈ news') (hs : SameTo l1 l2 6) (h1 : l1.length = 6) (h2 : l2.length = 6) :
    LookPost s frs l1 l2 (.ok (.ret .none)) { s with heap := h', toks := tk' } :=
  .inl ⟨h', tk', rfl, rfl, G.stays F N ha, same_all hs h1 h2⟩
theorem look_some {s : Shared} {frs : List Addr} {l1 l2 : List (Str × Tok)} {r : Result} {s' : Shared} {i : Nat} {x x' y y' : Str} {t1 t2 t3 u1 u1' u2 u2' : Tok} (hi : i < 6) (hs : SameTo l1 l2 i) (hne : (y != x) = true)
    (e2 : l2[(0 + (i : Int)).toNat]? = some (y, u2)) (e1 : l1[(0 + (i : Int)).toNat]? = some (x, u1))
    (e1' : l1[(0 + (i : Int)).toNat]? = some (x', u1')) (e2' : l2[(0 + (i : Int)).toNat]? = some (y', u2')) (hR : Raised s frs (mA3 i x' y' t1 t2 t3) r s') : LookPost s frs l1 l2 r s' := by
  have e0 : (0 + (i : Int)).toNat = i := by omega
  rw [e0] at e1 e2 e1' e2'
  rw [e1] at e1'; cases e1'
  rw [e2] at e2'; cases e2'
  exact .inr ⟨i, x, y, t1, t2, t3, u1, u2, hi, e1, e2, by simpa using hne, hs, hR⟩
end Mine
end

section
open PySem PySem.W PyProof.Rows PySem.Calls
set_option Elab.async false

namespace Mine

abbrev tup2 (a b : Value) : Obj := { cls := .type "tuple", data := .seq [a, b].toArray }
set_option maxRecDepth 100000 in
set_option maxHeartbeats 8000000 in
theorem c_look {w : World} {base g : Heap} {outer : List Env} {mean : ExcName → Option Value} {mg mb : Str → Option Value} {s : Shared} {p a b : Addr} {l1 l2 : List (Str × Tok)} {n1 n2 : Nat}
    (h1 : l1.length = 6) (h2 : l2.length = 6)
    (G : Gr w base g outer mean mg mb s [(p, tup2 (.ref a) (.ref b)), (a, listOf (strValues l1).toArray n1), (b, listOf (strValues l2).toArray n2)]) :
    codeAny (model PySem.Challenge.rw_kl0455_01.row.toRowW.prog w) (At outer 390 4900) (.call (.ref 105) ⟨[.ref p], []⟩)
      (LookPost s (outer.filterMap (·.frame)) l1 l2) s := by
  have XS := Frag.In.keeps G.X G.st
  have X0 := G.X
  revert X0; k_fill; intro X0
  refine' enterL (binds := [(Str.ofString "pair", .ref p)]) G ?k6 ?k7 ?k8 ?k9 ?kB ?_ ?c2 ?c3 ?c4 ?c5; (case k6 => k_is); (case k7 => k_is); (case k8 => exact Nat.le_of_ble_eq_true rfl); (case k9 => first | exact BindsTo.of_eq rfl | exact binds_K (by k_in) rfl (by k_is) rfl rfl rfl | fail "k_enter: no rule for these arguments"); (case c5 => decide); (case kB => exact locs rfl); (case c2 => exact rfl); (case c3 => exact rfl); (case c4 => exact rfl)
  k_whole
  clear XS
  intro L' h' eL F' N' B' X' T'
  (try dsimp only)
  k_fold
  k_with_none
  k_with "getMethod ref" => (k_here; (with_reducible show wpAny _ _ (getMethod (Value.ref 36) (PySem.Str.ofString "sub") _) _ _ _); k_dflt (refine' getMethod_sub ?hq18_F ?hq18_X ?_; (case hq18_F => k_asm); (case hq18_X => k_asm)))
  k_with "binaryOp Mult int str" => (k_here; refine mul_int_sp (by omega) (by omega) ?_; intro _ _)
  k_with "binaryOp Mult str int" => (k_here; refine mul_str_sp (by omega) (by omega) ?_; intro _ _)
  k_with "call builtin:re.Pattern.sub" => (k_here; k_dflt (refine' sub_call ?hq21_F ?hq21_N ?hq21_X spaces_no92 ?hq21_b ?hq21_c ?_; (case hq21_F => k_asm); (case hq21_N => k_asm); (case hq21_X => k_asm); (case hq21_b => (refine Nat.le_trans (by assumption) (by omega))); (case hq21_c => exact ins_fits (by assumption) (by first | assumption | omega))); intro t9q h9q k9q F9q N9q)
  k_with "subscriptTail Name Slice ref ref" => (k_here; (with_reducible show wpAny _ _ (subscriptTail _ (PySem.Expr.Slice _ _ none _) (Value.ref _) (Value.ref _)) _ _ _); k_dflt (refine' slice_strs ?hq22_F ?hq22_N ?hq22_l ?hq22_p ?hq22_q ?hq22_e ?_ ?hq22_s ?hq22_t ?hq22_z; (case hq22_F => k_asm); (case hq22_N => k_asm); (case hq22_l => exact News.isList (by k_asm) (by k_mem)); (case hq22_p => kmk_part); (case hq22_q => kmk_part); (case hq22_e => first | ((with_reducible refine cut_run ?_ ?_) <;> omega) | ((with_reducible refine cut_upto ?_) <;> omega) | ((with_reducible refine cut_from ?_) <;> omega)); (case hq22_s => with_unfolding_all rfl); (case hq22_t => kmk_pure); (case hq22_z => (rw [sizeLine_eq]; simp [strValues]; omega))); intro D'q h'q F'q N'q l1q; (try k_lt l1q); (try k_sweep))
  k_with "call builtin:str.join" => (k_here; (with_reducible show wpAny _ _ (call (Value.builtin "str.join") [Value.str _ _, Value.ref _]) _ _ _); k_dflt (refine' join_strs ?hq23_N ?hq23_m ?hq23_o ?_; (case hq23_N => k_asm); (case hq23_m => k_mem); (case hq23_o => exact part_ok (by assumption) (by assumption))); intro t9q k9q)
  k_with "call builtin:str.split" => (k_here; k_dflt (refine' split_nl ?hq24_F ?hq24_N ?hq24_e ?_ ?hq24_z; (case hq24_F => k_asm); (case hq24_N => k_asm); (case hq24_e => exact part_rows (by assumption) (by assumption) (by omega) (by omega) (by omega)); (case hq24_z => exact part_fits (part_len (by assumption) (by assumption)) (by omega))); intro D'q ls9q h'q k9q e9q F'q N'q l1q; (try k_lt l1q); (try k_sweep))
  k_with "binaryOp Add ref ref" => (k_here; (with_reducible show wpAny _ _ (binaryOp _ (Value.ref _) (Value.ref _)) _ _ _); k_dflt (refine' add_strs ?hq25_F ?hq25_N ?hq25_a ?hq25_b ?_ ?hq25_z; (case hq25_F => k_asm); (case hq25_N => k_asm); (case hq25_a => k_mem); (case hq25_b => k_mem); (case hq25_z => ((have h8q := len9 (by assumption) (by assumption)); (simp only [List.length_append, List.length_take, List.length_drop]); omega))); intro D'q h'q F'q N'q l1q; (try k_lt l1q); (try k_sweep))
  k_with "subscriptTail Name Name ref int" => (k_here; k_dflt (refine' item_strs ?hq26_N ?hq26_m ?hq26_a ?hq26_b ?hq26_c ?_; (case hq26_N => k_asm); (case hq26_m => k_mem); (case hq26_a => omega); (case hq26_b => omega); (case hq26_c => omega)); intro y9q t9q e9q)
  k_with "call builtin:len" => (k_here; (with_reducible show wpAny _ _ (call (Value.builtin "len") [Value.ref _]) _ _ _); k_dflt (refine' len_strs6 ?hq27_N ?hq27_m ?hq27_c ?_; (case hq27_N => k_asm); (case hq27_m => k_mem); (case hq27_c => assumption)); intro t9q k9q)
  k_with "exec Raise some none" => (k_here; k_dflt (refine exec_raise rfl ?_))
  k_with "call ref" => (k_here; (with_reducible show wpAny _ _ (call (Value.ref 68) _ _) _ _ _); k_dflt (refine wpAny_call ?_; (refine' make_exc_N ?hq29_F ?hq29_N ?hq29_X ?_ ?hq29_z; (case hq29_F => k_asm); (case hq29_N => first | exact News.cut3 (by k_asm) | k_asm); (case hq29_X => k_asm); (case hq29_z => exact Nat.le_of_ble_eq_true rfl)); k_whole; intro e'q t'q h'q F'q N'q l1q l2q; (try k_lt l1q); (try k_lt2 l2q); (try k_sweep); k_enter))
  k_with "setAttr ref" => (k_here; k_dflt (refine' set_first ?hq30_F ?hq30_N ?hq30_X ?hq30_e ?hq30_n ?hq30_B ?_; (case hq30_F => k_asm); (case hq30_N => k_asm); (case hq30_X => k_asm); (case hq30_e => k_all); (case hq30_n => first | exact ns67_test | exact ns67_example | exact ns67_got); (case hq30_B => first | exact exc_test | exact exc_example | exact exc_got)); intro d'q od'q h'q tk'q F'q N'q hD'q l1q; (try k_lt l1q))
  k_with "setAttr ref" => (k_here; k_dflt (refine' set_next ?hq31_F ?hq31_N ?hq31_X ?hq31_de ?hq31_e ?hq31_d ?hq31_n ?hq31_B ?hq31_D ?hq31_w ?hq31_z ?_; (case hq31_F => k_asm); (case hq31_N => k_asm); (case hq31_X => k_asm); (case hq31_de => k_ne); (case hq31_e => k_all); (case hq31_d => k_all); (case hq31_n => first | exact ns67_test | exact ns67_example | exact ns67_got); (case hq31_B => first | exact exc_test | exact exc_example | exact exc_got); (case hq31_D => assumption); (case hq31_w => first | exact within_put1 Within.nil | exact within_put1 (within_put1 Within.nil)); (case hq31_z => decide)); intro od'q h'q tk'q F'q N'q hD'q)
  k_with "leaving ref" => (k_here; k_dflt (refine' leave_look ?hq32_B ?hq32_F ?hq32_N ?hq32_m ?hq32_d ?hq32_e ?_; (case hq32_B => k_asm); (case hq32_F => k_asm); (case hq32_N => k_asm); (case hq32_m => k_mem); (case hq32_d => k_mem); (case hq32_e => omega)); intro h'q T'q k1'q k2'q k3'q k4'q k5'q k6'q)
  k_with "RaiseOk ref" => (k_here; (refine' raiseOk_of ?hq33_F ?hq33_N ?hq33_X ?hq33_m ?_; (case hq33_F => k_asm); (case hq33_N => k_asm); (case hq33_X => k_asm); (case hq33_m => k_mem)); (try k_unmd); (try dsimp only); (try k_fold))
  k_with "InvEndN" => (k_here; (refine' sameP_end ?hq34_F ?hq34_N ?hq34_hm ?hq34_hP ?hq34_hn ?hq34_ho rfl; (case hq34_F => k_asm); (case hq34_N => k_asm); (case hq34_hm => exact off_col rfl); (case hq34_hP => exact same_step' (by assumption) (by assumption) (by assumption) (by assumption)); (case hq34_ho => exact own_sub3); (case hq34_hn => (repeat' first | exact subs_nil | refine subs_cons (by k_mem) ?_))))
  k_with "pyIter ref" => k_dflt ((refine' for_rangeP 6 (SameTo l1 l2) ?hh ?hr ?hn ?b1 ?b2 ?b3 ?F ?N ?hj ?_ ?_); (case hh => rfl); (case hr => assumption); (case hn => omega); (case b1 => decide); (case b2 => decide); (case b3 => decide); (case F => k_asm); (case N => k_asm); (case hj => exact fun _ h => absurd h (Nat.not_lt_zero _)); (intro i9 t9 h9 tk9 own9 hi9 ho9 hP9 F9 N9; (simp only [List.cons_append, List.nil_append] at N9); k_fold); (rotate_left; intro u9 h9 tk9 hP9 F9 N9; (try k_fold); rotate_left))
  w_top off
  k_steps
  · refine' look_some (by assumption) (by assumption) (by assumption) (by assumption) (by assumption) (by assumption) (by assumption) ?hR
    case hR => exact raised_of G eL (by k_asm) (by k_asm) (by repeat' first | exact subs_nil | refine subs_cons (by k_mem) ?_) (by k_mem) (by k_mem) (allNe_to (by simp only [AllNe, and_true]; and_intros <;> omega)) (allNe_to (by simp only [AllNe, and_true]; and_intros <;> omega)) (by k_ne) (by assumption) (by assumption) (by assumption) (by assumption) (by assumption) (by assumption) (by assumption)
  · exact look_none G (by k_asm) (by k_asm) (by repeat' first | exact subs_nil | refine subs_cons (by k_mem) ?_) (by assumption) (by assumption) (by assumption)
end Mine
end

section
open PySem PySem.W PyProof.Rows PySem.Calls
set_option Elab.async false
namespace Mine
/-- the first n objects -/
def front (h : Heap) (n : Nat) : Heap := { h with objs := h.objs.extract 0 n }
theorem front_size {h : Heap} {n : Nat} (hn : n ≤ h.objs.size) : (front h n).objs.size = n := by simp [front]; omega
theorem front_get {h : Heap} {n : Nat} {b : Addr} {o : Obj} (hb : @LT.lt Nat _ b n) (e : h.get? b = some o) : (front h n).get? b = some o := by
  unfold Heap.get? at e ⊢
  have : (front h n).objs[b]? = h.objs[b]? := by (simp [front, Array.getElem?_extract]; omega)
  rw [this]; exact e
theorem of_front {h : Heap} {n : Nat} {b : Addr} {o : Obj} (e : (front h n).get? b = some o) : h.get? b = some o := by
  have hb := Heap.lt_size e
  have hb' : @LT.lt Nat _ b n := by
    have hb2 : @LT.lt Nat _ b (h.objs.extract 0 n).size := hb
    simp only [Array.size_extract] at hb2; omega
  unfold Heap.get? at e ⊢
  have : (front h n).objs[b]? = h.objs[b]? := by (simp [front, Array.getElem?_extract]; omega)
  rw [this] at e; exact e

/-- the ground of a call that may note frames -/
structure GrU (w : World) (base : Heap) (outer : List Env) (mean : ExcName → Option Value) (mg mb : Str → Option Value) (s : Shared) (args : List (Addr × Obj)) : Prop where
  X : (hd.heap_39 w.params).In base
  T : Top hd.view_39 lo3 mean mg mb base
  st : base.StaysIn s.heap
  fr : s.heap.FunFrames base outer
  N : ∀ p ∈ args, s.heap.get? p.1 = some p.2 ∧ base.get? p.1 = none ∧ p.1 ∉ outer.filterMap (·.frame)

/-- the call comes back; what stood stands, but for the slots of the frames -/
def RetU (s : Shared) (frs : List Addr) (P : Value → List (Addr × Obj) → Prop) (r : Result) (s' : Shared) : Prop :=
  ∃ v own h' tk', r = .ok (.ret v) ∧ s' = { s with heap := h', toks := tk' } ∧ KeepU frs [] s.heap h' ∧ (∀ p ∈ own, h'.get? p.1 = some p.2 ∧ s.heap.get? p.1 = none) ∧ P v own

section
variable {w : World} {base g : Heap} {outer : List Env} {mean : ExcName → Option Value} {mg mb : Str → Option Value} {s : Shared} {args : List (Addr × Obj)}

theorem GrU.gr (U : GrU w base outer mean mg mb s args) : Gr w base (hideAll s.heap (args.map (·.1))) outer mean mg mb s args := by
  have st : base.StaysIn (hideAll s.heap (args.map (·.1))) := fun b o e => hideAll_get _ (U.st b o e) fun q => by
    obtain ⟨p, hp, rfl⟩ := List.mem_map.mp q
    rw [(U.N p hp).2.1] at e; cases e
  refine ⟨⟨rfl, st, funFrames_hideAll U.fr fun env he a ha hf => ?_⟩, Frag.In.keeps U.X st, U.T.keeps st, fun b o e => of_hideAll _ e, Nat.le_of_eq (hideAll_size _ _), fun p hp => ⟨(U.N p hp).1, hideAll_none _ (List.mem_map_of_mem hp)⟩, fun b o e q => hideAll_get _ e q⟩
  obtain ⟨p, hp, rfl⟩ := List.mem_map.mp ha
  exact (U.N p hp).2.2 (List.mem_filterMap.mpr ⟨env, he, hf⟩)

/-- the ground anew, behind a call that noted frames -/
theorem rebase {A : Around} {L : Addr} {h h' : Heap} {m : Str → Option Value} {news own : List (Addr × Obj)}
    (B : Below A base outer g) (F : Fr g L h m) (N : News g L h news) (XB : (hd.heap_39 w.params).In base) (TB : Top hd.view_39 lo3 mean mg mb base)
    (K : KeepU (L :: outer.filterMap (·.frame)) [] h h') (ho : ∀ p ∈ own, h'.get? p.1 = some p.2 ∧ h.get? p.1 = none) :
    ∃ g', Below A base outer g' ∧ (hd.heap_39 w.params).In g' ∧ Top hd.view_39 lo3 mean mg mb g' ∧ Fr g' L h' m ∧ News g' L h' (own ++ news) ∧ KeepU (outer.filterMap (·.frame)) [] g g' := by
  have hgL := F.above
  have hgn : g.objs.size ≤ h'.objs.size := by
    obtain ⟨oL, _, _, e1, _⟩ := F.ns
    obtain ⟨_, sl, e5⟩ := K L oL e1 (by simp)
    exact Nat.le_trans hgL (Nat.le_of_lt (Heap.lt_size e5))
  have nofr : ∀ p ∈ news, p.1 ∉ L :: outer.filterMap (·.frame) := fun p hp q => by
    rcases List.mem_cons.mp q with q | q
    · exact (N p hp).2.1 q
    · obtain ⟨_, o, ho, _⟩ := B.frames.mem q
      rw [(N p hp).2.2] at ho; cases ho
  have KG : KeepU (outer.filterMap (·.frame)) [] g (hideAll (front h' g.objs.size) ((own ++ news).map (fun p : Addr × Obj => p.1))) := fun b o e _ => by
    have hb := Heap.lt_size e
    have hbn : b ∉ (own ++ news).map (fun p : Addr × Obj => p.1) := fun q => by
      obtain ⟨p, hp, rfl⟩ := List.mem_map.mp q
      rcases List.mem_append.mp hp with hp | hp
      · have := (ho p hp).2; rw [F.keep _ _ e] at this; cases this
      · rw [(N p hp).2.2] at e; cases e
    obtain ⟨k1, sl, k2⟩ := K b o (F.keep b o e) (by simp)
    refine ⟨fun hS => hideAll_get _ (front_get hb (k1 fun q => ?_)) hbn, sl, hideAll_get _ (front_get hb k2) hbn⟩
    rcases List.mem_cons.mp q with q | q
    · rw [q] at hb; exact absurd (Nat.lt_of_lt_of_le hb hgL) (Nat.lt_irrefl _)
    · exact hS q
  have st : base.StaysIn (hideAll (front h' g.objs.size) ((own ++ news).map (fun p : Addr × Obj => p.1))) := fun b o e => (KG b o (B.stays b o e) (by simp)).1 fun q => by
    rw [(B.frames.mem q).1] at e; cases e
  refine ⟨hideAll (front h' g.objs.size) ((own ++ news).map (fun p : Addr × Obj => p.1)), ⟨B.stack, st, B.frames.of_keeps fun b o e _ => ?_⟩, Frag.In.keeps XB st, TB.keeps st, ⟨?_, fun b o e => of_front (of_hideAll _ e), ?_⟩, fun p hp => ⟨?_, ?_, hideAll_none _ (List.mem_map_of_mem hp)⟩, KG⟩
  · obtain ⟨_, sl, e2⟩ := KG b o e (by simp)
    exact ⟨_, e2, rfl⟩
  · obtain ⟨oL, es, ep, e1, e2, e3, e4⟩ := F.ns
    obtain ⟨_, sl, e5⟩ := K L oL e1 (by simp)
    exact ⟨_, es, ep, e5, e2, e3, e4⟩
  · rw [hideAll_size, front_size hgn]; exact hgL
  · rcases List.mem_append.mp hp with hp | hp
    · exact (ho p hp).1
    · exact (K p.1 p.2 (N p hp).1 (by simp)).1 (nofr p hp)
  · rcases List.mem_append.mp hp with hp | hp
    · intro q
      obtain ⟨oL, _, _, e1, _⟩ := F.ns
      have := (ho p hp).2
      rw [q, e1] at this; cases this
    · exact (N p hp).2.1

theorem GrU.of_caller {A₀ : Around} {L : Addr} {m : Str → Option Value} {env : Env} {news : List (Addr × Obj)}
    (B : Below A₀ base outer g) (F : Fr g L s.heap m) (N : News g L s.heap news) (XB : (hd.heap_39 w.params).In base) (TB : Top hd.view_39 lo3 mean mg mb base)
    (hf : env.frame = some L) (hke : env.scope.kind = .function) (ha : ∀ p ∈ args, p ∈ news) : GrU w base (env :: outer) mean mg mb s args := by
  refine ⟨XB, TB, fun b o e => F.keep b o (B.stays b o e), ?_, fun p hp => ⟨(N p (ha p hp)).1, ?_, fun q => ?_⟩⟩
  · refine Heap.FunFrames.cons (by rw [hke]; decide) hf F.ns ?_ (B.frames.of_keeps fun b o e _ => ⟨o, F.keep b o e, rfl⟩)
    cases hq : base.get? L with
    | none => rfl
    | some o => exact absurd (Nat.lt_of_lt_of_le (Heap.lt_size (B.stays L o hq)) F.above) (Nat.lt_irrefl _)
  · cases hq : base.get? p.1 with
    | none => rfl
    | some o => have := (N p (ha p hp)).2.2; rw [B.stays _ _ hq] at this; cases this
  · simp only [List.filterMap_cons, hf] at q
    rcases List.mem_cons.mp q with q | q
    · exact (N p (ha p hp)).2.1 q
    · obtain ⟨_, o, ho, _⟩ := B.frames.mem q
      rw [(N p (ha p hp)).2.2] at ho; cases ho

/-- a call that notes frames, out of the caller's walk -/
theorem useU {prog : Program} {A₀ A : Around} {L : Addr} {m : Str → Option Value} {env : Env} {news : List (Addr × Obj)} {d u : Nat} {f : Addr} {vals : List Value} {kw : List (Str × Value)} {E : Value → Shared → Prop} {Q : Value → Shared → Prop} {P : Value → List (Addr × Obj) → Prop}
    (args : List (Addr × Obj))
    (C : GrU w base (env :: outer) mean mg mb s args → codeAny (model prog w) (At (env :: outer) d u) (.call (.ref f) ⟨vals, kw⟩) (RetU s ((env :: outer).filterMap (·.frame)) P) s)
    (B : Below A₀ base outer g) (F : Fr g L s.heap m) (N : News g L s.heap news) (XB : (hd.heap_39 w.params).In base) (TB : Top hd.view_39 lo3 mean mg mb base)
    (hA : A.frames = some (env :: outer)) (hf : env.frame = some L) (hke : env.scope.kind = .function) (ha : ∀ p ∈ args, p ∈ news)
    (hh : A.handled = none) (hdp : A.depth ≤ d) (hu : A.units ≤ u)
    (h : ∀ v own h' tk' g', P v own → Below A₀ base outer g' → (hd.heap_39 w.params).In g' → Top hd.view_39 lo3 mean mg mb g' → Fr g' L h' m → News g' L h' (own ++ news) → (∀ p ∈ own, ∀ q ∈ news, q.1 ≠ p.1) → KeepU (outer.filterMap (·.frame)) [] g g' → Q v { s with heap := h', toks := tk' }) :
    wpAny (model prog w) A (call (.ref f) vals kw) Q E s := by
  refine wpAny_call (codeAny_mono (at_le (C (GrU.of_caller B F N XB TB hf hke ha)) hh hA hdp hu) ?_)
  rintro r s' ⟨v, own, h', tk', rfl, rfl, K, hown, hP⟩
  have e1 : (env :: outer).filterMap (·.frame) = L :: outer.filterMap (·.frame) := by simp only [List.filterMap_cons, hf]
  rw [e1] at K
  obtain ⟨g', x1, x2, x3, x4, x5, x6⟩ := rebase B F N XB TB K hown
  refine h v own h' tk' g' hP x1 x2 x3 x4 x5 (fun p hp q hq e => ?_) x6
  have h1 := (hown p hp).2
  rw [← e, (N q hq).1] at h1; cases h1

/-- such a call returns -/
theorem GrU.ret (U : GrU w base outer mean mg mb s args) {L' : Addr} {g' h' : Heap} {m' : Str → Option Value} {news' : List (Addr × Obj)} {P : Value → List (Addr × Obj) → Prop} {v : Value} {tk' : Nat} (own : List (Addr × Obj))
    (G : Gr w base g outer mean mg mb s args) (K : KeepU (outer.filterMap (·.frame)) [] g g') (F : Fr g' L' h' m') (N : News g' L' h' news') (ha : ∀ p ∈ args, p ∈ news') (ho : ∀ p ∈ own, p ∈ news') (hd : ∀ p ∈ own, p.1 ∉ args.map (·.1)) (hP : P v own) :
    RetU s (outer.filterMap (·.frame)) P (.ok (.ret v)) { s with heap := h', toks := tk' } := by
  refine ⟨v, own, h', tk', rfl, rfl, fun b o e _ => ?_, fun p hp => ⟨(N p (ho p hp)).1, ?_⟩, hP⟩
  · by_cases hb : b ∈ args.map (·.1)
    · obtain ⟨p, hp, rfl⟩ := List.mem_map.mp hb
      have h1 := (G.N p hp).1
      rw [e] at h1; cases h1
      exact ⟨fun _ => (N p (ha p hp)).1, p.2.slots, (N p (ha p hp)).1⟩
    · obtain ⟨k1, sl, k2⟩ := K b o (G.back b o e hb) (by simp)
      exact ⟨fun hS => F.keep b o (k1 hS), sl, F.keep b _ k2⟩
  · cases q : s.heap.get? p.1 with
    | none => rfl
    | some o =>
      obtain ⟨_, sl, k2⟩ := K p.1 o (G.back _ o q (hd p hp)) (by simp)
      have := (N p (ho p hp)).2.2
      rw [k2] at this; cases this
end
end Mine
end

section
open PySem PySem.W PyProof.Rows PySem.Calls PySem.Builtin
set_option Elab.async false
set_option maxRecDepth 100000
namespace Mine
/-- the failure that came out of a call made at heap h -/
def Came (h : Heap) (frs : List Addr) (mA : Str → Option Value) (e : Addr) (h' : Heap) : Prop :=
  ∃ t d od T sl, KeepU frs [] h h' ∧ h'.get? e = some (excObj t (some d) (.ref T) sl) ∧ TbAt h' T .none ∧ T ≠ e ∧ h'.get? d = some od ∧ DictIs od mA ∧ h.get? e = none ∧ h.get? d = none ∧ h.get? T = none ∧ d ≠ e ∧ d ≠ T

section
variable {prog : Program} {w : World} {A₀ : Around} {E : Value → Shared → Prop} {base g : Heap} {outer : List Env} {mean : ExcName → Option Value} {mg mb : Str → Option Value} {name : Str} {scope : Scope} {L a : Addr} {cd : Value} {h : Heap} {m : Str → Option Value} {news : List (Addr × Obj)} {mA : Str → Option Value} {e : Addr} {s' : Shared}

theorem caught_land {hs : List ExceptHandler} {Q : Flow → Shared → Prop} (B : Below A₀ base outer g) (F : Fr g L h m) (N : News g L h news) (XB : (hd.heap_39 w.params).In base) (TB : Top hd.view_39 lo3 mean mg mb base)
    (C : Came h (L :: outer.filterMap (·.frame)) mA e s'.heap)
    (k : ∀ g' h' t d od T oT ts sl, Below A₀ base outer g' → (hd.heap_39 w.params).In g' → Top hd.view_39 lo3 mean mg mb g' → Fr g' L h' m → News g' L h' ((e, excObj t (some d) (.ref T) sl) :: (d, od) :: (T, oT) :: news) →
      KeepU (outer.filterMap (·.frame)) [] g g' → DictIs od mA → oT.data = .fields ts → ts[3]? = some .none → (∀ p ∈ ([(e, excObj t (some d) (.ref T) sl), (d, od), (T, oT)] : List (Addr × Obj)), ∀ q ∈ news, q.1 ≠ p.1) → d ≠ e → d ≠ T → T ≠ e →
      wpAny (model prog w) (A₀.deeper (envOf name scope L a cd)) (handleBy (.ref e) (envOf name scope L a cd) hs) Q E { s' with heap := h' })
    (hk : scope.kind = .function := by rfl) :
    wpAny (model prog w) (A₀.deeper (envOf name scope L a cd)) (noteFrame (.ref e) (envOf name scope L a cd))
      (fun _ s₂ => wpAny (model prog w) (A₀.deeper (envOf name scope L a cd)) (setFlight (.ref e) none) (fun _ s₃ =>
        wpAny (model prog w) (A₀.deeper (envOf name scope L a cd)) (handleBy (.ref e) (envOf name scope L a cd) hs) Q E s₃) E s₂) E s' := by
  obtain ⟨t, d, od, T, sl, K, he, hT, hTe, hdo, hD, fe, fd, fT, hde, hdT⟩ := C
  have B' := B.push (name := name) (a := a) (cd := cd) F hk
  have e1 : (envOf name scope L a cd :: outer).filterMap (·.frame) = L :: outer.filterMap (·.frame) := rfl
  have fr' : s'.heap.FunFrames base (envOf name scope L a cd :: outer) := B'.frames.of_keeps fun b o hb _ => by
    obtain ⟨_, sl', q⟩ := K b o hb (by simp)
    exact ⟨_, q, rfl⟩
  have isFr : ∀ b, b ∈ L :: outer.filterMap (·.frame) → ∃ o, h.get? b = some o := fun b hb => by
    rw [← e1] at hb
    obtain ⟨_, o, ho, _⟩ := B'.frames.mem hb
    exact ⟨o, ho⟩
  have dS : d ∉ L :: outer.filterMap (·.frame) := fun q => by obtain ⟨o, ho⟩ := isFr _ q; rw [fd] at ho; cases ho
  refine wp_note B'.stack fr' rfl he hT hTe fun h₁ T' x1 x2 x3 x4 x5 => ?_
  rw [e1] at x3
  refine wp_flight (s := { s' with heap := h₁ }) x4 x5 x2 fun h₂ y1 y2 => ?_
  obtain ⟨oT, ts, z1, z2, z3⟩ := y2
  have fT' : h.get? T' = none := by
    cases q : h.get? T' with
    | none => rfl
    | some o =>
      obtain ⟨_, sl', q2⟩ := K T' o q (by simp)
      rw [x1] at q2; cases q2
  have K2 : KeepU (L :: outer.filterMap (·.frame)) [] h h₂ := fun b o hb _ => by
    obtain ⟨k1, sl', k2⟩ := K b o hb (by simp)
    have hbx : b ∉ [e, T] := fun q => by
      rcases List.mem_cons.mp q with q | q
      · rw [q, fe] at hb; cases hb
      · rw [List.mem_singleton.mp q, fT] at hb; cases hb
    have hbT : b ≠ T' := fun q => by rw [q, fT'] at hb; cases hb
    rw [y1 b hbT]
    obtain ⟨_, sl2, j2⟩ := x3 b _ k2 hbx
    exact ⟨fun hS => (x3 b o (k1 hS) hbx).1 hS, sl2, j2⟩
  have hd' : h₁.get? d = some od := (x3 d od hdo (by simp [hde, hdT])).1 dS
  have hdT' : d ≠ T' := fun q => by rw [← q, hdo] at x1; cases x1
  have hd2 : h₂.get? d = some od := (y1 d hdT').trans hd'
  have he2 : h₂.get? e = some (excObj t (some d) (.ref T') sl) := (y1 e (Ne.symm x2)).trans x4
  have own : ∀ p ∈ ([(e, excObj t (some d) (.ref T') sl), (d, od), (T', oT)] : List (Addr × Obj)), h₂.get? p.1 = some p.2 ∧ h.get? p.1 = none := fun p hp => by
    simp only [List.mem_cons, List.not_mem_nil, or_false] at hp
    rcases hp with rfl | rfl | rfl
    · exact ⟨he2, fe⟩
    · exact ⟨hd2, fd⟩
    · exact ⟨z1, fT'⟩
  obtain ⟨g', w1, w2, w3, w4, w5, w6⟩ := rebase B F N XB TB K2 own
  exact k g' h₂ t d od T' oT ts sl w1 w2 w3 w4 w5 w6 hD z2 z3 (fun p hp q hq e => by
    have h1 := (own p hp).2
    rw [← e, (N q hq).1] at h1; cases h1) hde hdT' x2
end
end Mine
end

section
open PySem PySem.W PyProof.Rows PySem.Calls PySem.Builtin
set_option Elab.async false
set_option maxRecDepth 100000
namespace Mine
theorem raised_came {s : Shared} {frs : List Addr} {mA : Str → Option Value} {r : Result} {s' : Shared} (h : Raised s frs mA r s') : ∃ e h' tk', r = .error (.ref e) ∧ s' = { s with heap := h', toks := tk' } ∧ Came s.heap frs mA e h' := by
  obtain ⟨e, t, d, od, T, sl, h', tk', h1, h2, h3⟩ := h
  exact ⟨e, h', tk', h1, h2, t, d, od, T, sl, h3⟩
section
variable {w : World} {A₀ A : Around} {E : Value → Shared → Prop} {base g : Heap} {outer : List Env} {mean : ExcName → Option Value} {mg mb : Str → Option Value} {L : Addr} {m : Str → Option Value} {news : List (Addr × Obj)} {s : Shared} {env : Env}

theorem useLook {Q : Value → Shared → Prop} {p a b : Addr} {l1 l2 : List (Str × Tok)} {n1 n2 : Nat}
    (B : Below A₀ base outer g) (F : Fr g L s.heap m) (N : News g L s.heap news) (X : (hd.heap_39 w.params).In g) (T : Top hd.view_39 lo3 mean mg mb g)
    (hA : A.frames = some (env :: outer)) (hf : env.frame = some L) (hke : env.scope.kind = .function)
    (m1 : (p, tup2 (.ref a) (.ref b)) ∈ news) (m2 : (a, listOf (strValues l1).toArray n1) ∈ news) (m3 : (b, listOf (strValues l2).toArray n2) ∈ news) (h1 : l1.length = 6) (h2 : l2.length = 6)
    (hh : A.handled = none) (hdp : A.depth ≤ 390) (hu : A.units ≤ 4900)
    (hok : ∀ h' tk', l1.map (·.1) = l2.map (·.1) → Fr g L h' m → News g L h' news → Q .none { s with heap := h', toks := tk' })
    (her : ∀ e h' tk' k x y t1 t2 t3 u1 u2, k < 6 → l1[k]? = some (x, u1) → l2[k]? = some (y, u2) → y ≠ x → SameTo l1 l2 k → Came s.heap (L :: outer.filterMap (·.frame)) (mA3 k x y t1 t2 t3) e h' → E (.ref e) { s with heap := h', toks := tk' }) :
    wpAny (model PySem.Challenge.rw_kl0455_01.row.toRowW.prog w) A (call (.ref 105) [.ref p] []) Q E s := by
  have ha : ∀ q ∈ [(p, tup2 (.ref a) (.ref b)), (a, listOf (strValues l1).toArray n1), (b, listOf (strValues l2).toArray n2)], q ∈ news := subs_cons m1 (subs_cons m2 (subs_cons m3 subs_nil))
  refine wpAny_call (codeAny_mono (at_le (c_look h1 h2 (Gr.of_caller B F N X T hA hf hke ha)) hh hA hdp hu) ?_)
  rintro r s' (⟨h', tk', rfl, rfl, st, he⟩ | ⟨k, x, y, t1, t2, t3, u1, u2, z1, z2, z3, z4, z5, hR⟩)
  · obtain ⟨oL, es, ep, hL, hLd, hLk, hLf⟩ := F.ns
    exact hok h' tk' he ⟨⟨oL, es, ep, st _ _ hL, hLd, hLk, hLf⟩, fun b o e => st _ _ (F.keep b o e), F.above⟩ (fun p hp => ⟨st _ _ (N p hp).1, (N p hp).2⟩)
  · obtain ⟨e, h', tk', rfl, rfl, C⟩ := raised_came hR
    have e1 : (env :: outer).filterMap (·.frame) = L :: outer.filterMap (·.frame) := by simp only [List.filterMap_cons, hf]
    rw [e1] at C
    exact her e h' tk' k x y t1 t2 t3 u1 u2 z1 z2 z3 z4 z5 C
end

section
variable {prog : Program} {w : World} {A : Around} {E : Value → Shared → Prop} {g : Heap} {mean : ExcName → Option Value} {mg mb : Str → Option Value} {name : Str} {scope : Scope} {L a : Addr} {cd : Value} {m : Str → Option Value} {news : List (Addr × Obj)} {e d T t : Addr} {s : Shared} {oT : Obj} {ts : Array Value} {sl : Array (Option Value)}
theorem flight_again {Q : Unit → Shared → Prop} {od : Obj} (F : Fr g L s.heap m) (N : News g L s.heap ((e, excObj t (some d) (.ref T) sl) :: (d, od) :: (T, oT) :: news)) (h2 : oT.data = .fields ts) (h3 : ts[3]? = some .none) (hf : ∀ p ∈ ([(e, excObj t (some d) (.ref T) sl), (d, od), (T, oT)] : List (Addr × Obj)), ∀ q ∈ news, q.1 ≠ p.1)
    (hdT : d ≠ T) (hTe : T ≠ e)
    (h : ∀ h' oT', Fr g L h' m → News g L h' ((e, excObj t (some d) (.ref T) sl) :: (d, od) :: (T, oT') :: news) → Q () { s with heap := h' }) : wpAny (model prog w) A (setFlight (.ref e) none) Q E s := by
  have hT := N _ (.tail _ (.tail _ (.head _)))
  refine wp_flight (N _ (.head _)).1 ⟨oT, ts, hT.1, h2, h3⟩ hTe fun h' y1 y2 => ?_
  obtain ⟨oT', ts', z1, z2, z3⟩ := y2
  refine h h' oT' ?_ fun p hp => ?_
  · obtain ⟨oL, es, ep, e1, r⟩ := F.ns
    exact ⟨⟨oL, es, ep, (y1 L (Ne.symm hT.2.1)).trans e1, r⟩, fun b o q => (y1 b fun z => by rw [z, hT.2.2] at q; cases q).trans (F.keep b o q), F.above⟩
  · rcases List.mem_cons.mp hp with rfl | hp
    · exact ⟨(y1 _ (Ne.symm hTe)).trans (N _ (.head _)).1, (N _ (.head _)).2⟩
    · rcases List.mem_cons.mp hp with rfl | hp
      · exact ⟨(y1 _ hdT).trans (N _ (.tail _ (.head _))).1, (N _ (.tail _ (.head _))).2⟩
      · rcases List.mem_cons.mp hp with rfl | hp
        · exact ⟨z1, hT.2⟩
        · have := N p (.tail _ (.tail _ (.tail _ hp)))
          exact ⟨(y1 _ (hf (T, oT) (by simp) p hp)).trans this.1, this.2⟩

theorem mainDTF {P : Params} : nsIn (hd.heap_39 P) mainGlobals (Str.ofString "DocTestFailure") = some (some (.ref 68)) := by kernel_rfl

/-- except DocTestFailure as n -/
theorem handle_as {Q : Flow → Shared → Prop} {n : Str} {np : Pos} {b₀ : Stmt} {suite : List Stmt} {pos : Pos} {rest : List ExceptHandler} {od : Obj} (F : Fr g L s.heap m) (N : News g L s.heap ((e, excObj t (some d) (.ref T) sl) :: (d, od) :: (T, oT) :: news)) (X : (hd.heap_39 w.params).In g) (Tp : Top hd.view_39 lo3 mean mg mb g)
    (h2 : oT.data = .fields ts) (h3 : ts[3]? = some .none) (hf : ∀ p ∈ ([(e, excObj t (some d) (.ref T) sl), (d, od), (T, oT)] : List (Addr × Obj)), ∀ q ∈ news, q.1 ≠ p.1) (hdT : d ≠ T) (hTe : T ≠ e)
    (k : ∀ h' oT' tk, Fr g L h' (fun y => if y = n then some (.ref e) else m y) → News g L h' ((e, excObj t (some d) (.ref T) sl) :: (d, od) :: (T, oT') :: news) →
      wpAny (model prog w) ((A.deeper (envOf name scope L a cd)).mark (some (.ref e))) (execs (b₀ :: suite) (envOf name scope L a cd))
        (fun f s₄ => wpAny (model prog w) (A.deeper (envOf name scope L a cd)) (do bindName (envOf name scope L a cd) n .none; unbindBehindTheSuite (envOf name scope L a cd) n pos) (fun _ s₅ => Q f s₅) E s₄)
        (AsSuiteRaised (model prog w) ((A.deeper (envOf name scope L a cd)).mark (some (.ref e))) (envOf name scope L a cd) n pos (notedBy (model prog w) ((A.deeper (envOf name scope L a cd)).mark (some (.ref e))) (envOf name scope L a cd) (cameBackBy (model prog w) (A.deeper (envOf name scope L a cd)) (envOf name scope L a cd) E)))
        { s with heap := h', toks := tk })
    (hk : scope.kind = .function := by rfl) (hlo : (envOf name scope L a cd).kindOf n = some .local := by rfl) (hx : (envOf name scope L a cd).kindOf (Str.ofString "DocTestFailure") = some .globalImplicit := by rfl) :
    wpAny (model prog w) (A.deeper (envOf name scope L a cd)) (handleBy (.ref e) (envOf name scope L a cd) (.ExceptHandler (some (.Name (Str.ofString "DocTestFailure") np)) (some n) (b₀ :: suite) pos :: rest)) Q E s := by
  obtain ⟨hp, gn, dr, tk, os⟩ := s
  have Xs := Frag.In.keeps X F.keep
  have hC : hp.get? 68 = some clsE := Xs _ _ (clsE_in _)
  refine wpAny_handleBy_cons (codeAny_handlers_test (name_K F X (topRead_of Tp) mainDTF ?_ hk hx (by decide))) (by intro q; cases q)
  refine wpAny_excMatches_sub_self hC (N _ (.head _)).1 rfl (by decide +kernel) (codeAny_handlers_suite_as ?_)
  refine flight_again F N h2 h3 hf hdT hTe fun h' oT' F' N' => ?_
  refine stN F' N' (fun h₇ F₇ N₇ => ?_) hk hlo
  exact k h₇ oT' _ F₇ N₇

/-- except: -/
theorem handle_all {Q : Flow → Shared → Prop} {b₀ : Stmt} {suite : List Stmt} {pos : Pos} {rest : List ExceptHandler} {od : Obj} (F : Fr g L s.heap m) (N : News g L s.heap ((e, excObj t (some d) (.ref T) sl) :: (d, od) :: (T, oT) :: news))
    (h2 : oT.data = .fields ts) (h3 : ts[3]? = some .none) (hf : ∀ p ∈ ([(e, excObj t (some d) (.ref T) sl), (d, od), (T, oT)] : List (Addr × Obj)), ∀ q ∈ news, q.1 ≠ p.1) (hdT : d ≠ T) (hTe : T ≠ e)
    (k : ∀ h' oT', Fr g L h' m → News g L h' ((e, excObj t (some d) (.ref T) sl) :: (d, od) :: (T, oT') :: news) →
      wpAny (model prog w) ((A.deeper (envOf name scope L a cd)).mark (some (.ref e))) (execs (b₀ :: suite) (envOf name scope L a cd)) Q
        (notedBy (model prog w) ((A.deeper (envOf name scope L a cd)).mark (some (.ref e))) (envOf name scope L a cd) (cameBackBy (model prog w) (A.deeper (envOf name scope L a cd)) (envOf name scope L a cd) E)) { s with heap := h' }) :
    wpAny (model prog w) (A.deeper (envOf name scope L a cd)) (handleBy (.ref e) (envOf name scope L a cd) (.ExceptHandler none none (b₀ :: suite) pos :: rest)) Q E s :=
  handleBy_bare (by intro q; cases q) (flight_again F N h2 h3 hf hdT hTe k)
end
end Mine
end

section
open PySem PySem.W PyProof.Rows PySem.Calls
set_option Elab.async false

namespace Mine
/-- the failure of a column that misses the other at row k -/
def FailObj (k : Nat) (x y : Str) (v : Value) (own : List (Addr × Obj)) : Prop :=
  ∃ e t d tb sl od t1 t2 t3, v = .ref e ∧ own = [(e, excObj t (some d) tb sl), (d, od)] ∧ DictIs od (mA3 k x y t1 t2 t3) ∧ @Ne Nat d e
def MissPost (l1 l2 : List (Str × Tok)) (v : Value) (own : List (Addr × Obj)) : Prop :=
  (v = .none ∧ own = [] ∧ l1.map (·.1) = l2.map (·.1)) ∨
  (∃ k x y u1 u2, k < 6 ∧ l1[k]? = some (x, u1) ∧ l2[k]? = some (y, u2) ∧ y ≠ x ∧ SameTo l1 l2 k ∧ FailObj k x y v own)
theorem apart_map {a : Addr} {l : List (Addr × Obj)} (h : ∀ q ∈ l, q.1 ≠ a) : a ∉ l.map (·.1) := fun q => by
  obtain ⟨p, hp, e⟩ := List.mem_map.mp q
  exact h p hp e
set_option maxRecDepth 100000 in
set_option maxHeartbeats 8000000 in
theorem c_missed {w : World} {base : Heap} {outer : List Env} {mean : ExcName → Option Value} {mg mb : Str → Option Value} {s : Shared} {a b : Addr} {l1 l2 : List (Str × Tok)} {n1 n2 : Nat}
    (h1 : l1.length = 6) (h2 : l2.length = 6)
    (U : GrU w base outer mean mg mb s [(a, listOf (strValues l1).toArray n1), (b, listOf (strValues l2).toArray n2)]) :
    codeAny (model PySem.Challenge.rw_kl0455_01.row.toRowW.prog w) (At outer 380 4800) (.call (.ref 112) ⟨[.ref a, .ref b], []⟩)
      (RetU s (outer.filterMap (·.frame)) (MissPost l1 l2)) s := by
  obtain ⟨g, G⟩ : ∃ g, Gr w base g outer mean mg mb s [(a, listOf (strValues l1).toArray n1), (b, listOf (strValues l2).toArray n2)] := ⟨_, U.gr⟩
  have XS := Frag.In.keeps G.X G.st
  have X0 := G.X
  revert X0; k_fill; intro X0
  refine' enterS (binds := [(Str.ofString "due", .ref a), (Str.ofString "rows", .ref b)]) G ?k6 ?k7 ?k8 ?k9 ?kB ?_ ?c2 ?c3 ?c4 ?c5; (case k6 => k_is); (case k7 => k_is); (case k8 => exact Nat.le_of_ble_eq_true rfl); (case k9 => first | exact BindsTo.of_eq rfl | exact binds_K (by k_in) rfl (by k_is) rfl rfl rfl | fail "k_enter: no rule for these arguments"); (case c5 => decide); (case kB => exact locs rfl); (case c2 => exact rfl); (case c3 => exact rfl); (case c4 => exact rfl)
  k_whole
  clear XS
  intro L' h' F' N' B' X' T'
  (try dsimp only)
  k_fold
  k_with_none
  k_with "call ref" => (k_dflt (refine' useLook ?B ?F ?N ?X ?T ?hA ?hf ?hke ?m1 ?m2 ?m3 h1 h2 ?hh ?hd ?hu ?_ ?_; (case B => k_asm); (case F => k_asm); (case N => k_asm); (case X => k_asm); (case T => k_asm); (case hA => exact rfl); (case hf => exact rfl); (case hke => exact rfl); (case m1 => k_mem); (case m2 => k_mem); (case m3 => k_mem); (case hh => exact rfl); (case hd => exact Nat.le_of_ble_eq_true rfl); (case hu => exact Nat.le_of_ble_eq_true rfl)); (intro h' tk9 hsame F' N'; (try k_sweep)); (rotate_left; intro e9 h' tk9 k9 x9 y9 t1 t2 t3 u1 u2 z1 z2 z3 z4 z5 hC; rotate_left))
  k_with "noteFrame ref" => (k_dflt (refine' caught_land ?B ?F ?N U.X U.T ?C ?_; (case C => assumption); (case B => k_asm); (case F => k_asm); (case N => k_asm)); intro g' h' t9 d9 od9 T9 oT9 ts9 sl9 B' X' T' F' N' hK hD' q1 q2 q3 q4 q5 q6; k_fold)
  k_with "handleBy ref" => (k_dflt (refine' handle_as ?F ?N ?X ?T q1 q2 q3 q5 q6 ?_; (case F => k_asm); (case N => k_asm); (case X => k_asm); (case T => k_asm)); intro h' oT' tk9 F' N'; k_fold)
  w_top off
  k_steps
  all_goals (try dsimp only)
  all_goals (try k_unmd)
  all_goals k_steps
  · exact U.ret [] G (KeepU.refl _ _ _) (by k_asm) (by k_asm) (subs_cons (by k_mem) (subs_cons (by k_mem) subs_nil)) subs_nil (fun _ h => nomatch h) (.inl ⟨rfl, rfl, by assumption⟩)
  · refine U.ret [(e9, _), (d9, _)] G hK (by k_asm) (by k_asm) (subs_cons (by k_mem) (subs_cons (by k_mem) subs_nil)) (subs_cons (by k_mem) (subs_cons (by k_mem) subs_nil)) (List.forall_mem_cons.mpr ⟨?_, List.forall_mem_cons.mpr ⟨?_, fun _ h => nomatch h⟩⟩)
      (.inr ⟨k9, x9, y9, u1, u2, z1, z2, z3, z4, z5, e9, t9, d9, _, _, _, t1, t2, t3, rfl, rfl, hD', q4⟩)
    · exact apart_map (by intro q hq; exact q3 (e9, _) (.head _) q (.tail _ hq))
    · exact apart_map (by intro q hq; exact q3 (d9, _) (.tail _ (.head _)) q (.tail _ hq))
end Mine
end

section
open PySem PySem.W PyProof.Rows PySem.Calls
set_option Elab.async false

namespace Mine
theorem find_test {P : Params} : findIn (hd.heap_39 P) (.ref 68) (Str.ofString "test") = some none := by kernel_rfl
theorem find_example {P : Params} : findIn (hd.heap_39 P) (.ref 68) (Str.ofString "example") = some none := by kernel_rfl
theorem find_got {P : Params} : findIn (hd.heap_39 P) (.ref 68) (Str.ofString "got") = some none := by kernel_rfl
section
variable {prog : Program} {w : World} {A : Around} {E : Value → Shared → Prop} {s : Shared} {g : Heap} {L e d tp : Addr} {m : Str → Option Value} {news : List (Addr × Obj)} {name : Str} {v tb : Value} {sl : Array (Option Value)} {od : Obj} {k : Nat} {x y : Str} {t1 t2 t3 : Tok}
theorem get_failure {expr : Bool} {Q : Value → Shared → Prop} (F : Fr g L s.heap m) (N : News g L s.heap news) (X : (hd.heap_39 w.params).In g) (hm : (e, excObj tp (some d) tb sl) ∈ news) (hmd : (d, od) ∈ news) (hD : DictIs od (mA3 k x y t1 t2 t3))
    (hf : findIn (hd.heap_39 w.params) (.ref 68) name = some none) (hv : mA3 k x y t1 t2 t3 name = some v) (hh : handedOut v = pure v) (hq : ∀ tk, Q v { s with toks := tk }) :
    wpAny (model prog w) A (getAttr (.ref e) name expr) Q E s := by
  obtain ⟨hp, gn, dr, tk, os⟩ := s
  exact get_exc (Frag.In.keeps X F.keep) (N _ hm).1 (N _ hmd).1 hD hf hv hh (hq _)
end
set_option maxRecDepth 100000 in
set_option maxHeartbeats 8000000 in
theorem c_lack {w : World} {base g : Heap} {outer : List Env} {mean : ExcName → Option Value} {mg mb : Str → Option Value} {s : Shared} {e d tp : Addr} {tb : Value} {sl : Array (Option Value)} {od : Obj} {k : Nat} {x y : Str} {t1 t2 t3 : Tok}
    (hx : x.length ≤ 1000) (hy : y.length ≤ 1000) (hD : DictIs od (mA3 k x y t1 t2 t3))
    (G : Gr w base g outer mean mg mb s [(e, excObj tp (some d) tb sl), (d, od)]) :
    codeAny (model PySem.Challenge.rw_kl0455_01.row.toRowW.prog w) (At outer 390 4900) (.call (.ref 119) ⟨[.ref e], []⟩)
      (Ret s fun v own => own = [] ∧ ∃ t, v = .int ((x.length : Int) - (y.length : Int)) t) s := by
  have XS := Frag.In.keeps G.X G.st
  have X0 := G.X
  revert X0; k_fill; intro X0
  refine' enterS (binds := [(Str.ofString "failure", .ref e)]) G ?k6 ?k7 ?k8 ?k9 ?kB ?_ ?c2 ?c3 ?c4 ?c5; (case k6 => k_is); (case k7 => k_is); (case k8 => exact Nat.le_of_ble_eq_true rfl); (case k9 => first | exact BindsTo.of_eq rfl | exact binds_K (by k_in) rfl (by k_is) rfl rfl rfl | fail "k_enter: no rule for these arguments"); (case c5 => decide); (case kB => exact locs rfl); (case c2 => exact rfl); (case c3 => exact rfl); (case c4 => exact rfl)
  k_whole
  clear XS
  intro L' h' F' N' B' X' T'
  (try dsimp only)
  k_fold
  k_with_none
  k_with "getAttr ref" => (k_here; k_dflt (refine' get_failure ?hq35_F ?hq35_N ?hq35_X ?hq35_m1 ?hq35_m2 ?hq35_D ?hq35_f ?hq35_v ?hq35_h ?_; (case hq35_F => k_asm); (case hq35_N => k_asm); (case hq35_X => k_asm); (case hq35_m1 => k_mem); (case hq35_m2 => k_mem); (case hq35_D => assumption); (case hq35_f => first | exact find_test | exact find_example | exact find_got); (case hq35_v => rfl); (case hq35_h => rfl)); intro tk9q)
  w_top off
  k_steps
  exact Gr.ret G [] (by k_asm) (by k_asm) (subs_cons (by k_mem) (subs_cons (by k_mem) subs_nil)) subs_nil (fun _ h => nomatch h) ⟨rfl, _, rfl⟩
set_option maxRecDepth 100000 in
set_option maxHeartbeats 8000000 in
theorem c_str {w : World} {base g : Heap} {outer : List Env} {mean : ExcName → Option Value} {mg mb : Str → Option Value} {s : Shared} {e d tp : Addr} {tb : Value} {sl : Array (Option Value)} {od : Obj} {k : Nat} {x y : Str} {t1 t2 t3 : Tok}
    (hk : k < 6) (hD : DictIs od (mA3 k x y t1 t2 t3))
    (G : Gr w base g outer mean mg mb s [(e, excObj tp (some d) tb sl), (d, od)]) :
    codeAny (model PySem.Challenge.rw_kl0455_01.row.toRowW.prog w) (At outer 390 4900) (.call (.ref 65) ⟨[.ref e], []⟩)
      (Ret s fun v own => own = [] ∧ ∃ t, v = .str (Str.ofString (toString (k : Int))) t) s := by
  have XS := Frag.In.keeps G.X G.st
  have X0 := G.X
  revert X0; k_fill; intro X0
  refine' enterS (binds := [(Str.ofString "self", .ref e)]) G ?k6 ?k7 ?k8 ?k9 ?kB ?_ ?c2 ?c3 ?c4 ?c5; (case k6 => k_is); (case k7 => k_is); (case k8 => exact Nat.le_of_ble_eq_true rfl); (case k9 => first | exact BindsTo.of_eq rfl | exact binds_K (by k_in) rfl (by k_is) rfl rfl rfl | fail "k_enter: no rule for these arguments"); (case c5 => decide); (case kB => exact locs rfl); (case c2 => exact rfl); (case c3 => exact rfl); (case c4 => exact rfl)
  k_whole
  clear XS
  intro L' h' F' N' B' X' T'
  (try dsimp only)
  k_fold
  k_with_none
  k_with "getAttr ref" => (k_here; k_dflt (refine' get_failure ?hq36_F ?hq36_N ?hq36_X ?hq36_m1 ?hq36_m2 ?hq36_D ?hq36_f ?hq36_v ?hq36_h ?_; (case hq36_F => k_asm); (case hq36_N => k_asm); (case hq36_X => k_asm); (case hq36_m1 => k_mem); (case hq36_m2 => k_mem); (case hq36_D => assumption); (case hq36_f => first | exact find_test | exact find_example | exact find_got); (case hq36_v => rfl); (case hq36_h => rfl)); intro tk9q)
  w_top off
  k_steps
  exact Gr.ret G [] (by k_asm) (by k_asm) (subs_cons (by k_mem) (subs_cons (by k_mem) subs_nil)) subs_nil (fun _ h => nomatch h) ⟨rfl, _, by rw [Int.zero_add]⟩
end Mine
end

section
open PySem PySem.W PyProof.Rows PySem.Calls
set_option Elab.async false

namespace Mine
set_option maxRecDepth 100000 in
set_option maxHeartbeats 8000000 in
theorem c_safe_lack {w : World} {base g : Heap} {outer : List Env} {mean : ExcName → Option Value} {mg mb : Str → Option Value} {s : Shared} {e d tp : Addr} {tb : Value} {sl : Array (Option Value)} {od : Obj} {k : Nat} {x y : Str} {t0 t1 t2 t3 : Tok}
    (hx : x.length ≤ 1000) (hy : y.length ≤ 1000) (hD : DictIs od (mA3 k x y t1 t2 t3))
    (G : Gr w base g outer mean mg mb s [(e, excObj tp (some d) tb sl), (d, od)]) :
    codeAny (model PySem.Challenge.rw_kl0455_01.row.toRowW.prog w) (At outer 380 4800) (.call (.ref 79) ⟨[.ref e, .str (Str.ofString "row") t0, .ref 119], []⟩)
      (Ret s fun v own => own = [] ∧ ∃ t, v = .int ((x.length : Int) - (y.length : Int)) t) s := by
  have XS := Frag.In.keeps G.X G.st
  have X0 := G.X
  revert X0; k_fill; intro X0
  refine' enterS (binds := [(Str.ofString "value", .ref e), (Str.ofString "what", .str (Str.ofString "row") t0), (Str.ofString "func", .ref 119)]) G ?k6 ?k7 ?k8 ?k9 ?kB ?_ ?c2 ?c3 ?c4 ?c5; (case k6 => k_is); (case k7 => k_is); (case k8 => exact Nat.le_of_ble_eq_true rfl); (case k9 => first | exact BindsTo.of_eq rfl | exact binds_K (by k_in) rfl (by k_is) rfl rfl rfl | fail "k_enter: no rule for these arguments"); (case c5 => decide); (case kB => exact locs rfl); (case c2 => exact rfl); (case c3 => exact rfl); (case c4 => exact rfl)
  k_whole
  clear XS
  intro L' h' F' N' B' X' T'
  (try dsimp only)
  k_fold
  k_with_none
  k_with "call ref" => (k_dflt (refine' useS [(_, _), (_, _)] (fun g9 b9 o9 G9 => c_lack hx hy hD G9) ?B ?F ?N ?X ?T ?hA ?hf ?hke ?ha ?hh ?hd ?hu ?_; (case B => k_asm); (case F => k_asm); (case N => k_asm); (case X => k_asm); (case T => k_asm); (case hA => exact rfl); (case hf => exact rfl); (case hke => exact rfl); (case ha => exact subs_cons (by k_mem) (subs_cons (by k_mem) subs_nil)); (case hh => exact rfl); (case hd => exact Nat.le_of_ble_eq_true rfl); (case hu => exact Nat.le_of_ble_eq_true rfl))); (intro v9 own9 h' tk9 hP9 F' N' hne9; (obtain ⟨e9a, t9, e9b⟩ := hP9); subst e9a e9b; (simp only [List.nil_append] at N'); (try k_sweep))
  w_top off
  k_steps
  exact Gr.ret G [] (by k_asm) (by k_asm) (subs_cons (by k_mem) (subs_cons (by k_mem) subs_nil)) subs_nil (fun _ h => nomatch h) ⟨rfl, _, rfl⟩
theorem find_str {P : Params} : findIn (hd.heap_39 P) (.ref 68) (Str.ofString "__str__") = some (some (.ref 65)) := by kernel_rfl
theorem isFn_str {P : Params} : isFn (hd.heap_39 P) (.ref 65) = true := by kernel_rfl
theorem inst_fail {g h : Heap} {L e tp d : Addr} {tb : Value} {sl : Array (Option Value)} {od : Obj} {news : List (Addr × Obj)} (N : News g L h news) (m1 : (e, excObj tp (some d) tb sl) ∈ news) (m2 : (d, od) ∈ news) : InstAt h e (excObj tp (some d) tb sl) 68 (some od) := ⟨(N _ m1).1, rfl, rfl, (N _ m2).1⟩
set_option maxRecDepth 100000 in
set_option maxHeartbeats 8000000 in
theorem c_safe_str {w : World} {base g : Heap} {outer : List Env} {mean : ExcName → Option Value} {mg mb : Str → Option Value} {s : Shared} {e d tp : Addr} {tb : Value} {sl : Array (Option Value)} {od : Obj} {k : Nat} {x y : Str} {t0 t1 t2 t3 : Tok}
    (hk : k < 6) (hD : DictIs od (mA3 k x y t1 t2 t3))
    (G : Gr w base g outer mean mg mb s [(e, excObj tp (some d) tb sl), (d, od)]) :
    codeAny (model PySem.Challenge.rw_kl0455_01.row.toRowW.prog w) (At outer 380 4800) (.call (.ref 79) ⟨[.ref e, .str (Str.ofString "row") t0], []⟩)
      (Ret s fun v own => own = [] ∧ ∃ t, v = .str (Str.ofString (toString (k : Int))) t) s := by
  have XS := Frag.In.keeps G.X G.st
  have X0 := G.X
  revert X0; k_fill; intro X0
  refine' enterS (binds := [(Str.ofString "value", .ref e), (Str.ofString "what", .str (Str.ofString "row") t0), (Str.ofString "func", .type "str")]) G ?k6 ?k7 ?k8 ?k9 ?kB ?_ ?c2 ?c3 ?c4 ?c5; (case k6 => k_is); (case k7 => k_is); (case k8 => exact Nat.le_of_ble_eq_true rfl); (case k9 => first | exact BindsTo.of_eq rfl | exact binds_K (by k_in) rfl (by k_is) rfl rfl rfl | fail "k_enter: no rule for these arguments"); (case c5 => decide); (case kB => exact locs rfl); (case c2 => exact rfl); (case c3 => exact rfl); (case c4 => exact rfl)
  k_whole
  clear XS
  intro L' h' F' N' B' X' T'
  (try dsimp only)
  k_fold
  k_with_none
  k_with "getAttr ref" => (k_here; k_dflt (refine' get_failure ?hq37_F ?hq37_N ?hq37_X ?hq37_m1 ?hq37_m2 ?hq37_D ?hq37_f ?hq37_v ?hq37_h ?_; (case hq37_F => k_asm); (case hq37_N => k_asm); (case hq37_X => k_asm); (case hq37_m1 => k_mem); (case hq37_m2 => k_mem); (case hq37_D => assumption); (case hq37_f => first | exact find_test | exact find_example | exact find_got); (case hq37_v => rfl); (case hq37_h => rfl)); intro tk9q)
  k_with "call type:str" => (k_here; (with_reducible show wpAny _ _ (call (Value.type "str") [Value.ref _]) _ _ _); k_dflt (refine' kso_call (K := hd.heap_39 _) ?hq38_k1 ?hq38_k2 (inst_fail ?hq38_N ?hq38_m1 ?hq38_m2) find_str isFn_str ?_; (case hq38_k1 => exact Nat.le_of_ble_eq_true rfl); (case hq38_N => k_asm); (case hq38_m1 => k_mem); (case hq38_m2 => k_mem); (case hq38_k2 => exact Frag.In.keeps (by k_asm) (Fr.keep (by k_asm)))); k_whole)
  w_top off
  k_steps
  all_goals (try k_unmd)
  all_goals k_steps
  exact Gr.ret G [] (by k_asm) (by k_asm) (subs_cons (by k_mem) (subs_cons (by k_mem) subs_nil)) subs_nil (fun _ h => nomatch h) ⟨rfl, _, by rw [Int.zero_add]⟩
end Mine
end

section
open PySem PySem.W PyProof.Rows PySem.Calls PySem.Builtin
set_option Elab.async false
set_option maxRecDepth 100000
namespace Mine
theorem fn_ga_slot : Slot "function" "__getattribute__" "object.__getattribute__" :=
  .of (owner := "object") (n := "__getattribute__") (by rw [typeLookup_type, builtinLookup_eq_fast]; kernel_rfl) (by decide +kernel) (by decide +kernel) (by decide +kernel)
    (by first | exact .inl (by decide +kernel) | exact .inr (by decide +kernel)) (by rw [isSubtype_type]; kernel_rfl)
theorem fn_ga_entry : entryFor table "object.__getattribute__" = some Builtin.«object.__getattribute__» := entryFor_of_tree (by kernel_rfl)
theorem fn_ga_args (a b : Value) : argsOk "object.__getattribute__" ⟨[a, b], []⟩ := by unfold argsOk; kernel_rfl
theorem fn_lk_name : typeLookup (.type "function") "__name__" = pure (some (.builtin "function.__name__")) := by rw [typeLookup_type, builtinLookup_eq_fast]; kernel_rfl
theorem fn_name_owner : (".".intercalate ("function.__name__".cutAt '.').dropLast) = "function" := by
  have e0 : "function.__name__".cutAt '.' = ["function", "__name__"] := by first | rfl | decide +kernel
  rw [e0]; decide +kernel
theorem fn_sub_owner : isSubtype (.type "function") (.type (".".intercalate ("function.__name__".cutAt '.').dropLast)) = pure true := by
  rw [fn_name_owner, isSubtype_type]; kernel_rfl
theorem fn_type_name : typeOf (.builtin "function.__name__") = pure (.type "getset_descriptor") := by kernel_rfl
theorem fn_entry_name : entryFor table "function.__name__" = some Builtin.«function.__name__» := entryFor_of_tree (by kernel_rfl)
section
variable {prog : Program} {w : World} {A : Around} {E : Value → Shared → Prop} {h : Heap} {g : Array GenState} {d : Drawn} {t : Nat} {os : OsState} {a : Addr} {o : Obj} {fd : FuncData}
theorem name_get {R : Result → Shared → Prop} (hx : h.get? a = some o) (hc : o.cls = .type "function") (hd : o.data = .func fd) (hz : fd.name.length ≤ sizeLine) (hq : R (.ok (.ret (.str fd.name t))) ⟨h, g, d, t + 1, os⟩) :
    codeAny (model prog w) A (.call (.builtin "getset_descriptor.__get__") ⟨[.builtin "function.__name__", .ref a, .type "function"], []⟩) R ⟨h, g, d, t, os⟩ := by
  have hT : (⟨h, g, d, t, os⟩ : Shared).TypeIs (.ref a) "function" := ⟨_, hx, hc⟩
  have hT5 : (⟨h, g, d, t, os⟩ : Shared).TypeIs (.builtin "function.__name__") "getset_descriptor" := fn_type_name
  have f8 := fn_sub_owner
  refine codeAny_call_builtin F.slot_gs_get.plain F.entry_gs_get (F.slot_gs_get.check _ _ _ _ _ _ _ _ hT5 (F.args_gs_get _ _ _) ?_)
  repeat (any_goals (first | assumption | wp_step))
  refine ⟨Code.quiet_builtin _ (by decide +kernel), codeAny_builtin fn_entry_name ?_⟩
  repeat (any_goals (first | assumption | (with_reducible refine wpAny_loadPart_at hx ?_; (try rw [hd])) | wp_step))
  rw [hd]
  repeat (any_goals (first | assumption | (with_reducible refine wpAny_bind ?_) | wp_step))
theorem name_entry {tk : Tok} {Q : Fin → Shared → Prop} (hx : h.get? a = some o) (hc : o.cls = .type "function") (hd : o.data = .func fd) (hz : fd.name.length ≤ sizeLine) (hq : Q (.done (.ret (.str fd.name t))) ⟨h, g, d, t + 1, os⟩) :
    wpAny (model prog w) A (Builtin.«object.__getattribute__» ⟨[.ref a, .str "__name__" tk], []⟩) Q E ⟨h, g, d, t, os⟩ := by
  have hT : (⟨h, g, d, t, os⟩ : Shared).TypeIs (.ref a) "function" := ⟨_, hx, hc⟩
  have hT5 : (⟨h, g, d, t, os⟩ : Shared).TypeIs (.builtin "function.__name__") "getset_descriptor" := fn_type_name
  have f4 := fn_lk_name
  have f5 := fn_type_name
  have f6 := F.slot_gs_get.lookup
  have f7 := F.slot_gs_set.lookup
  repeat (any_goals (first | assumption | wp_step))
  refine name_get hx hc hd hz ?_
  repeat (any_goals (first | assumption | wp_step))
theorem name_attr {expr : Bool} {Q : Value → Shared → Prop} (hx : h.get? a = some o) (hc : o.cls = .type "function") (hd : o.data = .func fd) (hz : fd.name.length ≤ sizeLine) (hq : ∀ tk tk', Q (.str fd.name tk) ⟨h, g, d, tk', os⟩) :
    wpAny (model prog w) A (getAttr (.ref a) (Str.ofString "__name__") expr) Q E ⟨h, g, d, t, os⟩ := by
  obtain ⟨oc, od, oda, osl⟩ := o
  simp only at hc hd
  subst hc hd
  have f2 := fn_ga_slot.lookup
  have f3 := fn_ga_slot.bind (.ref a)
  have hx0 : (expr && onTheHeap (Value.builtin "object.__getattribute__")) = false := by cases expr <;> rfl
  unfold getAttr
  repeat (first | assumption | (with_reducible refine wpAny_loadPart_at hx ?_; dsimp only) | wp_step)
  refine codeAny_call_builtin fn_ga_slot.plain fn_ga_entry (fn_ga_slot.check _ _ _ _ _ _ _ _ (show Shared.TypeIs _ (.ref a) "function" from ⟨_, hx, rfl⟩) (fn_ga_args _ _) (name_entry hx rfl rfl hz ?_))
  repeat (any_goals (first | assumption | wp_step))
  exact hq _ _
end
end Mine
end

section
open PySem PySem.W PyProof.Rows PySem.Calls
set_option Elab.async false

namespace Mine
theorem look_in (P : Params) : ∃ o fd, (hd.heap_39 P).lookup 105 = some o ∧ o.cls = .type "function" ∧ o.data = .func fd ∧ fd.name = Str.ofString "_law_look" := ⟨_, _, rfl, rfl, rfl, rfl⟩
theorem look_name {prog : Program} {w : World} {A : Around} {E : Value → Shared → Prop} {s : Shared} {g : Heap} {L : Addr} {m : Str → Option Value} {expr : Bool} {Q : Value → Shared → Prop} (F : Fr g L s.heap m) (X : (hd.heap_39 w.params).In g) (hq : ∀ tk tk', Q (.str (Str.ofString "_law_look") tk) { s with toks := tk' }) :
    wpAny (model prog w) A (getAttr (.ref 105) (Str.ofString "__name__") expr) Q E s := by
  obtain ⟨hp, gn, dr, tk, os⟩ := s
  obtain ⟨o, fd, h1, h2, h3, h4⟩ := look_in w.params
  exact name_attr (Frag.In.keeps X F.keep _ _ h1) h2 h3 (by rw [h4]; decide) (fun t t' => h4 ▸ hq t t')
theorem look_differs {l1 l2 : List (Str × Tok)} {k : Nat} {x y : Str} {u1 u2 : Tok} (h1 : l1[k]? = some (x, u1)) (h2 : l2[k]? = some (y, u2)) (h : y ≠ x) : l1.map (·.1) ≠ l2.map (·.1) := fun e => by
  have := congrArg (·[k]?) e
  simp [h1, h2] at this
  exact h this.symm
def lookText : Str := Str.ofString "<page _law_look() failed>"
set_option maxRecDepth 100000 in
set_option maxHeartbeats 8000000 in
theorem c_safe_look {w : World} {base : Heap} {outer : List Env} {mean : ExcName → Option Value} {mg mb : Str → Option Value} {s : Shared} {p a b : Addr} {l1 l2 : List (Str × Tok)} {n1 n2 : Nat} {t0 : Tok}
    (h1 : l1.length = 6) (h2 : l2.length = 6)
    (U : GrU w base outer mean mg mb s [(p, tup2 (.ref a) (.ref b)), (a, listOf (strValues l1).toArray n1), (b, listOf (strValues l2).toArray n2)]) :
    codeAny (model PySem.Challenge.rw_kl0455_01.row.toRowW.prog w) (At outer 380 4800) (.call (.ref 79) ⟨[.ref p, .str (Str.ofString "page") t0, .ref 105], []⟩)
      (RetU s (outer.filterMap (·.frame)) fun v own => own = [] ∧ ((v = .none ∧ l1.map (·.1) = l2.map (·.1)) ∨ (∃ t, v = .str lookText t) ∧ l1.map (·.1) ≠ l2.map (·.1))) s := by
  obtain ⟨g, G⟩ : ∃ g, Gr w base g outer mean mg mb s [(p, tup2 (.ref a) (.ref b)), (a, listOf (strValues l1).toArray n1), (b, listOf (strValues l2).toArray n2)] := ⟨_, U.gr⟩
  have XS := Frag.In.keeps G.X G.st
  have X0 := G.X
  revert X0; k_fill; intro X0
  refine' enterS (binds := [(Str.ofString "value", .ref p), (Str.ofString "what", .str (Str.ofString "page") t0), (Str.ofString "func", .ref 105)]) G ?k6 ?k7 ?k8 ?k9 ?kB ?_ ?c2 ?c3 ?c4 ?c5; (case k6 => k_is); (case k7 => k_is); (case k8 => exact Nat.le_of_ble_eq_true rfl); (case k9 => first | exact BindsTo.of_eq rfl | exact binds_K (by k_in) rfl (by k_is) rfl rfl rfl | fail "k_enter: no rule for these arguments"); (case c5 => decide); (case kB => exact locs rfl); (case c2 => exact rfl); (case c3 => exact rfl); (case c4 => exact rfl)
  k_whole
  clear XS
  intro L' h' F' N' B' X' T'
  (try dsimp only)
  k_fold
  k_with_none
  k_with "getAttr ref" => (k_here; k_dflt (refine' look_name ?hq39_F ?hq39_X ?_; (case hq39_F => k_asm); (case hq39_X => k_asm)); intro t9q tk9q)
  k_with "call ref" => (k_dflt (refine' useLook ?B ?F ?N ?X ?T ?hA ?hf ?hke ?m1 ?m2 ?m3 h1 h2 ?hh ?hd ?hu ?_ ?_; (case B => k_asm); (case F => k_asm); (case N => k_asm); (case X => k_asm); (case T => k_asm); (case hA => exact rfl); (case hf => exact rfl); (case hke => exact rfl); (case m1 => k_mem); (case m2 => k_mem); (case m3 => k_mem); (case hh => exact rfl); (case hd => exact Nat.le_of_ble_eq_true rfl); (case hu => exact Nat.le_of_ble_eq_true rfl)); (intro h' tk9 hsame F' N'; (try k_sweep)); (rotate_left; intro e9 h' tk9 k9 x9 y9 t1 t2 t3 u1 u2 z1 z2 z3 z4 z5 hC; rotate_left))
  k_with "noteFrame ref" => (k_dflt (refine' caught_land ?B ?F ?N U.X U.T ?C ?_; (case C => assumption); (case B => k_asm); (case F => k_asm); (case N => k_asm)); intro g' h' t9 d9 od9 T9 oT9 ts9 sl9 B' X' T' F' N' hK hD' q1 q2 q3 q4 q5 q6; k_fold)
  k_with "handleBy ref" => (k_dflt (refine' handle_all ?F ?N q1 q2 q3 q5 q6 ?_; (case F => k_asm); (case N => k_asm)); intro h' oT' F' N'; (try k_fold))
  w_top off
  k_steps
  all_goals (try dsimp only)
  all_goals (try k_unmd)
  all_goals k_steps
  · exact U.ret [] G (KeepU.refl _ _ _) (by k_asm) (by k_asm) (subs_cons (by k_mem) (subs_cons (by k_mem) (subs_cons (by k_mem) subs_nil))) subs_nil (fun _ h => nomatch h) ⟨rfl, .inl ⟨rfl, by assumption⟩⟩
  · exact U.ret [] G hK (by k_asm) (by k_asm) (subs_cons (by k_mem) (subs_cons (by k_mem) (subs_cons (by k_mem) subs_nil))) subs_nil (fun _ h => nomatch h) ⟨rfl, .inr ⟨⟨_, rfl⟩, look_differs z2 z3 z4⟩⟩
end Mine
end

section
open PySem PySem.W PyProof.Rows PySem.Calls PySem.Builtin
set_option Elab.async false
set_option maxRecDepth 100000
namespace Mine
/-! the mending, in plain words -/
def atR (D : List Str) (k : Nat) : Str := (D[k]?).getD Str.empty
def missAt (D R : List Str) : Option Nat := (List.range 6).find? (fun k => decide (D[k]? ≠ R[k]?))
def lastGo (D R : List Str) : Nat → Nat → Nat → Nat
  | 0, _, last => last
  | n + 1, k, last => if atR D k ≠ Str.ofString "" ∧ atR R k = atR D k then last else lastGo D R n (k + 1) (if atR R k ≠ atR D k then k else last)
def lastOf (D R : List Str) (k : Nat) : Nat := lastGo D R (5 - k) (k + 1) k
abbrev Step := Int × Int × Int
def stepOf (D R : List Str) (k : Nat) : Step := ((k : Int), (lastOf D R k : Int), ((atR D k).length : Int) - ((atR R k).length : Int))
def mendRun (D : List Str) : Nat → List Str → List Str × List Step
  | 0, R => (R, [])
  | n + 1, R => match missAt D R with
    | none => (R, [])
    | some k => ((mendRun D n (setIn R k (lastOf D R k) 1)).1, stepOf D R k :: (mendRun D n (setIn R k (lastOf D R k) 1)).2)
abbrev stepObj (st : Step) (t1 t2 t3 : Tok) : Obj := { cls := .type "tuple", data := .seq [.str (Str.ofString (toString st.1)) t1, .int st.2.1 t2, .int st.2.2 t3].toArray }
def StepsAre : List (Addr × Obj) → List Step → Prop
  | [], [] => True
  | p :: ps, s :: ss => (∃ t1 t2 t3, p.2 = stepObj s t1 t2 t3) ∧ StepsAre ps ss
  | _, _ => False
theorem StepsAre.snoc {p : Addr × Obj} {s : Step} (h : ∃ t1 t2 t3, p.2 = stepObj s t1 t2 t3) : ∀ {ps : List (Addr × Obj)} {ss : List Step}, StepsAre ps ss → StepsAre (ps ++ [p]) (ss ++ [s])
  | [], [], _ => ⟨h, trivial⟩
  | [], _ :: _, q => q.elim
  | _ :: _, [], q => q.elim
  | _ :: _, _ :: _, q => ⟨q.1, q.2.snoc h⟩
theorem StepsAre.length : ∀ {ps : List (Addr × Obj)} {ss : List Step}, StepsAre ps ss → ps.length = ss.length
  | [], [], _ => rfl
  | [], _ :: _, q => q.elim
  | _ :: _, [], q => q.elim
  | _ :: _, _ :: _, q => by simp [q.2.length]

theorem lastGo_bd (D R : List Str) : ∀ (n k last : Nat), last < k → k + n ≤ 6 → last ≤ lastGo D R n k last ∧ lastGo D R n k last < 6 ∨ (n = 0 ∧ lastGo D R n k last = last)
  | 0, _, _, _, _ => .inr ⟨rfl, rfl⟩
  | n + 1, k, last, h1, h2 => by
    left
    unfold lastGo
    by_cases q : atR D k ≠ Str.ofString "" ∧ atR R k = atR D k
    · rw [if_pos q]; omega
    · rw [if_neg q]
      by_cases q2 : atR R k ≠ atR D k
      · rw [if_pos q2]
        rcases lastGo_bd D R n (k + 1) k (by omega) (by omega) with h | h
        · omega
        · rw [h.2]; omega
      · rw [if_neg q2]
        rcases lastGo_bd D R n (k + 1) last (by omega) (by omega) with h | h
        · omega
        · rw [h.2]; omega
theorem lastOf_bd (D R : List Str) {k : Nat} (hk : k < 6) : k ≤ lastOf D R k ∧ lastOf D R k < 6 := by
  unfold lastOf
  rcases lastGo_bd D R (5 - k) (k + 1) k (by omega) (by omega) with h | h
  · exact h
  · rw [h.2]; omega

theorem missAt_none {D R : List Str} (h : D = R) : missAt D R = none := by
  subst h
  unfold missAt
  rw [List.find?_eq_none]
  intro x _
  simp
theorem missAt_some {D R : List Str} {k : Nat} (hk : k < 6) (h : ∀ j, j < k → D[j]? = R[j]?) (hne : D[k]? ≠ R[k]?) : missAt D R = some k := by
  unfold missAt
  rw [List.find?_eq_some_iff_append]
  refine ⟨by simpa using hne, List.range k, (List.range (5 - k)).map (· + (k + 1)), ?_, fun j hj => ?_⟩
  · apply List.ext_getElem
    · simp; omega
    · intro i h1 h2
      simp only [List.length_range] at h1
      rw [List.getElem_range]
      by_cases q : i < k
      · rw [List.getElem_append_left (by simpa using q)]; simp
      · rw [List.getElem_append_right (by simpa using q)]
        by_cases q2 : i = k
        · subst q2; simp
        · simp only [List.length_range]
          obtain ⟨z, hz⟩ : ∃ z, i - k = z + 1 := ⟨i - k - 1, by omega⟩
          simp only [hz, List.getElem_cons_succ, List.getElem_map, List.getElem_range]
          omega
  · simpa using h j (List.mem_range.mp hj)

section
variable {prog : Program} {w : World} {A A₀ : Around} {E : Value → Shared → Prop} {s : Shared} {env : Env} {base g₀ h₀ : Heap} {outer : List Env} {x z : Str} {body : List Stmt} {mean : ExcName → Option Value} {mg mb : Str → Option Value} {L : Addr}

def TurnU (w : World) (A₀ : Around) (base : Heap) (outer : List Env) (mean : ExcName → Option Value) (mg mb : Str → Option Value) (L : Addr) (J : Nat → Heap → (Str → Option Value) → List (Addr × Obj) → Prop) (n : Nat) (s : Shared) (f : Flow) (s₃ : Shared) : Prop :=
  f = .next ∧ ∃ n' g' h' tk m₂ news₂, n' < n ∧ s₃ = { s with heap := h', toks := tk } ∧ Below A₀ base outer g' ∧ (hd.heap_39 w.params).In g' ∧ Top hd.view_39 lo3 mean mg mb g' ∧ Fr g' L h' m₂ ∧ News g' L h' news₂ ∧ J n' g' m₂ news₂
theorem TurnU.intro {J : Nat → Heap → (Str → Option Value) → List (Addr × Obj) → Prop} {n n' tk : Nat} {g' h' : Heap} {m₂ : Str → Option Value} {news₂ : List (Addr × Obj)} (B : Below A₀ base outer g') (X : (hd.heap_39 w.params).In g') (T : Top hd.view_39 lo3 mean mg mb g') (F : Fr g' L h' m₂) (N : News g' L h' news₂) (hn : n' < n) (hJ : J n' g' m₂ news₂) :
    TurnU w A₀ base outer mean mg mb L J n s .next { s with heap := h', toks := tk } := ⟨rfl, n', g', h', tk, m₂, news₂, hn, rfl, B, X, T, F, N, hJ⟩
/-- a while whose turns may lay the ground anew -/
theorem while_U {test : PySem.Expr} {pos : Pos} {Q : Flow → Shared → Prop} (J : Nat → Heap → (Str → Option Value) → List (Addr × Obj) → Prop) {n₀ : Nat} {m : Str → Option Value} {news : List (Addr × Obj)}
    (B : Below A₀ base outer g₀) (X : (hd.heap_39 w.params).In g₀) (T : Top hd.view_39 lo3 mean mg mb g₀) (F : Fr g₀ L s.heap m) (N : News g₀ L s.heap news) (hJ : J n₀ g₀ m news)
    (turn : ∀ n g m₁ news₁ h₁ tk₁, Below A₀ base outer g → (hd.heap_39 w.params).In g → Top hd.view_39 lo3 mean mg mb g → Fr g L h₁ m₁ → News g L h₁ news₁ → J n g m₁ news₁ →
      wpAny (model prog w) A (isTrue test env (eval test env)) (fun b s₂ =>
        if b = true then wpAny (model prog w) A (execs body env) (TurnU w A₀ base outer mean mg mb L J n s) E s₂ else Q .next s₂) E { s with heap := h₁, toks := tk₁ })
    (hE : PassesOwn (model prog w) A env E := by passes_own) :
    wpAny (model prog w) A (exec (.While test body [] pos) env) Q E s := by
  refine wpAny_While (codeAny_whileLoop (fun n s' => ∃ g h₁ tk₁ m₁ news₁, s' = { s with heap := h₁, toks := tk₁ } ∧ Below A₀ base outer g ∧ (hd.heap_39 w.params).In g ∧ Top hd.view_39 lo3 mean mg mb g ∧ Fr g L h₁ m₁ ∧ News g L h₁ news₁ ∧ J n g m₁ news₁) ?_ n₀ ⟨g₀, s.heap, s.toks, m, news, rfl, B, X, T, F, N, hJ⟩)
  rintro n s' ⟨g, h₁, tk₁, m₁, news₁, rfl, B₁, X₁, T₁, F₁, N₁, J₁⟩
  refine wpAny_mono (turn n g m₁ news₁ h₁ tk₁ B₁ X₁ T₁ F₁ N₁ J₁) (fun b s₂ h₂ => ?_) hE
  cases b with
  | false =>
    simp only [Bool.false_eq_true, if_false] at h₂ ⊢
    exact wpAny_execs_nil h₂
  | true =>
    simp only [if_true] at h₂ ⊢
    refine wpAny_mono h₂ (fun f s₃ h₃ => ?_) hE
    obtain ⟨rfl, n', g', h', tk, m₂, news₂, hn, rfl, B₂, X₂, T₂, F₂, N₂, J₂⟩ := h₃
    exact ⟨n', hn, g', h', tk, m₂, news₂, rfl, B₂, X₂, T₂, F₂, N₂, J₂⟩

def LastP (m₀ : Str → Option Value) (news : List (Addr × Obj)) (x z : Str) (P : Int → Prop) : (Str → Option Value) → List (Addr × Obj) → Prop := fun m' nx => nx = news ∧ ∃ l tl, (∀ y, y ≠ x → m' y = if y = z then some (.int l tl) else m₀ y) ∧ P l
def LastB (h₀ : Heap) (L : Addr) (m₀ : Str → Option Value) (news : List (Addr × Obj)) (x z : Str) (R : Int → Prop) (s s₂ : Shared) : Prop :=
  ∃ h' tk m' l tl, s₂ = { s with heap := h', toks := tk } ∧ Fr h₀ L h' m' ∧ News h₀ L h' news ∧ (∀ y, y ≠ x → m' y = if y = z then some (.int l tl) else m₀ y) ∧ R l
theorem LastB.intro {m₀ m' : Str → Option Value} {news news' : List (Addr × Obj)} {R : Int → Prop} {h' : Heap} {tk : Nat} {l : Int} {tl : Tok} (F : Fr h₀ L h' m') (N : News h₀ L h' news') (hn : ∀ p ∈ news, p ∈ news') (hm : ∀ y, y ≠ x → m' y = if y = z then some (.int l tl) else m₀ y) (hR : R l) :
    LastB h₀ L m₀ news x z R s { s with heap := h', toks := tk } := ⟨h', tk, m', l, tl, rfl, F, fun p hp => N p (hn p hp), hm, hR⟩
/-- a for over a range whose turns set one number -/
theorem for_rangeL {r : Addr} {a₀ b₀ l₀ : Int} {t₀ u₀ v₀ tl₀ : Tok} {m₀ : Str → Option Value} {news : List (Addr × Obj)} {Q : Flow → Shared → Prop} (n : Nat) (P : Nat → Int → Prop) (R : Int → Prop)
    (hh : A.handled = none) (hr : IsRange s.heap r a₀ b₀ 1 t₀ u₀ v₀) (hn : b₀ = a₀ + n) (hb1 : -1000000 ≤ a₀) (hb2 : a₀ ≤ 1000000) (hb3 : n ≤ 1000000) (F : Fr h₀ env.locals s.heap (fun y => if y = z then some (.int l₀ tl₀) else m₀ y)) (N : News h₀ env.locals s.heap news) (hp : P 0 l₀)
    (turn : ∀ i t l tl h tk own, i < n → OwnOff own (news.map (·.1)) → P i l → Fr h₀ env.locals h (fun y => if y = x then some (.int (a₀ + (i : Int)) t) else if y = z then some (.int l tl) else m₀ y) → News h₀ env.locals h (news ++ own) →
      wpAny (model prog w) A (execs body env) (fun f s₂ => match f with
        | .ret _ => False
        | .brk => LastB h₀ env.locals m₀ news x z R s s₂
        | _ => InvEndN h₀ env.locals (LastP m₀ news x z (P (i + 1))) own (news.map (·.1)) { s with heap := h, toks := tk } s₂) E { s with heap := h, toks := tk })
    (fin : ∀ l, P n l → R l)
    (done : ∀ l tl (u : Str → Option Value) h tk, R l → Fr h₀ env.locals h (fun y => if y = x then u y else if y = z then some (.int l tl) else m₀ y) → News h₀ env.locals h news → Q .next { s with heap := h, toks := tk }) :
    wpAny (model prog w) A (pyIter (.ref r)) (fun it s₂ => LoopAtV prog w A h₀ env x body Q E it s₂) E s := by
  have col : ∀ {m₁ : Str → Option Value} {l : Int} {tl : Tok} (v : Str → Option Value), (∀ y, y ≠ x → m₁ y = if y = z then some (.int l tl) else m₀ y) → (fun y => if y = x then v y else m₁ y) = fun y => if y = x then v y else if y = z then some (.int l tl) else m₀ y := fun v h => by
    funext y
    by_cases q : y = x
    · rw [if_pos q, if_pos q]
    · rw [if_neg q, if_neg q, h y q]
  refine for_rangeJ n (fun i => LastP m₀ news x z (P i)) hh hr hn hb1 hb2 hb3 F N ⟨rfl, l₀, tl₀, fun _ _ => rfl, hp⟩ ?_ ?_
  · rintro i t m₁ news₁ h tk own hi ha ho ⟨rfl, l, tl, hm, hP⟩ F₁ N₁
    refine wpAny_mono (turn i t l tl h tk own hi ho hP ?_ N₁) (fun f s₂ p => ?_) fun _ _ x => x
    · rw [← col (fun _ => some (.int (a₀ + (i : Int)) t)) hm]; exact F₁
    · cases f with
      | ret v => exact p.elim
      | next => exact p
      | cont => exact p
      | brk =>
        obtain ⟨h', tk', m', l', tl', rfl, F', N', hm', hR⟩ := p
        refine done l' tl' m' h' tk' hR ?_ N'
        rw [← col m' hm']
        have e : (fun y => if y = x then m' y else m' y) = m' := by funext y; split <;> rfl
        rw [e]; exact F'
  · rintro m₁ news₁ h tk ha ⟨rfl, l, tl, hm, hP⟩ F₁ N₁
    refine done l tl m₁ h tk (fin l hP) ?_ N₁
    rw [← col m₁ hm]
    have e : (fun y => if y = x then m₁ y else m₁ y) = m₁ := by funext y; split <;> rfl
    rw [e]; exact F₁
theorem lastP_end {m₀ m' : Str → Option Value} {news : List (Addr × Obj)} {P : Int → Prop} {L : Addr} {own news' : List (Addr × Obj)} {adr : List Addr} {s₁ : Shared} {h' : Heap} {tk : Nat} {l : Int} {tl : Tok} (F : Fr h₀ L h' m') (N : News h₀ L h' news')
    (hm : ∀ y, y ≠ x → m' y = if y = z then some (.int l tl) else m₀ y) (hP : P l) (hn : ∀ p ∈ news, p ∈ news') (ho : ∀ p ∈ own, p ∈ news') (ha : news.map (·.1) = adr) :
    InvEndN h₀ L (LastP m₀ news x z P) own adr s₁ { s₁ with heap := h', toks := tk } := InvEndN.intro F N ⟨rfl, l, tl, hm, hP⟩ ha hn ho
theorem News.sub {h : Heap} {l l' : List (Addr × Obj)} (N : News h₀ L h l) (hs : ∀ p ∈ l', p ∈ l) : News h₀ L h l' := fun p hp => N p (hs p hp)
end
section
variable {prog : Program} {w : World} {A : Around} {E : Value → Shared → Prop} {s : Shared} {h₀ : Heap} {L l : Addr} {news : List (Addr × Obj)} {ls : List (Str × Tok)} {n : Nat} {k : Int} {u : Tok} {Q : Value → Shared → Prop}
theorem atR_of {k : Nat} {y : Str} {t : Tok} (e : ls[k]? = some (y, t)) : atR (ls.map (·.1)) k = y := by simp [atR, e]
theorem item_at {value slice : PySem.Expr} (N : News h₀ L s.heap news) (hm : (l, listOf (strValues ls).toArray n) ∈ news) (h0 : 0 ≤ k) (h1 : k < ls.length) (h2 : k < 1000000)
    (h : ∀ t, Q (.str (atR (ls.map (·.1)) k.toNat) t) s)
    (hs : subscripted slice false (.ref l) (.int k u) = operate [.ref l, .int k u] (getItem (.ref l) (.int k u)) := by with_unfolding_all rfl) :
    wpAny (model prog w) A (subscriptTail value slice (.ref l) (.int k u)) Q E s :=
  item_strs N hm h0 h1 h2 (fun y t e => atR_of e ▸ h t) hs
theorem len_refs {ps : List (Addr × Obj)} {cap : Nat} (N : News h₀ L s.heap news) (hm : (l, listOf (ps.map (fun p : Addr × Obj => Value.ref p.1)).toArray cap) ∈ news) (hb : ps.length ≤ 1000000) (h : ∀ t k, Q (.int (ps.length : Int) t) { s with toks := k }) :
    wpAny (model prog w) A (call (.builtin "len") [.ref l]) Q E s := by
  have e : (ps.map (fun p : Addr × Obj => Value.ref p.1)).toArray.size = ps.length := by simp
  refine len_list (News.isList N hm) (by rw [e]; omega) ?_
  rw [e]
  exact h _ _
end
/-! the inner loop's number -/
def LastAt (D R : List Str) (k i : Nat) (l : Int) : Prop := ∃ c : Nat, l = (c : Int) ∧ lastGo D R (5 - k - i) (k + 1 + i) c = lastOf D R k
def LastEnd (D R : List Str) (k : Nat) (l : Int) : Prop := l = (lastOf D R k : Int)
theorem lastAt_start {D R : List Str} {k : Nat} {l : Int} (h : l = (k : Int)) : LastAt D R k 0 l := ⟨k, h, rfl⟩
theorem lastAt_end {D R : List Str} {k : Nat} (l : Int) (h : LastAt D R k (5 - k) l) : LastEnd D R k l := by
  obtain ⟨c, rfl, e⟩ := h
  rw [show 5 - k - (5 - k) = 0 by omega] at e
  exact congrArg Int.ofNat e
theorem lastAt_brk {D R : List Str} {k i : Nat} {l x : Int} (h : LastAt D R k i l) (hi : i < 5 - k) (hx : x = (k : Int) + 1 + (i : Int)) (h1 : (atR D x.toNat != Str.ofString "") = true) (h2 : (atR R x.toNat == atR D x.toNat) = true) : LastEnd D R k l := by
  obtain ⟨c, rfl, e⟩ := h
  have ex : x.toNat = k + 1 + i := by rw [hx]; rfl
  rw [ex] at h1 h2
  obtain ⟨j, hj⟩ : ∃ j, 5 - k - i = j + 1 := Nat.exists_eq_succ_of_ne_zero (Nat.sub_ne_zero_of_lt hi)
  rw [hj, lastGo, if_pos ⟨by simpa using h1, by simpa using h2⟩] at e
  exact congrArg Int.ofNat e
theorem lastAt_step {D R : List Str} {k i : Nat} {l x : Int} (h : LastAt D R k i l) (hi : i < 5 - k) (hx : x = (k : Int) + 1 + (i : Int)) (h1 : ¬ ((atR D x.toNat != Str.ofString "") = true ∧ (atR R x.toNat == atR D x.toNat) = true)) :
    LastAt D R k (i + 1) (if (atR R x.toNat != atR D x.toNat) = true then x else l) := by
  obtain ⟨c, rfl, e⟩ := h
  have ex : x.toNat = k + 1 + i := by rw [hx]; rfl
  rw [ex] at h1 ⊢
  obtain ⟨j, hj⟩ : ∃ j, 5 - k - i = j + 1 := Nat.exists_eq_succ_of_ne_zero (Nat.sub_ne_zero_of_lt hi)
  have hj' : 5 - k - (i + 1) = j := by rw [← Nat.sub_sub, hj]; rfl
  rw [hj, lastGo, if_neg (fun q => h1 ⟨by simpa using q.1, by simpa using q.2⟩)] at e
  by_cases q : atR R (k + 1 + i) ≠ atR D (k + 1 + i)
  · rw [if_pos q] at e
    refine ⟨k + 1 + i, ?_, ?_⟩
    · rw [if_pos (by simpa using q)]; omega
    · rw [hj']; exact e
  · rw [if_neg q] at e
    refine ⟨c, ?_, ?_⟩
    · rw [if_neg (by simpa using q)]
    · rw [hj']; exact e
theorem lastAt_set {D R : List Str} {k i : Nat} {l x : Int} (h : LastAt D R k i l) (hi : i < 5 - k) (hx : x = (k : Int) + 1 + (i : Int)) (h1 : (atR R x.toNat != atR D x.toNat) = true) : LastAt D R k (i + 1) x := by
  have := lastAt_step h hi hx (fun q => by
    have q2 := q.2
    simp only [beq_iff_eq] at q2
    rw [q2] at h1
    simp at h1)
  rwa [if_pos h1] at this
theorem lastAt_keep {D R : List Str} {k i : Nat} {l x : Int} (h : LastAt D R k i l) (hi : i < 5 - k) (hx : x = (k : Int) + 1 + (i : Int)) (h1 : (atR D x.toNat != Str.ofString "") = false) (h2 : (atR R x.toNat != atR D x.toNat) = false) : LastAt D R k (i + 1) l := by
  have := lastAt_step h hi hx (fun q => by rw [h1] at q; exact Bool.false_ne_true q.1)
  rwa [if_neg (by rw [h2]; exact Bool.false_ne_true)] at this
theorem last_absurd {x y : Str} (h1 : (x == y) = false) (h2 : (x != y) = false) : False := by
  simp only [bne, h1] at h2; cases h2
theorem col1 {x z : Str} {kv v : Option Value} {m₀ : Str → Option Value} : ∀ y, y ≠ x → (if y = x then kv else if y = z then v else m₀ y) = if y = z then v else m₀ y := fun _ h => if_neg h
theorem col2 {x z : Str} {kv v v' : Option Value} {m₀ : Str → Option Value} : ∀ y, y ≠ x → (if y = z then v else if y = x then kv else if y = z then v' else m₀ y) = if y = z then v else m₀ y := fun y h => by
  by_cases q : y = z
  · rw [if_pos q, if_pos q]
  · rw [if_neg q, if_neg h, if_neg q, if_neg q]
theorem row_len {B k : Nat} {l : List (Str × Tok)} {x : Str} {u : Tok} (h : RowsOk B (l.map (·.1))) (e : l[k]? = some (x, u)) (hB : B ≤ 1000) : x.length ≤ 1000 :=
  Nat.le_trans (h.bd x (List.mem_of_getElem? (i := k) (by simp [e]))) hB
theorem own_sub6 {a b c d e f : Addr × Obj} {r own : List (Addr × Obj)} : ∀ p ∈ own, p ∈ a :: b :: c :: d :: e :: f :: (r ++ own) := fun _ h => .tail _ (.tail _ (.tail _ (.tail _ (.tail _ (.tail _ (List.mem_append.mpr (.inr h)))))))
theorem base_sub6 {a b c d e f : Addr × Obj} {r own : List (Addr × Obj)} : ∀ p ∈ a :: b :: c :: d :: e :: f :: r, p ∈ a :: b :: c :: d :: e :: f :: (r ++ own) := fun p h => by
  rw [show a :: b :: c :: d :: e :: f :: (r ++ own) = (a :: b :: c :: d :: e :: f :: r) ++ own from rfl]
  exact List.mem_append.mpr (.inl h)
end Mine
end

section
open PySem PySem.W PyProof.Rows PySem.Calls PySem.Builtin
set_option Elab.async false
set_option maxRecDepth 100000
namespace Mine
abbrev strL (l : List (Str × Tok)) (n : Nat) : Obj := listOf (strValues l).toArray n
abbrev refL (ps : List (Addr × Obj)) (cap : Nat) : Obj := listOf (ps.map (fun p : Addr × Obj => Value.ref p.1)).toArray cap
abbrev mendM (u1 u2 u3 : Option Value) (fv : Value) (r sl a b : Addr) : Str → Option Value := fun y =>
  if y = Str.ofString "k" then u1 else if y = Str.ofString "last" then u2 else if y = Str.ofString "first" then u3 else if y = Str.ofString "failure" then some fv else if y = Str.ofString "rows" then some (.ref r) else if y = Str.ofString "steps" then some (.ref sl) else
    List.lookup y [(Str.ofString "due", .ref a), (Str.ofString "rows", .ref b)].reverse
def MendJ (frs : List Addr) (g0 : Heap) (ld l0 : List (Str × Tok)) (a b sl : Addr) (na nb : Nat) (n : Nat) (g : Heap) (m₁ : Str → Option Value) (news₁ : List (Addr × Obj)) : Prop :=
  KeepU frs [] g0 g ∧ ∃ (u1 u2 u3 : Option Value) (fv : Value) (fown : List (Addr × Obj)) (r : Addr) (nr : Nat) (ls : List (Str × Tok)) (ps : List (Addr × Obj)) (sts : List Step) (cap : Nat),
    m₁ = mendM u1 u2 u3 fv r sl a b ∧ news₁ = fown ++ (sl, refL ps cap) :: (r, strL ls nr) :: (a, strL ld na) :: (b, strL l0 nb) :: ps ∧
    MissPost ld ls fv fown ∧ StepsAre ps sts ∧ mendRun (ld.map (·.1)) 40 (l0.map (·.1)) = ((mendRun (ld.map (·.1)) n (ls.map (·.1))).1, sts ++ (mendRun (ld.map (·.1)) n (ls.map (·.1))).2) ∧
    n + sts.length = 40 ∧ RowsOk (20 + 4 * sts.length) (ls.map (·.1)) ∧ (∀ p ∈ ps, @Ne Nat p.1 sl) ∧ @Ne Nat r sl ∧ (∀ p ∈ fown, @Ne Nat p.1 sl) ∧ (r = b ∧ ls = l0 ∧ nr = nb ∨ @Ne Nat r a ∧ @Ne Nat r b) ∧ (∀ p ∈ ps, @Ne Nat p.1 a ∧ @Ne Nat p.1 b)
theorem mendJ_start {frs : List Addr} {g0 : Heap} {ld l0 : List (Str × Tok)} {a b sl : Addr} {na nb cap : Nat} {fv : Value} {fown : List (Addr × Obj)} {m : Str → Option Value} {news : List (Addr × Obj)}
    (hm : m = fun y => if y = Str.ofString "failure" then some fv else if y = Str.ofString "steps" then some (.ref sl) else List.lookup y [(Str.ofString "due", .ref a), (Str.ofString "rows", .ref b)].reverse) (hn : news = fown ++ [(sl, listOf #[] cap), (b, strL l0 nb), (a, strL ld na), (b, strL l0 nb)])
    (hM : MissPost ld l0 fv fown) (hR : RowsOk 20 (l0.map (·.1))) (h1 : @Ne Nat b sl) (h2 : ∀ p ∈ fown, @Ne Nat p.1 sl) (g : Heap) (K : KeepU frs [] g0 g) : MendJ frs g0 ld l0 a b sl na nb 40 g m news := by
  refine ⟨K, none, none, none, fv, fown, b, nb, l0, [], [], cap, ?_, ?_, hM, trivial, ?_, rfl, hR, (fun _ h => nomatch h), h1, h2, .inl ⟨rfl, rfl, rfl⟩, (fun _ h => nomatch h)⟩
  · subst hm
    funext y
    unfold mendM
    by_cases q1 : y = Str.ofString "k"
    · subst q1; rfl
    by_cases q2 : y = Str.ofString "last"
    · subst q2; rfl
    by_cases q3 : y = Str.ofString "first"
    · subst q3; rfl
    by_cases q5 : y = Str.ofString "rows"
    · subst q5; rfl
    simp only [q1, q2, q3, q5, if_false]
  · subst hn; rfl
  · simp
theorem mem_app {q : Addr × Obj} {o r : List (Addr × Obj)} (h : q ∈ r) : q ∈ o ++ r := List.mem_append.mpr (.inr h)
theorem subs_app {x y z : List (Addr × Obj)} (h1 : ∀ p ∈ x, p ∈ z) (h2 : ∀ p ∈ y, p ∈ z) : ∀ p ∈ x ++ y, p ∈ z := fun p hp => (List.mem_append.mp hp).elim (h1 p) (h2 p)
theorem subs_left {o r : List (Addr × Obj)} : ∀ p ∈ o, p ∈ o ++ r := fun _ h => List.mem_append.mpr (.inl h)
theorem news_start {g h : Heap} {L : Addr} {o : List (Addr × Obj)} {x y z : Addr × Obj} (N : News g L h (o ++ [x, y, z])) : News g L h (o ++ [x, z, y, z]) :=
  News.sub N (subs_app subs_left (subs_cons (mem_app (by simp)) (subs_cons (mem_app (by simp)) (subs_cons (mem_app (by simp)) (subs_cons (mem_app (by simp)) subs_nil)))))
theorem own_apart {own N : List (Addr × Obj)} {sl : Addr} {o : Obj} (h : ∀ p ∈ own, ∀ q ∈ N, q.1 ≠ p.1) (hm : (sl, o) ∈ N) : ∀ p ∈ own, @Ne Nat p.1 sl := fun p hp => Ne.symm (neN (h p hp _ hm))
theorem mendRun_some {D R : List Str} {n k : Nat} (h : missAt D R = some k) : mendRun D (n + 1) R = ((mendRun D n (setIn R k (lastOf D R k) 1)).1, stepOf D R k :: (mendRun D n (setIn R k (lastOf D R k) 1)).2) := by
  rw [mendRun, h]
theorem mendRun_none {D R : List Str} {n : Nat} (h : missAt D R = none) : mendRun D n R = (R, []) := by
  cases n with
  | zero => rfl
  | succ n => rw [mendRun, h]
theorem mendRun_zero {D R : List Str} {n : Nat} (h : n = 0) : mendRun D n R = (R, []) := by subst h; rfl
/-- a turn's end -/
theorem mend_turn {w : World} {A₀ : Around} {base g0 g1 g2 : Heap} {outer : List Env} {mean : ExcName → Option Value} {mg mb : Str → Option Value} {L : Addr} {s : Shared} {n tk : Nat} {h' : Heap} {m' : Str → Option Value}
    {frs : List Addr} {ld l0 ls lr : List (Str × Tok)} {a b sl r r9 D : Addr} {na nb nr nr9 cap k : Nat} {u1 u2 u3 ul uf : Option Value} {u9 : Str → Option Value} {fvo fv : Value} {own ps : List (Addr × Obj)} {E1 E2 : Addr × Obj} {sts : List Step} {x y : Str} {v1 v2 t1 t2 t3 : Tok} {l9 kk : Int}
    (B : Below A₀ base outer g2) (X : (hd.heap_39 w.params).In g2) (T : Top hd.view_39 lo3 mean mg mb g2) (F : Fr g2 L h' m')
    (N : News g2 L h' (own ++ (r9, strL lr nr9) :: (D, { cls := .type "tuple", data := .seq #[.str (Str.ofString (toString (k : Int))) t1, .int l9 t2, .int ((x.length : Int) - (y.length : Int)) t3] }) :: E1 :: E2 ::
      (sl, listOf ((ps.map (fun p : Addr × Obj => Value.ref p.1)).toArray.push (.ref D)) (cap + 1)) :: (r, strL ls nr) :: (a, strL ld na) :: (b, strL l0 nb) :: ps))
    (hm : m' = fun y => if y = Str.ofString "failure" then some fv else if y = Str.ofString "rows" then some (.ref r9) else if y = Str.ofString "k" then u9 y else if y = Str.ofString "last" then ul else if y = Str.ofString "first" then uf else mendM u1 u2 u3 fvo r sl a b y)
    (K1 : KeepU frs [] g0 g1) (K2 : KeepU frs [] g1 g2) (hM : MissPost ld lr fv own) (hS : StepsAre ps sts)
    (hrun : mendRun (ld.map (·.1)) 40 (l0.map (·.1)) = ((mendRun (ld.map (·.1)) n (ls.map (·.1))).1, sts ++ (mendRun (ld.map (·.1)) n (ls.map (·.1))).2)) (hn : n + sts.length = 40) (hlt : sts.length < 40)
    (hk : k < 6) (z2 : ld[k]? = some (x, v1)) (z3 : ls[k]? = some (y, v2)) (z4 : y ≠ x) (z5 : SameTo ld ls k) (hl9 : l9 = (lastOf (ld.map (·.1)) (ls.map (·.1)) k : Int)) (hkk : kk = (k : Int))
    (hset : lr.map (·.1) = setIn (ls.map (·.1)) kk l9 1) (hR : RowsOk (20 + 4 * sts.length + 4) (lr.map (·.1))) (hps : ∀ p ∈ ps, @Ne Nat p.1 sl) (hD : @Ne Nat D sl) (hr9 : @Ne Nat r9 sl) (hown : ∀ p ∈ own, @Ne Nat p.1 sl)
    (hra : @Ne Nat r9 a) (hrb : @Ne Nat r9 b) (hpa : ∀ p ∈ ps, @Ne Nat p.1 a ∧ @Ne Nat p.1 b) (hDa : @Ne Nat D a) (hDb : @Ne Nat D b) :
    TurnU w A₀ base outer mean mg mb L (MendJ frs g0 ld l0 a b sl na nb) n s .next { s with heap := h', toks := tk } := by
  obtain ⟨n', rfl⟩ : ∃ n', n = n' + 1 := ⟨n - 1, by omega⟩
  have hmiss : missAt (ld.map (·.1)) (ls.map (·.1)) = some k := missAt_some hk z5 (by simp [z2, z3]; exact fun q => z4 q.symm)
  have ex : atR (ld.map (·.1)) k = x := atR_of z2
  have ey : atR (ls.map (·.1)) k = y := atR_of z3
  rw [mendRun_some hmiss] at hrun
  simp only at hrun
  have hset' : setIn (ls.map (·.1)) (k : Int) (lastOf (ld.map (·.1)) (ls.map (·.1)) k : Int) 1 = lr.map (·.1) := by rw [hset, hkk, hl9]
  rw [hset'] at hrun
  refine TurnU.intro (n' := n') (news₂ := own ++ (sl, refL (ps ++ [(D, stepObj (stepOf (ld.map (·.1)) (ls.map (·.1)) k) t1 t2 t3)]) (cap + 1)) :: (r9, strL lr nr9) :: (a, strL ld na) :: (b, strL l0 nb) :: (ps ++ [(D, stepObj (stepOf (ld.map (·.1)) (ls.map (·.1)) k) t1 t2 t3)])) B X T F ?_ (by omega)
    ⟨K1.trans K2, u9 (Str.ofString "k"), ul, uf, fv, own, r9, nr9, lr, ps ++ [(D, stepObj (stepOf (ld.map (·.1)) (ls.map (·.1)) k) t1 t2 t3)], sts ++ [stepOf (ld.map (·.1)) (ls.map (·.1)) k], cap + 1, ?_, rfl, hM, hS.snoc ⟨t1, t2, t3, rfl⟩, ?_, by simp; omega, ?_, ?_, hr9, hown, .inr ⟨hra, hrb⟩, ?_⟩
  · have eD : ((D, { cls := .type "tuple", data := .seq #[.str (Str.ofString (toString (k : Int))) t1, .int l9 t2, .int ((x.length : Int) - (y.length : Int)) t3] }) : Addr × Obj) = (D, stepObj (stepOf (ld.map (·.1)) (ls.map (·.1)) k) t1 t2 t3) := by
      unfold stepObj stepOf
      rw [ex, ey, hl9]
    have eL : refL (ps ++ [(D, stepObj (stepOf (ld.map (·.1)) (ls.map (·.1)) k) t1 t2 t3)]) (cap + 1) = listOf ((ps.map (fun p : Addr × Obj => Value.ref p.1)).toArray.push (.ref D)) (cap + 1) := by
      unfold refL; congr 1; simp
    rw [eD] at N
    rw [eL]
    refine News.sub N (subs_app subs_left (subs_cons (mem_app (by simp)) (subs_cons (mem_app (by simp)) (subs_cons (mem_app (by simp)) (subs_cons (mem_app (by simp)) (subs_app (fun p hp => mem_app ?_) (subs_cons (mem_app (by simp)) subs_nil)))))))
    simp only [List.mem_cons, hp, or_true]
  · subst hm
    funext z
    unfold mendM
    by_cases q1 : z = Str.ofString "k"
    · subst q1; rfl
    by_cases q2 : z = Str.ofString "last"
    · subst q2; rfl
    by_cases q3 : z = Str.ofString "first"
    · subst q3; rfl
    by_cases q4 : z = Str.ofString "failure"
    · subst q4; rfl
    by_cases q5 : z = Str.ofString "rows"
    · subst q5; rfl
    simp only [q1, q2, q3, q4, q5, if_false]
  · rw [hrun]; simp
  · have e : 20 + 4 * (sts ++ [stepOf (ld.map (·.1)) (ls.map (·.1)) k]).length = 20 + 4 * sts.length + 4 := by simp; omega
    rw [e]; exact hR
  · intro p hp
    rcases List.mem_append.mp hp with hp | hp
    · exact hps p hp
    · rw [List.mem_singleton.mp hp]; exact hD
  · intro p hp
    rcases List.mem_append.mp hp with hp | hp
    · exact hpa p hp
    · rw [List.mem_singleton.mp hp]; exact ⟨hDa, hDb⟩
def MendPost (ld l0 : List (Str × Tok)) (b : Addr) (nb : Nat) (v : Value) (own : List (Addr × Obj)) : Prop :=
  ∃ (t r : Addr) (nr : Nat) (ls : List (Str × Tok)) (sl : Addr) (cap : Nat) (ps : List (Addr × Obj)), v = .ref t ∧ (t, tup2 (.ref r) (.ref sl)) ∈ own ∧ (sl, refL ps cap) ∈ own ∧ ((r, strL ls nr) ∈ own ∨ (r, strL ls nr) = (b, strL l0 nb)) ∧ (∀ p ∈ ps, p ∈ own) ∧
    ls.map (·.1) = (mendRun (ld.map (·.1)) 40 (l0.map (·.1))).1 ∧ StepsAre ps (mendRun (ld.map (·.1)) 40 (l0.map (·.1))).2 ∧ ls.length = 6
theorem mend_ret {w : World} {base g g9 : Heap} {outer : List Env} {mean : ExcName → Option Value} {mg mb : Str → Option Value} {s : Shared} {L' : Addr} {n tk : Nat} {h' : Heap} {m' : Str → Option Value}
    {ld l0 ls : List (Str × Tok)} {a b sl r D : Addr} {na nb nr cap : Nat} {fown ps : List (Addr × Obj)} {sts : List Step}
    (U : GrU w base outer mean mg mb s [(a, strL ld na), (b, strL l0 nb)]) (G : Gr w base g outer mean mg mb s [(a, strL ld na), (b, strL l0 nb)]) (K : KeepU (outer.filterMap (·.frame)) [] g g9) (F : Fr g9 L' h' m')
    (N : News g9 L' h' ((D, tup2 (.ref r) (.ref sl)) :: (fown ++ (sl, refL ps cap) :: (r, strL ls nr) :: (a, strL ld na) :: (b, strL l0 nb) :: ps)))
    (hend : mendRun (ld.map (·.1)) n (ls.map (·.1)) = (ls.map (·.1), [])) (hS : StepsAre ps sts)
    (hrun : mendRun (ld.map (·.1)) 40 (l0.map (·.1)) = ((mendRun (ld.map (·.1)) n (ls.map (·.1))).1, sts ++ (mendRun (ld.map (·.1)) n (ls.map (·.1))).2))
    (hls : ls.length = 6) (hrb : r = b ∧ ls = l0 ∧ nr = nb ∨ @Ne Nat r a ∧ @Ne Nat r b) (hpa : ∀ p ∈ ps, @Ne Nat p.1 a ∧ @Ne Nat p.1 b) (hDa : @Ne Nat D a) (hDb : @Ne Nat D b) (hsa : @Ne Nat sl a) (hsb : @Ne Nat sl b) :
    RetU s (outer.filterMap (·.frame)) (MendPost ld l0 b nb) (.ok (.ret (.ref D))) { s with heap := h', toks := tk } := by
  rw [hend] at hrun
  simp only [List.append_nil] at hrun
  have no : ∀ {x : Addr}, @Ne Nat x a → @Ne Nat x b → x ∉ ([(a, strL ld na), (b, strL l0 nb)] : List (Addr × Obj)).map (·.1) := fun h1 h2 q => by
    simp only [List.map_cons, List.map_nil, List.mem_cons, List.not_mem_nil, or_false] at q
    rcases q with q | q
    · exact h1 q
    · exact h2 q
  have hargs : ∀ p ∈ [(a, strL ld na), (b, strL l0 nb)], p ∈ (D, tup2 (.ref r) (.ref sl)) :: (fown ++ (sl, refL ps cap) :: (r, strL ls nr) :: (a, strL ld na) :: (b, strL l0 nb) :: ps) :=
    subs_cons (.tail _ (mem_app (by simp))) (subs_cons (.tail _ (mem_app (by simp))) subs_nil)
  have hpsub : ∀ p ∈ ps, p ∈ (D, tup2 (.ref r) (.ref sl)) :: (fown ++ (sl, refL ps cap) :: (r, strL ls nr) :: (a, strL ld na) :: (b, strL l0 nb) :: ps) := fun p hp => .tail _ (mem_app (by simp only [List.mem_cons, hp, or_true]))
  rcases hrb with ⟨rfl, rfl, rfl⟩ | ⟨h1, h2⟩
  · refine U.ret ((D, tup2 (.ref r) (.ref sl)) :: (sl, refL ps cap) :: ps) G K F N hargs (subs_cons (.head _) (subs_cons (.tail _ (mem_app (.head _))) hpsub)) ?_ ⟨D, r, nr, ls, sl, cap, ps, rfl, .head _, .tail _ (.head _), .inr rfl, fun p hp => .tail _ (.tail _ hp), by rw [hrun], by rw [hrun]; exact hS, hls⟩
    refine List.forall_mem_cons.mpr ⟨no hDa hDb, List.forall_mem_cons.mpr ⟨no hsa hsb, fun p hp => no (hpa p hp).1 (hpa p hp).2⟩⟩
  · refine U.ret ((D, tup2 (.ref r) (.ref sl)) :: (sl, refL ps cap) :: (r, strL ls nr) :: ps) G K F N hargs (subs_cons (.head _) (subs_cons (.tail _ (mem_app (.head _))) (subs_cons (.tail _ (mem_app (by simp))) hpsub))) ?_ ⟨D, r, nr, ls, sl, cap, ps, rfl, .head _, .tail _ (.head _), .inl (.tail _ (.tail _ (.head _))), fun p hp => .tail _ (.tail _ (.tail _ hp)), by rw [hrun], by rw [hrun]; exact hS, hls⟩
    refine List.forall_mem_cons.mpr ⟨no hDa hDb, List.forall_mem_cons.mpr ⟨no hsa hsb, List.forall_mem_cons.mpr ⟨no h1 h2, fun p hp => no (hpa p hp).1 (hpa p hp).2⟩⟩⟩
end Mine
end

section
open PySem PySem.W PyProof.Rows PySem.Calls
set_option Elab.async false

namespace Mine
theorem all_of {sl : Addr} {ps : List (Addr × Obj)} (h : ∀ p ∈ ps, @Ne Nat p.1 sl) : ∀ p ∈ ps, p.1 ≠ sl := h
local macro_rules | `(tactic| k_all) => `(tactic| exact all_of (by assumption))
set_option maxRecDepth 100000 in
set_option maxHeartbeats 8000000 in
theorem c_mend {w : World} {base : Heap} {outer : List Env} {mean : ExcName → Option Value} {mg mb : Str → Option Value} {s : Shared} {a b : Addr} {ld l0 : List (Str × Tok)} {na nb : Nat}
    (hd1 : RowsOk 20 (ld.map (·.1))) (h01 : RowsOk 20 (l0.map (·.1))) (hld : ld.length = 6) (hl0 : l0.length = 6)
    (U : GrU w base outer mean mg mb s [(a, strL ld na), (b, strL l0 nb)]) :
    codeAny (model PySem.Challenge.rw_kl0455_01.row.toRowW.prog w) (At outer 370 4700) (.call (.ref 126) ⟨[.ref a, .ref b], []⟩)
      (RetU s (outer.filterMap (·.frame)) (MendPost ld l0 b nb)) s := by
  obtain ⟨g, G⟩ : ∃ g, Gr w base g outer mean mg mb s [(a, strL ld na), (b, strL l0 nb)] := ⟨_, U.gr⟩
  have XS := Frag.In.keeps G.X G.st
  have X0 := G.X
  revert X0; k_fill; intro X0
  refine' enterS (binds := [(Str.ofString "due", .ref a), (Str.ofString "rows", .ref b)]) G ?k6 ?k7 ?k8 ?k9 ?kB ?_ ?c2 ?c3 ?c4 ?c5; (case k6 => k_is); (case k7 => k_is); (case k8 => exact Nat.le_of_ble_eq_true rfl); (case k9 => first | exact BindsTo.of_eq rfl | exact binds_K (by k_in) rfl (by k_is) rfl rfl rfl | fail "k_enter: no rule for these arguments"); (case c5 => decide); (case kB => exact locs rfl); (case c2 => exact rfl); (case c3 => exact rfl); (case c4 => exact rfl)
  k_whole
  clear XS
  intro L' h' F' N' B' X' T'
  (try dsimp only)
  k_fold
  k_with_none
  k_with "getAttr ref" => (k_here; k_dflt (refine' get_failure ?hq40_F ?hq40_N ?hq40_X ?hq40_m1 ?hq40_m2 ?hq40_D ?hq40_f ?hq40_v ?hq40_h ?_; (case hq40_F => k_asm); (case hq40_N => k_asm); (case hq40_X => k_asm); (case hq40_m1 => k_mem); (case hq40_m2 => k_mem); (case hq40_D => assumption); (case hq40_f => first | exact find_test | exact find_example | exact find_got); (case hq40_v => rfl); (case hq40_h => rfl)); intro tk9q)
  k_with "subscriptTail Name Name ref int" => (k_here; k_dflt (refine' item_at ?hq41_N ?hq41_m ?hq41_a ?hq41_b ?hq41_c ?_; (case hq41_N => k_asm); (case hq41_m => k_mem); (case hq41_a => omega); (case hq41_b => omega); (case hq41_c => omega)); intro t9q)
  k_with "call builtin:len" => (k_here; (with_reducible show wpAny _ _ (call (Value.builtin "len") [Value.ref _]) _ _ _); k_dflt (refine' len_refs ?hq42_N ?hq42_m ?hq42_b ?_; (case hq42_N => k_asm); (case hq42_m => k_mem); (case hq42_b => omega)); intro t9q k9q)
  k_with "call builtin:len" => (k_here; (with_reducible show wpAny _ _ (call (Value.builtin "len") [Value.ref _]) _ _ _); k_dflt (refine' len_strs6 ?hq43_N ?hq43_m ?hq43_c ?_; (case hq43_N => k_asm); (case hq43_m => k_mem); (case hq43_c => assumption)); intro t9q k9q)
  k_with "InvEndN" => (k_here; (refine' lastP_end ?hq44_F ?hq44_N ?hq44_hm ?hq44_hP ?hq44_hn ?hq44_ho rfl; (case hq44_F => k_asm); (case hq44_N => k_asm); (case hq44_hm => first | exact col1 | exact col2); (case hq44_hP => first | exact lastAt_set (by assumption) (by assumption) (by omega) (by assumption) | (refine' lastAt_keep ?hq44_p1 ?hq44_p2 ?hq44_p3 ?hq44_p4 ?hq44_p5; (case hq44_p1 => assumption); (case hq44_p2 => assumption); (case hq44_p4 => assumption); (case hq44_p5 => assumption); (case hq44_p3 => omega)) | exact (last_absurd (by assumption) (by assumption)).elim); (case hq44_ho => exact own_sub6); (case hq44_hn => exact base_sub6)))
  k_with "LastB cons" => (k_here; k_dflt (refine' LastB.intro ?hq45_F ?hq45_N ?hq45_hn ?hq45_hm ?hq45_hR; (case hq45_F => k_asm); (case hq45_N => k_asm); (case hq45_hm => exact col1); (case hq45_hR => (refine' lastAt_brk ?hq45_p1 ?hq45_p2 ?hq45_p3 ?hq45_p4 ?hq45_p5; (case hq45_p1 => assumption); (case hq45_p2 => assumption); (case hq45_p4 => assumption); (case hq45_p5 => assumption); (case hq45_p3 => omega))); (case hq45_hn => exact base_sub6)))
  k_with "call builtin:list.append" => (k_here; (with_reducible show wpAny _ _ (call (Value.builtin _) [Value.ref _, _]) _ _ _); k_dflt (refine' append_K ?hq46_k1 ?hq46_k2 ?hq46_k3 ?_ ?hq46_z; (case hq46_k1 => k_asm); (case hq46_k2 => k_asm); (case hq46_k3 => k_upd); (case hq46_z => (rw [sizeLine_eq]; simp only [List.size_toArray, List.length_map]; omega)); k_whole); intro h'q F'q N'q; (try k_sweep))
  k_with "call ref" => ((with_reducible show wpAny _ _ (call (Value.ref 112) _ _) _ _ _); k_dflt (refine' useU [(_, _), (_, _)] (fun U9 => c_missed ?h1 ?h2 U9) ?B ?F ?N U.X U.T ?hA ?hf ?hke ?ha ?hh ?hd ?hu ?_; (case B => k_asm); (case F => k_asm); (case N => k_asm); (case hA => exact rfl); (case hf => exact rfl); (case hke => exact rfl); (case ha => exact subs_cons (by k_mem) (subs_cons (by k_mem) subs_nil)); (case h1 => assumption); (case h2 => assumption); (case hh => exact rfl); (case hd => exact Nat.le_of_ble_eq_true rfl); (case hu => exact Nat.le_of_ble_eq_true rfl)); (intro fv9 own9 h' tk9 g9 hP9 B' X' T' F' N' hne9 hK9))
  k_with "call ref" => ((with_reducible show wpAny _ _ (call (Value.ref 79) [_, _] _) _ _ _); k_dflt (refine' useS [(_, _), (_, _)] (fun g9 b9 o9 G9 => c_safe_str ?q1 ?q2 G9) ?B ?F ?N ?X ?T ?hA ?hf ?hke ?ha ?hh ?hd ?hu ?_; (case B => k_asm); (case F => k_asm); (case N => k_asm); (case X => k_asm); (case T => k_asm); (case hA => exact rfl); (case hf => exact rfl); (case hke => exact rfl); (case ha => exact subs_cons (by k_mem) (subs_cons (by k_mem) subs_nil)); (case hh => exact rfl); (case hd => exact Nat.le_of_ble_eq_true rfl); (case hu => exact Nat.le_of_ble_eq_true rfl); (case q1 => assumption); (case q2 => assumption)); (intro v9 own9 h' tk9 hP9 F' N' hne9; (obtain ⟨e9a, t9, e9b⟩ := hP9); subst e9a e9b; (simp only [List.nil_append] at N'); (try k_sweep)))
  k_with "call ref" => ((with_reducible show wpAny _ _ (call (Value.ref 79) [_, _, _] _) _ _ _); k_dflt (refine' useS [(_, _), (_, _)] (fun g9 b9 o9 G9 => c_safe_lack ?q1 ?q2 ?q3 G9) ?B ?F ?N ?X ?T ?hA ?hf ?hke ?ha ?hh ?hd ?hu ?_; (case B => k_asm); (case F => k_asm); (case N => k_asm); (case X => k_asm); (case T => k_asm); (case hA => exact rfl); (case hf => exact rfl); (case hke => exact rfl); (case ha => exact subs_cons (by k_mem) (subs_cons (by k_mem) subs_nil)); (case hh => exact rfl); (case hd => exact Nat.le_of_ble_eq_true rfl); (case hu => exact Nat.le_of_ble_eq_true rfl); (case q3 => assumption); (case q1 => assumption); (case q2 => assumption)); (intro v9 own9 h' tk9 hP9 F' N' hne9; (obtain ⟨e9a, t9, e9b⟩ := hP9); subst e9a e9b; (simp only [List.nil_append] at N'); (try k_sweep)))
  k_with "call ref" => ((with_reducible show wpAny _ _ (call (Value.ref 91) _ _) _ _ _); k_dflt (refine' useS [(_, _)] (fun g9 b9 o9 G9 => c_set_in2 ?q1 ?q2 ?q3 ?q4 ?q5 ?q6 ?q7 G9) ?B ?F ?N ?X ?T ?hA ?hf ?hke ?ha ?hh ?hd ?hu ?_; (case B => k_asm); (case F => k_asm); (case N => k_asm); (case X => k_asm); (case T => k_asm); (case hA => exact rfl); (case hf => exact rfl); (case hke => exact rfl); (case ha => exact subs_cons (by k_mem) subs_nil); (case hh => exact rfl); (case hd => exact Nat.le_of_ble_eq_true rfl); (case hu => exact Nat.le_of_ble_eq_true rfl); (case q1 => assumption); (case q2 => omega); (case q3 => omega); (case q4 => omega); (case q5 => omega); (case q6 => omega); (case q7 => omega)); (intro v9 own9 h' tk9 hP9 F' N' hne9; (obtain ⟨r9, lr9, nr9, e9a, e9b, hset9, hRo9⟩ := hP9); subst e9a e9b; (simp only [List.cons_append, List.nil_append] at N'); (have hr9n := allNe_of (hne9 _ (List.mem_cons_self ..))); (simp only [AllNe, and_true] at hr9n); (have hlr9 : lr9.length = 6 := by simpa using hRo9.len); (try k_sweep)))
  k_with "exec While" => ((refine' while_U (n₀ := 40) (news := own9 ++ [(_, listOf #[] 0), (b, strL l0 nb), (a, strL ld na), (b, strL l0 nb)]) (MendJ (outer.filterMap (·.frame)) g ld l0 a b _ na nb) ?B ?X ?T ?F ?N ?J ?_ ?hE); (case B => k_asm); (case F => k_asm); (case X => k_asm); (case T => k_asm); (case N => exact news_start (by k_asm)); (case J => (refine' mendJ_start rfl rfl hP9 h01 ?q1 ?q2 _ hK9; (case q1 => omega); (case q2 => exact fun p hp => Ne.symm (neN (hne9 p hp _ (List.mem_cons_self ..)))))); (case hE => passes_own); (intro n9 g9 m9 nw9 h9 tk9 B9 X9 T9 F9 N9 J9; obtain ⟨K9, u1, u2, u3, fv, fown, r, nr, ls, ps, sts, cap, rfl, rfl, hM, hS, hrun, hn40, hRo, hps, hr, hfo, hrb, hpa⟩ := J9; rcases hM with ⟨rfl, rfl, hsame⟩ | ⟨k9, x9, y9, v1, v2, z1, z2, z3, z4, z5, e9, t9, d9, tb9, sl9, od9, t1, t2, t3, rfl, rfl, hD9, hde9⟩ <;> (have hls : ls.length = 6 := by simpa using hRo.len) <;> (have hps6 := hS.length) <;> simp only [List.nil_append, List.cons_append] at N9; rotate_left; (have hx9 := row_len hd1 z2 (by omega)); (have hy9 := row_len hRo z3 (by omega)); (have hes : @Ne Nat e9 _ := hfo _ (List.mem_cons_self ..)); (have hds : @Ne Nat d9 _ := hfo _ (List.mem_cons_of_mem _ (List.mem_cons_self ..))); (have hlast := lastOf_bd (ld.map (·.1)) (ls.map (·.1)) z1); (try k_fold); rotate_left; (try k_fold)))
  k_with "pyIter ref" => k_dflt ((refine' for_rangeL (z := Str.ofString "last") (5 - k9) (LastAt (ld.map (·.1)) (ls.map (·.1)) k9) (LastEnd (ld.map (·.1)) (ls.map (·.1)) k9) ?hh ?hr ?hn ?b1 ?b2 ?b3 ?F ?N ?hj ?_ lastAt_end ?_); (case hh => rfl); (case hr => assumption); (case F => k_asm); (case N => k_asm); (case hn => omega); (case b1 => omega); (case b2 => omega); (case b3 => omega); (case hj => exact lastAt_start (by omega)); (intro i9 t9 l9 tl9 h9 tk9 own9 hi9 ho9 hP9 F9 N9; (simp only [List.cons_append, List.nil_append] at N9); k_fold); (rotate_left; intro l9 tl9 u9 h9 tk9 hP9 F9 N9; (simp only [LastEnd] at hP9); (have hLL := hP9); (try k_fold); rotate_left))
  w_top off
  k_steps
  all_goals (try k_unmd)
  all_goals k_steps
  · exact mend_ret (fown := []) U G K9 (by k_asm) (by k_asm) (mendRun_none (missAt_none hsame)) hS hrun hls hrb hpa (by omega) (by omega) (by omega) (by omega)
  · exact mend_turn (by k_asm) (by k_asm) (by k_asm) (by k_asm) (by k_asm) rfl K9 hK9 hP9 hS hrun hn40 (by omega) z1 z2 z3 z4 z5 hLL (by omega) hset9 hRo9 hps (by omega) (by omega) (own_apart hne9 (by k_mem)) (by omega) (by omega) hpa (by omega) (by omega)
  · exact mend_ret (fown := [(e9, _), (d9, _)]) U G K9 (by k_asm) (by k_asm) (mendRun_zero (by omega)) hS hrun hls hrb hpa (by omega) (by omega) (by omega) (by omega)
end Mine
end

section
open PySem PySem.W PyProof.Rows PySem.Calls
set_option Elab.async false
set_option maxRecDepth 100000
namespace Mine
section
variable {w : World} {base g : Heap} {outer : List Env} {mean : ExcName → Option Value} {mg mb : Str → Option Value} {s : Shared} {args : List (Addr × Obj)}
/-- entering a def some of whose names are cells -/
theorem enterC {prog : Program} {d u : Nat} {R : Result → Shared → Prop} {name qual : Str} {params : Arguments} {body : List Stmt} {scope : Scope} {dV kV doc pm cdv ct oc : Value} {an od : Option Addr} {osl : Array (Option Value)} {f : Addr} {cargs : Args} {binds : List (Str × Value)}
    (G : Gr w base g outer mean mg mb s args)
    (ho : (hd.heap_39 w.params).lookup f = some ⟨oc, od, .func (fnOf name qual params body scope dV kV doc pm an cdv ct), osl⟩) (hcd : codeIn (hd.heap_39 w.params) cdv qual = true) (hroom : d < recursionLimit)
    (hbind : BindsTo s (fnOf name qual params body scope dV kV doc pm an cdv ct) cargs binds)
    (hkind : ∀ n, ∀ x ∈ binds, scope.names.lookup x.1 = some .local ∨ (scope.names.lookup x.1 = some .cell ∧ ((cellsFrom n scope.names []).lookup x.1).isSome = true))
    (hnd : ((cellsFrom 0 scope.names []).map (·.1)).Nodup)
    (h : ∀ L' h₁ tk cells, Fr g L' h₁ (bindL (envOfC qual scope L' f cdv).kindOf binds fun _ => none) → News g L' h₁ (cells ++ args) →
      CellsAre (bindC (envOfC qual scope L' f cdv).kindOf binds fun _ => none) (cellsFrom (L' + 1) scope.names []) cells → Below (At outer d u) base outer g → (hd.heap_39 w.params).In g → Top hd.view_39 lo3 mean mg mb g → (∀ p ∈ args, p.1 < L') →
      wpAny (model prog w) ((At outer d u).deeper (envOfC qual scope L' f cdv)) (execs body (envOfC qual scope L' f cdv))
        (fun fl s' => R (.ok (.ret (match fl with | .ret v => v | _ => .none))) s')
        (fun e s' => wpAny (model prog w) ((At outer d u).deeper (envOfC qual scope L' f cdv)) (leaving (envOfC qual scope L' f cdv) e) (fun _ s'' => R (.error e) s'') (fun e' s'' => R (.error e') s'') s')
        { s with heap := h₁, toks := tk })
    (hco : scope.isCoroutine = false) (hgen : scope.isGenerator = false) (hk : scope.kind = .function) : codeAny (model prog w) (At outer d u) (.call (.ref f) cargs) R s := by
  refine codeAny_call_function hroom (G.st _ _ (G.X _ _ ho)) rfl hco hgen rfl (codeRec_of (Frag.In.keeps G.X G.st) hcd) (hbind _ _ _ _ ?_)
  refine wpAny_newFunctionEnv_cells hk (hkind _) fun env' he s' x => ?_
  subst he
  refine ⟨(G.T.nolimit.keeps G.st).keeps x.toInCall.keep, codeAny_func ?_⟩
  obtain ⟨h₁, tk, rfl, _⟩ := x.done
  have hk₁ := x.toInCall.keep
  obtain ⟨cells, NC, Y⟩ := Cl.news (h₀ := s.heap) (Nat.le_refl _) fun n c hm => ⟨x.cell n c (lookup_of_mem_nodup (cellsFrom_names scope.names 0 (s.heap.objs.size + 1) [] [] rfl ▸ hnd) hm), x.above n c hm⟩
  refine wpAny_mono (h s.heap.objs.size h₁ tk cells ⟨x.toInCall.ns, fun b o e => hk₁ b o (G.st b o e), G.sz⟩ (fun p hp => ?_) Y ⟨rfl, G.B.stays, G.B.frames⟩ G.X G.T fun p hp => Heap.lt_size (G.N p hp).1) (fun fl s' hl => hl) fun _ _ y => y
  rcases List.mem_append.mp hp with hp | hp
  · refine ⟨(NC p hp).1, (NC p hp).2.1, ?_⟩
    cases q : g.get? p.1 with
    | none => rfl
    | some o => have := G.st _ _ q; rw [(NC p hp).2.2] at this; cases this
  · exact G.news hk₁ p hp
end
end Mine
end

section
open PySem PySem.W PyProof.Rows PySem.Calls PySem.Builtin
set_option Elab.async false
set_option maxRecDepth 100000
namespace Mine
theorem ints_of_all : ∀ {zs : List Value}, (∀ v ∈ zs, ∃ n t, v = .int n t) → ∃ rs, IntsAre zs rs
  | [], _ => ⟨[], .nil⟩
  | v :: zs, h => by
    obtain ⟨n, t, rfl⟩ := h v (.head _)
    obtain ⟨rs, hr⟩ := ints_of_all (zs := zs) fun u hu => h u (.tail _ hu)
    exact ⟨n :: rs, .cons n t hr⟩
theorem ints_all : ∀ {zs : List Value} {rs : List Int}, IntsAre zs rs → ∀ v ∈ zs, ∃ n t, v = .int n t
  | _, _, .nil, _, h => nomatch h
  | _, _, .cons n t hr, v, h => by
    rcases List.mem_cons.mp h with rfl | h
    · exact ⟨n, t, rfl⟩
    · exact ints_all hr v h
theorem pick_ints {vs : List Value} {ns : List Int} (hi : IntsAre vs ns) (lo hi' st : Option Int) : ∃ rs, IntsAre (slicePick vs.toArray lo hi' st).toList rs ∧ rs.length ≤ ns.length := by
  obtain ⟨rs, hr⟩ := ints_of_all (zs := (slicePick vs.toArray lo hi' st).toList) fun v hv => by
    unfold slicePick at hv
    simp only [List.mem_filterMap] at hv
    obtain ⟨i, _, e⟩ := hv
    exact ints_all hi v (List.mem_of_getElem? (i := i) (by simpa using e))
  refine ⟨rs, hr, ?_⟩
  have h1 := slicePick_size_le vs.toArray lo hi' st
  have h2 := hr.length
  have h3 := hi.length
  simp only [Array.length_toList, List.size_toArray] at h1 h2
  omega
section
variable {prog : Program} {w : World} {A : Around} {E : Value → Shared → Prop} {s : Shared} {h₀ : Heap} {L l : Addr} {m : Str → Option Value} {news : List (Addr × Obj)} {vs : List Value} {ns : List Int} {lo hi st : Option Int} {vl vu vk : Value} {Q : Value → Shared → Prop}
theorem slice3_ints {value slice : PySem.Expr} {ops : List Value} (F : Fr h₀ L s.heap m) (N : News h₀ L s.heap news) (hl : h₀.IsList l vs.toArray) (hI : IntsAre vs ns) (hb : ns.length ≤ 1000) (pl : IsPart vl lo) (pu : IsPart vu hi) (pk : IsPart vk st) (h0 : st ≠ some 0)
    (h : ∀ D h' zs rs, IntsAre zs rs → rs.length ≤ ns.length → Fr h₀ L h' m → News h₀ L h' ((D, listOf zs.toArray 0) :: news) → (∀ p ∈ news, p.1 < D) → Q (.ref D) { s with heap := h' })
    (hs : subscripted slice false (.ref l) (.ref s.heap.objs.size) = operate ops (getItem (.ref l) (.ref s.heap.objs.size))) (ht : ∀ r, letTemporaryGo value (.ref l) r = pure ()) :
    wpAny (model prog w) A (subscriptTail value slice (.ref l) (.ref s.heap.objs.size)) Q E { s with heap := s.heap.push { cls := .type "slice", data := .fields #[vl, vu, vk] } } := by
  obtain ⟨rs, hr, hle⟩ := pick_ints hI lo hi st
  refine kmk_slice3_lit F N (let ⟨o, ho, r⟩ := hl; ⟨o, F.keep _ _ ho, r⟩) pl pu pk h0 rfl (fun D h' F' N' l1 => h D h' _ rs hr hle F' N' l1) hs ht ?_
  have := hI.length
  rw [sizeLine_eq]; simp only [List.size_toArray]; omega
end
section
variable {prog : Program} {w : World} {A : Around} {h₀ : Heap} {L : Addr} {m : Str → Option Value} {env : Env} {elt : PySem.Expr} {x : Str} {scope : Scope} {cl : List (Str × Addr)} {s : Shared} {S : List (Addr × Obj) → Prop} {P : Nat → Value → Prop} {Fin : List Value → List (Addr × Obj) → Prop} {news : List (Addr × Obj)}
abbrev ElInt (news : List (Addr × Obj)) (Pr : Int → Prop) (y : Value) (news' : List (Addr × Obj)) : Prop := news' = news ∧ ∃ r t, y = .int r t ∧ Pr r
/-- a comprehension of ints, of each of which Pr holds -/
theorem comp_ints {n : Nat} (Pr : Int → Prop)
    (turn : ∀ i v I oI C oC D m₂ ys h tk (E' : Value → Shared → Prop), i < n → P i v → LCg.NsObj oC m₂ → m₂ x = some v → Fr h₀ L h m → News h₀ L h ((I, oI) :: (C, oC) :: (D, LCg.lst ys) :: news) → LCg.Off3 I C D news → ((@Ne Nat I C) ∧ (@Ne Nat I D) ∧ (@Ne Nat C D)) →
      wpAny (model prog w) A (eval elt (compEnvC scope cl C env)) (LCg.CompEnd h₀ L m { s with heap := h, toks := tk } I oI C oC D (LCg.lst ys) S (fun y news' => ElInt news Pr y news')) E' { s with heap := h, toks := tk })
    (fin : ∀ ys rs, IntsAre ys rs → rs.length = n → (∀ r ∈ rs, Pr r) → Fin ys news) : LCg.CompRest prog w A h₀ L m env elt x scope cl s S P Fin n 0 [] news := by
  have key : ∀ (j i : Nat) (ys : List Value) (rs : List Int), i + j = n → IntsAre ys rs → rs.length = i → (∀ r ∈ rs, Pr r) → LCg.CompRest prog w A h₀ L m env elt x scope cl s S P Fin j i ys news := by
    intro j
    induction j with
    | zero => intro i ys rs hi hy hl hp; exact LCg.CompRest.zero (fin ys rs hy (by omega) hp)
    | succ j ih =>
      intro i ys rs hi hy hl hp
      refine LCg.CompRest.succ ?_
      intro v I oI C oC D m₂ h tk E' hv hC hx F N off ne
      refine wpAny_mono (turn i v I oI C oC D m₂ ys h tk E' (by omega) hv hC hx F N off ne) (fun y s₂ hq => ?_) fun _ _ e => e
      obtain ⟨h', tk', nw, e, F', N', off', hS, hn, r, t', hy', hr⟩ := hq
      rw [hn] at N' off' hS
      refine ⟨h', tk', news, e, F', N', off', hS, ?_⟩
      rw [hy']
      refine ih (i + 1) _ (rs ++ [r]) (by omega) (IntsAre.append hy (.cons r t' .nil)) (by simp [hl]) fun q hq => ?_
      rcases List.mem_append.mp hq with hq | hq
      · exact hp q hq
      · rw [List.mem_singleton.mp hq]; exact hr
  exact key n 0 [] [] (by omega) .nil rfl (fun _ h => nomatch h)
end
section
variable {prog : Program} {w : World} {A : Around} {h₀ : Heap} {L : Addr} {m : Str → Option Value} {env : Env} {elt : PySem.Expr} {x : Str} {scope : Scope} {cl : List (Str × Addr)} {s : Shared} {S : List (Addr × Obj) → Prop} {P : Nat → Value → Prop} {Fin : List Value → List (Addr × Obj) → Prop} {news : List (Addr × Obj)}
abbrev ElStr (news : List (Addr × Obj)) (Pr : Str → Prop) (y : Value) (news' : List (Addr × Obj)) : Prop := news' = news ∧ ∃ r t, y = .str r t ∧ Pr r
/-- a comprehension of texts, of each of which Pr holds -/
theorem comp_strs {n : Nat} (Pr : Str → Prop)
    (turn : ∀ i v I oI C oC D m₂ ys h tk (E' : Value → Shared → Prop), i < n → P i v → LCg.NsObj oC m₂ → m₂ x = some v → Fr h₀ L h m → News h₀ L h ((I, oI) :: (C, oC) :: (D, LCg.lst ys) :: news) → LCg.Off3 I C D news → ((@Ne Nat I C) ∧ (@Ne Nat I D) ∧ (@Ne Nat C D)) →
      wpAny (model prog w) A (eval elt (compEnvC scope cl C env)) (LCg.CompEnd h₀ L m { s with heap := h, toks := tk } I oI C oC D (LCg.lst ys) S (fun y news' => ElStr news Pr y news')) E' { s with heap := h, toks := tk })
    (fin : ∀ ls : List (Str × Tok), ls.length = n → (∀ r ∈ ls.map (·.1), Pr r) → Fin (strValues ls) news) : LCg.CompRest prog w A h₀ L m env elt x scope cl s S P Fin n 0 [] news := by
  have key : ∀ (j i : Nat) (ls : List (Str × Tok)), i + j = n → ls.length = i → (∀ r ∈ ls.map (·.1), Pr r) → LCg.CompRest prog w A h₀ L m env elt x scope cl s S P Fin j i (strValues ls) news := by
    intro j
    induction j with
    | zero => intro i ls hi hl hp; exact LCg.CompRest.zero (fin ls (by omega) hp)
    | succ j ih =>
      intro i ls hi hl hp
      refine LCg.CompRest.succ ?_
      intro v I oI C oC D m₂ h tk E' hv hC hx F N off ne
      refine wpAny_mono (turn i v I oI C oC D m₂ _ h tk E' (by omega) hv hC hx F N off ne) (fun y s₂ hq => ?_) fun _ _ e => e
      obtain ⟨h', tk', nw, e, F', N', off', hS, hn, r, t', hy', hr⟩ := hq
      rw [hn] at N' off' hS
      refine ⟨h', tk', news, e, F', N', off', hS, ?_⟩
      rw [hy']
      have := ih (i + 1) (ls ++ [(r, t')]) (by omega) (by simp [hl]) fun q hq => by
        simp only [List.map_append, List.map_cons, List.map_nil, List.mem_append, List.mem_singleton] at hq
        rcases hq with hq | hq
        · exact hp q hq
        · rw [hq]; exact hr
      simpa [strValues] using this
  exact key n 0 [] (by omega) rfl (fun _ h => nomatch h)
end
abbrev tup3 (a b c : Value) : Obj := { cls := .type "tuple", data := .seq [a, b, c].toArray }
def kinds5 : List Str := [Str.ofString "", Str.ofString "a", Str.ofString " ", Str.ofString "b\rc", Str.ofString " d"]
theorem fmod6 (d : Int) : 0 ≤ d.fmod 6 ∧ d.fmod 6 < 6 := ⟨fmod_lo _ (by decide), fmod_hi _ (by decide)⟩
def StrokeOk (f l w : Int) : Prop := 0 ≤ f ∧ f ≤ l ∧ l < 6 ∧ -1 ≤ w ∧ w ≤ 4
theorem stroke_ok (d : Int) : StrokeOk (d.fmod 6) (d.fmod 6 + (d.fdiv 6).fmod (6 - d.fmod 6)) ((d.fdiv 36).fmod 6 - 1) := by
  have h1 := fmod6 d
  have h2 := fmod6 (d.fdiv 36)
  have h3 := fmod_lo (d.fdiv 6) (n := 6 - d.fmod 6) (by omega)
  have h4 := fmod_hi (d.fdiv 6) (n := 6 - d.fmod 6) (by omega)
  unfold StrokeOk
  omega
theorem base_bd : ∀ n : Nat, 0 ≤ ([1, 0, 2, 3, 4, 6, 126, 154, 194, 19] : List Int).getD n 0 ∧ ([1, 0, 2, 3, 4, 6, 126, 154, 194, 19] : List Int).getD n 0 ≤ 194
  | 0 | 1 | 2 | 3 | 4 | 5 | 6 | 7 | 8 | 9 => by decide
  | n + 10 => by simp
theorem sum_bd {rs : List Int} {B : Int} (h : ∀ r ∈ rs, 0 ≤ r ∧ r < B) : 0 ≤ rs.sum ∧ rs.sum ≤ rs.length * B := by
  induction rs with
  | nil => simp
  | cons a r ih =>
    have h1 := h a (.head _)
    have h2 := ih fun q hq => h q (.tail _ hq)
    simp only [List.sum_cons, List.length_cons, Int.natCast_add, Int.add_mul]
    omega
end Mine
end

section
open PySem PySem.W PyProof.Rows PySem.Calls PySem.Builtin
set_option Elab.async false
set_option maxRecDepth 100000
namespace Mine
def All2 (R : Value → Nat → Prop) : List Value → List Nat → Prop
  | [], [] => True
  | y :: ys, i :: is => R y i ∧ All2 R ys is
  | _, _ => False
theorem All2.snoc {R : Value → Nat → Prop} {y : Value} {i : Nat} (h : R y i) : ∀ {ys : List Value} {is : List Nat}, All2 R ys is → All2 R (ys ++ [y]) (is ++ [i])
  | [], [], _ => ⟨h, trivial⟩
  | [], _ :: _, q => q.elim
  | _ :: _, [], q => q.elim
  | _ :: _, _ :: _, q => ⟨q.1, q.2.snoc h⟩
theorem All2.length {R : Value → Nat → Prop} : ∀ {ys : List Value} {is : List Nat}, All2 R ys is → ys.length = is.length
  | [], [], _ => rfl
  | [], _ :: _, q => q.elim
  | _ :: _, [], q => q.elim
  | _ :: _, _ :: _, q => by simp [q.2.length]
theorem All2.ints {R : Value → Nat → Prop} {val : Nat → Int} (hR : ∀ y i, R y i → ∃ t, y = .int (val i) t) : ∀ {ys : List Value} {is : List Nat}, All2 R ys is → IntsAre ys (is.map val)
  | [], [], _ => .nil
  | [], _ :: _, q => q.elim
  | _ :: _, [], q => q.elim
  | y :: _, i :: _, q => by
    obtain ⟨t, e⟩ := hR y i q.1
    subst e
    exact .cons _ t (q.2.ints hR)
section
variable {prog : Program} {w : World} {A : Around} {h₀ : Heap} {L : Addr} {m : Str → Option Value} {env : Env} {ct elt : PySem.Expr} {x : Str} {scope : Scope} {cl : List (Str × Addr)} {s : Shared} {S : List (Addr × Obj) → Prop} {P : Nat → Value → Prop} {Fin : List Value → List (Addr × Obj) → Prop} {news : List (Addr × Obj)}
abbrev ElIs (news : List (Addr × Obj)) (tst : Nat → Bool) (R : Value → Nat → Prop) (i : Nat) (y : Value) (news' : List (Addr × Obj)) : Prop := news' = news ∧ R y i ∧ tst i = true
abbrev ElNo (news : List (Addr × Obj)) (tst : Nat → Bool) (i : Nat) (_ : Value) (news' : List (Addr × Obj)) : Prop := news' = news ∧ tst i = false
/-- a comprehension with a test -/
theorem comp_filter {n : Nat} (tst : Nat → Bool) (R : Value → Nat → Prop)
    (turn : ∀ i v I oI C oC D m₂ ys h tk (E' : Value → Shared → Prop), i < n → P i v → LCg.NsObj oC m₂ → m₂ x = some v → Fr h₀ L h m → News h₀ L h ((I, oI) :: (C, oC) :: (D, LCg.lst ys) :: news) → LCg.Off3 I C D news → ((@Ne Nat I C) ∧ (@Ne Nat I D) ∧ (@Ne Nat C D)) →
      wpAny (model prog w) A (isTrue ct (compEnvC scope cl C env) (eval ct (compEnvC scope cl C env))) (fun ok s' => if ok = true then
        wpAny (model prog w) A (eval elt (compEnvC scope cl C env)) (LCg.CompEnd h₀ L m { s with heap := h, toks := tk } I oI C oC D (LCg.lst ys) S (ElIs news tst R i)) E' s'
        else LCg.CompEnd h₀ L m { s with heap := h, toks := tk } I oI C oC D (LCg.lst ys) S (ElNo news tst i) Value.none s') E' { s with heap := h, toks := tk })
    (fin : ∀ ys, All2 R ys ((List.range n).filter tst) → Fin ys news) : LCt.CompRestT prog w A h₀ L m env ct elt x scope cl s S P Fin n 0 [] news := by
  have key : ∀ (j i : Nat) (ys : List Value), i + j = n → All2 R ys ((List.range i).filter tst) → LCt.CompRestT prog w A h₀ L m env ct elt x scope cl s S P Fin j i ys news := by
    intro j
    induction j with
    | zero =>
      intro i ys hi hy
      have e : i = n := by omega
      subst e
      exact LCt.CompRestT.zero (fin ys hy)
    | succ j ih =>
      intro i ys hi hy
      refine LCt.CompRestT.succ ?_
      intro v I oI C oC D m₂ h tk E' hv hC hx F N off ne
      refine wpAny_mono (turn i v I oI C oC D m₂ ys h tk E' (by omega) hv hC hx F N off ne) (fun ok s₂ hq => ?_) fun _ _ e => e
      cases ok with
      | true =>
        simp only [if_true] at hq ⊢
        refine wpAny_mono hq (fun y s₃ hy' => ?_) fun _ _ e => e
        obtain ⟨h', tk', nw, e, F', N', off', hS, hn, hr, ht⟩ := hy'
        rw [hn] at N' off' hS
        refine ⟨h', tk', news, e, F', N', off', hS, ih (i + 1) _ (by omega) ?_⟩
        rw [List.range_succ, List.filter_append]
        simp only [List.filter_cons, ht, if_true, List.filter_nil]
        exact hy.snoc hr
      | false =>
        simp only [Bool.false_eq_true, if_false] at hq ⊢
        obtain ⟨h', tk', nw, e, F', N', off', hS, hn, ht⟩ := hq
        rw [hn] at N' off' hS
        refine ⟨h', tk', news, e, F', N', off', hS, ih (i + 1) _ (by omega) ?_⟩
        rw [List.range_succ, List.filter_append]
        simp only [List.filter_cons, ht, Bool.false_eq_true, if_false, List.filter_nil, List.append_nil]
        exact hy
  exact key n 0 [] (by omega) trivial
end
end Mine
end

section
open PySem PySem.W PyProof.Rows PySem.Calls PySem.Builtin
set_option Elab.async false
set_option maxRecDepth 100000
namespace Mine
/-- a list of these ints -/
def IsInts (o : Obj) (rs : List Int) : Prop := ∃ vs n, o = listOf vs.toArray n ∧ IntsAre vs rs
section
variable {prog : Program} {w : World} {A : Around} {E : Value → Shared → Prop} {s : Shared} {h₀ : Heap} {L l : Addr} {m : Str → Option Value} {news : List (Addr × Obj)} {o : Obj} {rs : List Int} {k : Int} {u t : Tok} {Q : Value → Shared → Prop}
theorem zeros (F : Fr h₀ L s.heap m) (N : News h₀ L s.heap news) (hm : (l, listOf #[.int 0 t] 0) ∈ news) (h0 : 0 ≤ k) (h1 : k ≤ 1000)
    (h : ∀ D o h', Fr h₀ L h' m → News h₀ L h' ((D, o) :: news) → (∀ p ∈ news, p.1 < D) → IsInts o (List.replicate k.toNat 0) → Q (.ref D) { s with heap := h' }) : wpAny (model prog w) A (binaryOp .Mult (.ref l) (.int k u)) Q E s := by
  have hi : IntsAre [.int 0 t] [0] := .cons 0 t .nil
  refine KM.mul F N (vs := [.int 0 t]) (News.isList N hm) hi (by omega) (by omega) (by simp; omega) fun D h' F' N' l1 hr _ _ _ _ _ => h D _ h' F' N' l1 ⟨_, _, rfl, ?_⟩
  have e : (List.replicate k.toNat [(0 : Int)]).flatten = List.replicate k.toNat 0 := by simp
  rw [← e]; exact hr
theorem len_ints (N : News h₀ L s.heap news) (hm : (l, o) ∈ news) (ho : IsInts o rs) (hb : rs.length ≤ 1000000) (h : ∀ t k, Q (.int (rs.length : Int) t) { s with toks := k }) :
    wpAny (model prog w) A (call (.builtin "len") [.ref l]) Q E s := by
  obtain ⟨vs, n, rfl, hi⟩ := ho
  have e : vs.toArray.size = rs.length := by simp [hi.length]
  refine len_list (News.isList N hm) (by rw [e]; omega) ?_
  rw [e]; exact h _ _
theorem item_ints {value slice : PySem.Expr} (N : News h₀ L s.heap news) (hm : (l, o) ∈ news) (ho : IsInts o rs) (h0 : 0 ≤ k) (h1 : k < rs.length) (h2 : k < 1000000)
    (h : ∀ t, Q (.int (rs.getD k.toNat 0) t) s)
    (hs : subscripted slice false (.ref l) (.int k u) = operate [.ref l, .int k u] (getItem (.ref l) (.int k u)) := by with_unfolding_all rfl) :
    wpAny (model prog w) A (subscriptTail value slice (.ref l) (.int k u)) Q E s := by
  obtain ⟨vs, n, rfl, hi⟩ := ho
  have hl := News.isList N hm
  have hlen := hi.length
  obtain ⟨v, e⟩ : ∃ v, vs[k.toNat]? = some v := ⟨_, List.getElem?_eq_getElem (by omega)⟩
  obtain ⟨r, t, rfl, er⟩ := IntsAre.at hi k.toNat v e
  have eg : rs.getD k.toNat 0 = r := by simp [List.getD, er]
  exact tail_any hl.typeIs slot_list_getitem.lookup (wpAny_getItem_list hl h0 (by omega) (by simpa using e) (eg ▸ h t)) hs
end
end Mine
end

section
open PySem PySem.W PyProof.Rows
set_option Elab.async false
namespace Mine
/-! the strokes over the page, in plain words -/
theorem ind_none {w : Int} {x : Str} (h : w ≤ 0) : ind w x = x := by
  unfold ind indL
  have e : spaces w = [] := by unfold spaces; rw [show w.toNat = 0 by omega]; rfl
  rw [e]
  split
  · rename_i q
    have : x = ⟨(cpl x).toArray⟩ := by cases x; rfl
    rw [this, q]
  · cases x; rfl
theorem spaces_add {a b : Int} (ha : 0 ≤ a) (hb : 0 ≤ b) : spaces a ++ spaces b = spaces (a + b) := by
  unfold spaces
  rw [List.replicate_append_replicate]
  congr 1; omega
theorem ind_ind {a b : Int} {x : Str} (ha : 0 ≤ a) (hb : 0 ≤ b) : ind a (ind b x) = ind (a + b) x := by
  show (⟨_⟩ : Str) = ⟨_⟩
  congr 2
  rw [cpl_ind]
  unfold indL
  by_cases q : cpl x = []
  · simp [q]
  · simp only [q, if_false]
    rw [if_neg (by simp [q]), ← spaces_add ha hb, List.append_assoc]
abbrev Stroke := Int × Int × Int
def leadAt (sts : List Stroke) (k : Nat) : Int := (sts.map fun s => if 0 < s.2.2 ∧ s.1 ≤ (k : Int) ∧ (k : Int) ≤ s.2.1 then s.2.2 else 0).sum
def pageOf (B : List Str) (sts : List Stroke) : List Str := (List.range 6).map fun k => ind (leadAt sts k) (atR B k)
theorem leadAt_nonneg (sts : List Stroke) (k : Nat) : 0 ≤ leadAt sts k := by
  unfold leadAt
  induction sts with
  | nil => simp
  | cons s r ih =>
    simp only [List.map_cons, List.sum_cons]
    split <;> omega
theorem leadAt_snoc (sts : List Stroke) (s : Stroke) (k : Nat) : leadAt (sts ++ [s]) k = leadAt sts k + if 0 < s.2.2 ∧ s.1 ≤ (k : Int) ∧ (k : Int) ≤ s.2.1 then s.2.2 else 0 := by
  simp [leadAt]
theorem pageOf_nil {B : List Str} (h : B.length = 6) : pageOf B [] = B := by
  apply List.ext_getElem
  · simp [pageOf, h]
  · intro i h1 h2
    simp only [pageOf, List.getElem_map, List.getElem_range, leadAt, List.map_nil, List.sum_nil]
    rw [ind_none (Int.le_refl 0)]
    simp [atR, List.getElem?_eq_getElem h2]
theorem cut_get {α : Type} {rows : List α} {g : α → α} {a c i : Nat} (hac : a ≤ c) (hc : c ≤ rows.length) :
    (rows.take a ++ ((rows.drop a).take (c - a)).map g ++ rows.drop c)[i]? = if a ≤ i ∧ i < c then rows[i]?.map g else rows[i]? := by
  have la : (rows.take a).length = a := List.length_take_of_le (Nat.le_trans hac hc)
  have lb : (((rows.drop a).take (c - a)).map g).length = c - a := by
    rw [List.length_map, List.length_take, List.length_drop, Nat.min_eq_left (Nat.sub_le_sub_right hc a)]
  have lab : (rows.take a ++ ((rows.drop a).take (c - a)).map g).length = c := by rw [List.length_append, la, lb, Nat.add_sub_cancel' hac]
  rcases Nat.lt_or_ge i c with h | h
  · rw [List.getElem?_append_left (by rw [lab]; exact h)]
    rcases Nat.lt_or_ge i a with h' | h'
    · rw [List.getElem?_append_left (by rw [la]; exact h'), List.getElem?_take_of_lt h', if_neg (fun q => absurd h' (Nat.not_lt.mpr q.1))]
    · rw [List.getElem?_append_right (by rw [la]; exact h'), la, List.getElem?_map, List.getElem?_take_of_lt (Nat.sub_lt_sub_right h' h), List.getElem?_drop, Nat.add_sub_cancel' h', if_pos ⟨h', h⟩]
  · rw [List.getElem?_append_right (by rw [lab]; exact h), lab, List.getElem?_drop, Nat.add_sub_cancel' h, if_neg (fun q => absurd q.2 (Nat.not_lt.mpr h))]
theorem setIn_get {rows : List Str} {a b i : Nat} {w : Int} (h1 : a ≤ b) (h2 : b < rows.length) : (setIn rows (a : Int) (b : Int) w)[i]? = if a ≤ i ∧ i < b + 1 then rows[i]?.map (ind w) else rows[i]? :=
  cut_get (Nat.le_succ_of_le h1) h2
theorem setIn_page {B : List Str} {sts : List Stroke} {f l w : Int} (h0 : 0 ≤ f) (h1 : f ≤ l) (h2 : l < 6) : setIn (pageOf B sts) f l w = pageOf B (sts ++ [(f, l, w)]) := by
  have hl : (pageOf B sts).length = 6 := by simp [pageOf]
  obtain ⟨a, rfl⟩ := Int.eq_ofNat_of_zero_le h0
  obtain ⟨b, rfl⟩ := Int.eq_ofNat_of_zero_le (Int.le_trans h0 h1)
  have h1' := Int.ofNat_le.mp h1
  have h2' : b < 6 := Int.ofNat_lt.mp h2
  apply List.ext_getElem?
  intro i
  rw [setIn_get h1' (hl ▸ h2')]
  rcases Nat.lt_or_ge i 6 with hi | hi
  · have hp : (pageOf B sts)[i]? = some (ind (leadAt sts i) (atR B i)) := by simp [pageOf, hi]
    have hq : (pageOf B (sts ++ [((a : Int), (b : Int), w)]))[i]? = some (ind (leadAt (sts ++ [((a : Int), (b : Int), w)]) i) (atR B i)) := by simp [pageOf, hi]
    rw [hq, leadAt_snoc, hp]
    simp only
    by_cases c : a ≤ i ∧ i < b + 1
    · rw [if_pos c, Option.map_some]
      congr 1
      by_cases c3 : 0 < w
      · rw [if_pos ⟨c3, Int.ofNat_le.mpr c.1, Int.ofNat_le.mpr (Nat.le_of_lt_succ c.2)⟩, ind_ind (Int.le_of_lt c3) (leadAt_nonneg _ _), Int.add_comm]
      · rw [if_neg (fun q => c3 q.1), Int.add_zero, ind_none (Int.not_lt.mp c3)]
    · rw [if_neg c, if_neg (fun q => c ⟨Int.ofNat_le.mp q.2.1, Nat.lt_succ_of_le (Int.ofNat_le.mp q.2.2)⟩), Int.add_zero]
  · have e1 : (pageOf B sts)[i]? = none := List.getElem?_eq_none (hl ▸ hi)
    have e2 : (pageOf B (sts ++ [((a : Int), (b : Int), w)]))[i]? = none := List.getElem?_eq_none (by simp [pageOf]; exact hi)
    rw [e1, e2]
    split <;> rfl
end Mine
end

section
open PySem PySem.W PyProof.Rows PySem.Calls PySem.Builtin
set_option Elab.async false
set_option maxRecDepth 100000
namespace Mine
/-! strokes as a list: tuples in the ledger, told by their ints -/
def StrokesAre (ps : List (Addr × Obj)) (sts : List Stroke) : Prop :=
  ps.length = sts.length ∧ ∀ (i : Nat) p, ps[i]? = some p → ∃ (f l w : Int) (t1 t2 t3 : Tok), sts[i]? = some (f, l, w) ∧ p.2 = tup3 (.int f t1) (.int l t2) (.int w t3) ∧ StrokeOk f l w
def StsOk (sts : List Stroke) : Prop := sts.length = 4 ∧ ∀ st ∈ sts, StrokeOk st.1 st.2.1 st.2.2
theorem strokes_nil : StrokesAre [] [] := ⟨rfl, fun _ _ h => nomatch h⟩
theorem strokes_snoc {ps : List (Addr × Obj)} {sts : List Stroke} {T : Addr} {f l w : Int} {t1 t2 t3 : Tok} (h : StrokesAre ps sts) (ok : StrokeOk f l w) : StrokesAre (ps ++ [(T, tup3 (.int f t1) (.int l t2) (.int w t3))]) (sts ++ [(f, l, w)]) := by
  have hl := h.1
  refine ⟨by simp [hl], fun i p hp => ?_⟩
  rcases Nat.lt_or_ge i ps.length with hi | hi
  · rw [List.getElem?_append_left hi] at hp
    rw [List.getElem?_append_left (hl ▸ hi)]
    exact h.2 i p hp
  · rw [List.getElem?_append_right hi] at hp
    rw [List.getElem?_append_right (hl ▸ hi), ← hl]
    cases e : i - ps.length with
    | zero => rw [e] at hp; exact ⟨f, l, w, t1, t2, t3, rfl, (congrArg Prod.snd (Option.some.inj hp)).symm, ok⟩
    | succ k => rw [e] at hp; cases hp
theorem StrokesAre.ok {ps : List (Addr × Obj)} {sts : List Stroke} (h : StrokesAre ps sts) : ∀ st ∈ sts, StrokeOk st.1 st.2.1 st.2.2 := by
  intro st hs
  obtain ⟨i, hi, e⟩ := List.getElem_of_mem hs
  obtain ⟨f, l, w, _, _, _, e1, _, ok⟩ := h.2 i _ (List.getElem?_eq_getElem (h.1 ▸ hi))
  rw [List.getElem?_eq_getElem hi, e] at e1
  rw [Option.some.inj e1]; exact ok
theorem sts_cons {sts : List Stroke} {n : Nat} (hl : sts.length = n + 1) (h : ∀ st ∈ sts, StrokeOk st.1 st.2.1 st.2.2) : ∃ (f l w : Int) (r : List Stroke), sts = (f, l, w) :: r ∧ StrokeOk f l w ∧ r.length = n ∧ ∀ st ∈ r, StrokeOk st.1 st.2.1 st.2.2 := by
  cases sts with
  | nil => cases hl
  | cons a r => exact ⟨a.1, a.2.1, a.2.2, r, rfl, h a (.head _), Nat.succ.inj hl, fun st hs => h st (.tail _ hs)⟩
theorem sts_four {sts : List Stroke} (h : StsOk sts) : ∃ f1 l1 w1 f2 l2 w2 f3 l3 w3 f4 l4 w4 : Int, sts = [(f1, l1, w1), (f2, l2, w2), (f3, l3, w3), (f4, l4, w4)] ∧ StrokeOk f1 l1 w1 ∧ StrokeOk f2 l2 w2 ∧ StrokeOk f3 l3 w3 ∧ StrokeOk f4 l4 w4 := by
  obtain ⟨f1, l1, w1, _, rfl, a1, e, h⟩ := sts_cons h.1 h.2
  obtain ⟨f2, l2, w2, _, rfl, a2, e, h⟩ := sts_cons e h
  obtain ⟨f3, l3, w3, _, rfl, a3, e, h⟩ := sts_cons e h
  obtain ⟨f4, l4, w4, r, rfl, a4, e, h⟩ := sts_cons e h
  rw [List.eq_nil_of_length_eq_zero e]
  exact ⟨f1, l1, w1, f2, l2, w2, f3, l3, w3, f4, l4, w4, rfl, a1, a2, a3, a4⟩
/-- what is drawn: six rows of the five kinds, four strokes -/
def DrawnPost (v : Value) (own : List (Addr × Obj)) : Prop :=
  ∃ (T b sl : Addr) (ls : List (Str × Tok)) (n m : Nat) (ps : List (Addr × Obj)) (sts : List Stroke),
    v = .ref T ∧ own = (T, tup2 (.ref b) (.ref sl)) :: (b, strL ls n) :: (sl, refL ps m) :: ps ∧
    ls.length = 6 ∧ (∀ r ∈ ls.map (·.1), r ∈ kinds5) ∧ StrokesAre ps sts ∧ StsOk sts
theorem take_next {sts : List Stroke} {i : Nat} {st : Stroke} (h : sts[i]? = some st) : sts.take (i + 1) = sts.take i ++ [st] := by
  rw [List.take_add_one, h]; rfl
/-- the item at i of the list of their tuples -/
theorem StrokesAre.at {ps : List (Addr × Obj)} {sts : List Stroke} (h : StrokesAre ps sts) {i : Nat} {v : Value} (hv : (ps.map fun p : Addr × Obj => Value.ref p.1)[i]? = some v) :
    ∃ (p : Addr) (f l w : Int) (t1 t2 t3 : Tok), v = .ref p ∧ sts[i]? = some (f, l, w) ∧ (p, tup3 (.int f t1) (.int l t2) (.int w t3)) ∈ ps ∧ StrokeOk f l w := by
  rw [List.getElem?_map] at hv
  obtain ⟨q, hq, e⟩ := Option.map_eq_some_iff.mp hv
  obtain ⟨f, l, w, t1, t2, t3, e1, e2, ok⟩ := h.2 i q hq
  refine ⟨q.1, f, l, w, t1, t2, t3, e.symm, e1, ?_, ok⟩
  rw [← e2]; exact List.mem_of_getElem? hq
end Mine
end

section
open PySem PySem.W PyProof.Rows
set_option Elab.async false
namespace Mine
/-! the brackets, in plain words: places are Nat, pairs are (start, end) -/
/-- the last place from j on whose levels all exceed t; j - 1 if none (written plus one) -/
def endp (t : Nat) (j : Nat) : List Nat → Nat
  | [] => j
  | l :: r => if t < l then endp t (j + 1) r else j
/-- the machine with the pile: S bottom first, j the place, then the levels to come; ends are written plus one -/
def brk : List Nat → Nat → List Nat → List (Nat × Nat)
  | S, j, [] => (S.reverse).map fun a => (a, j)
  | S, j, l :: r => ((S.drop l).reverse.map fun a => (a, j)) ++ brk (S.take l ++ List.replicate (l - S.length) j) (j + 1) r
/-- the brackets in order -/
def brkG (j : Nat) (prev : Nat) : List Nat → List (Nat × Nat)
  | [] => []
  | l :: r => ((List.range' prev (l - prev)).map fun t => (j, endp t (j + 1) r)) ++ brkG (j + 1) l r
/-- the pairs that the pile's elements will give -/
def pileG (S : List Nat) (t : Nat) (j : Nat) (r : List Nat) : List (Nat × Nat) := match S with
  | [] => []
  | a :: S => (a, endp t j r) :: pileG S (t + 1) j r
theorem pileG_append (S T : List Nat) (t j : Nat) (r : List Nat) : pileG (S ++ T) t j r = pileG S t j r ++ pileG T (t + S.length) j r := by
  induction S generalizing t with
  | nil => simp [pileG]
  | cons a S ih => simp only [List.cons_append, pileG, ih, List.length_cons]; rw [show t + 1 + S.length = t + (S.length + 1) by omega]
theorem pileG_stop (S : List Nat) (t j l : Nat) (r : List Nat) (h : l ≤ t) : pileG S t j (l :: r) = S.map fun a => (a, j) := by
  induction S generalizing t with
  | nil => rfl
  | cons a S ih => simp only [pileG, endp, List.map_cons]; rw [if_neg (by omega), ih (t + 1) (by omega)]
theorem pileG_go (S : List Nat) (t j l : Nat) (r : List Nat) (h : t + S.length ≤ l) : pileG S t j (l :: r) = pileG S t (j + 1) r := by
  induction S generalizing t with
  | nil => rfl
  | cons a S ih =>
    simp only [List.length_cons] at h
    simp only [pileG, endp]; rw [if_pos (by omega), ih (t + 1) (by omega)]
theorem pileG_end (S : List Nat) (t j : Nat) : pileG S t j [] = S.map fun a => (a, j) := by
  induction S generalizing t with
  | nil => rfl
  | cons a S ih => simp only [pileG, endp, List.map_cons, ih]
theorem pileG_rep (n j t k : Nat) (r : List Nat) : pileG (List.replicate n j) t k r = (List.range' t n).map fun t => (j, endp t k r) := by
  induction n generalizing t with
  | zero => rfl
  | succ n ih => simp only [List.replicate_succ, pileG, List.range'_succ, List.map_cons, ih]
theorem brk_perm (r : List Nat) : ∀ (S : List Nat) (j : Nat), (brk S j r).Perm (pileG S 0 j r ++ brkG j S.length r) := by
  induction r with
  | nil =>
    intro S j
    rw [pileG_end, brk, brkG, List.append_nil]
    exact (List.reverse_perm S).map _
  | cons l r ih =>
    intro S j
    rw [brk, brkG]
    have h1 : ((S.drop l).reverse.map fun a => (a, j)).Perm (pileG (S.drop l) l j (l :: r)) := by
      rw [pileG_stop _ _ _ _ _ (Nat.le_refl l)]
      exact (List.reverse_perm _).map _
    have h2 := ih (S.take l ++ List.replicate (l - S.length) j) (j + 1)
    have hlen : (S.take l ++ List.replicate (l - S.length) j).length = l := by simp; omega
    rw [hlen, pileG_append, pileG_rep] at h2
    have e1 : pileG (S.take l) 0 (j + 1) r = pileG (S.take l) 0 j (l :: r) := (pileG_go _ _ _ _ _ (by simp; omega)).symm
    rw [e1] at h2
    have e2 : pileG S 0 j (l :: r) = pileG (S.take l) 0 j (l :: r) ++ pileG (S.drop l) (0 + (S.take l).length) j (l :: r) := by
      rw [← pileG_append, List.take_append_drop]
    by_cases q : l ≤ S.length
    · have e3 : l - S.length = 0 := by omega
      have e4 : (S.take l).length = l := by simp; omega
      rw [e3] at h2
      simp only [List.range'_zero, List.map_nil, List.append_nil, List.replicate_zero] at h2
      rw [e2, e4, Nat.zero_add, e3]
      simp only [List.range'_zero, List.map_nil, List.nil_append, List.replicate_zero, List.append_nil]
      refine (h1.append h2).trans ?_
      rw [← List.append_assoc]
      exact List.perm_append_comm.append_right _
    · have e3 : S.drop l = [] := List.drop_eq_nil_of_le (by omega)
      have e5 : (S.take l).length = S.length := by simp; omega
      rw [e3]
      rw [e2, e3]
      simp only [List.reverse_nil, List.map_nil, List.nil_append, pileG, List.append_nil]
      rw [e5, Nat.zero_add] at h2
      rw [← List.append_assoc]
      exact h2
end Mine
end

section
open PySem PySem.W PyProof.Rows
set_option Elab.async false
namespace Mine
theorem endp_ge (t : Nat) (r : List Nat) : ∀ j, j ≤ endp t j r := by
  induction r with
  | nil => intro j; exact Nat.le_refl j
  | cons l r ih => intro j; unfold endp; split
                   · have := ih (j + 1); omega
                   · exact Nat.le_refl j
theorem endp_le (t : Nat) (r : List Nat) : ∀ j, endp t j r ≤ j + r.length := by
  induction r with
  | nil => intro j; simp [endp]
  | cons l r ih => intro j; unfold endp; split
                   · have := ih (j + 1); simp only [List.length_cons]; omega
                   · simp
theorem endp_anti {t u : Nat} (h : t ≤ u) (r : List Nat) : ∀ j, endp u j r ≤ endp t j r := by
  induction r with
  | nil => intro j; exact Nat.le_refl j
  | cons l r ih =>
    intro j
    unfold endp
    by_cases q : u < l
    · rw [if_pos q, if_pos (by omega)]; exact ih (j + 1)
    · rw [if_neg q]
      split
      · have := endp_ge t r (j + 1); omega
      · exact Nat.le_refl j
/-- the order of the pairs: by the start, then the longer first -/
def PairLe (x y : Nat × Nat) : Prop := x.1 < y.1 ∨ (x.1 = y.1 ∧ y.2 ≤ x.2)
theorem brkG_ge (r : List Nat) : ∀ j prev, ∀ x ∈ brkG j prev r, j ≤ x.1 ∧ x.1 < x.2 ∧ x.2 ≤ j + r.length := by
  induction r with
  | nil => intro j prev x h; cases h
  | cons l r ih =>
    intro j prev x h
    rw [brkG] at h
    rcases List.mem_append.mp h with h | h
    · obtain ⟨t, _, rfl⟩ := List.mem_map.mp h
      have h1 := endp_ge t r (j + 1)
      have h2 := endp_le t r (j + 1)
      simp only [List.length_cons]
      omega
    · have := ih (j + 1) l x h
      simp only [List.length_cons]
      omega
theorem brkG_sorted (r : List Nat) : ∀ j prev, (brkG j prev r).Pairwise PairLe := by
  induction r with
  | nil => intro j prev; exact List.Pairwise.nil
  | cons l r ih =>
    intro j prev
    rw [brkG, List.pairwise_append]
    refine ⟨?_, ih (j + 1) l, fun x hx y hy => ?_⟩
    · rw [List.pairwise_map]
      refine List.Pairwise.imp ?_ (List.pairwise_lt_range' (s := prev) (n := l - prev) (step := 1))
      intro t u htu
      exact .inr ⟨rfl, endp_anti (Nat.le_of_lt htu) r (j + 1)⟩
    · obtain ⟨t, _, rfl⟩ := List.mem_map.mp hx
      have := brkG_ge r (j + 1) l y hy
      exact .inl (by simp only; omega)
end Mine
end

section
open PySem PySem.W PyProof.Rows
set_option Elab.async false
namespace Mine
/-- six rows, row k indented by C k -/
def rowsC (B : List Str) (C : Nat → Nat) : List Str := (List.range 6).map fun k => ind (C k : Int) (atR B k)
theorem rowsC_len (B : List Str) (C : Nat → Nat) : (rowsC B C).length = 6 := by simp [rowsC]
theorem rowsC_get {B : List Str} {C : Nat → Nat} {k : Nat} (hk : k < 6) : (rowsC B C)[k]? = some (ind (C k : Int) (atR B k)) := by simp [rowsC, hk]
theorem rowsC_at {B : List Str} {C : Nat → Nat} {k : Nat} (hk : k < 6) : atR (rowsC B C) k = ind (C k : Int) (atR B k) := by
  rw [atR, rowsC_get hk]; rfl
theorem page_rowsC (B : List Str) (sts : List Stroke) : pageOf B sts = rowsC B (fun k => (leadAt sts k).toNat) := by
  unfold pageOf rowsC
  apply List.map_congr_left
  intro k _
  rw [Int.toNat_of_nonneg (leadAt_nonneg sts k)]
/-- a blank row stays -/
theorem ind_blank (w : Int) {x : Str} (h : cpl x = []) : ind w x = x := by
  unfold ind indL
  rw [if_pos h]
  have : x = ⟨(cpl x).toArray⟩ := by cases x; rfl
  rw [this, h]
theorem ind_len {w : Nat} {x : Str} (h : cpl x ≠ []) : (ind (w : Int) x).length = w + x.length := by
  show (indL (spaces w) (cpl x)).toArray.size = _
  unfold indL
  rw [if_neg h, List.size_toArray, List.length_append, spaces_len]
  simp [cpl, Str.length]
theorem ind_inj {u v : Nat} {x : Str} (h : cpl x ≠ []) (e : ind (u : Int) x = ind (v : Int) x) : u = v := by
  have := congrArg Str.length e
  rw [ind_len h, ind_len h] at this
  omega
theorem ind_ne_blank {w : Int} {x : Str} (h : cpl x ≠ []) : cpl (ind w x) ≠ [] := by
  rw [cpl_ind]
  unfold indL
  rw [if_neg h]
  simp [h]
end Mine
end

section
open PySem PySem.W PyProof.Rows
set_option Elab.async false
namespace Mine
/-! the mending, by the solid rows -/
def isSol (B : List Str) (k : Nat) : Bool := decide (cpl (atR B k) ≠ [])
def Low (L C : Nat → Nat) : Nat → List Nat → Prop
  | _, [] => True
  | t, q :: r => C q = min t (L q) ∧ Low L C (min t (L q)) r
/-- the last of the run above u that starts with p -/
def lastRun (L : Nat → Nat) (u : Nat) : Nat → List Nat → Nat
  | p, [] => p
  | p, q :: r => if u < L q then lastRun L u q r else p
def stG (L : Nat → Nat) : Nat → List Nat → List Step
  | _, [] => []
  | t, p :: r => ((List.range' t (L p - t)).map fun u => ((p : Int), (lastRun L u p r : Int), ((L p - u : Nat) : Int))) ++ stG L (L p) r
def lastP (L C : Nat → Nat) : Nat → List Nat → Nat
  | p, [] => p
  | p, q :: r => if C q = L q then p else lastP L C q r
theorem lastP_run {L C : Nat → Nat} {t : Nat} (r : List Nat) : ∀ p, Low L C t r → lastP L C p r = lastRun L t p r := by
  induction r with
  | nil => intro p _; rfl
  | cons q r ih =>
    intro p h
    obtain ⟨h1, h2⟩ := h
    unfold lastP lastRun
    by_cases c : t < L q
    · rw [if_pos c, if_neg (by omega)]
      rw [show min t (L q) = t by omega] at h2
      exact ih q h2
    · rw [if_neg c, if_pos (by omega)]
theorem blank_eq {x : Str} (h : cpl x = []) : x = Str.ofString "" := by
  have h1 : x = ⟨(cpl x).toArray⟩ := by cases x; rfl
  rw [h1, h]; rfl
theorem eq_blank {x : Str} (h : x = Str.ofString "") : cpl x = [] := by rw [h]; rfl
theorem lastGo_sol {B : List Str} {L C : Nat → Nat} : ∀ n k p, k + n ≤ 6 → lastGo (rowsC B L) (rowsC B C) n k p = lastP L C p ((List.range' k n).filter (isSol B)) := by
  intro n
  induction n with
  | zero => intro k p _; rfl
  | succ n ih =>
    intro k p hk
    rw [List.range'_succ, List.filter_cons]
    unfold lastGo
    rw [rowsC_at (by omega), rowsC_at (by omega)]
    by_cases s : cpl (atR B k) = []
    · rw [ind_blank _ s, ind_blank _ s, if_neg (fun q => q.1 (blank_eq s)), if_neg (by simp)]
      rw [if_neg (by simp [isSol, s])]
      exact ih (k + 1) p (by omega)
    · have hf : isSol B k = true := by simp [isSol, s]
      simp only [hf, if_true, lastP]
      by_cases c : C k = L k
      · rw [if_pos c, if_pos ⟨fun q => ind_ne_blank s (eq_blank q), by rw [c]⟩]
      · have hne : ind (C k : Int) (atR B k) ≠ ind (L k : Int) (atR B k) := fun q => c (ind_inj s q)
        rw [if_neg c, if_neg (fun q => hne q.2), if_pos hne]
        exact ih (k + 1) k (by omega)
end Mine
end

section
open PySem PySem.W PyProof.Rows
set_option Elab.async false
namespace Mine
theorem setIn_rowsC {B : List Str} {C : Nat → Nat} {f l : Nat} (h1 : f ≤ l) (h2 : l < 6) : setIn (rowsC B C) (f : Int) (l : Int) 1 = rowsC B (fun k => if f ≤ k ∧ k ≤ l then C k + 1 else C k) := by
  have hl := rowsC_len B C
  apply List.ext_getElem?
  intro i
  rw [setIn_get h1 (hl ▸ h2)]
  rcases Nat.lt_or_ge i 6 with hi | hi
  · rw [rowsC_get hi, rowsC_get hi]
    by_cases c : f ≤ i ∧ i ≤ l
    · rw [if_pos c, if_pos ⟨c.1, Nat.lt_succ_of_le c.2⟩, Option.map_some, ind_ind (by decide) (Int.natCast_nonneg _)]
      congr 2
      rw [Int.add_comm]; rfl
    · rw [if_neg c, if_neg (fun q => c ⟨q.1, Nat.le_of_lt_succ q.2⟩)]
  · rw [List.getElem?_eq_none (hl ▸ hi), List.getElem?_eq_none ((rowsC_len B _).symm ▸ hi)]
    split <;> rfl
theorem rowsC_congr {B : List Str} {C C' : Nat → Nat} (h : ∀ k, k < 6 → isSol B k = true → C k = C' k) : rowsC B C = rowsC B C' := by
  unfold rowsC
  apply List.map_congr_left
  intro k hk
  by_cases s : cpl (atR B k) = []
  · rw [ind_blank _ s, ind_blank _ s]
  · rw [h k (List.mem_range.mp hk) (by simp [isSol, s])]
end Mine
end

section
open PySem PySem.W PyProof.Rows
set_option Elab.async false
namespace Mine
theorem low_same {L C C' : Nat → Nat} : ∀ (r : List Nat) (t : Nat), (∀ q ∈ r, C' q = C q) → Low L C t r → Low L C' t r
  | [], _, _, _ => trivial
  | q :: r, t, h, ⟨h1, h2⟩ => ⟨(h q (.head _)).trans h1, low_same r _ (fun q' hq => h q' (.tail _ hq)) h2⟩
theorem lastRun_ge {L : Nat → Nat} {u : Nat} : ∀ (r : List Nat) (p : Nat), (p :: r).Pairwise (· < ·) → p ≤ lastRun L u p r
  | [], p, _ => Nat.le_refl p
  | q :: r, p, h => by
    unfold lastRun
    split
    · have h1 := (List.pairwise_cons.mp h).1 q (.head _)
      have h2 := lastRun_ge (L := L) (u := u) r q (List.pairwise_cons.mp h).2
      omega
    · exact Nat.le_refl p
theorem lastRun_mem {L : Nat → Nat} {u : Nat} : ∀ (r : List Nat) (p : Nat), lastRun L u p r ∈ p :: r
  | [], p => .head _
  | q :: r, p => by
    unfold lastRun
    split
    · exact .tail _ (lastRun_mem r q)
    · exact .head _
/-- a step lifts the run above t by one -/
theorem low_step {L C C' : Nat → Nat} {t : Nat} : ∀ (r : List Nat) (p : Nat), (p :: r).Pairwise (· < ·) → Low L C t r →
    (∀ q ∈ r, C' q = if q ≤ lastRun L t p r then C q + 1 else C q) → Low L C' (t + 1) r
  | [], _, _, _, _ => trivial
  | q :: r, p, hs, ⟨h1, h2⟩, hC => by
    have hs' := (List.pairwise_cons.mp hs).2
    have hpq := (List.pairwise_cons.mp hs).1 q (.head _)
    have hq := hC q (.head _)
    unfold lastRun at hq
    by_cases c : t < L q
    · rw [if_pos c, if_pos (lastRun_ge r q hs')] at hq
      refine ⟨by omega, ?_⟩
      rw [show min t (L q) = t by omega] at h2
      rw [show min (t + 1) (L q) = t + 1 by omega]
      refine low_step r q hs' h2 fun q' hq' => ?_
      have := hC q' (.tail _ hq')
      unfold lastRun at this
      rwa [if_pos c] at this
    · rw [if_neg c, if_neg (by omega)] at hq
      refine ⟨by omega, ?_⟩
      rw [show min t (L q) = L q by omega] at h2
      rw [show min (t + 1) (L q) = L q by omega]
      refine low_same r _ (fun q' hq' => ?_) h2
      have h3 := hC q' (.tail _ hq')
      unfold lastRun at h3
      rw [if_neg c] at h3
      have h4 := (List.pairwise_cons.mp hs).1 q' (.tail _ hq')
      rwa [if_neg (by omega)] at h3
end Mine
end

section
open PySem PySem.W PyProof.Rows
set_option Elab.async false
namespace Mine
/-- the solid rows in order -/
def solOf (B : List Str) : List Nat := (List.range 6).filter (isSol B)
theorem sol_sorted (B : List Str) : (solOf B).Pairwise (· < ·) := List.Pairwise.filter _ List.pairwise_lt_range
theorem sol_lt {B : List Str} {k : Nat} (h : k ∈ solOf B) : k < 6 ∧ isSol B k = true := by
  unfold solOf at h
  rw [List.mem_filter, List.mem_range] at h
  exact h
theorem sol_mem {B : List Str} {k : Nat} (h1 : k < 6) (h2 : isSol B k = true) : k ∈ solOf B := by
  unfold solOf
  rw [List.mem_filter, List.mem_range]
  exact ⟨h1, h2⟩
theorem sol_rest {B : List Str} {done rest : List Nat} {p : Nat} (h : solOf B = done ++ p :: rest) : (List.range' (p + 1) (5 - p)).filter (isSol B) = rest := by
  have hp := sol_lt (B := B) (k := p) (by rw [h]; simp)
  have hs := sol_sorted B
  have e : List.range 6 = List.range (p + 1) ++ List.range' (p + 1) (5 - p) := by
    have q := List.range'_append_1 (s := 0) (m := p + 1) (n := 5 - p)
    rw [Nat.zero_add] at q
    rw [List.range_eq_range', List.range_eq_range', q]
    congr 1; omega
  have e2 : solOf B = (List.range (p + 1)).filter (isSol B) ++ (List.range' (p + 1) (5 - p)).filter (isSol B) := by
    unfold solOf; rw [e, List.filter_append]
  have f1 : ∀ (l : List Nat), l.Pairwise (· < ·) → l = done ++ p :: rest → l.filter (fun k => decide (p < k)) = rest := by
    intro l hl hd
    subst hd
    rw [List.pairwise_append] at hl
    rw [List.filter_append, List.filter_cons]
    rw [List.filter_eq_nil_iff.mpr (fun a ha => by have := hl.2.2 a ha p (.head _); simp; omega)]
    simp only [List.nil_append, Nat.lt_irrefl, decide_false, Bool.false_eq_true, if_false]
    rw [List.filter_eq_self]
    intro a ha
    have := (List.pairwise_cons.mp hl.2.1).1 a ha
    simpa using this
  have f2 := f1 _ hs h
  rw [e2, List.filter_append] at f2
  rw [List.filter_eq_nil_iff.mpr (fun a ha => by rw [List.mem_filter, List.mem_range] at ha; simp; omega), List.nil_append, List.filter_eq_self.mpr (fun a ha => by
    rw [List.mem_filter, List.mem_range'_1] at ha; simp; omega)] at f2
  exact f2
end Mine
end

section
open PySem PySem.W PyProof.Rows
set_option Elab.async false
namespace Mine
theorem rowsC_same {B : List Str} {L C : Nat → Nat} {k : Nat} (hk : k < 6) (h : isSol B k = true → C k = L k) : (rowsC B L)[k]? = (rowsC B C)[k]? := by
  rw [rowsC_get hk, rowsC_get hk]
  by_cases s : cpl (atR B k) = []
  · rw [ind_blank _ s, ind_blank _ s]
  · rw [h (by simp [isSol, s])]
theorem rowsC_diff {B : List Str} {L C : Nat → Nat} {k : Nat} (hk : k < 6) (hs : isSol B k = true) (h : C k ≠ L k) : (rowsC B L)[k]? ≠ (rowsC B C)[k]? := by
  rw [rowsC_get hk, rowsC_get hk]
  intro q
  have s : cpl (atR B k) ≠ [] := by simpa [isSol] using hs
  exact h (ind_inj s (Option.some.inj q)).symm
/-- the whole mending -/
theorem mendRun_spec {B : List Str} {L : Nat → Nat} : ∀ (cur : List Nat) (d : Nat) (done : List Nat) (t fuel : Nat) (C : Nat → Nat), (∀ p r, cur = p :: r → L p - t = d) → solOf B = done ++ cur → (∀ q ∈ done, C q = L q) → Low L C t cur → (stG L t cur).length ≤ fuel →
    mendRun (rowsC B L) fuel (rowsC B C) = (rowsC B L, stG L t cur) := by
  intro cur
  induction cur with
  | nil =>
    intro d done t fuel C _ hsol hdone _ _
    have e : rowsC B L = rowsC B C := rowsC_congr fun k hk hs => by
      have := sol_mem hk hs
      rw [hsol, List.append_nil] at this
      exact (hdone k this).symm
    rw [mendRun_none (missAt_none e), ← e]; rfl
  | cons p r ihr =>
    intro d
    induction d with
    | zero =>
      intro done t fuel C hd hsol hdone hlow hf
      have hd := hd p r rfl
      have h1 : stG L t (p :: r) = stG L (L p) r := by rw [stG, hd]; simp
      rw [h1] at hf ⊢
      obtain ⟨c1, c2⟩ := hlow
      rw [show min t (L p) = L p by omega] at c1 c2
      refine ihr (match r with | [] => 0 | q :: _ => L q - L p) (done ++ [p]) (L p) fuel C (fun p' r' e => by subst e; rfl) (by simpa using hsol) (fun q hq => ?_) c2 hf
      rcases List.mem_append.mp hq with hq | hq
      · exact hdone q hq
      · rw [List.mem_singleton.mp hq]; exact c1
    | succ d ihd =>
      intro done t fuel C hd hsol hdone hlow hf
      have hd' := hd p r rfl
      have hp := sol_lt (B := B) (k := p) (by rw [hsol]; simp)
      have hsorted : (p :: r).Pairwise (· < ·) := by
        have := sol_sorted B
        rw [hsol, List.pairwise_append] at this
        exact this.2.1
      have hdp : ∀ q ∈ done, q < p := fun q hq => by
        have := sol_sorted B
        rw [hsol, List.pairwise_append] at this
        exact this.2.2 q hq p (.head _)
      obtain ⟨c1, c2⟩ := hlow
      rw [show min t (L p) = t by omega] at c1 c2
      have hmiss : missAt (rowsC B L) (rowsC B C) = some p := by
        refine missAt_some hp.1 (fun j hj => rowsC_same (by omega) fun hs => ?_) (rowsC_diff hp.1 hp.2 (by omega))
        have := sol_mem (B := B) (k := j) (by omega) hs
        rw [hsol] at this
        rcases List.mem_append.mp this with q | q
        · exact hdone j q
        · rcases List.mem_cons.mp q with q | q
          · omega
          · have := (List.pairwise_cons.mp hsorted).1 j q; omega
      have hlast : lastOf (rowsC B L) (rowsC B C) p = lastRun L t p r := by
        unfold lastOf
        rw [lastGo_sol _ _ _ (by omega), sol_rest hsol]
        exact lastP_run r p c2
      have hlm := lastRun_mem (L := L) (u := t) r p
      have hl6 : lastRun L t p r < 6 := (sol_lt (B := B) (by rw [hsol]; exact List.mem_append.mpr (.inr hlm))).1
      have hge := lastRun_ge (L := L) (u := t) r p hsorted
      have hst : stG L t (p :: r) = ((p : Int), (lastRun L t p r : Int), ((L p - t : Nat) : Int)) :: stG L (t + 1) (p :: r) := by
        rw [stG, stG, show L p - t = (L p - (t + 1)) + 1 by omega, List.range'_succ]
        simp only [List.map_cons, List.cons_append]
        congr 3
        omega
      rw [hst] at hf ⊢
      obtain ⟨f', rfl⟩ : ∃ f', fuel = f' + 1 := ⟨fuel - 1, by simp only [List.length_cons] at hf; omega⟩
      rw [mendRun_some hmiss, hlast, setIn_rowsC hge hl6]
      have hrec := ihd done (t + 1) f' (fun k => if p ≤ k ∧ k ≤ lastRun L t p r then C k + 1 else C k) (fun p' r' e => by cases e; omega) hsol (fun q hq => by
          have := hdp q hq
          rw [if_neg (by omega)]; exact hdone q hq) ⟨by simp only [Nat.le_refl, hge, and_self, if_true]; omega, by
          rw [show min (t + 1) (L p) = t + 1 by omega]
          refine low_step r p hsorted c2 fun q hq => ?_
          have := (List.pairwise_cons.mp hsorted).1 q hq
          by_cases z : q ≤ lastRun L t p r
          · rw [if_pos z, if_pos ⟨by omega, z⟩]
          · rw [if_neg z, if_neg (by omega)]⟩ (by simp only [List.length_cons] at hf; omega)
      rw [hrec]
      have hs' : cpl (atR B p) ≠ [] := by simpa [isSol] using hp.2
      congr 2
      unfold stepOf
      rw [hlast, rowsC_at hp.1, rowsC_at hp.1, ind_len hs', ind_len hs', c1]
      congr 2
      omega
end Mine
end

section
open PySem PySem.W PyProof.Rows
set_option Elab.async false
namespace Mine
/-! how many steps -/
def inc (L : Nat → Nat) : Nat → List Nat → Nat
  | _, [] => 0
  | t, p :: r => (L p - t) + inc L (L p) r
theorem stG_len (L : Nat → Nat) : ∀ (r : List Nat) (t : Nat), (stG L t r).length = inc L t r
  | [], _ => rfl
  | p :: r, t => by rw [stG, List.length_append, List.length_map, List.length_range', stG_len L r, inc]
theorem inc_add (L M : Nat → Nat) : ∀ (r : List Nat) (t u : Nat), inc (fun k => L k + M k) (t + u) r ≤ inc L t r + inc M u r
  | [], _, _ => Nat.le_refl 0
  | p :: r, t, u => by
    have := inc_add L M r (L p) (M p)
    simp only [inc]
    omega
theorem inc_const {M : Nat → Nat} {c : Nat} : ∀ (r : List Nat), (∀ q ∈ r, M q ≤ c) → inc M c r ≤ inc M c r := fun _ _ => Nat.le_refl _
/-- after the run, no more -/
theorem inc_zero {M : Nat → Nat} : ∀ (r : List Nat), (∀ q ∈ r, M q = 0) → ∀ t, inc M t r = 0
  | [], _, _ => rfl
  | p :: r, h, t => by
    have h1 := h p (.head _)
    simp only [inc, h1, Nat.zero_sub, Nat.zero_add]
    exact inc_zero r (fun q hq => h q (.tail _ hq)) 0
/-- one stroke rises once -/
theorem inc_stroke {f l : Int} {w : Nat} : ∀ (r : List Nat) (t : Nat), r.Pairwise (· < ·) → t ≤ w →
    (t = 0 ∨ t = w ∧ ∀ q ∈ r, f ≤ (q : Int)) → inc (fun k => if f ≤ (k : Int) ∧ (k : Int) ≤ l then w else 0) t r ≤ w - t ∨ inc (fun k => if f ≤ (k : Int) ∧ (k : Int) ≤ l then w else 0) t r = 0
  | [], _, _, _, _ => .inr rfl
  | p :: r, t, hs, ht, hc => by
    have hs' := List.pairwise_cons.mp hs
    simp only [inc]
    by_cases c : f ≤ (p : Int) ∧ (p : Int) ≤ l
    · rw [if_pos c]
      have := inc_stroke (f := f) (l := l) (w := w) r w hs'.2 (Nat.le_refl w) (.inr ⟨rfl, fun q hq => by have := hs'.1 q hq; omega⟩)
      left
      rcases this with h | h <;> omega
    · rw [if_neg c]
      have h0 : 0 - t = 0 := by omega
      rw [h0, Nat.zero_add]
      by_cases c2 : f ≤ (p : Int)
      · right
        exact inc_zero r (fun q hq => by
          have := hs'.1 q hq
          rw [if_neg (by omega)]) 0
      · have := inc_stroke (f := f) (l := l) (w := w) r 0 hs'.2 (by omega) (.inl rfl)
        rcases hc with hc | ⟨hc, hq⟩
        · subst hc; exact this
        · exact absurd (hq p (.head _)) c2
end Mine
end

section
open PySem PySem.W PyProof.Rows
set_option Elab.async false
namespace Mine
def levels (sts : List Stroke) (k : Nat) : Nat := (leadAt sts k).toNat
theorem levels_snoc (sts : List Stroke) (f l w : Int) (k : Nat) : levels (sts ++ [(f, l, w)]) k = levels sts k + (if f ≤ (k : Int) ∧ (k : Int) ≤ l then w.toNat else 0) := by
  unfold levels
  rw [leadAt_snoc]
  have := leadAt_nonneg sts k
  simp only
  by_cases c : f ≤ (k : Int) ∧ (k : Int) ≤ l
  · rw [if_pos c]
    by_cases c2 : 0 < w
    · rw [if_pos ⟨c2, c⟩]; omega
    · rw [if_neg (fun q => c2 q.1)]; omega
  · rw [if_neg c, if_neg (fun q => c q.2)]; omega
theorem inc_congr {L M : Nat → Nat} : ∀ (r : List Nat) (t : Nat), (∀ q ∈ r, L q = M q) → inc L t r = inc M t r
  | [], _, _ => rfl
  | p :: r, t, h => by
    simp only [inc, h p (.head _)]
    rw [inc_congr r _ fun q hq => h q (.tail _ hq)]
theorem inc_snoc (sts : List Stroke) (f l w : Int) (hw : w ≤ 4) (r : List Nat) (hs : r.Pairwise (· < ·)) : inc (levels (sts ++ [(f, l, w)])) 0 r ≤ inc (levels sts) 0 r + 4 := by
  rw [inc_congr (M := fun k => levels sts k + (if f ≤ (k : Int) ∧ (k : Int) ≤ l then w.toNat else 0)) r 0 fun q _ => levels_snoc sts f l w q]
  have h1 := inc_add (levels sts) (fun k => if f ≤ (k : Int) ∧ (k : Int) ≤ l then w.toNat else 0) r 0 0
  have h2 := inc_stroke (f := f) (l := l) (w := w.toNat) r 0 hs (Nat.zero_le _) (.inl rfl)
  have h3 : w.toNat ≤ 4 := by omega
  rw [Nat.add_zero] at h1
  omega
theorem levels_nil (k : Nat) : levels [] k = 0 := rfl
theorem rowsC_zero {B : List Str} (h : B.length = 6) : rowsC B (fun _ => 0) = B := by
  have := pageOf_nil h
  rw [page_rowsC] at this
  exact this
theorem low_zero {L : Nat → Nat} : ∀ r : List Nat, Low L (fun _ => 0) 0 r
  | [] => trivial
  | q :: r => ⟨by simp, by simpa using low_zero r⟩
/-- the mending of the drawn rows gives the page, step by step -/
theorem mend_page {B : List Str} {sts : List Stroke} (h : B.length = 6) (hlen : inc (levels sts) 0 (solOf B) ≤ 40) : mendRun (pageOf B sts) 40 B = (pageOf B sts, stG (levels sts) 0 (solOf B)) := by
  have e := mendRun_spec (B := B) (L := levels sts) (solOf B) (match solOf B with | [] => 0 | q :: _ => levels sts q - 0) [] 0 40 (fun _ => 0) (fun p r e => by rw [e]) rfl (fun _ h => nomatch h) (low_zero _) (by rw [stG_len]; exact hlen)
  rw [rowsC_zero h] at e
  rw [page_rowsC]
  exact e
theorem inc_four {B : List Str} {f1 l1 w1 f2 l2 w2 f3 l3 w3 f4 l4 w4 : Int} (h1 : w1 ≤ 4) (h2 : w2 ≤ 4) (h3 : w3 ≤ 4) (h4 : w4 ≤ 4) : inc (levels [(f1, l1, w1), (f2, l2, w2), (f3, l3, w3), (f4, l4, w4)]) 0 (solOf B) ≤ 40 := by
  have s := sol_sorted B
  have a1 := inc_snoc [] f1 l1 w1 h1 _ s
  have a2 := inc_snoc [(f1, l1, w1)] f2 l2 w2 h2 _ s
  have a3 := inc_snoc [(f1, l1, w1), (f2, l2, w2)] f3 l3 w3 h3 _ s
  have a4 := inc_snoc [(f1, l1, w1), (f2, l2, w2), (f3, l3, w3)] f4 l4 w4 h4 _ s
  have a0 : inc (levels []) 0 (solOf B) = 0 := inc_zero _ (fun q _ => levels_nil q) 0
  simp only [List.nil_append, List.cons_append] at a1 a2 a3 a4
  omega
end Mine
end

section
open PySem PySem.W PyProof.Rows
set_option Elab.async false
namespace Mine
/-! what is told of the pairs in order -/
def toldOf : List (Int × Int) → List Step
  | [] => []
  | x :: r => (x.1, -x.2, (((x :: r).filter fun y => y.1 == x.1).length : Int)) :: toldOf r
def ordG (L : Nat → Nat) : Nat → List Nat → List (Int × Int)
  | _, [] => []
  | t, p :: r => ((List.range' t (L p - t)).map fun u => ((p : Int), -(lastRun L u p r : Int))) ++ ordG L (L p) r
theorem ordG_first {L : Nat → Nat} : ∀ (r : List Nat) (t : Nat), ∀ x ∈ ordG L t r, ∃ q ∈ r, x.1 = (q : Int)
  | [], _, _, h => nomatch h
  | p :: r, t, x, h => by
    rw [ordG] at h
    rcases List.mem_append.mp h with h | h
    · obtain ⟨u, _, rfl⟩ := List.mem_map.mp h
      exact ⟨p, .head _, rfl⟩
    · obtain ⟨q, hq, e⟩ := ordG_first r _ x h
      exact ⟨q, .tail _ hq, e⟩
theorem told_block {p : Nat} {g : Nat → Int} {rest : List (Int × Int)} (h : ∀ x ∈ rest, x.1 ≠ (p : Int)) : ∀ (n t : Nat),
    toldOf ((List.range' t n).map (fun u => ((p : Int), g u)) ++ rest) = ((List.range' t n).map fun u => ((p : Int), -(g u), ((t + n - u : Nat) : Int))) ++ toldOf rest
  | 0, _ => rfl
  | n + 1, t => by
    rw [List.range'_succ]
    simp only [List.map_cons, List.cons_append]
    rw [toldOf]
    have ih := told_block (g := g) h n (t + 1)
    rw [ih]
    have e1 : ((((p : Int), g t) :: ((List.range' (t + 1) n).map (fun u => ((p : Int), g u)) ++ rest)).filter fun y => y.1 == (p : Int)).length = n + 1 := by
      rw [List.filter_cons]
      simp only [beq_self_eq_true, if_true, List.length_cons, List.filter_append]
      rw [List.filter_eq_self.mpr (fun a ha => by
        obtain ⟨u, _, rfl⟩ := List.mem_map.mp ha
        simp), List.filter_eq_nil_iff.mpr (fun a ha => by simpa using h a ha)]
      simp
    rw [e1]
    congr 2
    · congr 2
      omega
    · congr 1
      have e : ∀ u, t + 1 + n - u = t + (n + 1) - u := fun u => by omega
      simp only [e]
theorem told_ordG {L : Nat → Nat} : ∀ (r : List Nat) (t : Nat), r.Pairwise (· < ·) → toldOf (ordG L t r) = stG L t r
  | [], _, _ => rfl
  | p :: r, t, hs => by
    have hs' := List.pairwise_cons.mp hs
    rw [ordG, stG, told_block (fun x hx => by
      obtain ⟨q, hq, e⟩ := ordG_first r _ x hx
      have := hs'.1 q hq
      rw [e]; omega), told_ordG r _ hs'.2]
    congr 1
    apply List.map_congr_left
    intro u hu
    rw [List.mem_range'_1] at hu
    congr 2
    · omega
    · congr 1; omega
end Mine
end

section
open PySem PySem.W PyProof.Rows
set_option Elab.async false
namespace Mine
/-- a pair of places as a pair of rows -/
def asRows (sol : List Nat) (x : Nat × Nat) : Int × Int := ((sol.getD x.1 0 : Nat), -((sol.getD (x.2 - 1) 0 : Nat) : Int))
theorem lastRun_endp {L : Nat → Nat} {u : Nat} {sol : List Nat} : ∀ (r : List Nat) (p : Nat) (done : List Nat), sol = done ++ p :: r →
    sol.getD (endp u (done.length + 1) (r.map L) - 1) 0 = lastRun L u p r
  | [], p, done, h => by subst h; simp [endp, lastRun]
  | q :: r, p, done, h => by
    unfold lastRun
    rw [List.map_cons, endp]
    by_cases c : u < L q
    · rw [if_pos c, if_pos c]
      have := lastRun_endp (L := L) (u := u) (sol := sol) r q (done ++ [p]) (by rw [h]; simp)
      rw [List.length_append, List.length_singleton] at this
      exact this
    · rw [if_neg c, if_neg c]
      subst h; simp
theorem brkG_ordG {L : Nat → Nat} {sol : List Nat} : ∀ (r : List Nat) (t : Nat) (done : List Nat), sol = done ++ r → (brkG done.length t (r.map L)).map (asRows sol) = ordG L t r
  | [], _, _, _ => rfl
  | p :: r, t, done, h => by
    rw [List.map_cons, brkG, ordG, List.map_append, List.map_map]
    have ih := brkG_ordG (L := L) (sol := sol) r (L p) (done ++ [p]) (by rw [h]; simp)
    rw [List.length_append, List.length_singleton] at ih
    rw [ih]
    congr 1
    apply List.map_congr_left
    intro u _
    have h1 := lastRun_endp (L := L) (u := u) r p done h
    simp only [Function.comp, asRows]
    rw [h1]
    congr 2
    subst h; simp
end Mine
end

section
open PySem PySem.W PyProof.Rows
set_option Elab.async false
namespace Mine
def LexLe (x y : Int × Int) : Prop := x.1 < y.1 ∨ (x.1 = y.1 ∧ x.2 ≤ y.2)
theorem LexLe.anti {x y : Int × Int} (h : LexLe x y) (k : LexLe y x) : x = y := by
  unfold LexLe at h k
  apply Prod.ext <;> omega
theorem sorted_uniq : ∀ {a b : List (Int × Int)}, a.Perm b → a.Pairwise LexLe → b.Pairwise LexLe → a = b
  | [], b, h, _, _ => (List.Perm.nil_eq h)
  | x :: a, [], h, _, _ => absurd h.length_eq (by simp)
  | x :: a, y :: b, h, ha, hb => by
    have ha' := List.pairwise_cons.mp ha
    have hb' := List.pairwise_cons.mp hb
    have e : x = y := by
      have h1 : x ∈ y :: b := h.mem_iff.mp (.head _)
      have h2 : y ∈ x :: a := h.mem_iff.mpr (.head _)
      rcases List.mem_cons.mp h1 with q | q
      · exact q
      · rcases List.mem_cons.mp h2 with q2 | q2
        · exact q2.symm
        · exact LexLe.anti (ha'.1 y q2) (hb'.1 x q)
    subst e
    rw [sorted_uniq (List.Perm.cons_inv h) ha'.2 hb'.2]
theorem lastRun_anti {L : Nat → Nat} {u v : Nat} (h : u ≤ v) : ∀ (r : List Nat) (p : Nat), (p :: r).Pairwise (· < ·) → lastRun L v p r ≤ lastRun L u p r
  | [], _, _ => Nat.le_refl _
  | q :: r, p, hs => by
    have hs' := List.pairwise_cons.mp hs
    unfold lastRun
    by_cases c : v < L q
    · rw [if_pos c, if_pos (by omega)]; exact lastRun_anti h r q hs'.2
    · rw [if_neg c]
      split
      · have := lastRun_ge (L := L) (u := u) r q hs'.2
        have := hs'.1 q (.head _)
        omega
      · exact Nat.le_refl p
theorem ordG_sorted {L : Nat → Nat} : ∀ (r : List Nat) (t : Nat), r.Pairwise (· < ·) → (ordG L t r).Pairwise LexLe
  | [], _, _ => List.Pairwise.nil
  | p :: r, t, hs => by
    have hs' := List.pairwise_cons.mp hs
    rw [ordG, List.pairwise_append]
    refine ⟨?_, ordG_sorted r _ hs'.2, fun x hx y hy => ?_⟩
    · rw [List.pairwise_map]
      refine List.Pairwise.imp ?_ (List.pairwise_lt_range' (s := t) (n := L p - t) (step := 1))
      intro u v huv
      have := lastRun_anti (L := L) (Nat.le_of_lt huv) r p hs
      exact .inr ⟨rfl, by simp only; omega⟩
    · obtain ⟨u, _, rfl⟩ := List.mem_map.mp hx
      obtain ⟨q, hq, e⟩ := ordG_first r _ y hy
      have := hs'.1 q hq
      exact .inl (by rw [e]; simp only; omega)
/-- the pairs of the machine, put in order, are told as the mending goes -/
theorem told_law {L : Nat → Nat} {sol : List Nat} (hs : sol.Pairwise (· < ·)) {order : List (Int × Int)} (hp : order.Perm ((brk [] 0 (sol.map L)).map (asRows sol))) (ho : order.Pairwise LexLe) : toldOf order = stG L 0 sol := by
  have h1 := (brk_perm (sol.map L) [] 0).map (asRows sol)
  simp only [pileG, List.length_nil, List.nil_append] at h1
  have h2 := brkG_ordG (L := L) (sol := sol) sol 0 [] rfl
  rw [List.length_nil] at h2
  rw [h2] at h1
  rw [sorted_uniq (hp.trans h1) ho (ordG_sorted sol 0 hs)]
  exact told_ordG sol 0 hs
end Mine
end

section
open PySem PySem.W PyProof.Rows
set_option Elab.async false
namespace Mine
/-! the sort's tree of questions, asked by a pure order -/
def askRun {α : Type} (lt : Nat → Nat → Bool) : KasT α → α
  | .ret a => a
  | .ask i j k => askRun lt (k (lt i j))
theorem askRun_bind {α β : Type} (lt : Nat → Nat → Bool) (f : α → KasT β) : ∀ t : KasT α, askRun lt (t.bind f) = askRun lt (f (askRun lt t))
  | .ret _ => rfl
  | .ask i j k => askRun_bind lt f (k (lt i j))
section
variable {e : Nat → Int} {p : Array Nat}
abbrev ltE (e : Nat → Int) (i j : Nat) : Bool := decide (e i < e j)
def valA (e : Nat → Int) (p : Array Nat) (k : Nat) : Int := e (p.getD k 0)
def UpTo (e : Nat → Int) (p : Array Nat) (n : Nat) : Prop := ∀ i j, i ≤ j → j < n → valA e p i ≤ valA e p j
def DownTo (e : Nat → Int) (p : Array Nat) (n : Nat) : Prop := ∀ i j, i ≤ j → j < n → valA e p j ≤ valA e p i
theorem valA_congr {p q : Array Nat} {i j : Nat} (h : p[i]? = q[j]?) : valA e p i = valA e q j := by
  unfold valA; rw [Array.getD_eq_getD_getElem?, Array.getD_eq_getD_getElem?, h]
theorem valA_rev {i j : Nat} (hj : j ≤ p.size) (k : Nat) : valA e (kas_rev p i j) k = if i ≤ k ∧ k < j then valA e p (i + j - 1 - k) else valA e p k := by
  have h := getElem?_mirror_all (i := i) hj k
  unfold kas_rev
  by_cases q : i ≤ k ∧ k < j
  · rw [if_pos q] at h ⊢; exact valA_congr h
  · rw [if_neg q] at h ⊢; exact valA_congr h
theorem valA_bubble {s d : Nat} (hs : s < p.size) (hd : d ≤ s) (k : Nat) : valA e (bubble p s d) k = if k = s - d then valA e p s else if s - d < k ∧ k ≤ s then valA e p (k - 1) else valA e p k := by
  have h := getElem?_bubble hs d hd k
  by_cases q : k = s - d
  · rw [if_pos q] at h ⊢; exact valA_congr h
  · rw [if_neg q] at h ⊢
    by_cases q2 : s - d < k ∧ k ≤ s
    · rw [if_pos q2] at h ⊢; exact valA_congr h
    · rw [if_neg q2] at h ⊢; exact valA_congr h
theorem rev_perm (p : Array Nat) (i j : Nat) : (kas_rev p i j).Perm p := mirror_perm _ _ _ _
theorem rev_size (p : Array Nat) (i j : Nat) : (kas_rev p i j).size = p.size := mirror_size _ _ _ _
theorem asc_spec : ∀ (f n : Nat), 1 ≤ n → UpTo e p n → n ≤ askRun (ltE e) (kas_asc p f n) ∧ askRun (ltE e) (kas_asc p f n) ≤ n + f ∧ UpTo e p (askRun (ltE e) (kas_asc p f n))
  | 0, n, _, h => ⟨Nat.le_refl n, Nat.le_refl n, h⟩
  | f + 1, n, h1, h => by
    unfold kas_asc
    simp only [askRun]
    by_cases q : valA e p n < valA e p (n - 1)
    · rw [show ltE e (p.getD n 0) (p.getD (n - 1) 0) = true from decide_eq_true q, if_pos rfl]
      exact ⟨Nat.le_refl n, Nat.le_add_right n _, h⟩
    · rw [show ltE e (p.getD n 0) (p.getD (n - 1) 0) = false from decide_eq_false q, if_neg (by simp)]
      have h' : UpTo e p (n + 1) := fun i j hi hj => by
        by_cases q2 : j < n
        · exact h i j hi q2
        · have : j = n := by omega
          subst this
          by_cases q3 : i = j
          · subst q3; exact Int.le_refl _
          · have := h i (j - 1) (by omega) (by omega)
            omega
      have := asc_spec f (n + 1) (by omega) h'
      exact ⟨by omega, by omega, this.2.2⟩
def EqBack (e : Nat → Int) (p : Array Nat) (n q : Nat) : Prop := q + 1 ≤ n ∧ ∀ k, n - (q + 1) ≤ k → k < n → valA e p k = valA e p (n - 1)
theorem rev_same {n q : Nat} (hn : n ≤ p.size) (h : EqBack e p n q) (k : Nat) : valA e (kas_rev p (n - (q + 1)) n) k = valA e p k := by
  rw [valA_rev hn]
  split
  · next hk => rw [h.2 _ (by have := h.1; omega) (by omega), h.2 k (by omega) (by omega)]
  · rfl
theorem down_snoc {n : Nat} (h1 : 1 ≤ n) (h : DownTo e p n) (hx : valA e p n ≤ valA e p (n - 1)) : DownTo e p (n + 1) := fun i j hi hj => by
  by_cases q2 : j < n
  · exact h i j hi q2
  · have : j = n := by omega
    subst this
    by_cases q3 : i = j
    · subst q3; exact Int.le_refl _
    · have := h i (j - 1) (by omega) (by omega)
      omega
theorem down_congr {p' : Array Nat} {n : Nat} (hv : ∀ k, valA e p' k = valA e p k) (h : DownTo e p n) : DownTo e p' n := fun i j hi hj => by rw [hv, hv]; exact h i j hi hj
theorem desc_spec : ∀ (f : Nat) (p : Array Nat) (n q : Nat), n + f ≤ p.size → 1 ≤ n → DownTo e p n → EqBack e p n q →
    ∃ p' n' q', askRun (ltE e) (kas_desc f p n q) = (p', n', q') ∧ p'.Perm p ∧ 1 ≤ n' ∧ n' ≤ n + f ∧ DownTo e p' n' ∧ EqBack e p' n' q'
  | 0, p, n, q, _, h1, hd, he => ⟨p, n, q, rfl, .rfl, h1, Nat.le_refl n, hd, he⟩
  | f + 1, p, n, q, hz, h1, hd, he => by
    unfold kas_desc
    simp only [askRun]
    by_cases c : valA e p n < valA e p (n - 1)
    · rw [show ltE e (p.getD n 0) (p.getD (n - 1) 0) = true from decide_eq_true c, if_pos rfl]
      by_cases hq : q > 0
      · rw [if_pos hq]
        have hv := rev_same (by omega) he
        obtain ⟨p', n', q', a1, a2, a3, a4, a5, a6⟩ := desc_spec f (kas_rev p (n - (q + 1)) n) (n + 1) 0 (by rw [rev_size]; omega) (by omega) (down_congr hv (down_snoc h1 hd (Int.le_of_lt c))) ⟨by omega, fun k x y => by congr 1; omega⟩
        exact ⟨p', n', q', a1, a2.trans (rev_perm _ _ _), a3, by omega, a5, a6⟩
      · rw [if_neg hq]
        obtain ⟨p', n', q', a1, a2, a3, a4, a5, a6⟩ := desc_spec f p (n + 1) 0 (by omega) (by omega) (down_snoc h1 hd (Int.le_of_lt c)) ⟨by omega, fun k x y => by congr 1; omega⟩
        exact ⟨p', n', q', a1, a2, a3, by omega, a5, a6⟩
    · rw [show ltE e (p.getD n 0) (p.getD (n - 1) 0) = false from decide_eq_false c, if_neg (by simp)]
      simp only [askRun]
      by_cases c2 : valA e p (n - 1) < valA e p n
      · rw [show ltE e (p.getD (n - 1) 0) (p.getD n 0) = true from decide_eq_true c2, if_pos rfl]
        exact ⟨p, n, q, rfl, .rfl, h1, by omega, hd, he⟩
      · rw [show ltE e (p.getD (n - 1) 0) (p.getD n 0) = false from decide_eq_false c2, if_neg (by simp)]
        obtain ⟨p', n', q', a1, a2, a3, a4, a5, a6⟩ := desc_spec f p (n + 1) (q + 1) (by omega) (by omega) (down_snoc h1 hd (by omega)) ⟨by have := he.1; omega, fun k x y => by
          rw [show n + 1 - 1 = n by omega]
          by_cases q2 : k = n
          · rw [q2]
          · have := he.2 k (by omega) (by omega)
            omega⟩
        exact ⟨p', n', q', a1, a2, a3, by omega, a5, a6⟩
theorem up_rev {n : Nat} (hn : n ≤ p.size) (h : DownTo e p n) : UpTo e (kas_rev p 0 n) n := fun i j hi hj => by
  rw [valA_rev hn, valA_rev hn, if_pos ⟨by omega, by omega⟩, if_pos ⟨by omega, by omega⟩]
  exact h _ _ (by omega) (by omega)
abbrev Pref (e : Nat → Int) (p : Array Nat) (N : Nat) (r : Nat × Array Nat) : Prop := r.2.Perm p ∧ 1 ≤ r.1 ∧ r.1 ≤ N ∧ UpTo e r.2 r.1
theorem tail3_spec {n N : Nat} (h1 : 1 ≤ n) (hn : n ≤ N) (hz : N ≤ p.size) (h : DownTo e p n) : Pref e p N (askRun (ltE e) (kas_tail3 n N p)) := by
  unfold kas_tail3
  rw [askRun_bind]
  have := asc_spec (N - n) n h1 (up_rev (by omega) h)
  exact ⟨rev_perm _ _ _, by simp only [askRun]; omega, by simp only [askRun]; omega, this.2.2⟩
theorem descPart_spec {n N : Nat} (hn : n + 1 ≤ N) (hz : N ≤ p.size) (h : DownTo e p (n + 1)) : Pref e p N (askRun (ltE e) (kas_descPart n N p)) := by
  unfold kas_descPart
  rw [askRun_bind]
  obtain ⟨p', n', q', a1, a2, a3, a4, a5, a6⟩ := desc_spec (N - (n + 1)) p (n + 1) 0 (by omega) (by omega) h ⟨by omega, fun k x y => by congr 1; omega⟩
  rw [a1]
  have hs := a2.size_eq
  by_cases hq : q' > 0
  · rw [if_pos hq]
    have hv := rev_same (by omega) a6
    obtain ⟨b1, b2, b3, b4⟩ := tail3_spec (e := e) (p := kas_rev p' (n' - (q' + 1)) n') (n := n') (N := N) a3 (by omega) (by rw [rev_size]; omega) (down_congr hv a5)
    exact ⟨b1.trans ((rev_perm _ _ _).trans a2), b2, b3, b4⟩
  · rw [if_neg hq]
    obtain ⟨b1, b2, b3, b4⟩ := tail3_spec (e := e) (p := p') (n := n') (N := N) a3 (by omega) (by omega) a5
    exact ⟨b1.trans a2, b2, b3, b4⟩
theorem asc_stop : ∀ (f n : Nat), askRun (ltE e) (kas_asc p f n) < n + f → valA e p (askRun (ltE e) (kas_asc p f n)) < valA e p (askRun (ltE e) (kas_asc p f n) - 1)
  | 0, n, h => absurd h (Nat.lt_irrefl _)
  | f + 1, n, h => by
    unfold kas_asc at h ⊢
    simp only [askRun] at h ⊢
    by_cases q : valA e p n < valA e p (n - 1)
    · rw [show ltE e (p.getD n 0) (p.getD (n - 1) 0) = true from decide_eq_true q, if_pos rfl]
      exact q
    · rw [show ltE e (p.getD n 0) (p.getD (n - 1) 0) = false from decide_eq_false q, if_neg (by simp)] at h ⊢
      exact asc_stop f (n + 1) (by omega)
theorem count_spec {N : Nat} (h1 : 1 ≤ N) (hz : N ≤ p.size) : Pref e p N (askRun (ltE e) (kas_count N p)) := by
  unfold kas_count
  rw [askRun_bind]
  have hu : UpTo e p 1 := fun i j hi hj => by
    have : i = j := by omega
    subst this; exact Int.le_refl _
  obtain ⟨a1, a2, a3⟩ := asc_spec (e := e) (p := p) (N - 1) 1 (Nat.le_refl 1) hu
  have hst := asc_stop (e := e) (p := p) (N - 1) 1
  generalize askRun (ltE e) (kas_asc p (N - 1) 1) = m at a1 a2 a3 hst
  by_cases q : (m == N) = true
  · rw [if_pos q]
    have : m = N := by simpa using q
    exact ⟨.rfl, a1, by simp only [askRun]; omega, a3⟩
  · rw [if_neg q]
    have hmN : m ≠ N := by simpa using q
    have hlt : valA e p m < valA e p (m - 1) := hst (by omega)
    by_cases q2 : m > 1
    · rw [if_pos q2]
      simp only [askRun]
      by_cases c : valA e p 0 < valA e p (m - 1)
      · rw [show ltE e (p.getD 0 0) (p.getD (m - 1) 0) = true from decide_eq_true c, if_pos rfl]
        exact ⟨.rfl, a1, by simp only [askRun]; omega, a3⟩
      · rw [show ltE e (p.getD 0 0) (p.getD (m - 1) 0) = false from decide_eq_false c, if_neg (by simp)]
        have heq : ∀ k, k < m → valA e p k = valA e p (m - 1) := fun k hk => by
          have x1 := a3 0 k (by omega) hk
          have x2 := a3 k (m - 1) (by omega) (by omega)
          omega
        have hv : ∀ k, valA e (kas_rev p 0 m) k = valA e p k := fun k => by
          rw [valA_rev (by omega)]
          split
          · next hk => rw [heq _ (by omega), heq k hk.2]
          · rfl
        obtain ⟨b1, b2, b3, b4⟩ := descPart_spec (e := e) (p := kas_rev p 0 m) (n := m) (N := N) (by omega) (by rw [rev_size]; omega) (fun i j hi hj => by
          rw [hv, hv]
          by_cases q3 : j < m
          · rw [heq j q3, heq i (by omega)]; exact Int.le_refl _
          · have : j = m := by omega
            subst this
            by_cases q4 : i = j
            · subst q4; exact Int.le_refl _
            · rw [heq i (by omega)]; omega)
        exact ⟨b1.trans (rev_perm _ _ _), b2, b3, b4⟩
    · rw [if_neg q2]
      have : m = 1 := by omega
      subst this
      exact descPart_spec (by omega) hz (fun i j hi hj => by
        have : j = 0 ∨ j = 1 := by omega
        rcases this with rfl | rfl
        · have : i = 0 := by omega
          subst this; exact Int.le_refl _
        · have : i = 0 ∨ i = 1 := by omega
          rcases this with rfl | rfl
          · exact Int.le_of_lt hlt
          · exact Int.le_refl _)
theorem place_spec {k : Nat} (hu : UpTo e p k) : ∀ (f l r : Nat), r - l ≤ f → l ≤ r → r ≤ k → (∀ i, i < l → valA e p i ≤ valA e p k) → (∀ i, r ≤ i → i < k → valA e p k < valA e p i) →
    askRun (ltE e) (kas_place p k f l r) ≤ k ∧ (∀ i, i < askRun (ltE e) (kas_place p k f l r) → valA e p i ≤ valA e p k) ∧ (∀ i, askRun (ltE e) (kas_place p k f l r) ≤ i → i < k → valA e p k < valA e p i)
  | 0, l, r, hf, hl, hr, h1, h2 => by
    have : l = r := by omega
    subst this
    exact ⟨hr, h1, h2⟩
  | f + 1, l, r, hf, hl, hr, h1, h2 => by
    unfold kas_place
    by_cases q : l ≥ r
    · rw [if_pos q]
      have : l = r := by omega
      subst this
      exact ⟨hr, h1, h2⟩
    · rw [if_neg q]
      simp only [askRun]
      by_cases c : valA e p k < valA e p ((l + r) / 2)
      · rw [show ltE e (p.getD k 0) (p.getD ((l + r) / 2) 0) = true from decide_eq_true c, if_pos rfl]
        refine place_spec hu f l ((l + r) / 2) (by omega) (by omega) (by omega) h1 fun i x y => ?_
        have := hu ((l + r) / 2) i x y
        omega
      · rw [show ltE e (p.getD k 0) (p.getD ((l + r) / 2) 0) = false from decide_eq_false c, if_neg (by simp)]
        refine place_spec hu f ((l + r) / 2 + 1) r (by omega) (by omega) hr (fun i x => ?_) h2
        have := hu i ((l + r) / 2) (by omega) (by omega)
        omega
theorem bin_spec : ∀ (f : Nat) (p : Array Nat) (k : Nat), k + f ≤ p.size → UpTo e p k → (askRun (ltE e) (kas_bin f p k)).Perm p ∧ UpTo e (askRun (ltE e) (kas_bin f p k)) (k + f)
  | 0, p, k, _, hu => ⟨.rfl, hu⟩
  | f + 1, p, k, hz, hu => by
    unfold kas_bin
    rw [askRun_bind]
    obtain ⟨a1, a2, a3⟩ := place_spec hu k 0 k (by omega) (by omega) (Nat.le_refl k) (fun i h => absurd h (Nat.not_lt_zero i)) (fun i h1 h2 => by omega)
    generalize askRun (ltE e) (kas_place p k k 0 k) = l at a1 a2 a3
    have hb : UpTo e (bubble p k (k - l)) (k + 1) := fun i j hi hj => by
      rw [valA_bubble (by omega) (by omega), valA_bubble (by omega) (by omega)]
      rw [show k - (k - l) = l by omega]
      by_cases qi : i = l
      · rw [if_pos qi]
        by_cases qj : j = l
        · rw [if_pos qj]; exact Int.le_refl _
        · rw [if_neg qj, if_pos ⟨by omega, by omega⟩]
          exact Int.le_of_lt (a3 (j - 1) (by omega) (by omega))
      · rw [if_neg qi]
        by_cases qi2 : l < i ∧ i ≤ k
        · rw [if_pos qi2, if_neg (by omega), if_pos ⟨by omega, by omega⟩]
          exact hu _ _ (by omega) (by omega)
        · rw [if_neg qi2]
          by_cases qj : j = l
          · rw [if_pos qj]; exact a2 i (by omega)
          · rw [if_neg qj]
            by_cases qj2 : l < j ∧ j ≤ k
            · rw [if_pos qj2]
              exact hu _ _ (by omega) (by omega)
            · rw [if_neg qj2]; exact hu _ _ hi (by omega)
    have hs := (bubble_perm p k (k - l)).size_eq
    obtain ⟨b1, b2⟩ := bin_spec f (bubble p k (k - l)) (k + 1) (by omega) hb
    exact ⟨b1.trans (bubble_perm _ _ _), by rw [show k + (f + 1) = k + 1 + f by omega]; exact b2⟩
theorem sort_spec {n : Nat} (h1 : 1 ≤ n) : (askRun (ltE e) (kas_sort n)).Perm (List.range n).toArray ∧ UpTo e (askRun (ltE e) (kas_sort n)) n := by
  unfold kas_sort
  rw [askRun_bind]
  obtain ⟨a1, a2, a3, a4⟩ := count_spec (e := e) (p := (List.range n).toArray) (N := n) h1 (by simp)
  generalize askRun (ltE e) (kas_count n (List.range n).toArray) = r at a1 a2 a3 a4
  have hs := a1.size_eq
  simp only [List.size_toArray, List.length_range] at hs
  by_cases q : r.1 < n
  · rw [if_pos q]
    have hm : max r.1 1 = r.1 := by omega
    rw [hm]
    obtain ⟨b1, b2⟩ := bin_spec (e := e) (n - r.1) r.2 r.1 (by omega) a4
    exact ⟨b1.trans a1, by rw [show r.1 + (n - r.1) = n by omega] at b2; exact b2⟩
  · rw [if_neg q]
    have : r.1 = n := by omega
    rw [this] at a4
    exact ⟨a1, a4⟩
end
/-- the questions are about the first n items -/
def AskP {α : Type} (n : Nat) (P : α → Prop) : KasT α → Prop
  | .ret a => P a
  | .ask i j k => i < n ∧ j < n ∧ ∀ b, AskP n P (k b)
theorem AskP.bind {α β : Type} {n : Nat} {P : α → Prop} {R : β → Prop} {f : α → KasT β} (hf : ∀ a, P a → AskP n R (f a)) : ∀ t : KasT α, AskP n P t → AskP n R (t.bind f)
  | .ret a, h => hf a h
  | .ask _ _ k, h => ⟨h.1, h.2.1, fun b => AskP.bind hf (k b) (h.2.2 b)⟩
theorem ask_ret {α : Type} {n : Nat} {P : α → Prop} {a : α} (h : P a) : AskP n P (.ret a) := h
def Low0 (n : Nat) (p : Array Nat) : Prop := ∀ k, p.getD k 0 < n
theorem low0_of {n : Nat} {p : Array Nat} (h0 : 0 < n) (h : ∀ x ∈ p.toList, x < n) : Low0 n p := fun k => by
  rw [Array.getD_eq_getD_getElem?]
  cases q : p[k]? with
  | none => exact h0
  | some x => exact h x (by simpa using Array.mem_of_getElem? q)
theorem low0_perm {n : Nat} {p q : Array Nat} (h0 : 0 < n) (hp : p.Perm q) (h : Low0 n q) : Low0 n p := low0_of h0 fun x hx => by
  have hx2 := (Array.perm_iff_toList_perm.mp hp).mem_iff.mp hx
  obtain ⟨k, hk, e⟩ := List.getElem_of_mem hx2
  have := h k
  rw [Array.getD_eq_getD_getElem?] at this
  have e2 : q[k]? = some x := by rw [← e]; simp
  rw [e2] at this; exact this
section
variable {n : Nat}
theorem ask_asc {p : Array Nat} (h : Low0 n p) : ∀ f m, AskP n (fun _ => True) (kas_asc p f m)
  | 0, _ => trivial
  | f + 1, m => ⟨h _, h _, fun b => by
    cases b with
    | true => (show AskP _ _ (if true = true then _ else _)); rw [if_pos rfl]; trivial
    | false => (show AskP _ _ (if false = true then _ else _)); rw [if_neg Bool.false_ne_true]; exact ask_asc h f (m + 1)⟩
theorem ask_desc (h0 : 0 < n) : ∀ f (p : Array Nat) m q, Low0 n p → AskP n (fun r : Array Nat × Nat × Nat => Low0 n r.1) (kas_desc f p m q)
  | 0, _, _, _, h => h
  | f + 1, p, m, q, h => ⟨h _, h _, fun b => by
    cases b with
    | true =>
      show AskP _ _ (if true = true then _ else _)
      rw [if_pos rfl]
      split
      · exact ask_desc h0 f _ _ _ (low0_perm h0 (rev_perm _ _ _) h)
      · exact ask_desc h0 f _ _ _ h
    | false =>
      show AskP _ _ (if false = true then _ else _)
      rw [if_neg Bool.false_ne_true]
      exact ⟨h _, h _, fun d => by
        cases d with
        | true => (show AskP _ _ (if true = true then _ else _)); rw [if_pos rfl]; exact h
        | false => (show AskP _ _ (if false = true then _ else _)); rw [if_neg Bool.false_ne_true]; exact ask_desc h0 f _ _ _ h⟩⟩
theorem ask_tail3 (h0 : 0 < n) {p : Array Nat} (h : Low0 n p) (m N : Nat) : AskP n (fun r : Nat × Array Nat => Low0 n r.2) (kas_tail3 m N p) :=
  AskP.bind (P := fun _ => True) (f := fun m' => KasT.ret (m', kas_rev p 0 m)) (fun _ _ => ask_ret (low0_perm h0 (rev_perm _ _ _) h)) _ (ask_asc (low0_perm h0 (rev_perm _ _ _) h) _ _)
theorem ask_descPart (h0 : 0 < n) {p : Array Nat} (h : Low0 n p) (m N : Nat) : AskP n (fun r : Nat × Array Nat => Low0 n r.2) (kas_descPart m N p) :=
  AskP.bind (fun r hr => by
    split
    · exact ask_tail3 h0 (low0_perm h0 (rev_perm _ _ _) hr) _ _
    · exact ask_tail3 h0 hr _ _) _ (ask_desc h0 _ _ _ _ h)
theorem ask_count (h0 : 0 < n) {p : Array Nat} (h : Low0 n p) (N : Nat) : AskP n (fun r : Nat × Array Nat => Low0 n r.2) (kas_count N p) :=
  AskP.bind (P := fun _ => True) (fun m _ => by
    split
    · exact h
    · split
      · exact ⟨h _, h _, fun b => by
          cases b with
          | true => (show AskP _ _ (if true = true then _ else _)); rw [if_pos rfl]; exact h
          | false => (show AskP _ _ (if false = true then _ else _)); rw [if_neg Bool.false_ne_true]; exact ask_descPart h0 (low0_perm h0 (rev_perm _ _ _) h) _ _⟩
      · exact ask_descPart h0 h _ _) _ (ask_asc h _ _)
theorem ask_place {p : Array Nat} (h : Low0 n p) (k : Nat) : ∀ f l r, AskP n (fun _ => True) (kas_place p k f l r)
  | 0, _, _ => trivial
  | f + 1, l, r => by
    unfold kas_place
    split
    · trivial
    · exact ⟨h _, h _, fun b => by
        cases b with
        | true => (show AskP _ _ (if true = true then _ else _)); rw [if_pos rfl]; exact ask_place h k f _ _
        | false => (show AskP _ _ (if false = true then _ else _)); rw [if_neg Bool.false_ne_true]; exact ask_place h k f _ _⟩
theorem ask_bin (h0 : 0 < n) : ∀ f (p : Array Nat) k, Low0 n p → AskP n (fun _ => True) (kas_bin f p k)
  | 0, _, _, _ => trivial
  | f + 1, p, k, h => AskP.bind (P := fun _ => True) (fun _ _ => ask_bin h0 f _ _ (low0_perm h0 (bubble_perm _ _ _) h)) _ (ask_place h k _ _ _)
theorem ask_sort (h0 : 0 < n) : AskP n (fun _ => True) (kas_sort n) :=
  AskP.bind (P := fun r : Nat × Array Nat => Low0 n r.2) (fun r hr => by
    split
    · exact ask_bin h0 _ _ _ hr
    · trivial) _ (ask_count h0 (low0_of h0 (by simp)) n)
end
/-- the wp of a tree whose questions are answered by a pure order -/
theorem kasWp_run {α : Type} {e : Nat → Int} {cmp : Nat → Nat → (Bool → Shared → Prop) → Shared → Prop} {n : Nat} {P : α → Prop} {s : Shared} {Q : α → Shared → Prop} (hc : ∀ i j C, i < n → j < n → C (ltE e i j) s → cmp i j C s) : ∀ t : KasT α, AskP n P t → Q (askRun (ltE e) t) s → t.kasWp cmp Q s
  | .ret _, _, h => h
  | .ask i j k, a, h => hc i j _ a.1 a.2.1 (kasWp_run hc (k (ltE e i j)) (a.2.2 _) h)
end Mine
end

section
open PySem PySem.W PyProof.Rows PySem.Calls PySem.Builtin
set_option Elab.async false
set_option maxRecDepth 100000
namespace Mine
/-! pairs of ints in the ledger, and their sorting -/
abbrev pairObj (x : Int × Int) (t1 t2 : Tok) : Obj := { cls := .type "tuple", data := .seq [.int x.1 t1, .int x.2 t2].toArray }
def PairsAre : List (Addr × Obj) → List (Int × Int) → Prop
  | [], [] => True
  | p :: ps, x :: xs => (∃ t1 t2, p.2 = pairObj x t1 t2) ∧ PairsAre ps xs
  | _, _ => False
theorem PairsAre.snoc {p : Addr × Obj} {x : Int × Int} (h : ∃ t1 t2, p.2 = pairObj x t1 t2) : ∀ {ps : List (Addr × Obj)} {xs : List (Int × Int)}, PairsAre ps xs → PairsAre (ps ++ [p]) (xs ++ [x])
  | [], [], _ => ⟨h, trivial⟩
  | [], _ :: _, q => q.elim
  | _ :: _, [], q => q.elim
  | _ :: _, _ :: _, q => ⟨q.1, q.2.snoc h⟩
theorem PairsAre.length : ∀ {ps : List (Addr × Obj)} {xs : List (Int × Int)}, PairsAre ps xs → ps.length = xs.length
  | [], [], _ => rfl
  | [], _ :: _, q => q.elim
  | _ :: _, [], q => q.elim
  | _ :: _, _ :: _, q => by simp [q.2.length]
theorem PairsAre.at : ∀ {ps : List (Addr × Obj)} {xs : List (Int × Int)}, PairsAre ps xs → ∀ i, i < ps.length → ∃ p t1 t2, ps[i]? = some p ∧ p.2 = pairObj (xs.getD i (0, 0)) t1 t2
  | [], _, _, i, h => absurd h (Nat.not_lt_zero i)
  | _ :: _, [], q, _, _ => q.elim
  | p :: _, x :: _, q, 0, _ => by
    obtain ⟨t1, t2, e⟩ := q.1
    exact ⟨p, t1, t2, rfl, e⟩
  | _ :: ps, _ :: xs, q, i + 1, h => by
    obtain ⟨p, t1, t2, e1, e2⟩ := PairsAre.at q.2 i (by simpa using h)
    exact ⟨p, t1, t2, by simpa using e1, by simpa using e2⟩
theorem PairsAre.perm {ps : List (Addr × Obj)} {xs : List (Int × Int)} (P : PairsAre ps xs) : ∀ l : List Nat, (∀ i ∈ l, i < ps.length) → PairsAre (l.map fun i => ps.getD i (0, ⟨.none, none, .plain, #[]⟩)) (l.map fun i => xs.getD i (0, 0))
  | [], _ => trivial
  | i :: l, h => by
    obtain ⟨p, t1, t2, e1, e2⟩ := P.at i (h i (.head _))
    refine ⟨⟨t1, t2, ?_⟩, P.perm l fun j hj => h j (.tail _ hj)⟩
    simp only [List.getD, e1, Option.getD_some]
    exact e2
section
variable {prog : Program} {w : World} {A : Around} {E : Value → Shared → Prop} {s : Shared} {h₀ : Heap} {L l : Addr} {m : Str → Option Value} {news : List (Addr × Obj)}
theorem list_sort_few {a : Addr} {vs : List Value} {n : Nat} {P : PySem.Fin → Shared → Prop} (ho : s.heap.get? a = some (seqObj "list" vs.toArray n)) (h2 : vs.length < 2)
    (h : P (.done (.ret .none)) { s with heap := sortedHeap s.heap a vs ((vs.toArray.zip vs.toArray).map (·.2)) }) :
    wpAny (model prog w) A (Builtin.«list.sort» ⟨[.ref a], []⟩) P E s := by
  rw [list_sort_plain]
  have ha : a < s.heap.objs.size := Heap.lt_size ho
  refine wpAny_bind (listItems_at ho rfl ?_)
  refine wpAny_bind (listUpdate_at ho rfl ?_ (by rw [List.size_toArray, sizeLine_eq]; omega) (Nat.zero_le _))
  obtain ⟨e1, ho1⟩ : ∃ e1, (s.heap.update a (Obj.mapSeq fun _ => #[])).get? a = some (seqObj "list" #[] e1) := ⟨_, get?_update_seq ho (fun _ => #[])⟩
  refine wpAny_bind (seqEpoch_at ho1 rfl ?_)
  refine wpAny_bind (wpAny_newTuple ?_ (by show vs.length ≤ _; rw [sizeLine_eq]; omega))
  refine wpAny_bind (wpAny_newList ?_ (Nat.zero_le _))
  refine wpAny_holding ?_
  have ho6 : (((s.heap.update a (Obj.mapSeq fun _ => #[])).push (seqObj "tuple" vs.toArray 0)).push (seqObj "list" #[] 0)).get? a = some (seqObj "list" #[] e1) := by
    rw [Heap.get?_push_ne _ _ _ (by rw [size_push', Heap.size_update]; exact Nat.ne_of_lt (Nat.lt_succ_of_lt ha)), Heap.get?_push_ne _ _ _ (by rw [Heap.size_update]; exact Nat.ne_of_lt ha)]
    exact ho1
  show wpAny (model prog w) A _ P E { s with heap := ((s.heap.update a (Obj.mapSeq fun _ => #[])).push (seqObj "tuple" vs.toArray 0)).push (seqObj "list" #[] 0) }
  dsimp only
  have hsz : vs.toArray.size < 2 := by rw [List.size_toArray]; exact h2
  rw [if_pos hsz, if_pos hsz]
  refine wpAny_bind (wpAny_pure ?_)
  rw [StateT.run_pure]
  refine wpAny_bind (wpAny_pure ?_)
  dsimp only
  refine wpAny_bind (seqEpoch_at ho6 rfl ?_)
  refine wpAny_bind (listUpdate_at ho6 rfl ?_ (hsz2 := by rw [Array.size_map, Array.size_zip, List.size_toArray, sizeLine_eq]; omega))
  simp only [bne_self_eq_false, Bool.false_eq_true, if_false]
  exact wpAny_pure h
theorem sorted_few {vs : List Value} {Q : Value → Shared → Prop} (F : Fr h₀ L s.heap m) (N : News h₀ L s.heap news) (hl : s.heap.IsList l vs.toArray) (h2 : vs.length < 2)
    (h : ∀ D c h', Fr h₀ L h' m → News h₀ L h' ((D, listOf vs.toArray c) :: news) → (∀ q ∈ news, q.1 < D) → Q (.ref D) { s with heap := h' }) :
    wpAny (model prog w) A (call (.builtin "sorted") [.ref l]) Q E s := by
  have ez : (vs.toArray.zip vs.toArray).map (·.2) = vs.toArray := by
    apply Array.toList_inj.mp
    simp only [Array.toList_map, Array.toList_zip]
    rw [List.map_snd_zip (Nat.le_refl _)]
  have key : Q (.ref (s.heap.objs.size + 1)) { s with heap := sortedAll s.heap vs vs.toArray } := by
    obtain ⟨e, he⟩ := sortedAll_at s.heap vs vs.toArray
    exact h _ e _ (F.kept fun _ _ => sortedAll_old) (N.kept_cons F (fun _ _ => sortedAll_old) (Nat.le_succ _) he) fun q hq => Nat.lt_succ_of_lt (Heap.lt_size (N q hq).1)
  refine Calls.call_function_entry kind_sorted plain_sorted entry_sorted (args_sorted1 _) ?_
  unfold Builtin.«sorted»
  refine wpAny_bind (m := checkCount "sorted" 1 1 _) (wpAny_pure ?_)
  refine wpAny_bind (collect_list hl ?_ (by rw [sizeLine_eq]; omega))
  refine wpAny_bind (wpAny_newList ?_ (by rw [sizeLine_eq]; omega))
  have hsz : ((s.heap.push (seqObj "list" #[] 0)).update s.heap.objs.size (Obj.mapSeq (· ++ vs.toArray))).objs.size = s.heap.objs.size + 1 := by
    rw [Heap.size_update, size_push']
  have hoL : (((s.heap.push (seqObj "list" #[] 0)).update s.heap.objs.size (Obj.mapSeq (· ++ vs.toArray))).push (seqObj "list" vs.toArray 0)).get? (s.heap.objs.size + 1) = some (seqObj "list" vs.toArray 0) := by
    rw [← hsz]; exact Heap.get?_push_size _ rfl
  show wpAny _ _ _ _ _ { s with heap := ((s.heap.push (seqObj "list" #[] 0)).update s.heap.objs.size (Obj.mapSeq (· ++ vs.toArray))).push (seqObj "list" vs.toArray 0) }
  rw [hsz]
  refine wpAny_bind (wpAny_holding (wpAny_call_entry slot_list_sort ⟨_, hoL, rfl⟩ entry_list_sort (list_sort_few hoL h2 ⟨_, rfl, ?_⟩) (args_list_sort _)))
  rw [ez]
  exact wpAny_pure ⟨_, rfl, key⟩
def pkey (x : Int × Int) : Int := 1000 * x.1 + x.2
def Small2 (x : Int × Int) : Prop := -400 ≤ x.2 ∧ x.2 ≤ 400 ∧ -400 ≤ x.1 ∧ x.1 ≤ 400
theorem pkey_lt {x y : Int × Int} (hx : Small2 x) (hy : Small2 y) : pkey x < pkey y ↔ (x.1 < y.1 ∨ (x.1 = y.1 ∧ x.2 < y.2)) := by
  unfold pkey; unfold Small2 at hx hy; omega
theorem pkey_le {x y : Int × Int} (hx : Small2 x) (hy : Small2 y) (h : pkey x ≤ pkey y) : LexLe x y := by
  unfold pkey at h; unfold Small2 at hx hy; unfold LexLe; omega
theorem pair_lt {x y : Addr} {ox oy : Obj} {p q : Int × Int} {t1 t2 t3 t4 : Tok} {Q : Bool → Shared → Prop} (hp : Small2 p) (hq : Small2 q) (hx : s.heap.get? x = some ox) (ex : ox = pairObj p t1 t2) (hy : s.heap.get? y = some oy) (ey : oy = pairObj q t3 t4)
    (h : Q (decide (pkey p < pkey q)) s) : wpAny (model prog w) A (keyLt' (tuples' true) (.ref x) (.ref y)) Q E s := by
  subst ex ey
  refine kat_lt hx rfl hy rfl ?_
  show KatLex prog w A true _ Q [(.int p.1 t1, .int q.1 t3), (.int p.2 t2, .int q.2 t4)] 0 s
  have hk := pkey_lt hp hq
  refine kat_cons (wpAny_eqBool_int ?_)
  by_cases c : p.1 = q.1
  · have e1 : (p.1 == q.1) = true := by simpa using c
    rw [e1]
    refine kat_yes (kat_cons (wpAny_eqBool_int ?_))
    by_cases d : p.2 = q.2
    · have e2 : (p.2 == q.2) = true := by simpa using d
      rw [e2]
      refine kat_yes (kat_nil ?_)
      have : decide (pkey p < pkey q) = decide (([.int p.1 t1, .int p.2 t2] : List Value).toArray.size < ([.int q.1 t3, .int q.2 t4] : List Value).toArray.size) := by
        have h1 : ¬ pkey p < pkey q := by rw [hk]; omega
        simp [h1]
      rw [this] at h
      exact h
    · have e2 : (p.2 == q.2) = false := by simpa using d
      rw [e2]
      refine kat_no ?_
      have e3 : (true && (0 + 1 == 0)) = false := rfl
      rw [e3]
      refine kat_one _ _ ?_
      have e4 : decide (pkey p < pkey q) = decide (p.2 < q.2) := by
        rw [decide_eq_decide, hk]; omega
      rw [e4] at h
      exact lt_int h
  · have e1 : (p.1 == q.1) = false := by simpa using c
    rw [e1]
    refine kat_no ?_
    have e3 : (true && (0 == 0)) = true := rfl
    rw [e3]
    refine oneLt_int ?_
    have e4 : decide (pkey p < pkey q) = decide (p.1 < q.1) := by
      rw [decide_eq_decide, hk]; omega
    rw [e4] at h
    exact h
theorem tups_of {h : Heap} : ∀ {ps : List (Addr × Obj)} {xs : List (Int × Int)}, PairsAre ps xs → (∀ p ∈ ps, h.get? p.1 = some p.2) → ∃ fs, KatTups h (ps.map (fun p : Addr × Obj => Value.ref p.1)) fs ∧ fs.length = ps.length ∧ ∀ v ∈ fs, ∃ n t, v = .int n t
  | [], [], _, _ => ⟨[], trivial, rfl, fun _ h => nomatch h⟩
  | [], _ :: _, q, _ => q.elim
  | _ :: _, [], q, _ => q.elim
  | p :: ps, x :: xs, q, hh => by
    obtain ⟨fs, a1, a2, a3⟩ := tups_of q.2 fun r hr => hh r (.tail _ hr)
    obtain ⟨t1, t2, e⟩ := q.1
    refine ⟨.int x.1 t1 :: fs, KatTups.cons (hh p (.head _)) (by rw [e]) (by rw [e]) rfl a1, by simp [a2], fun v hv => ?_⟩
    rcases List.mem_cons.mp hv with rfl | hv
    · exact ⟨_, _, rfl⟩
    · exact a3 v hv
theorem sort_pairs {ps : List (Addr × Obj)} {xs : List (Int × Int)} {cap : Nat} {Q : Value → Shared → Prop} (F : Fr h₀ L s.heap m) (N : News h₀ L s.heap news) (hm : (l, refL ps cap) ∈ news) (hps : ∀ p ∈ ps, p ∈ news) (P : PairsAre ps xs) (hb : ∀ x ∈ xs, Small2 x) (h64 : xs.length < 64)
    (h : ∀ D h' qs ys c, Fr h₀ L h' m → News h₀ L h' ((D, refL qs c) :: news) → (∀ q ∈ news, q.1 < D) → PairsAre qs ys → (∀ q ∈ qs, q ∈ ps) → ys.Perm xs → ys.Pairwise LexLe → Q (.ref D) { s with heap := h' }) :
    wpAny (model prog w) A (call (.builtin "sorted") [.ref l]) Q E s := by
  have hl := News.isList N hm
  have hlen := P.length
  have hvl : (ps.map (fun p : Addr × Obj => Value.ref p.1)).length = xs.length := by simp [hlen]
  by_cases h2 : xs.length < 2
  · refine sorted_few F N hl (by omega) fun D c h' F' N' lt => h D h' ps xs c F' N' lt P (fun _ q => q) .rfl ?_
    match xs, h2 with
    | [], _ => exact .nil
    | [x], _ => exact List.pairwise_singleton _ _
  · refine kat_sorted F N hl (by omega) (by omega) fun D e1 h' F' N' lt => ?_
    have hget : ∀ p ∈ ps, h'.get? p.1 = some p.2 := fun p hp => (N' p (.tail _ (hps p hp))).1
    obtain ⟨fs, a1, a2, a3⟩ := tups_of P hget
    refine kat_kind (T := Value.type "int") a1 (by omega) (fun v hv => ?_) rfl ?_
    · obtain ⟨n, t, rfl⟩ := a3 v hv
      exact .now
    · rw [show (Value.type "int" != Value.type "tuple") = true from rfl]
      let e : Nat → Int := fun i => pkey (xs.getD i (0, 0))
      have hn1 : 1 ≤ (ps.map (fun p : Addr × Obj => Value.ref p.1)).length := by omega
      obtain ⟨s1, s2⟩ := sort_spec (e := e) hn1
      refine kasWp_run (e := e) (fun i j C hi hj hC => ?_) _ (ask_sort hn1) ?_
      · rw [List.length_map] at hi hj
        obtain ⟨p, t1, t2, b1, b2⟩ := P.at i hi
        obtain ⟨q, t3, t4, c1, c2⟩ := P.at j hj
        have gi : (ps.map (fun p : Addr × Obj => Value.ref p.1)).getD i Value.none = .ref p.1 := by simp [List.getD, b1]
        have gj : (ps.map (fun p : Addr × Obj => Value.ref p.1)).getD j Value.none = .ref q.1 := by simp [List.getD, c1]
        have sm : ∀ k, k < xs.length → Small2 (xs.getD k (0, 0)) := fun k hk => hb _ (by simp [List.getD, hk])
        unfold kas_ask
        rw [gi, gj]
        exact pair_lt (sm i (by omega)) (sm j (by omega)) (hget p (List.mem_of_getElem? b1)) b2 (hget q (List.mem_of_getElem? c1)) c2 hC
      · generalize askRun (ltE e) (kas_sort (ps.map (fun p : Addr × Obj => Value.ref p.1)).length) = r at s1 s2
        have s1' : r.toList.Perm (List.range ps.length) := by
          have := Array.perm_iff_toList_perm.mp s1
          simpa using this
        have hr : ∀ i ∈ r.toList, i < ps.length := fun i hi => List.mem_range.mp (s1'.mem_iff.mp hi)
        refine KasFin.intro F' N' (.head fun q hq => Nat.ne_of_lt (lt q hq)) fun h'' c F'' N'' => ?_
        have eL : (r.toList.map fun i => (ps.map (fun p : Addr × Obj => Value.ref p.1)).getD i Value.none) = (r.toList.map fun i => ps.getD i (0, ⟨.none, none, .plain, #[]⟩)).map (fun p : Addr × Obj => Value.ref p.1) := by
          rw [List.map_map]
          refine List.map_congr_left fun i hi => ?_
          have := hr i hi
          simp [List.getD, this]
        rw [eL] at N''
        refine h D h'' _ (r.toList.map fun i => xs.getD i (0, 0)) c F'' N'' lt (P.perm _ hr) (fun q hq => ?_) ?_ ?_
        · obtain ⟨i, hi, rfl⟩ := List.mem_map.mp hq
          have := hr i hi
          simp [List.getD, this]
        · have := s1'.map fun i => xs.getD i (0, 0)
          have e2 : (List.range ps.length).map (fun i => xs.getD i (0, 0)) = xs := by
            rw [hlen]
            apply List.ext_getElem?
            intro i
            by_cases q : i < xs.length
            · simp [q, List.getD]
            · simp [q]
          rw [e2] at this
          exact this
        · rw [List.pairwise_iff_getElem]
          intro i j hi hj hij
          simp only [List.length_map, Array.length_toList] at hi hj
          have hn := s1.size_eq
          simp only [List.size_toArray, List.length_range, List.length_map] at hn
          have hv := s2 i j (Nat.le_of_lt hij) (by rw [List.length_map]; omega)
          unfold valA at hv
          have gi : r.getD i 0 = r[i] := by simp [Array.getD, hi]
          have gj : r.getD j 0 = r[j] := by simp [Array.getD, hj]
          rw [gi, gj] at hv
          have sm : ∀ k, k < xs.length → Small2 (xs.getD k (0, 0)) := fun k hk => hb _ (by simp [List.getD, hk])
          simp only [List.getElem_map, Array.getElem_toList]
          exact pkey_le (sm _ (by have := hr r[i] (by simp); omega)) (sm _ (by have := hr r[j] (by simp); omega)) hv
end
end Mine
end

section
open PySem PySem.W PyProof.Rows PySem.Calls PySem.Builtin
set_option Elab.async false
set_option maxRecDepth 100000
namespace Mine
/-! address facts, out of omega's sight -/
def NeA (a b : Nat) : Prop := a ≠ b
theorem neA3 {a b : Nat} (h : NeA a b) : a ≠ b := h
theorem neA4 {a b : Nat} (h : NeA b a) : a ≠ b := Ne.symm h
theorem ne_1 {a b : Nat} (h : a ≠ b) : NeA a b := h
theorem ne_lt {a b : Nat} (h : a < b) : NeA a b := Nat.ne_of_lt h
/-- a turn's end, by name alone -/
def TurnX (T : Flow → Shared → Prop) (f : Flow) (s : Shared) : Prop := T f s
theorem TurnX.intro {T : Flow → Shared → Prop} {f : Flow} {s : Shared} (h : T f s) : TurnX T f s := h
/-! loops whose turns may lay down new objects; the iterator stands in the ledger by name -/
def TurnG (h₀ : Heap) (L : Addr) (J : (Str → Option Value) → List (Addr × Obj) → Prop) (I : Addr) (oI : Obj) (s₁ : Shared) (f : Flow) (s₂ : Shared) : Prop :=
  f = .next ∧ ∃ h' tk m' news', s₂ = { s₁ with heap := h', toks := tk } ∧ Fr h₀ L h' m' ∧ News h₀ L h' news' ∧ (∀ p ∈ news', @Ne Nat p.1 I) ∧ h'.get? I = some oI ∧ J m' news'
theorem TurnG.intro {h₀ h' : Heap} {L I : Addr} {J : (Str → Option Value) → List (Addr × Obj) → Prop} {oI : Obj} {s₁ : Shared} {tk : Nat} {m' : Str → Option Value} {all : List (Addr × Obj)} (news' : List (Addr × Obj)) (F : Fr h₀ L h' m') (N : News h₀ L h' all) (hs : ∀ p ∈ news', p ∈ all) (ho : (I, oI) ∈ all)
    (ha : ∀ p ∈ news', @Ne Nat p.1 I) (hJ : J m' news') : TurnG h₀ L J I oI s₁ .next { s₁ with heap := h', toks := tk } :=
  ⟨rfl, h', tk, m', news', rfl, F, fun p hp => N p (hs p hp), ha, (N _ ho).1, hJ⟩
section
variable {prog : Program} {w : World} {A : Around} {E : Value → Shared → Prop} {s : Shared} {env : Env} {h₀ : Heap} {x : Str} {target : PySem.Expr} {body : List Stmt} {Q : Flow → Shared → Prop}
theorem for_rangeG {r : Addr} {a₀ b₀ : Int} {t₀ u₀ v₀ : Tok} {m₀ : Str → Option Value} {news : List (Addr × Obj)} (n : Nat) (J : Nat → (Str → Option Value) → List (Addr × Obj) → Prop)
    (hh : A.handled = none) (hr : IsRange s.heap r a₀ b₀ 1 t₀ u₀ v₀) (hsz : Builtin.Range.rangeSize a₀ b₀ 1 = (n : Int)) (hsmall : Builtin.Range.small a₀ b₀ 1 = true) (F : Fr h₀ env.locals s.heap m₀) (N : News h₀ env.locals s.heap news) (hj : J 0 m₀ news)
    (turn : ∀ i t m₁ news₁ h tk I oI, i < n → J i m₁ news₁ → (∀ p ∈ news, @LT.lt Nat _ p.1 I) → (∀ p ∈ news₁, @Ne Nat p.1 I) → Fr h₀ env.locals h (fun y => if y = x then some (.int (a₀ + (i : Int)) t) else m₁ y) → News h₀ env.locals h ((I, oI) :: news₁) →
      wpAny (model prog w) A (execs body env) (TurnG h₀ env.locals (J (i + 1)) I oI { s with heap := h, toks := tk }) E { s with heap := h, toks := tk })
    (done : ∀ m₁ news₁ h tk, J n m₁ news₁ → Fr h₀ env.locals h m₁ → News h₀ env.locals h news₁ → Q .next { s with heap := h, toks := tk }) :
    wpAny (model prog w) A (pyIter (.ref r)) (fun it s₂ => LoopAtV prog w A h₀ env x body Q E it s₂) E s := by
  refine wpAny_pyIter_range hr hsmall ?_
  have W : Walks prog w A s.heap.objs.size [s.heap.objs.size] [s.heap.objs.size] n (fun i v => ∃ t, v = .int (a₀ + i * 1) t)
      (fun i h => IsRangeIter h s.heap.objs.size (a₀ + (i : Nat) * 1) ((n : Int) - (i : Nat)) 1) := Walks.range hh _ a₀ 1 n
  have hIL : env.locals ≠ s.heap.objs.size := fun e => absurd F.ns.lt (e ▸ Nat.lt_irrefl _)
  have hIn : h₀.get? s.heap.objs.size = none := next_is_new F
  refine ⟨s.heap.objs.size, [s.heap.objs.size], [s.heap.objs.size], n, _, _, m₀, news, J, rfl, W, (fun hm => hIL (List.mem_singleton.mp hm)), (fun b hb => (List.mem_singleton.mp hb) ▸ hIn), (fun p hp hI => absurd (Heap.lt_size (N p hp).1) ((List.mem_singleton.mp hI) ▸ Nat.lt_irrefl _)), ?_, F.push _, (fun p hp => ⟨Heap.get?_push_of_some _ (N p hp).1, (N p hp).2⟩), hj, ?_, ?_⟩
  · show IsRangeIter _ _ _ _ _; rw [hsz]; simpa using Heap.get?_push_size _ rfl
  · rintro i v m₁ news₁ s₁ own ⟨hh', tk', rfl⟩ hin ⟨t, rfl⟩ hJ hoff hown hget hfp hst F₁ N₁
    have e1 : a₀ + (i : Int) * 1 = a₀ + (i : Int) := by omega
    rw [e1] at F₁
    obtain ⟨oI, hoI, _⟩ : ∃ o, hh'.get? s.heap.objs.size = some o ∧ True := ⟨_, hst, trivial⟩
    have hmem : (s.heap.objs.size, oI) ∈ own := hfp _ (.head _) hIn _ hoI
    have hoff' : ∀ p ∈ news₁, @Ne Nat p.1 s.heap.objs.size := fun p hp e => hoff p hp (List.mem_singleton.mpr e)
    refine wpAny_mono (turn i t m₁ news₁ hh' tk' s.heap.objs.size oI hin hJ (fun p hp => Heap.lt_size (N p hp).1) hoff' F₁ fun p hp => ?_) (fun f s₂ h₂ => ?_) fun _ _ e => e
    · rcases List.mem_cons.mp hp with rfl | hp
      · exact N₁ _ (List.mem_append_left _ hmem)
      · exact N₁ _ (List.mem_append_right _ hp)
    · obtain ⟨rfl, h', tk, m', news', rfl, F', N', ha, hI, hJ'⟩ := h₂
      refine .next ⟨rfl, h', tk, m', news', rfl, F', fun p hp => ?_, fun p hp hI => ha p hp (List.mem_singleton.mp hI), hJ'⟩
      rcases List.mem_append.mp hp with hp | hp
      · have ep := List.mem_singleton.mp (hown p hp)
        have eo := hget p hp
        have eo' : hh'.get? s.heap.objs.size = some p.2 := ep ▸ eo
        rw [hoI] at eo'
        have ep2 : p = (s.heap.objs.size, oI) := Prod.ext ep (Option.some.inj eo').symm
        rw [ep2]
        exact ⟨hI, hIL.symm, hIn⟩
      · exact N' p hp
  · rintro h' tk m' news' F' N' _ hJ
    exact done m' news' h' tk hJ F' N'
theorem for_listT {l : Addr} {vs : List Value} {nn : Nat} {m₀ : Str → Option Value} {news : List (Addr × Obj)} (J : Nat → (Str → Option Value) → List (Addr × Obj) → Prop)
    (hh : A.handled = none) (hl : (l, listOf vs.toArray nn) ∈ news) (F : Fr h₀ env.locals s.heap m₀) (N : News h₀ env.locals s.heap news) (hj : J 0 m₀ news) (hJl : ∀ i m nx, J i m nx → (l, listOf vs.toArray nn) ∈ nx)
    (turn : ∀ i v m₁ news₁ h gg dd tk os I oI, vs[i]? = some v → J i m₁ news₁ → (∀ p ∈ news, @LT.lt Nat _ p.1 I) → (∀ p ∈ news₁, @Ne Nat p.1 I) → Fr h₀ env.locals h m₁ → News h₀ env.locals h ((I, oI) :: news₁) →
      wpAny (model prog w) A (assign target env v) (fun _ s₃ => wpAny (model prog w) A (execs body env) (TurnG h₀ env.locals (J (i + 1)) I oI { heap := h, gens := gg, drawn := dd, toks := tk, os := os }) E s₃) E { heap := h, gens := gg, drawn := dd, toks := tk, os := os })
    (done : ∀ m₁ news₁ h tk, J vs.length m₁ news₁ → Fr h₀ env.locals h m₁ → News h₀ env.locals h news₁ → Q .next { s with heap := h, toks := tk }) :
    wpAny (model prog w) A (pyIter (.ref l)) (fun it s₂ => LoopAtT prog w A h₀ env target body Q E it s₂) E s := by
  have hol : s.heap.get? l = some (listOf vs.toArray nn) := (N _ hl).1
  have hls : s.heap.IsList l vs.toArray := ⟨_, hol, rfl, nn, rfl⟩
  have hne : l ≠ s.heap.objs.size := Nat.ne_of_lt (Heap.lt_size hol)
  refine wpAny_pyIter_list hls ?_
  have W := Walks.list (prog := prog) (w := w) hh s.heap.objs.size l hne vs.toArray
  have hlen : vs.toArray.size = vs.length := by simp
  rw [hlen] at W
  have hIL : env.locals ≠ s.heap.objs.size := fun e => absurd F.ns.lt (e ▸ Nat.lt_irrefl _)
  have hIn : h₀.get? s.heap.objs.size = none := next_is_new F
  refine ⟨_, _, _, vs.length, _, _, m₀, news, J, rfl, W, ?_, (fun b hb => (List.mem_singleton.mp hb) ▸ hIn), (fun p hp hI => absurd (Heap.lt_size (N p hp).1) ((List.mem_singleton.mp hI) ▸ Nat.lt_irrefl _)), ⟨⟨_, Heap.get?_push_size _ rfl, rfl, rfl⟩, hls.at fun o e => Heap.get?_push_of_some _ e⟩, F.push _, (fun p hp => ⟨Heap.get?_push_of_some _ (N p hp).1, (N p hp).2⟩), (fun i s' v Q' st hQ' => letGo_listiter st.1 hQ'), hj, ?_, ?_⟩
  · intro hm
    rcases List.mem_cons.mp hm with e | hm
    · exact hIL e
    · exact (N _ hl).2.1 ((List.mem_singleton.mp hm).symm)
  · rintro i v m₁ news₁ s₁ own hin hP hJ hoff hown hget hfp hst F₁ N₁
    obtain ⟨hh', gg, dd, tk', os⟩ := s₁
    obtain ⟨oI, hoI, _⟩ : ∃ o, hh'.get? s.heap.objs.size = some o ∧ True := by
      obtain ⟨o, ho, _⟩ := hst.1
      exact ⟨o, ho, trivial⟩
    have hmem : (s.heap.objs.size, oI) ∈ own := hfp _ (.head _) hIn _ hoI
    have hoff' : ∀ p ∈ news₁, @Ne Nat p.1 s.heap.objs.size := fun p hp e => hoff p hp (List.mem_singleton.mpr e)
    have hlo : hh'.get? l = some (listOf vs.toArray nn) := (N₁ _ (List.mem_append_right _ (hJl _ _ _ hJ))).1
    refine wpAny_mono (turn i v m₁ news₁ hh' gg dd tk' os s.heap.objs.size oI (by simpa using hP) hJ (fun p hp => Heap.lt_size (N p hp).1) hoff' F₁ fun p hp => ?_) (fun _ s₃ h₃ => wpAny_mono h₃ (fun f s₂ h₂ => ?_) fun _ _ e => e) fun _ _ e => e
    · rcases List.mem_cons.mp hp with rfl | hp
      · exact N₁ _ (List.mem_append_left _ hmem)
      · exact N₁ _ (List.mem_append_right _ hp)
    · obtain ⟨rfl, h', tk, m', news', rfl, F', N', ha, hI, hJ'⟩ := h₂
      refine ⟨rfl, h', tk, m', news', rfl, F', fun p hp => ?_, fun p hp hI => ha p hp (List.mem_singleton.mp hI), hJ'⟩
      rcases List.mem_append.mp hp with hp | hp
      · have eo : hh'.get? p.1 = some p.2 := hget p hp
        rcases List.mem_cons.mp (hown p hp) with ep | ep
        · rw [ep, hoI] at eo
          have ep2 : p = (s.heap.objs.size, oI) := Prod.ext ep (Option.some.inj eo).symm
          rw [ep2]
          exact ⟨hI, hIL.symm, hIn⟩
        · have ep := List.mem_singleton.mp ep
          rw [ep, hlo] at eo
          have ep2 : p = (l, listOf vs.toArray nn) := Prod.ext ep (Option.some.inj eo).symm
          rw [ep2]
          exact N' _ (hJl _ _ _ hJ')
      · exact N' p hp
  · rintro h' tk m' news' F' N' _ hJ
    exact done m' news' h' tk hJ F' N'
end
end Mine
end

section
open PySem PySem.W PyProof.Rows PySem.Calls PySem.Builtin
set_option Elab.async false
set_option maxRecDepth 100000
namespace Mine
/-! lists of ints, each an object with a fact -/
theorem UpdF.upd {d : Addr} {o : Obj} (o' : Obj) : ∀ {l : List (Addr × Obj)} {g : Obj → List (Addr × Obj)}, UpdF d o l g → Upd d o o' l (g o')
  | _, _, .head h => .head h
  | _, _, .tail h r => .tail h (UpdF.upd o' r)
section
variable {prog : Program} {w : World} {A : Around} {E : Value → Shared → Prop} {s : Shared} {h₀ : Heap} {L D : Addr} {m : Str → Option Value} {news : List (Addr × Obj)} {g : Obj → List (Addr × Obj)} {o : Obj} {rs : List Int} {k x : Int} {t u : Tok}
theorem set_ints {Q : Unit → Shared → Prop} (F : Fr h₀ L s.heap m) (N : News h₀ L s.heap news) (U : UpdF D o news g) (ho : IsInts o rs) (h0 : 0 ≤ k) (h1 : k < rs.length) (h2 : k < 1000000)
    (h : ∀ h' o', Fr h₀ L h' m → News h₀ L h' (g o') → IsInts o' (rs.set k.toNat x) → Q () { s with heap := h' }) :
    wpAny (model prog w) A (setItem (.ref D) (.int k t) (.int x u)) Q E s := by
  obtain ⟨vs, n, rfl, hi⟩ := ho
  exact ksa_set F N (UpdF.upd _ U) hi h0 h1 (by omega) fun h' F' N' hi' _ _ => h h' _ F' N' ⟨_, _, rfl, hi'⟩
theorem get_ints {Q : Value → Shared → Prop} (N : News h₀ L s.heap news) (hm : (D, o) ∈ news) (ho : IsInts o rs) (h0 : 0 ≤ k) (h1 : k < rs.length) (h2 : k < 1000000) (h : ∀ t, Q (.int (rs.getD k.toNat 0) t) s) :
    wpAny (model prog w) A (getItem (.ref D) (.int k u)) Q E s := by
  obtain ⟨vs, n, rfl, hi⟩ := ho
  exact ksa_get N hm hi h0 h1 (by omega) h
theorem itemneg_ints {value slice : PySem.Expr} {Q : Value → Shared → Prop} (N : News h₀ L s.heap news) (hm : (D, o) ∈ news) (ho : IsInts o rs) (h0 : k = -1) (h1 : 0 < rs.length) (h : ∀ t, Q (.int (rs.getD (rs.length - 1) 0) t) s)
    (hs : subscripted slice false (.ref D) (.int k u) = operate [.ref D, .int k u] (getItem (.ref D) (.int k u)) := by with_unfolding_all rfl) (hg : ∀ r, letTemporaryGo value (.ref D) r = pure () := by intro _; with_unfolding_all rfl) :
    wpAny (model prog w) A (subscriptTail value slice (.ref D) (.int k u)) Q E s := by
  obtain ⟨vs, n, rfl, hi⟩ := ho
  subst h0
  refine item_list_ints_neg (News.isList N hm) hi (by omega) (by omega) (by omega) (fun t => ?_) hs hg
  rw [show ((-1 : Int) + rs.length).toNat = rs.length - 1 by omega]
  exact h t
theorem ne_nil_ints {D' : Addr} {n : Nat} {Q : Value → Shared → Prop} (N : News h₀ L s.heap news) (hm : (D, o) ∈ news) (ho : IsInts o rs) (hm' : (D', listOf #[] n) ∈ news) (hu : A.units + 64 < cLine) (h : Q (.bool (!decide (rs = []))) s) :
    wpAny (model prog w) A (compareOp .NotEq (.ref D) (.ref D')) Q E s := by
  obtain ⟨vs, n, rfl, hi⟩ := ho
  exact ne_intsK (News.isList N hm) hi (us := []) (ms := []) (News.isList N hm') .nil hu h
theorem pop_ints {Q : Value → Shared → Prop} (F : Fr h₀ L s.heap m) (N : News h₀ L s.heap news) (U : UpdF D o news g) (ho : IsInts o rs) (h1 : 0 < rs.length) (h2 : rs.length ≤ 1000000)
    (h : ∀ h' o' t, Fr h₀ L h' m → News h₀ L h' (g o') → IsInts o' rs.dropLast → Q (.int (rs.getLastD 0) t) { s with heap := h' }) : wpAny (model prog w) A (call (.builtin "list.pop") [.ref D]) Q E s := by
  obtain ⟨vs, n, rfl, hi⟩ := ho
  have hl := hi.length
  exact kpa_pop F N (UpdF.upd _ U) hi (by omega) (by rw [sizeLine_eq]; omega) fun h' t F' N' hi' => h h' _ t F' N' ⟨_, _, rfl, hi'⟩
theorem append_ints {Q : Value → Shared → Prop} (F : Fr h₀ L s.heap m) (N : News h₀ L s.heap news) (U : UpdF D o news g) (ho : IsInts o rs) (h2 : rs.length ≤ 1000000)
    (h : ∀ h' o', Fr h₀ L h' m → News h₀ L h' (g o') → IsInts o' (rs ++ [x]) → Q .none { s with heap := h' }) : wpAny (model prog w) A (call (.builtin "list.append") [.ref D, .int x t]) Q E s := by
  obtain ⟨vs, n, rfl, hi⟩ := ho
  have hl := hi.length
  refine append_K F N (UpdF.upd _ U) (fun h' F' N' => h h' _ F' N' ⟨vs ++ [.int x t], n + 1, ?_, IntsAre.append hi (.cons x t .nil)⟩) (by rw [sizeLine_eq, List.size_toArray]; omega)
  simp
theorem method_ints {name : Str} {id : String} {pl : Sem Bool} {Q : Value × List Value → Shared → Prop} (N : News h₀ L s.heap news) (hm : (D, o) ∈ news) (ho : IsInts o rs) (slot : Slot "list" name id) (hty : typeOf (.builtin id) = pure (.type "method_descriptor"))
    (h : Q (.builtin id, [.ref D]) s) : wpAny (model prog w) A (getMethod (.ref D) name pl) Q E s := by
  obtain ⟨vs, n, rfl, hi⟩ := ho
  exact kl_method N hm slot hty h
theorem nil_ints {n : Nat} : IsInts (listOf #[] n) [] := ⟨[], n, rfl, .nil⟩
end
/-! the strokes, in plain words -/
def natsI (sol : List Nat) : List Int := sol.map fun i : Nat => (i : Int)
theorem natsI_len (sol : List Nat) : (natsI sol).length = sol.length := by simp [natsI]
theorem natsI_nil {l : List Nat} : natsI l = [] ↔ l = [] := by simp [natsI]
def tstOf (sol : List Nat) (f l : Int) (j : Nat) : Bool := decide (f ≤ (natsI sol).getD j 0) && decide ((natsI sol).getD j 0 ≤ l)
def insOf (sol : List Nat) (f l : Int) : List Nat := (List.range sol.length).filter (tstOf sol f l)
def stepBE (sol : List Nat) (be : List Int × List Int) (st : Stroke) : List Int × List Int :=
  if (insOf sol st.1 st.2.1) = [] ∨ st.2.2 ≤ 0 then be
  else (be.1.set ((insOf sol st.1 st.2.1).getD 0 0) (be.1.getD ((insOf sol st.1 st.2.1).getD 0 0) 0 + st.2.2), be.2.set ((insOf sol st.1 st.2.1).getD ((insOf sol st.1 st.2.1).length - 1) 0 + 1) (be.2.getD ((insOf sol st.1 st.2.1).getD ((insOf sol st.1 st.2.1).length - 1) 0 + 1) 0 + st.2.2))
def beOf (sol : List Nat) (sts : List Stroke) : List Int × List Int := sts.foldl (stepBE sol) (List.replicate (sol.length + 1) 0, List.replicate (sol.length + 1) 0)
theorem stepBE_len (sol : List Nat) (be : List Int × List Int) (st : Stroke) : (stepBE sol be st).1.length = be.1.length ∧ (stepBE sol be st).2.length = be.2.length := by
  unfold stepBE; split <;> simp
theorem beOf_snoc (sol : List Nat) (sts : List Stroke) (st : Stroke) : beOf sol (sts ++ [st]) = stepBE sol (beOf sol sts) st := by simp [beOf]
theorem beOf_len (sol : List Nat) (sts : List Stroke) : (beOf sol sts).1.length = sol.length + 1 ∧ (beOf sol sts).2.length = sol.length + 1 := by
  unfold beOf
  have : ∀ (sts : List Stroke) (be : List Int × List Int), (sts.foldl (stepBE sol) be).1.length = be.1.length ∧ (sts.foldl (stepBE sol) be).2.length = be.2.length := by
    intro sts
    induction sts with
    | nil => intro be; exact ⟨rfl, rfl⟩
    | cons a r ih => intro be; rw [List.foldl_cons]; have h1 := ih (stepBE sol be a); have h2 := stepBE_len sol be a; exact ⟨h1.1.trans h2.1, h1.2.trans h2.2⟩
  have h := this sts (List.replicate (sol.length + 1) 0, List.replicate (sol.length + 1) 0)
  simpa using h
theorem insOf_lt {sol : List Nat} {f l : Int} {j : Nat} (h : j ∈ insOf sol f l) : j < sol.length := List.mem_range.mp (List.mem_filter.mp h).1
def StrJ (m₀ : Str → Option Value) (De Db cl cf : Addr) (rest : List (Addr × Obj)) (sol : List Nat) (sts : List Stroke) (i : Nat) (m : Str → Option Value) (news : List (Addr × Obj)) : Prop :=
  ∃ (u1 u2 vl vf : Option Value) (oe ob ol of : Obj), m = (fun y => if y = Str.ofString "inside" then u1 else if y = Str.ofString "width" then u2 else m₀ y) ∧ news = (De, oe) :: (Db, ob) :: (cl, ol) :: (cf, of) :: rest ∧
    ol.data = .cell vl ∧ of.data = .cell vf ∧ IsInts ob (beOf sol (sts.take i)).1 ∧ IsInts oe (beOf sol (sts.take i)).2
theorem off_two {m₀ : Str → Option Value} {a b : Str} : m₀ = (fun y => if y = a then m₀ a else if y = b then m₀ b else m₀ y) := by
  funext y
  by_cases h1 : y = a
  · rw [if_pos h1, h1]
  · rw [if_neg h1]
    by_cases h2 : y = b
    · rw [if_pos h2, h2]
    · rw [if_neg h2]
theorem str_turn {h₀ h' : Heap} {L De Db cl cf I : Addr} {m₀ : Str → Option Value} {vl vf : Option Value} {all rest : List (Addr × Obj)} {oe ob ol of oI : Obj} {sol : List Nat} {sts : List Stroke} {i : Nat} {be : List Int × List Int} {s₁ : Shared} {tk : Nat}
    {m' : Str → Option Value} (F : Fr h₀ L h' m') (N : News h₀ L h' all) (hm : ∀ y, ¬ y = Str.ofString "inside" → ¬ y = Str.ofString "width" → m' y = m₀ y)
    (me : (De, oe) ∈ all) (mb : (Db, ob) ∈ all) (ml : (cl, ol) ∈ all) (mf : (cf, of) ∈ all) (mr : ∀ p ∈ rest, p ∈ all) (mI : (I, oI) ∈ all) (nr : ∀ q ∈ (De, oe) :: (Db, ob) :: (cl, ol) :: (cf, of) :: rest, @Ne Nat q.1 I)
    (hol : ol.data = .cell vl) (hof : of.data = .cell vf) (hbe : beOf sol (sts.take (i + 1)) = be) (hb : IsInts ob be.1) (he : IsInts oe be.2) :
    TurnG h₀ L (StrJ m₀ De Db cl cf rest sol sts (i + 1)) I oI s₁ .next { s₁ with heap := h', toks := tk } := by
  refine TurnG.intro ((De, oe) :: (Db, ob) :: (cl, ol) :: (cf, of) :: rest) F N (subs_cons me (subs_cons mb (subs_cons ml (subs_cons mf mr)))) mI nr ⟨m' (Str.ofString "inside"), m' (Str.ofString "width"), vl, vf, oe, ob, ol, of, ?_, rfl, hol, hof, hbe ▸ hb, hbe ▸ he⟩
  · funext y
    by_cases h1 : y = Str.ofString "inside"
    · rw [if_pos h1, h1]
    · rw [if_neg h1]
      by_cases h2 : y = Str.ofString "width"
      · rw [if_pos h2, h2]
      · rw [if_neg h2]; exact hm y h1 h2
section
variable {prog : Program} {w : World} {A : Around} {E : Value → Shared → Prop} {s : Shared} {env : Env} {h₀ : Heap} {target : PySem.Expr} {body : List Stmt} {Q : Flow → Shared → Prop}
theorem strokes_for {l De Db Ds cl cf : Addr} {ps : List (Addr × Obj)} {sts : List Stroke} {x1 x2 r1 : Addr × Obj} {oe ob os ol of : Obj} {vl vf : Option Value} {rest : List (Addr × Obj)} {sol : List Nat} {nn : Nat} {m₀ : Str → Option Value}
    (hh : A.handled = none) (F : Fr h₀ env.locals s.heap m₀) (N : News h₀ env.locals s.heap ((De, oe) :: x1 :: (Db, ob) :: x2 :: (Ds, os) :: (cl, ol) :: (cf, of) :: r1 :: rest))
    (hl : (l, refL ps nn) ∈ rest) (hp : ∀ p ∈ ps, p ∈ rest) (hS : StrokesAre ps sts)
    (he : IsInts oe (List.replicate (sol.length + 1) 0)) (hb : IsInts ob (List.replicate (sol.length + 1) 0)) (hol : ol.data = .cell vl) (hof : of.data = .cell vf)
    (turn : ∀ p f l wd t1 t2 t3 bs be oe ob ol of vl vf u1 u2 h gg dd tk os' I oI al T, StrokeOk f l wd → be = beOf sol bs → be.1.length = sol.length + 1 → be.2.length = sol.length + 1 →
      NeA p De → NeA p Db → NeA p cl → NeA p cf → NeA I De → NeA I Db → NeA I cl → NeA I cf → NeA De Db → NeA De cl → NeA De cf → NeA Db cl → NeA Db cf → NeA cl cf → NeA Ds De → NeA Ds Db → NeA Ds cl → NeA Ds cf → NeA r1.1 De → NeA r1.1 Db → NeA r1.1 cl → NeA r1.1 cf →
      (∀ q ∈ al, @Ne Nat q.1 De) → (∀ q ∈ al, @Ne Nat q.1 Db) → (∀ q ∈ al, @Ne Nat q.1 cl) → (∀ q ∈ al, @Ne Nat q.1 cf) →
      ol.data = .cell vl → of.data = .cell vf → IsInts ob be.1 → IsInts oe be.2 →
      (∀ all' oe' ob' ol' of' vl' vf' be' h' m' tk', Fr h₀ env.locals h' m' → News h₀ env.locals h' all' → (∀ y, ¬ y = Str.ofString "inside" → ¬ y = Str.ofString "width" → m' y = m₀ y) → (De, oe') ∈ all' → (Db, ob') ∈ all' → (cl, ol') ∈ all' → (cf, of') ∈ all' → (Ds, os) ∈ all' → r1 ∈ all' → (∀ q ∈ al, q ∈ all') → (I, oI) ∈ all' →
        ol'.data = .cell vl' → of'.data = .cell vf' → beOf sol (bs ++ [(f, l, wd)]) = be' → IsInts ob' be'.1 → IsInts oe' be'.2 → T .next { heap := h', gens := gg, drawn := dd, toks := tk', os := os' }) →
      Fr h₀ env.locals h (fun y => if y = Str.ofString "inside" then u1 else if y = Str.ofString "width" then u2 else m₀ y) →
      News h₀ env.locals h ((p, tup3 (.int f t1) (.int l t2) (.int wd t3)) :: (I, oI) :: (De, oe) :: (Db, ob) :: (cl, ol) :: (cf, of) :: (Ds, os) :: r1 :: al) →
      wpAny (model prog w) A (assign target env (.ref p)) (fun _ s₃ => wpAny (model prog w) A (execs body env) (TurnX T) E s₃) E { heap := h, gens := gg, drawn := dd, toks := tk, os := os' })
    (nr : ∀ q ∈ r1 :: rest, @LT.lt Nat _ q.1 cf) (c1 : @LT.lt Nat _ cf cl) (c2 : @LT.lt Nat _ cl Db) (c3 : @LT.lt Nat _ Ds Db) (c5 : @Ne Nat Ds cl) (c6 : @Ne Nat Ds cf) (c4 : @LT.lt Nat _ Db De)
    (done : ∀ oe ob ol of vl vf u1 u2 h tk, ol.data = .cell vl → of.data = .cell vf → IsInts ob (beOf sol sts).1 → IsInts oe (beOf sol sts).2 → Fr h₀ env.locals h (fun y => if y = Str.ofString "inside" then u1 else if y = Str.ofString "width" then u2 else m₀ y) →
      News h₀ env.locals h ((De, oe) :: (Db, ob) :: (cl, ol) :: (cf, of) :: (Ds, os) :: r1 :: rest) → Q .next { s with heap := h, toks := tk }) :
    wpAny (model prog w) A (pyIter (.ref l)) (fun it s₂ => LoopAtT prog w A h₀ env target body Q E it s₂) E s := by
  have N2 : News h₀ env.locals s.heap ((De, oe) :: (Db, ob) :: (cl, ol) :: (cf, of) :: (Ds, os) :: r1 :: rest) := News.sub N fun p hp => by
    simp only [List.mem_cons] at hp ⊢
    rcases hp with h | h | h | h | h | h <;> simp [h]
  have hlr : ∀ {q oe ob ol of}, q ∈ rest → q ∈ (De, oe) :: (Db, ob) :: (cl, ol) :: (cf, of) :: (Ds, os) :: r1 :: rest := fun h => .tail _ (.tail _ (.tail _ (.tail _ (.tail _ (.tail _ h)))))
  refine for_listT (StrJ m₀ De Db cl cf ((Ds, os) :: r1 :: rest) sol sts) hh (vs := ps.map fun p : Addr × Obj => Value.ref p.1) (nn := nn) (hlr hl) F N2 ⟨_, _, vl, vf, oe, ob, ol, of, off_two, rfl, hol, hof, hb, he⟩ ?_ ?_ ?_
  · rintro i m nx ⟨_, _, _, _, _, _, _, _, _, rfl, _⟩
    exact hlr hl
  · rintro i v m₁ news₁ h gg dd tk os' I oI hv ⟨u1, u2, vl', vf', oe', ob', ol', of', rfl, rfl, a1, a2, a3, a4⟩ hI hI2 F₁ N₁
    obtain ⟨p, f, l, wd, t1, t2, t3, rfl, hs9, hm, hok⟩ := hS.at hv
    have hbl := beOf_len sol (sts.take i)
    have p1 : @LT.lt Nat _ p cf := nr _ (.tail _ (hp _ hm))
    have p2 := Nat.lt_trans p1 c1
    have p3 := Nat.lt_trans p2 c2
    have p4 := Nat.lt_trans p3 c4
    have i0 : @LT.lt Nat _ De I := hI _ (.head _)
    have i1 := Nat.lt_trans c4 i0
    have i2 := Nat.lt_trans c2 i1
    have i3 := Nat.lt_trans c1 i2
    have k1 : @LT.lt Nat _ r1.1 cf := nr _ (.head _)
    have k2 := Nat.lt_trans k1 c1
    have k3 := Nat.lt_trans k2 c2
    have k4 := Nat.lt_trans k3 c4
    have q1 : ∀ q ∈ rest, @LT.lt Nat _ q.1 cf := fun q hq => nr q (.tail _ hq)
    have q2 : ∀ q ∈ rest, @LT.lt Nat _ q.1 cl := fun q hq => Nat.lt_trans (q1 q hq) c1
    have q3 : ∀ q ∈ rest, @LT.lt Nat _ q.1 Db := fun q hq => Nat.lt_trans (q2 q hq) c2
    have q4 : ∀ q ∈ rest, @LT.lt Nat _ q.1 De := fun q hq => Nat.lt_trans (q3 q hq) c4
    refine turn p f l wd t1 t2 t3 (sts.take i) _ oe' ob' ol' of' vl' vf' u1 u2 h gg dd tk os' I oI rest (TurnG h₀ env.locals (StrJ m₀ De Db cl cf ((Ds, os) :: r1 :: rest) sol sts (i + 1)) I oI { heap := h, gens := gg, drawn := dd, toks := tk, os := os' }) hok rfl hbl.1 hbl.2
      (Nat.ne_of_lt p4) (Nat.ne_of_lt p3) (Nat.ne_of_lt p2) (Nat.ne_of_lt p1) (Nat.ne_of_gt i0) (Nat.ne_of_gt i1) (Nat.ne_of_gt i2) (Nat.ne_of_gt i3)
      (Nat.ne_of_gt c4) (Nat.ne_of_gt (Nat.lt_trans c2 c4)) (Nat.ne_of_gt (Nat.lt_trans c1 (Nat.lt_trans c2 c4))) (Nat.ne_of_gt c2) (Nat.ne_of_gt (Nat.lt_trans c1 c2)) (Nat.ne_of_gt c1)
      (Nat.ne_of_lt (Nat.lt_trans c3 c4)) (Nat.ne_of_lt c3) c5 c6 (Nat.ne_of_lt k4) (Nat.ne_of_lt k3) (Nat.ne_of_lt k2) (Nat.ne_of_lt k1)
      (fun q hq => Nat.ne_of_lt (q4 q hq)) (fun q hq => Nat.ne_of_lt (q3 q hq)) (fun q hq => Nat.ne_of_lt (q2 q hq)) (fun q hq => Nat.ne_of_lt (q1 q hq)) a1 a2 a3 a4 ?_ F₁ fun q hq => ?_
    · intro all' oe2 ob2 ol2 of2 vl2 vf2 be' h' m' tk' F' N' hm' me mb ml mf ms mr1 mal mI hol' hof' hbe hb' he'
      rw [← take_next hs9] at hbe
      refine str_turn F' N' hm' me mb ml mf (subs_cons ms (subs_cons mr1 mal)) mI (List.forall_mem_cons.mpr ⟨hI2 (De, oe') (.head _), List.forall_mem_cons.mpr ⟨hI2 (Db, ob') (.tail _ (.head _)), List.forall_mem_cons.mpr ⟨hI2 (cl, ol') (.tail _ (.tail _ (.head _))), List.forall_mem_cons.mpr ⟨hI2 (cf, of') (.tail _ (.tail _ (.tail _ (.head _)))), fun q hq => hI2 q (.tail _ (.tail _ (.tail _ (.tail _ hq))))⟩⟩⟩⟩) hol' hof' hbe hb' he'
    · rcases List.mem_cons.mp hq with rfl | hq
      · exact N₁ _ (.tail _ (hlr (hp _ hm)))
      · exact N₁ _ hq
  · rintro m₁ news₁ h tk ⟨u1, u2, vl', vf', oe', ob', ol', of', rfl, rfl, a1, a2, a3, a4⟩ F₁ N₁
    rw [List.length_map, hS.1, List.take_length] at a3 a4
    exact done oe' ob' ol' of' vl' vf' u1 u2 h tk a1 a2 a3 a4 F₁ N₁
end
theorem natsI_getD (l : List Nat) (k : Nat) : (natsI l).getD k 0 = ((l.getD k 0 : Nat) : Int) := by
  unfold natsI
  simp only [List.getD, List.getElem?_map]
  cases l[k]? <;> rfl
theorem ins_pos {l : List Nat} (h : ¬ natsI l = []) : 0 < l.length := by
  cases l with
  | nil => exact absurd rfl h
  | cons a r => simp
theorem getD_mem {l : List Nat} {k : Nat} (h : k < l.length) : l.getD k 0 ∈ l := by
  simp only [List.getD, List.getElem?_eq_getElem h, Option.getD_some]
  exact List.getElem_mem h
theorem ins_bd {sol : List Nat} {f l : Int} : 0 ≤ (natsI (insOf sol f l)).getD (0 : Int).toNat 0 ∧ 0 ≤ (natsI (insOf sol f l)).getD ((natsI (insOf sol f l)).length - 1) 0 ∧
    (0 < (insOf sol f l).length → (natsI (insOf sol f l)).getD (0 : Int).toNat 0 < (sol.length : Int) ∧ (natsI (insOf sol f l)).getD ((natsI (insOf sol f l)).length - 1) 0 < (sol.length : Int)) := by
  rw [natsI_getD, natsI_getD, natsI_len]
  refine ⟨by omega, by omega, fun h => ⟨?_, ?_⟩⟩
  · have := insOf_lt (getD_mem (l := insOf sol f l) (k := 0) h)
    show ((((insOf sol f l).getD 0 0) : Nat) : Int) < _
    omega
  · have := insOf_lt (getD_mem (l := insOf sol f l) (k := (insOf sol f l).length - 1) (by omega))
    omega
section
variable {sol : List Nat} {f l : Int} {r : List Int}
theorem at0a : 0 ≤ (natsI (insOf sol f l)).getD (0 : Int).toNat 0 := (ins_bd (sol := sol) (f := f) (l := l)).1
theorem at0b (h : ¬ natsI (insOf sol f l) = []) (hr : r.length = sol.length + 1) : (natsI (insOf sol f l)).getD (0 : Int).toNat 0 < (r.length : Int) := by
  have := ((ins_bd (sol := sol) (f := f) (l := l)).2.2 (ins_pos h)).1
  omega
theorem at0c (h : ¬ natsI (insOf sol f l) = []) (hs : sol.length ≤ 6) : (natsI (insOf sol f l)).getD (0 : Int).toNat 0 < 1000000 := by
  have := ((ins_bd (sol := sol) (f := f) (l := l)).2.2 (ins_pos h)).1
  omega
theorem at1a : 0 ≤ (natsI (insOf sol f l)).getD ((natsI (insOf sol f l)).length - 1) 0 + 1 := by
  have := (ins_bd (sol := sol) (f := f) (l := l)).2.1
  omega
theorem at1b (h : ¬ natsI (insOf sol f l) = []) (hr : r.length = sol.length + 1) : (natsI (insOf sol f l)).getD ((natsI (insOf sol f l)).length - 1) 0 + 1 < (r.length : Int) := by
  have := ((ins_bd (sol := sol) (f := f) (l := l)).2.2 (ins_pos h)).2
  omega
theorem at1c (h : ¬ natsI (insOf sol f l) = []) (hs : sol.length ≤ 6) : (natsI (insOf sol f l)).getD ((natsI (insOf sol f l)).length - 1) 0 + 1 < 1000000 := by
  have := ((ins_bd (sol := sol) (f := f) (l := l)).2.2 (ins_pos h)).2
  omega
end
theorem be_skip1 {sol : List Nat} {sts st : List Stroke} {f l wd : Int} (ht : sts = st ++ [(f, l, wd)]) (h : natsI (insOf sol f l) = []) : beOf sol sts = beOf sol st := by
  rw [ht, beOf_snoc]; unfold stepBE; rw [if_pos (.inl (natsI_nil.mp h))]
theorem be_skip2 {sol : List Nat} {sts st : List Stroke} {f l wd : Int} (ht : sts = st ++ [(f, l, wd)]) (h : ¬ 0 < wd) : beOf sol sts = beOf sol st := by
  rw [ht, beOf_snoc]; unfold stepBE; rw [if_pos (.inr (Int.not_lt.mp h))]
theorem be_step {sol : List Nat} {sts st : List Stroke} {be : List Int × List Int} {f l wd : Int} (ht : sts = st ++ [(f, l, wd)]) (hbe : be = beOf sol st) (h1 : ¬ natsI (insOf sol f l) = []) (h2 : 0 < wd) :
    beOf sol sts = (be.1.set ((natsI (insOf sol f l)).getD (0 : Int).toNat 0).toNat (be.1.getD ((natsI (insOf sol f l)).getD (0 : Int).toNat 0).toNat 0 + wd), be.2.set ((natsI (insOf sol f l)).getD ((natsI (insOf sol f l)).length - 1) 0 + 1).toNat (be.2.getD ((natsI (insOf sol f l)).getD ((natsI (insOf sol f l)).length - 1) 0 + 1).toNat 0 + wd)) := by
  rw [ht, beOf_snoc, ← hbe]; unfold stepBE
  rw [if_neg (fun q => q.elim (fun e => h1 (natsI_nil.mpr e)) (fun e => absurd h2 (Int.not_lt.mpr e)))]
  rw [natsI_getD, natsI_getD, natsI_len]
  rfl
end Mine
end

section
open PySem PySem.W PyProof.Rows
set_option Elab.async false
namespace Mine
/-! the levels by the solid rows, and the state of the second loop -/
theorem sol_of {B : List Str} {i : Nat} {b : Bool} (h : (atR B (0 + (i : Int)).toNat != Str.ofString "") = b) : isSol B i = b := by
  rw [show (0 + (i : Int)).toNat = i by omega] at h
  rw [← h]; unfold isSol
  by_cases q : cpl (atR B i) = []
  · have e := blank_eq q
    rw [e]; simp [eq_blank rfl]
  · have e : atR B i ≠ Str.ofString "" := fun e => q (eq_blank e)
    simp [q, e]
def LvN (sol : List Nat) (L : Nat → Nat) (j : Nat) : Nat := if j < sol.length then L (sol.getD j 0) else 0
def LpN (sol : List Nat) (L : Nat → Nat) (j : Nat) : Nat := if j = 0 then 0 else LvN sol L (j - 1)
theorem getD_set {l : List Int} {i j : Nat} {v : Int} (hi : i < l.length) : (l.set i v).getD j 0 = if j = i then v else l.getD j 0 := by
  simp only [List.getD, List.getElem?_set]
  by_cases h : i = j
  · subst h; simp [hi]
  · rw [if_neg h, if_neg (fun q => h q.symm)]
theorem sorted_at {sol : List Nat} (hs : sol.Pairwise (· < ·)) {i j : Nat} (h : i ≤ j) (hj : j < sol.length) : sol.getD i 0 ≤ sol.getD j 0 := by
  have hi : i < sol.length := by omega
  have e1 : sol.getD i 0 = sol[i] := by simp [hi]
  have e2 : sol.getD j 0 = sol[j] := by simp [hj]
  rw [e1, e2]
  rcases Nat.lt_or_ge i j with q | q
  · exact Nat.le_of_lt (List.pairwise_iff_getElem.mp hs i j hi hj q)
  · have : i = j := by omega
    subst this; exact Nat.le_refl _
theorem ins_sorted (sol : List Nat) (f l : Int) : (insOf sol f l).Pairwise (· < ·) := List.Pairwise.filter _ List.pairwise_lt_range
theorem ins_iff {sol : List Nat} (hs : sol.Pairwise (· < ·)) {f l : Int} (h : insOf sol f l ≠ []) {j : Nat} (hj : j < sol.length) :
    (f ≤ ((sol.getD j 0 : Nat) : Int) ∧ ((sol.getD j 0 : Nat) : Int) ≤ l) ↔ ((insOf sol f l).getD 0 0 ≤ j ∧ j ≤ (insOf sol f l).getD ((insOf sol f l).length - 1) 0) := by
  have hp : 0 < (insOf sol f l).length := List.length_pos_iff.mpr h
  have mem_iff : ∀ k, k ∈ insOf sol f l ↔ k < sol.length ∧ f ≤ ((sol.getD k 0 : Nat) : Int) ∧ ((sol.getD k 0 : Nat) : Int) ≤ l := fun k => by
    unfold insOf
    rw [List.mem_filter, List.mem_range]
    unfold tstOf
    rw [Bool.and_eq_true, decide_eq_true_eq, decide_eq_true_eq, natsI_getD]
  constructor
  · intro q
    have hm := (mem_iff j).mpr ⟨hj, q⟩
    obtain ⟨k, hk, e⟩ := List.getElem_of_mem hm
    have e' : (insOf sol f l).getD k 0 = j := by simp [hk, e]
    have h1 := sorted_at (ins_sorted sol f l) (Nat.zero_le k) hk
    have h2 := sorted_at (ins_sorted sol f l) (i := k) (j := (insOf sol f l).length - 1) (by omega) (by omega)
    omega
  · rintro ⟨q1, q2⟩
    have m1 := (mem_iff _).mp (getD_mem (l := insOf sol f l) (k := 0) hp)
    have m2 := (mem_iff _).mp (getD_mem (l := insOf sol f l) (k := (insOf sol f l).length - 1) (by omega))
    have h1 := sorted_at hs q1 hj
    have h2 := sorted_at hs q2 m2.1
    omega
def DiffOk (sol : List Nat) (L : Nat → Nat) (be : List Int × List Int) : Prop := be.1.length = sol.length + 1 ∧ be.2.length = sol.length + 1 ∧ ∀ j, j ≤ sol.length → be.1.getD j 0 - be.2.getD j 0 = (LvN sol L j : Int) - (LpN sol L j : Int)
theorem set_add {l : List Int} {a j : Nat} {w : Int} (h : a < l.length) : (l.set a (l.getD a 0 + w)).getD j 0 = l.getD j 0 + if j = a then w else 0 := by
  rw [getD_set h]
  by_cases e : j = a
  · rw [if_pos e, if_pos e, e]
  · rw [if_neg e, if_neg e, Int.add_zero]
theorem step_fn {a z : Nat} {w : Int} (hw : ¬ w ≤ 0) (haz : a ≤ z) (j : Nat) :
    (if j = a then w else 0) - (if j = z + 1 then w else 0) = ((if a ≤ j ∧ j ≤ z then w.toNat else 0 : Nat) : Int) - ((if j = 0 then 0 else if a ≤ j - 1 ∧ j - 1 ≤ z then w.toNat else 0 : Nat) : Int) := by
  have hw' : (w.toNat : Int) = w := Int.toNat_of_nonneg (Int.le_of_lt (Int.not_le.mp hw))
  have inner : ∀ {k : Nat}, (if k + 1 = 0 then 0 else if a ≤ k + 1 - 1 ∧ k + 1 - 1 ≤ z then w.toNat else 0 : Nat) = if a ≤ k ∧ k ≤ z then w.toNat else 0 := fun {k} => by rw [if_neg (Nat.succ_ne_zero k), Nat.add_sub_cancel]
  cases j with
  | zero =>
    rw [if_neg (Nat.succ_ne_zero z).symm, if_pos rfl]
    by_cases e : 0 = a
    · rw [if_pos e, if_pos ⟨Nat.le_of_eq e.symm, Nat.zero_le _⟩, hw']; rfl
    · rw [if_neg e, if_neg (fun q => e (Nat.le_zero.mp q.1).symm)]; rfl
  | succ k =>
    rw [inner]
    rcases Nat.lt_trichotomy (k + 1) a with h | h | h
    · rw [if_neg (Nat.ne_of_lt h), if_neg (Nat.ne_of_lt (Nat.lt_of_lt_of_le h (Nat.le_succ_of_le haz))), if_neg (fun q => Nat.not_le.mpr h q.1), if_neg (fun q => Nat.not_le.mpr h (Nat.le_succ_of_le q.1))]
      rfl
    · rw [if_pos h, if_neg (Nat.ne_of_lt (Nat.lt_succ_of_le (h ▸ haz))), if_pos ⟨Nat.le_of_eq h.symm, h ▸ haz⟩, if_neg (fun q => Nat.not_le.mpr (Nat.lt_of_lt_of_eq (Nat.lt_succ_self k) h) q.1), hw']
      rfl
    · rw [if_neg (Nat.ne_of_gt h)]
      have h' := Nat.le_of_lt_succ h
      rcases Nat.lt_trichotomy k z with g | g | g
      · rw [if_neg (Nat.ne_of_lt (Nat.succ_lt_succ g)), if_pos ⟨Nat.le_of_lt h, g⟩, if_pos ⟨h', Nat.le_of_lt g⟩, Int.sub_self, Int.sub_self]
      · rw [if_pos (congrArg Nat.succ g : k + 1 = z + 1), if_neg (fun q => Nat.not_succ_le_self k (Nat.le_trans q.2 (Nat.le_of_eq g.symm))), if_pos ⟨h', Nat.le_of_eq g⟩, hw']
        rfl
      · rw [if_neg (Nat.ne_of_gt (Nat.succ_lt_succ g)), if_neg (fun q => Nat.not_le.mpr (Nat.lt_succ_of_lt g) q.2), if_neg (fun q => Nat.not_le.mpr g q.2)]
        rfl
theorem lin4 {x y A B : Int} {p q u v : Nat} (h0 : x - y = (p : Int) - (q : Int)) (D : A - B = (u : Int) - (v : Int)) : x + A - (y + B) = ((p + u : Nat) : Int) - ((q + v : Nat) : Int) := by omega
theorem diff_step {sol : List Nat} (hs : sol.Pairwise (· < ·)) {pre : List Stroke} {be : List Int × List Int} (st : Stroke) (h : DiffOk sol (levels pre) be) : DiffOk sol (levels (pre ++ [st])) (stepBE sol be st) := by
  obtain ⟨f, l, wd⟩ := st
  have hl := stepBE_len sol be (f, l, wd)
  refine ⟨hl.1.trans h.1, hl.2.trans h.2.1, fun j hj => ?_⟩
  have h0 := h.2.2 j hj
  have hlev : ∀ k, levels (pre ++ [(f, l, wd)]) k = levels pre k + (if f ≤ (k : Int) ∧ (k : Int) ≤ l then wd.toNat else 0) := fun k => levels_snoc pre f l wd k
  unfold stepBE
  by_cases c : (insOf sol f l) = [] ∨ wd ≤ 0
  · rw [if_pos c, h0]
    have same : ∀ i, LvN sol (levels (pre ++ [(f, l, wd)])) i = LvN sol (levels pre) i := fun i => by
      unfold LvN
      by_cases hi : i < sol.length
      · rw [if_pos hi, if_pos hi, hlev]
        rcases c with c | c
        · have : ¬ (f ≤ ((sol.getD i 0 : Nat) : Int) ∧ ((sol.getD i 0 : Nat) : Int) ≤ l) := fun q => by
            have : i ∈ insOf sol f l := by
              unfold insOf
              rw [List.mem_filter, List.mem_range]
              refine ⟨hi, ?_⟩
              unfold tstOf
              rw [Bool.and_eq_true, decide_eq_true_eq, decide_eq_true_eq, natsI_getD]
              exact q
            rw [c] at this; cases this
          rw [if_neg this, Nat.add_zero]
        · have : wd.toNat = 0 := Int.toNat_of_nonpos c
          rw [this]; split <;> rfl
      · rw [if_neg hi, if_neg hi]
    unfold LpN
    rw [same]
    split
    · rfl
    · rw [same]
  · rw [if_neg c]
    have c1 : insOf sol f l ≠ [] := fun e => c (.inl e)
    have c2 : ¬ wd ≤ 0 := fun e => c (.inr e)
    have hp : 0 < (insOf sol f l).length := List.length_pos_iff.mpr c1
    have b1 := insOf_lt (getD_mem (l := insOf sol f l) (k := 0) hp)
    have b2 := insOf_lt (getD_mem (l := insOf sol f l) (k := (insOf sol f l).length - 1) (Nat.sub_lt hp Nat.one_pos))
    have b3 := sorted_at (ins_sorted sol f l) (Nat.zero_le ((insOf sol f l).length - 1)) (Nat.sub_lt hp Nat.one_pos)
    have key : ∀ i, LvN sol (levels (pre ++ [(f, l, wd)])) i = LvN sol (levels pre) i + (if (insOf sol f l).getD 0 0 ≤ i ∧ i ≤ (insOf sol f l).getD ((insOf sol f l).length - 1) 0 then wd.toNat else 0) := fun i => by
      unfold LvN
      by_cases hi : i < sol.length
      · rw [if_pos hi, if_pos hi, hlev]
        have := ins_iff hs c1 hi
        by_cases q : f ≤ ((sol.getD i 0 : Nat) : Int) ∧ ((sol.getD i 0 : Nat) : Int) ≤ l
        · rw [if_pos q, if_pos (this.mp q)]
        · rw [if_neg q, if_neg (fun e => q (this.mpr e))]
      · rw [if_neg hi, if_neg hi, if_neg (fun q => hi (Nat.lt_of_le_of_lt q.2 b2))]
    have hz : (insOf sol f l).getD ((insOf sol f l).length - 1) 0 + 1 < be.2.length := by rw [h.2.1]; exact Nat.succ_lt_succ b2
    have ha : (insOf sol f l).getD 0 0 < be.1.length := by rw [h.1]; exact Nat.lt_succ_of_lt b1
    simp only
    rw [set_add ha, set_add hz]
    have kp : LpN sol (levels (pre ++ [(f, l, wd)])) j = LpN sol (levels pre) j + (if j = 0 then 0 else if (insOf sol f l).getD 0 0 ≤ j - 1 ∧ j - 1 ≤ (insOf sol f l).getD ((insOf sol f l).length - 1) 0 then wd.toNat else 0) := by
      unfold LpN
      by_cases j0 : j = 0
      · rw [if_pos j0, if_pos j0, if_pos j0]
      · rw [if_neg j0, if_neg j0, if_neg j0, key]
    rw [key j, kp]
    exact lin4 h0 (step_fn c2 b3 j)
theorem diff_all {sol : List Nat} (hs : sol.Pairwise (· < ·)) : ∀ (sts pre : List Stroke) (be : List Int × List Int), DiffOk sol (levels pre) be → DiffOk sol (levels (pre ++ sts)) (sts.foldl (stepBE sol) be)
  | [], pre, be, h => by rw [List.append_nil]; exact h
  | st :: sts, pre, be, h => by
    have := diff_all hs sts (pre ++ [st]) _ (diff_step hs st h)
    rw [List.append_assoc] at this
    exact this
theorem be_diff {sol : List Nat} (hs : sol.Pairwise (· < ·)) (sts : List Stroke) : DiffOk sol (levels sts) (beOf sol sts) := by
  have h0 : DiffOk sol (levels []) (List.replicate (sol.length + 1) 0, List.replicate (sol.length + 1) 0) := by
    refine ⟨by simp, by simp, fun j hj => ?_⟩
    have z : ∀ i, LvN sol (levels []) i = 0 := fun i => by unfold LvN; split <;> simp [levels_nil]
    unfold LpN
    rw [z]
    split
    · simp
    · rw [z]; simp
  exact diff_all hs sts [] _ h0
theorem lev_bound {f1 l1 w1 f2 l2 w2 f3 l3 w3 f4 l4 w4 : Int} (h1 : w1 ≤ 4) (h2 : w2 ≤ 4) (h3 : w3 ≤ 4) (h4 : w4 ≤ 4) (k : Nat) : levels [(f1, l1, w1), (f2, l2, w2), (f3, l3, w3), (f4, l4, w4)] k ≤ 16 := by
  have a1 := levels_snoc [] f1 l1 w1 k
  have a2 := levels_snoc [(f1, l1, w1)] f2 l2 w2 k
  have a3 := levels_snoc [(f1, l1, w1), (f2, l2, w2)] f3 l3 w3 k
  have a4 := levels_snoc [(f1, l1, w1), (f2, l2, w2), (f3, l3, w3)] f4 l4 w4 k
  have a0 := levels_nil k
  simp only [List.nil_append, List.cons_append] at a1 a2 a3 a4
  rw [a4, a3, a2, a1, a0]
  have : ∀ (c : Prop) [Decidable c] (w : Int), w ≤ 4 → (if c then w.toNat else 0) ≤ 4 := fun c _ w h => by split <;> omega
  have x1 := this (f1 ≤ (k : Int) ∧ (k : Int) ≤ l1) w1 h1
  have x2 := this (f2 ≤ (k : Int) ∧ (k : Int) ≤ l2) w2 h2
  have x3 := this (f3 ≤ (k : Int) ∧ (k : Int) ≤ l3) w3 h3
  have x4 := this (f4 ≤ (k : Int) ∧ (k : Int) ≤ l4) w4 h4
  omega
theorem lev_sts {sts : List Stroke} (h : StsOk sts) (k : Nat) : levels sts k ≤ 16 := by
  obtain ⟨f1, l1, w1, f2, l2, w2, f3, l3, w3, f4, l4, w4, rfl, a, b, c, d⟩ := sts_four h
  exact lev_bound a.2.2.2.2 b.2.2.2.2 c.2.2.2.2 d.2.2.2.2 k
theorem lvN_le {sol : List Nat} {L : Nat → Nat} {n : Nat} (h : ∀ k, L k ≤ n) (j : Nat) : LvN sol L j ≤ n ∧ LpN sol L j ≤ n := by
  have : ∀ i, LvN sol L i ≤ n := fun i => by unfold LvN; split; exact h _; exact Nat.zero_le _
  refine ⟨this j, ?_⟩
  unfold LpN; split
  · exact Nat.zero_le _
  · exact this _
theorem brk_step {sol : List Nat} {L : Nat → Nat} {S : List Nat} {j : Nat} (hj : j ≤ sol.length) (hS : S.length = LpN sol L j) : brk S j ((sol.map L).drop j) = ((S.drop (LvN sol L j)).reverse.map fun a => (a, j)) ++ brk (S.take (LvN sol L j) ++ List.replicate (LvN sol L j - S.length) j) (j + 1) ((sol.map L).drop (j + 1)) := by
  rcases Nat.lt_or_ge j sol.length with h | h
  · have e : (sol.map L).drop j = L (sol.getD j 0) :: (sol.map L).drop (j + 1) := by
      rw [List.drop_eq_getElem_cons (by simpa using h)]
      simp [h]
    have e2 : LvN sol L j = L (sol.getD j 0) := by unfold LvN; rw [if_pos h]
    rw [e, brk, e2]
  · have e1 : LvN sol L j = 0 := by unfold LvN; rw [if_neg (by omega)]
    have d1 : (sol.map L).drop j = [] := List.drop_eq_nil_of_le (by simp; omega)
    have d2 : (sol.map L).drop (j + 1) = [] := List.drop_eq_nil_of_le (by simp; omega)
    rw [d1, d2, e1, brk]
    simp [brk]
structure StateOk (sol : List Nat) (L : Nat → Nat) (B : List Str) (j : Nat) (R : List Str) (S : List Nat) (xs : List (Int × Int)) : Prop where
  hS : S.length = LpN sol L j
  hSb : ∀ a ∈ S, a < j
  hx : ∀ x ∈ xs, Small2 x
  hbrk : (brk [] 0 (sol.map L)).map (asRows sol) = xs ++ (brk S j ((sol.map L).drop j)).map (asRows sol)
  hl : R.length = 6
  hR : ∀ k, k < 6 → atR R k = if k ∈ sol.take j then ind (L k : Int) (atR B k) else atR B k
theorem state_start {sol : List Nat} {L : Nat → Nat} {B : List Str} (hB : B.length = 6) : StateOk sol L B 0 B [] [] :=
  ⟨rfl, fun _ h => (nomatch h), fun _ h => (nomatch h), by simp, hB, fun k _ => by simp⟩
/-- what the pops have told after i of them -/
def popped (sol S : List Nat) (l j i : Nat) : List (Int × Int) := ((S.drop l).reverse.take i).map fun a => asRows sol (a, j)
theorem popped_all (sol S : List Nat) (l j : Nat) : popped sol S l j (S.length - l) = ((S.drop l).reverse.map fun a => (a, j)).map (asRows sol) := by
  unfold popped
  rw [List.take_of_length_le (by simp), List.map_map]
  rfl
theorem popped_snoc {sol S : List Nat} {l j i : Nat} (hi : i < S.length - l) : popped sol S l j (i + 1) = popped sol S l j i ++ [asRows sol (S.getD (S.length - 1 - i) 0, j)] := by
  unfold popped
  rw [List.take_add_one, List.map_append]
  have hlen : i < (S.drop l).reverse.length := by simp; omega
  rw [List.getElem?_eq_getElem hlen]
  have e : (S.drop l).reverse[i] = S.getD (S.length - 1 - i) 0 := by
    rw [List.getElem_reverse, List.getElem_drop]
    simp only [List.length_drop]
    have e2 : l + (S.length - l - 1 - i) = S.length - 1 - i := by omega
    simp only [e2]
    have : S.length - 1 - i < S.length := by omega
    simp [this]
  rw [e]; rfl
theorem small_rows {sol : List Nat} (h6 : ∀ k ∈ sol, k < 6) (x : Nat × Nat) : Small2 (asRows sol x) := by
  unfold Small2 asRows
  have key : ∀ k, sol.getD k 0 < 6 := fun k => by
    simp only [List.getD]
    cases q : sol[k]? with
    | none => decide
    | some y => exact h6 y (List.mem_of_getElem? q)
  have h1 := key (x.2 - 1)
  have h2 := key x.1
  simp only
  omega
theorem state_step {sol : List Nat} {L : Nat → Nat} {B : List Str} {j : Nat} {R R' : List Str} {S : List Nat} {xs : List (Int × Int)} (h6 : ∀ k ∈ sol, k < 6) (hj : j ≤ sol.length) (h : StateOk sol L B j R S xs) (hl : R'.length = 6)
    (hR' : ∀ k, k < 6 → atR R' k = if k ∈ sol.take (j + 1) then ind (L k : Int) (atR B k) else atR B k) :
    StateOk sol L B (j + 1) R' (S.take (LvN sol L j) ++ List.replicate (LvN sol L j - S.length) j) (xs ++ popped sol S (LvN sol L j) j (S.length - LvN sol L j)) := by
  refine ⟨?_, ?_, ?_, ?_, hl, hR'⟩
  · unfold LpN
    rw [if_neg (by omega)]
    simp; omega
  · intro a ha
    rcases List.mem_append.mp ha with ha | ha
    · exact Nat.lt_succ_of_lt (h.hSb a (List.mem_of_mem_take ha))
    · rw [List.eq_of_mem_replicate ha]; exact Nat.lt_succ_self j
  · intro x hx
    rcases List.mem_append.mp hx with hx | hx
    · exact h.hx x hx
    · obtain ⟨a, _, rfl⟩ := List.mem_map.mp hx
      exact small_rows h6 _
  · rw [h.hbrk, brk_step hj h.hS, List.map_append, ← popped_all, List.append_assoc]
theorem state_xs {sol : List Nat} {L : Nat → Nat} {B R : List Str} {j : Nat} {S : List Nat} {xs : List (Int × Int)} {n : Nat} (hb : (brk [] 0 (sol.map L)).length ≤ n) (h : StateOk sol L B j R S xs) : xs.length + (brk S j ((sol.map L).drop j)).length ≤ n := by
  have := congrArg List.length h.hbrk
  simp only [List.length_map, List.length_append] at this
  omega
theorem state_pops {sol : List Nat} {L : Nat → Nat} {B R : List Str} {j : Nat} {S : List Nat} {xs : List (Int × Int)} {n : Nat} (hb : (brk [] 0 (sol.map L)).length ≤ n) (hj : j ≤ sol.length) (h : StateOk sol L B j R S xs) : xs.length + (S.length - LvN sol L j) ≤ n := by
  have h1 := state_xs hb h
  rw [brk_step hj h.hS] at h1
  simp only [List.length_append, List.length_map, List.length_reverse, List.length_drop] at h1
  omega
theorem state_end {sol : List Nat} {L : Nat → Nat} {B R : List Str} {S : List Nat} {xs : List (Int × Int)} (h : StateOk sol L B (sol.length + 1) R S xs) : xs = (brk [] 0 (sol.map L)).map (asRows sol) := by
  have hS : S = [] := by
    have := h.hS
    unfold LpN LvN at this
    rw [if_neg (by omega), if_neg (by omega)] at this
    exact List.length_eq_zero_iff.mp this
  rw [h.hbrk, hS, List.drop_eq_nil_of_le (by simp), brk]
  simp
theorem state_page {B R : List Str} {L : Nat → Nat} {S : List Nat} {xs : List (Int × Int)} (h : StateOk (solOf B) L B ((solOf B).length + 1) R S xs) : R = rowsC B L := by
  apply List.ext_getElem?
  intro k
  by_cases hk : k < 6
  · rw [rowsC_get hk]
    have := h.hR k hk
    rw [List.take_of_length_le (by omega)] at this
    have e : R[k]? = some (atR R k) := by
      have := h.hl
      simp [atR, List.getElem?_eq_getElem (show k < R.length by omega)]
    rw [e, this]
    by_cases q : k ∈ solOf B
    · rw [if_pos q]
    · rw [if_neg q]
      have : cpl (atR B k) = [] := by
        apply Decidable.byContradiction
        intro c
        exact q (sol_mem hk (by unfold isSol; exact decide_eq_true c))
      rw [ind_blank _ this]
  · rw [List.getElem?_eq_none (by have := h.hl; omega), List.getElem?_eq_none (by rw [rowsC_len]; omega)]
theorem brk_len {L : Nat → Nat} {sol : List Nat} (hs : sol.Pairwise (· < ·)) : (brk [] 0 (sol.map L)).length = inc L 0 sol := by
  have h1 := ((brk_perm (sol.map L) [] 0).map (asRows sol)).length_eq
  simp only [pileG, List.length_nil, List.nil_append, List.length_map] at h1
  have h2 := congrArg List.length (brkG_ordG (L := L) (sol := sol) sol 0 [] rfl)
  simp only [List.length_nil, List.length_map] at h2
  have h3 := congrArg List.length (told_ordG (L := L) sol 0 hs)
  rw [stG_len] at h3
  have h4 : ∀ l : List (Int × Int), (toldOf l).length = l.length := by
    intro l
    induction l with
    | nil => rfl
    | cons a r ih => simp [toldOf, ih]
  rw [h4] at h3
  omega
theorem ind_spaces {w : Int} {x : Str} (h : cpl x ≠ []) : (⟨(spaces w).toArray⟩ : Str) ++ x = ind w x := by
  apply cpl_inj
  unfold ind indL
  rw [if_neg h]
  show (Str.cps (_ ++ _)).toList = _
  rw [Str.cps_append]
  simp [cpl]
end Mine
end

section
open PySem PySem.W PyProof.Rows PySem.Calls PySem.Builtin
set_option Elab.async false
set_option maxRecDepth 100000
namespace Mine
abbrev NJ : Str := Str.ofString "j"
/-! the second loop's rules -/
theorem lt_nil {I : Addr} : ∀ q ∈ ([] : List (Addr × Obj)), @LT.lt Nat _ q.1 I := fun _ h => nomatch h
theorem lt_cons {a I : Addr} {o : Obj} {r : List (Addr × Obj)} (h : @LT.lt Nat _ a I) (h2 : ∀ q ∈ r, @LT.lt Nat _ q.1 I) : ∀ q ∈ (a, o) :: r, @LT.lt Nat _ q.1 I := List.forall_mem_cons.mpr ⟨h, h2⟩
theorem ne_nil {I : Addr} : ∀ q ∈ ([] : List (Addr × Obj)), @Ne Nat q.1 I := fun _ h => nomatch h
theorem ne_cons {a I : Addr} {o : Obj} {r : List (Addr × Obj)} (h : @Ne Nat a I) (h2 : ∀ q ∈ r, @Ne Nat q.1 I) : ∀ q ∈ (a, o) :: r, @Ne Nat q.1 I := List.forall_mem_cons.mpr ⟨h, h2⟩
theorem ne_of {a b : Nat} (h : ¬ a = b) : @Ne Nat a b := h
def PlainJ (m₀ : Str → Option Value) (Dp Di Da : Addr) (rs : List (Addr × Obj)) (sol : List Nat) (L : Nat → Nat) (B : List Str) (j : Nat) (m : Str → Option Value) (news : List (Addr × Obj)) : Prop :=
  ∃ (u1 u2 : Option Value) (tl : Tok) (pg : List (Str × Tok)) (np : Nat) (oi : Obj) (ps : List (Addr × Obj)) (cap : Nat) (xs : List (Int × Int)) (S : List Nat),
    m = (fun y => if y = Str.ofString "turn" then u1 else if y = Str.ofString "lead" then some (.int (LpN sol L j : Int) tl) else if y = Str.ofString "j" then u2 else m₀ y) ∧
    news = (Dp, strL pg np) :: (Di, oi) :: (Da, refL ps cap) :: (rs ++ ps) ∧ StateOk sol L B j (pg.map (·.1)) S xs ∧ pg.length = 6 ∧ IsInts oi (natsI S) ∧ PairsAre ps xs ∧ (∀ p ∈ ps, @Ne Nat p.1 Dp) ∧ (∀ p ∈ ps, @Ne Nat p.1 Di) ∧ (∀ p ∈ ps, @Ne Nat p.1 Da)
theorem plain_map {m₀ : Str → Option Value} {v : Option Value} : (fun y => if y = Str.ofString "lead" then v else m₀ y) = (fun y => if y = Str.ofString "turn" then m₀ (Str.ofString "turn") else if y = Str.ofString "lead" then v else if y = Str.ofString "j" then m₀ (Str.ofString "j") else m₀ y) := by
  funext y
  by_cases h1 : y = Str.ofString "turn"
  · subst h1; rfl
  · rw [if_neg h1]
    by_cases h2 : y = Str.ofString "lead"
    · subst h2; rfl
    · rw [if_neg h2, if_neg h2]
      by_cases h3 : y = Str.ofString "j"
      · subst h3; rfl
      · rw [if_neg h3]
theorem plain_turn {h₀ h' : Heap} {Lc I Dp Di Da : Addr} {oI oi : Obj} {all rs ps : List (Addr × Obj)} {cap np j : Nat} {xs : List (Int × Int)} {sol : List Nat} {B : List Str} {S : List Nat} {L : Nat → Nat} {R : List Str} {pg' : List (Str × Tok)} {m₀ m' : Str → Option Value} {lv : Int} {tl : Tok} {s₁ : Shared} {tk : Nat}
    (hs : sol = solOf B) (F : Fr h₀ Lc h' m') (N : News h₀ Lc h' all) (hm : ∀ y, ¬ y = Str.ofString "turn" → ¬ y = Str.ofString "lead" → ¬ y = Str.ofString "j" → m' y = m₀ y) (hml : m' (Str.ofString "lead") = some (.int lv tl))
    (hst : StateOk sol L B j R S xs) (hj : j ≤ sol.length) (hpg : pg'.length = 6) (hlv : lv = (LvN sol L j : Int))
    (hR : ∀ k, k < 6 → atR (pg'.map (·.1)) k = if k ∈ sol.take (j + 1) then ind (L k : Int) (atR B k) else atR B k)
    (hoi : IsInts oi (natsI (S.take (LvN sol L j) ++ List.replicate (LvN sol L j - S.length) j))) (P : PairsAre ps (xs ++ popped sol S (LvN sol L j) j (S.length - LvN sol L j)))
    (mp : (Dp, strL pg' np) ∈ all) (mi : (Di, oi) ∈ all) (ma : (Da, refL ps cap) ∈ all) (mr : ∀ p ∈ rs, p ∈ all) (mps : ∀ p ∈ ps, p ∈ all) (mI : (I, oI) ∈ all)
    (q1 : ∀ p ∈ ps, @Ne Nat p.1 Dp) (q2 : ∀ p ∈ ps, @Ne Nat p.1 Di) (q3 : ∀ p ∈ ps, @Ne Nat p.1 Da) (q4 : ∀ p ∈ ps, @Ne Nat p.1 I)
    (e1 : ∀ q ∈ (Dp, strL pg' np) :: (Di, oi) :: (Da, refL ps cap) :: rs, @Ne Nat q.1 I) :
    TurnG h₀ Lc (PlainJ m₀ Dp Di Da rs sol L B (j + 1)) I oI s₁ .next { s₁ with heap := h', toks := tk } := by
  subst hs
  have hS' : LpN (solOf B) L (j + 1) = LvN (solOf B) L j := by
    unfold LpN; rw [if_neg (by omega), Nat.add_sub_cancel]
  have h6 : ∀ k ∈ solOf B, k < 6 := fun k hk => (sol_lt hk).1
  refine TurnG.intro ((Dp, strL pg' np) :: (Di, oi) :: (Da, refL ps cap) :: (rs ++ ps)) F N (subs_cons mp (subs_cons mi (subs_cons ma (subs_app mr mps)))) mI ?_
    ⟨m' (Str.ofString "turn"), m' (Str.ofString "j"), tl, pg', np, oi, ps, cap, _, _, ?_, rfl, state_step h6 hj hst (by rw [List.length_map]; exact hpg) hR, hpg, hoi, P, q1, q2, q3⟩
  · intro p hp
    have : p ∈ (Dp, strL pg' np) :: (Di, oi) :: (Da, refL ps cap) :: rs ∨ p ∈ ps := by
      simp only [List.mem_cons, List.mem_append] at hp ⊢
      rcases hp with h | h | h | h | h
      · exact .inl (.inl h)
      · exact .inl (.inr (.inl h))
      · exact .inl (.inr (.inr (.inl h)))
      · exact .inl (.inr (.inr (.inr h)))
      · exact .inr h
    exact this.elim (e1 p) (q4 p)
  · funext y
    by_cases h1 : y = Str.ofString "turn"
    · rw [if_pos h1, h1]
    · rw [if_neg h1]
      by_cases h2 : y = Str.ofString "lead"
      · rw [if_pos h2, h2, hml, hlv, hS']
      · rw [if_neg h2]
        by_cases h3 : y = Str.ofString "j"
        · rw [if_pos h3, h3]
        · rw [if_neg h3]; exact hm y h1 h2 h3
section
variable {prog : Program} {w : World} {A : Around} {E : Value → Shared → Prop} {s : Shared} {env : Env} {h₀ : Heap} {body : List Stmt} {Q : Flow → Shared → Prop}
theorem plain_for {r Dp Di Da : Addr} {b₀ : Int} {t₀ u₀ v₀ tl₀ : Tok} {r1 r2 r3 r4 r5 r6 r7 : Addr × Obj} {rs : List (Addr × Obj)} {ca ci np₀ : Nat} {ls : List (Str × Tok)} {sol : List Nat} {L : Nat → Nat} {m₀ : Str → Option Value}
    (hs : sol = solOf (ls.map (·.1))) (hh : A.handled = none) (hr : IsRange s.heap r 0 b₀ 1 t₀ u₀ v₀) (hb : b₀ = (sol.length : Int) + 1) (h6 : sol.length ≤ 6)
    (F : Fr h₀ env.locals s.heap (fun y => if y = Str.ofString "lead" then some (.int 0 tl₀) else m₀ y)) (N : News h₀ env.locals s.heap ((Da, listOf #[] ca) :: (Di, listOf #[] ci) :: (Dp, strL ls np₀) :: rs))
    (hls : ls.length = 6) (cr : ∀ q ∈ rs, @LT.lt Nat _ q.1 Dp) (c1 : @LT.lt Nat _ Dp Di) (c2 : @LT.lt Nat _ Di Da) (k1 : r1 ∈ rs) (k2 : r2 ∈ rs) (k3 : r3 ∈ rs) (k4 : r4 ∈ rs) (k5 : r5 ∈ rs) (k6 : r6 ∈ rs) (k7 : r7 ∈ rs)
    (turn : ∀ (j : Nat) t tl pg np oi ps cap xs S u1 u2 h tk I oI al T, j ≤ sol.length → StateOk sol L (ls.map (·.1)) j (pg.map (·.1)) S xs → pg.length = 6 → IsInts oi (natsI S) → PairsAre ps xs → (∀ p ∈ ps, @Ne Nat p.1 Dp) → (∀ p ∈ ps, @Ne Nat p.1 Di) → (∀ p ∈ ps, @Ne Nat p.1 Da) → (∀ p ∈ ps, @Ne Nat p.1 I) →
      (∀ q ∈ ps, q ∈ al) → (∀ q ∈ al, @Ne Nat q.1 Dp) → (∀ q ∈ al, @Ne Nat q.1 Di) → (∀ q ∈ al, @Ne Nat q.1 Da) → NeA Dp Di → NeA Dp Da → NeA Di Da → NeA I Dp → NeA I Di → NeA I Da →
      (∀ q ∈ [r1, r2, r3, r4, r5, r6], NeA q.1 Dp) → (∀ q ∈ [r1, r2, r3, r4, r5, r6], NeA q.1 Di) → (∀ q ∈ [r1, r2, r3, r4, r5, r6], NeA q.1 Da) →
      (∀ all' ps' cap' pg' np' oi' lv tl' h' m' tk', Fr h₀ env.locals h' m' → News h₀ env.locals h' all' → (∀ y, ¬ y = Str.ofString "turn" → ¬ y = Str.ofString "lead" → ¬ y = Str.ofString "j" → m' y = m₀ y) → m' (Str.ofString "lead") = some (.int lv tl') →
        pg'.length = 6 → lv = (LvN sol L j : Int) → (∀ k, k < 6 → atR (pg'.map (·.1)) k = if k ∈ sol.take (j + 1) then ind (L k : Int) (atR (ls.map (·.1)) k) else atR (ls.map (·.1)) k) →
        IsInts oi' (natsI (S.take (LvN sol L j) ++ List.replicate (LvN sol L j - S.length) j)) → PairsAre ps' (xs ++ popped sol S (LvN sol L j) j (S.length - LvN sol L j)) →
        (Dp, strL pg' np') ∈ all' → (Di, oi') ∈ all' → (Da, refL ps' cap') ∈ all' → (∀ q ∈ al, q ∈ all') → (∀ q ∈ ps', q ∈ all') → (I, oI) ∈ all' →
        (∀ p ∈ ps', @Ne Nat p.1 Dp) → (∀ p ∈ ps', @Ne Nat p.1 Di) → (∀ p ∈ ps', @Ne Nat p.1 Da) → (∀ p ∈ ps', @Ne Nat p.1 I) → T .next { s with heap := h', toks := tk' }) →
      Fr h₀ env.locals h (fun y => if y = Str.ofString "j" then some (.int (0 + (j : Int)) t) else if y = Str.ofString "turn" then u1 else if y = Str.ofString "lead" then some (.int (LpN sol L j : Int) tl) else if y = Str.ofString "j" then u2 else m₀ y) →
      News h₀ env.locals h ((I, oI) :: (Dp, strL pg np) :: (Di, oi) :: (Da, refL ps cap) :: r1 :: r2 :: r3 :: r4 :: r5 :: r6 :: al) →
      wpAny (model prog w) A (execs body env) (TurnX T) E { s with heap := h, toks := tk })
    (done : ∀ tl pg np ps cap xs u1 u2 h tk S al, StateOk sol L (ls.map (·.1)) (sol.length + 1) (pg.map (·.1)) S xs → pg.length = 6 → PairsAre ps xs → (∀ q ∈ rs, q ∈ al) → (∀ q ∈ ps, q ∈ al) →
      Fr h₀ env.locals h (fun y => if y = Str.ofString "turn" then u1 else if y = Str.ofString "lead" then some (.int (LpN sol L (sol.length + 1) : Int) tl) else if y = Str.ofString "j" then u2 else m₀ y) →
      News h₀ env.locals h ((Dp, strL pg np) :: (Da, refL ps cap) :: r7 :: al) → Q .next { s with heap := h, toks := tk }) :
    wpAny (model prog w) A (pyIter (.ref r)) (fun it s₂ => LoopAtV prog w A h₀ env (Str.ofString "j") body Q E it s₂) E s := by
  refine for_rangeG (sol.length + 1) (PlainJ m₀ Dp Di Da rs sol L (ls.map (·.1))) hh hr (by rw [rangeSize_nat, hb]; omega) (small_one (by omega) (by omega) (by omega) (by omega)) F (News.sub N (l' := (Dp, strL ls np₀) :: (Di, listOf #[] ci) :: (Da, refL [] ca) :: (rs ++ [])) ?_)
    ⟨_, _, tl₀, ls, np₀, _, [], ca, [], [], plain_map, rfl, state_start (by simp [hls]), hls, nil_ints, trivial, (fun _ h => nomatch h), (fun _ h => nomatch h), (fun _ h => nomatch h)⟩ ?_ ?_
  · intro p hp
    simp only [List.append_nil, List.mem_cons] at hp ⊢
    rcases hp with h | h | h | h
    · exact .inr (.inr (.inl h))
    · exact .inr (.inl h)
    · exact .inl h
    · exact .inr (.inr (.inr h))
  · rintro j t m₁ news₁ h tk I oI hj ⟨u1, u2, tl, pg, np, oi, ps, cap, xs, S, rfl, rfl, hst, hpg, hoi, hP, o1, o2, o3⟩ hlt hI F₁ N₁
    have c3 := Nat.lt_trans c1 c2
    have i1 : @LT.lt Nat _ Da I := hlt (Da, refL [] ca) (.tail _ (.tail _ (.head _)))
    have i2 := Nat.lt_trans c2 i1
    have i3 := Nat.lt_trans c1 i2
    have z1 : ∀ q ∈ rs, @Ne Nat q.1 Dp := fun q hq => Nat.ne_of_lt (cr q hq)
    have z2 : ∀ q ∈ rs, @Ne Nat q.1 Di := fun q hq => Nat.ne_of_lt (Nat.lt_trans (cr q hq) c1)
    have z3 : ∀ q ∈ rs, @Ne Nat q.1 Da := fun q hq => Nat.ne_of_lt (Nat.lt_trans (cr q hq) c3)
    have zz : ∀ {z : Nat} {a b : List (Addr × Obj)}, (∀ q ∈ a, @Ne Nat q.1 z) → (∀ q ∈ b, @Ne Nat q.1 z) → ∀ q ∈ a ++ b, @Ne Nat q.1 z := fun h1 h2 q hq => (List.mem_append.mp hq).elim (h1 q) (h2 q)
    have ks : ∀ q ∈ [r1, r2, r3, r4, r5, r6], q ∈ rs := List.forall_mem_cons.mpr ⟨k1, List.forall_mem_cons.mpr ⟨k2, List.forall_mem_cons.mpr ⟨k3, List.forall_mem_cons.mpr ⟨k4, List.forall_mem_cons.mpr ⟨k5, List.forall_mem_cons.mpr ⟨k6, fun _ h => nomatch h⟩⟩⟩⟩⟩⟩
    have oI4 : ∀ p ∈ ps, @Ne Nat p.1 I := fun p hp => hI p (.tail _ (.tail _ (.tail _ (List.mem_append_right _ hp))))
    refine turn j t tl pg np oi ps cap xs S u1 u2 h tk I oI (rs ++ ps) (TurnG h₀ env.locals (PlainJ m₀ Dp Di Da rs sol L (ls.map (·.1)) (j + 1)) I oI { s with heap := h, toks := tk }) (by omega) hst hpg hoi hP o1 o2 o3 oI4
      (fun q hq => List.mem_append_right _ hq) (zz z1 o1) (zz z2 o2) (zz z3 o3) (Nat.ne_of_lt c1) (Nat.ne_of_lt c3) (Nat.ne_of_lt c2) (Nat.ne_of_gt i3) (Nat.ne_of_gt i2) (Nat.ne_of_gt i1) (fun q hq => z1 q (ks q hq)) (fun q hq => z2 q (ks q hq)) (fun q hq => z3 q (ks q hq)) ?_ F₁ fun q hq => ?_
    · intro all' ps' cap' pg' np' oi' lv tl' h' m' tk' F' N' hm hml hpg' hlv hR hoi' P' mp mi ma mal mps mI q1 q2 q3 q4
      exact plain_turn hs F' N' hm hml hst (by omega) hpg' hlv hR hoi' P' mp mi ma (fun p hp => mal p (List.mem_append_left _ hp)) mps mI q1 q2 q3 q4 (ne_cons (hI (Dp, strL pg np) (.head _)) (ne_cons (hI (Di, oi) (.tail _ (.head _))) (ne_cons (hI (Da, refL ps cap) (.tail _ (.tail _ (.head _)))) fun p hp => hI p (.tail _ (.tail _ (.tail _ (List.mem_append_left _ hp)))))))
    · rcases List.mem_cons.mp hq with rfl | hq
      · exact N₁ _ (.head _)
      · refine N₁ _ (.tail _ ?_)
        have t3 : ∀ {z}, z ∈ rs → z ∈ (Dp, strL pg np) :: (Di, oi) :: (Da, refL ps cap) :: (rs ++ ps) := fun h => .tail _ (.tail _ (.tail _ (List.mem_append_left _ h)))
        exact subs_cons (.head _) (subs_cons (.tail _ (.head _)) (subs_cons (.tail _ (.tail _ (.head _))) (subs_cons (t3 k1) (subs_cons (t3 k2) (subs_cons (t3 k3) (subs_cons (t3 k4) (subs_cons (t3 k5) (subs_cons (t3 k6) fun z hz => .tail _ (.tail _ (.tail _ hz)))))))))) q hq
  · rintro m₁ news₁ h tk ⟨u1, u2, tl, pg, np, oi, ps, cap, xs, S, rfl, rfl, hst, hpg, hoi, hP, o1, o2, o3⟩ F₁ N₁
    exact done tl pg np ps cap xs u1 u2 h tk S (rs ++ ps) hst hpg hP (fun q hq => List.mem_append_left _ hq) (fun q hq => List.mem_append_right _ hq) F₁ (News.sub N₁ (subs_cons (.head _) (subs_cons (.tail _ (.tail _ (.head _))) (subs_cons (.tail _ (.tail _ (.tail _ (List.mem_append_left _ k7)))) fun z hz => .tail _ (.tail _ (.tail _ hz))))))
def PopJ (m₀ : Str → Option Value) (Di Da : Addr) (rs : List (Addr × Obj)) (sol S : List Nat) (l j : Nat) (xs : List (Int × Int)) (Dp I : Addr) (i : Nat) (m : Str → Option Value) (news : List (Addr × Obj)) : Prop :=
  ∃ (u : Option Value) (oi : Obj) (ps : List (Addr × Obj)) (cap : Nat), m = (fun y => if y = Str.ofString "turn" then u else m₀ y) ∧ news = (Di, oi) :: (Da, refL ps cap) :: (rs ++ ps) ∧ IsInts oi (natsI (S.take (S.length - i))) ∧ PairsAre ps (xs ++ popped sol S l j i) ∧
    (∀ p ∈ ps, @Ne Nat p.1 Dp) ∧ (∀ p ∈ ps, @Ne Nat p.1 Di) ∧ (∀ p ∈ ps, @Ne Nat p.1 Da) ∧ (∀ p ∈ ps, @Ne Nat p.1 I)
theorem off_one {m₀ : Str → Option Value} {a : Str} : m₀ = (fun y => if y = a then m₀ a else m₀ y) := by
  funext y
  by_cases h : y = a
  · rw [if_pos h, h]
  · rw [if_neg h]
theorem natsI_last (l : List Nat) : (natsI l).getLastD 0 = ((l.getLastD 0 : Nat) : Int) := by
  unfold natsI
  rw [List.getLastD_eq_getLast?, List.getLastD_eq_getLast?, List.getLast?_map]
  cases l.getLast? <;> rfl
theorem take_last {S : List Nat} {i : Nat} (h : i < S.length) : (S.take (S.length - i)).getLastD 0 = S.getD (S.length - 1 - i) 0 := by
  have e : (S.take (S.length - i)).length = S.length - i := List.length_take_of_le (Nat.sub_le _ _)
  rw [List.getLastD_eq_getLast?, List.getLast?_eq_getElem?, e, List.getElem?_take_of_lt (Nat.sub_lt (Nat.sub_pos_of_lt h) Nat.one_pos), Nat.sub_right_comm]
  rfl
theorem asRows_eq {sol S : List Nat} {i j : Nat} (hi : i < S.length) : asRows sol (S.getD (S.length - 1 - i) 0, j) = ((natsI sol).getD ((natsI (S.take (S.length - i))).getLastD 0).toNat 0, -((natsI sol).getD (0 + (j : Int) - 1).toNat 0)) := by
  rw [natsI_last, take_last hi, natsI_getD, natsI_getD]
  unfold asRows
  simp only
  rw [show (0 + (j : Int) - 1).toNat = j - 1 by omega]
  rfl
theorem pop_turn {h' : Heap} {Lc I I2 Dp Di Da D : Addr} {oI2 oi : Obj} {all rs ps : List (Addr × Obj)} {cap i l j : Nat} {xs : List (Int × Int)} {sol S : List Nat} {m₀ m' : Str → Option Value} {t1 t2 : Tok} {s₁ : Shared} {tk : Nat}
    (F : Fr h₀ Lc h' m') (N : News h₀ Lc h' all) (hm : ∀ y, ¬ y = Str.ofString "turn" → m' y = m₀ y) (hi : i < S.length - l)
    (hoi : IsInts oi (natsI (S.take (S.length - i))).dropLast) (P : PairsAre ps (xs ++ popped sol S l j i)) (mi : (Di, oi) ∈ all) (ma : (Da, listOf ((ps.map (fun p : Addr × Obj => Value.ref p.1)).toArray.push (.ref D)) (cap + 1)) ∈ all)
    (mD : (D, { cls := .type "tuple", data := .seq #[.int ((natsI sol).getD ((natsI (S.take (S.length - i))).getLastD 0).toNat 0) t1, .int (-((natsI sol).getD (0 + (j : Int) - 1).toNat 0)) t2] }) ∈ all) (mr : ∀ p ∈ rs, p ∈ all) (mp : ∀ p ∈ ps, p ∈ all) (mI : (I2, oI2) ∈ all)
    (q1 : ∀ p ∈ ps, @Ne Nat p.1 Dp) (q2 : ∀ p ∈ ps, @Ne Nat p.1 Di) (q3 : ∀ p ∈ ps, @Ne Nat p.1 Da) (q4 : ∀ p ∈ ps, @Ne Nat p.1 I) (q5 : ∀ p ∈ ps, @Ne Nat p.1 I2)
    (d1 : @Ne Nat D Dp) (d2 : @Ne Nat D Di) (d3 : @Ne Nat D Da) (d4 : @Ne Nat D I) (d5 : @Ne Nat D I2) (e1 : @Ne Nat Di I2) (e2 : @Ne Nat Da I2) (e3 : ∀ q ∈ rs, @Ne Nat q.1 I2) :
    TurnG h₀ Lc (PopJ m₀ Di Da rs sol S l j xs Dp I (i + 1)) I2 oI2 s₁ .next { s₁ with heap := h', toks := tk } := by
  have snoc : ∀ {b : Addr}, (∀ p ∈ ps, @Ne Nat p.1 b) → @Ne Nat D b → ∀ p ∈ ps ++ [(D, pairObj (asRows sol (S.getD (S.length - 1 - i) 0, j)) t1 t2)], @Ne Nat p.1 b := fun h1 h2 p hp => by
    rcases List.mem_append.mp hp with hp | hp
    · exact h1 p hp
    · rw [List.mem_singleton.mp hp]; exact h2
  have eD : ((D, { cls := .type "tuple", data := .seq #[.int ((natsI sol).getD ((natsI (S.take (S.length - i))).getLastD 0).toNat 0) t1, .int (-((natsI sol).getD (0 + (j : Int) - 1).toNat 0)) t2] }) : Addr × Obj) = (D, pairObj (asRows sol (S.getD (S.length - 1 - i) 0, j)) t1 t2) := by
    rw [asRows_eq (Nat.lt_of_lt_of_le hi (Nat.sub_le _ _))]
  have eL : refL (ps ++ [(D, pairObj (asRows sol (S.getD (S.length - 1 - i) 0, j)) t1 t2)]) (cap + 1) = listOf ((ps.map (fun p : Addr × Obj => Value.ref p.1)).toArray.push (.ref D)) (cap + 1) := by
    unfold refL; congr 1; simp
  have eT : (natsI (S.take (S.length - i))).dropLast = natsI (S.take (S.length - (i + 1))) := by
    unfold natsI
    rw [← List.map_dropLast, List.dropLast_eq_take, List.length_take_of_le (Nat.sub_le _ _), List.take_take, Nat.min_eq_left (Nat.sub_le _ _), Nat.sub_sub]
  rw [eD] at mD
  rw [← eL] at ma
  refine TurnG.intro ((Di, oi) :: (Da, refL (ps ++ [(D, pairObj (asRows sol (S.getD (S.length - 1 - i) 0, j)) t1 t2)]) (cap + 1)) :: (rs ++ (ps ++ [(D, pairObj (asRows sol (S.getD (S.length - 1 - i) 0, j)) t1 t2)]))) F N ?_ mI ?_
    ⟨m' (Str.ofString "turn"), oi, _, _, ?_, rfl, eT ▸ hoi, ?_, snoc q1 d1, snoc q2 d2, snoc q3 d3, snoc q4 d4⟩
  · refine subs_cons mi (subs_cons ma (subs_app mr (subs_app mp (subs_cons mD subs_nil))))
  · refine ne_cons e1 (ne_cons e2 fun p hp => ?_)
    rcases List.mem_append.mp hp with hp | hp
    · exact e3 p hp
    · exact snoc q5 d5 p hp
  · funext y
    by_cases h1 : y = Str.ofString "turn"
    · rw [if_pos h1, h1]
    · rw [if_neg h1]; exact hm y h1
  · rw [popped_snoc hi, ← List.append_assoc]
    exact P.snoc ⟨t1, t2, rfl⟩
theorem range_sub {n l : Nat} {b : Int} (h : b = (n : Int) - (l : Int)) : Builtin.Range.rangeSize 0 b 1 = ((n - l : Nat) : Int) := by rw [rangeSize_nat, h]; omega
theorem small_sub {n l : Nat} {b : Int} (h : b = (n : Int) - (l : Int)) (h1 : n ≤ 16) (h2 : l ≤ 16) : Builtin.Range.small 0 b 1 = true := by
  subst h; exact small_one (by omega) (by omega) (by omega) (by omega)
theorem popped_hun {sol S : List Nat} {l j i : Nat} {ps : List (Addr × Obj)} {xs : List (Int × Int)} (P : PairsAre ps (xs ++ popped sol S l j i)) (h1 : xs.length ≤ 40) (h2 : S.length ≤ 16) : ps.length ≤ 100 := by
  have e := P.length
  have h3 : (popped sol S l j i).length ≤ S.length := by
    unfold popped
    rw [List.length_map, List.length_take, List.length_reverse, List.length_drop]
    exact Nat.le_trans (Nat.min_le_right _ _) (Nat.sub_le _ _)
  rw [e, List.length_append]
  exact Nat.le_trans (Nat.add_le_add h1 (Nat.le_trans h3 h2)) (by decide)
theorem take_sub {S : List Nat} {l : Nat} : S.take (S.length - (S.length - l)) = S.take l := by
  by_cases c : l ≤ S.length
  · rw [Nat.sub_sub_self c]
  · rw [List.take_of_length_le (Nat.le_of_not_le c), Nat.sub_eq_zero_of_le (Nat.le_of_not_le c), Nat.sub_zero, List.take_length]
theorem nats_take_len {S : List Nat} {n : Nat} : (natsI (S.take (S.length - n))).length = S.length - n := by
  rw [natsI_len, List.length_take_of_le (Nat.sub_le _ _)]
theorem pops_for {r I Dp Di Da : Addr} {oI opg oi₀ : Obj} {b₀ : Int} {t₀ u₀ v₀ : Tok} {r1 r2 r3 r4 r5 r6 : Addr × Obj} {al : List (Addr × Obj)} {cap₀ : Nat} {ps₀ : List (Addr × Obj)} {xs : List (Int × Int)} {sol S : List Nat} {l j : Nat} {m₀ : Str → Option Value}
    (hh : A.handled = none) (hr : IsRange s.heap r 0 b₀ 1 t₀ u₀ v₀) (hb : b₀ = (S.length : Int) - (l : Int)) (h16 : S.length ≤ 16) (hl16 : l ≤ 16) (hx40 : xs.length ≤ 40) (hj : j ≤ sol.length) (hSb : ∀ a ∈ S, a < j)
    (F : Fr h₀ env.locals s.heap m₀) (N : News h₀ env.locals s.heap ((I, oI) :: (Dp, opg) :: (Di, oi₀) :: (Da, refL ps₀ cap₀) :: r1 :: r2 :: r3 :: r4 :: r5 :: r6 :: al)) (hps : ∀ q ∈ ps₀, q ∈ al)
    (hi : IsInts oi₀ (natsI S)) (P : PairsAre ps₀ xs) (o1 : ∀ p ∈ ps₀, @Ne Nat p.1 Dp) (o2 : ∀ p ∈ ps₀, @Ne Nat p.1 Di) (o3 : ∀ p ∈ ps₀, @Ne Nat p.1 Da) (o4 : ∀ p ∈ ps₀, @Ne Nat p.1 I)
    (aDi : ∀ q ∈ al, @Ne Nat q.1 Di) (aDa : ∀ q ∈ al, @Ne Nat q.1 Da) (d1 : NeA Dp Di) (d2 : NeA Dp Da) (d3 : NeA Di Da) (d4 : NeA I Di) (d5 : NeA I Da) (wDi : ∀ q ∈ [r1, r2, r3, r4, r5, r6], NeA q.1 Di) (wDa : ∀ q ∈ [r1, r2, r3, r4, r5, r6], NeA q.1 Da)
    (turn : ∀ (i : Nat) t oi ps cap u h tk I2 oI2 al' T, (0 < (natsI (S.take (S.length - i))).length) → ((natsI (S.take (S.length - i))).length ≤ 1000000) → 0 ≤ (natsI (S.take (S.length - i))).getLastD 0 → (natsI (S.take (S.length - i))).getLastD 0 < (sol.length : Int) → 1 ≤ j → IsInts oi (natsI (S.take (S.length - i))) → ps.length ≤ 100 →
      (∀ q ∈ al', @Ne Nat q.1 Di) → (∀ q ∈ al', @Ne Nat q.1 Da) → NeA Di Da → NeA I2 Di → NeA I2 Da → NeA r1.1 Di → NeA r1.1 Da → NeA r2.1 Di → NeA r2.1 Da →
      (∀ all' oi' D t1 t2 h' m' tk', Fr h₀ env.locals h' m' → News h₀ env.locals h' all' → (∀ y, ¬ y = Str.ofString "turn" → m' y = m₀ y) → IsInts oi' (natsI (S.take (S.length - i))).dropLast → (Di, oi') ∈ all' →
        (Da, listOf ((ps.map (fun p : Addr × Obj => Value.ref p.1)).toArray.push (.ref D)) (cap + 1)) ∈ all' →
        (D, { cls := .type "tuple", data := .seq #[.int ((natsI sol).getD ((natsI (S.take (S.length - i))).getLastD 0).toNat 0) t1, .int (-((natsI sol).getD (0 + (j : Int) - 1).toNat 0)) t2] }) ∈ all' →
        (∀ q ∈ al', q ∈ all') → (I2, oI2) ∈ all' → (∀ q ∈ al', @LT.lt Nat _ q.1 D) → (@LT.lt Nat _ Di D) → (@LT.lt Nat _ Da D) → (@LT.lt Nat _ I2 D) → T .next { s with heap := h', toks := tk' }) →
      Fr h₀ env.locals h (fun y => if y = Str.ofString "turn" then some (.int (0 + (i : Int)) t) else if y = Str.ofString "turn" then u else m₀ y) →
      News h₀ env.locals h ((I2, oI2) :: (Di, oi) :: (Da, refL ps cap) :: r1 :: r2 :: al') →
      wpAny (model prog w) A (execs body env) (TurnX T) E { s with heap := h, toks := tk })
    (done : ∀ oi ps cap u h tk al', IsInts oi (natsI (S.take l)) → PairsAre ps (xs ++ popped sol S l j (S.length - l)) → (∀ p ∈ ps, @Ne Nat p.1 Dp) → (∀ p ∈ ps, @Ne Nat p.1 Di) → (∀ p ∈ ps, @Ne Nat p.1 Da) → (∀ p ∈ ps, @Ne Nat p.1 I) →
      (∀ q ∈ al, q ∈ al') → (∀ q ∈ ps, q ∈ al') → (∀ q ∈ al', @Ne Nat q.1 Di) →
      Fr h₀ env.locals h (fun y => if y = Str.ofString "turn" then u else m₀ y) → News h₀ env.locals h ((Di, oi) :: (Da, refL ps cap) :: (I, oI) :: (Dp, opg) :: r1 :: r2 :: r3 :: r4 :: r5 :: r6 :: al') → Q .next { s with heap := h, toks := tk }) :
    wpAny (model prog w) A (pyIter (.ref r)) (fun it s₂ => LoopAtV prog w A h₀ env (Str.ofString "turn") body Q E it s₂) E s := by
  have zz : ∀ {z : Nat} {a b : List (Addr × Obj)}, (∀ q ∈ a, @Ne Nat q.1 z) → (∀ q ∈ b, @Ne Nat q.1 z) → ∀ q ∈ a ++ b, @Ne Nat q.1 z := fun h1 h2 q hq => (List.mem_append.mp hq).elim (h1 q) (h2 q)
  refine for_rangeG (S.length - l) (PopJ m₀ Di Da ((I, oI) :: (Dp, opg) :: ([r1, r2, r3, r4, r5, r6] ++ al)) sol S l j xs Dp I) hh hr (range_sub hb) (small_sub hb h16 hl16) F (News.sub N (l' := (Di, oi₀) :: (Da, refL ps₀ cap₀) :: (((I, oI) :: (Dp, opg) :: ([r1, r2, r3, r4, r5, r6] ++ al)) ++ ps₀)) ?_)
    ⟨_, oi₀, ps₀, cap₀, off_one, rfl, ?_, ?_, o1, o2, o3, o4⟩ ?_ ?_
  · exact subs_cons (.tail _ (.tail _ (.head _))) (subs_cons (.tail _ (.tail _ (.tail _ (.head _)))) (subs_app (subs_cons (.head _) (subs_cons (.tail _ (.head _)) fun p hp => .tail _ (.tail _ (.tail _ (.tail _ hp))))) fun p hp => .tail _ (.tail _ (.tail _ (.tail _ (.tail _ (.tail _ (.tail _ (.tail _ (.tail _ (.tail _ (hps _ hp))))))))))))
  · rw [Nat.sub_zero, List.take_length]; exact hi
  · have : popped sol S l j 0 = [] := by unfold popped; simp
    rw [this, List.append_nil]; exact P
  · rintro i t m₁ news₁ h tk I2 oI2 hi' ⟨u, oi, ps, cap, rfl, rfl, hoi, hP, q1, q2, q3, q4⟩ hlt hI F₁ N₁
    have hlast : S.getD (S.length - 1 - i) 0 < j := hSb _ (getD_mem (Nat.lt_of_le_of_lt (Nat.sub_le _ _) (Nat.sub_lt (Nat.zero_lt_of_lt (Nat.lt_of_lt_of_le hi' (Nat.sub_le _ _))) Nat.one_pos)))
    have hj1 : 1 ≤ j := Nat.zero_lt_of_lt hlast
    have hplen := popped_hun hP hx40 h16
    have hiS : i < S.length := Nat.lt_of_lt_of_le hi' (Nat.sub_le _ _)
    have aI : ∀ q ∈ ((I, oI) :: (Dp, opg) :: ([r1, r2, r3, r4, r5, r6] ++ al)) ++ ps, @Ne Nat q.1 I2 := fun q hq => hI q (.tail _ (.tail _ hq))
    have hDi2 : @Ne Nat Di I2 := hI (Di, oi) (.head _)
    have hDa2 : @Ne Nat Da I2 := hI (Da, refL ps cap) (.tail _ (.head _))
    refine turn i t oi ps cap u h tk I2 oI2 (((I, oI) :: (Dp, opg) :: ([r1, r2, r3, r4, r5, r6] ++ al)) ++ ps) (TurnG h₀ env.locals (PopJ m₀ Di Da ((I, oI) :: (Dp, opg) :: ([r1, r2, r3, r4, r5, r6] ++ al)) sol S l j xs Dp I (i + 1)) I2 oI2 { s with heap := h, toks := tk })
      (by rw [nats_take_len]; exact Nat.sub_pos_of_lt hiS) (by rw [nats_take_len]; exact Nat.le_trans (Nat.sub_le _ _) (Nat.le_trans h16 (by decide))) (by rw [natsI_last]; exact Int.natCast_nonneg _) (by rw [natsI_last, take_last hiS]; exact Int.ofNat_lt.mpr (Nat.lt_of_lt_of_le hlast hj)) hj1 hoi hplen
      (zz (ne_cons d4 (ne_cons d1 (zz wDi aDi))) q2) (zz (ne_cons d5 (ne_cons d2 (zz wDa aDa))) q3) d3 (Ne.symm hDi2) (Ne.symm hDa2) (wDi _ (.head _)) (wDa _ (.head _)) (wDi _ (.tail _ (.head _))) (wDa _ (.tail _ (.head _))) ?_ F₁ fun q hq => ?_
    · intro all' oi' D t1 t2 h' m' tk' F' N' hm hoi' mi ma mD mal mI lD l1 l2 l3
      have g1 : @LT.lt Nat _ I D := lD (I, oI) (.head _)
      have g2 : @LT.lt Nat _ Dp D := lD (Dp, opg) (.tail _ (.head _))
      exact pop_turn F' N' hm hi' hoi' hP mi ma mD (fun p hp => mal p (List.mem_append_left _ hp)) (fun p hp => mal p (List.mem_append_right _ hp)) mI q1 q2 q3 q4 (fun p hp => aI p (List.mem_append_right _ hp)) (Nat.ne_of_gt g2) (Nat.ne_of_gt l1) (Nat.ne_of_gt l2) (Nat.ne_of_gt g1) (Nat.ne_of_gt l3) hDi2 hDa2 (fun p hp => aI p (List.mem_append_left _ hp))
    · have : ∀ z ∈ (Di, oi) :: (Da, refL ps cap) :: r1 :: r2 :: (((I, oI) :: (Dp, opg) :: ([r1, r2, r3, r4, r5, r6] ++ al)) ++ ps), z ∈ (Di, oi) :: (Da, refL ps cap) :: (((I, oI) :: (Dp, opg) :: ([r1, r2, r3, r4, r5, r6] ++ al)) ++ ps) := by
        refine subs_cons (.head _) (subs_cons (.tail _ (.head _)) (subs_cons ?_ (subs_cons ?_ fun z hz => .tail _ (.tail _ hz))))
        · exact .tail _ (.tail _ (.tail _ (.tail _ (.head _))))
        · exact .tail _ (.tail _ (.tail _ (.tail _ (.tail _ (.head _)))))
      rcases List.mem_cons.mp hq with rfl | hq
      · exact N₁ _ (.head _)
      · exact N₁ _ (.tail _ (this q hq))
  · rintro m₁ news₁ h tk ⟨u, oi, ps, cap, rfl, rfl, hoi, hP, q1, q2, q3, q4⟩ F₁ N₁
    refine done oi ps cap u h tk (al ++ ps) ?_ hP q1 q2 q3 q4 (fun q hq => List.mem_append_left _ hq) (fun q hq => List.mem_append_right _ hq) (zz aDi q2) F₁ ?_
    · rw [take_sub] at hoi; exact hoi
    · simpa only [List.cons_append, List.nil_append, List.append_assoc] using N₁
def PushJ (m₀ : Str → Option Value) (Di : Addr) (X : List (Addr × Obj)) (T : List Nat) (j : Nat) (i : Nat) (m : Str → Option Value) (news : List (Addr × Obj)) : Prop :=
  ∃ (u : Option Value) (oi : Obj), m = (fun y => if y = Str.ofString "turn" then u else m₀ y) ∧ news = (Di, oi) :: X ∧ IsInts oi (natsI (T ++ List.replicate i j))
theorem push_turn {h' : Heap} {Lc I2 Di : Addr} {oI2 oi : Obj} {all X : List (Addr × Obj)} {i j : Nat} {T : List Nat} {m₀ m' : Str → Option Value} {s₁ : Shared} {tk : Nat}
    (F : Fr h₀ Lc h' m') (N : News h₀ Lc h' all) (hm : ∀ y, ¬ y = Str.ofString "turn" → m' y = m₀ y)
    (hoi : IsInts oi (natsI (T ++ List.replicate i j) ++ [0 + (j : Int)])) (mi : (Di, oi) ∈ all) (mr : ∀ p ∈ X, p ∈ all) (mI : (I2, oI2) ∈ all) (e1 : @Ne Nat Di I2) (e3 : ∀ q ∈ X, @Ne Nat q.1 I2) :
    TurnG h₀ Lc (PushJ m₀ Di X T j (i + 1)) I2 oI2 s₁ .next { s₁ with heap := h', toks := tk } := by
  refine TurnG.intro ((Di, oi) :: X) F N (subs_cons mi mr) mI (ne_cons e1 e3) ⟨m' (Str.ofString "turn"), oi, ?_, rfl, ?_⟩
  · funext y
    by_cases h1 : y = Str.ofString "turn"
    · rw [if_pos h1, h1]
    · rw [if_neg h1]; exact hm y h1
  · have : natsI (T ++ List.replicate (i + 1) j) = natsI (T ++ List.replicate i j) ++ [0 + (j : Int)] := by
      unfold natsI
      rw [List.replicate_succ', ← List.append_assoc, List.map_append]
      simp
    rw [this]; exact hoi
theorem pushes_for {r Di : Addr} {oi₀ : Obj} {b₀ : Int} {t₀ u₀ v₀ : Tok} {X : List (Addr × Obj)} {T : List Nat} {n l j : Nat} {m₀ : Str → Option Value}
    (hh : A.handled = none) (hr : IsRange s.heap r 0 b₀ 1 t₀ u₀ v₀) (hb : b₀ = (l : Int) - (n : Int)) (h16 : n ≤ 16) (hl16 : l ≤ 16) (hT : T.length ≤ 16)
    (F : Fr h₀ env.locals s.heap m₀) (N : News h₀ env.locals s.heap ((Di, oi₀) :: X)) (hi : IsInts oi₀ (natsI T)) (hX : ∀ q ∈ X, @Ne Nat q.1 Di)
    (turn : ∀ (i : Nat) t oi u h tk I2 oI2 al Tn, ((natsI (T ++ List.replicate i j)).length ≤ 1000000) → IsInts oi (natsI (T ++ List.replicate i j)) → NeA I2 Di → (∀ q ∈ al, @Ne Nat q.1 Di) →
      (∀ all' oi' h' m' tk', Fr h₀ env.locals h' m' → News h₀ env.locals h' all' → (∀ y, ¬ y = Str.ofString "turn" → m' y = m₀ y) → IsInts oi' (natsI (T ++ List.replicate i j) ++ [0 + (j : Int)]) → (Di, oi') ∈ all' → (∀ q ∈ al, q ∈ all') → (I2, oI2) ∈ all' → Tn .next { s with heap := h', toks := tk' }) →
      Fr h₀ env.locals h (fun y => if y = Str.ofString "turn" then some (.int (0 + (i : Int)) t) else if y = Str.ofString "turn" then u else m₀ y) → News h₀ env.locals h ((I2, oI2) :: (Di, oi) :: al) →
      wpAny (model prog w) A (execs body env) (TurnX Tn) E { s with heap := h, toks := tk })
    (done : ∀ oi u h tk, IsInts oi (natsI (T ++ List.replicate (l - n) j)) → Fr h₀ env.locals h (fun y => if y = Str.ofString "turn" then u else m₀ y) → News h₀ env.locals h ((Di, oi) :: X) → Q .next { s with heap := h, toks := tk }) :
    wpAny (model prog w) A (pyIter (.ref r)) (fun it s₂ => LoopAtV prog w A h₀ env (Str.ofString "turn") body Q E it s₂) E s := by
  refine for_rangeG (l - n) (PushJ m₀ Di X T j) hh hr (range_sub hb) (small_sub hb hl16 h16) F N ⟨_, oi₀, off_one, rfl, by simpa using hi⟩ ?_ ?_
  · rintro i t m₁ news₁ h tk I2 oI2 hi' ⟨u, oi, rfl, rfl, hoi⟩ hlt hI F₁ N₁
    exact turn i t oi u h tk I2 oI2 X (TurnG h₀ env.locals (PushJ m₀ Di X T j (i + 1)) I2 oI2 { s with heap := h, toks := tk }) (by rw [natsI_len, List.length_append, List.length_replicate]; omega) hoi (fun e => hI (Di, oi) (.head _) e.symm) hX
      (fun all' oi' h' m' tk' F' N' hm hoi' mi mal mI => push_turn F' N' hm hoi' mi mal mI (hI (Di, oi) (.head _)) (fun p hp => hI p (.tail _ hp))) F₁ N₁
  · rintro m₁ news₁ h tk ⟨u, oi, rfl, rfl, hoi⟩ F₁ N₁
    exact done oi u h tk hoi F₁ N₁
end
end Mine
end

section
open PySem PySem.W PyProof.Rows PySem.Calls PySem.Builtin
set_option Elab.async false
set_option maxRecDepth 100000
namespace Mine
section
variable {prog : Program} {w : World} {A : Around} {E : Value → Shared → Prop} {s : Shared} {h₀ : Heap} {L D : Addr} {m : Str → Option Value} {news : List (Addr × Obj)} {g : Obj → List (Addr × Obj)} {k : Int} {t u : Tok}
theorem set_strs {pg : List (Str × Tok)} {np : Nat} {x : Str} {Q : Unit → Shared → Prop} (F : Fr h₀ L s.heap m) (N : News h₀ L s.heap news) (U : UpdF D (strL pg np) news g) (h0 : 0 ≤ k) (h1 : k < pg.length) (h2 : pg.length ≤ 1000000)
    (h : ∀ h', Fr h₀ L h' m → News h₀ L h' (g (strL (pg.set k.toNat (x, u)) np)) → Q () { s with heap := h' }) :
    wpAny (model prog w) A (setItem (.ref D) (.int k t) (.str x u)) Q E s := by
  obtain ⟨pre, post, rfl, hg, a, b⟩ := U.split
  have z := N (D, strL pg np) (List.mem_append.mpr (.inr (.head _)))
  have hs : (strValues pg).toArray.size = pg.length := by simp [strValues]
  refine ki_setAt z.1 h0 (by omega) (by omega) (h _ (F.change (Heap.SameBut.update ..) z.2.1 z.2.2) ?_)
  rw [hg]
  refine ki_turn _ N a b ?_ ?_
  · apply Array.toList_inj.mp
    simp [strValues, List.map_set]
  · simp [strValues]
theorem copy_strs {pg : List (Str × Tok)} {np : Nat} {Q : Value → Shared → Prop} (F : Fr h₀ L s.heap m) (N : News h₀ L s.heap news) (hm : (D, strL pg np) ∈ news) (h2 : pg.length ≤ 1000000)
    (h : ∀ D' c h', Fr h₀ L h' m → News h₀ L h' ((D', strL pg c) :: news) → (∀ q ∈ news, q.1 < D') → Q (.ref D') { s with heap := h' }) : wpAny (model prog w) A (call (.type "list") [.ref D]) Q E s :=
  kup_listOf F N hm rfl h (by simp [strValues, sizeLine_eq]; omega)
end
theorem atR_set {pg : List (Str × Tok)} {i k : Nat} {x : Str} {t : Tok} (hi : i < pg.length) : atR ((pg.set i (x, t)).map (·.1)) k = if k = i then x else atR (pg.map (·.1)) k := by
  unfold atR
  rw [List.map_set, List.getElem?_set]
  by_cases q : i = k
  · subst q; simp [hi]
  · rw [if_neg q, if_neg (fun e => q e.symm)]
theorem rows_set {sol : List Nat} {B : List Str} (hs : sol = solOf B) {L : Nat → Nat} {j : Nat} {pg : List (Str × Tok)} {t : Tok} {S : List Nat} {xs : List (Int × Int)} {lv : Int} (h : StateOk sol L B j (pg.map (·.1)) S xs) (hj : (0 + (j : Int)) < (sol.length : Int)) (hpg : pg.length = 6) (hlv : lv = (LvN sol L j : Int)) :
    ∀ k, k < 6 → atR ((pg.set ((natsI sol).getD (0 + (j : Int)).toNat 0).toNat ((⟨(spaces lv).toArray⟩ : Str) ++ atR B ((natsI sol).getD (0 + (j : Int)).toNat 0).toNat, t)).map (·.1)) k = if k ∈ sol.take (j + 1) then ind (L k : Int) (atR B k) else atR B k := by
  subst hs
  intro k hk
  have hj' : j < (solOf B).length := by omega
  rw [natsI_getD, show (0 + (j : Int)).toNat = j by omega, Int.toNat_natCast]
  have hmem := getD_mem hj'
  have hsol := sol_lt hmem
  rw [atR_set (by omega)]
  have et : (solOf B).take (j + 1) = (solOf B).take j ++ [(solOf B).getD j 0] := by
    rw [List.take_add_one, List.getElem?_eq_getElem hj']
    simp [hj']
  rw [et]
  by_cases q : k = (solOf B).getD j 0
  · rw [if_pos q, if_pos (by rw [q]; simp)]
    have e2 : LvN (solOf B) L j = L ((solOf B).getD j 0) := by unfold LvN; rw [if_pos hj']
    rw [hlv, e2, q]
    exact ind_spaces (by have := hsol.2; unfold isSol at this; exact of_decide_eq_true this)
  · rw [if_neg q, h.hR k hk]
    by_cases q2 : k ∈ (solOf B).take j
    · rw [if_pos q2, if_pos (List.mem_append_left _ q2)]
    · rw [if_neg q2, if_neg (fun e => (List.mem_append.mp e).elim q2 (fun e => q (List.mem_singleton.mp e)))]
theorem rows_same {sol : List Nat} {B : List Str} {L : Nat → Nat} {j : Nat} {pg : List (Str × Tok)} {S : List Nat} {xs : List (Int × Int)} (h : StateOk sol L B j (pg.map (·.1)) S xs) (hj : ¬ (0 + (j : Int)) < (sol.length : Int)) :
    ∀ k, k < 6 → atR (pg.map (·.1)) k = if k ∈ sol.take (j + 1) then ind (L k : Int) (atR B k) else atR B k := by
  intro k hk
  rw [h.hR k hk, List.take_of_length_le (by omega), List.take_of_length_le (by omega)]
theorem diff_at {sol : List Nat} {L : Nat → Nat} {be : List Int × List Int} (h : DiffOk sol L be) {j : Nat} (hj : j ≤ sol.length) : be.1.getD (0 + (j : Int)).toNat 0 - be.2.getD (0 + (j : Int)).toNat 0 = (LvN sol L j : Int) - (LpN sol L j : Int) := by
  rw [show (0 + (j : Int)).toNat = j by omega]; exact h.2.2 j hj
theorem sol_at {sol : List Nat} {B : List Str} (hs : sol = solOf B) (x : Int) : 0 ≤ (natsI sol).getD x.toNat 0 ∧ (natsI sol).getD x.toNat 0 < 6 := by
  subst hs
  rw [natsI_getD]
  refine ⟨by omega, ?_⟩
  have : (solOf B).getD x.toNat 0 < 6 := by
    simp only [List.getD]
    cases q : (solOf B)[x.toNat]? with
    | none => decide
    | some y => exact (sol_lt (List.mem_of_getElem? q)).1
  omega
theorem diff_b1 {sol : List Nat} {L : Nat → Nat} {be : List Int × List Int} (h : DiffOk sol L be) : be.1.length = sol.length + 1 := h.1
theorem diff_b2 {sol : List Nat} {L : Nat → Nat} {be : List Int × List Int} (h : DiffOk sol L be) : be.2.length = sol.length + 1 := h.2.1
theorem stroke_le {f l wd : Int} (h : StrokeOk f l wd) : wd ≤ 4 := h.2.2.2.2
theorem kind_len {B : List Str} (hk : ∀ r ∈ B, r ∈ kinds5) (k : Nat) : (atR B k).length ≤ 3 := by
  unfold atR
  cases q : B[k]? with
  | none => exact Nat.le_of_ble_eq_true rfl
  | some r =>
    have := hk r (List.mem_of_getElem? q)
    simp only [kinds5, List.mem_cons, List.not_mem_nil, or_false] at this
    rcases this with rfl | rfl | rfl | rfl | rfl <;> exact Nat.le_of_ble_eq_true rfl
theorem add_fits {B : List Str} (hk : ∀ r ∈ B, r ∈ kinds5) {v : Int} (hv : v ≤ 1000) (k : Nat) : (⟨(spaces v).toArray⟩ : Str).length + (atR B k).length ≤ sizeLine := by
  have h1 := kind_len hk k
  have h2 : (⟨(spaces v).toArray⟩ : Str).length = v.toNat := by
    show ((spaces v).toArray).size = _
    unfold spaces; simp
  rw [h2, sizeLine_eq]; omega
theorem popped_len (sol S : List Nat) (l j i : Nat) : (popped sol S l j i).length ≤ S.length := by
  unfold popped
  rw [List.length_map, List.length_take, List.length_reverse, List.length_drop]; omega
theorem pops_len {ps : List (Addr × Obj)} {xs : List (Int × Int)} {sol S : List Nat} {l j i : Nat} (P : PairsAre ps (xs ++ popped sol S l j i)) (h1 : xs.length ≤ 40) (h2 : S.length ≤ 16) : ps.length ≤ 100 := by
  have := P.length
  have h3 := popped_len sol S l j i
  rw [List.length_append] at this
  omega
theorem state_le {sol : List Nat} {L : Nat → Nat} {B R : List Str} {j : Nat} {S : List Nat} {xs : List (Int × Int)} (hb : (brk [] 0 (sol.map L)).length ≤ 40) (h : StateOk sol L B j R S xs) : xs.length ≤ 40 := by
  have := state_xs hb h; omega
theorem brk_forty {sol : List Nat} {B : List Str} (hs : sol = solOf B) {f1 l1 w1 f2 l2 w2 f3 l3 w3 f4 l4 w4 : Int} (h1 : w1 ≤ 4) (h2 : w2 ≤ 4) (h3 : w3 ≤ 4) (h4 : w4 ≤ 4) : (brk [] 0 (sol.map (levels [(f1, l1, w1), (f2, l2, w2), (f3, l3, w3), (f4, l4, w4)]))).length ≤ 40 := by
  rw [hs, brk_len (sol_sorted B)]; exact inc_four h1 h2 h3 h4
theorem brk_sts {sol : List Nat} {B : List Str} (hs : sol = solOf B) {sts : List Stroke} (h : StsOk sts) : (brk [] 0 (sol.map (levels sts))).length ≤ 40 := by
  obtain ⟨f1, l1, w1, f2, l2, w2, f3, l3, w3, f4, l4, w4, rfl, a, b, c, d⟩ := sts_four h
  exact brk_forty hs (stroke_le a) (stroke_le b) (stroke_le c) (stroke_le d)
theorem subs_tail {x r : List (Addr × Obj)} {q : Addr × Obj} (h : ∀ p ∈ x, p ∈ r) : ∀ p ∈ x, p ∈ q :: r := fun p hp => .tail _ (h p hp)
theorem keep_lt {j n : Nat} (h : (0 + (j : Int)) < (n : Int)) : (0 + (j : Int)) < (n : Int) := h
theorem keep_nlt {j n : Nat} (h : ¬ (0 + (j : Int)) < (n : Int)) : ¬ (0 + (j : Int)) < (n : Int) := h
end Mine
end

section
open PySem PySem.W PyProof.Rows PySem.Calls PySem.Builtin
set_option Elab.async false
set_option maxRecDepth 100000
namespace Mine
/-! the third loop: what is told of the pairs in order -/
theorem toldOf_len : ∀ l : List (Int × Int), (toldOf l).length = l.length
  | [] => rfl
  | x :: r => by simp [toldOf, toldOf_len r]
abbrev cntOf (ys : List (Int × Int)) (i : Nat) (f : Int) : Nat := ((ys.drop i).filter fun y => y.1 == f).length
theorem told_at : ∀ (ys : List (Int × Int)) (i : Nat), i < ys.length → (toldOf ys)[i]? = some ((ys.getD i (0, 0)).1, -(ys.getD i (0, 0)).2, (cntOf ys i (ys.getD i (0, 0)).1 : Int))
  | [], i, h => absurd h (Nat.not_lt_zero i)
  | x :: r, 0, _ => rfl
  | x :: r, i + 1, h => by
    have := told_at r i (by simpa using h)
    simp only [toldOf, List.getElem?_cons_succ, this]
    rfl
theorem told_take {ys : List (Int × Int)} {i : Nat} (h : i < ys.length) : (toldOf ys).take (i + 1) = (toldOf ys).take i ++ [((ys.getD i (0, 0)).1, -(ys.getD i (0, 0)).2, (cntOf ys i (ys.getD i (0, 0)).1 : Int))] := by
  rw [List.take_add_one, told_at ys i h]; rfl
def tstP (ys : List (Int × Int)) (k : Nat) (f : Int) (i : Nat) : Bool := ((ys.drop k).getD i (0, 0)).1 == f
theorem range_filter {α : Type} (d : α) (p : α → Bool) : ∀ l : List α, ((List.range l.length).filter fun i => p (l.getD i d)).length = (l.filter p).length
  | [] => rfl
  | a :: r => by
    have ih := range_filter d p r
    rw [List.length_cons, List.range_succ_eq_map, List.filter_cons]
    have e : ((List.map Nat.succ (List.range r.length)).filter fun i => p ((a :: r).getD i d)).length = ((List.range r.length).filter fun i => p (r.getD i d)).length := by
      rw [List.filter_map, List.length_map]
      rfl
    have e0 : (a :: r).getD 0 d = a := rfl
    rw [e0, List.filter_cons]
    by_cases q : p a = true
    · rw [if_pos q, if_pos q, List.length_cons, List.length_cons, e, ih]
    · rw [if_neg q, if_neg q, e, ih]
theorem cnt_fact {R : Value → Nat → Prop} {zs : List Value} {ys : List (Int × Int)} {k n : Nat} {f : Int} (hn : n = (ys.drop k).length) (h : All2 R zs ((List.range n).filter (tstP ys k f))) : zs.length = cntOf ys k f := by
  subst hn
  rw [h.length]
  exact range_filter (0, 0) (fun y => y.1 == f) (ys.drop k)
theorem PairsAre.drop : ∀ {ps : List (Addr × Obj)} {xs : List (Int × Int)} (k : Nat), PairsAre ps xs → PairsAre (ps.drop k) (xs.drop k)
  | [], [], k, _ => by cases k <;> trivial
  | [], _ :: _, _, q => q.elim
  | _ :: _, [], _, q => q.elim
  | _ :: _, _ :: _, 0, q => q
  | _ :: ps, _ :: xs, k + 1, q => by
    rw [List.drop_succ_cons, List.drop_succ_cons]
    exact PairsAre.drop k q.2
theorem pair_item {qs : List (Addr × Obj)} {ys : List (Int × Int)} {k i : Nat} {v : Value} (P : PairsAre qs ys) (h : (((qs.drop k).map (fun p : Addr × Obj => Value.ref p.1)).toArray)[i]? = some v) :
    ∃ qa f b t1 t2, v = .ref qa ∧ (qa, tup2 (.int f t1) (.int b t2)) ∈ qs ∧ ((ys.drop k).getD i (0, 0)).1 = f := by
  have hi : i < (qs.drop k).length := by
    have := List.getElem?_eq_some_iff.mp (show ((qs.drop k).map (fun p : Addr × Obj => Value.ref p.1))[i]? = some v by simpa using h)
    simpa using this.1
  obtain ⟨p, t1, t2, e1, e2⟩ := (P.drop k).at i hi
  have ev : v = .ref p.1 := by
    have h' : ((qs.drop k).map (fun p : Addr × Obj => Value.ref p.1))[i]? = some v := by simpa using h
    rw [List.getElem?_map, e1] at h'
    exact (Option.some.inj h').symm
  refine ⟨p.1, ((ys.drop k).getD i (0, 0)).1, ((ys.drop k).getD i (0, 0)).2, t1, t2, ev, ?_, rfl⟩
  have : p ∈ qs := List.mem_of_mem_drop (List.mem_of_getElem? e1)
  have e3 : (p.1, tup2 (.int ((ys.drop k).getD i (0, 0)).1 t1) (.int ((ys.drop k).getD i (0, 0)).2 t2)) = p := Prod.ext rfl e2.symm
  rw [e3]
  exact this
theorem tstP_yes {ys : List (Int × Int)} {k i : Nat} {f g : Int} (h : ((ys.drop k).getD i (0, 0)).1 = g) (e : g = f) : tstP ys k f i = true := by
  unfold tstP; rw [h, e]; simp
theorem tstP_no {ys : List (Int × Int)} {k i : Nat} {f g : Int} (h : ((ys.drop k).getD i (0, 0)).1 = g) (e : ¬ g = f) : tstP ys k f i = false := by
  unfold tstP; rw [h]; simpa using e
theorem tstP_yes' {ys : List (Int × Int)} {k i : Nat} {f g : Int} (h : ((ys.drop k).getD i (0, 0)).1 = g) (e : (g == f) = true) : tstP ys k f i = true := tstP_yes h (by simpa using e)
theorem tstP_no' {ys : List (Int × Int)} {k i : Nat} {f g : Int} (h : ((ys.drop k).getD i (0, 0)).1 = g) (e : (g == f) = false) : tstP ys k f i = false := tstP_no h (by simpa using e)
section
variable {prog : Program} {w : World} {A : Around} {E : Value → Shared → Prop} {s : Shared} {env : Env} {h₀ : Heap} {L l : Addr} {m : Str → Option Value} {news : List (Addr × Obj)} {body : List Stmt}
theorem item_refs {qs : List (Addr × Obj)} {co i : Nat} {qa : Addr} {oq : Obj} {t : Tok} {value slice : PySem.Expr} {Q : Value → Shared → Prop} (N : News h₀ L s.heap news) (hm : (l, refL qs co) ∈ news) (hq : qs[i]? = some (qa, oq)) (h6 : i < 1000000) (h : Q (.ref qa) s)
    (hs : subscripted slice false (.ref l) (.int (0 + (i : Int)) t) = operate [.ref l, .int (0 + (i : Int)) t] (getItem (.ref l) (.int (0 + (i : Int)) t)) := by with_unfolding_all rfl) :
    wpAny (model prog w) A (subscriptTail value slice (.ref l) (.int (0 + (i : Int)) t)) Q E s := by
  have hl := News.isList N hm
  refine tail_any hl.typeIs slot_list_getitem.lookup (wpAny_getItem_list hl (by omega) (by omega) ?_ h) hs
  rw [show (0 + (i : Int)).toNat = i by omega]
  simp [hq]
theorem slice_refs {qs : List (Addr × Obj)} {co : Nat} {x : Int} {u : Tok} {value slice : PySem.Expr} {Q : Value → Shared → Prop} (F : Fr h₀ L s.heap m) (N : News h₀ L s.heap news) (hm : (l, refL qs co) ∈ news) (hx : 0 ≤ x) (hq : qs.length ≤ 1000)
    (h : ∀ D h', Fr h₀ L h' m → News h₀ L h' ((D, refL (qs.drop x.toNat) 0) :: news) → (∀ p ∈ news, p.1 < D) → Q (.ref D) { s with heap := h' })
    (hs : subscripted slice false (.ref l) (.ref s.heap.objs.size) = operate [.ref s.heap.objs.size, .ref l] (getItem (.ref l) (.ref s.heap.objs.size))) (ht : ∀ r, letTemporaryGo value (.ref l) r = pure ()) :
    wpAny (model prog w) A (subscriptTail value slice (.ref l) (.ref s.heap.objs.size)) Q E { s with heap := s.heap.push { cls := .type "slice", data := .fields #[.int x u, .none, .none] } } := by
  refine kmk_slice F N (News.isList N hm) (.int x u) .none (fun D h' F' N' l1 => h D h' F' ?_ l1) hs ht (by rw [sizeLine_eq]; simp; omega)
  rw [cutv_from hx] at N'
  rw [refL, List.map_drop]
  exact N'
theorem len_lst {ys : List Value} {c : Nat} {Q : Value → Shared → Prop} (N : News h₀ L s.heap news) (hm : (l, LCg.lst ys) ∈ news) (hc : ys.length = c) (hb : c ≤ 1000) (h : ∀ t k, Q (.int (c : Int) t) { s with toks := k }) :
    wpAny (model prog w) A (call (.builtin "len") [.ref l]) Q E s := by
  have hl : s.heap.IsList l ys.toArray := ⟨_, (N _ hm).1, rfl, _, rfl⟩
  refine len_list hl (by simp; omega) ?_
  simp only [List.size_toArray, hc]
  exact h _ _
end
def ToldJ (m₀ : Str → Option Value) (Dt cf : Addr) (rs qs : List (Addr × Obj)) (ys : List (Int × Int)) (i : Nat) (m : Str → Option Value) (news : List (Addr × Obj)) : Prop :=
  ∃ (u1 u2 vf : Option Value) (of : Obj) (ts : List (Addr × Obj)) (ct : Nat), m = (fun y => if y = Str.ofString "back" then u2 else if y = Str.ofString "k" then u1 else m₀ y) ∧ news = (Dt, refL ts ct) :: (cf, of) :: (rs ++ (qs ++ ts)) ∧
    of.data = .cell vf ∧ StepsAre ts ((toldOf ys).take i) ∧ (∀ p ∈ ts, @Ne Nat p.1 Dt) ∧ (∀ p ∈ ts, @Ne Nat p.1 cf)
section
variable {prog : Program} {w : World} {A : Around} {E : Value → Shared → Prop} {s : Shared} {env : Env} {h₀ : Heap} {body : List Stmt} {Q : Flow → Shared → Prop}
theorem told_turn {h' : Heap} {Lc I Dt cf D : Addr} {oI of : Obj} {all rs qs ts zs : List (Addr × Obj)} {ct i : Nat} {ys : List (Int × Int)} {f b : Int} {vf : Option Value} {m₀ m' : Str → Option Value} {t1 t2 t3 : Tok} {s₁ : Shared} {tk : Nat}
    (F : Fr h₀ Lc h' m') (N : News h₀ Lc h' all) (hm : ∀ y, ¬ y = Str.ofString "back" → ¬ y = Str.ofString "k" → m' y = m₀ y)
    (ht : (toldOf ys).take (i + 1) = (toldOf ys).take i ++ [(f, -b, (cntOf ys i f : Int))]) (hof : of.data = .cell vf) (hts : StepsAre ts ((toldOf ys).take i)) (hz : zs = qs ++ ts)
    (mt : (Dt, listOf ((ts.map (fun p : Addr × Obj => Value.ref p.1)).toArray.push (.ref D)) (ct + 1)) ∈ all) (mc : (cf, of) ∈ all) (mD : (D, { cls := .type "tuple", data := .seq #[.str (Str.ofString (toString f)) t1, .int (-b) t2, .int (cntOf ys i f : Int) t3] }) ∈ all)
    (mr : ∀ p ∈ rs, p ∈ all) (mz : ∀ p ∈ zs, p ∈ all) (mI : (I, oI) ∈ all) (o1 : ∀ p ∈ ts, @Ne Nat p.1 Dt) (o2 : ∀ p ∈ ts, @Ne Nat p.1 cf) (o3 : ∀ p ∈ zs, @Ne Nat p.1 I)
    (d1 : @Ne Nat D Dt) (d2 : @Ne Nat D cf) (d3 : @Ne Nat D I) (e1 : @Ne Nat Dt I) (e2 : @Ne Nat cf I) (e3 : ∀ q ∈ rs, @Ne Nat q.1 I) :
    TurnG h₀ Lc (ToldJ m₀ Dt cf rs qs ys (i + 1)) I oI s₁ .next { s₁ with heap := h', toks := tk } := by
  have snoc : ∀ {z : Addr}, (∀ p ∈ ts, @Ne Nat p.1 z) → @Ne Nat D z → ∀ p ∈ ts ++ [(D, stepObj (f, -b, (cntOf ys i f : Int)) t1 t2 t3)], @Ne Nat p.1 z := fun h1 h2 p hp => by
    rcases List.mem_append.mp hp with hp | hp
    · exact h1 p hp
    · rw [List.mem_singleton.mp hp]; exact h2
  have eL : refL (ts ++ [(D, stepObj (f, -b, (cntOf ys i f : Int)) t1 t2 t3)]) (ct + 1) = listOf ((ts.map (fun p : Addr × Obj => Value.ref p.1)).toArray.push (.ref D)) (ct + 1) := by
    unfold refL; congr 1; simp
  rw [← eL] at mt
  have mz' : ∀ p ∈ qs ++ ts, p ∈ all := hz ▸ mz
  have o3' : ∀ p ∈ qs ++ ts, @Ne Nat p.1 I := hz ▸ o3
  refine TurnG.intro ((Dt, refL (ts ++ [(D, stepObj (f, -b, (cntOf ys i f : Int)) t1 t2 t3)]) (ct + 1)) :: (cf, of) :: (rs ++ (qs ++ (ts ++ [(D, stepObj (f, -b, (cntOf ys i f : Int)) t1 t2 t3)])))) F N ?_ mI ?_
    ⟨m' (Str.ofString "k"), m' (Str.ofString "back"), vf, of, _, _, ?_, rfl, hof, ht ▸ hts.snoc ⟨t1, t2, t3, rfl⟩, snoc o1 d1, snoc o2 d2⟩
  · refine subs_cons mt (subs_cons mc (subs_app mr (subs_app (fun p hp => mz' p (List.mem_append_left _ hp)) (subs_app (fun p hp => mz' p (List.mem_append_right _ hp)) (subs_cons mD subs_nil)))))
  · refine ne_cons e1 (ne_cons e2 fun p hp => ?_)
    rcases List.mem_append.mp hp with hp | hp
    · exact e3 p hp
    · rcases List.mem_append.mp hp with hp | hp
      · exact o3' p (List.mem_append_left _ hp)
      · exact snoc (fun p hp => o3' p (List.mem_append_right _ hp)) d3 p hp
  · funext y
    by_cases h1 : y = Str.ofString "back"
    · rw [if_pos h1, h1]
    · rw [if_neg h1]
      by_cases h2 : y = Str.ofString "k"
      · rw [if_pos h2, h2]
      · rw [if_neg h2]; exact hm y h1 h2
theorem told_for {r Dt Do Dp cf : Addr} {opg of : Obj} {b₀ : Int} {t₀ u₀ v₀ : Tok} {x1 : Addr × Obj} {ct co : Nat} {qs al : List (Addr × Obj)} {ys : List (Int × Int)} {vf : Option Value} {m₀ : Str → Option Value}
    (hh : A.handled = none) (hr : IsRange s.heap r 0 b₀ 1 t₀ u₀ v₀) (hb : b₀ = (qs.length : Int)) (h64 : ys.length ≤ 40)
    (F : Fr h₀ env.locals s.heap m₀) (N : News h₀ env.locals s.heap ((Dt, listOf #[] ct) :: (Do, refL qs co) :: (Dp, opg) :: x1 :: (cf, of) :: al))
    (hqs : ∀ q ∈ qs, q ∈ al) (P : PairsAre qs ys) (hsm : ∀ x ∈ ys, Small2 x) (hof : of.data = .cell vf) (c1 : @LT.lt Nat _ cf Dp) (c2 : @LT.lt Nat _ Dp Do) (c3 : @LT.lt Nat _ Do Dt) (ad : ∀ q ∈ al, @LT.lt Nat _ q.1 Dt)
    (turn : ∀ (i : Nat) t qa f b ta tb u1 u2 vf of ts ct h tk I oI al' T, i < ys.length → qs.length = ys.length → qs[i]? = some (qa, pairObj (f, b) ta tb) → of.data = .cell vf → ts.length ≤ 40 →
      (∀ q ∈ qs, q ∈ al') → (∀ p ∈ al', @Ne Nat p.1 Dt) → (∀ p ∈ al', @Ne Nat p.1 cf) → NeA qa Dt → NeA qa cf → NeA I Dt → NeA I cf → NeA Dt cf → NeA Do Dt → NeA Do cf → -400 ≤ f → f ≤ 400 →
      (∀ all' of' vf' D t1 t2 t3 h' m' tk', Fr h₀ env.locals h' m' → News h₀ env.locals h' all' → (∀ y, ¬ y = Str.ofString "back" → ¬ y = Str.ofString "k" → m' y = m₀ y) → of'.data = .cell vf' →
        (Dt, listOf ((ts.map (fun p : Addr × Obj => Value.ref p.1)).toArray.push (.ref D)) (ct + 1)) ∈ all' → (cf, of') ∈ all' → (D, { cls := .type "tuple", data := .seq #[.str (Str.ofString (toString f)) t1, .int (-b) t2, .int (cntOf ys i f : Int) t3] }) ∈ all' →
        (∀ q ∈ al', q ∈ all') → (I, oI) ∈ all' → (@LT.lt Nat _ Dt D) → (@LT.lt Nat _ cf D) → (@LT.lt Nat _ I D) → T .next { s with heap := h', toks := tk' }) →
      Fr h₀ env.locals h (fun y => if y = Str.ofString "k" then some (.int (0 + (i : Int)) t) else if y = Str.ofString "back" then u2 else if y = Str.ofString "k" then u1 else m₀ y) →
      News h₀ env.locals h ((qa, tup2 (.int f ta) (.int b tb)) :: (I, oI) :: (Dt, refL ts ct) :: (cf, of) :: (Do, refL qs co) :: al') →
      wpAny (model prog w) A (execs body env) (TurnX T) E { s with heap := h, toks := tk })
    (done : ∀ u1 u2 ts ct h tk al', StepsAre ts (toldOf ys) → (∀ q ∈ ts, q ∈ al') → (∀ q ∈ al, ¬ @Eq Nat q.1 cf → q ∈ al') → Fr h₀ env.locals h (fun y => if y = Str.ofString "back" then u2 else if y = Str.ofString "k" then u1 else m₀ y) →
      News h₀ env.locals h ((Dt, refL ts ct) :: (Dp, opg) :: al') → Q .next { s with heap := h, toks := tk }) :
    wpAny (model prog w) A (pyIter (.ref r)) (fun it s₂ => LoopAtV prog w A h₀ env (Str.ofString "k") body Q E it s₂) E s := by
  have hlen := P.length
  have isP : ∀ q ∈ qs, ∃ x t1 t2, q.2 = pairObj x t1 t2 := fun q hq => by
    obtain ⟨i, hi, e⟩ := List.getElem_of_mem hq
    obtain ⟨p, t1, t2, e1, e2⟩ := P.at i hi
    rw [List.getElem?_eq_getElem hi, e] at e1
    rw [← Option.some.inj e1] at e2
    exact ⟨_, t1, t2, e2⟩
  have getq : ∀ q ∈ qs, s.heap.get? q.1 = some q.2 := fun q hq => (N q (.tail _ (.tail _ (.tail _ (.tail _ (.tail _ (hqs q hq))))))).1
  have oq1 : ∀ q ∈ qs, @Ne Nat q.1 Dt := fun q hq => Nat.ne_of_lt (ad q (hqs q hq))
  have oq2 : ∀ q ∈ qs, @Ne Nat q.1 cf := fun q hq e => by
    obtain ⟨x, t1, t2, ex⟩ := isP q hq
    have h1 := getq q hq
    have h2 := (N (cf, of) (.tail _ (.tail _ (.tail _ (.tail _ (.head _)))))).1
    have e' : q.1 = cf := e
    simp only at h2
    rw [e', h2] at h1
    have h3 := Option.some.inj h1
    rw [h3, ex] at hof
    cases hof
  obtain ⟨alf, hf1, hf2, hf3⟩ : ∃ alf : List (Addr × Obj), (∀ q ∈ alf, q ∈ al) ∧ (∀ q ∈ alf, @Ne Nat q.1 cf) ∧ (∀ q ∈ al, ¬ @Eq Nat q.1 cf → q ∈ alf) := by
    refine ⟨al.filter fun q => decide (¬ @Eq Nat q.1 cf), fun q hq => (List.mem_filter.mp hq).1, fun q hq => of_decide_eq_true (List.mem_filter.mp hq).2, fun q hq h => List.mem_filter.mpr ⟨hq, decide_eq_true h⟩⟩
  refine for_rangeG ys.length (ToldJ m₀ Dt cf ((Do, refL qs co) :: (Dp, opg) :: alf) qs ys) hh hr (by rw [rangeSize_nat, hb]; omega) (small_one (by omega) (by omega) (by omega) (by omega)) F (News.sub N (l' := (Dt, refL [] ct) :: (cf, of) :: (((Do, refL qs co) :: (Dp, opg) :: alf) ++ (qs ++ []))) ?_)
    ⟨_, _, vf, of, [], ct, off_two, rfl, hof, trivial, (fun _ h => nomatch h), (fun _ h => nomatch h)⟩ ?_ ?_
  · have t5 : ∀ {z}, z ∈ al → z ∈ (Dt, listOf #[] ct) :: (Do, refL qs co) :: (Dp, opg) :: x1 :: (cf, of) :: al := fun h => .tail _ (.tail _ (.tail _ (.tail _ (.tail _ h))))
    exact subs_cons (.head _) (subs_cons (.tail _ (.tail _ (.tail _ (.tail _ (.head _))))) (subs_app (subs_cons (.tail _ (.head _)) (subs_cons (.tail _ (.tail _ (.head _))) fun q hq => t5 (hf1 q hq))) (subs_app (fun q hq => t5 (hqs q hq)) subs_nil)))
  · rintro i t m₁ news₁ h tk I oI hi ⟨u1, u2, vf, of', ts, ct', rfl, rfl, hof', hts, o1, o2⟩ hlt hI F₁ N₁
    obtain ⟨p, ta, tb, e1, e2⟩ := P.at i (by omega)
    have ep : p = (p.1, pairObj ((ys.getD i (0, 0)).1, (ys.getD i (0, 0)).2) ta tb) := Prod.ext rfl e2
    have hpm : p ∈ qs := List.mem_of_getElem? e1
    have hsx := hsm (ys.getD i (0, 0)) (by simp [List.getD, hi])
    have htl := hts.length
    have htl2 : ts.length ≤ 40 := by
      rw [htl, List.length_take, toldOf_len]; omega
    have c4 := Nat.lt_trans c1 c2
    have aI : ∀ q ∈ ((Do, refL qs co) :: (Dp, opg) :: alf) ++ (qs ++ ts), @Ne Nat q.1 I := fun q hq => hI q (.tail _ (.tail _ hq))
    have iD : @Ne Nat Dt I := hI (Dt, refL ts ct') (.head _)
    have ic : @Ne Nat cf I := hI (cf, of') (.tail _ (.head _))
    have zz : ∀ {z : Nat} {a b : List (Addr × Obj)}, (∀ q ∈ a, @Ne Nat q.1 z) → (∀ q ∈ b, @Ne Nat q.1 z) → ∀ q ∈ a ++ b, @Ne Nat q.1 z := fun h1 h2 q hq => (List.mem_append.mp hq).elim (h1 q) (h2 q)
    refine turn i t p.1 (ys.getD i (0, 0)).1 (ys.getD i (0, 0)).2 ta tb u1 u2 vf of' ts ct' h tk I oI (((Do, refL qs co) :: (Dp, opg) :: alf) ++ (qs ++ ts)) (TurnG h₀ env.locals (ToldJ m₀ Dt cf ((Do, refL qs co) :: (Dp, opg) :: alf) qs ys (i + 1)) I oI { s with heap := h, toks := tk })
      hi hlen (e1.trans (congrArg some ep)) hof' htl2 (fun q hq => List.mem_append_right _ (List.mem_append_left _ hq))
      (zz (ne_cons (Nat.ne_of_lt c3) (ne_cons (Nat.ne_of_lt (Nat.lt_trans c2 c3)) fun q hq => Nat.ne_of_lt (ad q (hf1 q hq)))) (zz oq1 o1)) (zz (ne_cons (Nat.ne_of_gt c4) (ne_cons (Nat.ne_of_gt c1) hf2)) (zz oq2 o2))
      (oq1 p hpm) (oq2 p hpm) iD.symm ic.symm (Nat.ne_of_gt (Nat.lt_trans c4 c3)) (Nat.ne_of_lt c3) (Nat.ne_of_gt c4) hsx.2.2.1 hsx.2.2.2 ?_ F₁ fun q hq => ?_
    · intro all' of2 vf2 D t1 t2 t3 h' m' tk' F' N' hm hof2 mt mc mD mal mI l1 l2 l3
      exact told_turn F' N' hm (told_take hi) hof2 hts rfl mt mc mD (fun q hq => mal q (List.mem_append_left _ hq)) (fun q hq => mal q (List.mem_append_right _ hq)) mI o1 o2 (fun q hq => aI q (List.mem_append_right _ hq)) (Nat.ne_of_gt l1) (Nat.ne_of_gt l2) (Nat.ne_of_gt l3) iD ic (fun q hq => aI q (List.mem_append_left _ hq))
    · rcases List.mem_cons.mp hq with rfl | hq
      · have e3 : (p.1, tup2 (.int (ys.getD i (0, 0)).1 ta) (.int (ys.getD i (0, 0)).2 tb)) = p := Prod.ext rfl e2.symm
        refine N₁ _ ?_
        rw [e3]
        exact .tail _ (.tail _ (.tail _ (List.mem_append_right _ (List.mem_append_left _ hpm))))
      · exact N₁ q (subs_cons (.head _) (subs_cons (.tail _ (.head _)) (subs_cons (.tail _ (.tail _ (.head _))) (subs_cons (.tail _ (.tail _ (.tail _ (.head _)))) fun z hz => .tail _ (.tail _ (.tail _ hz))))) q hq)
  · rintro m₁ news₁ h tk ⟨u1, u2, vf, of', ts, ct', rfl, rfl, hof', hts, o1, o2⟩ F₁ N₁
    rw [List.take_of_length_le (by rw [toldOf_len]; exact Nat.le_refl _)] at hts
    exact done u1 u2 ts ct' h tk (alf ++ ts) hts (fun q hq => List.mem_append_right _ hq) (fun q hq h => List.mem_append_left _ (hf3 q hq h)) F₁ (News.sub N₁ (subs_cons (.head _) (subs_cons (.tail _ (.tail _ (.tail _ (.head _)))) (subs_app (fun q hq => .tail _ (.tail _ (.tail _ (.tail _ (List.mem_append_left _ hq))))) fun q hq => .tail _ (.tail _ (List.mem_append_right _ (List.mem_append_right _ hq)))))))
theorem news_front {h : Heap} {Lc : Addr} {all : List (Addr × Obj)} {p : Addr × Obj} (N : News h₀ Lc h all) (hp : p ∈ all) : News h₀ Lc h (p :: all) := fun q hq => by
  rcases List.mem_cons.mp hq with rfl | hq
  · exact N _ hp
  · exact N _ hq
theorem mem_zs {zs qs ts : List (Addr × Obj)} {p : Addr × Obj} (hz : zs = qs ++ ts) (h : p ∈ qs) : p ∈ zs := by rw [hz]; exact List.mem_append_left _ h
theorem cnt_le (ys : List (Int × Int)) (i : Nat) (f : Int) (h : ys.length ≤ 40) : cntOf ys i f ≤ 1000 := by
  have h1 := List.length_filter_le (fun y : Int × Int => y.1 == f) (ys.drop i)
  have h2 : (ys.drop i).length ≤ ys.length := by simp
  unfold cntOf
  omega
theorem cnt_fact' {R : Value → Nat → Prop} {zs : List Value} {qs : List (Addr × Obj)} {ys : List (Int × Int)} {i : Nat} {f : Int} (hl : qs.length = ys.length)
    (h : All2 R zs ((List.range ((qs.drop (0 + (i : Int)).toNat).map (fun p : Addr × Obj => Value.ref p.1)).toArray.size).filter (tstP ys (0 + (i : Int)).toNat f))) : zs.length = cntOf ys i f := by
  have := cnt_fact (ys := ys) (k := (0 + (i : Int)).toNat) (by simp [hl]) h
  rw [this, show (0 + (i : Int)).toNat = i by omega]
end
/-- what is planned: the page, and what is told -/
def PlainPost (B : List Str) (sts : List Stroke) (v : Value) (own : List (Addr × Obj)) : Prop :=
  ∃ (T Dp Dt : Addr) (pg : List (Str × Tok)) (np ct : Nat) (ts : List (Addr × Obj)), v = .ref T ∧ own = (T, tup2 (.ref Dp) (.ref Dt)) :: (Dp, strL pg np) :: (Dt, refL ts ct) :: ts ∧
    pg.map (·.1) = pageOf B sts ∧ StepsAre ts (stG (levels sts) 0 (solOf B))
theorem StepsAre.is : ∀ {ps : List (Addr × Obj)} {ss : List Step}, StepsAre ps ss → ∀ p ∈ ps, ∃ s t1 t2 t3, p.2 = stepObj s t1 t2 t3
  | [], [], _, _, h => nomatch h
  | [], _ :: _, q, _, _ => q.elim
  | _ :: _, [], q, _, _ => q.elim
  | p :: ps, s :: ss, q, r, h => by
    rcases List.mem_cons.mp h with rfl | h
    · obtain ⟨t1, t2, t3, e⟩ := q.1
      exact ⟨s, t1, t2, t3, e⟩
    · exact q.2.is r h
theorem plain_ret {w : World} {base g : Heap} {outer : List Env} {mean : ExcName → Option Value} {mg mb : Str → Option Value} {s : Shared} {a sl : Addr} {ls : List (Str × Tok)} {n m : Nat} {ps : List (Addr × Obj)} {sts : List Stroke} (hS : StrokesAre ps sts)
    (G : Gr w base g outer mean mg mb s ((a, strL ls n) :: (sl, refL ps m) :: ps))
    {L' T Dp Dt : Addr} {h' : Heap} {m' : Str → Option Value} {all ts : List (Addr × Obj)} {pg : List (Str × Tok)} {np ct tk' : Nat} {S : List Nat} {xs ys : List (Int × Int)}
    (F : Fr g L' h' m') (N : News g L' h' all) (ma : ∀ p ∈ (a, strL ls n) :: (sl, refL ps m) :: ps, p ∈ all)
    (mT : (T, { cls := .type "tuple", data := .seq #[.ref Dp, .ref Dt] }) ∈ all) (mp : (Dp, strL pg np) ∈ all) (mt : (Dt, refL ts ct) ∈ all) (mts : ∀ p ∈ ts, p ∈ all)
    (cA : ∀ q ∈ (a, strL ls n) :: (sl, refL ps m) :: ps, @LT.lt Nat _ q.1 Dp) (c7 : @LT.lt Nat _ Dp Dt) (c8 : @LT.lt Nat _ Dt T)
    (hst : StateOk (solOf (ls.map (·.1))) (levels sts) (ls.map (·.1)) ((solOf (ls.map (·.1))).length + 1) (pg.map (·.1)) S xs)
    (hp : ys.Perm xs) (ho : ys.Pairwise LexLe) (hts : StepsAre ts (toldOf ys)) :
    Ret s (PlainPost (ls.map (·.1)) sts) (.ok (.ret (.ref T))) { s with heap := h', toks := tk' } := by
  have hpage := state_page hst
  have hx := state_end hst
  rw [hx] at hp
  have htold := told_law (sol_sorted _) hp ho
  rw [htold] at hts
  refine G.ret ((T, tup2 (.ref Dp) (.ref Dt)) :: (Dp, strL pg np) :: (Dt, refL ts ct) :: ts) F N ma (subs_cons mT (subs_cons mp (subs_cons mt mts))) ?_ ⟨T, Dp, Dt, pg, np, ct, ts, rfl, rfl, by rw [hpage, page_rowsC]; rfl, hts⟩
  have low : ∀ (z : Nat), Dp ≤ z → z ∉ ((a, strL ls n) :: (sl, refL ps m) :: ps).map (fun p : Addr × Obj => p.1) := fun z hz hm => by
    have hz' : @LE.le Nat _ Dp z := hz
    obtain ⟨q, hq, e⟩ := List.mem_map.mp hm
    have hq' : @LT.lt Nat _ q.1 Dp := cA q hq
    have e' : @Eq Nat q.1 z := e
    omega
  intro p hp'
  simp only [List.mem_cons] at hp'
  rcases hp' with rfl | rfl | rfl | hp'
  · exact low _ (Nat.le_of_lt (Nat.lt_trans c7 c8))
  · exact low _ (Nat.le_refl _)
  · exact low _ (Nat.le_of_lt c7)
  · obtain ⟨st, u1, u2, u3, e⟩ := hts.is p hp'
    have hg := (N p (mts p hp')).1
    rw [e] at hg
    intro hm
    obtain ⟨q, hq, e1⟩ := List.mem_map.mp hm
    have hg2 := (N q (ma q hq)).1
    rw [e1, hg] at hg2
    have h3 := Option.some.inj hg2
    rcases List.mem_cons.mp hq with rfl | hq
    · have := congrArg Obj.cls h3; simp at this
    · rcases List.mem_cons.mp hq with rfl | hq
      · have := congrArg Obj.cls h3; simp at this
      · obtain ⟨i, hi, ei⟩ := List.getElem_of_mem hq
        obtain ⟨_, _, _, _, _, _, _, e2, _⟩ := hS.2 i q (by rw [List.getElem?_eq_getElem hi, ei])
        rw [e2] at h3
        have := congrArg Obj.data h3; simp at this
end Mine
end

section
open PySem PySem.W PyProof.Rows PySem.Calls PySem.Builtin
set_option Elab.async false
set_option maxRecDepth 100000
namespace Mine
structure PageOk (sol : List Nat) (L : Nat → Nat) (B : List Str) (j : Nat) (pg : List (Str × Tok)) : Prop where
  len : pg.length = 6
  rows : ∀ k, k < 6 → atR (pg.map (·.1)) k = if k ∈ sol.take (j + 1) then ind (L k : Int) (atR B k) else atR B k
def MidPg (h₀ : Heap) (L : Addr) (m : Str → Option Value) (I Dp : Addr) (oI : Obj) (np : Nat) (X : List (Addr × Obj)) (P : List (Str × Tok) → Prop) (s₁ : Shared) (f : Flow) (s₃ : Shared) : Prop :=
  f = .next ∧ ∃ h' tk pg', s₃ = { s₁ with heap := h', toks := tk } ∧ Fr h₀ L h' m ∧ News h₀ L h' ((I, oI) :: (Dp, strL pg' np) :: X) ∧ P pg'
theorem MidPg.intro {h₀ h' : Heap} {L : Addr} {m : Str → Option Value} {I Dp : Addr} {oI : Obj} {np tk : Nat} {X : List (Addr × Obj)} {P : List (Str × Tok) → Prop} {s₁ : Shared} {pg' : List (Str × Tok)} (F : Fr h₀ L h' m) (N : News h₀ L h' ((I, oI) :: (Dp, strL pg' np) :: X)) (hP : P pg') :
    MidPg h₀ L m I Dp oI np X P s₁ .next { s₁ with heap := h', toks := tk } := ⟨rfl, h', tk, pg', rfl, F, N, hP⟩
/-- an if that may change the page alone: its ways meet -/
theorem page_if {prog : Program} {w : World} {A : Around} {E : Value → Shared → Prop} {s : Shared} {env : Env} {h₀ : Heap} {L : Addr} {m : Str → Option Value} {I Dp : Addr} {oI : Obj} {np : Nat} {pg : List (Str × Tok)} {X : List (Addr × Obj)} {test : PySem.Expr} {body : List Stmt} {pos : Pos} {Q : Flow → Shared → Prop} (P : List (Str × Tok) → Prop)
    (F : Fr h₀ L s.heap m) (N : News h₀ L s.heap ((I, oI) :: (Dp, strL pg np) :: X))
    (h : wpAny (model prog w) A (isTrue test env (eval test env)) (fun b s₂ => if b = true then wpAny (model prog w) A (execs body env) (MidPg h₀ L m I Dp oI np X P s) E s₂ else MidPg h₀ L m I Dp oI np X P s .next s₂) E s)
    (go : ∀ h' tk pg', Fr h₀ L h' m → News h₀ L h' ((I, oI) :: (Dp, strL pg' np) :: X) → P pg' → Q .next { s with heap := h', toks := tk }) : wpAny (model prog w) A (exec (.If test body [] pos) env) Q E s := by
  have fin : ∀ f s₃, MidPg h₀ L m I Dp oI np X P s f s₃ → Q f s₃ := by
    rintro f s₃ ⟨rfl, h', tk, pg', rfl, F', N', hP⟩
    exact go h' tk pg' F' N' hP
  refine wpAny_If (wpAny_mono h (fun b s₂ hb => ?_) fun _ _ e => e)
  cases b with
  | true =>
    simp only [if_true] at hb ⊢
    exact wpAny_mono hb fin fun _ _ e => e
  | false =>
    simp only [Bool.false_eq_true, if_false] at hb ⊢
    exact wpAny_execs_nil (fin _ _ hb)
end Mine
namespace Mine
/-! address facts, out of omega's sight -/
def LtA (a b : Nat) : Prop := a < b
theorem neA1 {a b : Nat} (h : LtA a b) : a ≠ b := Nat.ne_of_lt h
theorem neA2 {a b : Nat} (h : LtA b a) : a ≠ b := Nat.ne_of_gt h
theorem lt_a {rs : List (Addr × Obj)} {x : Addr} (h : ∀ q ∈ rs, @LT.lt Nat _ q.1 x) : ∀ q ∈ rs, LtA q.1 x := h
theorem lt_up {rs : List (Addr × Obj)} {x y : Addr} (h : ∀ q ∈ rs, @LT.lt Nat _ q.1 x) (h2 : @LT.lt Nat _ x y) : ∀ q ∈ rs, LtA q.1 y := fun q hq => Nat.lt_trans (h q hq) h2
theorem lt_1 {a b : Nat} (h : a < b) : LtA a b := h
theorem lt_2 {a b c : Nat} (h : a < b) (h2 : b < c) : LtA a c := Nat.lt_trans h h2
theorem lt_t {a b c : Nat} (h : a < b) (h2 : b < c) : a < c := Nat.lt_trans h h2
theorem lt_all {X : Addr} : ∀ {l : List (Addr × Obj)}, PySem.W.AllLt X l → ∀ q ∈ l, @LT.lt Nat _ q.1 X
  | [], _, _, h => nomatch h
  | _ :: _, a, _, h => (List.mem_cons.mp h).elim (fun e => e ▸ a.1) fun h => lt_all a.2 _ h
theorem all_lt {X : Addr} {l : List (Addr × Obj)} (h : PySem.W.AllLt X l) : ∀ p ∈ l, p.1 ≠ X := fun p hp => Nat.ne_of_lt (lt_all h p hp)
theorem all_ltA {X : Addr} {l : List (Addr × Obj)} (h : ∀ q ∈ l, LtA q.1 X) : ∀ p ∈ l, p.1 ≠ X := fun p hp => Nat.ne_of_lt (h p hp)
theorem all_ltP {X : Addr} {l : List (Addr × Obj)} (h : ∀ q ∈ l, @LT.lt Nat _ q.1 X) : ∀ p ∈ l, p.1 ≠ X := fun p hp => Nat.ne_of_lt (h p hp)
theorem lt_s {X : Nat} {l : List (Addr × Obj)} (h : ∀ q ∈ l, @LT.lt Nat _ q.1 X) : ∀ q ∈ l, @LT.lt Nat _ q.1 (X + 1) := fun p hp => Nat.lt_succ_of_lt (h p hp)
end Mine
end

section
open PySem PySem.W PyProof.Rows PySem.Calls PySem.Builtin
set_option Elab.async false
set_option maxRecDepth 100000
namespace Mine
/-! the drawn strokes: the loop over the last four sums, its tuples in the ledger by name -/
theorem all_ofS {sl : Addr} {ps : List (Addr × Obj)} (h : ∀ p ∈ ps, @Ne Nat p.1 sl) : ∀ p ∈ ps, p.1 ≠ sl := h
theorem drawn_post {T b sl : Addr} {ls : List (Str × Tok)} {n cap : Nat} {ps : List (Addr × Obj)} {sts : List Stroke} (h : StrokesAre ps sts) (h4 : sts.length = 4) (h6 : ls.length = 6) (hk : ∀ r ∈ ls.map (·.1), r ∈ kinds5) :
    DrawnPost (.ref T) ((T, tup2 (.ref b) (.ref sl)) :: (b, strL ls n) :: (sl, refL ps cap) :: ps) :=
  ⟨T, b, sl, ls, n, cap, ps, sts, rfl, rfl, h6, hk, h, h4, h.ok⟩
def DrawJ (m₀ : Str → Option Value) (S : Addr) (rest : List (Addr × Obj)) (i : Nat) (m : Str → Option Value) (news : List (Addr × Obj)) : Prop :=
  ∃ (u1 u2 : Option Value) (ps : List (Addr × Obj)) (cap : Nat) (sts : List Stroke), m = (fun y => if y = Str.ofString "first" then u1 else if y = Str.ofString "x" then u2 else m₀ y) ∧ news = (S, refL ps cap) :: (rest ++ ps) ∧ StrokesAre ps sts ∧ sts.length = i ∧ (∀ p ∈ ps, @Ne Nat p.1 S)
section
variable {prog : Program} {w : World} {A : Around} {E : Value → Shared → Prop} {s : Shared} {env : Env} {h₀ : Heap} {target : PySem.Expr} {body : List Stmt} {Q : Flow → Shared → Prop}
theorem draws_for {l S : Addr} {ws : List Value} {ms : List Int} {c c0 : Nat} {m₀ : Str → Option Value} {rest : List (Addr × Obj)}
    (hh : A.handled = none) (hI : IntsAre ws ms) (hn : ms.length = 4) (F : Fr h₀ env.locals s.heap m₀) (N : News h₀ env.locals s.heap ((l, listOf ws.toArray c) :: (S, listOf #[] c0) :: rest)) (hl : @Ne Nat l S) (hr : ∀ p ∈ rest, @Ne Nat p.1 S)
    (turn : ∀ i x tx ps cap sts u1 u2 h gg dd tk os I oI all, StrokesAre ps sts → sts.length = i → ps.length ≤ 1000 → @Ne Nat S I → @Ne Nat I S → (∀ p ∈ all, @Ne Nat p.1 S) → (∀ p ∈ all, @Ne Nat p.1 I) → (∀ p ∈ (l, listOf ws.toArray c) :: rest, p ∈ all) → (∀ p ∈ ps, p ∈ all) →
      Fr h₀ env.locals h (fun y => if y = Str.ofString "first" then u1 else if y = Str.ofString "x" then u2 else m₀ y) → News h₀ env.locals h ((S, refL ps cap) :: (I, oI) :: all) →
      wpAny (model prog w) A (assign target env (.int x tx)) (fun _ s₃ => wpAny (model prog w) A (execs body env) (TurnG h₀ env.locals (DrawJ m₀ S ((l, listOf ws.toArray c) :: rest) (i + 1)) I oI { heap := h, gens := gg, drawn := dd, toks := tk, os := os }) E s₃) E { heap := h, gens := gg, drawn := dd, toks := tk, os := os })
    (done : ∀ ps cap sts u1 u2 h tk, StrokesAre ps sts → sts.length = 4 → (∀ p ∈ ps, @Ne Nat p.1 S) → Fr h₀ env.locals h (fun y => if y = Str.ofString "first" then u1 else if y = Str.ofString "x" then u2 else m₀ y) →
      News h₀ env.locals h ((S, refL ps cap) :: (l, listOf ws.toArray c) :: (rest ++ ps)) → Q .next { s with heap := h, toks := tk }) :
    wpAny (model prog w) A (pyIter (.ref l)) (fun it s₂ => LoopAtT prog w A h₀ env target body Q E it s₂) E s := by
  have N2 : News h₀ env.locals s.heap ((S, refL [] c0) :: (((l, listOf ws.toArray c) :: rest) ++ [])) := News.sub N fun p hp => by
    rw [List.append_nil] at hp
    rcases List.mem_cons.mp hp with rfl | hp
    · exact .tail _ (.head _)
    · rcases List.mem_cons.mp hp with rfl | hp
      · exact .head _
      · exact .tail _ (.tail _ hp)
  refine for_listT (DrawJ m₀ S ((l, listOf ws.toArray c) :: rest)) hh (vs := ws) (nn := c) (.tail _ (.head _)) F N2 ⟨_, _, [], c0, [], off_two, rfl, strokes_nil, rfl, fun _ h => nomatch h⟩ ?_ ?_ ?_
  · rintro i m nx ⟨_, _, ps, _, _, _, rfl, _⟩
    simp
  · rintro i v m₁ news₁ h gg dd tk os I oI hv ⟨u1, u2, ps, cap, sts, rfl, rfl, hd, hdl, hps⟩ hI' hne F₁ N₁
    obtain ⟨x, tx, rfl⟩ := ints_all hI v (List.mem_of_getElem? hv)
    have h4 : ws.length = 4 := hI.length.trans hn
    have hi := (List.getElem?_eq_some_iff.mp hv).1
    have hd1 := hd.1
    refine turn i x tx ps cap sts u1 u2 h gg dd tk os I oI (((l, listOf ws.toArray c) :: rest) ++ ps) hd hdl (by omega) (hne _ (.head _)) (fun e => hne _ (.head _) e.symm) (fun p hp => ?_) (fun p hp => hne p (.tail _ hp)) (fun p hp => List.mem_append_left _ hp) (fun p hp => List.mem_append_right _ hp) F₁ (News.sub N₁ fun p hp => ?_)
    · rcases List.mem_append.mp hp with hp | hp
      · rcases List.mem_cons.mp hp with rfl | hp
        · exact hl
        · exact hr p hp
      · exact hps p hp
    · rcases List.mem_cons.mp hp with rfl | hp
      · exact .tail _ (.head _)
      · rcases List.mem_cons.mp hp with rfl | hp
        · exact .head _
        · exact .tail _ (.tail _ hp)
  · rintro m₁ news₁ h tk ⟨u1, u2, ps, cap, sts, rfl, rfl, hd, hdl, hps⟩ F₁ N₁
    rw [hI.length.trans hn] at hdl
    exact done ps cap sts u1 u2 h tk hd hdl hps F₁ N₁
end
theorem draw_turn {h₀ h' : Heap} {L S I T : Addr} {oI : Obj} {all X ps rest : List (Addr × Obj)} {cap i : Nat} {m₀ m' : Str → Option Value} {s₁ : Shared} {tk : Nat} {f l w : Int} {t1 t2 t3 : Tok}
    (F : Fr h₀ L h' m') (N : News h₀ L h' X) (hm : ∀ y, ¬ y = Str.ofString "first" → ¬ y = Str.ofString "x" → m' y = m₀ y) {sts : List Stroke} (hd : StrokesAre ps sts) (hdl : sts.length = i) (ok : StrokeOk f l w)
    (mS : (S, listOf ((ps.map (fun p : Addr × Obj => Value.ref p.1)).toArray.push (.ref T)) (cap + 1)) ∈ X) (mT : (T, tup3 (.int f t1) (.int l t2) (.int w t3)) ∈ X) (mI : (I, oI) ∈ X) (ma : ∀ p ∈ all, p ∈ X)
    (hr : ∀ p ∈ rest, p ∈ all) (hp : ∀ p ∈ ps, p ∈ all) (aS : ∀ p ∈ all, @Ne Nat p.1 S) (aI : ∀ p ∈ all, @Ne Nat p.1 I) (hSI : @Ne Nat S I) (hTS : @Ne Nat T S) (hTI : @Ne Nat T I) :
    TurnG h₀ L (DrawJ m₀ S rest (i + 1)) I oI s₁ .next { s₁ with heap := h', toks := tk } := by
  have eL : (listOf ((ps.map (fun p : Addr × Obj => Value.ref p.1)).toArray.push (.ref T)) (cap + 1)) = refL (ps ++ [(T, tup3 (.int f t1) (.int l t2) (.int w t3))]) (cap + 1) := by
    unfold refL; congr 1; simp
  rw [eL] at mS
  have key : ∀ p ∈ (S, refL (ps ++ [(T, tup3 (.int f t1) (.int l t2) (.int w t3))]) (cap + 1)) :: (rest ++ (ps ++ [(T, tup3 (.int f t1) (.int l t2) (.int w t3))])), p ∈ X ∧ @Ne Nat p.1 I := by
    intro p hp'
    rcases List.mem_cons.mp hp' with rfl | hp'
    · exact ⟨mS, hSI⟩
    · rcases List.mem_append.mp hp' with hp' | hp'
      · exact ⟨ma _ (hr _ hp'), aI _ (hr _ hp')⟩
      · rcases List.mem_append.mp hp' with hp' | hp'
        · exact ⟨ma _ (hp _ hp'), aI _ (hp _ hp')⟩
        · rw [List.mem_singleton.mp hp']; exact ⟨mT, hTI⟩
  refine TurnG.intro _ F N (fun p hp => (key p hp).1) mI (fun p hp => (key p hp).2) ⟨m' (Str.ofString "first"), m' (Str.ofString "x"), _, cap + 1, _, ?_, rfl, strokes_snoc hd ok, by simp [hdl], fun p hp' => ?_⟩
  · funext y
    by_cases h1 : y = Str.ofString "first"
    · rw [if_pos h1, h1]
    · rw [if_neg h1]
      by_cases h2 : y = Str.ofString "x"
      · rw [if_pos h2, h2]
      · rw [if_neg h2]; exact hm y h1 h2
  · rcases List.mem_append.mp hp' with hp' | hp'
    · exact aS _ (hp _ hp')
    · rw [List.mem_singleton.mp hp']; exact hTS
theorem ints_get {zs : List Value} {rs : List Int} {i : Nat} {v : Value} (hv : zs.toArray[i]? = some v) (h : IntsAre zs rs) : ∃ n t, v = .int n t :=
  ints_all h v (List.mem_of_getElem? (by simpa using hv))
theorem ints_room {zs : List Value} {rs : List Int} (h : IntsAre zs rs) (hb : rs.length ≤ 1000) : zs.toArray.size ≤ sizeLine := by
  have := h.length
  rw [sizeLine_eq, List.size_toArray]; omega
theorem six_of {zs : List Value} {rs : List Int} {n : Nat} (h : n = zs.toArray.size) (hI : IntsAre zs rs) (hr : rs.length = 6) : n = 6 := by
  rw [h, List.size_toArray, hI.length, hr]
/-- one of the five kinds of rows -/
theorem kinds_at {prog : Program} {w : World} {A : Around} {E : Value → Shared → Prop} {s : Shared} {h₀ : Heap} {L l : Addr} {news : List (Addr × Obj)} {k : Int} {u t0 t1 t2 t3 t4 : Tok} {n : Nat} {value slice : PySem.Expr} {Q : Value → Shared → Prop} (N : News h₀ L s.heap news)
    (hm : (l, listOf #[.str (Str.ofString "") t0, .str (Str.ofString "a") t1, .str (Str.ofString " ") t2, .str (Str.ofString "b\rc") t3, .str (Str.ofString " d") t4] n) ∈ news) (h0 : 0 ≤ k) (h1 : k < 5)
    (h : ∀ r t, r ∈ kinds5 → Q (.str r t) s)
    (hs : subscripted slice false (.ref l) (.int k u) = operate [.ref l, .int k u] (getItem (.ref l) (.int k u)) := by with_unfolding_all rfl) :
    wpAny (model prog w) A (subscriptTail value slice (.ref l) (.int k u)) Q E s := by
  refine item_strs (ls := [(Str.ofString "", t0), (Str.ofString "a", t1), (Str.ofString " ", t2), (Str.ofString "b\rc", t3), (Str.ofString " d", t4)]) (n := n) N hm h0 (by simpa using h1) (by omega) (fun y t e => h y t ?_) hs
  have := List.mem_of_getElem? e
  have hm := List.mem_map_of_mem (f := fun p : Str × Tok => p.1) this
  exact hm
end Mine
end

section
open PySem PySem.W PyProof.Rows PySem.Calls
set_option Elab.async false

namespace Mine
local macro_rules | `(tactic| k_all) => `(tactic| exact all_ofS (by assumption))
theorem ten_of {n : Nat} (h : n = (10 - 0 : Int).toNat) : n = 10 := h
theorem ten_room {n : Nat} (h : n = 10) : n ≤ 16777216 := by rw [h]; decide
theorem take_six {rs : List Int} (h : rs.length = 10) : (rs.take 6).length = 6 := by rw [List.length_take, h]; rfl
theorem drop_four {rs : List Int} (h : rs.length = 10) : (rs.drop 6).length = 4 := by rw [List.length_drop, h]
theorem take_room {rs : List Int} (h : rs.length = 10) : (rs.take 6).length ≤ 1000 := by rw [take_six h]; decide
theorem at_ten {i : Nat} (h : i < (10 - 0 : Int).toNat) : 0 + (i : Int) < 10 ∧ 0 + (i : Int) < 2 ^ 63 ∧ 0 ≤ 0 + (i : Int) := by
  have : i < 10 := h
  omega
set_option maxRecDepth 100000 in
set_option maxHeartbeats 8000000 in
theorem c_drawn {w : World} {base g : Heap} {outer : List Env} {mean : ExcName → Option Value} {mg mb : Str → Option Value} {s : Shared} {a : Addr} {vs : List Value} {ns : List Int}
    (hl : s.heap.IsList a vs.toArray) (hI : IntsAre vs ns) (hlen : ns.length ≤ 63)
    (G : Gr w base g outer mean mg mb s []) :
    codeAny (model PySem.Challenge.rw_kl0455_01.row.toRowW.prog w) (At outer 390 4900) (.call (.ref 84) ⟨[.ref a], []⟩)
      (Ret s DrawnPost) s := by
  have hlg : g.IsList a vs.toArray := by
    obtain ⟨o, ho, r⟩ := hl
    exact ⟨o, G.back a o ho (by simp), r⟩
  have XS := Frag.In.keeps G.X G.st
  have X0 := G.X
  revert X0; k_fill; intro X0
  refine' enterC (binds := [(Str.ofString "script", .ref a)]) G ?k6 ?k7 ?k8 ?k9 ?kB ?kD ?_ ?c3 ?c4 ?c5; (case k6 => k_is); (case k7 => k_is); (case k8 => exact Nat.le_of_ble_eq_true rfl); (case k9 => first | exact BindsTo.of_eq rfl | exact binds_K (by k_in) rfl (by k_is) rfl rfl rfl | fail "k_enter: no rule for these arguments"); (case kB => exact kindsX rfl); (case kD => decide +kernel); (case c3 => exact rfl); (case c4 => exact rfl); (case c5 => exact rfl)
  k_whole
  clear XS
  intro L' h' tk' cells' F' N' Y' B' X' T' l1
  (try k_lt l1)
  k_cells Y'
  (try simp only [List.cons_append, List.nil_append] at N')
  (try dsimp only)
  (try k_fold)
  have hvl := hI.length
  k_with_none
  k_with "eval ListComp" => (k_here; k_dflt (refine LCg.ListComp_U (F₀ := by k_asm) (by with_unfolding_all rfl) (by decide) (by rfl) (by decide) (by rfl) ?_))
  k_with "exec For Name Subscript cons nil" => (k_here; (rename Fr _ _ _ _ => lF'q); (with_unfolding_all refine' For_invTF lF'q ?_ ?hq48_hs; (case hq48_hs => (intro _; exact rfl)); k_whole))
  k_with "TurnG next" => (k_here; ((k_dflt (refine' draw_turn ?dt_F ?dt_N ?dt_hm hd9 hdl9 (stroke_ok x9) ?dt_mS ?dt_mT ?dt_mI ?dt_ma hr9 hp9 aS9 aI9 si9 ?dt_1 ?dt_2; (case dt_F => k_asm); (case dt_N => k_asm); (case dt_hm => exact fun y h1 h2 => by simp only [if_neg h1, if_neg h2]); (case dt_mS => k_mem); (case dt_mT => k_mem); (case dt_mI => k_mem); (case dt_ma => (repeat' first | exact fun _ h => h | refine subs_tail ?_)); (case dt_1 => k_ne); (case dt_2 => k_ne)))))
  k_with "TurnG" => ((k_dflt (refine' draw_turn ?dt_F ?dt_N ?dt_hm hd9 hdl9 (stroke_ok x9) ?dt_mS ?dt_mT ?dt_mI ?dt_ma hr9 hp9 aS9 aI9 si9 ?dt_1 ?dt_2; (case dt_F => k_asm); (case dt_N => k_asm); (case dt_hm => exact fun y h1 h2 => by simp only [if_neg h1, if_neg h2]); (case dt_mS => k_mem); (case dt_mT => k_mem); (case dt_mI => k_mem); (case dt_ma => (repeat' first | exact fun _ h => h | refine subs_tail ?_)); (case dt_1 => k_ne); (case dt_2 => k_ne))))
  k_with "call builtin:list.append" => (k_here; ((with_reducible show wpAny _ _ (call (Value.builtin _) [Value.ref _, _]) _ _ _); (k_dflt (refine' append_K ?k1 ?k2 ?k3 ?_ ?z; (case k1 => k_asm); (case k2 => k_asm); (case k3 => k_upd); (case z => (rw [sizeLine_eq]; simp only [List.size_toArray, List.length_map]; omega)); k_whole); intro h' F' N'; (try k_sweep))))
  k_with "append" => ((with_reducible show wpAny _ _ (call (Value.builtin _) [Value.ref _, _]) _ _ _); (k_dflt (refine' append_K ?k1 ?k2 ?k3 ?_ ?z; (case k1 => k_asm); (case k2 => k_asm); (case k3 => k_upd); (case z => (rw [sizeLine_eq]; simp only [List.size_toArray, List.length_map]; omega)); k_whole); intro h' F' N'; (try k_sweep)))
  k_with "CompEnd" => (k_dflt (refine' LCg.CompEnd.intro ?ce_F ?ce_N _ ?ce_s off9 ?ce_S ⟨rfl, _, _, rfl, ?ce_p⟩; (case ce_F => k_asm); (case ce_N => k_asm); (case ce_s => (repeat' first | exact fun _ h => h | exact subs_nil | refine subs_cons (by k_mem) ?_)); (case ce_S => first | exact trivial | exact .inr ⟨_, (by k_mem), rfl, _, rfl⟩); (case ce_p => first | exact ⟨fmod_lo _ (by decide), fmod_hi _ (by decide)⟩ | assumption | ((have hs9 := sum_bd hyp9); (have hb9 := base_bd (0 + (i9 : Int)).toNat); (simp only [List.size_toArray] at hyl9); omega))))
  k_with "subscriptTail Name BinOp ref int" => (k_here; ((with_reducible show wpAny _ _ (subscriptTail (PySem.Expr.Name (PySem.Str.ofString "kinds") _) _ (Value.ref _) (Value.int _ _)) _ _ _); k_dflt (refine' kinds_at ?N ?m ?a ?b ?_; (case N => k_asm); (case m => k_mem); (case a => exact fmod_lo _ (by decide)); (case b => exact fmod_hi _ (by decide))); intro r9 t9 hr9))
  k_with "item" => ((with_reducible show wpAny _ _ (subscriptTail (PySem.Expr.Name (PySem.Str.ofString "kinds") _) _ (Value.ref _) (Value.int _ _)) _ _ _); k_dflt (refine' kinds_at ?N ?m ?a ?b ?_; (case N => k_asm); (case m => k_mem); (case a => exact fmod_lo _ (by decide)); (case b => exact fmod_hi _ (by decide))); intro r9 t9 hr9)
  k_with "subscriptTail Name Slice ref ref" => (k_here; ((with_reducible show wpAny _ _ (subscriptTail _ (PySem.Expr.Slice _ _ (some _) _) (Value.ref _) (Value.ref _)) _ _ _); k_dflt (refine' slice3_ints ?sl_F ?sl_N hlg hI ?sl_b ?sl_p ?sl_q ?sl_k ?sl_o ?_ ?sl_s ?sl_t; (case sl_F => k_asm); (case sl_N => k_asm); (case sl_b => omega); (case sl_p => kmk_part); (case sl_q => kmk_part); (case sl_k => kmk_part); (case sl_o => decide); (case sl_s => with_unfolding_all rfl); (case sl_t => kmk_pure)); intro D9 h9 zs9 rs9 hz9 hzl9 F9 N9 l9; (have hzv9 := hz9.length)))
  k_with "slice" => ((with_reducible show wpAny _ _ (subscriptTail _ (PySem.Expr.Slice _ _ (some _) _) (Value.ref _) (Value.ref _)) _ _ _); k_dflt (refine' slice3_ints ?sl_F ?sl_N hlg hI ?sl_b ?sl_p ?sl_q ?sl_k ?sl_o ?_ ?sl_s ?sl_t; (case sl_F => k_asm); (case sl_N => k_asm); (case sl_b => omega); (case sl_p => kmk_part); (case sl_q => kmk_part); (case sl_k => kmk_part); (case sl_o => decide); (case sl_s => with_unfolding_all rfl); (case sl_t => kmk_pure)); intro D9 h9 zs9 rs9 hz9 hzl9 F9 N9 l9; (have hzv9 := hz9.length))
  k_with "CompSrc" => (k_dflt (refine' LCg.CompSrc.ledger ?c1 ?c2 ?c3 ?c4 ?c5 ?_; (case c1 => rfl); (case c2 => k_asm); (case c3 => k_asm); (case c4 => k_mem); (case c5 => (rw [sizeLine_eq]; (try simp only [List.size_toArray]); omega)); intro g9; (refine' comp_ints (fun r => 0 ≤ r ∧ r < 1000000) ?_ ?_)); (intro i9 v9 I9 oI9 C9 oC9 D9 m9 ys9 h9 tk9 E9 hi9 hv9 hC9 hx9 F9 N9 off9 ne9); (obtain ⟨n9, t9, rfl⟩ := ints_all hz9 v9 (List.mem_of_getElem? (by simpa using hv9))); k_fold; (rotate_left; intro ys9 rs9 hy9 hyl9 hyp9; rotate_left))
  k_with "CompSrc" => (k_dflt (refine LCg.CompSrc.range (by rfl) (by k_asm) (by k_asm) (by assumption) (by decide) (by first | exact rangeSize_nat _ _ | rfl) (by exact Nat.le_of_ble_eq_true rfl) ?_; intro g9; (refine' comp_ints (fun r => 0 ≤ r ∧ r < 1000000000) ?_ ?_)); (intro i9 v9 I9 oI9 C9 oC9 D9 m9 ys9 h9 tk9 E9 hi9 hv9 hC9 hx9 F9 N9 off9 ne9); (obtain ⟨t9, rfl⟩ := hv9); (obtain ⟨hi8, hi7, hi6⟩ := at_ten hi9); k_fold; (rotate_left; intro ys9 rs9 hy9 hyl9 hyp9; (have hyl8 := ten_of hyl9); (have hyv9 := hy9.length.trans hyl8); (have hyr9 := ten_room hyl8); (have hyr8 := ten_room hyv9); clear hyl9; rotate_left))
  k_with "CompSrc" => ((with_reducible show LCg.CompSrc _ _ _ _ _ _ _ (PySem.Expr.Subscript _ _ _) _ _ _ _ _ _); (k_dflt (refine' LCg.CompSrc.ledger ?cs_1 ?cs_2 ?cs_3 ?cs_4 ?cs_5 ?_; (case cs_1 => rfl); (case cs_2 => k_asm); (case cs_3 => k_asm); (case cs_4 => k_mem); (case cs_5 => exact ints_room (by assumption) (take_room hyl8)); intro g9; (refine' comp_strs (fun r => r ∈ kinds5) ?_ ?_)); (intro i9 v9 I9 oI9 C9 oC9 D9 m9 ys9 h9 tk9 E9 hi9 hv9 hC9 hx9 F9 N9 off9 ne9); (obtain ⟨n9, t9, rfl⟩ := ints_get hv9 (by assumption)); (try k_fold); (rotate_left; intro ls9 hll9 hlp9; (replace hll9 := six_of hll9 (by assumption) (take_six hyl8)); rotate_left)))
  k_with "pyIter ref" => ((k_dflt (refine' draws_for ?df_h ?df_I ?df_n ?df_F ?df_N ?df_l ?df_r ?_ ?_; (case df_h => rfl); (case df_I => assumption); (case df_n => exact drop_four hyl8); (case df_F => k_asm); (case df_N => k_asm); (case df_l => omega); (case df_r => (repeat' first | exact ne_nil | (refine ne_cons ?sn ?_; (case sn => k_ne)))))); (intro i9 x9 tx9 ps9 cap9 sts9 u19 u29 h9 gg9 dd9 tk9 os9 I9 oI9 al9 hd9 hdl9 hq9 si9 is9 aS9 aI9 hr9 hp9 F9 N9; (have hf9 := fmod6 x9); (try k_fold)); (rotate_left; intro ps9 cap9 sts9 u19 u29 h9 tk9 hd9 hdl9 hps9 F9 N9; (simp only [List.cons_append, List.nil_append] at N9); (try k_fold); rotate_left))
  w_top off
  k_steps
  all_goals (try k_unmd)
  refine' Gr.ret G _ ?zz_F ?zz_N subs_nil ?zz_o (fun p _ q => nomatch q) (drawn_post hd9 hdl9 hll9 hlp9)
  case zz_F => k_asm
  case zz_N => k_asm
  case zz_o => repeat' first | exact fun _ h => h | exact subs_nil | (refine subs_cons ?sq ?_; (case sq => k_mem)) | refine subs_tail ?_
end Mine
end

section
open PySem PySem.W PyProof.Rows PySem.Calls PySem.Builtin
set_option Elab.async false
set_option maxRecDepth 100000
namespace Mine
/-! the rows set in by each stroke: the loop -/
abbrev setSts (B : List Str) (sts : List Stroke) : List Str := sts.foldl (fun r st => setIn r st.1 st.2.1 st.2.2) B
abbrev StkM (m₀ : Str → Option Value) (b : Addr) (u1 u2 u3 : Option Value) : Str → Option Value :=
  fun y => if y = Str.ofString "rows" then some (.ref b) else if y = Str.ofString "width" then u1 else if y = Str.ofString "last" then u2 else if y = Str.ofString "first" then u3 else m₀ y
def StkJ (m₀ : Str → Option Value) (rest : List (Addr × Obj)) (B : List Str) (sts : List Stroke) (i : Nat) (m : Str → Option Value) (news : List (Addr × Obj)) : Prop :=
  ∃ (b : Addr) (l' : List (Str × Tok)) (n' : Nat) (u1 u2 u3 : Option Value), m = StkM m₀ b u1 u2 u3 ∧ news = (b, strL l' n') :: rest ∧
    l'.map (·.1) = setSts B (sts.take i) ∧ RowsOk (20 + 4 * i) (l'.map (·.1)) ∧ (i = 0 ∨ ∀ q ∈ rest, @Ne Nat q.1 b)
theorem stkM_of {m₀ m : Str → Option Value} {b : Addr} (hr : m (Str.ofString "rows") = some (.ref b)) (ho : ∀ y, ¬ y = Str.ofString "rows" → ¬ y = Str.ofString "width" → ¬ y = Str.ofString "last" → ¬ y = Str.ofString "first" → m y = m₀ y) :
    m = StkM m₀ b (m (Str.ofString "width")) (m (Str.ofString "last")) (m (Str.ofString "first")) := by
  funext y
  unfold StkM
  by_cases h1 : y = Str.ofString "rows"
  · rw [if_pos h1, h1, hr]
  · rw [if_neg h1]
    by_cases h2 : y = Str.ofString "width"
    · rw [if_pos h2, h2]
    · rw [if_neg h2]
      by_cases h3 : y = Str.ofString "last"
      · rw [if_pos h3, h3]
      · rw [if_neg h3]
        by_cases h4 : y = Str.ofString "first"
        · rw [if_pos h4, h4]
        · rw [if_neg h4]; exact ho y h1 h2 h3 h4
section
variable {prog : Program} {w : World} {A : Around} {E : Value → Shared → Prop} {s : Shared} {env : Env} {h₀ : Heap} {target : PySem.Expr} {body : List Stmt} {Q : Flow → Shared → Prop}
theorem stroked_for {a l : Addr} {ls : List (Str × Tok)} {na nn : Nat} {ps : List (Addr × Obj)} {sts : List Stroke} {m₀ : Str → Option Value} {rest : List (Addr × Obj)}
    (hh : A.handled = none) (F : Fr h₀ env.locals s.heap m₀) (N : News h₀ env.locals s.heap rest) (hm0 : m₀ (Str.ofString "rows") = some (.ref a))
    (ha : (a, strL ls na) ∈ rest) (hl : (l, refL ps nn) ∈ rest) (hp : ∀ p ∈ ps, p ∈ rest) (hS : StrokesAre ps sts) (hst : StsOk sts) (hR : RowsOk 20 (ls.map (·.1)))
    (turn : ∀ i p f l wd t1 t2 t3 b l' n' u1 u2 u3 h gg dd tk os I oI rest', StrokeOk f l wd → sts.take (i + 1) = sts.take i ++ [(f, l, wd)] → l'.map (·.1) = setSts (ls.map (·.1)) (sts.take i) → RowsOk (20 + 4 * i) (l'.map (·.1)) → 20 + 4 * i ≤ 1000 →
      (∀ q ∈ rest, q ∈ rest') → (∀ q ∈ rest, @Ne Nat q.1 I) → Fr h₀ env.locals h (StkM m₀ b u1 u2 u3) → News h₀ env.locals h ((p, tup3 (.int f t1) (.int l t2) (.int wd t3)) :: (b, strL l' n') :: (I, oI) :: rest') →
      wpAny (model prog w) A (assign target env (.ref p)) (fun _ s₃ => wpAny (model prog w) A (execs body env) (TurnG h₀ env.locals (StkJ m₀ rest (ls.map (·.1)) sts (i + 1)) I oI { heap := h, gens := gg, drawn := dd, toks := tk, os := os }) E s₃) E { heap := h, gens := gg, drawn := dd, toks := tk, os := os })
    (done : ∀ b l' n' u1 u2 u3 h tk, l'.map (·.1) = setSts (ls.map (·.1)) sts → (∀ q ∈ rest, @Ne Nat q.1 b) → Fr h₀ env.locals h (StkM m₀ b u1 u2 u3) → News h₀ env.locals h ((b, strL l' n') :: rest) → Q .next { s with heap := h, toks := tk }) :
    wpAny (model prog w) A (pyIter (.ref l)) (fun it s₂ => LoopAtT prog w A h₀ env target body Q E it s₂) E s := by
  have N2 : News h₀ env.locals s.heap ((a, strL ls na) :: rest) := News.sub N (subs_cons ha fun _ h => h)
  refine for_listT (StkJ m₀ rest (ls.map (·.1)) sts) hh (vs := ps.map fun p : Addr × Obj => Value.ref p.1) (nn := nn) (.tail _ hl) F N2 ⟨a, ls, na, _, _, _, stkM_of hm0 (fun _ _ _ _ _ => rfl), rfl, rfl, hR, .inl rfl⟩ ?_ ?_ ?_
  · rintro i m nx ⟨_, _, _, _, _, _, _, rfl, _⟩
    exact .tail _ hl
  · rintro i v m₁ news₁ h gg dd tk os I oI hv ⟨b, l', n', u1, u2, u3, rfl, rfl, a1, a2, a3⟩ _ hI F₁ N₁
    obtain ⟨p, f, l2, wd, t1, t2, t3, rfl, hs9, hm, hok⟩ := hS.at hv
    have h4 := hst.1
    have hi : i < sts.length := by
      rcases Nat.lt_or_ge i sts.length with h | h
      · exact h
      · rw [List.getElem?_eq_none h] at hs9; cases hs9
    refine turn i p f l2 wd t1 t2 t3 b l' n' u1 u2 u3 h gg dd tk os I oI rest hok (take_next hs9) a1 a2 (by omega) (fun _ h => h) (fun q hq => hI q (.tail _ hq)) F₁ (News.sub N₁ (subs_cons (.tail _ (.tail _ (hp _ hm))) (subs_cons (.tail _ (.head _)) (subs_cons (.head _) fun _ h => .tail _ (.tail _ h)))))
  · rintro m₁ news₁ h tk ⟨b, l', n', u1, u2, u3, rfl, rfl, a1, a2, a3⟩ F₁ N₁
    rw [List.length_map, hS.1, List.take_length] at a1
    have h4 := hst.1
    refine done b l' n' u1 u2 u3 h tk a1 (a3.resolve_left fun e => ?_) F₁ N₁
    rw [List.length_map, hS.1, h4] at e; cases e
end
theorem stroked_turn {h₀ h' : Heap} {L I b9 : Addr} {oI : Obj} {X rest : List (Addr × Obj)} {i n9 : Nat} {l9 : List (Str × Tok)} {B rows : List Str} {sts : List Stroke} {m₀ m' : Str → Option Value} {s₁ : Shared} {tk : Nat} {f l w : Int}
    (F : Fr h₀ L h' m') (N : News h₀ L h' ((b9, strL l9 n9) :: X)) (hr : m' (Str.ofString "rows") = some (.ref b9)) (ho : ∀ y, ¬ y = Str.ofString "rows" → ¬ y = Str.ofString "width" → ¬ y = Str.ofString "last" → ¬ y = Str.ofString "first" → m' y = m₀ y)
    (ht : sts.take (i + 1) = sts.take i ++ [(f, l, w)]) (h1 : rows = setSts B (sts.take i)) (h2 : l9.map (·.1) = setIn rows f l w) (hR : RowsOk (20 + 4 * i + 4) (l9.map (·.1)))
    (mI : (I, oI) ∈ X) (mr : ∀ q ∈ rest, q ∈ X) (aI : ∀ q ∈ rest, @Ne Nat q.1 I) (hne : ∀ q ∈ X, q.1 ≠ b9) :
    TurnG h₀ L (StkJ m₀ rest B sts (i + 1)) I oI s₁ .next { s₁ with heap := h', toks := tk } := by
  refine TurnG.intro ((b9, strL l9 n9) :: rest) F N (subs_cons (.head _) fun q hq => .tail _ (mr q hq)) (.tail _ mI) ?_ ⟨b9, l9, n9, _, _, _, stkM_of hr ho, rfl, ?_, hR, .inr fun q hq => hne q (mr q hq)⟩
  · intro q hq
    rcases List.mem_cons.mp hq with rfl | hq
    · exact (hne _ mI).symm
    · exact aI q hq
  · rw [ht, h2, h1, setSts, setSts, List.foldl_append]; rfl
end Mine
end

section
open PySem PySem.W PyProof.Rows PySem.Calls
set_option Elab.async false

namespace Mine
set_option maxRecDepth 100000 in
set_option maxHeartbeats 8000000 in
theorem c_stroked {w : World} {base g : Heap} {outer : List Env} {mean : ExcName → Option Value} {mg mb : Str → Option Value} {s : Shared} {a sl : Addr} {ls : List (Str × Tok)} {n m : Nat} {ps : List (Addr × Obj)} {sts : List Stroke}
    (hk : RowsOk 20 (ls.map (·.1))) (hS : StrokesAre ps sts) (hst : StsOk sts)
    (G : Gr w base g outer mean mg mb s ((a, strL ls n) :: (sl, refL ps m) :: ps)) :
    codeAny (model PySem.Challenge.rw_kl0455_01.row.toRowW.prog w) (At outer 380 4800) (.call (.ref 98) ⟨[.ref a, .ref sl], []⟩)
      (Ret s fun v own => ∃ b l' n', v = .ref b ∧ own = [(b, strL l' n')] ∧ l'.map (·.1) = setSts (ls.map (·.1)) sts) s := by
  have XS := Frag.In.keeps G.X G.st
  have X0 := G.X
  revert X0; k_fill; intro X0
  refine' enterS (binds := [(Str.ofString "bare", .ref a), (Str.ofString "strokes", .ref sl)]) G ?k6 ?k7 ?k8 ?k9 ?kB ?_ ?c2 ?c3 ?c4 ?c5; (case k6 => k_is); (case k7 => k_is); (case k8 => exact Nat.le_of_ble_eq_true rfl); (case k9 => first | exact BindsTo.of_eq rfl | exact binds_K (by k_in) rfl (by k_is) rfl rfl rfl | fail "k_enter: no rule for these arguments"); (case c5 => decide); (case kB => exact locs rfl); (case c2 => exact rfl); (case c3 => exact rfl); (case c4 => exact rfl)
  k_whole
  clear XS
  intro L' h' F' N' B' X' T'
  (try dsimp only)
  k_fold
  k_with_none
  k_with "exec For Tuple Name cons nil" => (k_here; (rename Fr _ _ _ _ => lF'q); (with_unfolding_all refine' For_invTF lF'q ?_ ?hq49_hs; (case hq49_hs => (intro _; exact rfl)); k_whole))
  k_with "TurnG next" => (k_here; ((k_dflt (refine' stroked_turn ?dt_F ?dt_N ?dt_hr ?dt_ho htk9 hl9 hset9 hRo9 ?dt_mI ?dt_mr aI9 hne9; (case dt_F => k_asm); (case dt_N => k_asm); (case dt_hr => rfl); (case dt_ho => exact fun y h1 h2 h3 h4 => by simp only [StkM, if_neg h1, if_neg h2, if_neg h3, if_neg h4]); (case dt_mI => k_mem); (case dt_mr => (repeat' first | exact hr9 | refine subs_tail ?_))))))
  k_with "TurnG" => ((k_dflt (refine' stroked_turn ?dt_F ?dt_N ?dt_hr ?dt_ho htk9 hl9 hset9 hRo9 ?dt_mI ?dt_mr aI9 hne9; (case dt_F => k_asm); (case dt_N => k_asm); (case dt_hr => rfl); (case dt_ho => exact fun y h1 h2 h3 h4 => by simp only [StkM, if_neg h1, if_neg h2, if_neg h3, if_neg h4]); (case dt_mI => k_mem); (case dt_mr => (repeat' first | exact hr9 | refine subs_tail ?_)))))
  k_with "call ref" => ((with_reducible show wpAny _ _ (call (Value.ref 91) _ _) _ _ _); (k_dflt (refine' useS [(_, _)] (fun g9 b9 o9 G9 => c_set_in2 hR9 hi9 ?c3 ?c4 ?c5 ?c6 ?c7 G9) ?B ?F ?N ?X ?T ?hA ?hf ?hke ?ha ?hh ?hd ?hu ?_; (case B => k_asm); (case F => k_asm); (case N => k_asm); (case X => k_asm); (case T => k_asm); (case hA => exact rfl); (case hf => exact rfl); (case hke => exact rfl); (case ha => exact subs_cons (by k_mem) subs_nil); (case c3 => exact hok9.1); (case c4 => exact hok9.2.1); (case c5 => exact hok9.2.2.1); (case c6 => exact hok9.2.2.2.1); (case c7 => exact hok9.2.2.2.2); (case hh => exact rfl); (case hd => exact Nat.le_of_ble_eq_true rfl); (case hu => exact Nat.le_of_ble_eq_true rfl))); (intro v9 own9 h' tk9 hP9 F' N' hne9; (obtain ⟨r9, lr9, nr9, e9a, e9b, hset9, hRo9⟩ := hP9); subst e9a e9b; (simp only [List.cons_append, List.nil_append] at N'); (replace hne9 := hne9 _ (List.mem_cons_self ..)); (try k_sweep)))
  k_with "pyIter ref" => ((k_dflt (refine' stroked_for (ls := ls) (na := n) (ps := ps) (sts := sts) rfl ?st_F ?st_N ?st_m ?st_a ?st_l ?st_p hS hst hk ?_ ?_; (case st_F => k_asm); (case st_N => k_asm); (case st_m => rfl); (case st_a => k_mem); (case st_l => k_mem); (case st_p => (repeat' first | exact fun _ h => h | refine subs_tail ?_))); (intro i9 p9 f9 l9 w9 t91 t92 t93 b9 ls9 n9 u91 u92 u93 h9 gg9 dd9 tk9 os9 I9 oI9 rs9 hok9 htk9 hl9 hR9 hi9 hr9 aI9 F9 N9; (try k_fold)); (rotate_left; intro b9 ls9 n9 u91 u92 u93 h9 tk9 hl9 hb9 F9 N9; (try k_fold); rotate_left)))
  w_top off
  k_steps
  all_goals (try k_unmd)
  refine Gr.ret G [(_, _)] (by k_asm) (by k_asm) (subs_tail fun _ h => h) (subs_cons (by k_mem) subs_nil) (fun p hp hm => ?_) ⟨_, _, _, rfl, rfl, hl9⟩
  rw [List.mem_singleton.mp hp] at hm
  obtain ⟨q, hq, e⟩ := List.mem_map.mp hm
  exact hb9 q hq e
end Mine
end

section
open PySem PySem.W PyProof.Rows PySem.Calls PySem.Builtin PySem.Spec PySem.SeqAt
set_option Elab.async false
set_option maxRecDepth 100000
namespace Mine
/-! comparing rows and steps -/
theorem char_ok (c : Char) : c.toNat < 0x110000 := by
  have h := c.valid
  unfold UInt32.isValidChar Nat.isValidChar at h
  show c.val.toNat < 0x110000
  rcases h with h | h
  · exact Nat.lt_trans h (by decide)
  · exact h.2
theorem ofString_ok (s : String) : PyData.strOk (Str.ofString s) = true := by
  rw [Str.ofString_eq_toList]
  unfold PyData.strOk
  rw [Array.all_eq_true_iff_forall_mem]
  intro x hx
  simp only [List.mem_toArray, List.mem_map] at hx
  obtain ⟨c, _, rfl⟩ := hx
  exact decide_eq_true (char_ok c)
theorem ind_ok {w : Int} {x : Str} (h : PyData.strOk x = true) : PyData.strOk (ind w x) = true := by
  unfold PyData.strOk at h ⊢
  rw [Array.all_eq_true_iff_forall_mem] at h ⊢
  intro y hy
  unfold ind indL at hy
  simp only [List.mem_toArray] at hy
  split at hy
  · cases hy
  · rcases List.mem_append.mp hy with hy | hy
    · have : y = 32 := List.eq_of_mem_replicate hy
      rw [this]; decide
    · exact h y (by simpa [cpl] using hy)
theorem kind_ok {x : Str} (h : x ∈ kinds5) : PyData.strOk x = true := by
  simp only [kinds5, List.mem_cons, List.not_mem_nil, or_false] at h
  rcases h with rfl | rfl | rfl | rfl | rfl <;> exact ofString_ok _
theorem page_ok {B : List Str} (hk : ∀ r ∈ B, r ∈ kinds5) (sts : List Stroke) : ∀ r ∈ pageOf B sts, PyData.strOk r = true := fun r hr => by
  obtain ⟨k, _, rfl⟩ := List.mem_map.mp hr
  refine ind_ok ?_
  unfold atR
  cases q : B[k]? with
  | none => decide +kernel
  | some y => exact kind_ok (hk y (List.mem_of_getElem? q))
def rowsData (rows : List Str) : List PyData := rows.map PyData.str
def stepData (s : Step) : PyData := .tuple [.str (Str.ofString (toString s.1)), .int s.2.1, .int s.2.2]
theorem readsAll_rows {h : Heap} : ∀ pg : List (Str × Tok), ReadsAll h (strValues pg) (rowsData (pg.map (·.1))) []
  | [] => .nil
  | p :: pg => by
    have := ReadsAll.cons (Reads.str (h := h) p.1 p.2) (readsAll_rows pg)
    simpa [strValues, rowsData] using this
theorem reads_rows {h : Heap} {a : Addr} {pg : List (Str × Tok)} {n : Nat} (ha : h.get? a = some (strL pg n)) : Reads h (.ref a) (.list (rowsData (pg.map (·.1)))) [a] :=
  Reads.list ha rfl rfl (by simpa using readsAll_rows pg)
theorem canLay_rows : ∀ {rows : List Str}, (∀ r ∈ rows, PyData.strOk r = true) → PyData.canLayAll0 (rowsData rows) = true
  | [], _ => by simp [rowsData, PyData.canLayAll0]
  | r :: rows, h => by
    have ih := canLay_rows (rows := rows) fun q hq => h q (.tail _ hq)
    simp only [rowsData, List.map_cons, PyData.canLayAll0, PyData.canLay0, Bool.and_eq_true]
    exact ⟨h r (.head _), ih⟩
theorem depth_rows : ∀ rows : List Str, PyData.depthAll (rowsData rows) ≤ 1
  | [] => by simp [rowsData, PyData.depthAll]
  | r :: rows => by
    have := depth_rows rows
    simp only [rowsData, List.map_cons, PyData.depthAll, PyData.depth] at this ⊢
    omega
theorem shaped_rows {rows : List Str} (h : ∀ r ∈ rows, PyData.strOk r = true) : shaped (.list (rowsData rows)) = true := by
  have h1 := depth_rows rows
  have h2 : PyData.depth (.list (rowsData rows)) ≤ 64 := by simp only [PyData.depth]; omega
  unfold shaped
  rw [Bool.and_eq_true]
  exact ⟨by simp only [PyData.canLay0]; exact canLay_rows h, decide_eq_true h2⟩
theorem noMix_rows : ∀ rows qs : List Str, noMixAll (rowsData rows) (rowsData qs) = true
  | [], [] => by simp [rowsData, noMixAll]
  | [], _ :: _ => by simp [rowsData, noMixAll]
  | _ :: _, [] => by simp [rowsData, noMixAll]
  | _ :: r, _ :: q => by
    have := noMix_rows r q
    simp only [rowsData, List.map_cons, noMixAll, noMix, Bool.true_and] at this ⊢
    exact this
theorem reads_step {h : Heap} {p : Addr × Obj} {s : Step} {t1 t2 t3 : Tok} (hp : h.get? p.1 = some p.2) (e : p.2 = stepObj s t1 t2 t3) : Reads h (.ref p.1) (stepData s) [] := by
  rw [e] at hp
  refine Reads.tuple hp rfl rfl ?_
  have := ReadsAll.cons (Reads.str (h := h) (Str.ofString (toString s.1)) t1) (ReadsAll.cons (Reads.int s.2.1 t2) (ReadsAll.cons (Reads.int s.2.2 t3) ReadsAll.nil))
  simpa using this
theorem readsAll_steps {h : Heap} : ∀ {ts : List (Addr × Obj)} {sts : List Step}, StepsAre ts sts → (∀ p ∈ ts, h.get? p.1 = some p.2) → ReadsAll h (ts.map (fun p : Addr × Obj => Value.ref p.1)) (sts.map stepData) []
  | [], [], _, _ => .nil
  | [], _ :: _, q, _ => q.elim
  | _ :: _, [], q, _ => q.elim
  | p :: ts, s :: sts, q, hh => by
    obtain ⟨t1, t2, t3, e⟩ := q.1
    have := ReadsAll.cons (reads_step (hh p (.head _)) e) (readsAll_steps q.2 fun r hr => hh r (.tail _ hr))
    simpa using this
theorem reads_steps {h : Heap} {a : Addr} {ts : List (Addr × Obj)} {sts : List Step} {ct : Nat} (ha : h.get? a = some (refL ts ct)) (S : StepsAre ts sts) (hh : ∀ p ∈ ts, h.get? p.1 = some p.2) : Reads h (.ref a) (.list (sts.map stepData)) [a] :=
  Reads.list ha rfl rfl (by simpa using readsAll_steps S hh)
theorem canLay_steps : ∀ sts : List Step, PyData.canLayAll0 (sts.map stepData) = true
  | [] => by simp [PyData.canLayAll0]
  | s :: sts => by
    have ih := canLay_steps sts
    simp only [List.map_cons, PyData.canLayAll0, stepData, PyData.canLay0, ofString_ok, ih, Bool.and_self]
theorem depth_steps : ∀ sts : List Step, PyData.depthAll (sts.map stepData) ≤ 2
  | [] => by simp [PyData.depthAll]
  | s :: sts => by
    have := depth_steps sts
    simp only [List.map_cons, PyData.depthAll, stepData, PyData.depth]
    omega
theorem shaped_steps (sts : List Step) : shaped (.list (sts.map stepData)) = true := by
  have h1 := depth_steps sts
  have h2 : PyData.depth (.list (sts.map stepData)) ≤ 64 := by simp only [PyData.depth]; omega
  unfold shaped
  rw [Bool.and_eq_true]
  exact ⟨by simp only [PyData.canLay0]; exact canLay_steps sts, decide_eq_true h2⟩
theorem noMix_steps : ∀ a b : List Step, noMixAll (a.map stepData) (b.map stepData) = true
  | [], [] => by simp [noMixAll]
  | [], _ :: _ => by simp [noMixAll]
  | _ :: _, [] => by simp [noMixAll]
  | _ :: r, _ :: q => by
    have := noMix_steps r q
    simp only [List.map_cons, noMixAll, stepData, noMix, this, Bool.and_self]
section
variable {prog : Program} {w : World} {A : Around} {E : Value → Shared → Prop} {s : Shared} {h₀ : Heap} {L a b : Addr} {news : List (Addr × Obj)} {Q : Value → Shared → Prop}
theorem ne_rows {p1 p2 : List (Str × Tok)} {n1 n2 : Nat} (N : News h₀ L s.heap news) (ha : (a, strL p1 n1) ∈ news) (hb : (b, strL p2 n2) ∈ news) (he : p1.map (·.1) = p2.map (·.1)) (hok : ∀ r ∈ p2.map (·.1), PyData.strOk r = true) (hu : A.units + 64 < cLine) (h : Q (.bool false) s) :
    wpAny (model prog w) A (compareOp .NotEq (.ref a) (.ref b)) Q E s := by
  have r1 := reads_rows (N _ ha).1
  have r2 := reads_rows (N _ hb).1
  rw [he] at r1
  refine ne_dataH_same r1 r2 (shaped_rows hok) (shaped_rows hok) hu (by simp only [noMix]; exact noMix_rows _ _) ?_
  rw [same_refl]; exact h
theorem eq_nil_steps {ts : List (Addr × Obj)} {sts : List Step} {ct n : Nat} (N : News h₀ L s.heap news) (ha : (a, refL ts ct) ∈ news) (hb : (b, listOf #[] n) ∈ news) (S : StepsAre ts sts) (hh : ∀ p ∈ ts, p ∈ news) (hu : A.units + 64 < cLine) (h : Q (.bool (decide (sts = []))) s) :
    wpAny (model prog w) A (compareOp .Eq (.ref a) (.ref b)) Q E s := by
  have r1 := reads_steps (N _ ha).1 S fun p hp => (N p (hh p hp)).1
  have r2 : Reads s.heap (.ref b) (.list (([] : List Step).map stepData)) [b] := Reads.list (N _ hb).1 rfl rfl .nil
  refine eq_dataH_same r1 r2 (shaped_steps sts) (shaped_steps []) hu (by simp only [noMix]; exact noMix_steps _ _) ?_
  have e : PySem.Spec.same (.list (sts.map stepData)) (.list (([] : List Step).map stepData)) = decide (sts = []) := by
    cases sts <;> simp [PySem.Spec.same, PySem.Spec.sameAll]
  rw [e]; exact h
theorem eq_steps {ts us : List (Addr × Obj)} {sts : List Step} {ct cu : Nat} (N : News h₀ L s.heap news) (ha : (a, refL ts ct) ∈ news) (hb : (b, refL us cu) ∈ news) (S : StepsAre ts sts) (U : StepsAre us sts) (hh : ∀ p ∈ ts, p ∈ news) (hh2 : ∀ p ∈ us, p ∈ news) (hu : A.units + 64 < cLine) (h : Q (.bool true) s) :
    wpAny (model prog w) A (compareOp .Eq (.ref a) (.ref b)) Q E s := by
  have r1 := reads_steps (N _ ha).1 S fun p hp => (N p (hh p hp)).1
  have r2 := reads_steps (N _ hb).1 U fun p hp => (N p (hh2 p hp)).1
  refine eq_dataH_same r1 r2 (shaped_steps sts) (shaped_steps sts) hu (by simp only [noMix]; exact noMix_steps _ _) ?_
  rw [same_refl]; exact h
end
/-! the plain law's last links -/
theorem stG_nil {L : Nat → Nat} : ∀ {sol : List Nat} {t : Nat}, stG L t sol = [] → ∀ p ∈ sol, L p ≤ t
  | [], _, _, _, h => nomatch h
  | q :: r, t, h, p, hp => by
    simp only [stG, List.append_eq_nil_iff, List.map_eq_nil_iff] at h
    have h0 : L q ≤ t := by
      have := congrArg List.length h.1
      simp only [List.length_range', List.length_nil] at this
      omega
    rcases List.mem_cons.mp hp with rfl | hp
    · exact h0
    · exact Nat.le_trans (stG_nil h.2 p hp) h0
theorem stG_zero {L : Nat → Nat} : ∀ {sol : List Nat}, (∀ p ∈ sol, L p = 0) → stG L 0 sol = []
  | [], _ => rfl
  | q :: r, h => by
    have h0 := h q (.head _)
    have := stG_zero (sol := r) fun p hp => h p (.tail _ hp)
    simp only [stG, h0, this]
    rfl
theorem told_iff {B : List Str} (hB : B.length = 6) (sts : List Stroke) : stG (levels sts) 0 (solOf B) = [] ↔ pageOf B sts = B := by
  rw [page_rowsC]
  constructor
  · intro h
    have h0 := stG_nil h
    apply List.ext_getElem?
    intro k
    by_cases hk : k < 6
    · rw [rowsC_get hk]
      have e : B[k]? = some (atR B k) := by simp [atR, List.getElem?_eq_getElem (show k < B.length by omega)]
      rw [e]
      by_cases q : isSol B k = true
      · have := h0 k (sol_mem hk q)
        have e0 : levels sts k = 0 := by omega
        show some (ind ((levels sts k : Nat) : Int) (atR B k)) = _
        rw [e0, ind_none (by decide)]
      · have : cpl (atR B k) = [] := by
          apply Decidable.byContradiction
          intro c
          exact q (by unfold isSol; exact decide_eq_true c)
        rw [ind_blank _ this]
    · rw [List.getElem?_eq_none (by rw [rowsC_len]; omega), List.getElem?_eq_none (by omega)]
  · intro h
    refine stG_zero fun p hp => ?_
    have hs := sol_lt hp
    have h1 : (rowsC B (fun k => (leadAt sts k).toNat))[p]? = B[p]? := congrArg (·[p]?) h
    rw [rowsC_get hs.1] at h1
    have e : B[p]? = some (atR B p) := by simp [atR, List.getElem?_eq_getElem (show p < B.length by omega)]
    rw [e] at h1
    have hc : cpl (atR B p) ≠ [] := by have := hs.2; unfold isSol at this; exact of_decide_eq_true this
    have h2 : ind ((levels sts p : Nat) : Int) (atR B p) = ind ((0 : Nat) : Int) (atR B p) := by
      have e3 : ind ((0 : Nat) : Int) (atR B p) = atR B p := ind_none (by decide)
      rw [e3]
      exact Option.some.inj h1
    exact ind_inj hc h2
theorem stroked_page {B : List Str} (hB : B.length = 6) {f1 l1 w1 f2 l2 w2 f3 l3 w3 f4 l4 w4 : Int} (h1 : StrokeOk f1 l1 w1) (h2 : StrokeOk f2 l2 w2) (h3 : StrokeOk f3 l3 w3) (h4 : StrokeOk f4 l4 w4) :
    setIn (setIn (setIn (setIn B f1 l1 w1) f2 l2 w2) f3 l3 w3) f4 l4 w4 = pageOf B [(f1, l1, w1), (f2, l2, w2), (f3, l3, w3), (f4, l4, w4)] := by
  have e0 : setIn B f1 l1 w1 = setIn (pageOf B []) f1 l1 w1 := by rw [pageOf_nil hB]
  rw [e0, setIn_page h1.1 h1.2.1 h1.2.2.1, setIn_page h2.1 h2.2.1 h2.2.2.1, setIn_page h3.1 h3.2.1 h3.2.2.1, setIn_page h4.1 h4.2.1 h4.2.2.1]
  rfl
theorem kind_fr {x : Str} (h : x ∈ kinds5) : x.length ≤ 4 ∧ 10 ∉ cpl x := by
  simp only [kinds5, List.mem_cons, List.not_mem_nil, or_false] at h
  rcases h with rfl | rfl | rfl | rfl | rfl <;> exact ⟨Nat.le_of_ble_eq_true rfl, by decide +kernel⟩
theorem rows_kinds {B : List Str} (hB : B.length = 6) (hk : ∀ r ∈ B, r ∈ kinds5) : RowsOk 4 B := ⟨hB, fun x hx => (kind_fr (hk x hx)).1, fun x hx => (kind_fr (hk x hx)).2⟩
theorem rows_page {B : List Str} (hB : B.length = 6) (hk : ∀ r ∈ B, r ∈ kinds5) {f1 l1 w1 f2 l2 w2 f3 l3 w3 f4 l4 w4 : Int} (h1 : StrokeOk f1 l1 w1) (h2 : StrokeOk f2 l2 w2) (h3 : StrokeOk f3 l3 w3) (h4 : StrokeOk f4 l4 w4) :
    RowsOk 20 (pageOf B [(f1, l1, w1), (f2, l2, w2), (f3, l3, w3), (f4, l4, w4)]) := by
  rw [← stroked_page hB h1 h2 h3 h4]
  have r0 := rows_kinds hB hk
  have r1 := r0.setIn (f := f1) (l := l1) (w := w1) h1.1 h1.2.1 h1.2.2.1 (stroke_le h1)
  have r2 := r1.setIn (f := f2) (l := l2) (w := w2) h2.1 h2.2.1 h2.2.2.1 (stroke_le h2)
  have r3 := r2.setIn (f := f3) (l := l3) (w := w3) h3.1 h3.2.1 h3.2.2.1 (stroke_le h3)
  exact r3.setIn (f := f4) (l := l4) (w := w4) h4.1 h4.2.1 h4.2.2.1 (stroke_le h4)
theorem mended {B : List Str} (hB : B.length = 6) {f1 l1 w1 f2 l2 w2 f3 l3 w3 f4 l4 w4 : Int} (h1 : StrokeOk f1 l1 w1) (h2 : StrokeOk f2 l2 w2) (h3 : StrokeOk f3 l3 w3) (h4 : StrokeOk f4 l4 w4) :
    mendRun (pageOf B [(f1, l1, w1), (f2, l2, w2), (f3, l3, w3), (f4, l4, w4)]) 40 B = (pageOf B [(f1, l1, w1), (f2, l2, w2), (f3, l3, w3), (f4, l4, w4)], stG (levels [(f1, l1, w1), (f2, l2, w2), (f3, l3, w3), (f4, l4, w4)]) 0 (solOf B)) :=
  mend_page hB (inc_four (stroke_le h1) (stroke_le h2) (stroke_le h3) (stroke_le h4))
theorem stroked_sts {B : List Str} (hB : B.length = 6) {sts : List Stroke} (h : StsOk sts) : sts.foldl (fun r st => setIn r st.1 st.2.1 st.2.2) B = pageOf B sts := by
  obtain ⟨f1, l1, w1, f2, l2, w2, f3, l3, w3, f4, l4, w4, rfl, a, b, c, d⟩ := sts_four h
  exact stroked_page hB a b c d
theorem rows_sts {B : List Str} (hB : B.length = 6) (hk : ∀ r ∈ B, r ∈ kinds5) {sts : List Stroke} (h : StsOk sts) : RowsOk 20 (pageOf B sts) := by
  obtain ⟨f1, l1, w1, f2, l2, w2, f3, l3, w3, f4, l4, w4, rfl, a, b, c, d⟩ := sts_four h
  exact rows_page hB hk a b c d
theorem mended_sts {B : List Str} (hB : B.length = 6) {sts : List Stroke} (h : StsOk sts) : mendRun (pageOf B sts) 40 B = (pageOf B sts, stG (levels sts) 0 (solOf B)) := by
  obtain ⟨f1, l1, w1, f2, l2, w2, f3, l3, w3, f4, l4, w4, rfl, a, b, c, d⟩ := sts_four h
  exact mended hB a b c d
theorem list_keep {h₀ h : Heap} {L a : Addr} {m : Str → Option Value} {items : Array Value} (F : Fr h₀ L h m) (hl : h₀.IsList a items) : h.IsList a items := hl.at fun o e => F.keep _ o e
end Mine
namespace Mine
section
variable {h₀ h : Heap} {L : Addr} {news own : List (Addr × Obj)}
theorem plain_news {a b c : Addr × Obj} {ts : List (Addr × Obj)} (N : News h₀ L h ((a :: b :: c :: ts) ++ news)) : News h₀ L h (a :: b :: c :: (news ++ ts)) := News.sub N fun p hp => by
  simp only [List.cons_append, List.mem_cons, List.mem_append] at hp ⊢
  rcases hp with h | h | h | h | h
  · exact .inl h
  · exact .inr (.inl h)
  · exact .inr (.inr (.inl h))
  · exact .inr (.inr (.inr (.inr h)))
  · exact .inr (.inr (.inr (.inl h)))
theorem mend_news {x y z q : Addr × Obj} {ps : List (Addr × Obj)} (N : News h₀ L h (own ++ news)) (mx : x ∈ own) (my : y ∈ own) (mz : z ∈ own ∨ z = q) (hq : q ∈ news) (mp : ∀ p ∈ ps, p ∈ own) : News h₀ L h (x :: y :: z :: (news ++ ps)) := News.sub N fun p hp => by
  simp only [List.mem_cons, List.mem_append] at hp ⊢
  rcases hp with rfl | rfl | rfl | h | h
  · exact .inl mx
  · exact .inl my
  · exact mz.elim .inl fun e => .inr (e ▸ hq)
  · exact .inr h
  · exact .inl (mp p h)
end
theorem safe_none {v : Value} {A : Prop} (h : (v = .none ∧ A) ∨ (∃ t, v = .str lookText t) ∧ ¬ A) (e : A) : v = .none := h.elim (·.1) fun q => absurd e q.2
section
variable {prog : Program} {w : World} {A : Around} {E : Value → Shared → Prop} {s : Shared} {h₀ : Heap} {L a b : Addr} {news : List (Addr × Obj)} {Q : Value → Shared → Prop}
theorem eq_nil_yes {ts : List (Addr × Obj)} {sts : List Step} {ct n : Nat} (N : News h₀ L s.heap news) (ha : (a, refL ts ct) ∈ news) (hb : (b, listOf #[] n) ∈ news) (S : StepsAre ts sts) (hh : ∀ p ∈ ts, p ∈ news) (hn : sts = []) (hu : A.units + 64 < cLine) (h : Q (.bool true) s) :
    wpAny (model prog w) A (compareOp .Eq (.ref a) (.ref b)) Q E s := eq_nil_steps N ha hb S hh hu (by rw [decide_eq_true hn]; exact h)
theorem eq_nil_no {ts : List (Addr × Obj)} {sts : List Step} {ct n : Nat} (N : News h₀ L s.heap news) (ha : (a, refL ts ct) ∈ news) (hb : (b, listOf #[] n) ∈ news) (S : StepsAre ts sts) (hh : ∀ p ∈ ts, p ∈ news) (hn : ¬ sts = []) (hu : A.units + 64 < cLine) (h : Q (.bool false) s) :
    wpAny (model prog w) A (compareOp .Eq (.ref a) (.ref b)) Q E s := eq_nil_steps N ha hb S hh hu (by rw [decide_eq_false hn]; exact h)
end
theorem told_yes {B pg : List Str} (hB : B.length = 6) {sts : List Stroke} (hp : pg = pageOf B sts) (hq : pg = B) : stG (levels sts) 0 (solOf B) = [] := (told_iff hB sts).mpr (hp.symm.trans hq)
theorem told_no {B pg : List Str} (hB : B.length = 6) {sts : List Stroke} (hp : pg = pageOf B sts) (hq : pg ≠ B) : ¬ stG (levels sts) 0 (solOf B) = [] := fun e => hq (hp.trans ((told_iff hB sts).mp e))
theorem stays_first {V : Program} {l : List Str} {me : ExcName → Option Value} {mg mb : Str → Option Value} {h : Heap} (_T : PyProof.Rows.Top V l me mg mb h) : h.StaysIn h := fun _ _ e => e
theorem stays_on {h g g' : Heap} (S : h.StaysIn g) (K : KeepU [] [] g g') : h.StaysIn g' := fun b o e => (K b o (S b o e) (by simp)).1 (by simp)
theorem law_end {cl : Str → Option Addr} {mean : ExcName → Option Value} {args : List WData} {s₁ : Shared} {g h' : Heap} {L : Addr} {m : Str → Option Value} {tk : Nat} (S : s₁.heap.StaysIn g) (F : Fr g L h' m) (hg : s₁.gens = #[]) :
    GoodW PySem.Challenge.rw_kl0455_01.row.claim cl mean args s₁ (.ok (.ret (.bool true))) { s₁ with heap := h', toks := tk } := by
  refine ⟨.inl ⟨.bool true, .bool true, [], rfl, fun _ => rfl, .bool true, ?_, fun _ => ⟨List.nodup_nil, fun _ h => nomatch h⟩⟩, fun b o e => F.keep b o (S b o e), rfl, hg⟩
  with_unfolding_all rfl
end Mine
end

section
open PySem PySem.W PyProof.Rows PySem.Calls
set_option Elab.async false

namespace Mine
local macro_rules | `(tactic| k_all) => `(tactic| first | exact all_of (by with_reducible assumption) | exact all_ltP (by with_reducible assumption))
local macro_rules | `(tactic| k_ne) => `(tactic| ((try dsimp only); first | exact neA3 (by with_reducible assumption) | exact neA4 (by with_reducible assumption) | ((rename (@Ne Nat _ _ ∧ _) => q9); with_reducible (first | exact q9.1 | exact q9.2.1 | exact q9.2.2.1 | exact q9.2.2.2.1 | exact q9.2.2.2.2.1 | exact q9.2.2.2.2.2.1 | exact q9.2.2.2.2.2.2.1 | exact q9.2.2.2.2.2.2.2.1 | exact q9.2.2.2.2.2.2.2.2.1 | exact q9.2.2.2.2.2.2.2.2.2.1 | exact q9.2.2.2.2.2.2.2.2.2.2.1 | exact q9.2.2.2.2.2.2.2.2.2.2.2.1 | exact Ne.symm q9.1 | exact Ne.symm q9.2.1 | exact Ne.symm q9.2.2.1 | exact Ne.symm q9.2.2.2.1 | exact Ne.symm q9.2.2.2.2.1 | exact Ne.symm q9.2.2.2.2.2.1 | exact Ne.symm q9.2.2.2.2.2.2.1 | exact Ne.symm q9.2.2.2.2.2.2.2.1 | exact Ne.symm q9.2.2.2.2.2.2.2.2.1 | exact Ne.symm q9.2.2.2.2.2.2.2.2.2.1 | exact Ne.symm q9.2.2.2.2.2.2.2.2.2.2.1 | exact Ne.symm q9.2.2.2.2.2.2.2.2.2.2.2.1)) | (refine neN ?_; omega)))
theorem zeros_at {o : Obj} {n : Nat} (h : IsInts o (List.replicate ((n : Int) + 1).toNat 0)) : IsInts o (List.replicate (n + 1) 0) := by
  rw [show ((n : Int) + 1).toNat = n + 1 by omega] at h; exact h
theorem solid_fact {B : List Str} {sol : List Nat} {ys : List Value} (h : sol = solOf B) (hy : All2 (fun y i => ∃ t, y = .int (i : Int) t) ys ((List.range (6 - 0 : Int).toNat).filter (isSol B))) : ys.length = sol.length ∧ IsInts (LCg.lst ys) (natsI sol) := by
  subst h
  exact ⟨hy.length, _, _, rfl, hy.ints (val := fun i : Nat => (i : Int)) (fun _ _ h => h)⟩
theorem ins_fact {sol : List Nat} {f l : Int} {ys : List Value} (hy : All2 (fun y i => ∃ t, y = .int (i : Int) t) ys ((List.range ((sol.length : Int) - 0).toNat).filter (tstOf sol f l))) : IsInts (LCg.lst ys) (natsI (insOf sol f l)) := by
  rw [show ((sol.length : Int) - 0).toNat = sol.length by omega] at hy
  exact ⟨_, _, rfl, hy.ints (val := fun i : Nat => (i : Int)) (fun _ _ h => h)⟩
theorem small_le {n : Nat} (h : n ≤ 1000) : Builtin.Range.small 0 (n : Int) 1 = true := small_one (by omega) (by omega) (by omega) (by omega)
theorem at_len {n i : Nat} (hn : n = 6) (h : i < (6 - 0 : Int).toNat) : 0 + (i : Int) < (n : Int) ∧ 0 + (i : Int) < 1000000 ∧ 0 ≤ 0 + (i : Int) := by
  have : i < 6 := h
  omega
theorem at_sol {n i : Nat} (hn : n ≤ 6) (h : i < ((n : Int) - 0).toNat) : 0 + (i : Int) < (n : Int) ∧ 0 + (i : Int) < 1000000 ∧ 0 ≤ 0 + (i : Int) := by omega
theorem tst_yes {sol : List Nat} {f l : Int} {i : Nat} (h1 : f ≤ (natsI sol).getD (0 + (i : Int)).toNat 0) (h2 : (natsI sol).getD (0 + (i : Int)).toNat 0 ≤ l) : tstOf sol f l i = true := by
  rw [show (0 + (i : Int)).toNat = i by omega] at h1 h2
  unfold tstOf; rw [Bool.and_eq_true]; exact ⟨decide_eq_true h1, decide_eq_true h2⟩
theorem tst_no1 {sol : List Nat} {f l : Int} {i : Nat} (h1 : ¬ f ≤ (natsI sol).getD (0 + (i : Int)).toNat 0) : tstOf sol f l i = false := by
  rw [show (0 + (i : Int)).toNat = i by omega] at h1
  unfold tstOf; rw [decide_eq_false h1, Bool.false_and]
theorem tst_no2 {sol : List Nat} {f l : Int} {i : Nat} (h1 : ¬ (natsI sol).getD (0 + (i : Int)).toNat 0 ≤ l) : tstOf sol f l i = false := by
  rw [show (0 + (i : Int)).toNat = i by omega] at h1
  unfold tstOf; rw [decide_eq_false h1, Bool.and_false]
set_option maxRecDepth 100000 in
set_option maxHeartbeats 8000000 in
theorem c_plain {w : World} {base g : Heap} {outer : List Env} {mean : ExcName → Option Value} {mg mb : Str → Option Value} {s : Shared} {a sl : Addr} {ls : List (Str × Tok)} {n m : Nat} {ps : List (Addr × Obj)} {sts : List Stroke}
    (hlen : ls.length = 6) (hk : ∀ r ∈ ls.map (·.1), r ∈ kinds5) (hS : StrokesAre ps sts) (hst : StsOk sts)
    (G : Gr w base g outer mean mg mb s ((a, strL ls n) :: (sl, refL ps m) :: ps)) :
    codeAny (model PySem.Challenge.rw_kl0455_01.row.toRowW.prog w) (At outer 390 4900) (.call (.ref 131) ⟨[.ref a, .ref sl], []⟩)
      (Ret s (PlainPost (ls.map (·.1)) sts)) s := by
  have XS := Frag.In.keeps G.X G.st
  have X0 := G.X
  revert X0; k_fill; intro X0
  refine' enterC (binds := [(Str.ofString "bare", .ref a), (Str.ofString "strokes", .ref sl)]) G ?k6 ?k7 ?k8 ?k9 ?kB ?kD ?_ ?c3 ?c4 ?c5; (case k6 => k_is); (case k7 => k_is); (case k8 => exact Nat.le_of_ble_eq_true rfl); (case k9 => first | exact BindsTo.of_eq rfl | exact binds_K (by k_in) rfl (by k_is) rfl rfl rfl | fail "k_enter: no rule for these arguments"); (case kB => exact kindsX rfl); (case kD => decide +kernel); (case c3 => exact rfl); (case c4 => exact rfl); (case c5 => exact rfl)
  k_whole
  clear XS
  intro L' h' tk' cells' F' N' Y' B' X' T' l1
  (try k_lt l1)
  k_cells Y'
  (try simp only [List.cons_append, List.nil_append] at N')
  (try dsimp only)
  (try k_fold)
  have hA0 := lt_all (l := (a, strL ls n) :: (sl, refL ps m) :: ps) l1
  have hA3 := lt_s (lt_s (lt_s hA0))
  have hc0 := lt_all l1.2.2
  have hc1 := lt_s hc0
  have hc2 := lt_s hc1
  have hc3 := lt_s hc2
  have hc4 := lt_s hc3
  obtain ⟨sol, hsol⟩ : ∃ sol, sol = solOf (ls.map (·.1)) := ⟨_, rfl⟩
  have hsn : sol.length ≤ 6 := by rw [hsol]; unfold solOf; exact Nat.le_trans (List.length_filter_le _ _) (by simp)
  k_with_none
  k_with "subscriptTail Name Name ref int" => (k_here; k_dflt (refine' item_at ?hq50_N ?hq50_m ?hq50_a ?hq50_b ?hq50_c ?_; (case hq50_N => k_asm); (case hq50_m => k_mem); (case hq50_a => omega); (case hq50_b => omega); (case hq50_c => omega)); intro t9q)
  k_with "subscriptTail Name Subscript ref int" => (k_here; k_dflt (refine' item_at ?hq51_N ?hq51_m ?hq51_a ?hq51_b ?hq51_c ?_; (case hq51_N => k_asm); (case hq51_m => k_mem); (case hq51_a => omega); (case hq51_b => omega); (case hq51_c => omega)); intro t9q)
  k_with "subscriptTail Name BinOp ref int" => (k_here; k_dflt (refine' item_at ?hq52_N ?hq52_m ?hq52_a ?hq52_b ?hq52_c ?_; (case hq52_N => k_asm); (case hq52_m => k_mem); (case hq52_a => omega); (case hq52_b => omega); (case hq52_c => omega)); intro t9q)
  k_with "call builtin:len" => (k_here; (with_reducible show wpAny _ _ (call (Value.builtin "len") [Value.ref _]) _ _ _); k_dflt (refine' len_strs6 ?hq53_N ?hq53_m ?hq53_c ?_; (case hq53_N => k_asm); (case hq53_m => k_mem); (case hq53_c => assumption)); intro t9q k9q)
  k_with "eval ListComp" => (k_here; k_dflt (refine LCt.ListComp_T (F₀ := by k_asm) (by with_unfolding_all rfl) (by decide) (by rfl) (by decide) (by rfl) ?_))
  k_with "binaryOp Mult ref int" => (k_here; (with_reducible show wpAny _ _ (binaryOp _ (Value.ref _) (Value.int _ _)) _ _ _); k_dflt (refine' zeros ?hq55_F ?hq55_N ?hq55_m ?hq55_a ?hq55_b ?_; (case hq55_F => k_asm); (case hq55_N => k_asm); (case hq55_m => k_mem); (case hq55_a => omega); (case hq55_b => omega)); intro D'q o'q h'q F'q N'q l1q hz'q; (try k_lt l1q); (try k_sweep))
  k_with "exec For Tuple Name cons nil" => (k_here; (rename Fr _ _ _ _ => lF'q); (with_unfolding_all refine' For_invTF lF'q ?_ ?hq56_hs; (case hq56_hs => (intro _; exact rfl)); k_whole))
  k_with "call type:list" => (k_here; k_dflt (refine' copy_strs ?hq57_F ?hq57_N ?hq57_m ?hq57_z ?_; (case hq57_F => k_asm); (case hq57_N => k_asm); (case hq57_m => k_mem); (case hq57_z => omega)); intro D'q c'q h'q F'q N'q l1q; (try k_lt l1q); (try k_sweep))
  k_with "binaryOp Mult str int" => (k_here; refine mul_str_sp (by omega) (by omega) ?_; intro _ _)
  k_with "call builtin:list.append" => (k_here; (with_reducible show wpAny _ _ (call (Value.builtin _) [Value.ref _, Value.ref _]) _ _ _); k_dflt (refine' append_K ?hq59_k1 ?hq59_k2 ?hq59_k3 ?_ ?hq59_z; (case hq59_k1 => k_asm); (case hq59_k2 => k_asm); (case hq59_k3 => k_upd); (case hq59_z => (rw [sizeLine_eq]; simp only [List.size_toArray, List.length_map]; omega)); k_whole); intro h'q F'q N'q; (try k_sweep))
  k_with "call type:range" => (k_here; (rename Fr _ _ _ _ => lF'q); (rename News _ _ _ _ => lN'q); (with_unfolding_all refine range1_rows lF'q lN'q ?_); intro _ _ _ _ _ _ _ _ _)
  k_with "compareOp NotEq ref ref" => (k_here; (with_reducible show wpAny _ _ (compareOp _ (Value.ref _) (Value.ref _)) _ _ _); k_dflt (refine' ne_nil_ints ?hq61_N ?hq61_m ?hq61_o ?hq61_n ?hq61_u ?_; (case hq61_N => k_asm); (case hq61_m => k_mem); (case hq61_o => assumption); (case hq61_n => k_mem); (case hq61_u => units_room)))
  k_with "call builtin:len" => (k_here; ((with_reducible show wpAny _ _ (call (Value.builtin "len") [Value.ref _]) _ _ _); k_dflt (refine' len_ints ?N ?m ?o ?c ?_; (case N => k_asm); (case m => k_mem); (case o => assumption); (case c => (simp only [natsI_len]; omega))); (try simp only [natsI_len]); intro t9 k9))
  k_with "len" => ((with_reducible show wpAny _ _ (call (Value.builtin "len") [Value.ref _]) _ _ _); k_dflt (refine' len_ints ?N ?m ?o ?c ?_; (case N => k_asm); (case m => k_mem); (case o => assumption); (case c => (simp only [natsI_len]; omega))); (try simp only [natsI_len]); intro t9 k9)
  k_with "subscriptTail Name Name ref int" => (k_here; ((with_reducible show wpAny _ _ (subscriptTail _ _ (Value.ref _) (Value.int _ _)) _ _ _); k_dflt (refine' item_ints ?N ?m ?o ?a ?b ?c ?_; (case N => k_asm); (case m => k_mem); (case o => assumption); (case a => omega); (case b => ((try simp only [natsI_len]); first | omega | exact Int.ofNat_lt.mpr (ins_pos (by assumption)))); (case c => omega)); intro t9))
  k_with "subscriptTail Name Subscript ref int" => (k_here; ((with_reducible show wpAny _ _ (subscriptTail _ _ (Value.ref _) (Value.int _ _)) _ _ _); k_dflt (refine' item_ints ?N ?m ?o ?a ?b ?c ?_; (case N => k_asm); (case m => k_mem); (case o => assumption); (case a => omega); (case b => ((try simp only [natsI_len]); first | omega | exact Int.ofNat_lt.mpr (ins_pos (by assumption)))); (case c => omega)); intro t9))
  k_with "subscriptTail Name BinOp ref int" => (k_here; ((with_reducible show wpAny _ _ (subscriptTail _ _ (Value.ref _) (Value.int _ _)) _ _ _); k_dflt (refine' item_ints ?N ?m ?o ?a ?b ?c ?_; (case N => k_asm); (case m => k_mem); (case o => assumption); (case a => omega); (case b => ((try simp only [natsI_len]); first | omega | exact Int.ofNat_lt.mpr (ins_pos (by assumption)))); (case c => omega)); intro t9))
  k_with "subscriptTail Name Constant ref int" => (k_here; ((with_reducible show wpAny _ _ (subscriptTail _ _ (Value.ref _) (Value.int _ _)) _ _ _); k_dflt (refine' item_ints ?N ?m ?o ?a ?b ?c ?_; (case N => k_asm); (case m => k_mem); (case o => assumption); (case a => omega); (case b => ((try simp only [natsI_len]); first | omega | exact Int.ofNat_lt.mpr (ins_pos (by assumption)))); (case c => omega)); intro t9))
  k_with "subscriptTail Name Call ref int" => (k_here; ((with_reducible show wpAny _ _ (subscriptTail _ _ (Value.ref _) (Value.int _ _)) _ _ _); k_dflt (refine' item_ints ?N ?m ?o ?a ?b ?c ?_; (case N => k_asm); (case m => k_mem); (case o => assumption); (case a => omega); (case b => ((try simp only [natsI_len]); first | omega | exact Int.ofNat_lt.mpr (ins_pos (by assumption)))); (case c => omega)); intro t9))
  k_with "item" => ((with_reducible show wpAny _ _ (subscriptTail _ _ (Value.ref _) (Value.int _ _)) _ _ _); k_dflt (refine' item_ints ?N ?m ?o ?a ?b ?c ?_; (case N => k_asm); (case m => k_mem); (case o => assumption); (case a => omega); (case b => ((try simp only [natsI_len]); first | omega | exact Int.ofNat_lt.mpr (ins_pos (by assumption)))); (case c => omega)); intro t9)
  k_with "subscriptTail Name UnaryOp ref int" => (k_here; ((with_reducible show wpAny _ _ (subscriptTail _ _ (Value.ref _) (Value.int _ _)) _ _ _); k_dflt (refine' itemneg_ints ?N ?m ?o ?a ?b ?_; (case N => k_asm); (case m => k_mem); (case o => assumption); (case a => rfl); (case b => ((try simp only [natsI_len]); first | omega | exact ins_pos (by assumption)))); intro t9))
  k_with "itemneg" => ((with_reducible show wpAny _ _ (subscriptTail _ _ (Value.ref _) (Value.int _ _)) _ _ _); k_dflt (refine' itemneg_ints ?N ?m ?o ?a ?b ?_; (case N => k_asm); (case m => k_mem); (case o => assumption); (case a => rfl); (case b => ((try simp only [natsI_len]); first | omega | exact ins_pos (by assumption)))); intro t9)
  k_with "getItem ref int" => (k_here; ((with_reducible show wpAny _ _ (getItem (Value.ref _) (Value.int _ _)) _ _ _); k_dflt (refine' get_ints ?N ?m ?o ?a ?b ?c ?_; (case N => k_asm); (case m => k_mem); (case o => assumption); (case a => first | exact at0a | exact at1a); (case b => first | exact at0b (sol := sol) (f := f9) (l := l9) (by assumption) hb19 | exact at0b (sol := sol) (f := f9) (l := l9) (by assumption) hb29 | exact at1b (sol := sol) (f := f9) (l := l9) (by assumption) hb19 | exact at1b (sol := sol) (f := f9) (l := l9) (by assumption) hb29); (case c => first | exact at0c (sol := sol) (f := f9) (l := l9) (by assumption) hsn | exact at1c (sol := sol) (f := f9) (l := l9) (by assumption) hsn)); intro t9))
  k_with "getItem" => ((with_reducible show wpAny _ _ (getItem (Value.ref _) (Value.int _ _)) _ _ _); k_dflt (refine' get_ints ?N ?m ?o ?a ?b ?c ?_; (case N => k_asm); (case m => k_mem); (case o => assumption); (case a => first | exact at0a | exact at1a); (case b => first | exact at0b (sol := sol) (f := f9) (l := l9) (by assumption) hb19 | exact at0b (sol := sol) (f := f9) (l := l9) (by assumption) hb29 | exact at1b (sol := sol) (f := f9) (l := l9) (by assumption) hb19 | exact at1b (sol := sol) (f := f9) (l := l9) (by assumption) hb29); (case c => first | exact at0c (sol := sol) (f := f9) (l := l9) (by assumption) hsn | exact at1c (sol := sol) (f := f9) (l := l9) (by assumption) hsn)); intro t9)
  k_with "setItem ref int" => (k_here; ((with_reducible show wpAny _ _ (setItem (Value.ref _) (Value.int _ _) (Value.int _ _)) _ _ _); k_dflt (refine' set_ints ?F ?N ?U ?o ?a ?b ?c ?_; (case F => k_asm); (case N => k_asm); (case U => k_updF); (case o => assumption); (case a => first | exact at0a | exact at1a); (case b => first | exact at0b (sol := sol) (f := f9) (l := l9) (by assumption) hb19 | exact at0b (sol := sol) (f := f9) (l := l9) (by assumption) hb29 | exact at1b (sol := sol) (f := f9) (l := l9) (by assumption) hb19 | exact at1b (sol := sol) (f := f9) (l := l9) (by assumption) hb29); (case c => first | exact at0c (sol := sol) (f := f9) (l := l9) (by assumption) hsn | exact at1c (sol := sol) (f := f9) (l := l9) (by assumption) hsn)); (intro h' o' F' N' hs'; (try dsimp only at N'); (try k_sweep))))
  k_with "setItem" => ((with_reducible show wpAny _ _ (setItem (Value.ref _) (Value.int _ _) (Value.int _ _)) _ _ _); k_dflt (refine' set_ints ?F ?N ?U ?o ?a ?b ?c ?_; (case F => k_asm); (case N => k_asm); (case U => k_updF); (case o => assumption); (case a => first | exact at0a | exact at1a); (case b => first | exact at0b (sol := sol) (f := f9) (l := l9) (by assumption) hb19 | exact at0b (sol := sol) (f := f9) (l := l9) (by assumption) hb29 | exact at1b (sol := sol) (f := f9) (l := l9) (by assumption) hb19 | exact at1b (sol := sol) (f := f9) (l := l9) (by assumption) hb29); (case c => first | exact at0c (sol := sol) (f := f9) (l := l9) (by assumption) hsn | exact at1c (sol := sol) (f := f9) (l := l9) (by assumption) hsn)); (intro h' o' F' N' hs'; (try dsimp only at N'); (try k_sweep)))
  k_with "setItem ref int" => (k_here; ((with_reducible show wpAny _ _ (setItem (Value.ref _) (Value.int _ _) (Value.str _ _)) _ _ _); k_dflt (refine' set_strs ?F ?N ?U ?a ?b ?c ?_; (case F => k_asm); (case N => k_asm); (case U => k_updF); (case a => omega); (case b => omega); (case c => omega)); (intro h' F' N'; (try dsimp only at N'); (try k_sweep))))
  k_with "setItem" => ((with_reducible show wpAny _ _ (setItem (Value.ref _) (Value.int _ _) (Value.str _ _)) _ _ _); k_dflt (refine' set_strs ?F ?N ?U ?a ?b ?c ?_; (case F => k_asm); (case N => k_asm); (case U => k_updF); (case a => omega); (case b => omega); (case c => omega)); (intro h' F' N'; (try dsimp only at N'); (try k_sweep)))
  k_with "binaryOp Add str str" => (k_here; (k_dflt (refine SBL.add (hsz := ?ad_sz) ?_; (case ad_sz => exact add_fits hk (by omega) _)); intro _ _ _))
  k_with "add" => (k_dflt (refine SBL.add (hsz := ?ad_sz) ?_; (case ad_sz => exact add_fits hk (by omega) _)); intro _ _ _)
  k_with "getMethod ref" => (k_here; ((with_reducible show wpAny _ _ (getMethod (Value.ref _) (PySem.Str.ofString "pop") _) _ _ _); k_dflt (refine' method_ints ?N ?m ?o PySem.F.slot_list_pop PySem.F.type_list_pop ?_; (case N => k_asm); (case m => k_mem); (case o => assumption))))
  k_with "getMethod" => ((with_reducible show wpAny _ _ (getMethod (Value.ref _) (PySem.Str.ofString "pop") _) _ _ _); k_dflt (refine' method_ints ?N ?m ?o PySem.F.slot_list_pop PySem.F.type_list_pop ?_; (case N => k_asm); (case m => k_mem); (case o => assumption)))
  k_with "getMethod ref" => (k_here; ((with_reducible show wpAny _ _ (getMethod (Value.ref _) (PySem.Str.ofString "append") _) _ _ _); k_dflt (refine' method_ints ?N ?m ?o PySem.F.slot_list_append PySem.F.type_list_append ?_; (case N => k_asm); (case m => k_mem); (case o => assumption))))
  k_with "getMethod" => ((with_reducible show wpAny _ _ (getMethod (Value.ref _) (PySem.Str.ofString "append") _) _ _ _); k_dflt (refine' method_ints ?N ?m ?o PySem.F.slot_list_append PySem.F.type_list_append ?_; (case N => k_asm); (case m => k_mem); (case o => assumption)))
  k_with "call builtin:list.append" => (k_here; ((with_reducible show wpAny _ _ (call (Value.builtin _) [Value.ref _, Value.int _ _]) _ _ _); k_dflt (refine' append_ints ?F ?N ?U ?o ?z ?_; (case F => k_asm); (case N => k_asm); (case U => k_updF); (case o => assumption); (case z => assumption)); (intro h' o' F' N' hs'; (try dsimp only at N'); (try k_sweep))))
  k_with "append" => ((with_reducible show wpAny _ _ (call (Value.builtin _) [Value.ref _, Value.int _ _]) _ _ _); k_dflt (refine' append_ints ?F ?N ?U ?o ?z ?_; (case F => k_asm); (case N => k_asm); (case U => k_updF); (case o => assumption); (case z => assumption)); (intro h' o' F' N' hs'; (try dsimp only at N'); (try k_sweep)))
  k_with "call builtin:list.pop" => (k_here; ((with_reducible show wpAny _ _ (call (Value.builtin _) [Value.ref _]) _ _ _); k_dflt (refine' pop_ints ?F ?N ?U ?o ?y ?z ?_; (case F => k_asm); (case N => k_asm); (case U => k_updF); (case o => assumption); (case y => assumption); (case z => assumption)); (intro h' o' t9 F' N' hs'; (try dsimp only at N'); (try k_sweep))))
  k_with "pop" => ((with_reducible show wpAny _ _ (call (Value.builtin _) [Value.ref _]) _ _ _); k_dflt (refine' pop_ints ?F ?N ?U ?o ?y ?z ?_; (case F => k_asm); (case N => k_asm); (case U => k_updF); (case o => assumption); (case y => assumption); (case z => assumption)); (intro h' o' t9 F' N' hs'; (try dsimp only at N'); (try k_sweep)))
  k_with "CompEnd" => (k_dflt (refine' LCg.CompEnd.intro ?ce_F ?ce_N _ ?ce_s off9 ?ce_S ⟨rfl, ?ce_p⟩; (case ce_F => k_asm); (case ce_N => k_asm); (case ce_s => (repeat' first | exact fun _ h => h | exact subs_nil | refine subs_cons (by k_mem) ?_)); (case ce_S => first | exact trivial | exact .inr ⟨_, (by k_mem), rfl, _, rfl⟩); (case ce_p => first | exact ⟨⟨_, by rw [Int.zero_add]⟩, sol_of (by assumption)⟩ | exact sol_of (by assumption) | exact ⟨⟨_, by rw [Int.zero_add]⟩, tst_yes (by assumption) (by assumption)⟩ | exact tst_no1 (by assumption) | exact tst_no2 (by assumption))))
  k_with "CompSrcT" => ((with_reducible show LCt.CompSrcT _ _ _ _ _ _ _ _ (PySem.Expr.Name (Str.ofString "k") _) _ _ _ _ _ _); k_dflt (refine LCt.CompSrcT.range (by rfl) (by k_asm) (by k_asm) (by assumption) (by decide) (by first | exact rangeSize_nat _ _ | rfl) (by exact Nat.le_of_ble_eq_true rfl) ?_; intro g9; (refine' comp_filter (isSol (ls.map (·.1))) (fun y i => ∃ t, y = .int (i : Int) t) ?_ ?_)); (intro i9 v9 I9 oI9 C9 oC9 D9 m9 ys9 h9 tk9 E9 hi9 hv9 hC9 hx9 F9 N9 off9 ne9); (obtain ⟨t9, rfl⟩ := hv9); (obtain ⟨hi8, hi7, hi6⟩ := at_len hlen hi9); k_fold; (rotate_left; intro ys9 hy9; (obtain ⟨hyn, hyi⟩ := solid_fact hsol hy9); rotate_left))
  k_with "CompSrcT" => ((with_reducible show LCt.CompSrcT _ _ _ _ _ _ _ _ (PySem.Expr.Name (Str.ofString "j") _) _ _ _ _ _ _); k_dflt (refine LCt.CompSrcT.range (by rfl) (by k_asm) (by k_asm) (by assumption) (by exact small_le (by omega)) (by first | exact rangeSize_nat _ _ | rfl) (by rw [sizeLine_eq]; omega) ?_; intro g9; (refine' comp_filter (tstOf sol f9 l9) (fun y i => ∃ t, y = .int (i : Int) t) ?_ ?_)); (intro i9 v9 I9 oI9 C9 oC9 D9 m9 ys9 h9 tk9 E9 hi9 hv9 hC9 hx9 F9 N9 off9 ne9); (obtain ⟨t9, rfl⟩ := hv9); (obtain ⟨hi8, hi7, hi6⟩ := at_sol hsn hi9); k_fold; (rotate_left; intro ys9 hy9; (have hyi : IsInts (LCg.lst ys9) (natsI (insOf sol f9 l9)) := ins_fact hy9); (have hbd9 := ins_bd (sol := sol) (f := f9) (l := l9)); rotate_left))
  k_with "pyIter ref" => ((k_dflt (refine' strokes_for (sol := sol) (ps := ps) (sts := sts) rfl ?st_F ?st_N ?st_l ?st_p hS (zeros_at ?st_e) (zeros_at ?st_b) ?st_ol ?st_of ?_ ?st_nr ?st_c1 ?st_c2 ?st_c3 ?st_c5 ?st_c6 ?st_c4 ?_; (case st_F => k_asm); (case st_N => k_asm); (case st_l => k_mem); (case st_p => (repeat' first | exact fun _ h => h | refine subs_tail ?_)); (case st_e => assumption); (case st_b => assumption); (case st_ol => assumption); (case st_of => assumption); (case st_nr => (repeat' first | exact lt_nil | with_reducible assumption | exact lt_all (by tbn_find) | refine lt_cons (by omega) ?_)); (case st_c1 => omega); (case st_c2 => omega); (case st_c3 => omega); (case st_c4 => omega); (case st_c5 => k_ne); (case st_c6 => k_ne)); (intro p9 f9 l9 w9 t91 t92 t93 bs9 be9 oe9 ob9 ol9 of9 vl9 vf9 u91 u92 h9 gg9 dd9 tk9 os9 I9 oI9 al9 T9 hok9 hbe9 hb19 hb29 e019 e029 e039 e049 e059 e069 e079 e089 e099 e109 e119 e129 e139 e149 e159 e169 e179 e189 e199 e209 e219 e229 a19 a29 a39 a49 hol9 hof9 hob9 hoe9 kS9 F9 N9; (repeat ((rename (@LT.lt Nat _ _ _ ∧ _) => q9); clear q9)); (repeat ((rename (@Ne Nat _ _ ∧ _) => q9); clear q9)); (try k_fold)); (rotate_left; intro oe9 ob9 ol9 of9 vl9 vf9 u91 u92 h9 tk9 hol9 hof9 hob9 hoe9 F9 N9; (repeat ((rename (@LT.lt Nat _ _ _ ∧ _) => q9); clear q9)); (repeat ((rename (@Ne Nat _ _ ∧ _) => q9); clear q9)); (obtain ⟨be, hbe⟩ : ∃ be, be = beOf sol sts := ⟨_, rfl⟩); (rw [← hbe] at hob9 hoe9); (have hD : DiffOk sol (levels sts) be := by rw [hbe, hsol]; exact be_diff (sol_sorted _) _); (have hD1 := diff_b1 hD); (have hD2 := diff_b2 hD); (have hbl := brk_sts hsol hst); (try k_fold); rotate_left)))
  k_with "pyIter ref" => ((k_dflt (refine' plain_for (sol := sol) (L := levels sts) (ls := ls) hsol rfl ?pf_r ?pf_b hsn ?pf_F ?pf_N hlen ?pf_cr ?pf_c1 ?pf_c2 ?pf_k1 ?pf_k2 ?pf_k3 ?pf_k4 ?pf_k5 ?pf_k6 ?pf_k7 ?_ ?_; (case pf_r => assumption); (case pf_b => rfl); (case pf_F => k_asm); (case pf_N => k_asm); (case pf_cr => (repeat' first | exact lt_nil | with_reducible assumption | exact lt_all (by tbn_find) | refine lt_cons (by omega) ?_)); (case pf_c1 => omega); (case pf_c2 => omega); (case pf_k1 => exact (.tail _ (.tail _ (.tail _ (.tail _ (.tail _ (.head _))))))); (case pf_k2 => exact (.tail _ (.tail _ (.tail _ (.tail _ (.head _)))))); (case pf_k3 => exact (.head _)); (case pf_k4 => exact (.tail _ (.head _))); (case pf_k5 => exact (.tail _ (.tail _ (.tail _ (.tail _ (.tail _ (.tail _ (.head _)))))))); (case pf_k6 => exact (.tail _ (.tail _ (.tail _ (.tail _ (.tail _ (.tail _ (.tail _ (.head _))))))))); (case pf_k7 => exact (.tail _ (.tail _ (.tail _ (.head _)))))); (intro j9 t9 tl9 pg9 np9 oi9 ps9 cap9 xs9 S9 u91 u92 h9 tk9 I9 oI9 al9 T9 hj9 hst9 hpg9 hoi9 hP9 q19 q29 q39 q49 hpsa9 a19 a29 a39 e019 e029 e039 e049 e059 e069 w19 w29 w39 kP9 F9 N9; (repeat ((rename (@LT.lt Nat _ _ _ ∧ _) => q9); clear q9)); (repeat ((rename (@Ne Nat _ _ ∧ _) => q9); clear q9)); (have x19 := w19); (have x29 := w29); (have x39 := w39); (simp only [List.forall_mem_cons] at x19 x29 x39); (repeat ((rename (NeA _ _ ∧ _) => q9); (obtain ⟨_, q8⟩ := q9))); (have hd9 := diff_at hD hj9); (have hlv9 := lvN_le (sol := sol) (lev_sts hst) j9); (have hs69 := sol_at hsol (0 + (j9 : Int))); (have hSl9 := hst9.hS); (have hxl9 := state_le hbl hst9); (try k_fold)); (rotate_left; intro tl9 pg9 np9 ps9 cap9 xs9 u91 u92 h9 tk9 S9 al9 hst9 hpg9 hP9 hra9 hpa9 F9 N9; (have hxl9 := state_le hbl hst9); (try k_fold); rotate_left)))
  k_with "pyIter ref" => (k_dflt (refine' pops_for (sol := sol) (S := S9) (l := LvN sol (levels sts) j9) (j := j9) (xs := xs9) rfl ?po_r ?po_b ?po_1 ?po_2 hxl9 hj9 hst9.hSb ?po_F ?po_N hpsa9 hoi9 hP9 q19 q29 q39 q49 a29 a39 e019 e029 e039 e059 e069 w29 w39 ?_ ?_; (case po_r => assumption); (case po_b => omega); (case po_1 => omega); (case po_2 => omega); (case po_F => k_asm); (case po_N => k_asm)); (intro i9 t9 oi9 ps9 cap9 u93 h9 tk9 I29 oI29 al9 T9 g19 g29 g39 g49 g59 hoi9 hpl9 b19 b29 e119 e129 e139 e149 e159 e169 e179 kO9 F9 N9; (try k_fold)); (rotate_left; intro oi9 ps9 cap9 u93 h9 tk9 al9 hoi9 hP9 q19 q29 q39 q49 hala9 hpsa9 b19 F9 N9; (try k_fold); rotate_left))
  k_with "pyIter ref" => (k_dflt (refine' pushes_for (T := S9.take (LvN sol (levels sts) j9)) (n := S9.length) (l := LvN sol (levels sts) j9) (j := j9) rfl ?pu_r ?pu_b ?pu_1 ?pu_2 ?pu_3 ?pu_F ?pu_N hoi9 ?pu_X ?_ ?_; (case pu_r => assumption); (case pu_b => omega); (case pu_1 => omega); (case pu_2 => omega); (case pu_3 => (simp only [List.length_take]; omega)); (case pu_F => k_asm); (case pu_N => k_asm); (case pu_X => (repeat' first | with_reducible assumption | (refine ne_cons ?sn ?_; (case sn => k_ne))))); (intro i9 t9 oi9 u93 h9 tk9 I29 oI29 al9 T9 g19 hoi9 e119 a19 kU9 F9 N9; (try k_fold)); (rotate_left; intro oi9 u93 h9 tk9 hoi9 F9 N9; (try k_fold); rotate_left))
  k_with "call builtin:sorted" => (k_here; ((with_reducible show wpAny _ _ (call (Value.builtin _) [Value.ref _]) _ _ _); (k_dflt (refine' sort_pairs ?so_F ?so_N ?so_m ?so_ps hP9 hst9.hx ?so_64 ?_; (case so_F => k_asm); (case so_N => k_asm); (case so_m => k_mem); (case so_ps => (repeat' first | with_reducible assumption | exact fun _ h => h | exact subs_nil | (refine subs_cons ?sq ?_; (case sq => k_mem)) | refine subs_tail ?_)); (case so_64 => omega))); (intro D' h' qs9 ys9 co9 F' N' l1 hQ9 hqs9 hperm9 hord9; (have hyl9 : ys9.length ≤ 40 := by rw [hperm9.length_eq]; exact hxl9); (have hql9 := hQ9.length); (try k_lt l1); (try k_sweep))))
  k_with "sorted" => ((with_reducible show wpAny _ _ (call (Value.builtin _) [Value.ref _]) _ _ _); (k_dflt (refine' sort_pairs ?so_F ?so_N ?so_m ?so_ps hP9 hst9.hx ?so_64 ?_; (case so_F => k_asm); (case so_N => k_asm); (case so_m => k_mem); (case so_ps => (repeat' first | with_reducible assumption | exact fun _ h => h | exact subs_nil | (refine subs_cons ?sq ?_; (case sq => k_mem)) | refine subs_tail ?_)); (case so_64 => omega))); (intro D' h' qs9 ys9 co9 F' N' l1 hQ9 hqs9 hperm9 hord9; (have hyl9 : ys9.length ≤ 40 := by rw [hperm9.length_eq]; exact hxl9); (have hql9 := hQ9.length); (try k_lt l1); (try k_sweep)))
  k_with "call builtin:len" => (k_here; ((with_reducible show wpAny _ _ (call (Value.builtin "len") [Value.ref _]) _ _ _); k_dflt (refine' len_refs ?N ?m ?c ?_; (case N => k_asm); (case m => k_mem); (case c => omega)); intro t9 k9))
  k_with "len" => ((with_reducible show wpAny _ _ (call (Value.builtin "len") [Value.ref _]) _ _ _); k_dflt (refine' len_refs ?N ?m ?c ?_; (case N => k_asm); (case m => k_mem); (case c => omega)); intro t9 k9)
  k_with "call builtin:len" => (k_here; ((with_reducible show wpAny _ _ (call (Value.builtin "len") [Value.ref _]) _ _ _); k_dflt (refine' len_lst ?N ?m ?c ?d ?_; (case N => k_asm); (case m => k_mem); (case c => exact hcn9); (case d => exact cnt_le _ _ _ hyl9)); intro t9 k9))
  k_with "len" => ((with_reducible show wpAny _ _ (call (Value.builtin "len") [Value.ref _]) _ _ _); k_dflt (refine' len_lst ?N ?m ?c ?d ?_; (case N => k_asm); (case m => k_mem); (case c => exact hcn9); (case d => exact cnt_le _ _ _ hyl9)); intro t9 k9)
  k_with "subscriptTail Name Name ref int" => (k_here; ((with_reducible show wpAny _ _ (subscriptTail _ _ (Value.ref _) (Value.int (0 + _) _)) _ _ _); k_dflt (refine' item_refs ?N ?m hq9 ?c ?_; (case N => k_asm); (case m => k_mem); (case c => omega))))
  k_with "subscriptTail Name Subscript ref int" => (k_here; ((with_reducible show wpAny _ _ (subscriptTail _ _ (Value.ref _) (Value.int (0 + _) _)) _ _ _); k_dflt (refine' item_refs ?N ?m hq9 ?c ?_; (case N => k_asm); (case m => k_mem); (case c => omega))))
  k_with "subscriptTail Name BinOp ref int" => (k_here; ((with_reducible show wpAny _ _ (subscriptTail _ _ (Value.ref _) (Value.int (0 + _) _)) _ _ _); k_dflt (refine' item_refs ?N ?m hq9 ?c ?_; (case N => k_asm); (case m => k_mem); (case c => omega))))
  k_with "subscriptTail Name Constant ref int" => (k_here; ((with_reducible show wpAny _ _ (subscriptTail _ _ (Value.ref _) (Value.int (0 + _) _)) _ _ _); k_dflt (refine' item_refs ?N ?m hq9 ?c ?_; (case N => k_asm); (case m => k_mem); (case c => omega))))
  k_with "subscriptTail Name Call ref int" => (k_here; ((with_reducible show wpAny _ _ (subscriptTail _ _ (Value.ref _) (Value.int (0 + _) _)) _ _ _); k_dflt (refine' item_refs ?N ?m hq9 ?c ?_; (case N => k_asm); (case m => k_mem); (case c => omega))))
  k_with "item" => ((with_reducible show wpAny _ _ (subscriptTail _ _ (Value.ref _) (Value.int (0 + _) _)) _ _ _); k_dflt (refine' item_refs ?N ?m hq9 ?c ?_; (case N => k_asm); (case m => k_mem); (case c => omega)))
  k_with "subscriptTail Name Slice ref ref" => (k_here; ((with_reducible show wpAny _ _ (subscriptTail _ (PySem.Expr.Slice _ _ none _) (Value.ref _) (Value.ref _)) _ _ _); k_dflt (refine' slice_refs ?F ?N ?m ?x ?q ?_ ?s ?t; (case F => k_asm); (case N => k_asm); (case m => k_mem); (case x => omega); (case q => omega); (case s => with_unfolding_all rfl); (case t => kmk_pure)); intro D' h' F' N' l1; (try k_lt l1); (try k_sweep)))
  k_with "slice" => ((with_reducible show wpAny _ _ (subscriptTail _ (PySem.Expr.Slice _ _ none _) (Value.ref _) (Value.ref _)) _ _ _); k_dflt (refine' slice_refs ?F ?N ?m ?x ?q ?_ ?s ?t; (case F => k_asm); (case N => k_asm); (case m => k_mem); (case x => omega); (case q => omega); (case s => with_unfolding_all rfl); (case t => kmk_pure)); intro D' h' F' N' l1; (try k_lt l1); (try k_sweep))
  k_with "CompSrcT" => ((with_reducible show LCt.CompSrcT _ _ _ _ _ _ _ _ (PySem.Expr.Name (Str.ofString "one") _) _ _ _ _ _ _); (k_dflt (refine' LCt.CompSrcT.ledger ?c1 ?c2 ?c3 ?c4 ?c5 ?_; (case c1 => rfl); (case c2 => k_asm); (case c3 => k_asm); (case c4 => k_mem); (case c5 => (rw [sizeLine_eq]; simp only [List.size_toArray, List.length_map, List.length_drop]; omega)); intro g9; (refine' comp_filter (tstP ys9 (0 + (i9 : Int)).toNat f9) (fun _ _ => True) ?_ ?_)); (intro i8 v8 I8 oI8 C8 oC8 D8 m8 zs8 h8 tk8 E8 hi8 hv8 hC8 hx8 F8 N8 off9 ne9); (obtain ⟨qa8, f8, b8, ta8, tb8, rfl, hqm8, hqf8⟩ := pair_item hQ9 hv8); (have hqz8 := hqa9 _ hqm8); (have N7 := news_front (p := (qa8, tup2 (.int f8 ta8) (.int b8 tb8))) N8 (by repeat' first | exact hqz8 | refine List.Mem.tail _ ?_)); clear N8; (try k_fold); (rotate_left; intro zs8 hzs8; (have hcn9 := cnt_fact' hqy9 hzs8); rotate_left)))
  k_with "CompEnd" => (k_dflt (refine' LCg.CompEnd.intro ?ce_F ?ce_N _ ?ce_s off9 ?ce_S ⟨rfl, ?ce_p⟩; (case ce_F => k_asm); (case ce_N => k_asm); (case ce_s => (repeat' first | exact fun _ h => h | (refine subs_cons ?sq ?_; (case sq => k_mem)) | refine subs_tail ?_)); (case ce_S => first | exact trivial | exact .inr ⟨_, (by k_mem), rfl, _, rfl⟩); (case ce_p => first | exact ⟨trivial, tstP_yes' hqf8 (by assumption)⟩ | exact tstP_no' hqf8 (by assumption) | exact ⟨trivial, tstP_yes hqf8 (by assumption)⟩ | exact tstP_no hqf8 (by assumption))))
  k_with "pyIter ref" => ((k_dflt (refine' told_for (ys := ys9) rfl ?pf_r ?pf_b hyl9 ?pf_F ?pf_N (fun q hq => hpa9 q (hqs9 q hq)) hQ9 (fun x hx => hst9.hx x (hperm9.mem_iff.mp hx)) ?pf_of ?pf_c1 ?pf_c2 ?pf_c3 ?pf_ad ?_ ?_; (case pf_r => assumption); (case pf_b => rfl); (case pf_F => k_asm); (case pf_N => k_asm); (case pf_of => assumption); (case pf_c1 => omega); (case pf_c2 => omega); (case pf_c3 => omega); (case pf_ad => exact lt_all (by tbn_find))); (intro i9 t9 qa9 f9 b9 ta9 tb9 u91 u92 vf9 of9 ts9 ct9 h9 tk9 I9 oI9 al9 T9 hi9 hqy9 hq9 hof9 htl9 hqa9 a19 a29 e019 e029 e039 e049 e059 e069 e079 y19 y29 kT9 F9 N9; (repeat ((rename (@LT.lt Nat _ _ _ ∧ _) => q9); clear q9)); (repeat ((rename (@Ne Nat _ _ ∧ _) => q9); clear q9)); (try k_fold)); (rotate_left; intro u91 u92 ts9 ct9 h9 tk9 alT9 hts9 hta9 hka9 F9 N9; (try k_fold); rotate_left)))
  k_with "exec If" => ((k_dflt (refine' page_if (PageOk sol (levels sts) (ls.map (·.1)) j9) ?pi_F ?pi_N ?_ ?_; (case pi_F => k_asm); (case pi_N => k_asm)); (rotate_left; intro h9 tk9 pg8 F9 N9 hPg9; (try k_fold); rotate_left)))
  k_with "MidPg next" => (k_here; ((k_dflt (refine' MidPg.intro ?mi_F ?mi_N ?mi_P; (case mi_F => k_asm); (case mi_N => k_asm); (case mi_P => first | ((have hjx := keep_lt (j := j9) (n := sol.length) (by assumption)); exact ⟨(List.length_set ..).trans hpg9, rows_set hsol hst9 hjx hpg9 (by omega)⟩) | ((have hjx := keep_nlt (j := j9) (n := sol.length) (by assumption)); exact ⟨hpg9, rows_same hst9 hjx⟩))))))
  k_with "MidPg" => ((k_dflt (refine' MidPg.intro ?mi_F ?mi_N ?mi_P; (case mi_F => k_asm); (case mi_N => k_asm); (case mi_P => first | ((have hjx := keep_lt (j := j9) (n := sol.length) (by assumption)); exact ⟨(List.length_set ..).trans hpg9, rows_set hsol hst9 hjx hpg9 (by omega)⟩) | ((have hjx := keep_nlt (j := j9) (n := sol.length) (by assumption)); exact ⟨hpg9, rows_same hst9 hjx⟩)))))
  k_with "TurnX next" => (k_here; ((k_dflt (refine' TurnX.intro (kS9 _ _ _ _ _ _ _ _ _ _ _ ?tu_F ?tu_N ?tu_hm ?tu_me ?tu_mb ?tu_ml ?tu_mf ?tu_ms ?tu_m1 ?tu_mr ?tu_mI ?tu_ol ?tu_of ?tu_be ?tu_b ?tu_e); (case tu_F => k_asm); (case tu_N => k_asm); (case tu_hm => exact fun y h1 h2 => by simp only [if_neg h1, if_neg h2]); (case tu_me => k_mem); (case tu_mb => k_mem); (case tu_ml => k_mem); (case tu_mf => k_mem); (case tu_ms => k_mem); (case tu_m1 => k_mem); (case tu_mr => (repeat' first | exact fun _ h => h | refine subs_tail ?_)); (case tu_mI => k_mem); (case tu_ol => assumption); (case tu_of => assumption); (case tu_be => first | exact be_skip1 rfl (by assumption) | exact be_skip2 rfl (by assumption) | exact be_step rfl hbe9 (by assumption) (by assumption)); (case tu_b => first | exact hbe9 ▸ hob9 | assumption); (case tu_e => first | exact hbe9 ▸ hoe9 | assumption)))))
  k_with "TurnX" => ((k_dflt (refine' TurnX.intro (kS9 _ _ _ _ _ _ _ _ _ _ _ ?tu_F ?tu_N ?tu_hm ?tu_me ?tu_mb ?tu_ml ?tu_mf ?tu_ms ?tu_m1 ?tu_mr ?tu_mI ?tu_ol ?tu_of ?tu_be ?tu_b ?tu_e); (case tu_F => k_asm); (case tu_N => k_asm); (case tu_hm => exact fun y h1 h2 => by simp only [if_neg h1, if_neg h2]); (case tu_me => k_mem); (case tu_mb => k_mem); (case tu_ml => k_mem); (case tu_mf => k_mem); (case tu_ms => k_mem); (case tu_m1 => k_mem); (case tu_mr => (repeat' first | exact fun _ h => h | refine subs_tail ?_)); (case tu_mI => k_mem); (case tu_ol => assumption); (case tu_of => assumption); (case tu_be => first | exact be_skip1 rfl (by assumption) | exact be_skip2 rfl (by assumption) | exact be_step rfl hbe9 (by assumption) (by assumption)); (case tu_b => first | exact hbe9 ▸ hob9 | assumption); (case tu_e => first | exact hbe9 ▸ hoe9 | assumption))))
  k_with "TurnX next" => (k_here; ((k_dflt (refine' TurnX.intro (kP9 _ ps9 _ _ _ _ _ _ _ _ _ ?tp_F ?tp_N ?tp_hm ?tp_ml ?tp_pg ?tp_lv ?tp_R hoi9 hP9 ?tp_mp ?tp_mi ?tp_ma ?tp_mr ?tp_mps ?tp_mI q19 q29 q39 q49); (case tp_F => k_asm); (case tp_N => k_asm); (case tp_hm => exact fun y h1 h2 h3 => by simp only [if_neg h1, if_neg h2, if_neg h3]); (case tp_ml => with_unfolding_all rfl); (case tp_mp => k_mem); (case tp_mi => k_mem); (case tp_ma => k_mem); (case tp_pg => exact hPg9.len); (case tp_lv => omega); (case tp_R => exact hPg9.rows); (case tp_mr => (intro q hq; (replace hq := hala9 q hq); (repeat' first | exact hq | refine List.Mem.tail _ ?_))); (case tp_mps => (intro q hq; (replace hq := hpsa9 q hq); (repeat' first | exact hq | refine List.Mem.tail _ ?_))); (case tp_mI => k_mem)))))
  k_with "TurnX" => ((k_dflt (refine' TurnX.intro (kP9 _ ps9 _ _ _ _ _ _ _ _ _ ?tp_F ?tp_N ?tp_hm ?tp_ml ?tp_pg ?tp_lv ?tp_R hoi9 hP9 ?tp_mp ?tp_mi ?tp_ma ?tp_mr ?tp_mps ?tp_mI q19 q29 q39 q49); (case tp_F => k_asm); (case tp_N => k_asm); (case tp_hm => exact fun y h1 h2 h3 => by simp only [if_neg h1, if_neg h2, if_neg h3]); (case tp_ml => with_unfolding_all rfl); (case tp_mp => k_mem); (case tp_mi => k_mem); (case tp_ma => k_mem); (case tp_pg => exact hPg9.len); (case tp_lv => omega); (case tp_R => exact hPg9.rows); (case tp_mr => (intro q hq; (replace hq := hala9 q hq); (repeat' first | exact hq | refine List.Mem.tail _ ?_))); (case tp_mps => (intro q hq; (replace hq := hpsa9 q hq); (repeat' first | exact hq | refine List.Mem.tail _ ?_))); (case tp_mI => k_mem))))
  k_with "TurnX next" => (k_here; ((k_dflt (refine' TurnX.intro (kU9 _ _ _ _ _ ?tp_F ?tp_N ?tp_hm ?tp_oi ?tp_mi ?tp_mr ?tp_mI); (case tp_F => k_asm); (case tp_N => k_asm); (case tp_hm => exact fun y h1 => by simp only [if_neg h1]); (case tp_mi => k_mem); (case tp_oi => assumption); (case tp_mr => (repeat' first | exact fun _ h => h | refine subs_tail ?_)); (case tp_mI => k_mem)))))
  k_with "TurnX" => ((k_dflt (refine' TurnX.intro (kU9 _ _ _ _ _ ?tp_F ?tp_N ?tp_hm ?tp_oi ?tp_mi ?tp_mr ?tp_mI); (case tp_F => k_asm); (case tp_N => k_asm); (case tp_hm => exact fun y h1 => by simp only [if_neg h1]); (case tp_mi => k_mem); (case tp_oi => assumption); (case tp_mr => (repeat' first | exact fun _ h => h | refine subs_tail ?_)); (case tp_mI => k_mem))))
  k_with "TurnX next" => (k_here; ((k_dflt (refine' TurnX.intro (kO9 _ _ _ _ _ _ _ _ ?tp_F ?tp_N ?tp_hm ?tp_oi ?tp_mi ?tp_ma ?tp_mD ?tp_mr ?tp_mI ?tp_1 ?tp_2 ?tp_3 ?tp_4); (case tp_F => k_asm); (case tp_N => k_asm); (case tp_hm => exact fun y h1 => by simp only [if_neg h1]); (case tp_mi => k_mem); (case tp_ma => k_mem); (case tp_mD => k_mem); (case tp_oi => assumption); (case tp_mr => (repeat' first | exact fun _ h => h | refine subs_tail ?_)); (case tp_mI => k_mem); (case tp_1 => exact lt_all (by tbn_find)); (case tp_2 => omega); (case tp_3 => omega); (case tp_4 => omega)))))
  k_with "TurnX" => ((k_dflt (refine' TurnX.intro (kO9 _ _ _ _ _ _ _ _ ?tp_F ?tp_N ?tp_hm ?tp_oi ?tp_mi ?tp_ma ?tp_mD ?tp_mr ?tp_mI ?tp_1 ?tp_2 ?tp_3 ?tp_4); (case tp_F => k_asm); (case tp_N => k_asm); (case tp_hm => exact fun y h1 => by simp only [if_neg h1]); (case tp_mi => k_mem); (case tp_ma => k_mem); (case tp_mD => k_mem); (case tp_oi => assumption); (case tp_mr => (repeat' first | exact fun _ h => h | refine subs_tail ?_)); (case tp_mI => k_mem); (case tp_1 => exact lt_all (by tbn_find)); (case tp_2 => omega); (case tp_3 => omega); (case tp_4 => omega))))
  k_with "TurnX next" => (k_here; ((k_dflt (refine' TurnX.intro (kT9 _ _ _ _ _ _ _ _ _ _ ?tp_F ?tp_N ?tp_hm ?tp_of ?tp_mt ?tp_mc ?tp_mD ?tp_mr ?tp_mI ?tp_1 ?tp_2 ?tp_3); (case tp_F => k_asm); (case tp_N => k_asm); (case tp_hm => exact fun y h1 h2 => by simp only [if_neg h1, if_neg h2]); (case tp_mt => k_mem); (case tp_mc => k_mem); (case tp_of => assumption); (case tp_mD => k_mem); (case tp_mr => (repeat' first | exact fun _ h => h | refine subs_tail ?_)); (case tp_mI => k_mem); (case tp_1 => omega); (case tp_2 => omega); (case tp_3 => omega)))))
  k_with "TurnX" => ((k_dflt (refine' TurnX.intro (kT9 _ _ _ _ _ _ _ _ _ _ ?tp_F ?tp_N ?tp_hm ?tp_of ?tp_mt ?tp_mc ?tp_mD ?tp_mr ?tp_mI ?tp_1 ?tp_2 ?tp_3); (case tp_F => k_asm); (case tp_N => k_asm); (case tp_hm => exact fun y h1 h2 => by simp only [if_neg h1, if_neg h2]); (case tp_mt => k_mem); (case tp_mc => k_mem); (case tp_of => assumption); (case tp_mD => k_mem); (case tp_mr => (repeat' first | exact fun _ h => h | refine subs_tail ?_)); (case tp_mI => k_mem); (case tp_1 => omega); (case tp_2 => omega); (case tp_3 => omega))))
  w_top off
  k_steps
  all_goals (try dsimp only)
  all_goals (try k_unmd)
  subst hsol
  k_dflt (refine' plain_ret hS G ?re_F ?re_N ?re_a ?re_T ?re_p ?re_t ?re_ts ?re_1 ?re_4 ?re_5 hst9 hperm9 hord9 hts9; (case re_F => k_asm); (case re_N => k_asm); (case re_a => (intro p hp; (have hq := hka9 p (hra9 p (by repeat' first | exact hp | refine List.Mem.tail _ ?_)) (Nat.ne_of_lt (hA3 p hp))); (repeat' first | exact hq | refine List.Mem.tail _ ?_))); (case re_T => k_mem); (case re_p => k_mem); (case re_t => k_mem); (case re_ts => (intro p hp; (have hq := hta9 p hp); (repeat' first | exact hq | refine List.Mem.tail _ ?_))); (case re_1 => (repeat' first | exact lt_nil | exact lt_all (by tbn_find) | refine lt_cons (by omega) ?_)); (case re_4 => omega); (case re_5 => omega))
end Mine
end

section
open PySem PySem.W PyProof.Rows PySem.Calls
set_option Elab.async false

namespace Mine
theorem below_as {V : Program} {l : List Str} {me : ExcName → Option Value} {mg mb : Str → Option Value} {h h' : Heap} {A : Around} (_T : PyProof.Rows.Top V l me mg mb h) (B : Below A h' [] h') (e : h' = h) : Below A h [] h := e ▸ B
theorem subs_l {x y : List (Addr × Obj)} : ∀ p ∈ x, p ∈ x ++ y := fun _ h => List.mem_append_left _ h
theorem subs_lr {x y z : List (Addr × Obj)} : ∀ p ∈ y, p ∈ x ++ y ++ z := fun _ h => List.mem_append_left _ (List.mem_append_right _ h)
theorem subs_r {x y : List (Addr × Obj)} : ∀ p ∈ y, p ∈ x ++ y := fun _ h => List.mem_append_right _ h
end Mine
end
open PySem PySem.W PyProof.Rows PySem.Calls Mine
set_option maxRecDepth 100000 in
set_option maxHeartbeats 8000000 in
theorem PySem.Challenge.cw_kl0455_01_holds : PySem.Challenge.rw_kl0455_01.Holds := by
  refine hd ?_
  w_strict (
  k_go0
  rename Heap.IsList _ _ _ => hLx
  rename IntsAre _ _ => hIx
  rename PyProof.Rows.Top _ _ _ _ _ _ => hTx
  rename Below _ _ _ _ => hBx
  have hBy := below_as hTx hBx rfl
  clear hBx
  have hSt := stays_first hTx
  (try k_fold)
  k_with_none
  k_with "call ref" => ((with_reducible show wpAny _ _ (call (Value.ref 84) _ _) _ _ _); (k_dflt (refine' useS [] (fun g9 b9 o9 G9 => c_drawn (list_keep ?kF hLx) hIx (by omega) G9) ?B ?F ?N ?X ?T ?hA ?hf ?hke ?ha ?hh ?hd ?hu ?_; (case B => k_asm); (case F => k_asm); (case N => k_asm); (case X => k_asm); (case T => k_asm); (case kF => k_asm); (case hA => exact rfl); (case hf => exact rfl); (case hke => exact rfl); (case ha => exact subs_nil); (case hh => exact rfl); (case hd => exact Nat.le_of_ble_eq_true rfl); (case hu => exact Nat.le_of_ble_eq_true rfl)); (intro v9 own9 h' tk9 hP9 F' N' hne9; (unfold DrawnPost at hP9); (obtain ⟨T9, b9, sl9, ls9, n9, m9, ps9, sts9, e9a, e9b, hlen9, hk9, hS9, h49⟩ := hP9); subst e9a e9b; (have hB9 : (ls9.map (·.1)).length = 6 := by rw [List.length_map]; exact hlen9); (have hRb9 := (rows_kinds hB9 hk9).weak (C := 20) (by decide)); (simp only [List.cons_append, List.append_nil] at N'); (try k_sweep))))
  k_with "call ref" => ((with_reducible show wpAny _ _ (call (Value.ref 131) _ _) _ _ _); (k_dflt (refine' useS ((_, _) :: (_, _) :: ps9) (fun g9 b9 o9 G9 => c_plain hlen9 hk9 hS9 h49 G9) ?B ?F ?N ?X ?T ?hA ?hf ?hke ?ha ?hh ?hd ?hu ?_; (case B => k_asm); (case F => k_asm); (case N => k_asm); (case X => k_asm); (case T => k_asm); (case hA => exact rfl); (case hf => exact rfl); (case hke => exact rfl); (case ha => exact subs_cons (by k_mem) (subs_cons (by k_mem) (by repeat' first | with_reducible assumption | exact fun _ h => h | exact subs_l | refine subs_tail ?_))); (case hh => exact rfl); (case hd => exact Nat.le_of_ble_eq_true rfl); (case hu => exact Nat.le_of_ble_eq_true rfl)); (intro v9 own9 h' tk9 hP9 F' N' hne9; (unfold PlainPost at hP9); (obtain ⟨T8, Dp8, Dt8, pg8, np8, ct8, ts8, e9a, e9b, hpg8, hts8⟩ := hP9); subst e9a e9b; (have hpl8 : pg8.length = 6 := by rw [← List.length_map (f := fun p : Str × Tok => p.1), hpg8]; exact (rows_sts hB9 hk9 h49).len); (have hRp8 : RowsOk 20 (pg8.map (·.1)) := by rw [hpg8]; exact rows_sts hB9 hk9 h49); (have hok8 : ∀ r ∈ pg8.map (·.1), PySem.PyData.strOk r = true := by rw [hpg8]; exact page_ok hk9 _); (replace N' := plain_news N'); (simp only [List.cons_append, List.nil_append] at N'); (try k_sweep))))
  k_with "call ref" => ((with_reducible show wpAny _ _ (call (Value.ref 98) _ _) _ _ _); (k_dflt (refine' useS ((_, _) :: (_, _) :: ps9) (fun g9 b9 o9 G9 => c_stroked hRb9 hS9 h49 G9) ?B ?F ?N ?X ?T ?hA ?hf ?hke ?ha ?hh ?hd ?hu ?_; (case B => k_asm); (case F => k_asm); (case N => k_asm); (case X => k_asm); (case T => k_asm); (case hA => exact rfl); (case hf => exact rfl); (case hke => exact rfl); (case ha => exact subs_cons (by k_mem) (subs_cons (by k_mem) (by repeat' first | with_reducible assumption | exact fun _ h => h | exact subs_l | refine subs_tail ?_))); (case hh => exact rfl); (case hd => exact Nat.le_of_ble_eq_true rfl); (case hu => exact Nat.le_of_ble_eq_true rfl)); (intro v9 own9 h' tk9 hP9 F' N' hne9; (obtain ⟨b7, l7, n7, e9a, e9b, hst7⟩ := hP9); subst e9a e9b; (have he7 : l7.map (·.1) = pg8.map (·.1) := (hst7.trans (stroked_sts hB9 h49)).trans hpg8.symm); (simp only [List.cons_append, List.nil_append] at N'); (try k_sweep))))
  k_with "compareOp NotEq ref ref" => (k_here; (k_dflt (refine' ne_rows ?ne_N ?ne_a ?ne_b he7 hok8 ?ne_u ?_; (case ne_N => k_asm); (case ne_a => k_mem); (case ne_b => k_mem); (case ne_u => units_room))))
  k_with "ne" => (k_dflt (refine' ne_rows ?ne_N ?ne_a ?ne_b he7 hok8 ?ne_u ?_; (case ne_N => k_asm); (case ne_a => k_mem); (case ne_b => k_mem); (case ne_u => units_room)))
  k_with "call ref" => ((with_reducible show wpAny _ _ (call (Value.ref 79) _ _) _ _ _); (k_dflt (refine' useU [(_, _), (_, _), (_, _)] (fun U9 => c_safe_look hpl8 hlen9 U9) ?B ?F ?N ?X ?T ?hA ?hf ?hke ?ha ?hh ?hd ?hu ?_; (case B => k_asm); (case F => k_asm); (case N => k_asm); (case X => k_asm); (case T => k_asm); (case hA => exact rfl); (case hf => exact rfl); (case hke => exact rfl); (case ha => exact subs_cons (by k_mem) (subs_cons (by k_mem) (subs_cons (by k_mem) subs_nil))); (case hh => exact rfl); (case hd => exact Nat.le_of_ble_eq_true rfl); (case hu => exact Nat.le_of_ble_eq_true rfl)); (intro v9 own9 h' tk9 g9 hP9 B' X' T' F' N' hne9 hK9; (k_dflt (replace hSt := stays_on hSt hK9)); (obtain ⟨e9a, hv9⟩ := hP9); subst e9a; (simp only [List.nil_append] at N'); (rcases hv9 with ⟨rfl, hq9⟩ | ⟨⟨t8, rfl⟩, hq9⟩); ((have hn9 := told_yes hB9 hpg8 hq9); (try k_fold)); rotate_left; ((have hn9 := told_no hB9 hpg8 hq9); (try k_fold); rotate_left))))
  k_with "compareOp Eq ref ref" => (k_here; (k_dflt (refine' eq_nil_yes ?ne_N ?ne_a ?ne_b hts8 ?ne_h hn9 ?ne_u ?_; (case ne_N => k_asm); (case ne_a => k_mem); (case ne_b => k_mem); (case ne_h => (repeat' first | exact fun _ h => h | exact subs_l | exact subs_r | exact subs_lr | refine subs_tail ?_)); (case ne_u => units_room))))
  k_with "eq" => (k_dflt (refine' eq_nil_yes ?ne_N ?ne_a ?ne_b hts8 ?ne_h hn9 ?ne_u ?_; (case ne_N => k_asm); (case ne_a => k_mem); (case ne_b => k_mem); (case ne_h => (repeat' first | exact fun _ h => h | exact subs_l | exact subs_r | exact subs_lr | refine subs_tail ?_)); (case ne_u => units_room)))
  k_with "compareOp Eq ref ref" => (k_here; (k_dflt (refine' eq_nil_no ?ne_N ?ne_a ?ne_b hts8 ?ne_h hn9 ?ne_u ?_; (case ne_N => k_asm); (case ne_a => k_mem); (case ne_b => k_mem); (case ne_h => (repeat' first | exact fun _ h => h | exact subs_l | exact subs_r | exact subs_lr | refine subs_tail ?_)); (case ne_u => units_room))))
  k_with "eq" => (k_dflt (refine' eq_nil_no ?ne_N ?ne_a ?ne_b hts8 ?ne_h hn9 ?ne_u ?_; (case ne_N => k_asm); (case ne_a => k_mem); (case ne_b => k_mem); (case ne_h => (repeat' first | exact fun _ h => h | exact subs_l | exact subs_r | exact subs_lr | refine subs_tail ?_)); (case ne_u => units_room)))
  k_with "compareOp Eq ref ref" => (k_here; (k_dflt (refine' eq_steps ?ne_N ?ne_a ?ne_b hps7 hts8 ?ne_h ?ne_i ?ne_u ?_; (case ne_N => k_asm); (case ne_a => k_mem); (case ne_b => k_mem); (case ne_h => (repeat' first | exact fun _ h => h | exact subs_l | exact subs_r | exact subs_lr | refine subs_tail ?_)); (case ne_i => (repeat' first | exact fun _ h => h | exact subs_l | exact subs_r | exact subs_lr | refine subs_tail ?_)); (case ne_u => units_room))))
  k_with "eq" => (k_dflt (refine' eq_steps ?ne_N ?ne_a ?ne_b hps7 hts8 ?ne_h ?ne_i ?ne_u ?_; (case ne_N => k_asm); (case ne_a => k_mem); (case ne_b => k_mem); (case ne_h => (repeat' first | exact fun _ h => h | exact subs_l | exact subs_r | exact subs_lr | refine subs_tail ?_)); (case ne_i => (repeat' first | exact fun _ h => h | exact subs_l | exact subs_r | exact subs_lr | refine subs_tail ?_)); (case ne_u => units_room)))
  k_with "call ref" => ((with_reducible show wpAny _ _ (call (Value.ref 126) _ _) _ _ _); (k_dflt (refine' useU [(_, _), (_, _)] (fun U9 => c_mend hRp8 hRb9 hpl8 hlen9 U9) ?B ?F ?N ?X ?T ?hA ?hf ?hke ?ha ?hh ?hd ?hu ?_; (case B => k_asm); (case F => k_asm); (case N => k_asm); (case X => k_asm); (case T => k_asm); (case hA => exact rfl); (case hf => exact rfl); (case hke => exact rfl); (case ha => exact subs_cons (by k_mem) (subs_cons (by k_mem) subs_nil)); (case hh => exact rfl); (case hd => exact Nat.le_of_ble_eq_true rfl); (case hu => exact Nat.le_of_ble_eq_true rfl)); (intro v9 own9 h' tk9 g9 hP9 B' X' T' F' N' hne9 hK9; (k_dflt (replace hSt := stays_on hSt hK9)); (unfold MendPost at hP9); (obtain ⟨T7, r7, nr7, lm7, sl7, cap7, ps7, e9a, mt7, msl7, mr7, mps7, hmap7, hps7, hlm7⟩ := hP9); subst e9a; (rw [hpg8, mended_sts hB9 h49] at hmap7 hps7); (have hmd8 : lm7.map (·.1) = pg8.map (·.1) := hmap7.trans hpg8.symm); (k_dflt (replace N' := mend_news N' mt7 msl7 mr7 (by k_mem) mps7)); (simp only [List.cons_append, List.nil_append] at N'); (try k_sweep))))
  k_with "call ref" => ((with_reducible show wpAny _ _ (call (Value.ref 79) _ _) _ _ _); (k_dflt (refine' useU [(_, _), (_, _), (_, _)] (fun U9 => c_safe_look hlm7 hpl8 U9) ?B ?F ?N ?X ?T ?hA ?hf ?hke ?ha ?hh ?hd ?hu ?_; (case B => k_asm); (case F => k_asm); (case N => k_asm); (case X => k_asm); (case T => k_asm); (case hA => exact rfl); (case hf => exact rfl); (case hke => exact rfl); (case ha => exact subs_cons (by k_mem) (subs_cons (by k_mem) (subs_cons (by k_mem) subs_nil))); (case hh => exact rfl); (case hd => exact Nat.le_of_ble_eq_true rfl); (case hu => exact Nat.le_of_ble_eq_true rfl)); (intro v9 own9 h' tk9 g9 hP9 B' X' T' F' N' hne9 hK9; (k_dflt (replace hSt := stays_on hSt hK9)); (obtain ⟨e9a, hv9⟩ := hP9); subst e9a; (obtain rfl := safe_none hv9 hmd8); (simp only [List.nil_append] at N'); (try k_sweep))))
  w_top off
  k_steps
  all_goals (k_dflt exact law_end hSt (by k_asm) (by assumption)))
