import PyProof.Rows.All
import Wide.All
import OpenK.AllK
import Wide.FinOn
import KE.KSortedM
import KE.KxSplit
import Lean
import PySem.Challenge.RW_wn0045_01
set_option Elab.async false
set_option linter.unusedVariables false
set_option linter.unusedSimpArgs false
namespace Mine
section
open PySem PySem.W PyProof.Rows
set_option maxRecDepth 100000 in
set_option maxHeartbeats 8000000 in
open_top hd for PySem.Challenge.rw_wn0045_01
end

section
open PySem PySem.W PyProof.Rows PySem.Calls
set_option maxRecDepth 100000

/-- every object of the one heap stands in the other as it was -/
def Ext (h h' : Heap) : Prop := ∀ b o, h.get? b = some o → h'.get? b = some o
theorem Ext.list {h h' : Heap} {l : Addr} {its : Array Value} (e : Ext h h') (x : h.IsList l its) : h'.IsList l its := let ⟨o, ho, r⟩ := x; ⟨o, e _ _ ho, r⟩

abbrev PG : Program := PySem.Challenge.rw_wn0045_01.row.prog

/-- what a pure call of the def at `f` with the values `vs` gives back: `Pre` of the state at the call, `Post` of the answer -/
abbrev Tell (w : World) (n : Nat) (f : Addr) (vs : List Value) (Pre : Shared → Prop) (Post : Heap → Value → Heap → Prop) : Prop :=
  ∀ (loose : List Str) (mean : ExcName → Option Value) (mg mb : Str → Option Value) (dp un : Nat) (gd : Option (List Code)) (cn : Str) (cs : Scope) (a : Addr) (ccd : Value) (cl : List (Str × Addr)) (outer : List Env) (A₀ : Around) (base h₀ : Heap) (L : Addr) (m : Str → Option Value) (s : Shared) (Q E : Value → Shared → Prop),
    Below A₀ base outer h₀ → Fr h₀ L s.heap m → (hd.heap_39 w.params).In h₀ → Top topProg loose mean mg mb h₀ → cs.kind = .function → dp + n < recursionLimit → un + 20 * n < cLine → Pre s →
      (∀ (v : Value) (h' : Heap) (tk' : Nat), Ext s.heap h' → Post s.heap v h' → Q v { s with heap := h', toks := tk' }) →
      wpAny (model PG w) (ktrTop dp un gd cn cs L a ccd cl outer) (call (.ref f) vs) Q E s

section
variable {prog : Program} {w : World} {A₀ A : Around} {s : Shared} {base h₀ : Heap} {outer : List Env} {L : Addr} {m : Str → Option Value} {env : Env} {K : Frag}
  {p : Program} {loose : List Str} {mean : ExcName → Option Value} {mg mb : Str → Option Value}
  {R : Result → Shared → Prop} {name qual : Str} {params : Arguments} {body : List Stmt} {scope : Scope} {dV kV doc pm cdv ct oc : Value} {an od : Option Addr} {osl : Array (Option Value)} {f : Addr} {args : Args} {binds : List (Str × Value)}

theorem GSub.ext {H g : Heap} (x : GSub H g []) : Ext H g := fun b o e => x b o e (by simp)

/-- a call of a def with cells: the callee's ground is the whole heap at the call -/
theorem enter_cells (B : Below A₀ base outer h₀) (F : Fr h₀ L s.heap m) (X₀ : K.In h₀) (T : Top p loose mean mg mb h₀) (hA : A.frames = some (env :: outer)) (hf : env.frame = some L) (hke : env.scope.kind = .function)
    (ho : K.lookup f = some ⟨oc, od, .func (fnOf name qual params body scope dV kV doc pm an cdv ct), osl⟩) (hcd : codeIn K cdv qual = true) (hroom : A.depth < recursionLimit)
    (hbind : BindsTo s (fnOf name qual params body scope dV kV doc pm an cdv ct) args binds) (hkind : (binds.all fun y => scope.names.lookup y.1 == some .local || scope.names.lookup y.1 == some .cell) = true)
    (hnd : ((cellsFrom 0 scope.names []).map (·.1)).Nodup)
    (h : ∀ g L' h₁ tk cells, Fr h₀ L g m → Fr g L' h₁ (bindL (envOfC qual scope L' f cdv).kindOf binds fun _ => none) → News g L' h₁ cells →
      CellsAre (bindC (envOfC qual scope L' f cdv).kindOf binds fun _ => none) (cellsFrom (L' + 1) scope.names []) cells → Below A base (env :: outer) g → K.In g → Top p loose mean mg mb g → Ext s.heap g →
      wpAny (model prog w) (A.deeper (envOfC qual scope L' f cdv)) (execs body (envOfC qual scope L' f cdv))
        (fun fl s' => LeaveK h₀ L m g R (match fl with | .ret v => v | _ => .none) s')
        (fun e s' => wpAny (model prog w) (A.deeper (envOfC qual scope L' f cdv)) (leaving (envOfC qual scope L' f cdv) e) (fun _ s'' => R (.error e) s'') (fun e' s'' => R (.error e') s'') s')
        { s with heap := h₁, toks := tk })
    (hco : scope.isCoroutine = false) (hgen : scope.isGenerator = false) (hk : scope.kind = .function) : codeAny (model prog w) A (.call (.ref f) args) R s := by
  have N : News h₀ L s.heap [] := fun p hp => nomatch hp
  obtain ⟨FG, BG, st, lv⟩ := groundX (R := R) B F N hA hf hke
  refine codeAny_call_function (fd := fnOf name qual params body scope dV kV doc pm an cdv ct) hroom ((X₀.keeps F.keep) _ _ ho) rfl hco hgen rfl (codeRec_of (X₀.keeps F.keep) hcd) (hbind _ _ _ _ ?_)
  refine wpAny_newFunctionEnv_cells hk (kindsX hkind _) fun env' he s' x => ?_
  subst he
  refine ⟨(T.nolimit.keeps F.keep).keeps x.toInCall.keep, codeAny_func ?_⟩
  obtain ⟨h₁, tk, rfl, _⟩ := x.done
  have hk₁ := x.toInCall.keep
  obtain ⟨cells, NC, Y⟩ := Cl.news (h₀ := s.heap) (Nat.le_refl _) fun n c hm => ⟨x.cell n c (lookup_of_mem_nodup (cellsFrom_names scope.names 0 (s.heap.objs.size + 1) [] [] rfl ▸ hnd) hm), x.above n c hm⟩
  exact wpAny_mono (h s.heap s.heap.objs.size h₁ tk cells FG ⟨x.toInCall.ns, fun b o e => hk₁ b o e, Nat.le_refl _⟩ NC Y BG (X₀.keeps F.keep) (T.keeps F.keep) (fun _ _ e => e)) (fun fl s' hl => lv _ _ hl) fun _ _ y => y
end

theorem mc_leave {w : World} {Q E : Value → Shared → Prop} {s : Shared} {g h h₀ : Heap} {L L' : Addr} {m m' : Str → Option Value} {news : List (Addr × Obj)} {v : Value} {tk : Nat} {Post : Heap → Value → Heap → Prop}
    (hret : ∀ (v : Value) (h' : Heap) (tk' : Nat), Ext s.heap h' → Post s.heap v h' → Q v { s with heap := h', toks := tk' }) (kE : Ext s.heap g) (F : Fr g L' h m') (N : News g L' h news) (hp : Post s.heap v h) :
    LeaveK h₀ L m g (fun r s' => match r with | .ok (.ret v) => Q v s' | .ok _ => False | .error e => E e s') v { s with heap := h, toks := tk } :=
  leaveK_ F N fun _ _ => hret v h tk (fun b o e => F.keep b o (kE b o e)) hp

/-- a pure def's contract at a call: the caller's frame and ledger stand -/
theorem call_use {w : World} {n : Nat} {f : Addr} {vs : List Value} {Pre : Shared → Prop} {Post : Heap → Value → Heap → Prop} (C : Tell w n f vs Pre Post)
    {loose : List Str} {mean : ExcName → Option Value} {mg mb : Str → Option Value} {dp un : Nat} {gd : Option (List Code)} {cn : Str} {cs : Scope} {a : Addr} {ccd : Value} {cl : List (Str × Addr)} {outer : List Env} {A₀ : Around} {base h₀ : Heap} {L : Addr} {m : Str → Option Value} {s : Shared} {news : List (Addr × Obj)} {Q E : Value → Shared → Prop}
    (B : Below A₀ base outer h₀) (F : Fr h₀ L s.heap m) (X : (hd.heap_39 w.params).In h₀) (N : News h₀ L s.heap news) (T : Top topProg loose mean mg mb h₀) (hk : cs.kind = .function) (hd : dp + n < recursionLimit) (hu : un + 20 * n < cLine) (hp : Pre s)
    (h : ∀ v h' tk', Ext s.heap h' → Post s.heap v h' → Fr h₀ L h' m → News h₀ L h' news → Q v { s with heap := h', toks := tk' }) :
    wpAny (model PG w) (ktrTop dp un gd cn cs L a ccd cl outer) (call (.ref f) vs) Q E s :=
  C loose mean mg mb dp un gd cn cs a ccd cl outer A₀ base h₀ L m s Q E B F X T hk hd hu hp fun v h' tk' k hq => h v h' tk' k hq (F.kept k) fun p hp => ⟨k _ _ (N p hp).1, (N p hp).2⟩

end

section
open PySem PySem.W PyProof.Rows PySem.Calls
set_option maxRecDepth 100000
/-- what the callee has made was not there at the call -/
theorem new_of {s g h : Heap} {L l : Addr} {o : Obj} {news : List (Addr × Obj)} (kE : Ext s g) (N : News g L h news) (hm : (l, o) ∈ news) : s.get? l = none := by
  cases q : s.get? l with
  | none => rfl
  | some x =>
    have h1 := kE _ _ q
    have h2 := (N _ hm).2.2
    have h3 : g.get? l = none := h2
    rw [h3] at h1; cases h1
end

section
open PySem PySem.Sre
set_option linter.unusedVariables false
set_option linter.unusedSimpArgs false

def code1 : Array Nat := #[14, 4, 0, 1, 1, 6, 1, 16, 46, 1]
def code2 : Array Nat := #[14, 9, 4, 1, 2, 16, 10, 16, 13, 0, 7, 7, 16, 13, 16, 10, 15, 18, 5, 16, 10, 15, 13, 11, 16, 13, 5, 5, 0, 16, 10, 1, 15, 2, 0, 1]

theorem runFor_stop (m : M) (h : m.outcome.isSome = true) : ∀ n, m.runFor n = m
  | 0 => rfl
  | n + 1 => by rw [M.runFor, if_pos h]
theorem runFor_add (m : M) : ∀ a b, m.runFor (a + b) = (m.runFor a).runFor b
  | 0, b => by rw [Nat.zero_add]; rfl
  | a + 1, b => by
    rw [Nat.succ_add, M.runFor, M.runFor]
    by_cases h : m.outcome.isSome = true
    · rw [if_pos h, if_pos h, runFor_stop m h]
    · rw [if_neg h, if_neg h]; exact runFor_add _ a b
theorem step_none {m : M} {n : Nat} (h : m.outcome = none) : m.runFor (n + 1) = m.step.runFor n := by
  rw [M.runFor, if_neg (by rw [h]; simp)]

abbrev base2 (text : Array Nat) (lim pos : Nat) (must : Bool) : M :=
  { code := code2, text, lim, start := pos, pc := 10, pos, handed := pos, marks := #[], mustAdvance := must, seen := ({} : Seen).add 14 }

theorem search2_eq (text : Array Nat) (pos lim : Nat) (must : Bool) (h : pos + 1 ≤ lim) :
    forSearch code2 text 0 pos lim must = M.attemptFrom { base2 text lim pos must with lastStart := lim } pos true := by
  have h1 : forSearch code2 text 0 pos lim must = if (decide (pos > lim) || decide (lim - pos < 1)) = true then (base2 text lim pos must).say false else M.attemptFrom { base2 text lim pos must with lastStart := lim } pos true := rfl
  rw [h1, if_neg]
  have a : ¬ pos > lim := by omega
  have b : ¬ lim - pos < 1 := by omega
  simp [a, b]
theorem search2_short (text : Array Nat) (pos lim : Nat) (must : Bool) (h : ¬ pos + 1 ≤ lim) :
    forSearch code2 text 0 pos lim must = (base2 text lim pos must).say false := by
  have h1 : forSearch code2 text 0 pos lim must = if (decide (pos > lim) || decide (lim - pos < 1)) = true then (base2 text lim pos must).say false else M.attemptFrom { base2 text lim pos must with lastStart := lim } pos true := rfl
  rw [h1, if_pos]
  by_cases a : pos > lim
  · simp [a]
  · have b : lim - pos < 1 := by omega
    simp [b]

theorem inSet2 (c : Nat) (seen : Seen) : ∃ seen', inSet code2 c code2.size 5 true seen = .ok (c == 10 || c == 13, seen') := by
  by_cases h1 : c = 10
  · subst h1; exact ⟨_, rfl⟩
  · by_cases h2 : c = 13
    · subst h2; exact ⟨_, rfl⟩
    · have e1 : (c == 10) = false := by simpa using h1
      have e2 : (c == 13) = false := by simpa using h2
      rw [e1, e2]
      exact ⟨_, by simp [inSet, code2, ops, h1, h2]; rfl⟩

theorem admitted2_found (m : M) (hm : m.code = code2) (q : Nat) (hq : q < m.lim) (hc : m.text.getD q 0 = 10) : ∀ (fuel s : Nat) (seen : Seen), q + 1 ≤ s + fuel → s ≤ q →
    (∀ i, s ≤ i → i < q → m.text.getD i 0 ≠ 10 ∧ m.text.getD i 0 ≠ 13) → ∃ seen', M.admitted m fuel s seen = .ok (some q, seen')
  | 0, s, seen, h1, h2, _ => by omega
  | fuel + 1, s, seen, h1, h2, h3 => by
    unfold M.admitted
    rw [if_neg (by omega), hm]
    obtain ⟨seen', e⟩ := inSet2 (m.text.getD s 0) seen
    rw [e]
    by_cases hs : s = q
    · subst hs
      rw [hc]
      exact ⟨_, rfl⟩
    · obtain ⟨a, b⟩ := h3 s (Nat.le_refl _) (by omega)
      have e' : (m.text.getD s 0 == 10 || m.text.getD s 0 == 13) = false := by simp only [Bool.or_eq_false_iff, beq_eq_false_iff_ne]; exact ⟨a, b⟩
      rw [e']
      exact admitted2_found m hm q hq hc fuel (s + 1) seen' (by omega) (by omega) fun i hi hi' => h3 i (by omega) hi'
theorem admitted2_none (m : M) (hm : m.code = code2) : ∀ (fuel s : Nat) (seen : Seen), (∀ i, s ≤ i → i < m.lim → m.text.getD i 0 ≠ 10 ∧ m.text.getD i 0 ≠ 13) → ∃ seen', M.admitted m fuel s seen = .ok (none, seen')
  | 0, s, seen, _ => ⟨_, rfl⟩
  | fuel + 1, s, seen, h3 => by
    unfold M.admitted
    by_cases hs : s ≥ m.lim
    · rw [if_pos hs]; exact ⟨_, rfl⟩
    · rw [if_neg hs, hm]
      obtain ⟨seen', e⟩ := inSet2 (m.text.getD s 0) seen
      rw [e]
      obtain ⟨a, b⟩ := h3 s (Nat.le_refl _) (by omega)
      have e' : (m.text.getD s 0 == 10 || m.text.getD s 0 == 13) = false := by simp only [Bool.or_eq_false_iff, beq_eq_false_iff_ne]; exact ⟨a, b⟩
      rw [e']
      exact admitted2_none m hm fuel (s + 1) seen' fun i hi hi' => h3 i (by omega) hi'

/-- the machine set at a place where a feed stands: it matches in nine steps -/
theorem at2_found (text : Array Nat) (lim start lastStart handed : Nat) (seen : Seen) (s : Nat) (hs : s < lim) (hc : text.getD s 0 = 10) :
    ∃ m : M, M.runFor 9 (M.attemptAt { code := code2, text, lim, start, lastStart, pc := 10, pos := start, handed, marks := #[], seen } s true) = m ∧ (∃ o, m.outcome = some o ∧ o = .matched) ∧ m.start = s ∧ m.handed = s + 1 := by
  refine ⟨_, rfl, ?_⟩
  have hs' : ¬ (s ≥ lim) := by omega
  simp [M.attemptAt, M.runFor, M.step, M.exec, M.word, code2, ops, M.alternative, M.keep, M.attempt, M.frame, M.resume, M.putBack, M.say, accepts, itemWidth, hc, hs']

theorem search2_found (text : Array Nat) (pos lim q : Nat) (must : Bool) (h1 : pos ≤ q) (h2 : q < lim) (hc : text.getD q 0 = 10) (hb : ∀ i, pos ≤ i → i < q → text.getD i 0 ≠ 10 ∧ text.getD i 0 ≠ 13) :
    ∃ m : M, (forSearch code2 text 0 pos lim must).runFor 9 = m ∧ (∃ o, m.outcome = some o ∧ o = .matched) ∧ m.start = q ∧ m.handed = q + 1 := by
  rw [search2_eq text pos lim must (by omega)]
  unfold M.attemptFrom
  rw [if_neg (by simp [M.hasFirstSet, code2, ops])]
  obtain ⟨seen', e⟩ := admitted2_found { base2 text lim pos must with lastStart := lim } rfl q h2 hc (lim + 1 - pos) pos (({} : Seen).add 14) (by omega) h1 hb
  rw [e]
  exact at2_found text lim pos lim pos seen' q h2 hc

theorem search2_none (text : Array Nat) (pos lim : Nat) (must : Bool) (hb : ∀ i, pos ≤ i → i < lim → text.getD i 0 ≠ 10 ∧ text.getD i 0 ≠ 13) :
    ∃ m : M, (forSearch code2 text 0 pos lim must).runFor 9 = m ∧ ∃ o, m.outcome = some o ∧ o = .failed := by
  by_cases h : pos + 1 ≤ lim
  · rw [search2_eq text pos lim must h]
    unfold M.attemptFrom
    rw [if_neg (by simp [M.hasFirstSet, code2, ops])]
    obtain ⟨seen', e⟩ := admitted2_none { base2 text lim pos must with lastStart := lim } rfl (lim + 1 - pos) pos (({} : Seen).add 14) hb
    rw [e]
    refine ⟨_, rfl, ?_⟩
    simp [M.runFor, M.step, M.say]
  · rw [search2_short text pos lim must h]
    refine ⟨_, rfl, ?_⟩
    simp [M.runFor, M.step, M.say]

abbrev base1 (text : Array Nat) (lim pos : Nat) (must : Bool) : M :=
  { code := code1, text, lim, start := pos, pc := 5, pos, handed := pos, marks := #[], mustAdvance := must, seen := ({} : Seen).add 14 }
theorem search1_eq (text : Array Nat) (pos lim : Nat) (must : Bool) (h : pos + 1 ≤ lim) :
    forSearch code1 text 0 pos lim must = M.attemptFrom { base1 text lim pos must with lastStart := lim } pos true := by
  have h1 : forSearch code1 text 0 pos lim must = if (decide (pos > lim) || decide (lim - pos < 1)) = true then (base1 text lim pos must).say false else M.attemptFrom { base1 text lim pos must with lastStart := lim } pos true := rfl
  rw [h1, if_neg]
  have a : ¬ pos > lim := by omega
  have b : ¬ lim - pos < 1 := by omega
  simp [a, b]
theorem search1_short (text : Array Nat) (pos lim : Nat) (must : Bool) (h : ¬ pos + 1 ≤ lim) :
    forSearch code1 text 0 pos lim must = (base1 text lim pos must).say false := by
  have h1 : forSearch code1 text 0 pos lim must = if (decide (pos > lim) || decide (lim - pos < 1)) = true then (base1 text lim pos must).say false else M.attemptFrom { base1 text lim pos must with lastStart := lim } pos true := rfl
  rw [h1, if_pos]
  by_cases a : pos > lim
  · simp [a]
  · have b : lim - pos < 1 := by omega
    simp [b]

abbrev st1 (text : Array Nat) (lim start handed : Nat) (om must : Bool) (seen : Seen) : M :=
  { code := code1, text, lim, start, lastStart := lim, pc := 5, pos := start, handed, marks := #[], mustAdvance := must, outermost := om, seen }
theorem st1_on (text : Array Nat) (lim s start handed : Nat) (om must first : Bool) (seen : Seen) (hs : s < lim) (hc : text.getD s 0 ≠ 46) :
    ∃ n seen', n ≤ 3 ∧ M.runFor n (M.attemptFrom (st1 text lim start handed om must seen) s first) = M.attemptFrom (st1 text lim s s first false seen') (s + 1) false := by
  have hs' : ¬ lim ≤ s := by omega
  have hc' : (text[s]?.getD 0 == 46) = false := by simpa using hc
  by_cases h0 : s = 0 ∨ text.getD (s - 1) 0 = 10
  · have h0' : s = 0 ∨ text[s - 1]?.getD 0 = 10 := by simpa using h0
    refine ⟨3, ((seen.add 6).add 44).add 16, Nat.le_refl _, ?_⟩
    simp only [M.attemptFrom, M.hasFirstSet, st1]
    simp [M.attemptAt, M.runFor, M.step, M.exec, M.word, code1, ops, M.isAt, M.attempt, M.frame, M.resume, M.putBack, M.say, accepts, itemWidth, M.attemptFrom, M.hasFirstSet, h0', hc', hs', hs]
  · have h0' : ¬ (s = 0 ∨ text[s - 1]?.getD 0 = 10) := by simpa using h0
    refine ⟨2, ((seen.add 6).add 44), by omega, ?_⟩
    simp only [M.attemptFrom, M.hasFirstSet, st1]
    simp [M.attemptAt, M.runFor, M.step, M.exec, M.word, code1, ops, M.isAt, M.attempt, M.frame, M.resume, M.putBack, M.say, accepts, itemWidth, M.attemptFrom, M.hasFirstSet, h0', hs]
theorem st1_end (text : Array Nat) (s start handed : Nat) (om must first : Bool) (seen : Seen) :
    ∃ m, M.runFor 5 (M.attemptFrom (st1 text s start handed om must seen) s first) = m ∧ ∃ o, m.outcome = some o ∧ o = .failed := by
  refine ⟨_, rfl, ?_⟩
  by_cases h0 : s = 0 ∨ text.getD (s - 1) 0 = 10
  · have h0' : s = 0 ∨ text[s - 1]?.getD 0 = 10 := by simpa using h0
    simp only [M.attemptFrom, M.hasFirstSet, st1]
    simp [M.attemptAt, M.runFor, M.step, M.exec, M.word, code1, ops, M.isAt, M.attempt, M.frame, M.resume, M.putBack, M.say, accepts, itemWidth, M.attemptFrom, M.hasFirstSet, h0']
  · have h0' : ¬ (s = 0 ∨ text[s - 1]?.getD 0 = 10) := by simpa using h0
    simp only [M.attemptFrom, M.hasFirstSet, st1]
    simp [M.attemptAt, M.runFor, M.step, M.exec, M.word, code1, ops, M.isAt, M.attempt, M.frame, M.resume, M.putBack, M.say, accepts, itemWidth, M.attemptFrom, M.hasFirstSet, h0']
/-- no dot: every start falls -/
theorem at1_none (text : Array Nat) (lim : Nat) (hb : ∀ i, i < lim → text.getD i 0 ≠ 46) : ∀ (k s start handed : Nat) (om must first : Bool) (seen : Seen), s + k = lim →
    ∃ (N : Nat) (m : M), N ≤ 3 * k + 5 ∧ M.runFor N (M.attemptFrom (st1 text lim start handed om must seen) s first) = m ∧ ∃ o, m.outcome = some o ∧ o = .failed := by
  intro k
  induction k with
  | zero =>
    intro s start handed om must first seen hk
    have hs : s = lim := by omega
    subst hs
    obtain ⟨m, e, r⟩ := st1_end text s start handed om must first seen
    exact ⟨5, m, by omega, e, r⟩
  | succ k ih =>
    intro s start handed om must first seen hk
    obtain ⟨n, seen', hn, e⟩ := st1_on text lim s start handed om must first seen (by omega) (hb s (by omega))
    obtain ⟨N, m, hN, e', r⟩ := ih (s + 1) s s first false false seen' (by omega)
    refine ⟨n + N, m, by omega, ?_, r⟩
    rw [runFor_add, e, e']
theorem search1_none (text : Array Nat) (pos lim : Nat) (must : Bool) (hp : pos ≤ lim) (hb : ∀ i, i < lim → text.getD i 0 ≠ 46) :
    ∃ (N : Nat) (m : M), N ≤ 3 * lim + 5 ∧ (forSearch code1 text 0 pos lim must).runFor N = m ∧ ∃ o, m.outcome = some o ∧ o = .failed := by
  by_cases h : pos + 1 ≤ lim
  · rw [search1_eq text pos lim must h]
    obtain ⟨N, m, hN, r⟩ := at1_none text lim hb (lim - pos) pos pos pos true must true (({} : Seen).add 14) (by omega)
    exact ⟨N, m, by omega, r⟩
  · rw [search1_short text pos lim must h]
    refine ⟨5, _, by omega, rfl, ?_⟩
    simp [M.runFor, M.step, M.say]
end

section
open PySem PyProof.Rows PySem.Calls PySem.Builtin PySem.Builtin.Re
set_option linter.unusedVariables false
set_option linter.unusedSimpArgs false
set_option maxRecDepth 100000

namespace F
theorem plainAttrs_pat : PlainAttrs "re.Pattern" :=
  ⟨⟨"object.__getattribute__", by rw [typeLookup_type, builtinLookup_eq_fast]; kernel_rfl, by decide +kernel⟩, by rw [typeLookup_type, builtinLookup_eq_fast]; kernel_rfl⟩
theorem slot_pat_sub : Slot "re.Pattern" "sub" "re.Pattern.sub" :=
  .of (owner := "re.Pattern") (n := "sub") (by rw [typeLookup_type, builtinLookup_eq_fast]; kernel_rfl) (by decide +kernel) (by decide +kernel) (by decide +kernel)
    (by first | exact .inl (by decide +kernel) | exact .inr (by decide +kernel)) (by rw [isSubtype_type]; kernel_rfl)
theorem type_pat_sub : typeOf (.builtin "re.Pattern.sub") = pure (.type "method_descriptor") := by show builtinType _ = _; rw [builtinType_eq_fast]; kernel_rfl
theorem entry_pat_sub : entryFor table "re.Pattern.sub" = some Builtin.«re.Pattern.sub» := entryFor_of_tree (by kernel_rfl)
theorem args_pat_sub (a b c : Value) : argsOk "re.Pattern.sub" ⟨[a, b, c], []⟩ := by unfold argsOk; kernel_rfl
theorem entry_pat_loop : entryFor table "re.Pattern.sub.loop" = some Builtin.«re.Pattern.sub.loop» := entryFor_of_tree (by kernel_rfl)
theorem plain_pat_loop : plainId "re.Pattern.sub.loop" = true := by decide +kernel
theorem str_call : typeLookup (.type "str") "__call__" = pure none := by rw [typeLookup_type, builtinLookup_eq_fast]; kernel_rfl
end F

section
variable {M : Model} {A : Around} {E : Value → Shared → Prop} {s : Shared}

theorem wpAny_reDrive {Q : Sre.M → Shared → Prop} : ∀ (turns N : Nat) (m : Sre.M), N ≤ 4 * turns → 0 < turns → (m.runFor N).outcome.isSome = true → Q (m.runFor N) s → wpAny M A (reDrive turns m) Q E s
  | 0, _, _, _, h, _, _ => absurd h (Nat.lt_irrefl _)
  | turns + 1, N, m, hN, _, ho, h => by
    unfold reDrive
    dsimp only
    have key : (m.runFor reTurnSteps).outcome.isSome = true → m.runFor reTurnSteps = m.runFor N := fun h4 => by
      show m.runFor 4 = _
      rcases Nat.le_total N 4 with hle | hle
      · have e : 4 = N + (4 - N) := by omega
        rw [e, runFor_add, runFor_stop _ ho]
      · have e : N = 4 + (N - 4) := by omega
        have h4' : (m.runFor 4).outcome.isSome = true := h4
        rw [e, runFor_add, runFor_stop _ h4']
    by_cases h4 : (m.runFor reTurnSteps).outcome.isSome = true
    · rw [if_pos h4, key h4]; exact wpAny_pure h
    · rw [if_neg h4]
      have hlt : 4 < N := by
        by_cases hle : N ≤ 4
        · exfalso
          apply h4
          show (m.runFor 4).outcome.isSome = true
          have e : 4 = N + (4 - N) := by omega
          rw [e, runFor_add, runFor_stop _ ho]; exact ho
        · omega
      have e : m.runFor N = (m.runFor reTurnSteps).runFor (N - 4) := by
        show _ = (m.runFor 4).runFor (N - 4)
        rw [← runFor_add]; congr 1; omega
      rw [e] at ho h
      exact wpAny_bind (wpAny_rule (wpAny_reDrive turns (N - 4) _ (by omega) (by omega) ho h))

theorem wpAny_forIn_quiet {α : Type} {Q : PUnit → Shared → Prop} {f : α → PUnit → Sem (ForInStep PUnit)} (hf : ∀ i (Q' : ForInStep PUnit → Shared → Prop), Q' (.yield ⟨⟩) s → wpAny M A (f i ⟨⟩) Q' E s) (h : Q ⟨⟩ s) : ∀ l : List α, wpAny M A (forIn l PUnit.unit f) Q E s
  | [] => by rw [List.forIn_nil]; exact wpAny_pure h
  | x :: l => by
    rw [List.forIn_cons]
    exact wpAny_bind (hf x _ (wpAny_forIn_quiet hf h l))

theorem wpAny_reRunToEnd {Q : Option Sre.M → Shared → Prop} {m m' : Sre.M} {N : Nat} {o : Sre.Outcome} (hN : N ≤ 2 ^ 40) (hm : m.runFor N = m') (ho : m'.outcome = some o)
    (h : match o with | .matched => Q (some m') s | .failed => Q none s | .stuck _ => False) : wpAny M A (reRunToEnd m) Q E s := by
  subst hm
  unfold reRunToEnd
  refine wpAny_bind (wpAny_reDrive (2 ^ 64) N m (Nat.le_trans hN (by decide)) (by decide) (by rw [ho]; rfl) ?_)
  refine wpAny_bind (wpAny_forIn_quiet (fun i Q' hq => ?_) ?_ _)
  · split
    · exact wpAny_bind (wpAny_rule (wpAny_pure hq))
    · exact wpAny_pure hq
  · rw [ho]
    cases o with
    | matched => exact wpAny_pure h
    | failed => exact wpAny_pure h
    | stuck w => exact h.elim

/-- a compiled pattern without groups stands at `a`, its words are `code` -/
structure PatAt (h : Heap) (a : Addr) (code : Array Nat) : Prop where
  obj : ∃ vs T ot xs n, h.get? a = some { cls := .type "re.Pattern", data := .fields vs } ∧ reRawNat (vs.getD 6 .none) = 0 ∧ reRawNat (vs.getD 2 .none) = 0 ∧ vs.getD 5 .none = .ref T ∧ h.get? T = some ot ∧ ot.cls = .type "tuple" ∧ ot.data = .seq xs n ∧ (xs.map reRawOf).map (·.toNat) = code
theorem PatAt.keeps {h h' : Heap} {a : Addr} {code : Array Nat} (x : PatAt h a code) (k : ∀ b o, h.get? b = some o → h'.get? b = some o) : PatAt h' a code :=
  let ⟨vs, T, ot, xs, n, e1, e2, e3, e4, e5, r⟩ := x.obj; ⟨vs, T, ot, xs, n, k _ _ e1, e2, e3, e4, k _ _ e5, r⟩

theorem wpAny_reWholeTarget {a : Addr} {code : Array Nat} {x : Str} {u : Tok} {Q : ReTarget → Shared → Prop} (P : PatAt s.heap a code)
    (h : Q { pattern := .ref a, string := .str x u, code, text := x.cps, kind := 0, groups := 0, pos := 0, lim := x.cps.size } s) : wpAny M A (reWholeTarget (.ref a) (.str x u)) Q E s := by
  obtain ⟨vs, T, ot, xs, n, e1, e2, e3, e4, e5, _, e6, e7⟩ := P.obj
  unfold reWholeTarget
  refine wpAny_bind (wpAny_fieldsOf e1 rfl ?_)
  refine wpAny_bind (wpAny_of_eq (t := reTextOf (.str x u)) (a := (x.cps, 0)) rfl ?_)
  dsimp only
  rw [e2, e3, e4]
  rw [if_neg (by decide), if_neg (by decide)]
  refine wpAny_bind (wpAny_of_eq (t := reNoCollectionInside (.str x u) 0) (a := ()) rfl ?_)
  unfold reRawItems
  refine wpAny_bind (wpAny_bind (wpAny_seqItems e5 e6 (wpAny_pure ?_)))
  show wpAny M A (pure _) Q E s
  refine wpAny_pure ?_
  rw [← e7] at h
  exact h
end

section
variable {prog : Program} {w : World} {A : Around} {E : Value → Shared → Prop} {s : Shared}

theorem wpAny_reNextFound {M : Model} {t : ReTarget} {start : Nat} {must : Bool} {Q : Option Sre.M → Shared → Prop} {m' : Sre.M} {N : Nat} {o : Sre.Outcome} (hN : N ≤ 2 ^ 40)
    (hm : (Sre.forSearch t.code t.text t.groups start t.lim must).runFor N = m') (ho : m'.outcome = some o)
    (h : match o with | .matched => Q (some m') s | .failed => Q none s | .stuck _ => False) : wpAny M A (reNextFound t start must) Q E s := wpAny_reRunToEnd hN hm ho h

theorem wpAny_reSlice {M : Model} {text : Array Nat} {b e : Nat} {Q : Value → Shared → Prop} (hz : text.size ≤ 2 ^ 20) (h : Q (.str ⟨text.extract b e⟩ s.toks) { s with toks := s.toks + 1 }) : wpAny M A (reSlice text 0 b e) Q E s := by
  unfold reSlice
  rw [if_pos (by rfl)]
  refine wpAny_mkStr h ?_
  show (text.extract b e).size ≤ sizeLine
  rw [sizeLine_eq, Array.size_extract]
  omega

theorem loop_tree (a l : Addr) (x y : Str) (u v : Tok) (n d st : Int) (must : Bool) : Builtin.«re.Pattern.sub.loop» ⟨[.ref a, .str x u, .str y v, rawInt 0, rawInt 0, rawInt n, rawInt d, rawInt st, .bool must, .ref l, .bool false], []⟩ = (do
    let t ← reWholeTarget (.ref a) (.str x u)
    reLiteralCannotBeTurned (.str y v)
    match ← reNextFound t st.toNat must with
    | some m =>
      if d.toNat < m.start then updateSeq l (·.push (← reSlice t.text t.kind d.toNat m.start))
      updateSeq l (·.push (.str y v))
      again (.builtin "re.Pattern.sub.loop" ⟨[.ref a, .str x u, .str y v, rawInt 0, rawInt 0, rawInt (n + 1), rawInt m.handed, rawInt m.handed, .bool (m.handed == m.start), .ref l, .bool false], []⟩)
    | none =>
      if d.toNat < t.lim then updateSeq l (·.push (← reSlice t.text t.kind d.toNat t.lim))
      let joiner ← reSlice t.text t.kind 0 0
      let text ← if ((← seqItems? (.ref l)).getD #[]).isEmpty then pure joiner
        else call (.builtin (if t.kind == 0 then "str.join" else "bytes.join")) [joiner, .ref l]
      ret text) := by
  rfl

theorem PatAt.but {h h' : Heap} {a l : Addr} {code : Array Nat} {items : Array Value} {cnt : Nat} (x : PatAt h a code) (ho : h.get? l = some (seqObj "list" items cnt)) (k : Heap.SameBut l h h') : PatAt h' a code := by
  obtain ⟨vs, T, ot, xs, n, e1, e2, e3, e4, e5, e6, e7⟩ := x.obj
  have n1 : a ≠ l := by rintro rfl; rw [ho] at e1; have e := congrArg Obj.cls (Option.some.inj e1); simp at e
  have n2 : T ≠ l := by rintro rfl; rw [ho] at e5; have e := congrArg Obj.cls (Option.some.inj e5); rw [e6] at e; simp at e
  exact ⟨vs, T, ot, xs, n, (k.2 _ n1).trans e1, e2, e3, e4, (k.2 _ n2).trans e5, e6, e7⟩

theorem push_at {M : Model} {l : Addr} {items : Array Value} {cnt : Nat} {v : Value} {Q : Unit → Shared → Prop} (ho : s.heap.get? l = some (seqObj "list" items cnt)) (hz : items.size ≤ 2 ^ 20)
    (h : ∀ h' n', h'.get? l = some (seqObj "list" (items.push v) n') → Heap.SameBut l s.heap h' → Q () { s with heap := h' }) : wpAny M A (updateSeq l (·.push v)) Q E s := by
  refine wpAny_updateSeq ho rfl (h _ _ (get?_update_seq ho (fun xs => xs.push v)) (Heap.SameBut.update ..)) (by rw [sizeLine_eq]; omega) (by rw [Array.size_push, sizeLine_eq]; omega)

def cat (ys : List Str) : List Nat := ys.flatMap fun y => y.cps.toList
theorem cat_append (a b : List Str) : cat (a ++ b) = cat a ++ cat b := by simp [cat]
theorem cat_one (a : Str) : cat [a] = a.cps.toList := by simp [cat]
theorem cat_length : ∀ ys : List Str, (cat ys).length = (ys.map (·.length)).sum
  | [] => rfl
  | y :: r => by
    have ih := cat_length r
    show (y.cps.toList ++ cat r).length = y.length + (r.map (·.length)).sum
    rw [List.length_append, ih]; rfl
theorem join_cat : ∀ ys : List Str, (Str.join ⟨#[]⟩ ys).cps.toList = cat ys
  | [] => rfl
  | [y] => by simp [Str.join, cat]
  | y :: z :: r => by
    have ih := join_cat (z :: r)
    show (y ++ ⟨#[]⟩ ++ Str.join ⟨#[]⟩ (z :: r)).cps.toList = y.cps.toList ++ cat (z :: r)
    rw [← ih]
    simp [Str.cps_append]
theorem str_eq {x : Str} {l : List Nat} (h : x.cps.toList = l) : x = ⟨l.toArray⟩ := by
  obtain ⟨⟨a⟩⟩ := x
  simp only at h
  rw [← h]

theorem strs_snoc {y : Str} {t : Tok} : ∀ {vs : List Value} {ys : List Str}, StrsAre vs ys → StrsAre (vs ++ [.str y t]) (ys ++ [y])
  | _, _, .nil => .cons y t .nil
  | _, _, .cons z u r => .cons z u (strs_snoc r)
theorem strs_len : ∀ {vs : List Value} {ys : List Str}, StrsAre vs ys → vs.length = ys.length
  | _, _, .nil => rfl
  | _, _, .cons _ _ r => congrArg (· + 1) (strs_len r)
theorem strs_push {y : Str} {t : Tok} {items : Array Value} {ys : List Str} (h : StrsAre items.toList ys) : StrsAre (items.push (.str y t)).toList (ys ++ [y]) := by
  rw [Array.toList_push]; exact strs_snoc h

/-- the list of the pieces grows by one text, where it is not empty -/
theorem piece_at {M : Model} {l : Addr} {items : Array Value} {cnt : Nat} {ys : List Str} {text : Array Nat} {b e : Nat} {K : Sem Fin} {P : Fin → Shared → Prop} (ho : s.heap.get? l = some (seqObj "list" items cnt)) (hs : StrsAre items.toList ys) (hz : items.size ≤ 2 ^ 20) (ht : text.size ≤ 2 ^ 20)
    (h : ∀ h' tk items' cnt' ys', h'.get? l = some (seqObj "list" items' cnt') → StrsAre items'.toList ys' → items'.size ≤ items.size + 1 → (b < e → items'.size = items.size + 1) → cat ys' = cat ys ++ (if b < e then (text.extract b e).toList else []) → Heap.SameBut l s.heap h' → wpAny M A K P E { s with heap := h', toks := tk }) :
    wpAny M A (if b < e then (do let v ← reSlice text 0 b e; updateSeq l (·.push v); K) else K) P E s := by
  by_cases hbe : b < e
  · rw [if_pos hbe]
    simp only [if_pos hbe] at h
    refine wpAny_bind (wpAny_reSlice ht ?_)
    refine wpAny_bind (push_at (s := { s with toks := s.toks + 1 }) ho hz fun h' n' e1 e2 => ?_)
    exact h h' _ _ n' _ e1 (strs_push hs) (by rw [Array.size_push]; exact Nat.le_refl _) (fun _ => Array.size_push _) (by rw [cat_append, cat_one]) e2
  · rw [if_neg hbe]
    simp only [if_neg hbe] at h
    exact h s.heap s.toks items cnt ys ho hs (Nat.le_succ _) (fun h' => absurd h' hbe) (by simp) ⟨rfl, fun _ _ => rfl⟩

theorem Txt_join (sep : Str) (ys : List Str) : Txt.join sep ys = Str.join sep ys := eq_of_beq (join_closes rfl)

theorem loop_none {a l : Addr} {x y : Str} {u v : Tok} {n d st : Int} {must : Bool} {code : Array Nat} {items : Array Value} {cnt : Nat} {ys : List Str} {R : Result → Shared → Prop} {m' : Sre.M} {N : Nat}
    (P : PatAt s.heap a code) (ho : s.heap.get? l = some (seqObj "list" items cnt)) (hs : StrsAre items.toList ys) (hz : items.size ≤ 2 ^ 18) (hx : x.length ≤ 2 ^ 18) (hc : (cat ys).length ≤ 2 ^ 18)
    (hN : N ≤ 2 ^ 40) (hm : (Sre.forSearch code x.cps 0 st.toNat x.cps.size must).runFor N = m') (hf : ∃ o, m'.outcome = some o ∧ o = .failed)
    (hR : ∀ t h' tk, Heap.SameBut l s.heap h' → R (.ok (.ret (.str ⟨(cat ys ++ x.cps.toList.drop d.toNat).toArray⟩ t))) { s with heap := h', toks := tk }) :
    codeAny (model prog w) A (.builtin "re.Pattern.sub.loop" ⟨[.ref a, .str x u, .str y v, rawInt 0, rawInt 0, rawInt n, rawInt d, rawInt st, .bool must, .ref l, .bool false], []⟩) R s := by
  have hx' : x.cps.size ≤ 2 ^ 18 := hx
  obtain ⟨o, ho', rfl⟩ := hf
  refine codeAny_builtin F.entry_pat_loop ?_
  rw [Around.under_plainId F.plain_pat_loop, loop_tree]
  refine wpAny_bind (wpAny_reWholeTarget P ?_)
  refine wpAny_bind (wpAny_of_eq (t := reLiteralCannotBeTurned (.str y v)) (a := ()) rfl ?_)
  refine wpAny_bind (wpAny_reNextFound (o := .failed) hN hm ho' ?_)
  dsimp only
  refine piece_at (text := x.cps) (b := d.toNat) (e := x.cps.size) ho hs (by omega) (by omega) fun h' tk items' cnt' ys' e1 e2 e3 e4 e5 e6 => ?_
  refine wpAny_bind (wpAny_reSlice (by omega) ?_)
  have hcat : cat ys' = cat ys ++ x.cps.toList.drop d.toNat := by
    rw [e5]
    congr 1
    by_cases hd : d.toNat < x.cps.size
    · rw [if_pos hd]; simp; exact List.take_of_length_le (by simp)
    · rw [if_neg hd, List.drop_eq_nil_of_le (by simpa using Nat.le_of_not_lt hd)]
  have hl : (cat ys').length ≤ 2 ^ 19 := by
    rw [hcat, List.length_append, List.length_drop]
    have : x.cps.toList.length = x.cps.size := Array.length_toList
    omega
  have hlen : ys'.length = items'.size := by
    rw [← strs_len e2, Array.length_toList]
  refine wpAny_bind (wpAny_seqItems e1 rfl ?_)
  have hextr : (x.cps.extract 0 0) = #[] := by simp
  by_cases hemp : items'.isEmpty = true
  · rw [if_pos (by exact hemp)]
    refine wpAny_bind (wpAny_pure (wpAny_pure ?_))
    have : ys' = [] := by
      have h0 : items'.size = 0 := by simpa using hemp
      rw [h0] at hlen
      exact List.eq_nil_of_length_eq_zero hlen
    have h0 := hR tk h' (tk + 1) e6
    rw [← hcat, this] at h0
    show R (.ok (.ret (.str ⟨x.cps.extract 0 0⟩ tk))) _
    rw [hextr]
    exact h0
  · rw [if_neg (by exact hemp)]
    refine wpAny_bind (join_list (s := { s with heap := h', toks := tk + 1 }) ⟨_, e1, rfl, _, rfl⟩ e2 ?_ fun t' k => wpAny_pure ?_)
    · rw [← cat_length, hextr]
      show (cat ys').length + ys'.length * 0 ≤ _
      omega
    · show R (.ok (.ret (.str (Txt.join ⟨x.cps.extract 0 0⟩ ys') t'))) _
      rw [hextr, Txt_join, str_eq ((join_cat ys').trans hcat)]
      exact hR _ _ _ e6

/-- one feed found: its piece and the other text are laid, the loop goes on behind it -/
theorem loop_some {a l : Addr} {x y : Str} {u v : Tok} {n d st : Int} {must : Bool} {code : Array Nat} {items : Array Value} {cnt : Nat} {ys : List Str} {R : Result → Shared → Prop} {m' : Sre.M} {N q : Nat}
    (P : PatAt s.heap a code) (ho : s.heap.get? l = some (seqObj "list" items cnt)) (hs : StrsAre items.toList ys) (hz : items.size ≤ 2 ^ 19) (hx : x.length ≤ 2 ^ 18)
    (hN : N ≤ 2 ^ 40) (hm : (Sre.forSearch code x.cps 0 st.toNat x.cps.size must).runFor N = m') (hf : ∃ o, m'.outcome = some o ∧ o = .matched) (hst : m'.start = q) (hhd : m'.handed = q + 1) (hdq : d.toNat ≤ q) (hq : q < x.cps.size)
    (hR : ∀ h' tk items' cnt' ys' n', h'.get? l = some (seqObj "list" items' cnt') → StrsAre items'.toList ys' → items'.size ≤ items.size + 2 → cat ys' = cat ys ++ ((x.cps.toList.drop d.toNat).take (q - d.toNat) ++ y.cps.toList) → Heap.SameBut l s.heap h' →
      codeAny (model prog w) A (.builtin "re.Pattern.sub.loop" ⟨[.ref a, .str x u, .str y v, rawInt 0, rawInt 0, rawInt n', rawInt ((q + 1 : Nat) : Int), rawInt ((q + 1 : Nat) : Int), .bool false, .ref l, .bool false], []⟩) R { s with heap := h', toks := tk }) :
    codeAny (model prog w) A (.builtin "re.Pattern.sub.loop" ⟨[.ref a, .str x u, .str y v, rawInt 0, rawInt 0, rawInt n, rawInt d, rawInt st, .bool must, .ref l, .bool false], []⟩) R s := by
  have hx' : x.cps.size ≤ 2 ^ 18 := hx
  obtain ⟨o, ho', rfl⟩ := hf
  refine codeAny_builtin F.entry_pat_loop ?_
  rw [Around.under_plainId F.plain_pat_loop, loop_tree]
  refine wpAny_bind (wpAny_reWholeTarget P ?_)
  refine wpAny_bind (wpAny_of_eq (t := reLiteralCannotBeTurned (.str y v)) (a := ()) rfl ?_)
  refine wpAny_bind (wpAny_reNextFound (o := .matched) hN hm ho' ?_)
  dsimp only
  rw [hst, hhd]
  refine piece_at ho hs (by omega) (by omega) fun h' tk items' cnt' ys' e1 e2 e3 e4 e5 e6 => ?_
  refine wpAny_bind (push_at e1 (by omega) fun h'' n'' e7 e8 => ?_)
  refine wpAny_pure ⟨plainId_quiet F.plain_pat_loop _, ?_⟩
  rw [show (q + 1 == q) = false from by simp]
  refine hR h'' tk _ n'' _ _ e7 (strs_push e2) (by rw [Array.size_push]; omega) ?_ ⟨e8.1.trans e6.1, fun b hb => (e8.2 b hb).trans (e6.2 b hb)⟩
  rw [cat_append, cat_one, e5, List.append_assoc]
  congr 2
  by_cases hd : d.toNat < q
  · rw [if_pos hd]; simp
  · rw [if_neg hd, show q - d.toNat = 0 from by omega]; simp

/-- feeds become another text -/
def feeds (z : List Nat) (l : List Nat) : List Nat := l.flatMap fun c => if c = 10 then z else [c]
theorem feeds_append (z a b : List Nat) : feeds z (a ++ b) = feeds z a ++ feeds z b := by simp [feeds]
theorem feeds_free (z : List Nat) : ∀ l : List Nat, (∀ c ∈ l, c ≠ 10) → feeds z l = l
  | [], _ => rfl
  | c :: r, h => by
    have ih := feeds_free z r fun c hc => h c (List.mem_cons_of_mem _ hc)
    show (if c = 10 then z else [c]) ++ feeds z r = c :: r
    rw [if_neg (h c List.mem_cons_self), ih]; rfl

theorem getD_toList (x : Array Nat) (i : Nat) (h : i < x.size) : x.toList[i]? = some (x.getD i 0) := by
  simp [h]

theorem first_feed (f : Nat → Nat) (n : Nat) : ∀ k p, p + k = n → (∀ i, p ≤ i → i < n → f i ≠ 10) ∨ ∃ q, p ≤ q ∧ q < n ∧ f q = 10 ∧ ∀ i, p ≤ i → i < q → f i ≠ 10
  | 0, p, h => .inl fun i h1 h2 => by omega
  | k + 1, p, h => by
    by_cases h0 : f p = 10
    · exact .inr ⟨p, Nat.le_refl _, by omega, h0, fun i h1 h2 => by omega⟩
    · rcases first_feed f n k (p + 1) (by omega) with e | ⟨q, a, b, c, d⟩
      · refine .inl fun i h1 h2 => ?_
        by_cases hi : i = p
        · rw [hi]; exact h0
        · exact e i (by omega) h2
      · refine .inr ⟨q, by omega, b, c, fun i h1 h2 => ?_⟩
        by_cases hi : i = p
        · rw [hi]; exact h0
        · exact d i (by omega) h2

theorem feeds_seg (z l : List Nat) (p q : Nat) (hpq : p ≤ q) (hl : q ≤ l.length) (h : ∀ i, p ≤ i → i < q → l.getD i 0 ≠ 10) : feeds z (l.take q) = feeds z (l.take p) ++ (l.drop p).take (q - p) := by
  have e : l.take q = l.take p ++ (l.drop p).take (q - p) := by
    rw [← List.drop_take, ← List.take_append_drop p (l.take q)]
    congr 1
    · rw [List.take_take, Nat.min_eq_left hpq]
    · rw [List.take_append_drop]
  rw [e, feeds_append]
  congr 1
  refine feeds_free z _ fun c hc => ?_
  obtain ⟨i, hi, rfl⟩ := List.getElem_of_mem hc
  have h0 : i < q - p := by rw [List.length_take] at hi; omega
  have := h (p + i) (by omega) (by omega)
  have hlt : p + i < l.length := by omega
  simp only [List.getElem_take, List.getElem_drop]
  simpa [List.getD, hlt] using this

theorem loop_feeds {a l : Addr} {x y : Str} {u v : Tok} {R : Result → Shared → Prop} (hx : x.length ≤ 2 ^ 16) (hy : y.length ≤ 2) (hr : ∀ c ∈ x.cps.toList, c ≠ 13) :
    ∀ (k p : Nat) (n : Int) (s : Shared) (items : Array Value) (cnt : Nat) (ys : List Str), p + k = x.cps.size → PatAt s.heap a code2 → s.heap.get? l = some (seqObj "list" items cnt) → StrsAre items.toList ys → items.size ≤ 2 * p →
      cat ys = feeds y.cps.toList (x.cps.toList.take p) → (cat ys).length ≤ 2 * p →
      (∀ t h' tk, Heap.SameBut l s.heap h' → R (.ok (.ret (.str ⟨(feeds y.cps.toList x.cps.toList).toArray⟩ t))) { s with heap := h', toks := tk }) →
      codeAny (model prog w) A (.builtin "re.Pattern.sub.loop" ⟨[.ref a, .str x u, .str y v, rawInt 0, rawInt 0, rawInt n, rawInt (p : Int), rawInt (p : Int), .bool false, .ref l, .bool false], []⟩) R s := by
  have hx' : x.cps.size ≤ 2 ^ 16 := hx
  have hat : ∀ i, i < x.cps.size → x.cps.getD i 0 ≠ 13 := fun i hi => hr _ (List.mem_of_getElem? (getD_toList x.cps i hi))
  intro k
  induction k using Nat.strongRecOn with
  | _ k ih =>
    intro p n s items cnt ys hp P ho hs hz hcat hlen hR
    have gl : ∀ i, x.cps.toList.getD i 0 = x.cps.getD i 0 := fun i => by simp [List.getD, Array.getD_eq_getD_getElem?]
    rcases first_feed (fun i => x.cps.getD i 0) x.cps.size k p hp with hno | ⟨q, h1, h2, h3, h4⟩
    · obtain ⟨m, e1, e2⟩ := search2_none x.cps p x.cps.size false fun i hi hi' => ⟨hno i hi hi', hat i hi'⟩
      refine loop_none P ho hs (by omega) (by omega) (by omega) (N := 9) (by decide) (by simpa using e1) e2 fun t h' tk hsb => ?_
      have e : feeds y.cps.toList x.cps.toList = cat ys ++ x.cps.toList.drop ((p : Int)).toNat := by
        have := feeds_seg y.cps.toList x.cps.toList p x.cps.size (by omega) (by simp) fun i h1 h2 => by rw [gl]; exact hno i h1 h2
        rw [hcat, Int.toNat_natCast]
        have e2 : (x.cps.toList.drop p).take (x.cps.size - p) = x.cps.toList.drop p := List.take_of_length_le (by simp)
        have e3 : x.cps.toList.take x.cps.size = x.cps.toList := List.take_of_length_le (by simp)
        rw [e2, e3] at this
        exact this
      rw [← e]
      exact hR t h' tk hsb
    · obtain ⟨m, e1, e2, e3, e4⟩ := search2_found x.cps p x.cps.size q false h1 h2 h3 fun i hi hi' => ⟨h4 i hi hi', hat i (by omega)⟩
      refine loop_some P ho hs (by omega) (by omega) (N := 9) (by decide) (by simpa using e1) e2 e3 e4 (by simpa using h1) h2 fun h' tk items' cnt' ys' n' a1 a2 a3 a4 a5 => ?_
      have hc' : cat ys' = feeds y.cps.toList (x.cps.toList.take (q + 1)) := by
        have := feeds_seg y.cps.toList x.cps.toList p q h1 (by simp; omega) fun i h1 h2 => by rw [gl]; exact h4 i h1 h2
        rw [a4, hcat, Int.toNat_natCast, ← List.append_assoc, ← this, List.take_add_one, getD_toList x.cps q h2, feeds_append, h3]
        simp [feeds]
      have hl' : (cat ys').length ≤ 2 * (q + 1) := by
        have hyl : y.cps.toList.length ≤ 2 := by rw [Array.length_toList]; exact hy
        rw [a4, List.length_append, List.length_append, List.length_take]
        omega
      exact ih (x.cps.size - (q + 1)) (by omega) (q + 1) n' { s with heap := h', toks := tk } items' cnt' ys' (by omega) (P.but ho a5) a1 a2 (by omega) hc' hl' fun t h'' tk' hsb => hR t h'' tk' ⟨hsb.1.trans a5.1, fun b hb => (hsb.2 b hb).trans (a5.2 b hb)⟩

theorem sub_tree (a : Addr) (x y : Str) (u v : Tok) (h : y.cps.contains 92 = false) : Builtin.«re.Pattern.sub» ⟨[.ref a, .str y v, .str x u], []⟩ = (do
    let called := (← specialOf (.str y v) "__call__").isSome
    let literal ← if called then pure false else pure true
    let (repl, way) ← if called then pure ((Value.str y v, 1) : Value × Int) else if literal then pure (Value.str y v, 0) else do
      let t ← reCompileTemplate (.ref a) (.str y v)
      if ← reOnlyLiteral t then pure (← field t 0, 0) else pure (t, 2)
    let _ ← holding [repl] (reWholeTarget (.ref a) (.str x u))
    if way == 1 then reNotHeld "re.Pattern.sub" (.str x u)
    again (.builtin "re.Pattern.sub.loop" ⟨[.ref a, .str x u, repl, rawInt way, rawInt 0, rawInt 0, rawInt 0, rawInt 0, .bool false, ← newList [], .bool false], []⟩)) := by
  have e : (pure (!y.cps.contains 92) : Sem Bool) = pure true := by rw [h]; rfl
  show (do
    let called := (← specialOf (.str y v) "__call__").isSome
    let literal ← if called then pure false else pure (!y.cps.contains 92)
    let (repl, way) ← if called then pure ((Value.str y v, 1) : Value × Int) else if literal then pure (Value.str y v, 0) else do
      let t ← reCompileTemplate (.ref a) (.str y v)
      if ← reOnlyLiteral t then pure (← field t 0, 0) else pure (t, 2)
    let _ ← holding [repl] (reWholeTarget (.ref a) (.str x u))
    if way == 1 then reNotHeld "re.Pattern.sub" (.str x u)
    again (.builtin "re.Pattern.sub.loop" ⟨[.ref a, .str x u, repl, rawInt way, rawInt 0, rawInt 0, rawInt 0, rawInt 0, .bool false, ← newList [], .bool false], []⟩)) = _
  rw [e]

/-- a call of sub with a literal text: its loop is entered with an empty list -/
theorem call_sub {a : Addr} {x y : Str} {u v : Tok} {code : Array Nat} {Q : Value → Shared → Prop} (P : PatAt s.heap a code) (hy : y.cps.contains 92 = false)
    (h : ∀ l h', h'.get? l = some (seqObj "list" #[] 0) → (∀ b o, s.heap.get? b = some o → h'.get? b = some o ∧ b ≠ l) →
      codeAny (model prog w) A (.builtin "re.Pattern.sub.loop" ⟨[.ref a, .str x u, .str y v, rawInt 0, rawInt 0, rawInt 0, rawInt 0, rawInt 0, .bool false, .ref l, .bool false], []⟩) (fun r s' => match r with | .ok (.ret v) => Q v s' | .ok _ => False | .error e => E e s') { s with heap := h' }) :
    wpAny (model prog w) A (call (.builtin "re.Pattern.sub") [.ref a, .str y v, .str x u]) Q E s := by
  obtain ⟨vs, T, ot, xs, n, e1, r⟩ := P.obj
  refine wpAny_call (codeAny_call_builtin F.slot_pat_sub.plain F.entry_pat_sub (F.slot_pat_sub.check _ _ _ _ _ _ _ _ ⟨_, e1, rfl⟩ (F.args_pat_sub _ _ _) ?_))
  rw [sub_tree a x y u v hy]
  refine wpAny_bind (wpAny_specialOf (T := "str") (typeIs_str _ _ _) F.str_call ?_)
  simp only [Option.isSome_none, Bool.false_eq_true, if_false, pure_bind, if_true]
  refine wpAny_bind (wpAny_holding (wpAny_reWholeTarget P ?_))
  rw [if_neg (by decide)]
  refine wpAny_bind (wpAny_newList ?_)
  refine wpAny_pure ⟨plainId_quiet F.plain_pat_loop _, h _ _ (Heap.get?_push_size _ rfl) fun b o e => ⟨Heap.get?_push_of_some _ e, Nat.ne_of_lt (Heap.lt_size e)⟩⟩

/-- every feed becomes the text `y` -/
theorem call_sub_feeds {a : Addr} {x y : Str} {u v : Tok} {Q : Value → Shared → Prop} (P : PatAt s.heap a code2) (hy : y.cps.contains 92 = false) (hyl : y.length ≤ 2) (hx : x.length ≤ 2 ^ 16) (hr : ∀ c ∈ x.cps.toList, c ≠ 13)
    (h : ∀ t h' tk, (∀ b o, s.heap.get? b = some o → h'.get? b = some o) → Q (.str ⟨(feeds y.cps.toList x.cps.toList).toArray⟩ t) { s with heap := h', toks := tk }) :
    wpAny (model prog w) A (call (.builtin "re.Pattern.sub") [.ref a, .str y v, .str x u]) Q E s := by
  refine call_sub P hy fun l h' e1 e2 => ?_
  exact loop_feeds hx hyl hr x.cps.size 0 0 { s with heap := h' } #[] 0 [] (by omega) (P.keeps fun b o e => (e2 b o e).1) e1 .nil (by simp) (by simp [cat, feeds]) (by simp [cat])
    fun t h'' tk hsb => h t h'' tk fun b o e => (hsb.2 b (e2 b o e).2).trans (e2 b o e).1

/-- without a dot nothing is found -/
theorem call_sub_dots {a : Addr} {x y : Str} {u v : Tok} {Q : Value → Shared → Prop} (P : PatAt s.heap a code1) (hy : y.cps.contains 92 = false) (hx : x.length ≤ 2 ^ 16) (hr : ∀ c ∈ x.cps.toList, c ≠ 46)
    (h : ∀ t h' tk, (∀ b o, s.heap.get? b = some o → h'.get? b = some o) → Q (.str x t) { s with heap := h', toks := tk }) :
    wpAny (model prog w) A (call (.builtin "re.Pattern.sub") [.ref a, .str y v, .str x u]) Q E s := by
  have hx' : x.cps.size ≤ 2 ^ 16 := hx
  refine call_sub P hy fun l h' e1 e2 => ?_
  obtain ⟨N, m, hN, e3, e4⟩ := search1_none x.cps 0 x.cps.size false (Nat.zero_le _) fun i hi => hr _ (List.mem_of_getElem? (getD_toList x.cps i hi))
  refine loop_none (s := { s with heap := h' }) (P.keeps fun b o e => (e2 b o e).1) e1 (ys := []) .nil (by simp) (by omega) (by simp [cat]) (N := N) (Nat.le_trans hN (by omega)) (by simpa using e3) e4 fun t h'' tk hsb => ?_
  have e : (⟨(cat [] ++ x.cps.toList.drop (0 : Int).toNat).toArray⟩ : Str) = x := by simp [cat]
  rw [e]
  exact h t h'' tk fun b o e => (hsb.2 b (e2 b o e).2).trans (e2 b o e).1
end
end

section
open PySem

theorem runs_toks {M : Model} {Γ : Ctx} {p : Pos} {t : Sem Fin} {fs : List Frame} {s : Shared} {e : End} {s' : Shared} (h : Runs M Γ p t fs s e s') : s.toks ≤ s'.toks := by
  induction h with
  | fresh _ ih => exact Nat.le_of_succ_le ih
  | call _ _ i1 i2 => exact Nat.le_trans i1 i2
  | resumeFresh _ _ _ _ i1 i2 => exact Nat.le_trans i1 i2
  | resumeSuspended _ _ _ _ i1 i2 => exact Nat.le_trans i1 i2
  | segRet _ _ i1 i2 => exact Nat.le_trans i1 i2
  | segGen _ _ i1 i2 => exact Nat.le_trans i1 i2
  | segSuspGen _ _ _ _ i1 i2 => exact Nat.le_trans i1 i2
  | _ => first | exact Nat.le_refl _ | assumption

theorem wakes_toks {M : Model} {Γ : Ctx} {p : Pos} {g : Nat} {r : Resume} {s : Shared} {res : GenResult} {s' : Shared} (h : Wakes M Γ p g r s res s') : s.toks ≤ s'.toks := by
  unfold Wakes at h
  split at h
  · exact h.elim
  · split at h
    · obtain ⟨e, s₁, h1, _, _, rfl⟩ := h; have h2 := runs_toks h1; exact h2
    · obtain ⟨_, rfl⟩ := h; exact Nat.le_refl _
    · obtain ⟨_, rfl⟩ := h; exact Nat.le_refl _
  · obtain ⟨e, s₁, h1, _, _, rfl⟩ := h; have h2 := runs_toks h1; exact h2
  · obtain ⟨_, rfl⟩ := h; exact Nat.le_refl _
  · obtain ⟨_, rfl⟩ := h; exact Nat.le_refl _

theorem wp_toks {α : Type} {M : Model} {Γ : Ctx} {Q : α → Pos → Shared → Prop} {E : Value → Pos → Shared → Prop} {n : Nat} (t : Sem α) (p : Pos) (s : Shared) (hn : n ≤ s.toks)
    (h : Sem.wp M Γ t (fun a p' s' => n ≤ s'.toks → Q a p' s') (fun e p' s' => n ≤ s'.toks → E e p' s') p s) : Sem.wp M Γ t Q E p s := by
  revert h
  induction t generalizing p s with
  | pure x => exact fun h => h hn
  | raise v => exact fun h => h hn
  | unsupported | finish | yield | fork | await | register => exact id
  | rule _ k ih | «at» _ k ih | alloc _ k ih | loadIfAlive _ k ih | point _ k ih | ask k ih | os _ _ k ih | handled _ k ih | newGen _ k ih | stack k ih | thread k ih => exact ih _ _ _ hn
  | fresh k ih => exact ih _ _ _ (Nat.le_succ_of_le hn)
  | load a _ k ih | genState a k ih => exact fun ⟨o, ho, h⟩ => ⟨o, ho, ih _ _ _ hn h⟩
  | update a _ f k ih | choose _ _ k ih => exact fun ⟨ha, h⟩ => ⟨ha, ih _ _ _ hn h⟩
  | call c h g l k ih => exact fun ⟨r, s', hr, h⟩ => ⟨r, s', hr, ih r p s' (Nat.le_trans hn (runs_toks hr)) h⟩
  | resume g r l k ih => exact fun ⟨res, s', hw, h⟩ => ⟨res, s', hw, ih _ _ _ (Nat.le_trans hn (wakes_toks hw)) h⟩

theorem wpAny_toks {α : Type} {M : Model} {A : Around} {t : Sem α} {Q : α → Shared → Prop} {E : Value → Shared → Prop} {s : Shared} {n : Nat} (hn : n ≤ s.toks)
    (h : wpAny M A t (fun a s' => n ≤ s'.toks → Q a s') (fun e s' => n ≤ s'.toks → E e s') s) : wpAny M A t Q E s := fun Γ p hΓ => wp_toks t p s hn (h Γ p hΓ)
end

section
open PySem PyProof.Rows
set_option maxRecDepth 100000

/-- one sign becomes a text -/
def rep (c : Nat) (z l : List Nat) : List Nat := l.flatMap fun k => if k = c then z else [k]
theorem rep_append (c : Nat) (z a b : List Nat) : rep c z (a ++ b) = rep c z a ++ rep c z b := by simp [rep]
theorem rep_free (c : Nat) (z : List Nat) : ∀ l : List Nat, c ∉ l → rep c z l = l
  | [], _ => rfl
  | k :: r, h => by
    have ih := rep_free c z r fun hc => h (List.mem_cons_of_mem _ hc)
    show (if k = c then z else [k]) ++ rep c z r = k :: r
    have hk : ¬ k = c := fun e => h (by rw [e]; exact List.mem_cons_self)
    rw [if_neg hk, ih]; rfl
theorem rep_self (c : Nat) (z : List Nat) : rep c z [c] = z := by simp [rep]
theorem rep_join (c : Nat) (z : Str) : ∀ parts : List Str, (∀ p ∈ parts, c ∉ p.cps.toList) → rep c z.cps.toList (Str.join ⟨#[c]⟩ parts).cps.toList = (Str.join z parts).cps.toList
  | [], _ => rfl
  | [p], h => rep_free c _ _ (h p (List.mem_singleton.mpr rfl))
  | p :: q :: r, h => by
    have ih := rep_join c z (q :: r) fun a ha => h a (List.mem_cons_of_mem _ ha)
    show rep c z.cps.toList (p ++ ⟨#[c]⟩ ++ Str.join ⟨#[c]⟩ (q :: r)).cps.toList = (p ++ z ++ Str.join z (q :: r)).cps.toList
    simp only [Str.cps_append, Array.toList_append]
    rw [rep_append, rep_append, ih, rep_free c _ _ (h p List.mem_cons_self)]
    congr 2
    exact rep_self c _
theorem rep_txt (x z : Str) (c : Nat) : Txt.replace x ⟨#[c]⟩ z = ⟨(rep c z.cps.toList x.cps.toList).toArray⟩ := by
  refine str_eq ?_
  rw [StrLaws.replace_one, ← rep_join c z _ (StrLaws.split_free x c), StrLaws.join_split]
theorem rep_len (c : Nat) (z : List Nat) : ∀ l : List Nat, z.length ≤ 5 → (rep c z l).length ≤ 5 * l.length
  | [], _ => by simp [rep]
  | k :: r, h => by
    have ih := rep_len c z r h
    show ((if k = c then z else [k]) ++ rep c z r).length ≤ _
    rw [List.length_append, List.length_cons]
    have : (if k = c then z else [k]).length ≤ 5 := by
      split
      · exact h
      · exact Nat.le_of_ble_eq_true rfl
    omega

theorem amp_is : (Str.ofString "&") = ⟨#[38]⟩ := by decide +kernel
theorem lt_is : (Str.ofString "<") = ⟨#[60]⟩ := by decide +kernel
theorem gt_is : (Str.ofString ">") = ⟨#[62]⟩ := by decide +kernel
theorem cr_is : (Str.ofString "\r") = ⟨#[13]⟩ := by decide +kernel

theorem none_one {x z : Str} {c : Nat} (h : (Builtin.Str.occurrences x ⟨#[c]⟩ 0 x.length 1).isEmpty = true) : Txt.replace x ⟨#[c]⟩ z = x := by
  have h1 := StrLaws.found_one x c
  rw [h] at h1
  have h2 : c ∉ x.cps.toList := by simpa using h1.symm
  rw [rep_txt, rep_free c _ _ h2]
theorem none_amp {x z : Str} (h : (Builtin.Str.occurrences x "&" 0 x.length 1).isEmpty = true) : Txt.replace x "&" z = x := by
  rw [amp_is] at h ⊢; exact none_one h
theorem none_lt {x z : Str} (h : (Builtin.Str.occurrences x "<" 0 x.length 1).isEmpty = true) : Txt.replace x "<" z = x := by
  rw [lt_is] at h ⊢; exact none_one h
theorem none_gt {x z : Str} (h : (Builtin.Str.occurrences x ">" 0 x.length 1).isEmpty = true) : Txt.replace x ">" z = x := by
  rw [gt_is] at h ⊢; exact none_one h
theorem none_cr {x z : Str} (h : (Builtin.Str.occurrences x "\r" 0 x.length 1).isEmpty = true) : Txt.replace x "\r" z = x := by
  rw [cr_is] at h ⊢; exact none_one h

theorem rep_len_one {x y z : Str} {n : Nat} (hx : x.length ≤ n) (hz : z.length ≤ 5) (hy : ∃ c, y = ⟨#[c]⟩) : (Txt.replace x y z).length ≤ 5 * n := by
  obtain ⟨c, rfl⟩ := hy
  rw [rep_txt]
  show (rep c z.cps.toList x.cps.toList).toArray.size ≤ _
  have h := rep_len c z.cps.toList x.cps.toList (by rw [Array.length_toList]; exact hz)
  have h1 : x.cps.toList.length = x.length := Array.length_toList
  rw [List.size_toArray]
  omega

def esc (x : Str) : Str := Txt.replace (Txt.replace (Txt.replace (Txt.replace x "&" "&amp;") "<" "&lt;") ">" "&gt;") "\r" "&#xD;"
def ampL : List Nat := [38, 97, 109, 112, 59]
def crL : List Nat := [38, 35, 120, 68, 59]
theorem esc_list (x : Str) (h1 : 60 ∉ x.cps.toList) (h2 : 62 ∉ x.cps.toList) : (esc x).cps.toList = rep 13 crL (rep 38 ampL x.cps.toList) := by
  have e1 : (Str.ofString "&amp;").cps.toList = ampL := by decide +kernel
  have e2 : (Str.ofString "&#xD;").cps.toList = crL := by decide +kernel
  have f1 : 60 ∉ rep 38 ampL x.cps.toList := by
    unfold rep
    simp only [List.mem_flatMap, not_exists, not_and]
    intro k hk
    split
    · decide
    · intro hm; rw [List.mem_singleton] at hm; exact h1 (hm ▸ hk)
  have f2 : 62 ∉ rep 38 ampL x.cps.toList := by
    unfold rep
    simp only [List.mem_flatMap, not_exists, not_and]
    intro k hk
    split
    · decide
    · intro hm; rw [List.mem_singleton] at hm; exact h2 (hm ▸ hk)
  unfold esc
  rw [amp_is, lt_is, gt_is, cr_is, rep_txt, rep_txt, rep_txt, rep_txt, e1, e2]
  simp only
  rw [rep_free 60 _ _ f1, rep_free 62 _ _ f2]
end

section
open PySem PyProof.Rows
set_option maxRecDepth 100000

/-- one carriage return as it stands after `back` further turns -/
def unitL (tw back : Nat) : List Nat := 38 :: ((List.replicate ((1 + tw) * back) [97, 109, 112, 59]).flatten ++ [35, 120, 68, 59])
def endL (tw : Nat) : Nat → List Nat
  | 0 => [10]
  | k + 1 => unitL tw k ++ endL tw k
def groupL (tw age n : Nat) : List Nat := (List.replicate n (endL tw age)).flatten
def groupS (tw age n : Nat) : Str := ⟨(groupL tw age n).toArray⟩
def bar : Str := ⟨#[124]⟩
def pageS (tw age : Nat) (sizes : List Nat) : Str := Str.join bar (sizes.map (groupS tw age))

/-- one escape, as a list -/
def escL (l : List Nat) : List Nat := rep 13 crL (rep 38 ampL l)
theorem escL_append (a b : List Nat) : escL (a ++ b) = escL a ++ escL b := by unfold escL; rw [rep_append, rep_append]
def turnL (tw : Nat) (l : List Nat) : List Nat := escL (feeds [13, 10] (if tw = 0 then l else escL l))
theorem turnL_append (tw : Nat) (a b : List Nat) : turnL tw (a ++ b) = turnL tw a ++ turnL tw b := by
  unfold turnL
  split
  · rw [feeds_append, escL_append]
  · rw [escL_append, feeds_append, escL_append]
theorem turnL_nil (tw : Nat) : turnL tw [] = [] := by unfold turnL; split <;> rfl

def plain (c : Nat) : Bool := c != 10 && c != 13 && c != 38
theorem escL_plain (l : List Nat) (h : l.all plain = true) : escL l = l := by
  have h' := List.all_eq_true.mp h
  unfold escL
  rw [rep_free 38 _ l (fun hm => by have := h' _ hm; simp [plain] at this), rep_free 13 _ l (fun hm => by have := h' _ hm; simp [plain] at this)]
theorem feeds_plain (z l : List Nat) (h : l.all plain = true) : feeds z l = l := by
  have h' := List.all_eq_true.mp h
  exact feeds_free z l fun c hc e => by have := h' _ hc; rw [e] at this; simp [plain] at this
theorem turnL_plain (tw : Nat) (l : List Nat) (h : l.all plain = true) : turnL tw l = l := by
  unfold turnL
  split
  · rw [feeds_plain _ _ h, escL_plain _ h]
  · rw [escL_plain _ h, feeds_plain _ _ h, escL_plain _ h]

theorem amps_plain : ∀ n : Nat, ((List.replicate n [97, 109, 112, 59]).flatten : List Nat).all plain = true
  | 0 => rfl
  | n + 1 => by rw [List.replicate_succ, List.flatten_cons, List.all_append, amps_plain n]; rfl
theorem escL_amp : escL [38] = 38 :: [97, 109, 112, 59] := by decide
theorem turnL_amp0 : turnL 0 [38] = 38 :: [97, 109, 112, 59] := by decide
theorem turnL_amp1 : turnL 1 [38] = 38 :: ([97, 109, 112, 59] ++ [97, 109, 112, 59]) := by decide
theorem turn_unit (tw b : Nat) (ht : tw ≤ 1) : turnL tw (unitL tw b) = unitL tw (b + 1) := by
  have e : unitL tw b = [38] ++ ((List.replicate ((1 + tw) * b) [97, 109, 112, 59]).flatten ++ [35, 120, 68, 59]) := rfl
  have hp : ((List.replicate ((1 + tw) * b) [97, 109, 112, 59]).flatten ++ [35, 120, 68, 59] : List Nat).all plain = true := by rw [List.all_append, amps_plain]; rfl
  rw [e, turnL_append, turnL_plain tw _ hp]
  have h : tw = 0 ∨ tw = 1 := by omega
  rcases h with rfl | rfl
  · rw [turnL_amp0]
    show _ = 38 :: ((List.replicate ((1 + 0) * (b + 1)) [97, 109, 112, 59]).flatten ++ [35, 120, 68, 59])
    rw [show (1 + 0) * (b + 1) = (1 + 0) * b + 1 from by omega, List.replicate_succ, List.flatten_cons]
    simp
  · rw [turnL_amp1]
    show _ = 38 :: ((List.replicate ((1 + 1) * (b + 1)) [97, 109, 112, 59]).flatten ++ [35, 120, 68, 59])
    rw [show (1 + 1) * (b + 1) = (1 + 1) * b + 1 + 1 from by omega, List.replicate_succ, List.flatten_cons, List.replicate_succ, List.flatten_cons]
    simp
theorem turn_feed (tw : Nat) (ht : tw ≤ 1) : turnL tw [10] = unitL tw 0 ++ [10] := by
  have h : tw = 0 ∨ tw = 1 := by omega
  rcases h with rfl | rfl <;> decide
theorem turn_end (tw : Nat) (ht : tw ≤ 1) : ∀ k, turnL tw (endL tw k) = endL tw (k + 1)
  | 0 => turn_feed tw ht
  | k + 1 => by
    show turnL tw (unitL tw k ++ endL tw k) = unitL tw (k + 1) ++ endL tw (k + 1)
    rw [turnL_append, turn_unit tw k ht, turn_end tw ht k]
theorem turn_group (tw k : Nat) (ht : tw ≤ 1) : ∀ n, turnL tw (groupL tw k n) = groupL tw (k + 1) n
  | 0 => turnL_nil tw
  | n + 1 => by
    have ih := turn_group tw k ht n
    unfold groupL at ih ⊢
    rw [List.replicate_succ, List.flatten_cons, turnL_append, ih, turn_end tw ht k, List.replicate_succ, List.flatten_cons]
theorem turn_bar (tw : Nat) : turnL tw [124] = [124] := turnL_plain tw _ (by decide)
theorem turn_page (tw k : Nat) (ht : tw ≤ 1) : ∀ sizes : List Nat, turnL tw (pageS tw k sizes).cps.toList = (pageS tw (k + 1) sizes).cps.toList
  | [] => turnL_nil tw
  | [n] => turn_group tw k ht n
  | a :: b :: r => by
    have ih := turn_page tw k ht (b :: r)
    show turnL tw (groupS tw k a ++ bar ++ pageS tw k (b :: r)).cps.toList = (groupS tw (k + 1) a ++ bar ++ pageS tw (k + 1) (b :: r)).cps.toList
    simp only [Str.cps_append, Array.toList_append]
    rw [turnL_append, turnL_append, ih]
    congr 2
    · exact turn_group tw k ht a
    · exact turn_bar tw

/-- the signs of a page -/
def okSign (c : Nat) : Bool := c != 13 && c != 46 && c != 60 && c != 62
theorem unit_ok (tw b : Nat) : (unitL tw b).all okSign = true := by
  have h : ∀ n : Nat, ((List.replicate n [97, 109, 112, 59]).flatten : List Nat).all okSign = true := by
    intro n
    induction n with
    | zero => rfl
    | succ n ih => rw [List.replicate_succ, List.flatten_cons, List.all_append, ih]; rfl
  unfold unitL
  rw [List.all_cons, List.all_append, h]; rfl
theorem end_ok (tw : Nat) : ∀ k, (endL tw k).all okSign = true
  | 0 => rfl
  | k + 1 => by
    show (unitL tw k ++ endL tw k).all okSign = true
    rw [List.all_append, unit_ok, end_ok tw k]; rfl
theorem group_ok (tw k : Nat) : ∀ n, (groupL tw k n).all okSign = true
  | 0 => rfl
  | n + 1 => by
    have ih := group_ok tw k n
    unfold groupL at ih ⊢
    rw [List.replicate_succ, List.flatten_cons, List.all_append, ih, end_ok]; rfl
theorem page_ok (tw k : Nat) : ∀ sizes, (pageS tw k sizes).cps.toList.all okSign = true
  | [] => rfl
  | [n] => group_ok tw k n
  | a :: b :: r => by
    have ih := page_ok tw k (b :: r)
    show (groupS tw k a ++ bar ++ pageS tw k (b :: r)).cps.toList.all okSign = true
    simp only [Str.cps_append, Array.toList_append]
    rw [List.all_append, List.all_append, ih]
    have : (groupS tw k a).cps.toList.all okSign = true := group_ok tw k a
    rw [this]; rfl
theorem rep_ge (c : Nat) (z : List Nat) (hz : 1 ≤ z.length) : ∀ l : List Nat, l.length ≤ (rep c z l).length
  | [] => Nat.le_refl _
  | k :: r => by
    have ih := rep_ge c z hz r
    show _ ≤ ((if k = c then z else [k]) ++ rep c z r).length
    rw [List.length_append, List.length_cons]
    have : 1 ≤ (if k = c then z else [k]).length := by
      split
      · exact hz
      · exact Nat.le_refl _
    omega
theorem feeds_ge (z : List Nat) (hz : 1 ≤ z.length) : ∀ l : List Nat, l.length ≤ (feeds z l).length
  | [] => Nat.le_refl _
  | k :: r => by
    have ih := feeds_ge z hz r
    show _ ≤ ((if k = 10 then z else [k]) ++ feeds z r).length
    rw [List.length_append, List.length_cons]
    have : 1 ≤ (if k = 10 then z else [k]).length := by
      split
      · exact hz
      · exact Nat.le_refl _
    omega
theorem escL_ge (l : List Nat) : l.length ≤ (escL l).length := Nat.le_trans (rep_ge 38 ampL (by decide) l) (rep_ge 13 crL (by decide) _)

theorem end_len (tw k : Nat) (ht : tw ≤ 1) (hk : k ≤ 5) : (endL tw k).length ≤ 106 := by
  have h : ∀ tw, tw < 2 → ∀ k, k < 6 → (endL tw k).length ≤ 106 := by decide
  exact h tw (by omega) k (by omega)
theorem group_len (tw k : Nat) (ht : tw ≤ 1) (hk : k ≤ 5) : ∀ n, (groupL tw k n).length ≤ 106 * n
  | 0 => Nat.le_refl _
  | n + 1 => by
    have ih := group_len tw k ht hk n
    have h := end_len tw k ht hk
    unfold groupL at ih ⊢
    rw [List.replicate_succ, List.flatten_cons, List.length_append]
    omega
theorem page_len (tw k : Nat) (ht : tw ≤ 1) (hk : k ≤ 5) : ∀ sizes : List Nat, (∀ n ∈ sizes, n ≤ 10) → (pageS tw k sizes).length ≤ 1061 * sizes.length
  | [], _ => Nat.le_refl _
  | [n], h => by
    have h1 := group_len tw k ht hk n
    have h2 := h n List.mem_cons_self
    show (groupL tw k n).toArray.size ≤ _
    rw [List.size_toArray, List.length_singleton]
    omega
  | a :: b :: r, h => by
    have ih := page_len tw k ht hk (b :: r) fun n hn => h n (List.mem_cons_of_mem _ hn)
    have h1 := group_len tw k ht hk a
    have h2 := h a List.mem_cons_self
    show (groupS tw k a ++ bar ++ pageS tw k (b :: r)).length ≤ _
    rw [Str.length_append, Str.length_append]
    have h3 : (groupS tw k a).length = (groupL tw k a).length := List.size_toArray
    have h4 : bar.length = 1 := rfl
    rw [List.length_cons]
    omega

theorem feeds_rep (z l : List Nat) : feeds z l = rep 10 z l := rfl
theorem mem_rep {c d : Nat} {z l : List Nat} (h : d ∈ rep c z l) : d ∈ l ∨ d ∈ z := by
  unfold rep at h
  simp only [List.mem_flatMap] at h
  obtain ⟨k, hk, hd⟩ := h
  split at hd
  · exact .inr hd
  · rw [List.mem_singleton] at hd; exact .inl (hd ▸ hk)
theorem esc_is (x : Str) (h1 : 60 ∉ x.cps.toList) (h2 : 62 ∉ x.cps.toList) : esc x = ⟨(escL x.cps.toList).toArray⟩ := str_eq (esc_list x h1 h2)
theorem page_no (tw k : Nat) (sizes : List Nat) (c : Nat) (hc : okSign c = false) : c ∉ (pageS tw k sizes).cps.toList := fun hm => by
  have := List.all_eq_true.mp (page_ok tw k sizes) c hm
  rw [hc] at this; exact absurd this (by decide)
theorem escL_no {l : List Nat} {c : Nat} (h : c ∉ l) (h1 : c ∉ crL) (h2 : c ∉ ampL) : c ∉ escL l := fun hm => by
  rcases mem_rep hm with hm | hm
  · rcases mem_rep hm with hm | hm
    · exact h hm
    · exact h2 hm
  · exact h1 hm
theorem feeds_no {l : List Nat} {c : Nat} (h : c ∉ l) (h1 : c ≠ 13) (h2 : c ≠ 10) : c ∉ feeds [13, 10] l := fun hm => by
  rcases mem_rep hm with hm | hm
  · exact h hm
  · simp at hm; omega

def quo (x : Str) : Str := ⟨(feeds [13, 10] x.cps.toList).toArray⟩
/-- the next page, sent and written -/
theorem page_turn0 (k : Nat) (sizes : List Nat) : esc (quo (pageS 0 k sizes)) = pageS 0 (k + 1) sizes := by
  have e : (quo (pageS 0 k sizes)).cps.toList = feeds [13, 10] (pageS 0 k sizes).cps.toList := rfl
  rw [esc_is _ (by rw [e]; exact feeds_no (page_no 0 k sizes 60 rfl) (by decide) (by decide)) (by rw [e]; exact feeds_no (page_no 0 k sizes 62 rfl) (by decide) (by decide)), e]
  exact (str_eq (turn_page 0 k (by decide) sizes).symm).symm
theorem esc_page (k : Nat) (sizes : List Nat) : (esc (pageS 1 k sizes)).cps.toList = escL (pageS 1 k sizes).cps.toList := by
  rw [esc_is _ (page_no 1 k sizes 60 rfl) (page_no 1 k sizes 62 rfl)]
theorem page_turn1 (k : Nat) (sizes : List Nat) : esc (quo (esc (pageS 1 k sizes))) = pageS 1 (k + 1) sizes := by
  have e : (quo (esc (pageS 1 k sizes))).cps.toList = feeds [13, 10] (escL (pageS 1 k sizes).cps.toList) := by
    show feeds [13, 10] (esc (pageS 1 k sizes)).cps.toList = _
    rw [esc_page]
  rw [esc_is _ (by rw [e]; exact feeds_no (escL_no (page_no 1 k sizes 60 rfl) (by decide) (by decide)) (by decide) (by decide)) (by rw [e]; exact feeds_no (escL_no (page_no 1 k sizes 62 rfl) (by decide) (by decide)) (by decide) (by decide)), e]
  exact (str_eq (turn_page 1 k (by decide) sizes).symm).symm

/-- what quotedata asks of its text -/
def Sent (x : Str) : Prop := x.length ≤ 5000 ∧ (∀ c ∈ x.cps.toList, c ≠ 13) ∧ ∀ c ∈ x.cps.toList, c ≠ 46
theorem page_sent (tw k : Nat) (ht : tw ≤ 1) (hk : k ≤ 5) (sizes : List Nat) (h1 : sizes.length ≤ 4) (h2 : ∀ n ∈ sizes, n ≤ 10) : Sent (pageS tw k sizes) :=
  ⟨by have := page_len tw k ht hk sizes h2; omega, fun c hc e => page_no tw k sizes 13 rfl (e ▸ hc), fun c hc e => page_no tw k sizes 46 rfl (e ▸ hc)⟩
theorem str_len (x : Str) : x.length = x.cps.toList.length := by rw [Array.length_toList]; rfl
theorem quo_page_len (k : Nat) (hk : k ≤ 4) (sizes : List Nat) (h1 : sizes.length ≤ 4) (h2 : ∀ n ∈ sizes, n ≤ 10) : (quo (pageS 0 k sizes)).length ≤ 5000 := by
  have h := page_len 0 (k + 1) (by decide) (by omega) sizes h2
  have h3 := escL_ge (feeds [13, 10] (pageS 0 k sizes).cps.toList)
  have e := turn_page 0 k (by decide) sizes
  rw [str_len] at h ⊢
  rw [← e] at h
  exact Nat.le_trans h3 (Nat.le_trans h (by omega))
theorem esc_page_sent (k : Nat) (hk : k ≤ 4) (sizes : List Nat) (h1 : sizes.length ≤ 4) (h2 : ∀ n ∈ sizes, n ≤ 10) : Sent (esc (pageS 1 k sizes)) ∧ (quo (esc (pageS 1 k sizes))).length ≤ 5000 := by
  have h := page_len 1 (k + 1) (by decide) (by omega) sizes h2
  have h3 := escL_ge (feeds [13, 10] (escL (pageS 1 k sizes).cps.toList))
  have h4 := feeds_ge [13, 10] (by decide) (escL (pageS 1 k sizes).cps.toList)
  have e : turnL 1 (pageS 1 k sizes).cps.toList = _ := turn_page 1 k (by decide) sizes
  rw [str_len, ← e] at h
  have h5 : (escL (feeds [13, 10] (escL (pageS 1 k sizes).cps.toList))).length ≤ 1061 * sizes.length := h
  refine ⟨⟨?_, ?_, ?_⟩, ?_⟩
  · rw [str_len, esc_page]; omega
  · rw [esc_page]; exact fun c hc e => escL_no (page_no 1 k sizes 13 rfl) (by decide) (by decide) (e ▸ hc)
  · rw [esc_page]; exact fun c hc e => escL_no (page_no 1 k sizes 46 rfl) (by decide) (by decide) (e ▸ hc)
  · rw [str_len]
    show (feeds [13, 10] (esc (pageS 1 k sizes)).cps.toList).length ≤ _
    rw [esc_page]; omega
end

section
open PySem PySem.W PyProof.Rows PySem.Calls
set_option maxRecDepth 100000

/-- two lists, place by place -/
inductive All2 {α β : Type} (R : α → β → Prop) : List α → List β → Prop
  | nil : All2 R [] []
  | cons {a : α} {b : β} {as : List α} {bs : List β} : R a b → All2 R as bs → All2 R (a :: as) (b :: bs)
theorem All2.snoc {α β : Type} {R : α → β → Prop} {a : α} {b : β} (h : R a b) : ∀ {as : List α} {bs : List β}, All2 R as bs → All2 R (as ++ [a]) (bs ++ [b])
  | _, _, .nil => .cons h .nil
  | _, _, .cons h' r => .cons h' (r.snoc h)
theorem All2.len {α β : Type} {R : α → β → Prop} : ∀ {as : List α} {bs : List β}, All2 R as bs → as.length = bs.length
  | _, _, .nil => rfl
  | _, _, .cons _ r => congrArg (· + 1) r.len
theorem All2.strs : ∀ {ys : List Str} {vs : List Value}, All2 (fun y v => ∃ t, v = Value.str y t) ys vs → StrsAre vs ys
  | _, _, .nil => .nil
  | _, _, .cons ⟨t, e⟩ r => by subst e; exact .cons _ t r.strs
theorem All2.ints : ∀ {ys : List Int} {vs : List Value}, All2 (fun y v => ∃ t, v = Value.int y t) ys vs → IntsAre vs ys
  | _, _, .nil => .nil
  | _, _, .cons ⟨t, e⟩ r => by subst e; exact .cons _ t r.ints
theorem strs_at : ∀ {vs : List Value} {ys : List Str}, StrsAre vs ys → ∀ (i : Nat) (v : Value), vs[i]? = some v → ∃ y, ys[i]? = some y ∧ ∃ t, v = .str y t
  | _, _, .nil, i, v, h => by simp at h
  | _, _, .cons y t r, 0, v, h => by simp at h; exact ⟨y, rfl, t, h.symm⟩
  | _, _, .cons y t r, i + 1, v, h => by simp only [List.getElem?_cons_succ] at h ⊢; exact strs_at r i v h
theorem ints_at : ∀ {vs : List Value} {ns : List Int}, IntsAre vs ns → ∀ (i : Nat) (v : Value), vs[i]? = some v → ∃ y, ns[i]? = some y ∧ ∃ t, v = .int y t
  | _, _, .nil, i, v, h => by simp at h
  | _, _, .cons y t r, 0, v, h => by simp at h; exact ⟨y, rfl, t, h.symm⟩
  | _, _, .cons y t r, i + 1, v, h => by simp only [List.getElem?_cons_succ] at h ⊢; exact ints_at r i v h

/-- what a turn of a comprehension hands back: an item, over a ledger that holds what it held -/
structure Elt {β : Type} (news : List (Addr × Obj)) (out : β → Value → Prop) (r : β) (y : Value) (news' : List (Addr × Obj)) : Prop where
  kept : ∀ p ∈ news, p ∈ news'
  is : out r y

section
variable {prog : Program} {w : World} {A : Around} {h₀ : Heap} {L : Addr} {m : Str → Option Value} {env : Env} {elt : Expr} {x : Str} {scope : Scope} {cl : List (Str × Addr)} {s : Shared} {S : List (Addr × Obj) → Prop} {P : Nat → Value → Prop} {Fin : List Value → List (Addr × Obj) → Prop} {news : List (Addr × Obj)}
theorem map_rest {α β : Type} {n : Nat} {ks : List α} (rel : α → Value → Prop) (out : β → Value → Prop) (g : α → β) (hks : ks.length = n) (hP : ∀ i v, i < n → P i v → ∃ k, ks[i]? = some k ∧ rel k v) (hS : S news)
    (turn : ∀ k v I oI C oC D m₂ ys h tk (E' : Value → Shared → Prop), k ∈ ks → rel k v → LCg.NsObj oC m₂ → m₂ x = some v → Fr h₀ L h m → News h₀ L h ((I, oI) :: (C, oC) :: (D, LCg.lst ys) :: news) → LCg.Off3 I C D news → ((@Ne Nat I C) ∧ (@Ne Nat I D) ∧ (@Ne Nat C D)) →
      wpAny (model prog w) A (eval elt (compEnvC scope cl C env)) (LCg.CompEnd h₀ L m { s with heap := h, toks := tk } I oI C oC D (LCg.lst ys) (fun _ => True) (fun y news' => Elt news out (g k) y news')) E' { s with heap := h, toks := tk })
    (fin : ∀ ys, All2 out (ks.map g) ys → Fin ys news) : LCg.CompRest prog w A h₀ L m env elt x scope cl s S P Fin n 0 [] news := by
  have key : ∀ (j i : Nat) (ys : List Value), i + j = n → All2 out ((ks.take i).map g) ys → LCg.CompRest prog w A h₀ L m env elt x scope cl s S P Fin j i ys news := by
    intro j
    induction j with
    | zero =>
      intro i ys hi hy
      have e : i = ks.length := by omega
      subst e
      rw [List.take_length] at hy
      exact LCg.CompRest.zero (fin ys hy)
    | succ j ih =>
      intro i ys hi hy
      refine LCg.CompRest.succ ?_
      intro v I oI C oC D m₂ h tk E' hv hC hx F N off ne
      obtain ⟨k, hk, hr⟩ := hP i v (by omega) hv
      refine wpAny_mono (turn k v I oI C oC D m₂ ys h tk E' (List.mem_of_getElem? hk) hr hC hx F N off ne) (fun y s₂ hq => ?_) fun _ _ e => e
      obtain ⟨h', tk', nw, e, F', N', off', _, hn⟩ := hq
      refine ⟨h', tk', news, e, F', fun p hp => N' p ?_, LCg.Off3.of fun p hp => off'.mem p (hn.kept p hp), hS, ?_⟩
      · rcases List.mem_cons.mp hp with rfl | hp
        · exact List.mem_cons_self
        · rcases List.mem_cons.mp hp with rfl | hp
          · exact List.mem_cons_of_mem _ List.mem_cons_self
          · rcases List.mem_cons.mp hp with rfl | hp
            · exact List.mem_cons_of_mem _ (List.mem_cons_of_mem _ List.mem_cons_self)
            · exact List.mem_cons_of_mem _ (List.mem_cons_of_mem _ (List.mem_cons_of_mem _ (hn.kept p hp)))
      · refine ih (i + 1) _ (by omega) ?_
        rw [List.take_add_one, hk]
        simpa using hy.snoc hn.is
  exact key n 0 [] (by omega) (by simp only [List.take_zero, List.map_nil]; exact .nil)

/-- a range as a comprehension's source, whatever its step -/
def SrcD (prog : Program) (w : World) (A : Around) (h₀ : Heap) (L : Addr) (m : Str → Option Value) (env : Env) (elt : Expr) (x : Str) (scope : Scope) (cl : List (Str × Addr)) (Fin : Shared → List Value → List (Addr × Obj) → Prop) (xv : Value) (s₁ : Shared) : Prop :=
  ∃ r a b c t u v n news, xv = .ref r ∧ A.handled = none ∧ Fr h₀ L s₁.heap m ∧ News h₀ L s₁.heap news ∧ IsRange s₁.heap r a b c t u v ∧ Builtin.Range.small a b c = true ∧ Builtin.Range.rangeSize a b c = ((n : Nat) : Int) ∧ n ≤ sizeLine ∧
    ∀ s₂ : Shared, (∃ h, s₂ = { s₁ with heap := h }) → LCg.CompRest prog w A h₀ L m env elt x scope cl s₂ (fun _ => True) (fun i v => ∃ t, v = .int (a + (i : Int) * c) t) (Fin s₂) n 0 [] news
theorem srcD_intro {s₁ : Shared} {Fin : Shared → List Value → List (Addr × Obj) → Prop} {r : Addr} {a b c : Int} {t u v : Tok} {n : Nat} (hh : A.handled = none) (F : Fr h₀ L s₁.heap m) (N : News h₀ L s₁.heap news) (hr : IsRange s₁.heap r a b c t u v) (hsm : Builtin.Range.small a b c = true) (hn : Builtin.Range.rangeSize a b c = ((n : Nat) : Int)) (hsz : n ≤ sizeLine)
    (h : ∀ g, LCg.CompRest prog w A h₀ L m env elt x scope cl { s₁ with heap := g } (fun _ => True) (fun i v => ∃ t, v = .int (a + (i : Int) * c) t) (Fin { s₁ with heap := g }) n 0 [] news) :
    SrcD prog w A h₀ L m env elt x scope cl Fin (.ref r) s₁ := ⟨r, a, b, c, t, u, v, n, news, rfl, hh, F, N, hr, hsm, hn, hsz, fun _ ⟨g, e⟩ => e ▸ h g⟩
theorem listComp_D {E : Value → Shared → Prop} {iter : Expr} {px : Pos} {pos : Pos} {Q : Value → Shared → Prop} (F₀ : Fr h₀ L s.heap m)
    (hclos : closureFor scope env = pure cl) (hcell : ∀ y ∈ scope.names, y.2 ≠ .cell) (hkind : scope.kind = .function)
    (hnames : ∀ y ∈ scope.names, y.2 = .local → scope.names.lookup y.1 = some .local) (hx : scope.names.lookup x = some .local)
    (h : wpAny (model prog w) A (eval iter env) (SrcD prog w A h₀ L m env elt x scope cl (fun s₂ => LCg.FinE h₀ L m s₂ Q)) E s)
    (hs : ∀ x, foldedSetIterable iter env x = pure x := by intro _; rfl) :
    wpAny (model prog w) A (eval (.ListComp elt [⟨.Name x px, iter, [], 0⟩] scope pos) env) Q E s := by
  rw [eval_ListComp]
  refine wpAny_comprehension_free (use := none) rfl hs hclos hkind hnames (wpAny_mono h (fun xv s₁ h₁ => ?_) fun _ _ e => e)
  obtain ⟨r, a, b, c, t, u, v, n, news, rfl, hh, F, N, hr, hsm, hn, hsz, R⟩ := h₁
  refine wpAny_pyIter_range hr hsm ?_
  refine LCg.block_U (Walks.range hh s₁.heap.objs.size a c n) hsz (fun i h st => ⟨_, st⟩) (fun i h h' o nw st e e' _ _ _ => ?_) hcell hkind hx (by show IsRangeIter _ _ _ _ _; rw [hn]; simpa using Heap.get?_push_size _ rfl) (fun b hb => ?_)
    (F.keeps fun _ _ e => Heap.get?_push_of_some _ e) (N.grown fun _ _ e => Heap.get?_push_of_some _ e) (Nat.ne_of_lt F.ns.lt) (next_is_new F) (fun p hp => Nat.ne_of_lt (Heap.lt_size (N p hp).1)) trivial (R _ ⟨_, rfl⟩) ?_
  · have st' : h.get? s₁.heap.objs.size = some _ := st
    show h'.get? s₁.heap.objs.size = some _
    rw [e', ← e]; exact st'
  · rw [List.mem_singleton.mp hb]
    show s₁.heap.objs.size < (s₁.heap.push _).objs.size
    rw [Heap.size_push]; exact Nat.lt_succ_self _
  · intro D C h tk m' ys news' F' N' o1 hn hC₀ hD₀ hCL hDL hCD offC fin
    refine ⟨m', hn, fun h'' hs'' => fin D h'' tk (F'.change hs'' hCL hC₀) (fun p hp => ?_) o1⟩
    refine ⟨hs''.extBut _ _ ?_ (N' p hp).1, (N' p hp).2⟩
    rcases List.mem_cons.mp hp with rfl | hp
    · exact Ne.symm hCD
    · exact offC p hp
end
end

section
open PySem PyProof.Rows PySem.Calls
set_option maxRecDepth 100000

theorem mul_list (x : Str) (n : Nat) : (Txt.mul x (n : Int)).cps.toList = (List.replicate n x.cps.toList).flatten := by
  unfold Txt.mul
  by_cases h0 : (n : Int) < 1
  · rw [if_pos h0]
    have : n = 0 := by omega
    subst this; rfl
  · rw [if_neg h0]
    by_cases h1 : ((n : Int) == 1 || x.length == 0) = true
    · rw [if_pos h1]
      rcases Bool.or_eq_true_iff.mp h1 with h1 | h1
      · have : n = 1 := by have := eq_of_beq h1; omega
        subst this; simp
      · have h2 : x.cps.toList = [] := by
          have := eq_of_beq h1
          apply List.eq_nil_of_length_eq_zero
          rw [← str_len]; exact this
        rw [h2]
        have : ∀ k : Nat, ((List.replicate k ([] : List Nat)).flatten) = [] := by intro k; induction k <;> simp_all [List.replicate_succ]
        exact (this n).symm
    · rw [if_neg h1]
      have : ∀ (k : Nat) (acc : Array Nat), ((List.replicate k x.cps).foldl (· ++ ·) acc).toList = acc.toList ++ (List.replicate k x.cps.toList).flatten := by
        intro k
        induction k with
        | zero => intro acc; simp
        | succ k ih => intro acc; rw [List.replicate_succ, List.foldl_cons, ih, List.replicate_succ, List.flatten_cons]; simp
      rw [Int.toNat_natCast]
      simpa using this n #[]
theorem str_ext {x y : Str} (h : x.cps.toList = y.cps.toList) : x = y := by
  obtain ⟨⟨a⟩⟩ := x; obtain ⟨⟨b⟩⟩ := y; simp only at h; rw [h]

def unitS (tw back : Nat) : Str := ⟨(unitL tw back).toArray⟩
def unitsS (tw age : Nat) : List Str := (List.range age).map fun i => unitS tw (age - 1 - i)
theorem unit_val (tw k : Nat) (b : Int) (hb : b = (k : Int)) : (Str.ofString "&" ++ Txt.mul (Str.ofString "amp;") ((1 + (tw : Int)) * b)) ++ Str.ofString "#xD;" = unitS tw k := by
  subst hb
  have e1 : (Str.ofString "amp;").cps.toList = [97, 109, 112, 59] := by decide +kernel
  have e2 : (Str.ofString "#xD;").cps.toList = [35, 120, 68, 59] := by decide +kernel
  have e3 : (Str.ofString "&").cps.toList = [38] := by decide +kernel
  have e4 : (1 + (tw : Int)) * (k : Int) = (((1 + tw) * k : Nat) : Int) := by push_cast; rfl
  apply str_ext
  simp only [Str.cps_append, Array.toList_append]
  rw [e4, mul_list, e1, e2, e3]
  simp [unitS, unitL]
theorem cat_units (tw : Nat) : ∀ age, cat (unitsS tw age) ++ [10] = endL tw age
  | 0 => rfl
  | k + 1 => by
    have ih := cat_units tw k
    have e : unitsS tw (k + 1) = unitS tw k :: unitsS tw k := by
      unfold unitsS
      rw [List.range_succ_eq_map, List.map_cons, List.map_map]
      congr 1
      refine List.map_congr_left fun i hi => ?_
      simp only [Function.comp_apply]
      congr 1; omega
    rw [e]
    show (unitS tw k).cps.toList ++ cat (unitsS tw k) ++ [10] = unitL tw k ++ endL tw k
    rw [List.append_assoc, ih]
    simp [unitS]
theorem end_val (tw age : Nat) : (Str.join ⟨#[]⟩ (unitsS tw age) ++ Str.ofString "\n").cps.toList = endL tw age := by
  have e : (Str.ofString "\n").cps.toList = [10] := by decide +kernel
  simp only [Str.cps_append, Array.toList_append]
  rw [join_cat, e, cat_units]
theorem page_val (tw age : Nat) (E : Str) (hE : E.cps.toList = endL tw age) (sizes : List Nat) : Str.join (Str.ofString "|") ((sizes.map fun (n : Nat) => (n : Int)).map fun n => Txt.mul E n) = pageS tw age sizes := by
  have e : Str.ofString "|" = bar := by decide +kernel
  rw [e, List.map_map]
  unfold pageS
  congr 1
  refine List.map_congr_left fun n _ => ?_
  apply str_ext
  show (Txt.mul E (n : Int)).cps.toList = _
  rw [mul_list, hE]
  simp [groupS, groupL]

theorem units_tot (tw age : Nat) (ht : tw ≤ 1) (ha : age ≤ 5) : ((unitsS tw age).map (·.length)).sum + (unitsS tw age).length * 0 ≤ 16777216 := by
  have h := end_len tw age ht ha
  rw [← cat_units, List.length_append, cat_length] at h
  simp only [List.length_cons, List.length_nil] at h
  omega
theorem mul_len (E : Str) (n : Nat) : (Txt.mul E (n : Int)).length = n * E.length := by
  rw [str_len, mul_list]
  simp [str_len]
theorem groups_tot (E : Str) (hE : E.length ≤ 106) : ∀ sizes : List Nat, (∀ n ∈ sizes, n ≤ 10) → ((((sizes.map fun (n : Nat) => (n : Int)).map fun n => Txt.mul E n)).map (·.length)).sum ≤ 1060 * sizes.length
  | [], _ => Nat.le_refl _
  | a :: r, h => by
    have ih := groups_tot E hE r fun n hn => h n (List.mem_cons_of_mem _ hn)
    have h1 := h a List.mem_cons_self
    simp only [List.map_cons, List.sum_cons, List.length_cons] at ih ⊢
    rw [mul_len]
    have : a * E.length ≤ 10 * 106 := Nat.mul_le_mul h1 hE
    omega

section
variable {prog : Program} {w : World} {A : Around} {E : Value → Shared → Prop} {s : Shared} {h₀ : Heap} {L D : Addr} {m : Str → Option Value} {news : List (Addr × Obj)}
theorem join_made {x : Str} {t : Tok} {ys : List Value} {zs : List Str} {Q : Value → Shared → Prop} (N : News h₀ L s.heap news) (hm : (D, LCg.lst ys) ∈ news) (hs : StrsAre ys zs) (hok : (zs.map (·.length)).sum + zs.length * x.length ≤ 16777216)
    (h : ∀ t' k, Q (.str (Str.join x zs) t') { s with toks := k }) : wpAny (model prog w) A (call (.builtin "str.join") [.str x t, .ref D]) Q E s :=
  join_list ⟨_, (N _ hm).1, rfl, _, rfl⟩ (by simpa using hs) hok fun t' k => by rw [Txt_join]; exact h t' k
theorem mul_any {x : Str} {t u : Tok} {n : Int} {Q : Value → Shared → Prop} (hx : x.length ≤ 4095) (hn : n ≤ 4095) (h0 : 0 ≤ n) (h : ∀ t' k, Q (.str (Txt.mul x n) t') { s with toks := k }) : wpAny (model prog w) A (binaryOp .Mult (.str x t) (.int n u)) Q E s :=
  SB.mul (mulOk_of 4095 4095 hx hn (by omega) (by decide) (by decide)) h
end
theorem amp_small {tw : Nat} {b : Int} (ht : tw ≤ 1) (hb : b ≤ 5) : (1 + (tw : Int)) * b ≤ 4095 := by
  have h : tw = 0 ∨ tw = 1 := by omega
  rcases h with rfl | rfl <;> simp <;> omega
theorem amp_nonneg {tw : Nat} {b : Int} (ht : tw ≤ 1) (hb : 0 ≤ b) : 0 ≤ (1 + (tw : Int)) * b := by
  have h : tw = 0 ∨ tw = 1 := by omega
  rcases h with rfl | rfl <;> simp <;> omega
end

section
open PySem PyProof.Rows
set_option maxRecDepth 100000

def sepL (c : Nat) : List (List Nat) → List Nat
  | [] => []
  | [p] => p
  | p :: q :: r => p ++ c :: sepL c (q :: r)
theorem sepL_cons (c : Nat) (p : List Nat) (r : List (List Nat)) (h : r ≠ []) : sepL c (p :: r) = p ++ c :: sepL c r := by
  cases r with
  | nil => exact absurd rfl h
  | cons q r => rfl
theorem sep_one {c : Nat} : ∀ {a b p q : List Nat}, c ∉ a → c ∉ b → a ++ c :: p = b ++ c :: q → a = b ∧ p = q
  | [], [], p, q, _, _, e => by simpa using e
  | [], y :: b, p, q, _, hb, e => by
    simp only [List.nil_append, List.cons_append, List.cons.injEq] at e
    exact absurd (e.1 ▸ List.mem_cons_self) hb
  | x :: a, [], p, q, ha, _, e => by
    simp only [List.nil_append, List.cons_append, List.cons.injEq] at e
    exact absurd (e.1 ▸ List.mem_cons_self) ha
  | x :: a, y :: b, p, q, ha, hb, e => by
    simp only [List.cons_append, List.cons.injEq] at e
    obtain ⟨h1, h2⟩ := sep_one (fun h => ha (List.mem_cons_of_mem _ h)) (fun h => hb (List.mem_cons_of_mem _ h)) e.2
    exact ⟨by rw [e.1, h1], h2⟩
theorem sepL_inj {c : Nat} : ∀ {ps qs : List (List Nat)}, ps ≠ [] → qs ≠ [] → (∀ p ∈ ps, c ∉ p) → (∀ q ∈ qs, c ∉ q) → sepL c ps = sepL c qs → ps = qs
  | [], _, h, _, _, _, _ => absurd rfl h
  | _, [], _, h, _, _, _ => absurd rfl h
  | [p], [q], _, _, _, _, e => by rw [show p = q from e]
  | [p], q :: q2 :: r, _, _, hp, _, e => by
    have e' : p = q ++ c :: sepL c (q2 :: r) := e
    exact absurd (e' ▸ List.mem_append_right _ List.mem_cons_self) (hp p List.mem_cons_self)
  | p :: p2 :: r, [q], _, _, _, hq, e => by
    have e' : p ++ c :: sepL c (p2 :: r) = q := e
    exact absurd (e' ▸ List.mem_append_right _ List.mem_cons_self) (hq q List.mem_cons_self)
  | p :: p2 :: r, q :: q2 :: r', _, _, hp, hq, e => by
    have e' : p ++ c :: sepL c (p2 :: r) = q ++ c :: sepL c (q2 :: r') := e
    obtain ⟨h1, h2⟩ := sep_one (hp p List.mem_cons_self) (hq q List.mem_cons_self) e'
    rw [h1, sepL_inj (by simp) (by simp) (fun x hx => hp x (List.mem_cons_of_mem _ hx)) (fun x hx => hq x (List.mem_cons_of_mem _ hx)) h2]
theorem join_sepL (c : Nat) : ∀ ys : List Str, (Str.join ⟨#[c]⟩ ys).cps.toList = sepL c (ys.map fun y => y.cps.toList)
  | [] => rfl
  | [y] => by simp [Str.join, sepL]
  | y :: z :: r => by
    have ih := join_sepL c (z :: r)
    show (y ++ ⟨#[c]⟩ ++ Str.join ⟨#[c]⟩ (z :: r)).cps.toList = y.cps.toList ++ c :: sepL c ((z :: r).map fun y => y.cps.toList)
    rw [← ih]
    simp [Str.cps_append]
theorem toList_inj {a b : Str} (h : a.cps.toList = b.cps.toList) : a = b := by
  rw [str_eq h]
theorem split_ne (x y : Str) : Txt.split x y ≠ [] := by
  intro e
  have := StrLaws.join_split x y
  unfold Txt.split at e
  split at e
  · cases e
  · split at e
    · cases e
    · rw [StrLaws.partsBetween_eq] at e
      obtain ⟨p, r, e'⟩ := StrLaws.partsFrom_ne x y.length 0 (PySem.Builtin.Str.occurrences x y 0 x.length (x.length + 1))
      rw [e'] at e; cases e
theorem split_join (c : Nat) (ys : List Str) (h0 : ys ≠ []) (hf : ∀ y ∈ ys, c ∉ y.cps.toList) : Txt.split (Str.join ⟨#[c]⟩ ys) ⟨#[c]⟩ = ys := by
  have h1 := StrLaws.join_split (Str.join ⟨#[c]⟩ ys) ⟨#[c]⟩
  have h2 := StrLaws.split_free (Str.join ⟨#[c]⟩ ys) c
  have h3 := split_ne (Str.join ⟨#[c]⟩ ys) ⟨#[c]⟩
  generalize Txt.split (Str.join ⟨#[c]⟩ ys) ⟨#[c]⟩ = ps at h1 h2 h3 ⊢
  have e := congrArg (fun x : Str => x.cps.toList) h1
  simp only [join_sepL] at e
  have h := sepL_inj (by simpa using h3) (by simpa using h0) (fun p hp => by
    obtain ⟨y, hy, rfl⟩ := List.mem_map.mp hp
    exact h2 y hy) (fun p hp => by
    obtain ⟨y, hy, rfl⟩ := List.mem_map.mp hp
    exact hf y hy) e
  have inj : ∀ {as bs : List Str}, (as.map fun y => y.cps.toList) = (bs.map fun y => y.cps.toList) → as = bs := by
    intro as
    induction as with
    | nil => intro bs e; cases bs with
      | nil => rfl
      | cons b bs => cases e
    | cons a as ih => intro bs e; cases bs with
      | nil => cases e
      | cons b bs =>
        simp only [List.map_cons, List.cons.injEq] at e
        rw [toList_inj e.1, ih e.2]
  exact inj h

/-- how many semicolons an end has after `k` turns -/
def sc (tw : Nat) : Nat → Nat
  | 0 => 0
  | k + 1 => (1 + tw) * k + 1 + sc tw k
theorem count_amps : ∀ n : Nat, ((List.replicate n [97, 109, 112, 59]).flatten : List Nat).count 59 = n
  | 0 => rfl
  | n + 1 => by rw [List.replicate_succ, List.flatten_cons, List.count_append, count_amps n]; simp; omega
theorem count_unit (tw b : Nat) : (unitL tw b).count 59 = (1 + tw) * b + 1 := by
  unfold unitL
  rw [List.count_cons, List.count_append, count_amps]; rfl
theorem count_end (tw : Nat) : ∀ k, (endL tw k).count 59 = sc tw k
  | 0 => rfl
  | k + 1 => by
    show (unitL tw k ++ endL tw k).count 59 = _
    rw [List.count_append, count_unit, count_end tw k]; rfl
theorem count_group (tw k : Nat) : ∀ n, (groupL tw k n).count 59 = n * sc tw k
  | 0 => by simp [groupL]
  | n + 1 => by
    have ih := count_group tw k n
    unfold groupL at ih ⊢
    rw [List.replicate_succ, List.flatten_cons, List.count_append, ih, count_end, Nat.succ_mul]; omega
theorem cnt_count (c : Nat) : ∀ l : List Nat, cnt c l = (l.count c : Nat)
  | [] => rfl
  | n :: r => by
    rw [cnt_cons, cnt_count c r, List.count_cons]
    by_cases h : n = c <;> simp [h]
    omega
theorem count_groupS (tw k n : Nat) : Txt.count (groupS tw k n) ⟨#[59]⟩ = ((n * sc tw k : Nat) : Int) := by
  rw [count_is]
  show cnt 59 (groupS tw k n).cps.toList = _
  rw [cnt_count]
  unfold groupS
  rw [List.toList_toArray, count_group]
def nobar (c : Nat) : Bool := c != 124
theorem amps_nobar : ∀ n : Nat, ((List.replicate n [97, 109, 112, 59]).flatten : List Nat).all nobar = true
  | 0 => rfl
  | n + 1 => by rw [List.replicate_succ, List.flatten_cons, List.all_append, amps_nobar n]; rfl
theorem unit_nobar (tw b : Nat) : (unitL tw b).all nobar = true := by
  unfold unitL
  rw [List.all_cons, List.all_append, amps_nobar]; rfl
theorem end_nobar (tw : Nat) : ∀ k, (endL tw k).all nobar = true
  | 0 => rfl
  | k + 1 => by
    show (unitL tw k ++ endL tw k).all nobar = true
    rw [List.all_append, unit_nobar, end_nobar tw k]; rfl
theorem group_nobar (tw k : Nat) : ∀ n, (groupL tw k n).all nobar = true
  | 0 => rfl
  | n + 1 => by
    have ih := group_nobar tw k n
    unfold groupL at ih ⊢
    rw [List.replicate_succ, List.flatten_cons, List.all_append, ih, end_nobar]; rfl
theorem group_bar (tw k n : Nat) : 124 ∉ (groupS tw k n).cps.toList := fun hm => by
  unfold groupS at hm
  rw [List.toList_toArray] at hm
  exact absurd (List.all_eq_true.mp (group_nobar tw k n) 124 hm) (by decide)
theorem split_page (tw k : Nat) (ns : List Nat) (h : ns ≠ []) : Txt.split (pageS tw k ns) bar = ns.map (groupS tw k) := by
  unfold pageS bar
  refine split_join 124 _ (by simpa using h) fun y hy => ?_
  obtain ⟨n, hn, rfl⟩ := List.mem_map.mp hy
  exact group_bar tw k n
end

section
open PySem PySem.W PyProof.Rows PySem.Calls
set_option maxRecDepth 100000
local macro_rules | `(tactic| walk_at "mc enter") => `(tactic| (refine' code_defG (news := []) ?k1 ?k2 ?k3 ?k4 ?k5 ?kA ?kF ?kK ?k6 ?k7 ?k8 ?k9 ?kB ?_ ?c2 ?c3 ?c4 ?c5; (case kA => exact rfl); (case kF => exact rfl); (case kK => assumption); (case k1 => k_asm); (case k2 => k_asm); (case k3 => k_asm); (case k4 => exact fun _ hp => nomatch hp); (case k5 => k_asm); (case k6 => k_is); (case k7 => k_is); (case k8 => ktr_room); (case k9 => first | exact BindsTo.of_eq rfl | exact binds_K (by k_in) rfl (by k_is) rfl rfl rfl | (refine' kp_binds ?kx ?ke; (case kx => k_in); (case ke => exact fun _ => rfl))); (case c5 => decide); (case kB => exact locs rfl); (case c2 => exact rfl); (case c3 => exact rfl); (case c4 => exact rfl); k_whole))

theorem replaceT {prog : Program} {w : World} {A : Around} {E : Value → Shared → Prop} {s : Shared} {x y z : Str} {t u v : Tok} {Q : Value → Shared → Prop} (hu : u ≠ 0) (hv : v ≠ 0) (huv : u ≠ v) (hyz : (y == z) = false) (hx : x.length ≤ 1048576) (hz : z.length ≤ 14)
    (hq : ∀ t' k, s.toks ≤ k → Q (.str (Txt.replace x y z) t') { s with toks := k }) : wpAny (model prog w) A (call (.builtin "str.replace") [.str x t, .str y u, .str z v]) Q E s :=
  wpAny_toks (Nat.le_refl _) (SC.replaceW hu hv huv hyz hx hz fun t' k hk => hq t' k hk)

theorem tok_ne0 {n k : Nat} (h : 0 < n) (hk : n ≤ k) : k ≠ 0 := by omega
theorem one_of {y : Str} (h : y = "&" ∨ y = "<" ∨ y = ">") : ∃ c, y = ⟨#[c]⟩ := by
  rcases h with h | h | h
  · exact ⟨_, h.trans amp_is⟩
  · exact ⟨_, h.trans lt_is⟩
  · exact ⟨_, h.trans gt_is⟩
def Lit (y : Str) : Prop := y = "&" ∨ y = "<" ∨ y = ">"
theorem lit_amp : Lit "&" := .inl rfl
theorem lit_lt : Lit "<" := .inr (.inl rfl)
theorem lit_gt : Lit ">" := .inr (.inr rfl)
theorem len1 {x y z : Str} (hx : x.length ≤ 5000) (hy : Lit y := by first | exact lit_amp | exact lit_lt | exact lit_gt) (hz : z.length ≤ 5 := by decide) : (Txt.replace x y z).length ≤ 1048576 :=
  Nat.le_trans (rep_len_one hx hz (one_of hy)) (by decide)
theorem len2 {x y z y' z' : Str} (hx : x.length ≤ 5000) (hy : Lit y := by first | exact lit_amp | exact lit_lt | exact lit_gt) (hz : z.length ≤ 5 := by decide) (hy' : Lit y' := by first | exact lit_amp | exact lit_lt | exact lit_gt) (hz' : z'.length ≤ 5 := by decide) : (Txt.replace (Txt.replace x y z) y' z').length ≤ 1048576 :=
  Nat.le_trans (rep_len_one (rep_len_one hx hz (one_of hy)) hz' (one_of hy')) (by decide)
theorem len3 {x y z y' z' y'' z'' : Str} (hx : x.length ≤ 5000) (hy : Lit y := by first | exact lit_amp | exact lit_lt | exact lit_gt) (hz : z.length ≤ 5 := by decide) (hy' : Lit y' := by first | exact lit_amp | exact lit_lt | exact lit_gt) (hz' : z'.length ≤ 5 := by decide) (hy'' : Lit y'' := by first | exact lit_amp | exact lit_lt | exact lit_gt) (hz'' : z''.length ≤ 5 := by decide) : (Txt.replace (Txt.replace (Txt.replace x y z) y' z') y'' z'').length ≤ 1048576 :=
  Nat.le_trans (rep_len_one (rep_len_one (rep_len_one hx hz (one_of hy)) hz' (one_of hy')) hz'' (one_of hy'')) (by decide)
/-- a def's first state: it has bound an argument, so a token has been made -/
theorem tok_gen {α : Type} {M : Model} {A : Around} {t : Sem α} {Q : α → Shared → Prop} {E : Value → Shared → Prop} {hp : Heap} {g : Array GenState} {d : Drawn} {o : OsState} {n k : Nat} (hk : 0 < k)
    (h : ∀ tk, 0 < tk → wpAny M A t Q E { heap := hp, gens := g, drawn := d, toks := tk, os := o }) : wpAny M A t Q E { heap := hp, gens := g, drawn := d, toks := n + k, os := o } := h _ (by omega)
section
local macro_rules | `(tactic| walk_at "execs cons") => `(tactic| ((with_reducible refine wpAny_execs_cons ?_); try dsimp only))
local macro_rules | `(tactic| walk_at "execs nil") => `(tactic| refine wpAny_execs_nil ?_)
local macro_rules | `(tactic| walk_at "call builtin:str.replace") => `(tactic| ((with_reducible show wpAny _ _ (call (Value.builtin "str.replace") [Value.str _ _, Value.str _ _, Value.str _ _]) _ _ _); (refine replaceT (by (show @Ne Nat _ _); omega) (by (show @Ne Nat _ _); omega) (by (show @Ne Nat _ _); omega) (by decide) (by first | omega | exact len1 (by assumption) | exact len2 (by assumption) | exact len3 (by assumption)) (by decide) ?_); intro _ _ hTk))
set_option maxHeartbeats 8000000 in
theorem esc_walk (w : World) (x : Str) (t : Tok) (hx : x.length ≤ 5000) : Tell w 2 80 [.str x t] (fun _ => True) (fun _ v _ => ∃ t, v = .str (esc x) t) := by
  w_top off
  k_with_none
  unfold Tell PG; k_fill
  intro loose mean mg mb dp un gd cn cs a ccd cl outer A₀ base h₀ L m s Q E B F X T hk hdp hun hpre hret
  refine wpAny_call ?_
  k_dflt (walk_at "mc enter")
  intro g' L' h' FG' F' N' B' X' T' kG'
  have kE := GSub.ext kG'
  clear kG' F B X T FG'
  (try dsimp only)
  clear hpre
  refine tok_gen (by exact Nat.le_refl 1) fun tk0 hpre => ?_
  (try k_fold)
  k_steps
  all_goals (try dsimp only)
  k_steps
  all_goals (refine mc_leave (w := w) (s := s) (Post := fun _ v _ => ∃ t, v = .str (esc x) t) hret kE (by assumption) (by assumption) ?_)
  all_goals (refine ⟨_, congrArg (Value.str · _) ?_⟩)
  all_goals (clear hret)
  all_goals (simp only [esc, none_amp, none_lt, none_gt, none_cr, *])
end
end

section
open PySem PySem.W PyProof.Rows PySem.Calls
set_option maxRecDepth 100000
local macro_rules | `(tactic| walk_at "mc enter") => `(tactic| (refine' code_defG (news := []) ?k1 ?k2 ?k3 ?k4 ?k5 ?kA ?kF ?kK ?k6 ?k7 ?k8 ?k9 ?kB ?_ ?c2 ?c3 ?c4 ?c5; (case kA => exact rfl); (case kF => exact rfl); (case kK => assumption); (case k1 => k_asm); (case k2 => k_asm); (case k3 => k_asm); (case k4 => exact fun _ hp => nomatch hp); (case k5 => k_asm); (case k6 => k_is); (case k7 => k_is); (case k8 => ktr_room); (case k9 => first | exact BindsTo.of_eq rfl | exact binds_K (by k_in) rfl (by k_is) rfl rfl rfl | (refine' kp_binds ?kx ?ke; (case kx => k_in); (case ke => exact fun _ => rfl))); (case c5 => decide); (case kB => exact locs rfl); (case c2 => exact rfl); (case c3 => exact rfl); (case c4 => exact rfl); k_whole))

theorem pat1_of {P : Params} {h : Heap} (X : (hd.heap_39 P).In h) : PatAt h 54 code1 := ⟨_, _, _, _, _, X 54 _ rfl, rfl, rfl, rfl, X 53 _ rfl, rfl, rfl, by decide +kernel⟩
theorem pat2_of {P : Params} {h : Heap} (X : (hd.heap_39 P).In h) : PatAt h 59 code2 := ⟨_, _, _, _, _, X 59 _ rfl, rfl, rfl, rfl, X 58 _ rfl, rfl, rfl, by decide +kernel⟩

theorem get_sub {prog : Program} {w : World} {A : Around} {E : Value → Shared → Prop} {s : Shared} {a : Addr} {code : Array Nat} {pl : Sem Bool} {Q : Value × List Value → Shared → Prop} (P : PatAt s.heap a code)
    (h : Q (.builtin "re.Pattern.sub", [.ref a]) s) : wpAny (model prog w) A (getMethod (.ref a) "sub" pl) Q E s := by
  obtain ⟨vs, T, ot, xs, n, e1, r⟩ := P.obj
  exact getMethod_builtin ⟨_, e1, rfl⟩ F.plainAttrs_pat F.slot_pat_sub F.type_pat_sub (fun a e => by cases e; exact ⟨_, e1, rfl⟩) h

section
variable {prog : Program} {w : World} {A : Around} {E : Value → Shared → Prop} {s : Shared} {h₀ : Heap} {L : Addr} {m : Str → Option Value} {news : List (Addr × Obj)} {P : Params}
theorem get_sub1 {pl : Sem Bool} {Q : Value × List Value → Shared → Prop} (F : Fr h₀ L s.heap m) (X : (hd.heap_39 P).In h₀)
    (h : Q (.builtin "re.Pattern.sub", [.ref 54]) s) : wpAny (model prog w) A (getMethod (.ref 54) "sub" pl) Q E s := get_sub (pat1_of (X.keeps F.keep)) h
theorem get_sub2 {pl : Sem Bool} {Q : Value × List Value → Shared → Prop} (F : Fr h₀ L s.heap m) (X : (hd.heap_39 P).In h₀)
    (h : Q (.builtin "re.Pattern.sub", [.ref 59]) s) : wpAny (model prog w) A (getMethod (.ref 59) "sub" pl) Q E s := get_sub (pat2_of (X.keeps F.keep)) h
theorem news_kept {h h' : Heap} (N : News h₀ L h news) (k : Ext h h') : News h₀ L h' news := fun p hp => ⟨k _ _ (N p hp).1, (N p hp).2⟩
theorem crlf_call {x : Str} {u v : Tok} {Q : Value → Shared → Prop} (F : Fr h₀ L s.heap m) (N : News h₀ L s.heap news) (X : (hd.heap_39 P).In h₀) (hx : x.length ≤ 2 ^ 16) (hr : ∀ c ∈ x.cps.toList, c ≠ 13)
    (h : ∀ t h' tk, Fr h₀ L h' m → News h₀ L h' news → Q (.str ⟨(feeds [13, 10] x.cps.toList).toArray⟩ t) { s with heap := h', toks := tk }) :
    wpAny (model prog w) A (call (.builtin "re.Pattern.sub") [.ref 59, .str "\r\n" v, .str x u]) Q E s := by
  have e : (Str.ofString "\r\n").cps.toList = [13, 10] := by decide +kernel
  refine call_sub_feeds (pat2_of (X.keeps F.keep)) (by decide +kernel) (by decide +kernel) hx hr fun t h' tk k => ?_
  rw [e]
  exact h t h' tk (F.kept k) (news_kept N k)
theorem dots_call {x : Str} {u v : Tok} {Q : Value → Shared → Prop} (F : Fr h₀ L s.heap m) (N : News h₀ L s.heap news) (X : (hd.heap_39 P).In h₀) (hx : x.length ≤ 2 ^ 16) (hr : ∀ c ∈ x.cps.toList, c ≠ 46)
    (h : ∀ t h' tk, Fr h₀ L h' m → News h₀ L h' news → Q (.str x t) { s with heap := h', toks := tk }) :
    wpAny (model prog w) A (call (.builtin "re.Pattern.sub") [.ref 54, .str ".." v, .str x u]) Q E s :=
  call_sub_dots (pat1_of (X.keeps F.keep)) (by decide +kernel) hx hr fun t h' tk k => h t h' tk (F.kept k) (news_kept N k)
end
theorem quo_len (x : Str) (h : x.length ≤ 5000) : (quo x).length ≤ 2 ^ 16 := by
  have : ∀ l : List Nat, (feeds [13, 10] l).length ≤ 2 * l.length := by
    intro l
    induction l with
    | nil => exact Nat.le_refl _
    | cons c r ih =>
      show ((if c = 10 then [13, 10] else [c]) ++ feeds [13, 10] r).length ≤ _
      rw [List.length_append, List.length_cons]
      have : (if c = 10 then [13, 10] else [c]).length ≤ 2 := by split <;> exact Nat.le_of_ble_eq_true rfl
      omega
  have h1 := this x.cps.toList
  have h2 : x.cps.toList.length = x.length := Array.length_toList
  show (feeds [13, 10] x.cps.toList).toArray.size ≤ _
  rw [List.size_toArray]; omega
theorem quo_dots (x : Str) (h : ∀ c ∈ x.cps.toList, c ≠ 46) : ∀ c ∈ (quo x).cps.toList, c ≠ 46 := by
  intro c hc
  unfold quo feeds at hc
  simp only [List.mem_flatMap] at hc
  obtain ⟨k, hk, hc⟩ := hc
  split at hc
  · simp at hc; omega
  · rw [List.mem_singleton] at hc; rw [hc]; exact h k hk

section
local macro_rules | `(tactic| walk_at "getMethod ref") => `(tactic| first | (refine get_sub1 (by assumption) (by assumption) ?_) | (refine get_sub2 (by assumption) (by assumption) ?_))
local macro_rules | `(tactic| walk_at "call builtin:re.Pattern.sub") => `(tactic| first
  | ((refine crlf_call (by assumption) (by assumption) (by assumption) (by first | assumption | omega) (by assumption) ?_); intro _ _ _ _ _; try k_sweep)
  | ((refine dots_call (by assumption) (by assumption) (by assumption) (quo_len _ (by assumption)) (quo_dots _ (by assumption)) ?_); intro _ _ _ _ _; try k_sweep))
set_option maxHeartbeats 8000000 in
theorem quo_walk (w : World) (x : Str) (t : Tok) (hx : x.length ≤ 5000) (h1 : ∀ c ∈ x.cps.toList, c ≠ 13) (h2 : ∀ c ∈ x.cps.toList, c ≠ 46) : Tell w 2 66 [.str x t] (fun _ => True) (fun _ v _ => ∃ t, v = .str (quo x) t) := by
  w_top off
  k_with_none
  unfold Tell PG; k_fill
  intro loose mean mg mb dp un gd cn cs a ccd cl outer A₀ base h₀ L m s Q E B F X T hk hdp hun hpre hret
  refine wpAny_call ?_
  k_dflt (walk_at "mc enter")
  intro g' L' h' FG' F' N' B' X' T' kG'
  have kE := GSub.ext kG'
  clear kG' F B X T FG'
  (try dsimp only)
  (try k_fold)
  k_steps
  all_goals (refine mc_leave (w := w) (s := s) (Post := fun _ v _ => ∃ t, v = .str (quo x) t) hret kE (by assumption) (by assumption) ⟨_, rfl⟩)
end
end

section
open PySem PySem.W PyProof.Rows PySem.Calls
set_option maxRecDepth 100000
local macro_rules | `(tactic| walk_at "mc enter") => `(tactic| (refine' code_defG (news := []) ?k1 ?k2 ?k3 ?k4 ?k5 ?kA ?kF ?kK ?k6 ?k7 ?k8 ?k9 ?kB ?_ ?c2 ?c3 ?c4 ?c5; (case kA => exact rfl); (case kF => exact rfl); (case kK => assumption); (case k1 => k_asm); (case k2 => k_asm); (case k3 => k_asm); (case k4 => exact fun _ hp => nomatch hp); (case k5 => k_asm); (case k6 => k_is); (case k7 => k_is); (case k8 => ktr_room); (case k9 => first | exact BindsTo.of_eq rfl | exact binds_K (by k_in) rfl (by k_is) rfl rfl rfl | (refine' kp_binds ?kx ?ke; (case kx => k_in); (case ke => exact fun _ => rfl))); (case c5 => decide); (case kB => exact locs rfl); (case c2 => exact rfl); (case c3 => exact rfl); (case c4 => exact rfl); k_whole))

def BisP (ns : List Int) (x lo hi : Int) : Prop := (∀ i : Nat, (i : Int) < lo → ns.getD i 0 ≤ x) ∧ (∀ i : Nat, hi ≤ (i : Int) → i < ns.length → x < ns.getD i 0)
abbrev BisW (ns : List Int) (x lo hi : Int) : Prop := 0 ≤ lo ∧ lo ≤ hi ∧ hi ≤ (ns.length : Int) ∧ BisP ns x lo hi
theorem mid_is {lo hi : Int} : (lo + hi).fdiv 2 = (lo + hi) / 2 := Int.fdiv_eq_ediv_of_nonneg _ (by decide)
theorem bis_start {ns : List Int} {x : Int} : BisW ns x 0 (ns.length : Int) := ⟨by omega, by omega, by omega, fun i h => by omega, fun i h h' => by omega⟩
theorem bis_hi {ns : List Int} (hs : ns.Pairwise (· ≤ ·)) {x lo hi : Int} (h0 : 0 ≤ lo) (h1 : hi ≤ (ns.length : Int)) (hb : BisP ns x lo hi) (hlt : lo < hi) (hx : x < ns.getD ((lo + hi).fdiv 2).toNat 0) : BisW ns x lo ((lo + hi).fdiv 2) := by
  rw [mid_is] at hx ⊢
  refine ⟨h0, by omega, by omega, hb.1, fun i h h' => ?_⟩
  exact Int.lt_of_lt_of_le hx (sorted_getD_le hs (by omega) h')
theorem bis_lo {ns : List Int} (hs : ns.Pairwise (· ≤ ·)) {x lo hi : Int} (h0 : 0 ≤ lo) (h1 : hi ≤ (ns.length : Int)) (hb : BisP ns x lo hi) (hlt : lo < hi) (hx : ¬ x < ns.getD ((lo + hi).fdiv 2).toNat 0) : BisW ns x ((lo + hi).fdiv 2 + 1) hi := by
  rw [mid_is] at hx ⊢
  refine ⟨by omega, by omega, h1, fun i h => ?_, hb.2⟩
  exact Int.le_trans (sorted_getD_le hs (by omega) (by omega)) (Int.not_lt.mp hx)
theorem bis_m1 {lo hi : Int} (hlt : lo < hi) : ((lo + hi).fdiv 2 - lo).toNat < (hi - lo).toNat := by rw [mid_is]; omega
theorem bis_m2 {lo hi : Int} (hlt : lo < hi) : (hi - ((lo + hi).fdiv 2 + 1)).toNat < (hi - lo).toNat := by rw [mid_is]; omega
theorem bis_end {ns : List Int} {x lo hi : Int} (hb : BisP ns x lo hi) (h1 : lo ≤ hi) (h2 : ¬ lo < hi) : BisP ns x lo lo := by
  have e : hi = lo := by omega
  rw [e] at hb; exact hb
section
set_option maxHeartbeats 8000000 in
theorem bis_walk (w : World) (l : Addr) (vs : List Value) (ns : List Int) (x : Int) (t : Tok) (hi : IntsAre vs ns) (hn : ns.length < 100) (hs : ns.Pairwise (· ≤ ·)) : Tell w 2 40 [.ref l, .int x t] (fun s => s.heap.IsList l vs.toArray) (fun _ v _ => ∃ k t, v = .int k t ∧ 0 ≤ k ∧ k ≤ (ns.length : Int) ∧ BisP ns x k k) := by
  w_top off
  k_with_none
  k_with "exec While Compare cons nil" => k_while (fun (_ : List Int) (lo hi : Int) => BisW ns x lo hi) (fun (_ : List Int) (lo hi : Int) => (hi - lo).toNat) "lo" "hi"
  k_with "state" => first | exact bis_start | exact bis_hi hs (by assumption) (by assumption) (by assumption) (by assumption) (by assumption) | exact bis_lo hs (by assumption) (by assumption) (by assumption) (by assumption) (by assumption)
  k_with "measure" => first | exact bis_m1 (by assumption) | exact bis_m2 (by assumption)
  unfold Tell PG; k_fill
  intro loose mean mg mb dp un gd cn cs a ccd cl outer A₀ base h₀ L m s Q E B F X T hk hdp hun hpre hret
  refine wpAny_call ?_
  k_dflt (walk_at "mc enter")
  intro g' L' h' FG' F' N' B' X' T' kG'
  have kE := GSub.ext kG'
  clear kG'
  (try dsimp only)
  have hl := kE.list hpre; clear hpre
  clear F B X T FG'
  (try k_fold)
  k_steps
  all_goals (try dsimp only)
  k_steps
  all_goals (refine mc_leave (w := w) (s := s) (Post := fun _ v _ => ∃ k t, v = .int k t ∧ 0 ≤ k ∧ k ≤ (ns.length : Int) ∧ BisP ns x k k) hret kE (by assumption) (by assumption) ?_)
  all_goals (exact ⟨_, _, rfl, by assumption, by omega, bis_end (by assumption) (by assumption) (by assumption)⟩)
end
end

section
open PySem PySem.W PyProof.Rows PySem.Calls
set_option maxRecDepth 100000
local macro_rules | `(tactic| walk_at "mc cells") => `(tactic| (refine' enter_cells ?k1 ?k2 ?k3 ?k5 ?kA ?kF ?kK ?k6 ?k7 ?k8 ?k9 ?kB ?kD ?_ ?c2 ?c3 ?c4; (case kA => exact rfl); (case kF => exact rfl); (case kK => assumption); (case k1 => k_asm); (case k2 => k_asm); (case k3 => k_asm); (case k5 => k_asm); (case k6 => k_is); (case k7 => k_is); (case k8 => ktr_room); (case k9 => first | exact BindsTo.of_eq rfl | exact binds_K (by k_in) rfl (by k_is) rfl rfl rfl | (refine' kp_binds ?kx ?ke; (case kx => k_in); (case ke => exact fun _ => rfl))); (case kB => exact rfl); (case kD => decide +kernel); (case c2 => exact rfl); (case c3 => exact rfl); (case c4 => exact rfl); k_whole))

theorem range_down (age : Nat) : Builtin.Range.rangeSize ((age : Int) - 1) (-1) (-1) = ((age : Nat) : Int) := by
  unfold Builtin.Range.rangeSize
  rw [if_neg (by decide)]
  by_cases h : (age : Int) - 1 > -1
  · rw [if_pos h]; simp
  · rw [if_neg h]; omega
theorem small_down (age : Nat) (h : age ≤ 5) : Builtin.Range.small ((age : Int) - 1) (-1) (-1) = true := by
  have : ∀ a : Nat, a < 6 → Builtin.Range.small ((a : Int) - 1) (-1) (-1) = true := by decide
  exact this age (by omega)
section
variable {prog : Program} {w : World} {A : Around} {h₀ : Heap} {L : Addr} {m : Str → Option Value} {env : Env} {elt : Expr} {x : Str} {scope : Scope} {cl : List (Str × Addr)} {news : List (Addr × Obj)}
theorem units_src {s₁ : Shared} {Fin : Shared → List Value → List (Addr × Obj) → Prop} {r : Addr} {t u v : Tok} {age tw : Nat} (hage : age ≤ 5) (_htw : tw ≤ 1) (hh : A.handled = none) (F : Fr h₀ L s₁.heap m) (N : News h₀ L s₁.heap news) (hr : IsRange s₁.heap r ((age : Int) - 1) (-1) (-1) t u v)
    (turn : ∀ (i : Nat) (b : Int) ti I oI C oC D m₂ ys h tk (E' : Value → Shared → Prop), i < age → b = ((age - 1 - i : Nat) : Int) → b ≤ 5 → 0 ≤ b → LCg.NsObj oC m₂ → m₂ x = some (.int b ti) → Fr h₀ L h m → News h₀ L h ((I, oI) :: (C, oC) :: (D, LCg.lst ys) :: news) → LCg.Off3 I C D news → ((@Ne Nat I C) ∧ (@Ne Nat I D) ∧ (@Ne Nat C D)) →
      wpAny (model prog w) A (eval elt (compEnvC scope cl C env)) (LCg.CompEnd h₀ L m { s₁ with heap := h, toks := tk } I oI C oC D (LCg.lst ys) (fun _ => True) (fun y news' => Elt news (fun y v => ∃ t, v = Value.str y t) (unitS tw (age - 1 - i)) y news')) E' { s₁ with heap := h, toks := tk })
    (fin : ∀ g ys, StrsAre ys (unitsS tw age) → Fin { s₁ with heap := g } ys news) : SrcD prog w A h₀ L m env elt x scope cl Fin (.ref r) s₁ := by
  refine srcD_intro hh F N hr (small_down _ hage) (range_down _) (by rw [PySem.sizeLine_eq]; omega) fun g => ?_
  refine map_rest (ks := List.range age) (fun (i : Nat) v => ∃ t, v = Value.int (((age : Nat) : Int) - 1 + (i : Int) * (-1)) t) (fun y v => ∃ t, v = Value.str y t) (fun i => unitS tw (age - 1 - i)) List.length_range (fun i v hi hv => ⟨i, by simp [hi], hv⟩) trivial (fun k v I oI C oC D m₂ ys h tk E' hk hr hC hx F N off ne => ?_) fun ys hAll => fin g ys hAll.strs
  obtain ⟨tv, rfl⟩ := hr
  have hk' := List.mem_range.mp hk
  exact turn k _ tv I oI C oC D m₂ ys h tk E' hk' (by omega) (by omega) (by omega) hC hx F N off ne
theorem groups_src {s₁ : Shared} {Fin : Shared → List Value → List (Addr × Obj) → Prop} {l : Addr} {vs : List Value} {ns : List Nat} {tw age : Nat} {E : Str} (_hE : E.cps.toList = endL tw age) (hi : IntsAre vs (ns.map fun (n : Nat) => (n : Int))) (hn : ns.length < 10) (hb : ∀ n ∈ ns, n ≤ 10) (hh : A.handled = none) (F : Fr h₀ L s₁.heap m) (N : News h₀ L s₁.heap news) (hl : h₀.IsList l vs.toArray)
    (turn : ∀ (n : Int) ti I oI C oC D m₂ ys h tk (E' : Value → Shared → Prop), 0 ≤ n → n ≤ 10 → LCg.NsObj oC m₂ → m₂ x = some (.int n ti) → Fr h₀ L h m → News h₀ L h ((I, oI) :: (C, oC) :: (D, LCg.lst ys) :: news) → LCg.Off3 I C D news → ((@Ne Nat I C) ∧ (@Ne Nat I D) ∧ (@Ne Nat C D)) →
      wpAny (model prog w) A (eval elt (compEnvC scope cl C env)) (LCg.CompEnd h₀ L m { s₁ with heap := h, toks := tk } I oI C oC D (LCg.lst ys) (fun _ => True) (fun y news' => Elt news (fun y v => ∃ t, v = Value.str y t) (Txt.mul E n) y news')) E' { s₁ with heap := h, toks := tk })
    (fin : ∀ g ys, StrsAre ys ((ns.map fun (n : Nat) => (n : Int)).map fun n => Txt.mul E n) → Fin { s₁ with heap := g } ys news) : LCg.CompSrc prog w A h₀ L m env elt x scope cl Fin (.ref l) s₁ := by
  have e := hi.length
  rw [List.length_map] at e
  refine LCg.CompSrc.base hh F N hl (by rw [List.size_toArray, PySem.sizeLine_eq]; omega) fun g => ?_
  refine map_rest (ks := ns.map fun (n : Nat) => (n : Int)) (fun (i : Int) v => ∃ t, v = Value.int i t) (fun y v => ∃ t, v = Value.str y t) (fun n => Txt.mul E n) (by rw [List.size_toArray, List.length_map]; exact e.symm) (fun i v _ hv => ints_at hi i v (by simpa using hv)) (.inl hl) (fun k v I oI C oC D m₂ ys h tk E' hk hr hC hx F N off ne => ?_) fun ys hAll => fin g ys hAll.strs
  obtain ⟨tv, rfl⟩ := hr
  obtain ⟨n, hn, rfl⟩ := List.mem_map.mp hk
  have := hb n hn
  exact turn n tv I oI C oC D m₂ ys h tk E' (by omega) (by omega) hC hx F N off ne
end
theorem units_join {prog : Program} {w : World} {A : Around} {E : Value → Shared → Prop} {s : Shared} {h₀ : Heap} {L D : Addr} {news : List (Addr × Obj)} {t : Tok} {ys : List Value} {tw age : Nat} {Q : Value → Shared → Prop} (htw : tw ≤ 1) (hage : age ≤ 5) (N : News h₀ L s.heap news) (hm : (D, LCg.lst ys) ∈ news) (hs : StrsAre ys (unitsS tw age))
    (h : ∀ X t' k, (X ++ Str.ofString "\n").cps.toList = endL tw age → Q (.str X t') { s with toks := k }) : wpAny (model prog w) A (call (.builtin "str.join") [.str "" t, .ref D]) Q E s :=
  join_made N hm hs (units_tot tw age htw hage) fun t' k => h _ t' k (end_val tw age)
theorem groups_join {prog : Program} {w : World} {A : Around} {E : Value → Shared → Prop} {s : Shared} {h₀ : Heap} {L D : Addr} {news : List (Addr × Obj)} {t : Tok} {ys : List Value} {tw age : Nat} {sizes : List Nat} {X : Str} {Q : Value → Shared → Prop} (htw : tw ≤ 1) (hage : age ≤ 5) (hn : sizes.length < 10) (hb : ∀ n ∈ sizes, n ≤ 10) (hX : X.cps.toList = endL tw age) (N : News h₀ L s.heap news) (hm : (D, LCg.lst ys) ∈ news) (hs : StrsAre ys ((sizes.map fun (n : Nat) => (n : Int)).map fun n => Txt.mul X n))
    (h : ∀ t' k, Q (.str (pageS tw age sizes) t') { s with toks := k }) : wpAny (model prog w) A (call (.builtin "str.join") [.str "|" t, .ref D]) Q E s := by
  have hl : X.length ≤ 106 := by rw [str_len, hX]; exact end_len tw age htw hage
  refine join_made N hm hs ?_ fun t' k => ?_
  · have h1 := groups_tot X hl sizes hb
    have h2 : (Str.ofString "|").length = 1 := by decide +kernel
    rw [h2, List.length_map, List.length_map]
    omega
  · rw [page_val tw age X hX]; exact h t' k
theorem mul_end {prog : Program} {w : World} {A : Around} {E : Value → Shared → Prop} {s : Shared} {tw age : Nat} {x : Str} {t u : Tok} {n : Int} {Q : Value → Shared → Prop} (htw : tw ≤ 1) (hage : age ≤ 5) (hx : x.cps.toList = endL tw age) (hn : n ≤ 10) (h0 : 0 ≤ n) (h : ∀ t' k, Q (.str (Txt.mul x n) t') { s with toks := k }) : wpAny (model prog w) A (binaryOp .Mult (.str x t) (.int n u)) Q E s :=
  mul_any (by rw [str_len, hx]; have := end_len tw age htw hage; omega) (by omega) h0 h
theorem amp_sz1 {n : Int} (h : n ≤ 4095) : (Str.ofString "&").length + (Txt.mul (Str.ofString "amp;") n).length ≤ sizeLine := by
  have h1 := len_mul_leN (x := Str.ofString "amp;") (n := n) (L := 4) (N := 4095) (by decide +kernel) (by omega)
  have h2 : (Str.ofString "&").length = 1 := by decide +kernel
  rw [PySem.sizeLine_eq, h2]; omega
theorem amp_sz2 {n : Int} (h : n ≤ 4095) : (Str.ofString "&" ++ Txt.mul (Str.ofString "amp;") n).length + (Str.ofString "#xD;").length ≤ sizeLine := by
  have h1 := len_mul_leN (x := Str.ofString "amp;") (n := n) (L := 4) (N := 4095) (by decide +kernel) (by omega)
  have h2 : (Str.ofString "&").length = 1 := by decide +kernel
  have h3 : (Str.ofString "#xD;").length = 4 := by decide +kernel
  rw [PySem.sizeLine_eq, Str.length_append, h2, h3]; omega
theorem end_sz {tw age : Nat} {X : Str} (htw : tw ≤ 1) (hage : age ≤ 5) (h : (X ++ Str.ofString "
").cps.toList = endL tw age) : X.length + (Str.ofString "
").length ≤ sizeLine := by
  have h1 := end_len tw age htw hage
  rw [← h, ← str_len, Str.length_append] at h1
  rw [PySem.sizeLine_eq]; omega
section
local macro_rules | `(tactic| walk_at "binaryOp Add str str") => `(tactic| first | (refine PyProof.Rows.add_str ?_ (amp_sz1 (amp_small (by assumption) (by assumption))); intro _ _) | (refine PyProof.Rows.add_str ?_ (amp_sz2 (amp_small (by assumption) (by assumption))); intro _ _) | (refine PyProof.Rows.add_str ?_ (end_sz (by assumption) (by assumption) (by assumption)); intro _ _))
local macro_rules | `(tactic| walk_at "eval ListComp") => `(tactic| (k_here; (with_reducible show wpAny _ _ (eval (PySem.Expr.ListComp _ [PySem.Comprehension.mk _ (PySem.Expr.Call _ _ _ _) _ _] _ _) _) _ _ _); k_dflt (refine listComp_D (F₀ := by k_asm) (by with_unfolding_all rfl) (by decide) (by rfl) (by decide) (by rfl) ?_)))
local macro_rules | `(tactic| walk_at "eval ListComp") => `(tactic| (k_here; (with_reducible show wpAny _ _ (eval (PySem.Expr.ListComp _ [PySem.Comprehension.mk _ (PySem.Expr.Name _ _) _ _] _ _) _) _ _ _); k_dflt (refine LCg.ListComp_U (F₀ := by k_asm) (by with_unfolding_all rfl) (by decide) (by rfl) (by decide) (by rfl) ?_)))
local macro_rules | `(tactic| walk_at "SrcD") => `(tactic| (k_dflt (refine units_src (by assumption) (by assumption) (by rfl) (by k_asm) (by k_asm) (by assumption) ?turn ?fin); (case' turn => (intro i b ti I oI C oC D m₂ ys h tk E' hb hb1 hb2 hb3 hC hx F N off ne; (try simp only [LCg.Off3, and_true] at off))); (case' fin => intro g ys hAll)))
local macro_rules | `(tactic| walk_at "CompSrc") => `(tactic| (k_dflt (refine groups_src (by assumption) (by assumption) (by assumption) (by assumption) (by rfl) (by k_asm) (by k_asm) (by assumption) ?turn ?fin); (case' turn => (intro n ti I oI C oC D m₂ ys h tk E' hb hb2 hC hx F N off ne; (try simp only [LCg.Off3, and_true] at off))); (case' fin => intro g ys hAll)))
local macro_rules | `(tactic| walk_at "call builtin:str.join") => `(tactic| (k_dflt (first | (refine units_join (by assumption) (by assumption) (by k_asm) (by k_mem) (by assumption) ?_; intro _ _ _ _) | (refine groups_join (by assumption) (by assumption) (by assumption) (by assumption) (by assumption) (by k_asm) (by k_mem) (by assumption) ?_; intro _ _))))
local macro_rules | `(tactic| walk_at "binaryOp Mult str int") => `(tactic| first | (refine mul_any (by decide +kernel) (amp_small (by assumption) (by assumption)) (amp_nonneg (by assumption) (by assumption)) ?_; intro _ _) | (refine mul_end (by assumption) (by assumption) (by assumption) (by assumption) (by assumption) ?_; intro _ _))
local macro_rules | `(tactic| walk_at "Elt") => `(tactic| ((refine Elt.mk (by lcg_sub) ?_); first | exact ⟨_, congrArg (Value.str · _) (unit_val _ _ _ (by assumption))⟩ | exact ⟨_, rfl⟩))
set_option maxHeartbeats 8000000 in
theorem wri_walk (w : World) (l : Addr) (vs : List Value) (ns : List Nat) (tw age : Nat) (t t2 : Tok) (hi : IntsAre vs (ns.map fun (n : Nat) => (n : Int))) (hn : ns.length < 10) (htw : tw ≤ 1) (hage : age ≤ 5) (hns : ∀ n ∈ ns, n ≤ 10) : Tell w 2 85 [.ref l, .int (tw : Int) t, .int (age : Int) t2] (fun s => s.heap.IsList l vs.toArray) (fun _ v _ => ∃ t, v = .str (pageS tw age ns) t) := by
  w_top off
  k_with_none
  unfold Tell PG; k_fill
  intro loose mean mg mb dp un gd cn cs a ccd cl outer A₀ base h₀ L m s Q E B F X T hk hdp hun hpre hret
  refine wpAny_call ?_
  k_dflt (walk_at "mc cells")
  intro g' L' h' tk' cells' FG' F' N' Y' B' X' T' kE
  k_cells Y'
  (try simp only [List.nil_append, List.cons_append] at N')
  (try dsimp only)
  have hl := kE.list hpre; clear hpre
  clear F B X T FG'
  (try k_fold)
  k_steps
  all_goals (try dsimp only)
  k_steps
  all_goals (refine mc_leave (w := w) (s := s) (Post := fun _ v _ => ∃ t, v = .str (pageS tw age ns) t) hret kE (by assumption) (by assumption) ?_)
  all_goals (exact ⟨_, rfl⟩)
end
end

section
open PySem PySem.W PyProof.Rows PySem.Calls
set_option maxRecDepth 100000
local macro_rules | `(tactic| walk_at "mc enter") => `(tactic| (refine' code_defG (news := []) ?k1 ?k2 ?k3 ?k4 ?k5 ?kA ?kF ?kK ?k6 ?k7 ?k8 ?k9 ?kB ?_ ?c2 ?c3 ?c4 ?c5; (case kA => exact rfl); (case kF => exact rfl); (case kK => assumption); (case k1 => k_asm); (case k2 => k_asm); (case k3 => k_asm); (case k4 => exact fun _ hp => nomatch hp); (case k5 => k_asm); (case k6 => k_is); (case k7 => k_is); (case k8 => ktr_room); (case k9 => first | exact BindsTo.of_eq rfl | exact binds_K (by k_in) rfl (by k_is) rfl rfl rfl | (refine' kp_binds ?kx ?ke; (case kx => k_in); (case ke => exact fun _ => rfl))); (case c5 => decide); (case kB => exact locs rfl); (case c2 => exact rfl); (case c3 => exact rfl); (case c4 => exact rfl); k_whole))

section
variable {prog : Program} {w : World} {A : Around} {h₀ : Heap} {L : Addr} {m : Str → Option Value} {env : Env} {elt : Expr} {x : Str} {scope : Scope} {cl : List (Str × Addr)} {news : List (Addr × Obj)}
theorem feeds_src {s₁ : Shared} {Fin : Shared → List Value → List (Addr × Obj) → Prop} {l : Addr} {vs : List Value} {ns : List Nat} (hi : IntsAre vs (ns.map fun (n : Nat) => (n : Int))) (hn : ns.length ≤ 4) (hb : ∀ n ∈ ns, n ≤ 10) (hh : A.handled = none) (F : Fr h₀ L s₁.heap m) (N : News h₀ L s₁.heap news) (hl : h₀.IsList l vs.toArray)
    (turn : ∀ (n : Int) ti I oI C oC D m₂ ys h tk (E' : Value → Shared → Prop), 0 ≤ n → n ≤ 10 → LCg.NsObj oC m₂ → m₂ x = some (.int n ti) → Fr h₀ L h m → News h₀ L h ((I, oI) :: (C, oC) :: (D, LCg.lst ys) :: news) → LCg.Off3 I C D news → ((@Ne Nat I C) ∧ (@Ne Nat I D) ∧ (@Ne Nat C D)) →
      wpAny (model prog w) A (eval elt (compEnvC scope cl C env)) (LCg.CompEnd h₀ L m { s₁ with heap := h, toks := tk } I oI C oC D (LCg.lst ys) (fun _ => True) (fun y news' => Elt news (fun y v => ∃ t, v = Value.str y t) (Txt.mul (Str.ofString "\n") n) y news')) E' { s₁ with heap := h, toks := tk })
    (fin : ∀ g ys, StrsAre ys ((ns.map fun (n : Nat) => (n : Int)).map fun n => Txt.mul (Str.ofString "\n") n) → Fin { s₁ with heap := g } ys news) : LCg.CompSrc prog w A h₀ L m env elt x scope cl Fin (.ref l) s₁ := by
  have e := hi.length
  rw [List.length_map] at e
  refine LCg.CompSrc.base hh F N hl (by rw [List.size_toArray, PySem.sizeLine_eq]; omega) fun g => ?_
  refine map_rest (ks := ns.map fun (n : Nat) => (n : Int)) (fun (i : Int) v => ∃ t, v = Value.int i t) (fun y v => ∃ t, v = Value.str y t) (fun n => Txt.mul (Str.ofString "\n") n) (by rw [List.size_toArray, List.length_map]; exact e.symm) (fun i v _ hv => ints_at hi i v (by simpa using hv)) (.inl hl) (fun k v I oI C oC D m₂ ys h tk E' hk hr hC hx F N off ne => ?_) fun ys hAll => fin g ys hAll.strs
  obtain ⟨tv, rfl⟩ := hr
  obtain ⟨n, hn, rfl⟩ := List.mem_map.mp hk
  have := hb n hn
  exact turn n tv I oI C oC D m₂ ys h tk E' (by omega) (by omega) hC hx F N off ne
end
/-- the kind at hand -/
structure IsTw (tw : Nat) : Prop where
  ok : tw ≤ 1
theorem first_join {prog : Program} {w : World} {A : Around} {E : Value → Shared → Prop} {s : Shared} {h₀ : Heap} {L D : Addr} {news : List (Addr × Obj)} {t : Tok} {ys : List Value} {tw : Nat} {sizes : List Nat} {Q : Value → Shared → Prop} (_htw : IsTw tw) (hn : sizes.length ≤ 4) (hb : ∀ n ∈ sizes, n ≤ 10) (N : News h₀ L s.heap news) (hm : (D, LCg.lst ys) ∈ news) (hs : StrsAre ys ((sizes.map fun (n : Nat) => (n : Int)).map fun n => Txt.mul (Str.ofString "\n") n))
    (h : ∀ t' k, Q (.str (pageS tw 0 sizes) t') { s with toks := k }) : wpAny (model prog w) A (call (.builtin "str.join") [.str "|" t, .ref D]) Q E s := by
  have e : (Str.ofString "\n").cps.toList = endL tw 0 := by show _ = [10]; decide +kernel
  refine join_made N hm hs ?_ fun t' k => ?_
  · have h1 := groups_tot (Str.ofString "\n") (by decide +kernel) sizes hb
    have h2 : (Str.ofString "|").length = 1 := by decide +kernel
    rw [h2, List.length_map, List.length_map]
    omega
  · rw [page_val tw 0 _ e]; exact h t' k
theorem quo_call (w : World) (x : Str) (t : Tok) (S : Sent x) : Tell w 2 66 [.str x t] (fun _ => True) (fun _ v _ => ∃ t, v = .str (quo x) t) := quo_walk w x t S.1 S.2.1 S.2.2

theorem made_list {g h : Heap} {L l : Addr} {news : List (Addr × Obj)} {its : Array Value} {n : Nat} (N : News g L h news) (hm : (l, W.listOf its n) ∈ news) : h.IsList l its := ⟨_, (N _ hm).1, rfl, _, rfl⟩
/-- the pages as a list of texts -/
def Pages (tw : Nat) (ns : List Nat) (s : Heap) (v : Value) (h : Heap) : Prop := ∃ l its, v = .ref l ∧ s.get? l = none ∧ h.IsList l its ∧ StrsAre its.toList ((List.range (6 - tw)).map fun k => pageS tw k ns)
theorem pages_of {tw : Nat} {ns : List Nat} {s g h : Heap} {L l : Addr} {news : List (Addr × Obj)} {its : Array Value} {n : Nat} (kE : Ext s g) (N : News g L h news) (hm : (l, W.listOf its n) ∈ news) (hs : StrsAre its.toList ((List.range (6 - tw)).map fun k => pageS tw k ns)) : Pages tw ns s (.ref l) h := ⟨l, its, rfl, new_of kE N hm, made_list N hm, hs⟩
section
local macro_rules | `(tactic| walk_at "eval ListComp") => `(tactic| (k_here; k_dflt (refine LCg.ListComp_U (F₀ := by k_asm) (by with_unfolding_all rfl) (by decide) (by rfl) (by decide) (by rfl) ?_)))
local macro_rules | `(tactic| walk_at "CompSrc") => `(tactic| (k_dflt (refine feeds_src (by assumption) (by assumption) (by assumption) (by rfl) (by k_asm) (by k_asm) (by assumption) ?turn ?fin); (case' turn => (intro n ti I oI C oC D m₂ ys h tk E' hb hb2 hC hx F N off ne; (try simp only [LCg.Off3, and_true] at off))); (case' fin => intro g ys hAll)))
local macro_rules | `(tactic| walk_at "call builtin:str.join") => `(tactic| (k_dflt ((refine first_join (by assumption) (by assumption) (by assumption) (by k_asm) (by k_mem) (by assumption) ?_; intro _ _))))
local macro_rules | `(tactic| walk_at "call ref") => `(tactic| (k_dflt (first
  | (refine' call_use (quo_call _ _ _ ?kS) ?k1 ?k2 ?k3 ?k4 ?k5 ?kK ?kd ?ku trivial ?_; (case kS => (first | exact page_sent _ _ (by decide) (by decide) _ (by assumption) (by assumption) | exact (esc_page_sent _ (by decide) _ (by assumption) (by assumption)).1)))
  | (refine' call_use (esc_walk _ _ _ ?kS) ?k1 ?k2 ?k3 ?k4 ?k5 ?kK ?kd ?ku trivial ?_; (case kS => (first | exact quo_page_len _ (by decide) _ (by assumption) (by assumption) | exact (esc_page_sent _ (by decide) _ (by assumption) (by assumption)).2 | exact (page_sent _ _ (by decide) (by decide) _ (by assumption) (by assumption)).1)))); (case k1 => k_asm); (case k2 => k_asm); (case k3 => k_asm); (case k4 => k_asm); (case k5 => k_asm); (case kK => exact rfl); (case kd => ktr_room); (case ku => ktr_units)); (intro v9 h9 tk9 kE9 hP9 F9 N9; obtain ⟨t9, e9⟩ := hP9; subst e9; clear kE9; (try rw [page_turn0]); (try rw [page_turn1]); (try dsimp only); (try k_sweep)))
local macro_rules | `(tactic| walk_at "binaryOp Mult str int") => `(tactic| (refine mul_any (by decide +kernel) (by omega) (by omega) ?_; intro _ _))
local macro_rules | `(tactic| walk_at "Elt") => `(tactic| ((refine Elt.mk (by lcg_sub) ?_); exact ⟨_, rfl⟩))
set_option maxHeartbeats 8000000 in
theorem pag0_walk (w : World) (l : Addr) (vs : List Value) (ns : List Nat) (t : Tok) (hi : IntsAre vs (ns.map fun (n : Nat) => (n : Int))) (hn : ns.length ≤ 4) (hns : ∀ n ∈ ns, n ≤ 10) : Tell w 4 90 [.ref l, .int 0 t] (fun s => s.heap.IsList l vs.toArray) (fun s₀ v h => Pages 0 ns s₀ v h) := by
  w_top off
  k_with_none
  unfold Tell PG; k_fill
  intro loose mean mg mb dp un gd cn cs a ccd cl outer A₀ base h₀ L m s Q E B F X T hk hdp hun hpre hret
  refine wpAny_call ?_
  k_dflt (walk_at "mc enter")
  intro g' L' h' FG' F' N' B' X' T' kG'
  have kE := GSub.ext kG'
  clear kG'
  (try dsimp only)
  have hl := kE.list hpre; clear hpre
  have hTw : IsTw 0 := ⟨by decide⟩
  clear F B X T FG'
  (try k_fold)
  k_steps
  all_goals (try dsimp only)
  k_steps
  all_goals (refine mc_leave (w := w) (s := s) (Post := fun s₀ v h => Pages 0 ns s₀ v h) hret kE (by assumption) (by assumption) ?_)
  all_goals (exact pages_of kE (by assumption) (by k_mem) (strs_push (strs_push (strs_push (strs_push (strs_push (.cons _ _ .nil)))))))
end
end

section
open PySem PySem.W PyProof.Rows PySem.Calls
set_option maxRecDepth 100000
local macro_rules | `(tactic| walk_at "mc enter") => `(tactic| (refine' code_defG (news := []) ?k1 ?k2 ?k3 ?k4 ?k5 ?kA ?kF ?kK ?k6 ?k7 ?k8 ?k9 ?kB ?_ ?c2 ?c3 ?c4 ?c5; (case kA => exact rfl); (case kF => exact rfl); (case kK => assumption); (case k1 => k_asm); (case k2 => k_asm); (case k3 => k_asm); (case k4 => exact fun _ hp => nomatch hp); (case k5 => k_asm); (case k6 => k_is); (case k7 => k_is); (case k8 => ktr_room); (case k9 => first | exact BindsTo.of_eq rfl | exact binds_K (by k_in) rfl (by k_is) rfl rfl rfl | (refine' kp_binds ?kx ?ke; (case kx => k_in); (case ke => exact fun _ => rfl))); (case c5 => decide); (case kB => exact locs rfl); (case c2 => exact rfl); (case c3 => exact rfl); (case c4 => exact rfl); k_whole))
local macro_rules | `(tactic| walk_at "pad 0") => `(tactic| skip)
section
local macro_rules | `(tactic| walk_at "eval ListComp") => `(tactic| (k_here; k_dflt (refine LCg.ListComp_U (F₀ := by k_asm) (by with_unfolding_all rfl) (by decide) (by rfl) (by decide) (by rfl) ?_)))
local macro_rules | `(tactic| walk_at "CompSrc") => `(tactic| (k_dflt (refine feeds_src (by assumption) (by assumption) (by assumption) (by rfl) (by k_asm) (by k_asm) (by assumption) ?turn ?fin); (case' turn => (intro n ti I oI C oC D m₂ ys h tk E' hb hb2 hC hx F N off ne; (try simp only [LCg.Off3, and_true] at off))); (case' fin => intro g ys hAll)))
local macro_rules | `(tactic| walk_at "call builtin:str.join") => `(tactic| (k_dflt ((refine first_join (by assumption) (by assumption) (by assumption) (by k_asm) (by k_mem) (by assumption) ?_; intro _ _))))
local macro_rules | `(tactic| walk_at "call ref") => `(tactic| (k_dflt (first
  | (refine' call_use (quo_call _ _ _ ?kS) ?k1 ?k2 ?k3 ?k4 ?k5 ?kK ?kd ?ku trivial ?_; (case kS => (first | exact page_sent _ _ (by decide) (by decide) _ (by assumption) (by assumption) | exact (esc_page_sent _ (by decide) _ (by assumption) (by assumption)).1)))
  | (refine' call_use (esc_walk _ _ _ ?kS) ?k1 ?k2 ?k3 ?k4 ?k5 ?kK ?kd ?ku trivial ?_; (case kS => (first | exact quo_page_len _ (by decide) _ (by assumption) (by assumption) | exact (esc_page_sent _ (by decide) _ (by assumption) (by assumption)).2 | exact (page_sent _ _ (by decide) (by decide) _ (by assumption) (by assumption)).1)))); (case k1 => k_asm); (case k2 => k_asm); (case k3 => k_asm); (case k4 => k_asm); (case k5 => k_asm); (case kK => exact rfl); (case kd => ktr_room); (case ku => ktr_units)); (intro v9 h9 tk9 kE9 hP9 F9 N9; obtain ⟨t9, e9⟩ := hP9; subst e9; clear kE9; (try rw [page_turn0]); (try rw [page_turn1]); (try dsimp only); (try k_sweep)))
local macro_rules | `(tactic| walk_at "binaryOp Mult str int") => `(tactic| (refine mul_any (by decide +kernel) (by omega) (by omega) ?_; intro _ _))
local macro_rules | `(tactic| walk_at "Elt") => `(tactic| ((refine Elt.mk (by lcg_sub) ?_); exact ⟨_, rfl⟩))
set_option maxHeartbeats 8000000 in
theorem pag1_walk (w : World) (l : Addr) (vs : List Value) (ns : List Nat) (t : Tok) (hi : IntsAre vs (ns.map fun (n : Nat) => (n : Int))) (hn : ns.length ≤ 4) (hns : ∀ n ∈ ns, n ≤ 10) : Tell w 4 90 [.ref l, .int 1 t] (fun s => s.heap.IsList l vs.toArray) (fun s₀ v h => Pages 1 ns s₀ v h) := by
  w_top off
  k_with_none
  unfold Tell PG; k_fill
  intro loose mean mg mb dp un gd cn cs a ccd cl outer A₀ base h₀ L m s Q E B F X T hk hdp hun hpre hret
  refine wpAny_call ?_
  k_dflt (walk_at "mc enter")
  intro g' L' h' FG' F' N' B' X' T' kG'
  have kE := GSub.ext kG'
  clear kG'
  (try dsimp only)
  have hl := kE.list hpre; clear hpre
  have hTw : IsTw 1 := ⟨by decide⟩
  clear F B X T FG'
  (try k_fold)
  k_steps
  all_goals (try dsimp only)
  k_steps
  all_goals (refine mc_leave (w := w) (s := s) (Post := fun s₀ v h => Pages 1 ns s₀ v h) hret kE (by assumption) (by assumption) ?_)
  all_goals (exact pages_of kE (by assumption) (by k_mem) (strs_push (strs_push (strs_push (strs_push (.cons _ _ .nil))))))
end
end

section
open PySem
set_option linter.unusedVariables false
set_option linter.unusedSimpArgs false

/-- strictly rising -/
def Rising (xs : Array Nat) : Prop := ∀ i j, i < j → j < xs.size → xs.getD i 0 < xs.getD j 0

theorem below_go (xs : Array Nat) (hr : Rising xs) (j : Nat) : ∀ fuel lo hi, hi ≤ lo + fuel → lo ≤ hi → hi ≤ xs.size → (∀ i, i < lo → xs.getD i 0 < j) → (∀ i, hi ≤ i → i < xs.size → j ≤ xs.getD i 0) →
    let p := SetTable.below.go xs j fuel lo hi
    p ≤ xs.size ∧ (∀ i, i < p → xs.getD i 0 < j) ∧ ∀ i, p ≤ i → i < xs.size → j ≤ xs.getD i 0
  | 0, lo, hi, h1, h2, h3, h4, h5 => by
    have e : lo = hi := by omega
    subst e
    exact ⟨h3, h4, h5⟩
  | fuel + 1, lo, hi, h1, h2, h3, h4, h5 => by
    unfold SetTable.below.go
    by_cases hlt : lo < hi
    · rw [if_pos hlt]
      dsimp only
      have hmid : (lo + hi) / 2 < xs.size := by omega
      have em : xs.getD ((lo + hi) / 2) j = xs.getD ((lo + hi) / 2) 0 := by simp [Array.getD_eq_getD_getElem?, hmid]
      rw [em]
      by_cases hm : xs.getD ((lo + hi) / 2) 0 < j
      · rw [if_pos hm]
        refine below_go xs hr j fuel ((lo + hi) / 2 + 1) hi (by omega) (by omega) h3 (fun i hi' => ?_) h5
        by_cases e : i = (lo + hi) / 2
        · rw [e]; exact hm
        · exact Nat.lt_trans (hr i ((lo + hi) / 2) (by omega) (by omega)) hm
      · rw [if_neg hm]
        refine below_go xs hr j fuel lo ((lo + hi) / 2) (by omega) (by omega) (by omega) h4 (fun i hi' hi'' => ?_)
        by_cases e : i = (lo + hi) / 2
        · rw [e]; omega
        · have := hr ((lo + hi) / 2) i (by omega) hi''
          omega
    · rw [if_neg hlt]
      have e : lo = hi := by omega
      subst e
      exact ⟨h3, h4, h5⟩
theorem below_spec (xs : Array Nat) (hr : Rising xs) (j : Nat) : SetTable.below xs j ≤ xs.size ∧ (∀ i, i < SetTable.below xs j → xs.getD i 0 < j) ∧ ∀ i, SetTable.below xs j ≤ i → i < xs.size → j ≤ xs.getD i 0 :=
  below_go xs hr j xs.size 0 xs.size (by omega) (Nat.zero_le _) (Nat.le_refl _) (fun i h => by omega) (fun i h1 h2 => by omega)
theorem below_at (xs : Array Nat) (hr : Rising xs) (i : Nat) (hi : i < xs.size) : SetTable.below xs (xs.getD i 0 + 1) = i + 1 := by
  obtain ⟨a, b, c⟩ := below_spec xs hr (xs.getD i 0 + 1)
  generalize SetTable.below xs (xs.getD i 0 + 1) = p at a b c
  by_cases h1 : p ≤ i
  · have := c i h1 hi; omega
  · by_cases h2 : i + 1 < p
    · have := b (i + 1) h2
      have := hr i (i + 1) (by omega) (by omega)
      omega
    · omega
theorem below_zero (xs : Array Nat) (hr : Rising xs) : SetTable.below xs 0 = 0 := by
  obtain ⟨a, b, c⟩ := below_spec xs hr 0
  generalize SetTable.below xs 0 = p at a b c
  by_cases h : p = 0
  · exact h
  · have := b 0 (by omega); omega

theorem insertAt_size (xs : Array Nat) (p j : Nat) (hp : p ≤ xs.size) : (SetTable.insertAt xs p j).size = xs.size + 1 := by
  have h := congrArg List.length (SetTable.toList_insertAt xs p j)
  simp at h
  have e : (SetTable.insertAt xs p j).toList.length = (SetTable.insertAt xs p j).size := Array.length_toList
  omega
theorem insertAt_getD (xs : Array Nat) (p j i : Nat) (hp : p ≤ xs.size) : (SetTable.insertAt xs p j).getD i 0 = if i < p then xs.getD i 0 else if i = p then j else xs.getD (i - 1) 0 := by
  have e : ∀ (a : Array Nat) (i : Nat), a.getD i 0 = a.toList.getD i 0 := fun a i => by simp [List.getD, Array.getD_eq_getD_getElem?]
  rw [e, SetTable.toList_insertAt]
  have hl : (xs.toList.take p).length = p := by simp; omega
  by_cases h1 : i < p
  · rw [if_pos h1, e]
    simp only [List.getD]
    rw [List.getElem?_append_left (by omega), List.getElem?_take, if_pos h1]
  · rw [if_neg h1]
    simp only [List.getD]
    rw [List.getElem?_append_right (by omega), hl]
    by_cases h2 : i = p
    · rw [if_pos h2]; subst h2; simp
    · rw [if_neg h2, e]
      obtain ⟨k, hk⟩ : ∃ k, i - p = k + 1 := ⟨i - p - 1, by omega⟩
      rw [hk, List.getElem?_cons_succ, List.getElem?_drop]
      simp only [List.getD]
      congr 3; omega
theorem rising_insert (xs : Array Nat) (hr : Rising xs) (j : Nat) (hj : xs[SetTable.below xs j]? ≠ some j) : Rising (SetTable.insertAt xs (SetTable.below xs j) j) := by
  obtain ⟨a, b, c⟩ := below_spec xs hr j
  generalize SetTable.below xs j = p at a b c hj ⊢
  have hgt : ∀ i, p ≤ i → i < xs.size → j < xs.getD i 0 := by
    intro i h1 h2
    have h3 := c i h1 h2
    by_cases e : i = p
    · subst e
      have h4 : xs[i]? = some (xs.getD i 0) := by simp [h2]
      rw [h4] at hj
      have : xs.getD i 0 ≠ j := fun e => hj (by rw [e])
      omega
    · have h5 := c p (Nat.le_refl _) (by omega)
      have h6 := hr p i (by omega) h2
      omega
  intro u v huv hv
  rw [insertAt_size xs p j a] at hv
  rw [insertAt_getD xs p j u a, insertAt_getD xs p j v a]
  by_cases h1 : v < p
  · rw [if_pos h1, if_pos (by omega)]; exact hr u v huv (by omega)
  · rw [if_neg h1]
    by_cases h2 : v = p
    · rw [if_pos h2, if_pos (by omega)]; exact b u (by omega)
    · rw [if_neg h2]
      by_cases h3 : u < p
      · rw [if_pos h3]
        have := b u h3
        have := hgt (v - 1) (by omega) (by omega)
        omega
      · rw [if_neg h3]
        by_cases h4 : u = p
        · rw [if_pos h4]; exact hgt (v - 1) (by omega) (by omega)
        · rw [if_neg h4]; exact hr (u - 1) (v - 1) (by omega) (by omega)
theorem rising_range (n : Nat) : Rising (Array.range n) := by
  intro i j h1 h2
  simp only [Array.size_range] at h2
  have e : ∀ i, i < n → (Array.range n).getD i 0 = i := fun i hi => by simp [Array.getD_eq_getD_getElem?, hi]
  rw [e i (by omega), e j h2]; exact h1
theorem rising_empty : Rising #[] := fun i j _ h => by simp at h

/-- what every table keeps here: its places rise, no dummies, its mark stands -/
structure TabOk (t : SetTable) (led : Bool) : Prop where
  rise : Rising t.place
  dum : t.dummies = #[]
  mark : t.led = led

theorem has_empty (j : Nat) : SetTable.has #[] j = false := by simp [SetTable.has]
theorem probe_go {t : SetTable} (hd : t.dummies = #[]) (h : Int) : ∀ fuel (p : SetTable.Probe) (j : Nat) (d : Option Nat), p.dummy = none → SetTable.probe.go t (fun _ => h + 1) h fuel p = some (.empty j d) → t.slot j = .empty ∧ d = none
  | 0, p, j, d, _, e => by simp [SetTable.probe.go] at e
  | fuel + 1, p, j, d, hp, e => by
    unfold SetTable.probe.go at e
    cases hs : t.slot p.j with
    | empty =>
      rw [hs] at e
      simp only [Option.some.injEq, SetTable.Met.empty.injEq] at e
      obtain ⟨rfl, rfl⟩ := e
      exact ⟨hs, hp⟩
    | dummy =>
      exfalso
      unfold SetTable.slot at hs
      rw [hd, has_empty] at hs
      dsimp only at hs
      split at hs <;> simp at hs
    | live i =>
      rw [hs] at e
      dsimp only at e
      rw [if_neg (by simp; omega)] at e
      refine probe_go hd h fuel _ j d ?_ e
      unfold SetTable.advance
      split <;> exact hp
theorem freeSlot_spec {t : SetTable} (hd : t.dummies = #[]) {h : Int} {slot : Nat} {wd : Bool} (e : t.freeSlot h = some (slot, wd)) : t.slot slot = .empty ∧ wd = false := by
  unfold SetTable.freeSlot at e
  split at e
  · rename_i j dummy hp
    have h1 := probe_go hd h _ _ j dummy rfl hp
    obtain ⟨h2, rfl⟩ := h1
    simp at e
    obtain ⟨rfl, rfl⟩ := e
    exact ⟨h2, rfl⟩
  · cases e
theorem tab_standIn (t : SetTable) (led : Bool) (n : Nat) (h : t.led = led) : TabOk (t.standIn n) led := ⟨rising_range n, rfl, h⟩
theorem tab_put {t : SetTable} {led : Bool} (x : TabOk t led) {j : Nat} (hj : t.slot j = .empty) : TabOk (t.put j).1 led := by
  refine ⟨?_, ?_, x.mark⟩
  · show Rising (SetTable.insertAt t.place (SetTable.below t.place j) j)
    refine rising_insert t.place x.rise j fun e => ?_
    unfold SetTable.slot at hj
    dsimp only at hj
    rw [e] at hj
    simp at hj
  · show (if SetTable.has t.dummies j then SetTable.eraseAt t.dummies (SetTable.below t.dummies j) else t.dummies) = #[]
    rw [x.dum, has_empty]; rfl
theorem tab_orStandIn {t : SetTable} {led : Bool} (x : TabOk t led) (n : Nat) : TabOk (t.orStandIn n) led := by
  unfold SetTable.orStandIn
  split
  · exact x
  · exact tab_standIn t led n x.mark
theorem tab_layNew {t : SetTable} {led : Bool} (x : TabOk t led) (es : Array (Int × Value)) (h : Int) (v : Value) : TabOk (layNew t es h v).2.1 led := by
  unfold layNew
  split
  · rename_i slot wd e
    exact tab_orStandIn (tab_put x (freeSlot_spec x.dum e).1) _
  · exact tab_standIn t led _ x.mark
theorem filterMap_rising (f : Nat → Option (Nat × Nat)) (hf : ∀ j p, f j = some p → p.1 = j) (n : Nat) : (((List.range n).filterMap f).map (·.1)).Pairwise (· < ·) := by
  rw [List.pairwise_map]
  rw [List.pairwise_filterMap]
  refine List.pairwise_lt_range.imp ?_
  intro a b hab p hp q hq
  have h1 := hf a p hp
  have h2 := hf b q hq
  omega
theorem rising_of_pairwise {l : List Nat} (h : l.Pairwise (· < ·)) : Rising l.toArray := by
  intro i j hij hj
  rw [List.size_toArray] at hj
  have := (List.pairwise_iff_getElem.mp h) i j (by omega) hj hij
  simp [Array.getD_eq_getD_getElem?, hj, show i < l.length from by omega]
  exact this
theorem tab_relaid {t t' : SetTable} {led : Bool} (hl : t.led = led) {hashes : Array Int} {wanted : Nat} {order : Array Nat} (e : t.relaid hashes wanted = some (t', order)) : TabOk t' led := by
  unfold SetTable.relaid SetTable.laid at e
  cases ho : SetTable.layClean (SetTable.sizeAbove wanted - 1) hashes with
  | none => rw [ho] at e; cases e
  | some owner =>
    rw [ho] at e
    simp only [Option.bind_eq_bind, Option.bind_some, Option.pure_def, Option.some.injEq, Prod.mk.injEq] at e
    obtain ⟨rfl, _⟩ := e
    refine ⟨rising_of_pairwise (filterMap_rising _ (fun j p hp => ?_) _), rfl, hl⟩
    cases hq : owner.getD j none with
    | none => rw [hq] at hp; cases hp
    | some k => rw [hq] at hp; simp at hp; rw [← hp]
theorem tab_relayAll {t : SetTable} {led : Bool} (hl : t.led = led) (es : Array (Int × Value)) (wanted : Nat) : TabOk (relayAll t es wanted).2.1 led := by
  unfold relayAll
  split
  · rename_i t' order e
    dsimp only
    split
    · exact tab_relaid hl e
    · exact tab_standIn t led _ hl
  · exact tab_standIn t led _ hl
theorem tab_plain {t : SetTable} {led : Bool} (x : TabOk t led) : TabOk { t with plain := false } led := ⟨x.rise, x.dum, x.mark⟩
theorem tab_fresh (led : Bool) : TabOk (.fresh 0 0 led) led := ⟨rising_empty, rfl, rfl⟩

theorem erase_perm {α : Type} : ∀ (l : List α) (i : Nat) (h : i < l.length), (l[i] :: l.eraseIdx i).Perm l
  | [], i, h => by simp at h
  | a :: r, 0, _ => by simp
  | a :: r, i + 1, h => by
    have ih := erase_perm r i (by simpa using h)
    simp only [List.getElem_cons_succ, List.eraseIdx_cons_succ]
    exact (List.Perm.swap _ _ _).trans (List.Perm.cons a ih)
/-- an order drawn by the world is a rearrangement -/
theorem pickOrder_go {α : Type} (next : Nat → Nat) : ∀ fuel k (left : List α) (out : Array α), left.length ≤ fuel → (pickOrder.go next fuel k left out).toList.Perm (out.toList ++ left)
  | 0, k, left, out, h => by
    have : left = [] := List.eq_nil_of_length_eq_zero (by omega)
    subst this
    simp [pickOrder.go]
  | fuel + 1, k, left, out, h => by
    unfold pickOrder.go
    cases he : left[next k % left.length]? with
    | none =>
      have hl : left = [] := by
        by_cases h0 : left.length = 0
        · exact List.eq_nil_of_length_eq_zero h0
        · have := Nat.mod_lt (next k) (show 0 < left.length by omega)
          rw [List.getElem?_eq_getElem this] at he; cases he
      subst hl; simp
    | some x =>
      dsimp only
      have hlt : next k % left.length < left.length := by
        rcases Nat.lt_or_ge (next k % left.length) left.length with h | h
        · exact h
        · rw [List.getElem?_eq_none h] at he; cases he
      have ih := pickOrder_go next fuel (k + 1) (left.eraseIdx (next k % left.length)) (out.push x) (by rw [List.length_eraseIdx, if_pos hlt]; omega)
      refine ih.trans ?_
      rw [Array.toList_push, List.append_assoc]
      refine List.Perm.append_left _ ?_
      have hx : left[next k % left.length] = x := by rw [List.getElem?_eq_getElem hlt] at he; exact Option.some.inj he
      have := erase_perm left _ hlt
      rw [hx] at this
      exact this
theorem pickOrder_perm {α : Type} (next : Nat → Nat) (xs : Array α) : (pickOrder next xs).toList.Perm xs.toList := by
  have := pickOrder_go next xs.size 0 xs.toList #[] (by simp)
  unfold pickOrder
  simpa using this
end

section
open PySem PyProof.Rows
set_option linter.unusedVariables false
set_option linter.unusedSimpArgs false
set_option maxRecDepth 100000

/-- a number put to the numbers of a set -/
def put (k : Int) (ks : List Int) : List Int := if ks.contains k then ks else k :: ks

/-- the set at `a`: its entries hold just the numbers `ks`, its table stands -/
def SetAt (h : Heap) (a : Addr) (led : Bool) (ks : List Int) : Prop :=
  ∃ o es ep t, h.get? a = some o ∧ o.ExactSet ∧ o.data = .set es ep t ∧ (∀ e ∈ es.toList, ∃ k u, e = (hashInt k, Value.int k u)) ∧ (es.toList.map fun e => numOf e.2).Perm ks ∧ t.fits es.size = true ∧ TabOk t led

section
variable {prog : Program} {w : World} {A : Around} {E : Value → Shared → Prop} {s : Shared} {a : Addr} {led : Bool} {ks : List Int}

theorem SetAt.kept {h h' : Heap} (x : SetAt h a led ks) (e : ∀ o, h.get? a = some o → h'.get? a = some o) : SetAt h' a led ks :=
  let ⟨o, es, ep, t, ho, r⟩ := x; ⟨o, es, ep, t, e _ ho, r⟩
theorem SetAt.typeIs (x : SetAt s.heap a led ks) : s.TypeIs (.ref a) "set" := let ⟨o, _, _, _, ho, hc, _⟩ := x; ⟨o, ho, hc.1⟩

theorem elems_of {l : List (Int × Value)} (h : ∀ e ∈ l, ∃ k u, e = (hashInt k, Value.int k u)) : ElemsOf (intKind prog w) l := by
  intro e he
  obtain ⟨k, u, rfl⟩ := h e he
  exact ⟨⟨k, by simp [intKind, Value.isInt], rfl⟩, rfl⟩

theorem at_new (w : World) {h : Heap} (led : Bool) : SetAt (h.push { cls := .type "set", dict := none, data := .set #[] 0 (.fresh 0 0 led) }) h.objs.size led [] :=
  ⟨_, #[], 0, _, Heap.get?_push_size _ rfl, ⟨rfl, rfl, rfl⟩, rfl, fun e he => by simp at he, by simp, by rfl, tab_fresh led⟩

theorem code_new {Q₁ : Value → Shared → Prop}
    (h : Q₁ (.ref s.heap.objs.size) { s with heap := s.heap.push { cls := .type "set", dict := none, data := .set #[] 0 (.fresh 0 0 (!(w.params.followText "set-order"))) } }) :
    codeAny (model prog w) A (.call (.builtin "set.__new__") ⟨[.type "set"], []⟩) (wants Q₁ E) s := by
  refine codeAny_of_tree ?_
  show wpAny _ A.in1 (do checkBuiltinCall "set.__new__" ⟨[.type "set"], []⟩; again (.builtin "set.__new__" ⟨[.type "set"], []⟩)) _ _ s
  refine wpAny_bind (wpAny_of_eq F.newCall_set_0 (wpAny_pure ⟨plainId_quiet F.plain_set_new _, codeAny_builtin F.entry_set_new ?_⟩))
  rw [Around.under_plainId F.plain_set_new _]
  unfold Builtin.«set.__new__» Builtin.Frozenset.newClass
  have hsub := sub_set_self
  obtain ⟨hp, g, d, tk, os⟩ := s
  dsimp only
  wp_walk
  refine wpAny_askSetting (wpAny_pure ?_)
  dsimp only
  simp only [newObj]
  refine wpAny_bind (wpAny_alloc (wpAny_pure ?_))
  exact wpAny_pure h

set_option maxHeartbeats 1000000 in
theorem call_new {Q : Value → Shared → Prop}
    (h : ∀ h', (∀ b o, s.heap.get? b = some o → h'.get? b = some o) → s.heap.get? s.heap.objs.size = none → SetAt h' s.heap.objs.size (!(w.params.followText "set-order")) [] → h'.objs.size = s.heap.objs.size + 1 → Q (.ref s.heap.objs.size) { s with heap := h' }) :
    wpAny (model prog w) A (call (.type "set") []) Q E s := by
  have hq : Q (.ref s.heap.objs.size) { s with heap := s.heap.push { cls := .type "set", dict := none, data := .set #[] 0 (.fresh 0 0 (!(w.params.followText "set-order"))) } } :=
    h _ (fun b o e => Heap.get?_push_of_some _ e) (by
      cases he : s.heap.get? s.heap.objs.size with
      | none => rfl
      | some o => exact absurd (Heap.lt_size he) (Nat.lt_irrefl _)) (at_new w _) (by rw [Heap.size_push])
  obtain ⟨c, tl, hmro⟩ := F.called_set.mro
  have hmade := F.called_set.made
  have hsub := F.called_set.sub
  refine wpAny_call (codeAny_of_tree ?_)
  show wpAny _ _ (callAny (.type "set") _) _ _ _
  refine wpAny_pure ⟨Code.quiet_builtin _ (by decide +kernel), codeAny_builtin F.entry_type_call ?_⟩
  rw [Around.under_plain (weight_type_call_type "set" [] []) rfl]
  have h1 := F.called_set.notType
  have h2 := F.called_set.canCreate
  have hct := F.typeCall_set_0
  repeat (any_goals (first | assumption | wp_step))
  refine codeAny_mono (code_new (w := w) (E := E) (Q₁ := fun obj s₁ => obj = .ref s.heap.objs.size ∧ s₁ = { s with heap := s.heap.push { cls := .type "set", dict := none, data := .set #[] 0 (.fresh 0 0 (!(w.params.followText "set-order"))) } }) ⟨rfl, rfl⟩) fun r s₁ hr => ?_
  cases r with
  | error e => exact hr
  | ok fl =>
    cases fl with
    | ret obj =>
      obtain ⟨rfl, rfl⟩ := hr
      have hS := (at_new w (h := s.heap) (!(w.params.followText "set-order"))).typeIs (s := { s with heap := s.heap.push { cls := .type "set", dict := none, data := .set #[] 0 (.fresh 0 0 (!(w.params.followText "set-order"))) } })
      have hT := hS
      have hS : (s.heap.push { cls := .type "set", dict := none, data := .set #[] 0 (.fresh 0 0 (!(w.params.followText "set-order"))) }).get? s.heap.objs.size = some { cls := .type "set", dict := none, data := .set #[] 0 (.fresh 0 0 (!(w.params.followText "set-order"))) } := Heap.get?_push_size _ rfl
      have hli := F.called_set.init.lookup
      have hbi := F.called_set.init.bind (.ref s.heap.objs.size)
      repeat (any_goals (first | assumption | wp_step))
      refine codeAny_mono (codeAny_call_builtin (R := wants (fun r s₂ => r = .none ∧ Q (.ref s.heap.objs.size) s₂) E) F.called_set.init.plain F.entry_set_init (check_set_init hT ?_)) fun r₂ s₂ hr₂ => ?_
      · unfold Builtin.«set.__init__» noKeywords
        wp_walk
        exact ⟨rfl, hq⟩
      · cases r₂ with
        | error e => exact hr₂
        | ok fl₂ =>
          cases fl₂ with
          | ret r =>
            obtain ⟨rfl, hq⟩ := hr₂
            repeat (any_goals (first | assumption | wp_step))
          | _ => exact hr₂.elim
    | _ => exact hr.elim

theorem at_store {h : Heap} {o : Obj} {es : Array (Int × Value)} {ep : Nat} {t : SetTable} (ho : h.get? a = some o) (hex : o.ExactSet) (hd : o.data = .set es ep t)
    {es' : Array (Int × Value)} {t' : SetTable} (hel : ∀ e ∈ es'.toList, ∃ k u, e = (hashInt k, Value.int k u)) (hp : (es'.toList.map fun e => numOf e.2).Perm ks) (hf : t'.fits es'.size = true) (ht : TabOk t' led) :
    (h.update a (Obj.putSet es' t')).get? a = some { o with data := .set es' (ep + 1) t' } ∧ SetAt (h.update a (Obj.putSet es' t')) a led ks := by
  have hg : (h.update a (Obj.putSet es' t')).get? a = some { o with data := .set es' (ep + 1) t' } := by
    have := Heap.get?_update_self (Obj.putSet es' t') ho (by rw [putSet_of es' t' hd]; rfl)
    rw [putSet_of es' t' hd] at this; exact this
  exact ⟨hg, _, es', ep + 1, t', hg, hex, rfl, hel, hp, hf, ht⟩

theorem size_of_perm {es : Array (Int × Value)} (hp : (es.toList.map fun e => numOf e.2).Perm ks) : es.size = ks.length := by
  have := hp.length_eq
  simpa using this

theorem add_tail {g : Bool → Sem Unit} (hg : ∀ (b : Bool) (s₁ : Shared) (Q' : Unit → Shared → Prop), Q' () s₁ → wpAny (model prog w) A (g b) Q' E s₁)
    {o : Obj} {es : Array (Int × Value)} {ep : Nat} {t : SetTable} (ho : s.heap.get? a = some o) (hex : o.ExactSet) (hd : o.data = .set es ep t)
    {es1 : Array (Int × Value)} {t2 : SetTable} (hel1 : ∀ e ∈ es1.toList, ∃ k u, e = (hashInt k, Value.int k u)) (hp1 : (es1.toList.map fun e => numOf e.2).Perm ks)
    (hb1 : ks.length < 64) (hf2 : t2.fits es1.size = true) (ht2 : TabOk t2 led) {wasDummy : Bool} {R : Option Bool → Shared → Prop}
    (h : ∀ h', Heap.SameBut a s.heap h' → SetAt h' a led ks → R (some true) { s with heap := h' }) :
    wpAny (model prog w) A (do
        storeSet a es1 t2
        if (!wasDummy && t2.tooFull) = true then do
            g (relayAll t2 es1 (SetTable.grown es1.size)).2.2
            storeSet a (relayAll t2 es1 (SetTable.grown es1.size)).1 (relayAll t2 es1 (SetTable.grown es1.size)).2.1
            pure (some true)
          else pure (some true)) R E s := by
  have hz : ∀ n, n < 64 → n ≤ sizeLine := fun n hn => by rw [sizeLine_eq]; omega
  refine wpAny_bind (wpAny_storeSet_of ho hd ?_ (hz _ (by rw [size_of_perm hp1]; exact hb1)))
  obtain ⟨ho1, hS1⟩ := at_store ho hex hd hel1 hp1 hf2 ht2
  have hsb1 := Heap.SameBut.update s.heap a (Obj.putSet es1 t2)
  split
  · have hp := relayAll_perm t2 es1 (SetTable.grown es1.size)
    have hfr := relayAll_fits t2 es1 (SetTable.grown es1.size)
    have htr := tab_relayAll ht2.mark es1 (SetTable.grown es1.size)
    generalize hRl : relayAll t2 es1 (SetTable.grown es1.size) = Rl at hp hfr htr ⊢
    obtain ⟨es2, t3, gave2⟩ := Rl
    dsimp only at hp hfr htr ⊢
    have hel2 : ∀ e ∈ es2.toList, ∃ k u, e = (hashInt k, Value.int k u) := fun e he => hel1 e (hp.mem_iff.mp he)
    have hp2 : (es2.toList.map fun e => numOf e.2).Perm ks := (hp.map _).trans hp1
    refine wpAny_bind (hg _ _ _ ?_)
    refine wpAny_bind (wpAny_storeSet_of ho1 rfl ?_ (hz _ (by rw [size_of_perm hp2]; exact hb1)))
    obtain ⟨_, hS2⟩ := at_store (led := led) ho1 hex rfl hel2 hp2 hfr htr
    exact wpAny_pure (h _ (hsb1.trans (Heap.SameBut.update _ a _)) hS2)
  · exact wpAny_pure (h _ hsb1 hS1)

theorem found_iff {k : Int} {l : List (Int × Value)} (hel : ∀ e ∈ l, ∃ k u, e = (hashInt k, Value.int k u)) : (l.findIdx? fun e => (intKind prog w).is k e.2) = none ↔ k ∉ l.map fun e => numOf e.2 := by
  rw [List.findIdx?_eq_none_iff]
  constructor
  · intro h hm
    obtain ⟨e, he, hk⟩ := List.mem_map.mp hm
    have h1 := h e he
    obtain ⟨k', u, rfl⟩ := hel e he
    have : k' = k := hk
    subst this
    simp [intKind, Value.isInt] at h1
  · intro h e he
    obtain ⟨k', u, rfl⟩ := hel e he
    have : k' ≠ k := fun e => h (List.mem_map.mpr ⟨_, he, e⟩)
    simp [intKind, Value.isInt, this]

theorem add_hashed {k : Int} {u : Tok} {Q : Bool → Shared → Prop} (hS : SetAt s.heap a led ks) (hb : ks.length < 60)
    (h : ∀ b h', Heap.SameBut a s.heap h' → SetAt h' a led (put k ks) → Q b { s with heap := h' }) :
    wpAny (model prog w) A (setAddHashed a (.int k u) (hashInt k)) Q E s := by
  obtain ⟨o, es, ep, t, ho, hex, hd, hel, hp, hf, ht⟩ := hS
  have hkey : (intKind prog w).is k (.int k u) = true := by simp [intKind, Value.isInt]
  have hsz := size_of_perm hp
  have hel' : ElemsOf (intKind prog w) es.toList := elems_of hel
  unfold setAddHashed setAddHashedIn
  refine wpAny_holding (wpAny_bind (wpAny_setState_of ho hd hf ?_))
  dsimp only
  rw [byScan_of rfl (by rw [show scanBound = 4096 from rfl]; omega) hel']
  simp only [↓reduceIte]
  unfold setAddByScan
  refine wpAny_bind ?_
  refine wpAny_bind (wpAny_rule ?_)
  refine wpAny_bind (wpAny_setScan_of (knd := intKind prog w) hkey ho hd hf hel' ?_)
  cases hr : List.findIdx? (fun e => (intKind prog w).is k e.2) es.toList with
  | some j =>
    dsimp only
    have hin : ks.contains k = true := by
      have : ¬ k ∉ es.toList.map fun e => numOf e.2 := fun h => by rw [(found_iff hel).mpr h] at hr; cases hr
      have := Classical.not_not.mp this
      simpa using hp.mem_iff.mp this
    refine wpAny_pure (wpAny_pure ?_)
    have e : s = { s with heap := s.heap } := by cases s; rfl
    rw [e]
    exact h _ s.heap (Heap.SameBut.refl a s.heap) ⟨o, es, ep, t, ho, hex, hd, hel, by unfold put; rw [if_pos hin]; exact hp, hf, ht⟩
  | none =>
    dsimp only
    have hout : ks.contains k = false := by
      have h1 := (found_iff hel).mp hr
      cases hc : ks.contains k with
      | false => rfl
      | true => exact absurd (hp.mem_iff.mpr (by simpa using hc)) h1
    have eput : put k ks = k :: ks := by unfold put; rw [hout]; rfl
    have hgw : ∀ (b : Bool) {s₁ : Shared} {Q' : Unit → Shared → Prop}, Q' () s₁ → wpAny (model prog w) A (match b with | true => rule "set.scan.the-table-gave-way" | false => pure ()) Q' E s₁ :=
      fun b s₁ Q' hq => by cases b <;> first | exact wpAny_pure hq | exact wpAny_rule hq
    have hperm := layNew_perm t es (hashInt k) (.int k u)
    have hfits := layNew_fits t es (hashInt k) (.int k u)
    have htab := tab_layNew ht es (hashInt k) (.int k u)
    generalize hL : layNew t es (hashInt k) (.int k u) = L at hperm hfits htab ⊢
    obtain ⟨es1, t1, wasDummy, gave⟩ := L
    dsimp only at hperm hfits htab ⊢
    rw [Array.toList_push] at hperm
    have hel1 : ∀ e ∈ es1.toList, ∃ k u, e = (hashInt k, Value.int k u) := by
      intro e he
      rcases List.mem_append.mp (hperm.mem_iff.mp he) with he | he
      · exact hel e he
      · rw [List.mem_singleton] at he; exact ⟨k, u, he⟩
    have hp1 : (es1.toList.map fun e => numOf e.2).Perm (put k ks) := by
      refine (hperm.map _).trans ?_
      rw [List.map_append, eput]
      refine List.perm_append_comm.trans ?_
      exact List.Perm.cons _ hp
    have hb1 : (put k ks).length < 64 := by rw [eput, List.length_cons]; omega
    refine wpAny_bind (hgw _ ?_)
    split
    · refine wpAny_bind ?_
      rw [hashByValue_scannable 8 rfl]
      refine wpAny_pure ?_
      refine add_tail (led := led) ?_ ho hex hd hel1 hp1 hb1 ?_ ?_ ?_
      · intro b s₁ Q' hq; cases b <;> first | exact wpAny_pure hq | exact wpAny_rule hq
      · split
        · exact hfits
        · exact SetTable.fits_plain_off hfits
      · split
        · exact htab
        · exact tab_plain htab
      · intro h' hsb hS'; dsimp only; exact wpAny_pure (h _ h' hsb hS')
    · refine wpAny_bind (wpAny_pure ?_)
      simp only [↓reduceIte]
      refine add_tail ?_ ho hex hd hel1 hp1 hb1 hfits htab ?_
      · intro b s₁ Q' hq; cases b <;> first | exact wpAny_pure hq | exact wpAny_rule hq
      · intro h' hsb hS'; dsimp only; exact wpAny_pure (h _ h' hsb hS')

theorem call_add {k : Int} {u : Tok} {Q : Value → Shared → Prop} (hS : SetAt s.heap a led ks) (hb : ks.length < 60)
    (h : ∀ h', Heap.SameBut a s.heap h' → SetAt h' a led (put k ks) → Q .none { s with heap := h', toks := s.toks + 1 }) :
    wpAny (model prog w) A (call (.builtin "set.add") [.ref a, .int k u]) Q E s := by
  refine wpAny_call_entry F.slot_set_add hS.typeIs F.entry_set_add ?_ (F.args_set_add_2 _ _)
  unfold Builtin.«set.add» Builtin.Frozenset.oneOther
  simp only [List.isEmpty_nil, bind_assoc]
  unfold Builtin.Frozenset.addrOf setAdd
  refine wpAny_bind (wpAny_pure ?_)
  try dsimp only
  refine wpAny_bind (wpAny_pure ?_)
  try dsimp only
  refine wpAny_bind ?_
  refine wpAny_holding ?_
  refine wpAny_bind ((intKind prog w).pyHash (k := k) (by simp [intKind, Value.isInt]) ?_)
  refine add_hashed (s := { s with toks := s.toks + 1 }) hS hb fun b h' hsb hS' => ?_
  show wpAny _ _ (ret Value.none) _ _ _
  exact wpAny_pure ⟨_, rfl, h h' hsb hS'⟩

theorem method_add {pl : Sem Bool} {Q : Value × List Value → Shared → Prop} (hS : SetAt s.heap a led ks) (h : Q (.builtin "set.add", [.ref a]) s) :
    wpAny (model prog w) A (getMethod (.ref a) "add" pl) Q E s := by
  refine getMethod_builtin hS.typeIs F.plainAttrs_set F.slot_set_add F.type_set_add (fun b e => ?_) h
  injection e with e; subst e
  obtain ⟨o, _, _, _, ho, hc, _⟩ := hS
  exact ⟨o, ho, hc.2.1⟩
end
end

section
open PySem PyProof.Rows
set_option linter.unusedVariables false
set_option linter.unusedSimpArgs false
set_option maxRecDepth 100000

theorem slot_sit_next : Slot "set_iterator" "__next__" "set_iterator.__next__" :=
  .of (owner := "set_iterator") (n := "__next__") (by rw [typeLookup_type, builtinLookup_eq_fast]; kernel_rfl) (by decide +kernel) (by decide +kernel) (by decide +kernel)
    (by first | exact .inl (by decide +kernel) | exact .inr (by decide +kernel)) (by rw [isSubtype_type]; kernel_rfl)
theorem entry_sit_next : entryFor table "set_iterator.__next__" = some Builtin.«set_iterator.__next__» := entryFor_of_tree (by kernel_rfl)
theorem args_sit_next (a : Value) : argsOk "set_iterator.__next__" ⟨[a], []⟩ := by unfold argsOk; kernel_rfl
theorem slot_sit_iter : Slot "set_iterator" "__iter__" "set_iterator.__iter__" :=
  .of (owner := "set_iterator") (n := "__iter__") (by rw [typeLookup_type, builtinLookup_eq_fast]; kernel_rfl) (by decide +kernel) (by decide +kernel) (by decide +kernel)
    (by first | exact .inl (by decide +kernel) | exact .inr (by decide +kernel)) (by rw [isSubtype_type]; kernel_rfl)
theorem entry_sit_iter : entryFor table "set_iterator.__iter__" = some Builtin.«dict_keyiterator.__iter__» :=
  entryFor_alias (id' := "dict_keyiterator.__iter__") (by kernel_rfl) (by first | rfl | decide +kernel | (unfold String.splitOn; simp +decide [String.splitOnAux])) (by decide +kernel) (by kernel_rfl)
theorem args_sit_iter (a : Value) : argsOk "set_iterator.__iter__" ⟨[a], []⟩ := by unfold argsOk; kernel_rfl
theorem entry_set_iter : entryFor table "set.__iter__" = some Builtin.«frozenset.__iter__» :=
  entryFor_alias (id' := "frozenset.__iter__") (by kernel_rfl) rfl (by decide +kernel) (by kernel_rfl)

abbrev itObj (first : Value) (i : Nat) (a : Addr) (n ep : Nat) : Obj := { cls := .type "set_iterator", data := .fields #[first, rawInt i, .ref a, rawInt n, rawInt ep] }

section
variable {prog : Program} {w : World} {A : Around} {E : Value → Shared → Prop} {s : Shared} {a I : Addr}

theorem iter_self {first : Value} {i n ep : Nat} {Q : Value → Shared → Prop} (hI : s.heap.get? I = some (itObj first i a n ep)) (h : Q (.ref I) s) : wpAny (model prog w) A (pyIter (.ref I)) Q E s := by
  have hT : s.TypeIs (.ref I) "set_iterator" := ⟨_, hI, rfl⟩
  refine wpAny_pyIter_slot hT slot_sit_iter (wpAny_call_entry slot_sit_iter hT entry_sit_iter ?_ (args_sit_iter _))
  show wpAny _ _ (ret (.ref I)) _ _ s
  exact wpAny_pure ⟨_, rfl, "set_iterator", _, hT, slot_sit_next.lookup, h⟩

theorem raise_stop {α : Type} {Q : α → Shared → Prop} (hh : A.handled = none)
    (hQ : ∀ e h', (∀ b o, s.heap.get? b = some o → h'.get? b = some o) → Shared.TypeIs { s with heap := h' } e "StopIteration" → E e { s with heap := h' }) :
    wpAny (model prog w) A (newExc (.type "StopIteration") [] >>= fun e => (raiseNew e : Sem α)) Q E s := by
  refine wpAny_bind ?_
  simp only [newExc, newTuple]
  refine wpAny_bind (wpAny_newObj_type ?_ (by size_fits))
  refine wpAny_bind (m := firstArgMember _ _) (wpAny_of_eq (a := Value.none) (by first | rfl | (simp only [firstArgMember]; rfl)) ?_)
  refine wpAny_newObj_type ?_ (by size_fits)
  simp only [raiseNew]
  refine wpAny_bind (wpAny_handled ?_)
  rw [hh]
  refine wpAny_bind (wpAny_pure (wpAny_throw ?_))
  exact hQ _ _ (fun b o e => Heap.get?_push_of_some _ (Heap.get?_push_of_some _ e)) ⟨_, Heap.get?_push_size _ rfl, rfl⟩

/-- a turn of the iterator that goes by slots -/
theorem next_slot {f f' : Nat} {i n ep : Nat} {v : Value} {Q : Option Value → Shared → Prop} (hI : s.heap.get? I = some (itObj (rawInt f) i a n ep)) {o : Obj} {es : Array (Int × Value)} {t : SetTable}
    (ho : s.heap.get? a = some o) (hd : o.data = .set es ep t) (hf : t.fits es.size = true) (hn : es.size = n)
    (hw : ∀ (A : Around) (E : Value → Shared → Prop) (Q : Option (Value × Nat) → Shared → Prop), Q (some (v, f')) s → wpAny (model prog w) A (setNext a f i ep) Q E s)
    (hQ : ∀ h', h'.get? I = some (itObj (rawInt f') (i + 1) a n ep) → Heap.SameBut I s.heap h' → Q (some v) { s with heap := h' }) :
    wpAny (model prog w) A (pyNext (.ref I)) Q E s := by
  have hT : s.TypeIs (.ref I) "set_iterator" := ⟨_, hI, rfl⟩
  unfold pyNext
  refine wpAny_bind (wpAny_attempt (wpAny_callSpecial?_slot (name := Str.ofString "__next__") hT slot_sit_next
    (wpAny_call_entry slot_sit_next hT entry_sit_next ?_ (args_sit_next _))))
  show wpAny _ _ (fieldsOf (.ref I) >>= _) _ _ s
  refine wpAny_bind (wpAny_fieldsOf hI rfl ?_)
  show wpAny _ _ (setEntries a >>= _) _ _ s
  refine wpAny_bind (wpAny_setEntries_of ho hd hf ?_)
  show wpAny _ _ (if (((es.size : Nat) : Int) != ((n : Nat) : Int)) = true then _ else _) _ _ s
  rw [if_neg (by rw [hn]; simp)]
  show wpAny _ _ (setNext a f i ep >>= _) _ _ s
  refine wpAny_bind (hw _ _ _ ?_)
  show wpAny _ _ (setField (.ref I) 0 (rawInt f') >>= _) _ _ s
  refine wpAny_bind (wpAny_setField_rec hI (by simp) fun h1 hI1 hs1 => ?_)
  show wpAny _ _ (setField (.ref I) 1 (rawInt ((i : Int) + 1)) >>= _) _ _ _
  refine wpAny_bind (wpAny_setField_rec (s := { s with heap := h1 }) hI1 (by simp) fun h2 hI2 hs2 => ?_)
  exact wpAny_pure ⟨_, rfl, wpAny_pure (hQ h2 (by rw [hI2]; rfl) (hs1.trans hs2))⟩

theorem next_end {f : Nat} {i n ep : Nat} {Q : Option Value → Shared → Prop} (hh : A.handled = none) (hI : s.heap.get? I = some (itObj (rawInt f) i a n ep)) {o : Obj} {es : Array (Int × Value)} {t : SetTable}
    (ho : s.heap.get? a = some o) (hd : o.data = .set es ep t) (hf : t.fits es.size = true) (hn : es.size = n)
    (hw : ∀ (A : Around) (E : Value → Shared → Prop) (Q : Option (Value × Nat) → Shared → Prop), Q none s → wpAny (model prog w) A (setNext a f i ep) Q E s)
    (hQ : ∀ h', Heap.ExtBut I s.heap h' → Q none { s with heap := h' }) :
    wpAny (model prog w) A (pyNext (.ref I)) Q E s := by
  have hT : s.TypeIs (.ref I) "set_iterator" := ⟨_, hI, rfl⟩
  unfold pyNext
  refine wpAny_bind (wpAny_attempt (wpAny_callSpecial?_slot (name := Str.ofString "__next__") hT slot_sit_next
    (wpAny_call_entry slot_sit_next hT entry_sit_next ?_ (args_sit_next _))))
  show wpAny _ _ (fieldsOf (.ref I) >>= _) _ _ s
  refine wpAny_bind (wpAny_fieldsOf hI rfl ?_)
  show wpAny _ _ (setEntries a >>= _) _ _ s
  refine wpAny_bind (wpAny_setEntries_of ho hd hf ?_)
  show wpAny _ _ (if (((es.size : Nat) : Int) != ((n : Nat) : Int)) = true then _ else _) _ _ s
  rw [if_neg (by rw [hn]; simp)]
  show wpAny _ _ (setNext a f i ep >>= _) _ _ s
  refine wpAny_bind (hw _ _ _ ?_)
  show wpAny _ _ (setField (.ref I) 2 .none >>= _) _ _ s
  refine wpAny_bind (wpAny_setField_rec hI (by simp) fun h1 hI1 hs1 => ?_)
  refine raise_stop (s := { s with heap := h1 }) (by first | exact hh | (show A.in1.handled = none; exact hh)) fun e h' he hT' => ?_
  refine wpAny_bind (wpAny_isInstance (T := "StopIteration") (b := true) hT' isSubtype_stop ?_)
  exact wpAny_pure (hQ h' fun b o hb e => he b o (hs1.extBut b o hb e))

/-- a turn of the iterator that goes by drawn places -/
theorem next_place {p : Addr} {pl : Array Value} {e : Nat} {j : Nat} {i n ep : Nat} {v : Value} {Q : Option Value → Shared → Prop} (hI : s.heap.get? I = some (itObj (.ref p) i a n ep)) {o : Obj} {es : Array (Int × Value)} {t : SetTable}
    (ho : s.heap.get? a = some o) (hd : o.data = .set es ep t) (hf : t.fits es.size = true) (hn : es.size = n)
    (hp : s.heap.get? p = some { cls := .type "tuple", data := .seq pl e }) (hj : pl[i]? = some (rawInt j)) {hv : Int} (hv' : es[j]? = some (hv, v))
    (hQ : ∀ h', h'.get? I = some (itObj (.ref p) (i + 1) a n ep) → Heap.SameBut I s.heap h' → Q (some v) { s with heap := h' }) :
    wpAny (model prog w) A (pyNext (.ref I)) Q E s := by
  have hT : s.TypeIs (.ref I) "set_iterator" := ⟨_, hI, rfl⟩
  unfold pyNext
  refine wpAny_bind (wpAny_attempt (wpAny_callSpecial?_slot (name := Str.ofString "__next__") hT slot_sit_next
    (wpAny_call_entry slot_sit_next hT entry_sit_next ?_ (args_sit_next _))))
  show wpAny _ _ (fieldsOf (.ref I) >>= _) _ _ s
  refine wpAny_bind (wpAny_fieldsOf hI rfl ?_)
  show wpAny _ _ (setEntries a >>= _) _ _ s
  refine wpAny_bind (wpAny_setEntries_of ho hd hf ?_)
  show wpAny _ _ (if (((es.size : Nat) : Int) != ((n : Nat) : Int)) = true then _ else _) _ _ s
  rw [if_neg (by rw [hn]; simp)]
  show wpAny _ _ (seqItems? (.ref p) >>= _) _ _ s
  refine wpAny_bind (wpAny_seqItems hp rfl ?_)
  dsimp only
  rw [show ((i : Nat) : Int).toNat = i from rfl, hj]
  show wpAny _ _ (setNextDrawn a j ep >>= _) _ _ s
  refine wpAny_bind ?_
  unfold setNextDrawn
  refine wpAny_bind (wpAny_setState_of ho hd hf ?_)
  dsimp only
  rw [if_neg (by simp), hv']
  refine wpAny_bind (wpAny_pure ?_)
  refine wpAny_pure ?_
  show wpAny _ _ (setField (.ref I) 1 (rawInt ((i : Int) + 1)) >>= _) _ _ _
  refine wpAny_bind (wpAny_setField_rec hI (by simp) fun h2 hI2 hs2 => ?_)
  exact wpAny_pure ⟨_, rfl, wpAny_pure (hQ h2 (by rw [hI2]; rfl) hs2)⟩

theorem next_placeEnd {p : Addr} {pl : Array Value} {e : Nat} {i n ep : Nat} {Q : Option Value → Shared → Prop} (hh : A.handled = none) (hI : s.heap.get? I = some (itObj (.ref p) i a n ep)) {o : Obj} {es : Array (Int × Value)} {t : SetTable}
    (ho : s.heap.get? a = some o) (hd : o.data = .set es ep t) (hf : t.fits es.size = true) (hn : es.size = n)
    (hp : s.heap.get? p = some { cls := .type "tuple", data := .seq pl e }) (hj : pl[i]? = none)
    (hQ : ∀ h', Heap.ExtBut I s.heap h' → Q none { s with heap := h' }) :
    wpAny (model prog w) A (pyNext (.ref I)) Q E s := by
  have hT : s.TypeIs (.ref I) "set_iterator" := ⟨_, hI, rfl⟩
  unfold pyNext
  refine wpAny_bind (wpAny_attempt (wpAny_callSpecial?_slot (name := Str.ofString "__next__") hT slot_sit_next
    (wpAny_call_entry slot_sit_next hT entry_sit_next ?_ (args_sit_next _))))
  show wpAny _ _ (fieldsOf (.ref I) >>= _) _ _ s
  refine wpAny_bind (wpAny_fieldsOf hI rfl ?_)
  show wpAny _ _ (setEntries a >>= _) _ _ s
  refine wpAny_bind (wpAny_setEntries_of ho hd hf ?_)
  show wpAny _ _ (if (((es.size : Nat) : Int) != ((n : Nat) : Int)) = true then _ else _) _ _ s
  rw [if_neg (by rw [hn]; simp)]
  show wpAny _ _ (seqItems? (.ref p) >>= _) _ _ s
  refine wpAny_bind (wpAny_seqItems hp rfl ?_)
  dsimp only
  rw [show ((i : Nat) : Int).toNat = i from rfl, hj]
  show wpAny _ _ (setField (.ref I) 0 (rawInt 0) >>= _) _ _ _
  refine wpAny_bind (wpAny_setField_rec hI (by simp) fun h1 hI1 hs1 => ?_)
  refine wpAny_bind (wpAny_setField_rec (s := { s with heap := h1 }) hI1 (by simp) fun h2 hI2 hs2 => ?_)
  refine raise_stop (s := { s with heap := h2 }) (by first | exact hh | (show A.in1.handled = none; exact hh)) fun e h' he hT' => ?_
  refine wpAny_bind (wpAny_isInstance (T := "StopIteration") (b := true) hT' isSubtype_stop ?_)
  exact wpAny_pure (hQ h' fun b o hb e => he b o ((hs1.trans hs2).extBut b o hb e))
end
end

section
open PySem PyProof.Rows
set_option linter.unusedVariables false
set_option linter.unusedSimpArgs false
set_option maxRecDepth 100000

section
variable {prog : Program} {w : World} {A : Around} {E : Value → Shared → Prop} {s : Shared} {a I : Addr}

theorem wp_choose_any {src : Source} {n : Nat} {Q : Nat → Shared → Prop} (hn : n ≠ 0) (h : ∀ i, i < n → Q i { s with drawn := s.drawn.bump src }) : wpAny (model prog w) A (choose src n) Q E s :=
  fun Γ p hΓ => ⟨hn, h _ (Nat.mod_lt _ (Nat.pos_of_ne_zero hn))⟩

theorem wp_drawOrder {α : Type} : ∀ (n : Nat) (xs : List α) {Q : List α → Shared → Prop} {s : Shared}, xs.length = n → (∀ ys dr, ys.Perm xs → Q ys { s with drawn := dr }) → wpAny (model prog w) A (drawOrder n xs) Q E s
  | 0, xs, Q, s, hl, hQ => by
    have e : xs = [] := List.eq_nil_of_length_eq_zero hl
    subst e
    unfold drawOrder
    exact wpAny_pure (hQ [] s.drawn (List.Perm.refl _))
  | n + 1, [], Q, s, hl, hQ => by simp at hl
  | n + 1, x :: xs, Q, s, hl, hQ => by
    unfold drawOrder
    refine wpAny_bind (wp_choose_any (by simp) fun i hi => ?_)
    rw [List.getElem?_eq_getElem hi]
    dsimp only
    refine wpAny_bind (wp_drawOrder n _ (by rw [List.length_eraseIdx, if_pos hi]; omega) fun ys dr hp => ?_)
    refine wpAny_pure (hQ _ dr ?_)
    exact (List.Perm.cons _ hp).trans (erase_perm (x :: xs) i hi)

theorem wp_byText {Q : Bool → Shared → Prop} (h : Q (w.params.followText "set-order") s) : wpAny (model prog w) A setsByText Q E s := by
  unfold setsByText
  exact wpAny_bind (wpAny_askSetting (wpAny_pure h))

theorem next_text {o : Obj} {es : Array (Int × Value)} {ep i : Nat} {t : SetTable} {Q : Option (Value × Nat) → Shared → Prop} (ho : s.heap.get? a = some o) (hd : o.data = .set es ep t) (hf : t.fits es.size = true)
    (ht : w.params.followText "set-order" = true) (h : Q (((pickOrder (w.params.setOrder a ep) es)[i]?).map fun e => (e.2, 0)) s) : wpAny (model prog w) A (setNext a 0 i ep) Q E s := by
  unfold setNext
  refine wpAny_bind (wpAny_setState_of ho hd hf ?_)
  dsimp only
  refine wpAny_bind (wp_byText ?_)
  rw [ht]
  simp only [↓reduceIte, bne_self_eq_false, Bool.false_eq_true]
  refine wpAny_bind ?_
  unfold setWalk
  refine wpAny_bind (wpAny_setState_of ho hd hf ?_)
  dsimp only
  refine wpAny_bind (wp_byText ?_)
  rw [ht]
  simp only [↓reduceIte]
  exact wpAny_bind (wpAny_askSetting (wpAny_pure (wpAny_pure h)))

def slotOf (t : SetTable) (i : Nat) : Nat := if i = 0 then 0 else t.place.getD (i - 1) 0 + 1

theorem below_slot {t : SetTable} {led : Bool} (ht : TabOk t led) {i : Nat} (hi : i ≤ t.place.size) : SetTable.below t.place (slotOf t i) = i := by
  unfold slotOf
  by_cases h : i = 0
  · rw [if_pos h, h]; exact below_zero _ ht.rise
  · rw [if_neg h, below_at _ ht.rise (i - 1) (by omega)]; omega

theorem next_plain {o : Obj} {es : Array (Int × Value)} {ep i : Nat} {t : SetTable} {led : Bool} {Q : Option (Value × Nat) → Shared → Prop} (ho : s.heap.get? a = some o) (hd : o.data = .set es ep t) (hf : t.fits es.size = true)
    (hb : w.params.followText "set-order" = false) (hl : led = true) (ht : TabOk t led) (hpl : t.plain = true ∨ es.size ≤ 1) (hi : i ≤ es.size)
    (h : Q (if h : i < es.size then some (es[i].2, slotOf t (i + 1)) else none) s) : wpAny (model prog w) A (setNext a (slotOf t i) i ep) Q E s := by
  have hsz : t.place.size = es.size := by
    simp only [SetTable.fits, Bool.and_eq_true, beq_iff_eq, decide_eq_true_eq] at hf
    exact hf.1
  unfold setNext
  refine wpAny_bind (wpAny_setState_of ho hd hf ?_)
  dsimp only
  refine wpAny_bind (wp_byText ?_)
  rw [hb]
  simp only [Bool.false_eq_true, if_false]
  refine wpAny_ite_split (fun hab => ?_) (fun _ => ?_)
  · exfalso
    have hab' : (!t.plain && decide (es.size > 1)) = true := hab
    rcases hpl with h | h
    · simp [h] at hab'
    · simp at hab'; omega
  refine wpAny_bind ?_
  show wpAny _ _ (if (!t.led && !es.isEmpty) = true then _ else pure PUnit.unit) _ _ _
  rw [if_neg (by rw [ht.mark, hl]; simp)]
  refine wpAny_pure ?_
  rw [below_slot ht (by omega)]
  by_cases hlt : i < es.size
  · rw [dif_pos hlt] at h
    have e1 : es[i]? = some es[i] := by simp [hlt]
    have e2 : t.place[i]? = some (t.place.getD i 0) := by simp [hsz, hlt]
    rw [e1, e2]
    refine wpAny_pure ?_
    have e3 : slotOf t (i + 1) = t.place.getD i 0 + 1 := by unfold slotOf; rw [if_neg (by omega)]; rfl
    rw [e3] at h
    exact h
  · rw [dif_neg hlt] at h
    have e1 : es[i]? = none := by simp; omega
    rw [e1]
    exact wpAny_pure h

abbrev SameG : Array GenState → Array GenState → Prop := fun a b => b = a

theorem moved_of {h' : Heap} {tk : Nat} (ht : s.toks ≤ tk) (hk : ∀ b o, b ≠ I → s.heap.get? b = some o → h'.get? b = some o) : Moved [I] SameG s { s with heap := h', toks := tk } :=
  ⟨fun b o hb e => hk b o (fun e => hb (by simp [e])) e, rfl, rfl, rfl, ht⟩

theorem walks_text (hh : A.handled = none) (hIa : I ≠ a) {o : Obj} {es : Array (Int × Value)} {ep : Nat} {t : SetTable} (hd : o.data = .set es ep t) (hf : t.fits es.size = true)
    (ht : w.params.followText "set-order" = true) :
    WalksS prog w A I [I, a] [I] SameG es.size (fun i v => ((pickOrder (w.params.setOrder a ep) es).toList.map (·.2))[i]? = some v) (fun i s => s.heap.get? I = some (itObj (rawInt (0 : Nat)) i a es.size ep) ∧ s.heap.get? a = some o) where
  sub := fun b hb => by simp at hb; simp [hb]
  grefl := fun _ => rfl
  gtrans := fun _ _ _ x y => y.trans x
  frame := fun i s h' tk st _ hk => ⟨hk I (by simp) _ st.1, hk a (by simp) _ st.2⟩
  item := fun i s Q E hi st hQ => by
    have hl : (pickOrder (w.params.setOrder a ep) es).toList.length = es.size := by rw [(pickOrder_perm _ es).length_eq]; simp
    have hi' : i < (pickOrder (w.params.setOrder a ep) es).toList.length := by omega
    refine next_slot (f' := 0) (v := (pickOrder (w.params.setOrder a ep) es).toList[i].2) st.1 st.2 hd hf rfl (fun A E Q hq => next_text st.2 hd hf ht ?_) fun h' hI' hs' => ?_
    · rw [← Array.getElem?_toList, List.getElem?_eq_getElem hi']; exact hq
    · exact hQ _ _ (by rw [List.getElem?_map, List.getElem?_eq_getElem hi']; rfl) ⟨hI', (hs'.extBut a _ (Ne.symm hIa) st.2)⟩ (moved_of (Nat.le_refl _) fun b o hb e => hs'.extBut b o hb e)
  done := fun s Q E st hQ => by
    have hl : (pickOrder (w.params.setOrder a ep) es).toList.length = es.size := by rw [(pickOrder_perm _ es).length_eq]; simp
    refine next_end hh st.1 st.2 hd hf rfl (fun A E Q hq => next_text st.2 hd hf ht ?_) fun h' he => ?_
    · rw [← Array.getElem?_toList, List.getElem?_eq_none (by omega)]; exact hq
    · exact hQ _ (moved_of (Nat.le_refl _) fun b o hb e => he b o hb e)
  self := fun i s Q E st hQ => iter_self st.1 hQ

theorem walks_plain (hh : A.handled = none) (hIa : I ≠ a) {o : Obj} {es : Array (Int × Value)} {ep : Nat} {t : SetTable} {led : Bool} (hd : o.data = .set es ep t) (hf : t.fits es.size = true)
    (hb : w.params.followText "set-order" = false) (hl : led = true) (ht : TabOk t led) (hpl : t.plain = true ∨ es.size ≤ 1) :
    WalksS prog w A I [I, a] [I] SameG es.size (fun i v => (es.toList.map (·.2))[i]? = some v) (fun i s => (i ≤ es.size ∧ s.heap.get? I = some (itObj (rawInt (slotOf t i)) i a es.size ep)) ∧ s.heap.get? a = some o) where
  sub := fun b hb => by simp at hb; simp [hb]
  grefl := fun _ => rfl
  gtrans := fun _ _ _ x y => y.trans x
  frame := fun i s h' tk st _ hk => ⟨⟨st.1.1, hk I (by simp) _ st.1.2⟩, hk a (by simp) _ st.2⟩
  item := fun i s Q E hi st hQ => by
    refine next_slot (f' := slotOf t (i + 1)) (v := es[i].2) st.1.2 st.2 hd hf rfl (fun A E Q hq => next_plain st.2 hd hf hb hl ht hpl st.1.1 ?_) fun h' hI' hs' => ?_
    · rw [dif_pos hi]; exact hq
    · exact hQ _ _ (by rw [List.getElem?_map, Array.getElem?_toList]; simp [hi]) ⟨⟨hi, hI'⟩, (hs'.extBut a _ (Ne.symm hIa) st.2)⟩ (moved_of (Nat.le_refl _) fun b o hb e => hs'.extBut b o hb e)
  done := fun s Q E st hQ => by
    refine next_end hh st.1.2 st.2 hd hf rfl (fun A E Q hq => next_plain st.2 hd hf hb hl ht hpl st.1.1 ?_) fun h' he => ?_
    · rw [dif_neg (Nat.lt_irrefl _)]; exact hq
    · exact hQ _ (moved_of (Nat.le_refl _) fun b o hb e => he b o hb e)
  self := fun i s Q E st hQ => iter_self st.1.2 hQ

theorem walks_drawn (hh : A.handled = none) (hIa : I ≠ a) {p : Addr} (hIp : I ≠ p) {o : Obj} {es : Array (Int × Value)} {ep : Nat} {t : SetTable} (hd : o.data = .set es ep t) (hf : t.fits es.size = true)
    {js : List Nat} (hj : js.Perm (List.range es.size)) :
    WalksS prog w A I [I, a, p] [I] SameG es.size (fun i v => (js.map fun j => ((es[j]?).map (·.2)).getD .none)[i]? = some v)
      (fun i s => s.heap.get? I = some (itObj (.ref p) i a es.size ep) ∧ s.heap.get? a = some o ∧ s.heap.get? p = some { cls := .type "tuple", data := .seq (js.map fun j => rawInt (j : Nat)).toArray 0 }) where
  sub := fun b hb => by simp at hb; simp [hb]
  grefl := fun _ => rfl
  gtrans := fun _ _ _ x y => y.trans x
  frame := fun i s h' tk st _ hk => ⟨hk I (by simp) _ st.1, hk a (by simp) _ st.2.1, hk p (by simp) _ st.2.2⟩
  item := fun i s Q E hi st hQ => by
    have hl : js.length = es.size := by rw [hj.length_eq]; simp
    have hjl : js[i] < es.size := by simpa using hj.mem_iff.mp (List.getElem_mem (by omega : i < js.length))
    refine next_place (v := es[js[i]].2) (hv := es[js[i]].1) (j := js[i]) st.1 st.2.1 hd hf rfl st.2.2 (by simp [hl, hi]) (by simp [hjl]) fun h' hI' hs' => ?_
    exact hQ _ _ (by simp [hl, hi, hjl]) ⟨hI', hs'.extBut a _ (Ne.symm hIa) st.2.1, hs'.extBut p _ (Ne.symm hIp) st.2.2⟩ (moved_of (Nat.le_refl _) fun b o hb e => hs'.extBut b o hb e)
  done := fun s Q E st hQ => by
    have hl : js.length = es.size := by rw [hj.length_eq]; simp
    refine next_placeEnd hh st.1 st.2.1 hd hf rfl st.2.2 (by simp [hl]) fun h' he => ?_
    exact hQ _ (moved_of (Nat.le_refl _) fun b o hb e => he b o hb e)
  self := fun i s Q E st hQ => iter_self st.1 hQ
end
end

section
open PySem PyProof.Rows
set_option linter.unusedVariables false
set_option linter.unusedSimpArgs false
set_option maxRecDepth 100000

/-- the values of a walk: the numbers `ks`, in some order -/
def ValsOf (vals : List Value) (ks : List Int) : Prop := (∀ v ∈ vals, ∃ k u, v = Value.int k u) ∧ (vals.map numOf).Perm ks

theorem vals_perm {es : Array (Int × Value)} {ks : List Int} {l : List (Int × Value)} (hl : l.Perm es.toList) (hel : ∀ e ∈ es.toList, ∃ k u, e = (hashInt k, Value.int k u)) (hp : (es.toList.map fun e => numOf e.2).Perm ks) : ValsOf (l.map (·.2)) ks := by
  constructor
  · intro v hv
    obtain ⟨e, he, rfl⟩ := List.mem_map.mp hv
    obtain ⟨k, u, rfl⟩ := hel e (hl.mem_iff.mp he)
    exact ⟨k, u, rfl⟩
  · rw [List.map_map]
    exact (hl.map _).trans hp
theorem places_perm {es : Array (Int × Value)} {js : List Nat} (hj : js.Perm (List.range es.size)) : ∃ l : List (Int × Value), l.Perm es.toList ∧ (js.map fun j => ((es[j]?).map (·.2)).getD Value.none) = l.map (·.2) := by
  refine ⟨js.map fun j => (es[j]?).getD (0, .none), ?_, ?_⟩
  · refine (hj.map _).trans (List.Perm.of_eq ?_)
    apply List.ext_getElem?
    intro i
    rw [List.getElem?_map]
    by_cases h : i < es.size
    · simp [h]
    · simp [h]
  · rw [List.map_map]
    refine List.map_congr_left fun j hjm => ?_
    have h : j < es.size := by simpa using hj.mem_iff.mp hjm
    simp [h]

section
variable {prog : Program} {w : World} {A : Around} {E : Value → Shared → Prop} {s : Shared} {a I : Addr} {led : Bool} {ks : List Int}

/-- what stands when a set's iterator has been made -/
def Made (prog : Program) (w : World) (s s' : Shared) (a I : Addr) (ks : List Int) : Prop :=
  (∀ b o, s.heap.get? b = some o → s'.heap.get? b = some o) ∧ s'.gens = s.gens ∧ s'.os = s.os ∧ s'.toks = s.toks ∧ s.heap.objs.size ≤ I ∧
    ∃ (fp : List Addr) (vals : List Value) (St : Nat → Shared → Prop) (n : Nat), ValsOf vals ks ∧ vals.length = n ∧ (∀ b ∈ fp, b = a ∨ s.heap.objs.size ≤ b) ∧ St 0 s' ∧
      ∀ A' : Around, A'.handled = none → WalksS prog w A' I fp [I] SameG n (fun i v => vals[i]? = some v) St

theorem iter_set (hS : SetAt s.heap a led ks) (hled : led = !(w.params.followText "set-order")) (hb64 : ks.length < 64) {Q : Value → Shared → Prop}
    (h : ∀ s' I, Made prog w s s' a I ks → Q (.ref I) s') : wpAny (model prog w) A (pyIter (.ref a)) Q E s := by
  obtain ⟨o, es, ep, t, ho, hex, hd, hel, hp, hf, ht⟩ := id hS
  have hT := hS.typeIs
  have ha : a < s.heap.objs.size := Heap.lt_size ho
  refine wpAny_pyIter_slot hT F.slot_set_iter (wpAny_call_entry F.slot_set_iter hT entry_set_iter ?_ (F.args_set_iter_1 _))
  show wpAny _ _ (Builtin.Frozenset.sizeOf a >>= _) _ _ s
  unfold Builtin.Frozenset.sizeOf
  refine wpAny_bind (wpAny_bind (wpAny_setEntries_of ho hd hf (wpAny_pure ?_)))
  show wpAny _ _ (setDrawn a >>= _) _ _ s
  refine wpAny_bind ?_
  unfold setDrawn
  refine wpAny_bind (wpAny_setState_of ho hd hf ?_)
  dsimp only
  refine wpAny_bind (wp_byText ?_)
  refine wpAny_pure ?_
  have hz : es.size = ks.length := size_of_perm hp
  refine wpAny_ite_split (fun hab => ?_) (fun hab => ?_)
  · have hab' : (!(w.params.followText "set-order") && (!t.plain && decide (es.size > 1))) = true := hab
    simp only [Bool.and_eq_true, Bool.not_eq_true', decide_eq_true_eq] at hab'
    refine wpAny_bind ?_
    refine wp_drawOrder es.size (List.range es.size) (by simp) fun js dr hj => ?_
    refine wpAny_bind (wpAny_newTuple ?_ (by rw [List.length_map, hj.length_eq, List.length_range, sizeLine_eq]; omega))
    have hp1 : (s.heap.push { cls := .type "tuple", data := .seq (js.map fun (i : Nat) => rawInt i).toArray 0 }).get? s.heap.objs.size = some { cls := .type "tuple", data := .seq (js.map fun (i : Nat) => rawInt i).toArray 0 } := Heap.get?_push_size _ rfl
    have ho1 : (s.heap.push { cls := .type "tuple", data := .seq (js.map fun (i : Nat) => rawInt i).toArray 0 }).get? a = some o := Heap.get?_push_of_some _ ho
    have hs1 : (s.heap.push { cls := .type "tuple", data := .seq (js.map fun (i : Nat) => rawInt i).toArray 0 }).objs.size = s.heap.objs.size + 1 := by rw [Heap.size_push]
    unfold setEpoch
    refine wpAny_bind (wpAny_bind (wpAny_setState_of (s := { s with heap := s.heap.push { cls := .type "tuple", data := .seq (js.map fun (i : Nat) => rawInt i).toArray 0 }, drawn := dr }) ho1 hd hf (wpAny_pure ?_)))
    refine wpAny_bind (wpAny_newObj_type (wpAny_pure ⟨_, rfl, "set_iterator", _, ⟨_, Heap.get?_push_size _ rfl, rfl⟩, slot_sit_next.lookup, ?_⟩) (by size_fits))
    obtain ⟨l, hl1, hl2⟩ := places_perm hj
    have hln : (js.map fun j => ((es[j]?).map (·.2)).getD Value.none).length = es.size := by rw [List.length_map, hj.length_eq]; simp
    have W := fun (A' : Around) (hA' : A'.handled = none) => walks_drawn (prog := prog) (w := w) (A := A') (a := a) (I := s.heap.objs.size + 1) (p := s.heap.objs.size) hA' (Nat.ne_of_gt (Nat.lt_succ_of_lt ha)) (Nat.ne_of_gt (Nat.lt_succ_self _)) hd hf hj
    rw [← hs1] at W
    refine h _ _ ⟨fun b o e => Heap.get?_push_of_some _ (Heap.get?_push_of_some _ e), rfl, rfl, rfl, Nat.le_trans (Nat.le_succ _) (Nat.le_of_eq hs1.symm), _, (js.map fun j => ((es[j]?).map (·.2)).getD Value.none), _, es.size, hl2 ▸ vals_perm hl1 hel hp, hln, ?_, ?_, W⟩
    · intro b hb
      simp only [List.mem_cons, List.not_mem_nil, or_false] at hb
      rcases hb with rfl | rfl | rfl
      · exact .inr (Nat.le_trans (Nat.le_succ _) (Nat.le_of_eq hs1.symm))
      · left; rfl
      · exact .inr (Nat.le_refl _)
    · exact ⟨Heap.get?_push_size _ rfl, Heap.get?_push_of_some _ ho1, Heap.get?_push_of_some _ hp1⟩
  · have hab' : ¬ (!(w.params.followText "set-order") && (!t.plain && decide (es.size > 1))) = true := hab
    refine wpAny_bind (wpAny_pure ?_)
    unfold setEpoch
    refine wpAny_bind (wpAny_bind (wpAny_setState_of ho hd hf (wpAny_pure ?_)))
    refine wpAny_bind (wpAny_newObj_type (wpAny_pure ⟨_, rfl, "set_iterator", _, ⟨_, Heap.get?_push_size _ rfl, rfl⟩, slot_sit_next.lookup, ?_⟩) (by size_fits))
    by_cases hb : w.params.followText "set-order" = true
    · have hln : ((pickOrder (w.params.setOrder a ep) es).toList.map (·.2)).length = es.size := by rw [List.length_map, (pickOrder_perm _ es).length_eq]; simp
      have W := fun (A' : Around) (hA' : A'.handled = none) => walks_text (prog := prog) (w := w) (A := A') (a := a) (I := s.heap.objs.size) hA' (Nat.ne_of_gt ha) hd hf hb
      refine h _ _ ⟨fun b o e => Heap.get?_push_of_some _ e, rfl, rfl, rfl, Nat.le_refl _, _, ((pickOrder (w.params.setOrder a ep) es).toList.map (·.2)), _, es.size, vals_perm (pickOrder_perm _ es) hel hp, hln, ?_, ?_, W⟩
      · intro b hb
        simp only [List.mem_cons, List.not_mem_nil, or_false] at hb
        rcases hb with rfl | rfl
        · right; exact Nat.le_refl _
        · left; rfl
      · exact ⟨Heap.get?_push_size _ rfl, Heap.get?_push_of_some _ ho⟩
    · have hb' : w.params.followText "set-order" = false := by simpa using hb
      have hpl : t.plain = true ∨ es.size ≤ 1 := by
        rw [hb'] at hab'
        cases hq : t.plain with
        | true => exact .inl rfl
        | false => rw [hq] at hab'; simp at hab'; exact .inr hab'
      have W := fun (A' : Around) (hA' : A'.handled = none) => walks_plain (prog := prog) (w := w) (A := A') (a := a) (I := s.heap.objs.size) hA' (Nat.ne_of_gt ha) hd hf hb' (by rw [hled, hb']; rfl) ht hpl
      refine h _ _ ⟨fun b o e => Heap.get?_push_of_some _ e, rfl, rfl, rfl, Nat.le_refl _, _, (es.toList.map (·.2)), _, es.size, vals_perm (List.Perm.refl _) hel hp, by simp, ?_, ?_, W⟩
      · intro b hb
        simp only [List.mem_cons, List.not_mem_nil, or_false] at hb
        rcases hb with rfl | rfl
        · right; exact Nat.le_refl _
        · left; rfl
      · exact ⟨⟨Nat.zero_le _, Heap.get?_push_size _ rfl⟩, Heap.get?_push_of_some _ ho⟩

theorem set_len_look : typeLookup (.type "set") "__len__" = pure (some (.builtin "set.__len__")) := F.slot_set_len.lookup

theorem collect_set (hh : A.handled = none) (hS : SetAt s.heap a led ks) (hled : led = !(w.params.followText "set-order")) (hb : ks.length < 64) {Q : List Value → Shared → Prop}
    (hQ : ∀ s' vals, (∀ b o, s.heap.get? b = some o → s'.heap.get? b = some o) → s'.gens = s.gens → s'.os = s.os → ValsOf vals ks → Q vals s') :
    wpAny (model prog w) A (collect (.ref a)) Q E s := by
  unfold collect
  refine wpAny_bind (wpAny_runValue (codeAny_builtin F.entry_proto_collect ?_))
  rw [Around.under_plainId F.plain_proto_collect _]
  show wpAny _ A.in1 (newList [] >>= fun l => again (.builtin "list.__iadd__" ⟨[l, .ref a], []⟩)) _ _ s
  refine wpAny_bind (wpAny_newObj_type ?_)
  refine wpAny_pure ⟨plainId_quiet F.plain_list_iadd _, codeAny_builtin F.entry_list_iadd ?_⟩
  rw [Around.under_plainId F.plain_list_iadd _]
  show wpAny _ A.in1 (Builtin.List.listExtendWith (.ref s.heap.objs.size) (.ref a) (.ref s.heap.objs.size)) _ _ _
  have ha : a < s.heap.objs.size := by obtain ⟨o, _, _, _, ho, _⟩ := hS; exact Heap.lt_size ho
  generalize hH : s.heap.push { cls := .type "list", data := .seq ([] : List Value).toArray } = H
  have hHs : H.objs.size = s.heap.objs.size + 1 := by rw [← hH, Heap.size_push]
  have hHk : ∀ b o, s.heap.get? b = some o → H.get? b = some o := fun b o e => hH ▸ Heap.get?_push_of_some _ e
  have hHS : H.get? s.heap.objs.size = some { cls := .type "list", data := .seq ([] : List Value).toArray } := hH ▸ Heap.get?_push_size _ rfl
  have hS1 : SetAt H a led ks := hS.kept fun o e => hHk a o e
  unfold Builtin.List.listExtendWith
  refine wpAny_bind (wpAny_typeOf (hS1.typeIs (s := { s with heap := H })) ?_)
  have h1 : Builtin.List.listSameRef (.ref s.heap.objs.size) (.ref a) = false := by
    have : s.heap.objs.size ≠ a := Nat.ne_of_gt ha
    simp [Builtin.List.listSameRef, this]
  have h2 : (Value.type "set" == Value.type "list") = false := by decide
  have h3 : (Value.type "set" == Value.type "tuple") = false := by decide
  simp only [h1, h2, h3, Bool.or_false, Bool.false_eq_true, if_false]
  refine wpAny_bind (iter_set (s := { s with heap := H }) hS1 hled hb fun s2 I hM => ?_)
  obtain ⟨hk, hg, hos, htk, hI, fp, vals, St, n, hv, hn, hfp, hst, W⟩ := hM
  subst hn
  have hk : ∀ b o, H.get? b = some o → s2.heap.get? b = some o := hk
  have hS2 : SetAt s2.heap a led ks := hS1.kept fun o e => hk a o e
  refine wpAny_bind (wpAny_holding ?_)
  unfold Builtin.List.listLengthHint
  refine wpAny_bind (wpAny_specialOf hS2.typeIs set_len_look ?_)
  generalize hid : ("set.__len__" : String) = id0
  wp_delta
  rw [show splitId id0 = some ("set", "__len__") from by subst hid; decide +kernel]
  subst hid
  refine wpAny_bind (wpAny_isInstance (b := true) hS2.typeIs sub_set_self ?_)
  refine wpAny_ite_split (fun hab => absurd hab (by decide)) (fun _ => ?_)
  refine wpAny_ite_split (fun _ => ?_) (fun hab => absurd (by decide +kernel) hab)
  refine wpAny_bind (wpAny_typeOf hS2.typeIs ?_)
  refine wpAny_pure ?_
  refine wpAny_ite_split (fun _ => ?_) (fun hab => absurd (by decide +kernel) hab)
  refine wpAny_bind (wpAny_rule ?_)
  refine wpAny_bind ?_
  have hS3 := hk _ _ hHS
  show wpAny _ _ (updateSeq s.heap.objs.size (·.push .none) >>= fun _ => updateSeq s.heap.objs.size (·.pop)) _ _ _
  refine wpAny_bind (wpAny_updateSeq hS3 rfl ?_)
  have hS4 := Heap.get?_update_self (Obj.mapSeq (·.push Value.none)) hS3 rfl
  refine wpAny_updateSeq (hz := by seq_fits) hS4 rfl ?_
  have hS5 := Heap.get?_update_self (Obj.mapSeq (·.pop)) hS4 rfl
  have oth : ∀ b o, b ≠ s.heap.objs.size → s2.heap.get? b = some o →
      ((s2.heap.update s.heap.objs.size (Obj.mapSeq (·.push Value.none))).update s.heap.objs.size (Obj.mapSeq (·.pop))).get? b = some o :=
    fun b o hb e => (Heap.get?_update_other _ _ (Ne.symm hb)).trans ((Heap.get?_update_other _ _ (Ne.symm hb)).trans e)
  have hI' : H.objs.size ≤ I := hI
  have hfp' : ∀ b ∈ fp, b = a ∨ H.objs.size ≤ b := hfp
  have hSf : s.heap.objs.size ∉ fp := fun hm => by
    rcases hfp' _ hm with h | h
    · exact Nat.lt_irrefl _ (h ▸ ha)
    · exact Nat.lt_irrefl _ (Nat.lt_of_lt_of_le (by rw [hHs]; exact Nat.lt_succ_self _) h)
  have hvl : vals.length = ks.length := by have := hv.2.length_eq; simpa using this
  have Wn := W A.in1 hh
  have hst' := Wn.frame 0 s2 _ s2.toks hst (Nat.le_refl _) fun b hb o e => oth b o (fun h => hSf (h ▸ hb)) e
  refine wpAny_pure ⟨plainId_quiet F.plain_extend_loop _, codeAny_extend_loopS Wn (by rw [sizeLine_eq]; omega) _ hSf _ vals.length 0 _ _ _ rfl (Nat.zero_le _) hst' hS5 (ItemsOf.nil _) fun s' acc' c' hm hS' hacc => ?_⟩
  show wpAny _ A (load s.heap.objs.size >>= _) _ _ s'
  refine wpAny_bind (wpAny_load hS' ?_)
  have hacc' : acc'.toList = vals := by
    apply List.ext_getElem?
    intro i
    by_cases hi : i < acc'.size
    · have e1 : acc'[i]? = some acc'[i] := by simp [hi]
      rw [Array.getElem?_toList, e1, hacc.2 i _ e1]
    · have := hacc.1
      rw [Array.getElem?_toList, Array.getElem?_eq_none (by omega), List.getElem?_eq_none (by omega)]
  refine wpAny_pure ?_
  rw [hacc']
  refine hQ s' vals (fun b o e => ?_) (hm.gens.trans hg) (hm.os.trans hos) hv
  have hlt := Heap.lt_size e
  refine hm.heap b o (fun hb => ?_) (oth b o (Nat.ne_of_lt hlt) (hk b o (hHk b o e)))
  simp only [List.mem_cons, List.not_mem_nil, or_false] at hb
  rcases hb with rfl | rfl
  · exact Nat.lt_irrefl _ hlt
  · exact Nat.lt_irrefl _ (Nat.lt_of_lt_of_le (Nat.lt_trans hlt (by rw [hHs]; exact Nat.lt_succ_self _)) hI')

theorem intsOf : ∀ {vals : List Value}, (∀ v ∈ vals, ∃ k u, v = Value.int k u) → IntsAre vals (vals.map numOf) := fun h => intsAre_map _ h

theorem sortedHeap_list {h : Heap} {l : Addr} {vs : List Value} {out : Array Value} {n : Nat} (ho : h.get? l = some (seqObj "list" vs.toArray n)) : (∃ n, (sortedHeap h l vs out).get? l = some (seqObj "list" out n)) ∧ ∀ b o, b ≠ l → h.get? b = some o → (sortedHeap h l vs out).get? b = some o := by
  unfold sortedHeap
  have h1 := get?_update_seq ho (fun _ => #[])
  have h2 := Heap.get?_push_of_some (seqObj "tuple" vs.toArray 0) h1
  have h3 := Heap.get?_push_of_some (seqObj "list" #[] 0) h2
  have h4 := get?_update_seq h3 (fun _ => out)
  refine ⟨⟨_, h4⟩, fun b o hb e => ?_⟩
  exact (Heap.get?_update_other _ _ (Ne.symm hb)).trans (Heap.get?_push_of_some _ (Heap.get?_push_of_some _ ((Heap.get?_update_other _ _ (Ne.symm hb)).trans e)))

theorem call_sorted (hh : A.handled = none) (hS : SetAt s.heap a led ks) (hled : led = !(w.params.followText "set-order")) (hb : ks.length < 64) {Q : Value → Shared → Prop}
    (hQ : ∀ d (h' : Heap) (tk' : Nat) (l : Addr) (out : Array Value) (ns : List Int), (∀ b o, s.heap.get? b = some o → h'.get? b = some o) → (∃ n, h'.get? l = some (seqObj "list" out n)) → s.heap.get? l = none → IntsAre out.toList ns → ns.Perm ks → ns.Pairwise (· ≤ ·) → Q (.ref l) { s with heap := h', toks := tk', drawn := d }) :
    wpAny (model prog w) A (call (.builtin "sorted") [.ref a]) Q E s := by
  refine Calls.call_function_entry kind_sorted plain_sorted entry_sorted (args_sorted1 _) ?_
  unfold Builtin.«sorted»
  refine wpAny_bind (m := checkCount "sorted" 1 1 _) (wpAny_pure ?_)
  refine wpAny_bind (collect_set (by first | exact hh | (show A.in1.handled = none; exact hh)) hS hled hb fun s2 vals hk hg hos hv => ?_)
  obtain ⟨p2, g2, d2, t2, os2⟩ := s2
  have hg' : g2 = s.gens := hg
  have hos' : os2 = s.os := hos
  subst hg' hos'
  have hvl : vals.length = ks.length := by have := hv.2.length_eq; simpa using this
  refine wpAny_bind (wpAny_newList ?_)
  have hoL : (p2.push (seqObj "list" vals.toArray 0)).get? p2.objs.size = some (seqObj "list" vals.toArray 0) := Heap.get?_push_size _ rfl
  show wpAny _ _ _ _ _ { s with heap := p2.push (seqObj "list" vals.toArray 0), drawn := d2, toks := t2 }
  refine wpAny_bind (wpAny_holding (wpAny_call_entry slot_list_sort (s := { s with heap := p2.push (seqObj "list" vals.toArray 0), drawn := d2, toks := t2 }) ⟨_, hoL, rfl⟩ entry_list_sort (list_sort_tree hoL (intsOf hv.1) (by omega) fun out ns' a1 a2 a3 => ⟨_, rfl, ?_⟩) (args_list_sort _)))
  have hsl := sortedHeap_list (out := out) hoL
  refine wpAny_pure ⟨_, rfl, hQ d2 _ _ _ out ns' (fun b o e => ?_) hsl.1 (by
    cases q : s.heap.get? p2.objs.size with
    | none => rfl
    | some o => exact absurd (Heap.lt_size (hk _ _ q)) (Nat.lt_irrefl _)) a1 (a2.trans hv.2) a3⟩
  have e2 := hk b o e
  exact hsl.2 b o (Nat.ne_of_lt (Heap.lt_size e2)) (Heap.get?_push_of_some _ e2)
end
end

section
open PySem PySem.W PyProof.Rows PySem.Calls
set_option linter.unusedVariables false
set_option maxRecDepth 100000

section
variable {prog : Program} {w : World} {A : Around} {E : Value → Shared → Prop} {s : Shared} {env : Env} {x : Str} {body : List Stmt} {Q : Flow → Shared → Prop}

/-- the end of a turn of a loop whose turns may draw: no break, no return -/
def TurnEnd (J : Shared → Prop) (f : Flow) (s : Shared) : Prop := f = .next ∧ J s

/-- a loop over a range from nought, whatever its turns do to the world -/
structure RLoop (prog : Program) (w : World) (A : Around) (E : Value → Shared → Prop) (env : Env) (x : Str) (px : Pos) (body : List Stmt) (Q : Flow → Shared → Prop) (n : Nat) (s₁ : Shared) (J : Nat → Shared → Prop) : Prop where
  start : ∀ h', IsRangeIter h' s₁.heap.objs.size 0 (n : Int) 1 → (∀ b o, s₁.heap.get? b = some o → h'.get? b = some o) → J 0 { s₁ with heap := h' }
  iter : ∀ i s', J i s' → IsRangeIter s'.heap s₁.heap.objs.size (i : Nat) ((n : Int) - (i : Nat)) 1
  turn : ∀ i s' t h', i < n → J i s' → IsRangeIter h' s₁.heap.objs.size ((i + 1 : Nat) : Int) ((n : Int) - ((i + 1 : Nat) : Int)) 1 → Heap.SameBut s₁.heap.objs.size s'.heap h' →
    wpAny (model prog w) A (assign (.Name x px) env (.int (i : Nat) t)) (fun _ s₂ => wpAny (model prog w) A (execs body env) (TurnEnd (J (i + 1))) E s₂) E { s' with heap := h', toks := s'.toks + 1 }
  fin : ∀ s' h', J n s' → Heap.ExtBut s₁.heap.objs.size s'.heap h' → Q .next { s' with heap := h' }

def RSrc (prog : Program) (w : World) (A : Around) (E : Value → Shared → Prop) (env : Env) (x : Str) (px : Pos) (body : List Stmt) (Q : Flow → Shared → Prop) (xv : Value) (s₁ : Shared) : Prop :=
  ∃ r t u v n J, xv = .ref r ∧ IsRange s₁.heap r 0 ((n : Nat) : Int) 1 t u v ∧ n < 8 ∧ RLoop prog w A E env x px body Q n s₁ J

theorem RSrc.intro {px : Pos} {s₁ : Shared} {r : Addr} {t u v : Tok} {n : Nat} (J : Nat → Shared → Prop) (hr : IsRange s₁.heap r 0 ((n : Nat) : Int) 1 t u v) (hn : n < 8) (h : RLoop prog w A E env x px body Q n s₁ J) : RSrc prog w A E env x px body Q (.ref r) s₁ :=
  ⟨r, t, u, v, n, J, rfl, hr, hn, h⟩

theorem For_any {px pos : Pos} {iter : Expr} (hh : A.handled = none)
    (h : wpAny (model prog w) A (eval iter env) (RSrc prog w A E env x px body Q) E s)
    (hs : ∀ x, foldedSetIterable iter env x = pure x := by intro _; rfl)
    (hE : PassesOwn (model prog w) A env E := by passes_own) :
    wpAny (model prog w) A (exec (.For (.Name x px) iter body [] pos) env) Q E s := by
  refine wpAny_For (wpAny_mono h (fun xv s₁ h₁ => ?_) fun _ _ e => e) hs
  obtain ⟨r, t, u, v, n, J, rfl, hr, hn, R⟩ := h₁
  have hsm : Builtin.Range.small 0 (n : Int) 1 = true := by
    have : ∀ n : Nat, n < 8 → Builtin.Range.small 0 (n : Int) 1 = true := by decide
    exact this n hn
  have hsz : Builtin.Range.rangeSize 0 (n : Int) 1 = n := by
    have : ∀ n : Nat, n < 8 → Builtin.Range.rangeSize 0 (n : Int) 1 = n := by decide
    exact this n hn
  refine wpAny_pyIter_range hr hsm ?_
  rw [hsz]
  refine codeAny_forLoop (R := fun r s' => match r with | .ok f => Q f s' | .error e => cameBackBy (model prog w) A env E e s')
    (fun k s' => ∃ i, i ≤ n ∧ k = n + 1 - i ∧ J i s') ?_ (n + 1) ⟨0, Nat.zero_le _, rfl, R.start _ (Heap.get?_push_size _ rfl) fun b o e => Heap.get?_push_of_some _ e⟩
  rintro k s' ⟨i, hi, rfl, hJ⟩
  have hit := R.iter i s' hJ
  by_cases hlt : i < n
  · refine wpAny_pyNext_range_item hit (by omega) fun h' hit' hs' => ?_
    have e1 : ((i : Nat) : Int) + 1 = ((i + 1 : Nat) : Int) := by omega
    have e2 : (n : Int) - ((i : Nat) : Int) - 1 = (n : Int) - ((i + 1 : Nat) : Int) := by omega
    rw [e1, e2] at hit'
    have h1 := R.turn i s' s'.toks h' hlt hJ hit' hs'
    refine wpAny_passesOwn hE ?_
    refine wpAny_mono h1 (fun _ s₂ h₂ => ?_) fun _ _ e => e
    refine wpAny_passesOwn hE ?_
    refine wpAny_mono h₂ (fun f s₃ h₃ => ?_) fun _ _ e => e
    obtain ⟨rfl, hJ'⟩ := h₃
    exact ⟨n + 1 - (i + 1), by omega, i + 1, hlt, rfl, hJ'⟩
  · have hin : i = n := by omega
    subst hin
    refine wpAny_pyNext_range_end hh hit (by omega) fun h₁ he₁ => wpAny_execs_nil ?_
    exact R.fin s' h₁ hJ he₁
end
end

section
open PySem PyProof.Rows
set_option linter.unusedVariables false
set_option maxRecDepth 100000

/-- sums of one total, put to a set -/
def addAll (t : Int) (cs : List Int) (ks : List Int) : List Int := cs.foldl (fun ks c => put (t + c) ks) ks
def sumsOf (cs : List Int) (ts : List Int) (ks : List Int) : List Int := ts.foldl (fun ks t => addAll t (cs.filter fun c => decide (c ≤ 20 - t)) ks) ks

structure Keys (ks : List Int) : Prop where
  nd : ks.Nodup
  lo : ∀ k ∈ ks, 0 ≤ k
  hi : ∀ k ∈ ks, k ≤ 20

theorem mem_put {v k : Int} {ks : List Int} : v ∈ put k ks ↔ v = k ∨ v ∈ ks := by
  unfold put
  cases h : ks.contains k with
  | true =>
    rw [if_pos rfl]
    have hk : k ∈ ks := by simpa using h
    exact ⟨.inr, fun e => e.elim (fun e => e ▸ hk) id⟩
  | false => rw [if_neg (by decide)]; exact List.mem_cons
theorem Keys.put {k : Int} {ks : List Int} (h : Keys ks) (h0 : 0 ≤ k) (h1 : k ≤ 20) : Keys (put k ks) := by
  refine ⟨?_, fun v hv => ?_, fun v hv => ?_⟩
  · unfold Mine.put
    cases hc : ks.contains k with
    | true => rw [if_pos rfl]; exact h.nd
    | false =>
      rw [if_neg (by decide)]
      have hk : k ∉ ks := fun hm => by
        have : ks.contains k = true := by simpa using hm
        rw [hc] at this; cases this
      exact List.nodup_cons.mpr ⟨hk, h.nd⟩
  · rcases mem_put.mp hv with rfl | hv
    · exact h0
    · exact h.lo v hv
  · rcases mem_put.mp hv with rfl | hv
    · exact h1
    · exact h.hi v hv
theorem Keys.len {ks : List Int} (h : Keys ks) : ks.length ≤ 21 := by
  have hs : ks ⊆ (List.range 21).map fun n : Nat => (n : Int) := fun k hk => by
    refine List.mem_map.mpr ⟨k.toNat, List.mem_range.mpr ?_, ?_⟩
    · have := h.lo k hk; have := h.hi k hk; omega
    · have := h.lo k hk; omega
  have := h.nd.length_le_of_subset hs
  simpa using this
theorem Keys.nil : Keys [] := ⟨List.nodup_nil, fun _ h => (nomatch h), fun _ h => (nomatch h)⟩
theorem mem_addAll {v t : Int} : ∀ {cs ks : List Int}, v ∈ addAll t cs ks ↔ v ∈ ks ∨ ∃ c ∈ cs, v = t + c
  | [], ks => by simp [addAll]
  | c :: cs, ks => by
    show v ∈ addAll t cs (put (t + c) ks) ↔ _
    rw [mem_addAll, mem_put]
    constructor
    · rintro ((rfl | h) | ⟨d, hd, rfl⟩)
      · exact .inr ⟨c, List.mem_cons_self, rfl⟩
      · exact .inl h
      · exact .inr ⟨d, List.mem_cons_of_mem _ hd, rfl⟩
    · rintro (h | ⟨d, hd, rfl⟩)
      · exact .inl (.inr h)
      · rcases List.mem_cons.mp hd with rfl | hd
        · exact .inl (.inl rfl)
        · exact .inr ⟨d, hd, rfl⟩
theorem keys_addAll {t : Int} (ht : 0 ≤ t) : ∀ {cs ks : List Int}, Keys ks → (∀ c ∈ cs, 0 ≤ c ∧ c ≤ 20 - t) → Keys (addAll t cs ks)
  | [], ks, h, _ => h
  | c :: cs, ks, h, hc => by
    have h1 := hc c List.mem_cons_self
    show Keys (addAll t cs (Mine.put (t + c) ks))
    exact keys_addAll ht (h.put (by omega) (by omega)) fun d hd => hc d (List.mem_cons_of_mem _ hd)
theorem mem_sumsOf {v : Int} {cs : List Int} : ∀ {ts ks : List Int}, v ∈ sumsOf cs ts ks ↔ v ∈ ks ∨ ∃ t ∈ ts, ∃ c ∈ cs, c ≤ 20 - t ∧ v = t + c
  | [], ks => by simp [sumsOf]
  | t :: ts, ks => by
    show v ∈ sumsOf cs ts (addAll t (cs.filter fun c => decide (c ≤ 20 - t)) ks) ↔ _
    rw [mem_sumsOf, mem_addAll]
    constructor
    · rintro ((h | ⟨c, hc, rfl⟩) | ⟨u, hu, c, hc, h1, h2⟩)
      · exact .inl h
      · have := List.mem_filter.mp hc
        exact .inr ⟨t, List.mem_cons_self, c, this.1, by simpa using this.2, rfl⟩
      · exact .inr ⟨u, List.mem_cons_of_mem _ hu, c, hc, h1, h2⟩
    · rintro (h | ⟨u, hu, c, hc, h1, h2⟩)
      · exact .inl (.inl h)
      · rcases List.mem_cons.mp hu with rfl | hu
        · exact .inl (.inr ⟨c, List.mem_filter.mpr ⟨hc, by simpa using h1⟩, h2⟩)
        · exact .inr ⟨u, hu, c, hc, h1, h2⟩
theorem keys_sumsOf {cs : List Int} (hc : ∀ c ∈ cs, 0 ≤ c) : ∀ {ts ks : List Int}, (∀ t ∈ ts, 0 ≤ t) → Keys ks → Keys (sumsOf cs ts ks)
  | [], ks, _, h => h
  | t :: ts, ks, ht, h => by
    show Keys (sumsOf cs ts (addAll t (cs.filter fun c => decide (c ≤ 20 - t)) ks))
    refine keys_sumsOf hc (fun u hu => ht u (List.mem_cons_of_mem _ hu)) (keys_addAll (ht t List.mem_cons_self) h fun c h1 => ?_)
    have := List.mem_filter.mp h1
    exact ⟨hc c this.1, by simpa using this.2⟩

/-- one group's worths put to the sums: what is reached up to 20 -/
def stepR (R cs : List Nat) : List Nat := (List.range 21).filter fun v => R.any fun t => cs.any fun c => t + c == v
def worths (tw n : Nat) : List Nat := (List.range (6 - tw)).map fun k => n * sc tw k
def reachR (tw : Nat) (ns : List Nat) : List Nat := ns.foldl (fun R n => stepR R (worths tw n)) [0]
def asInts (l : List Nat) : List Int := l.map fun n : Nat => (n : Int)

theorem step_sorted {R cs : List Nat} {ns : List Int} (hp : ns.Perm (sumsOf (asInts cs) (asInts R) [])) (hs : ns.Pairwise (· ≤ ·)) : ns = asInts (stepR R cs) := by
  have hK : Keys (sumsOf (asInts cs) (asInts R) []) := keys_sumsOf (fun c h => by obtain ⟨n, _, rfl⟩ := List.mem_map.mp h; omega) (fun c h => by obtain ⟨n, _, rfl⟩ := List.mem_map.mp h; omega) Keys.nil
  have h1 : (stepR R cs).Pairwise (· < ·) := List.pairwise_lt_range.filter _
  have h2 : (asInts (stepR R cs)).Pairwise (· < ·) := h1.map _ fun a b h => by omega
  refine PySem.W.ksm_same ?_ hs (h2.imp fun h => Int.le_of_lt h)
  refine (List.perm_ext_iff_of_nodup (hp.nodup_iff.mpr hK.nd) (h2.imp fun h => Int.ne_of_lt h)).mpr fun v => ?_
  rw [hp.mem_iff, mem_sumsOf]
  constructor
  · rintro (h | ⟨t, ht, c, hc, h1, rfl⟩)
    · exact nomatch h
    · obtain ⟨t', ht', rfl⟩ := List.mem_map.mp ht
      obtain ⟨c', hc', rfl⟩ := List.mem_map.mp hc
      refine List.mem_map.mpr ⟨t' + c', List.mem_filter.mpr ⟨List.mem_range.mpr (by omega), ?_⟩, by omega⟩
      simp only [List.any_eq_true, beq_iff_eq]
      exact ⟨t', ht', c', hc', rfl⟩
  · intro h
    obtain ⟨n, hn, rfl⟩ := List.mem_map.mp h
    obtain ⟨h1, h2⟩ := List.mem_filter.mp hn
    simp only [List.any_eq_true, beq_iff_eq] at h2
    obtain ⟨t, ht, c, hc, rfl⟩ := h2
    have := List.mem_range.mp h1
    exact .inr ⟨t, List.mem_map.mpr ⟨t, ht, rfl⟩, c, List.mem_map.mpr ⟨c, hc, rfl⟩, by omega, by omega⟩
theorem reach_snoc (tw : Nat) (ns : List Nat) (n : Nat) : reachR tw (ns ++ [n]) = stepR (reachR tw ns) (worths tw n) := by
  unfold reachR; rw [List.foldl_append]; rfl
theorem reach_small (tw : Nat) : ∀ ns : List Nat, (∀ v ∈ reachR tw ns, v ≤ 20) ∧ (reachR tw ns).length ≤ 21 := by
  intro ns
  rcases List.eq_nil_or_concat ns with rfl | ⟨ns, n, rfl⟩
  · exact ⟨fun v hv => by simp [reachR] at hv; omega, by simp [reachR]⟩
  · rw [List.concat_eq_append, reach_snoc]
    refine ⟨fun v hv => ?_, ?_⟩
    · have := List.mem_range.mp (List.mem_filter.mp hv).1; omega
    · have := List.length_filter_le (fun v => (reachR tw ns).any fun t => (worths tw n).any fun c => t + c == v) (List.range 21)
      rw [List.length_range] at this; exact this
/-- the worths up to a bound stand first: they rise -/
theorem take_is_filter {ns : List Int} {x : Int} {k : Nat} (h1 : ∀ i n, i < k → ns[i]? = some n → n ≤ x) (h2 : ∀ i n, k ≤ i → ns[i]? = some n → x < n) : ns.take k = ns.filter fun n => decide (n ≤ x) := by
  have e : ns = ns.take k ++ ns.drop k := (List.take_append_drop k ns).symm
  have f1 : (ns.take k).filter (fun n => decide (n ≤ x)) = ns.take k := by
    rw [List.filter_eq_self]
    intro n hn
    obtain ⟨i, hi⟩ := List.getElem?_of_mem hn
    rw [List.getElem?_take] at hi
    split at hi
    · rename_i hlt; simpa using h1 i n hlt hi
    · cases hi
  have f2 : (ns.drop k).filter (fun n => decide (n ≤ x)) = [] := by
    rw [List.filter_eq_nil_iff]
    intro n hn
    obtain ⟨i, hi⟩ := List.getElem?_of_mem hn
    rw [List.getElem?_drop] at hi
    have := h2 (k + i) n (by omega) hi
    simp; omega
  conv => rhs; rw [e, List.filter_append, f1, f2, List.append_nil]
theorem sc_mono (tw : Nat) : ∀ k, sc tw k ≤ sc tw (k + 1) := fun k => by show sc tw k ≤ (1 + tw) * k + 1 + sc tw k; omega
theorem sc_le (tw : Nat) {i j : Nat} (h : i ≤ j) : sc tw i ≤ sc tw j := by
  induction j with
  | zero => rw [show i = 0 from by omega]; exact Nat.le_refl _
  | succ j ih =>
    by_cases e : i = j + 1
    · rw [e]; exact Nat.le_refl _
    · exact Nat.le_trans (ih (by omega)) (sc_mono tw j)
theorem worths_rise (tw n : Nat) : (asInts (worths tw n)).Pairwise (· ≤ ·) := by
  unfold asInts worths
  rw [List.map_map, List.pairwise_map]
  refine List.pairwise_lt_range.imp fun {a b} h => ?_
  have := Nat.mul_le_mul_left n (sc_le tw (Nat.le_of_lt h))
  show ((n * sc tw a : Nat) : Int) ≤ ((n * sc tw b : Nat) : Int)
  omega
theorem worths_len (tw n : Nat) : (asInts (worths tw n)).length = 6 - tw := by simp [asInts, worths]
theorem asInts_nonneg (l : List Nat) : ∀ c ∈ asInts l, 0 ≤ c := fun c h => by obtain ⟨n, _, rfl⟩ := List.mem_map.mp h; omega
end

section
open PySem PySem.W PyProof.Rows PySem.Calls
set_option maxRecDepth 100000

/-- a set's object -/
def SetObj (o : Obj) (led : Bool) (ks : List Int) : Prop :=
  ∃ es ep t, o.ExactSet ∧ o.data = .set es ep t ∧ (∀ e ∈ es.toList, ∃ k u, e = (hashInt k, Value.int k u)) ∧ (es.toList.map fun e => numOf e.2).Perm ks ∧ t.fits es.size = true ∧ TabOk t led
theorem SetAt.obj {h : Heap} {a : Addr} {led : Bool} {ks : List Int} (x : SetAt h a led ks) : ∃ o, h.get? a = some o ∧ SetObj o led ks :=
  let ⟨o, es, ep, t, ho, r⟩ := x; ⟨o, ho, es, ep, t, r⟩
theorem SetObj.at {h : Heap} {a : Addr} {o : Obj} {led : Bool} {ks : List Int} (x : SetObj o led ks) (ho : h.get? a = some o) : SetAt h a led ks :=
  let ⟨es, ep, t, r⟩ := x; ⟨o, es, ep, t, ho, r⟩
theorem SetObj.cls {o : Obj} {led : Bool} {ks : List Int} (x : SetObj o led ks) : o.cls = .type "set" := let ⟨_, _, _, r, _⟩ := x; r.1

/-- the addresses of a ledger keep off one address -/
def Sep (a : Addr) (news : List (Addr × Obj)) : Prop := ∀ p ∈ news, p.1 ≠ a

/-- contract of a call that may draw -/
abbrev TellD (w : World) (n : Nat) (f : Addr) (vs : List Value) (Pre : Shared → Prop) (Post : Heap → Value → Heap → Prop) : Prop :=
  ∀ (loose : List Str) (mean : ExcName → Option Value) (mg mb : Str → Option Value) (dp un : Nat) (gd : Option (List Code)) (cn : Str) (cs : Scope) (a : Addr) (ccd : Value) (cl : List (Str × Addr)) (outer : List Env) (A₀ : Around) (base h₀ : Heap) (L : Addr) (m : Str → Option Value) (s : Shared) (Q E : Value → Shared → Prop),
    Below A₀ base outer h₀ → Fr h₀ L s.heap m → (hd.heap_39 w.params).In h₀ → Top topProg loose mean mg mb h₀ → cs.kind = .function → dp + n < recursionLimit → un + 20 * n < cLine → Pre s →
      (∀ d (v : Value) (h' : Heap) (tk' : Nat), Ext s.heap h' → Post s.heap v h' → Q v { s with heap := h', toks := tk', drawn := d }) →
      wpAny (model PG w) (ktrTop dp un gd cn cs L a ccd cl outer) (call (.ref f) vs) Q E s
theorem mc_leaveD {w : World} {Q E : Value → Shared → Prop} {s : Shared} {d : _} {g h h₀ : Heap} {L L' : Addr} {m m' : Str → Option Value} {news : List (Addr × Obj)} {v : Value} {tk : Nat} {Post : Heap → Value → Heap → Prop}
    (hret : ∀ d (v : Value) (h' : Heap) (tk' : Nat), Ext s.heap h' → Post s.heap v h' → Q v { s with heap := h', toks := tk', drawn := d }) (kE : Ext s.heap g) (F : Fr g L' h m') (N : News g L' h news) (hp : Post s.heap v h) :
    LeaveK h₀ L m g (fun r s' => match r with | .ok (.ret v) => Q v s' | .ok _ => False | .error e => E e s') v { s with heap := h, toks := tk, drawn := d } :=
  leaveK_ F N fun _ _ => hret d v h tk (fun b o e => F.keep b o (kE b o e)) hp
theorem call_useD {w : World} {n : Nat} {f : Addr} {vs : List Value} {Pre : Shared → Prop} {Post : Heap → Value → Heap → Prop} (C : TellD w n f vs Pre Post)
    {loose : List Str} {mean : ExcName → Option Value} {mg mb : Str → Option Value} {dp un : Nat} {gd : Option (List Code)} {cn : Str} {cs : Scope} {a : Addr} {ccd : Value} {cl : List (Str × Addr)} {outer : List Env} {A₀ : Around} {base h₀ : Heap} {L : Addr} {m : Str → Option Value} {s : Shared} {news : List (Addr × Obj)} {Q E : Value → Shared → Prop}
    (B : Below A₀ base outer h₀) (F : Fr h₀ L s.heap m) (X : (hd.heap_39 w.params).In h₀) (N : News h₀ L s.heap news) (T : Top topProg loose mean mg mb h₀) (hk : cs.kind = .function) (hd : dp + n < recursionLimit) (hu : un + 20 * n < cLine) (hp : Pre s)
    (h : ∀ d (v : Value) (h' : Heap) (tk' : Nat), Ext s.heap h' → Post s.heap v h' → Fr h₀ L h' m → News h₀ L h' news → Q v { s with heap := h', toks := tk', drawn := d }) :
    wpAny (model PG w) (ktrTop dp un gd cn cs L a ccd cl outer) (call (.ref f) vs) Q E s :=
  C loose mean mg mb dp un gd cn cs a ccd cl outer A₀ base h₀ L m s Q E B F X T hk hd hu hp fun s' v h' tk' k hq => h s' v h' tk' k hq (F.kept k) fun p hp => ⟨k _ _ (N p hp).1, (N p hp).2⟩

section
variable {prog : Program} {w : World} {A : Around} {E : Value → Shared → Prop} {s : Shared} {h₀ : Heap} {L a : Addr} {m : Str → Option Value} {news rest : List (Addr × Obj)} {o : Obj} {led : Bool} {ks : List Int}

theorem set_made {Q : Value → Shared → Prop} (F : Fr h₀ L s.heap m) (N : News h₀ L s.heap news)
    (h : ∀ a o h', SetObj o (!(w.params.followText "set-order")) [] → Sep a news → Fr h₀ L h' m → News h₀ L h' ((a, o) :: news) → Q (.ref a) { s with heap := h', toks := s.toks }) :
    wpAny (model prog w) A (call (.type "set") []) Q E s := by
  refine call_new fun h' hk hn hS hsz => ?_
  obtain ⟨o, ho, hO⟩ := hS.obj
  refine h _ o h' hO (fun p hp e => ?_) (F.kept hk) fun p hp => ?_
  · have := (N p hp).1; rw [e, hn] at this; cases this
  · rcases List.mem_cons.mp hp with rfl | hp
    · refine ⟨ho, fun e => ?_, ?_⟩
      · have h1 := F.ns.lt
        have e' : s.heap.objs.size = L := e
        exact absurd h1 (e' ▸ Nat.lt_irrefl _)
      · cases q : h₀.get? s.heap.objs.size with
        | none => rfl
        | some x => have := F.keep _ _ q; rw [hn] at this; cases this
    · exact ⟨hk _ _ (N p hp).1, (N p hp).2⟩

theorem set_method {pl : Sem Bool} {Q : Value × List Value → Shared → Prop} (N : News h₀ L s.heap news) (hm : (a, o) ∈ news) (ho : SetObj o led ks) (h : Q (.builtin "set.add", [.ref a]) s) :
    wpAny (model prog w) A (getMethod (.ref a) "add" pl) Q E s := method_add (ho.at (N _ hm).1) h

theorem set_put {k : Int} {u : Tok} {Q : Value → Shared → Prop} (F : Fr h₀ L s.heap m) (N : News h₀ L s.heap ((a, o) :: rest)) (sp : Sep a rest) (ho : SetObj o led ks) (hK : Keys ks) (hk0 : 0 ≤ k) (hk1 : k ≤ 20)
    (h : ∀ o' h' tk', SetObj o' led (put k ks) → Keys (put k ks) → Fr h₀ L h' m → News h₀ L h' ((a, o') :: rest) → Q .none { s with heap := h', toks := tk' }) :
    wpAny (model prog w) A (call (.builtin "set.add") [.ref a, .int k u]) Q E s := by
  have ha := N (a, o) List.mem_cons_self
  refine call_add (ho.at ha.1) (by have := hK.len; omega) fun h' hsb hS => ?_
  obtain ⟨o', ho', hO⟩ := hS.obj
  refine h o' h' _ hO (hK.put hk0 hk1) (F.change hsb ha.2.1 ha.2.2) fun p hp => ?_
  rcases List.mem_cons.mp hp with rfl | hp
  · exact ⟨ho', ha.2⟩
  · have := N p (List.mem_cons_of_mem _ hp)
    exact ⟨(hsb.2 p.1 (sp p hp)).trans this.1, this.2⟩

theorem set_sorted {Q : Value → Shared → Prop} (hh : A.handled = none) (F : Fr h₀ L s.heap m) (N : News h₀ L s.heap news) (hm : (a, o) ∈ news) (ho : SetObj o (!(w.params.followText "set-order")) ks) (hK : Keys ks)
    (h : ∀ d (h' : Heap) (tk' : Nat) (l : Addr) (out : Array Value) (n : Nat) (ns : List Int), IntsAre out.toList ns → ns.Perm ks → ns.Pairwise (· ≤ ·) → Sep l news → Fr h₀ L h' m → News h₀ L h' ((l, listOf out n) :: news) → Q (.ref l) { s with heap := h', toks := tk', drawn := d }) :
    wpAny (model prog w) A (call (.builtin "sorted") [.ref a]) Q E s := by
  refine call_sorted hh (ho.at (N _ hm).1) rfl (by have := hK.len; omega) fun s' h' tk' l out ns hk ⟨n, hl⟩ hn hi hp hs => ?_
  refine h s' h' tk' l out n ns hi hp hs (fun p hp e => ?_) (F.kept hk) fun p hp => ?_
  · have := (N p hp).1; rw [e, hn] at this; cases this
  · rcases List.mem_cons.mp hp with rfl | hp
    · refine ⟨hl, fun e => ?_, ?_⟩
      · obtain ⟨oL, _, _, hL, _⟩ := F.ns
        have e' : l = L := e
        rw [← e', hn] at hL; cases hL
      · cases q : h₀.get? l with
        | none => rfl
        | some x => have := F.keep _ _ q; rw [hn] at this; cases this
    · exact ⟨hk _ _ (N p hp).1, (N p hp).2⟩
end

section
variable {prog : Program} {w : World} {A : Around} {E : Value → Shared → Prop} {s : Shared} {env : Env} {h₀ : Heap} {x y : Str} {body : List Stmt} {Q : Flow → Shared → Prop} {l a : Addr} {its : Array Value} {nn : Nat} {o : Obj} {led : Bool} {ks : List Int} {m₀ : Str → Option Value} {rest : List (Addr × Obj)}

/-- the worths put to one total -/
theorem add_loop {cs : List Int} {t : Int} (hh : A.handled = none) (F : Fr h₀ env.locals s.heap m₀) (N : News h₀ env.locals s.heap ((a, o) :: rest)) (hl : (l, listOf its nn) ∈ rest) (hi : IntsAre its.toList cs) (sp : Sep a rest) (ho : SetObj o led ks) (hK : Keys ks) (ht : 0 ≤ t) (hc : ∀ c ∈ cs, 0 ≤ c ∧ c ≤ 20 - t)
    (turn : ∀ (n : Int) (tn : Tok) (o : Obj) (ks : List Int) (h : Heap) (tk : Nat) (own : List (Addr × Obj)), 0 ≤ n → 0 ≤ t + n → t + n ≤ 20 → Sep a (rest ++ own) → SetObj o led ks → Keys ks → Fr h₀ env.locals h (fun z => if z = x then some (.int n tn) else m₀ z) → News h₀ env.locals h ((a, o) :: (rest ++ own)) →
      wpAny (model prog w) A (execs body env) (InvPostN h₀ env.locals (fun m' nx => (∃ o', nx = (a, o') :: rest ∧ SetObj o' led (put (t + n) ks)) ∧ ∀ z, z ≠ x → m' z = m₀ z) own (a :: rest.map (·.1)) { s with heap := h, toks := tk } Q) E { s with heap := h, toks := tk })
    (done : ∀ (u : Str → Option Value) o h tk, SetObj o led (addAll t cs ks) → Keys (addAll t cs ks) → Fr h₀ env.locals h (fun z => if z = x then u z else m₀ z) → News h₀ env.locals h ((a, o) :: rest) → Q .next { s with heap := h, toks := tk }) :
    wpAny (model prog w) A (pyIter (.ref l)) (fun it s₂ => LoopAtV prog w A h₀ env x body Q E it s₂) E s := by
  have hkeys : ∀ i, Keys (addAll t (cs.take i) ks) := fun i => keys_addAll ht hK fun c h => hc c (List.mem_of_mem_take h)
  refine iter_invNL (vs := its.toList) (fun i m nx => (∃ o, nx = (a, o) :: rest ∧ SetObj o led (addAll t (cs.take i) ks)) ∧ ∀ z, z ≠ x → m z = m₀ z) hh (List.mem_cons_of_mem _ hl) hi F N ⟨⟨o, rfl, by simpa [addAll] using ho⟩, fun _ _ => rfl⟩ ?_ ?_
  · rintro i n tn m₁ news₁ h tk own hn _ hsep _ ⟨⟨o, rfl, ho⟩, hm⟩ F₁ N₁
    have e : (fun z => if z = x then some (Value.int n tn) else m₁ z) = fun z => if z = x then some (Value.int n tn) else m₀ z := by
      funext z
      by_cases h1 : z = x
      · simp [h1]
      · simp only [if_neg h1]; exact hm z h1
    rw [e] at F₁
    have hs : addAll t (cs.take (i + 1)) ks = put (t + n) (addAll t (cs.take i) ks) := by
      unfold addAll
      rw [List.take_add_one, hn]; simp
    have hcn := hc n (List.mem_of_getElem? hn)
    have sp' : Sep a (rest ++ own) := fun p hp => by
      rcases List.mem_append.mp hp with hp | hp
      · exact sp p hp
      · exact hsep p hp a (by simp)
    have := turn n tn o _ h tk own hcn.1 (by omega) (by omega) sp' ho (hkeys i) F₁ (by simpa using N₁)
    refine wpAny_mono this (fun f s₂ hq => ?_) fun _ _ e => e
    have conv : InvEndN h₀ env.locals (fun m' nx => (∃ o', nx = (a, o') :: rest ∧ SetObj o' led (put (t + n) (addAll t (cs.take i) ks))) ∧ ∀ z, z ≠ x → m' z = m₀ z) own (a :: rest.map (·.1)) { s with heap := h, toks := tk } s₂ →
        InvEndN h₀ env.locals (fun m' nx => (l, listOf its.toList.toArray nn) ∈ nx ∧ (∃ o, nx = (a, o) :: rest ∧ SetObj o led (addAll t (cs.take (i + 1)) ks)) ∧ ∀ z, z ≠ x → m' z = m₀ z) own (((a, o) :: rest).map (·.1)) { s with heap := h, toks := tk } s₂ := by
      rintro ⟨h', tk', m', news', nx, e1, e2, e3, e4, e5, e6, ⟨⟨o', e7, e8⟩, e9⟩⟩
      exact ⟨h', tk', m', news', nx, e1, e2, e3, e4, e5, e6, by rw [e7]; exact List.mem_cons_of_mem _ hl, ⟨o', e7, by rw [hs]; exact e8⟩, e9⟩
    cases f with
    | ret v => exact hq
    | brk => exact hq
    | next => exact conv hq
    | cont => exact conv hq
  · rintro m₁ news₁ h tk _ ⟨⟨o, rfl, ho⟩, hm⟩ F₁ N₁
    rw [List.take_length] at ho
    refine done m₁ o h tk ho (by have := hkeys cs.length; rwa [List.take_length] at this) ?_ N₁
    have e : (fun z => if z = x then m₁ z else m₀ z) = m₁ := by
      funext z
      by_cases h1 : z = x
      · simp [h1]
      · simp only [if_neg h1]; exact (hm z h1).symm
    rw [e]; exact F₁

/-- all totals -/
theorem tot_loop {cs ts : List Int} (hh : A.handled = none) (F : Fr h₀ env.locals s.heap m₀) (N : News h₀ env.locals s.heap ((a, o) :: rest)) (hl : (l, listOf its nn) ∈ rest) (hi : IntsAre its.toList ts) (sp : Sep a rest) (ho : SetObj o led []) (ht : ∀ t ∈ ts, 0 ≤ t) (hc : ∀ c ∈ cs, 0 ≤ c)
    (turn : ∀ (t : Int) (tt : Tok) (u : Str → Option Value) (o : Obj) (ks : List Int) (h : Heap) (tk : Nat) (own : List (Addr × Obj)), 0 ≤ t → Sep a (rest ++ own) → SetObj o led ks → Keys ks → Fr h₀ env.locals h (fun z => if z = x then some (.int t tt) else if z = y then u z else m₀ z) → News h₀ env.locals h ((a, o) :: (rest ++ own)) →
      wpAny (model prog w) A (execs body env) (InvPostN h₀ env.locals (fun m' nx => (∃ o', nx = (a, o') :: rest ∧ SetObj o' led (addAll t (cs.filter fun c => decide (c ≤ 20 - t)) ks)) ∧ ∀ z, z ≠ x → z ≠ y → m' z = m₀ z) own (a :: rest.map (·.1)) { s with heap := h, toks := tk } Q) E { s with heap := h, toks := tk })
    (done : ∀ (u : Str → Option Value) o h tk, SetObj o led (sumsOf cs ts []) → Keys (sumsOf cs ts []) → Fr h₀ env.locals h (fun z => if z = x then u z else if z = y then u z else m₀ z) → News h₀ env.locals h ((a, o) :: rest) → Q .next { s with heap := h, toks := tk }) :
    wpAny (model prog w) A (pyIter (.ref l)) (fun it s₂ => LoopAtV prog w A h₀ env x body Q E it s₂) E s := by
  have hkeys : ∀ i, Keys (sumsOf cs (ts.take i) []) := fun i => keys_sumsOf hc (fun c h => ht c (List.mem_of_mem_take h)) Keys.nil
  refine iter_invNL (vs := its.toList) (fun i m nx => (∃ o, nx = (a, o) :: rest ∧ SetObj o led (sumsOf cs (ts.take i) [])) ∧ ∀ z, z ≠ x → z ≠ y → m z = m₀ z) hh (List.mem_cons_of_mem _ hl) hi F N ⟨⟨o, rfl, by simpa [sumsOf] using ho⟩, fun _ _ _ => rfl⟩ ?_ ?_
  · rintro i n tn m₁ news₁ h tk own hn _ hsep _ ⟨⟨o, rfl, ho⟩, hm⟩ F₁ N₁
    have e : (fun z => if z = x then some (Value.int n tn) else m₁ z) = fun z => if z = x then some (Value.int n tn) else if z = y then m₁ z else m₀ z := by
      funext z
      by_cases h1 : z = x
      · simp [h1]
      · simp only [if_neg h1]
        by_cases h2 : z = y
        · simp [h2]
        · simp only [if_neg h2]; exact hm z h1 h2
    rw [e] at F₁
    have hs : sumsOf cs (ts.take (i + 1)) [] = addAll n (cs.filter fun c => decide (c ≤ 20 - n)) (sumsOf cs (ts.take i) []) := by
      unfold sumsOf
      rw [List.take_add_one, hn]; simp
    have hcn := ht n (List.mem_of_getElem? hn)
    have sp' : Sep a (rest ++ own) := fun p hp => by
      rcases List.mem_append.mp hp with hp | hp
      · exact sp p hp
      · exact hsep p hp a (by simp)
    have := turn n tn m₁ o _ h tk own hcn sp' ho (hkeys i) F₁ (by simpa using N₁)
    refine wpAny_mono this (fun f s₂ hq => ?_) fun _ _ e => e
    have conv : InvEndN h₀ env.locals (fun m' nx => (∃ o', nx = (a, o') :: rest ∧ SetObj o' led (addAll n (cs.filter fun c => decide (c ≤ 20 - n)) (sumsOf cs (ts.take i) []))) ∧ ∀ z, z ≠ x → z ≠ y → m' z = m₀ z) own (a :: rest.map (·.1)) { s with heap := h, toks := tk } s₂ →
        InvEndN h₀ env.locals (fun m' nx => (l, listOf its.toList.toArray nn) ∈ nx ∧ (∃ o, nx = (a, o) :: rest ∧ SetObj o led (sumsOf cs (ts.take (i + 1)) [])) ∧ ∀ z, z ≠ x → z ≠ y → m' z = m₀ z) own (((a, o) :: rest).map (·.1)) { s with heap := h, toks := tk } s₂ := by
      rintro ⟨h', tk', m', news', nx, e1, e2, e3, e4, e5, e6, ⟨⟨o', e7, e8⟩, e9⟩⟩
      exact ⟨h', tk', m', news', nx, e1, e2, e3, e4, e5, e6, by rw [e7]; exact List.mem_cons_of_mem _ hl, ⟨o', e7, by rw [hs]; exact e8⟩, e9⟩
    cases f with
    | ret v => exact hq
    | brk => exact hq
    | next => exact conv hq
    | cont => exact conv hq
  · rintro m₁ news₁ h tk _ ⟨⟨o, rfl, ho⟩, hm⟩ F₁ N₁
    rw [List.take_length] at ho
    refine done m₁ o h tk ho (by have := hkeys ts.length; rwa [List.take_length] at this) ?_ N₁
    have e : (fun z => if z = x then m₁ z else if z = y then m₁ z else m₀ z) = m₁ := by
      funext z
      by_cases h1 : z = x
      · simp [h1]
      · simp only [if_neg h1]
        by_cases h2 : z = y
        · simp [h2]
        · simp only [if_neg h2]; exact (hm z h1 h2).symm
    rw [e]; exact F₁
end
end

section
open PySem PySem.W PyProof.Rows PySem.Calls
set_option maxRecDepth 100000
local macro_rules | `(tactic| walk_at "mc cells") => `(tactic| (refine' enter_cells ?k1 ?k2 ?k3 ?k5 ?kA ?kF ?kK ?k6 ?k7 ?k8 ?k9 ?kB ?kD ?_ ?c2 ?c3 ?c4; (case kA => exact rfl); (case kF => exact rfl); (case kK => assumption); (case k1 => k_asm); (case k2 => k_asm); (case k3 => k_asm); (case k5 => k_asm); (case k6 => k_is); (case k7 => k_is); (case k8 => ktr_room); (case k9 => first | exact BindsTo.of_eq rfl | exact binds_K (by k_in) rfl (by k_is) rfl rfl rfl | (refine' kp_binds ?kx ?ke; (case kx => k_in); (case ke => exact fun _ => rfl))); (case kB => exact rfl); (case kD => decide +kernel); (case c2 => exact rfl); (case c3 => exact rfl); (case c4 => exact rfl); k_whole))

/-- the pages at hand: the groups of each, and where one is looked up -/
structure ReachIn (tw : Nat) (ns : List Nat) (its : Array Value) : Prop where
  htw : tw ≤ 1
  hlen : ns.length ≤ 4
  hne : ns ≠ []
  hsmall : ∀ n ∈ ns, n ≤ 10
  txts : StrsAre its.toList ((List.range (6 - tw)).map fun k => pageS tw k ns)

/-- a place of the groups -/
def PlaceAt (ns : List Nat) (i n : Nat) : Prop := ns[i]? = some n

def ReachJ (s₀ : Shared) (h₀ : Heap) (L I c : Addr) (pv : Value) (tw : Nat) (ns : List Nat) (i : Nat) (s' : Shared) : Prop :=
  ∃ l out nn oc v m, IsRangeIter s'.heap I (i : Nat) ((ns.length : Int) - (i : Nat)) 1 ∧ Fr h₀ L s'.heap m ∧ News h₀ L s'.heap [(l, listOf out nn), (c, oc)] ∧ oc.data = .cell v ∧ IntsAre out.toList (asInts (reachR tw (ns.take i))) ∧
    m (Str.ofString "pages") = some pv ∧ m (Str.ofString "reached") = some (.ref l) ∧ s'.gens = s₀.gens ∧ s'.os = s₀.os

section
variable {prog : Program} {w : World} {A : Around} {E : Value → Shared → Prop} {env : Env} {x : Str} {px : Pos} {body : List Stmt} {Q : Flow → Shared → Prop} {h₀ : Heap} {m : Str → Option Value} {news : List (Addr × Obj)}

theorem reach_src {s₁ : Shared} {r lp l c : Addr} {t u v : Tok} {tw n0 : Nat} {ns : List Nat} {its : Array Value} {t0 : Tok} {oc : Obj} {vc : Option Value} (hR : ReachIn tw ns its) (_hl : h₀.IsList lp its) (F : Fr h₀ env.locals s₁.heap m) (N : News h₀ env.locals s₁.heap news) (hr : IsRange s₁.heap r 0 (ns.length : Int) 1 t u v)
    (hcd : oc.data = .cell vc) (hc : (c, oc) ∈ news) (hm0 : (l, listOf #[.int 0 t0] n0) ∈ news) (hm1 : m (Str.ofString "pages") = some (.ref lp)) (hm2 : m (Str.ofString "reached") = some (.ref l))
    (turn : ∀ (i : Nat) (n : Nat) d (h' : Heap) (tk' : Nat) (t : Tok) (I l : Addr) (it oc : Obj) (v : Option Value) (out : Array Value) (nn : Nat) (u : Str → Option Value), PlaceAt ns i n → oc.data = .cell v → IntsAre out.toList (asInts (reachR tw (ns.take i))) → I ≠ l → I ≠ c → l ≠ c →
      Fr h₀ env.locals h' (fun z => if z = Str.ofString "pages" then some (.ref lp) else if z = Str.ofString "reached" then some (.ref l) else u z) → News h₀ env.locals h' [(I, it), (l, listOf out nn), (c, oc)] →
      wpAny (model prog w) A (assign (.Name x px) env (.int (i : Nat) t)) (fun _ s₂ => wpAny (model prog w) A (execs body env) (TurnEnd fun s₃ => (∃ l out nn oc v m, s₃.heap.get? I = some it ∧ Fr h₀ env.locals s₃.heap m ∧ News h₀ env.locals s₃.heap [(l, listOf out nn), (c, oc)] ∧ oc.data = .cell v ∧ IntsAre out.toList (asInts (stepR (reachR tw (ns.take i)) (worths tw n))) ∧
        m (Str.ofString "pages") = some (.ref lp) ∧ m (Str.ofString "reached") = some (.ref l)) ∧ s₃.gens = s₁.gens ∧ s₃.os = s₁.os) E s₂) E { s₁ with heap := h', toks := tk', drawn := d })
    (fin : ∀ d (h' : Heap) (tk' : Nat) (l : Addr) (out : Array Value) (nn : Nat) (u : Str → Option Value), IntsAre out.toList (asInts (reachR tw ns)) →
      Fr h₀ env.locals h' (fun z => if z = Str.ofString "pages" then some (.ref lp) else if z = Str.ofString "reached" then some (.ref l) else u z) → News h₀ env.locals h' [(l, listOf out nn)] → Q .next { s₁ with heap := h', toks := tk', drawn := d }) :
    RSrc prog w A E env x px body Q (.ref r) s₁ := by
  have norm : ∀ {m : Str → Option Value} {l : Addr}, m (Str.ofString "pages") = some (.ref lp) → m (Str.ofString "reached") = some (.ref l) → (fun z => if z = Str.ofString "pages" then some (.ref lp) else if z = Str.ofString "reached" then some (.ref l) else m z) = m := by
    intro m l h1 h2
    funext z
    by_cases e1 : z = Str.ofString "pages"
    · rw [if_pos e1, e1, h1]
    · rw [if_neg e1]
      by_cases e2 : z = Str.ofString "reached"
      · rw [if_pos e2, e2, h2]
      · rw [if_neg e2]
  have hI : ∀ b o, s₁.heap.get? b = some o → b ≠ s₁.heap.objs.size := fun b o e => Nat.ne_of_lt (Heap.lt_size e)
  refine RSrc.intro (ReachJ s₁ h₀ env.locals s₁.heap.objs.size c (.ref lp) tw ns) hr (by have := hR.hlen; omega) ⟨fun h' hit hk => ?_, fun i s' hJ => ?_, fun i s' t h' hi hJ hit hsb => ?_, fun s' h' hJ he => ?_⟩
  · refine ⟨l, #[.int 0 t0], n0, oc, vc, m, by simpa using hit, F.kept hk, fun p hp => ?_, hcd, .cons 0 t0 .nil, hm1, hm2, rfl, rfl⟩
    have hp' : p ∈ news := by
      simp only [List.mem_cons, List.not_mem_nil, or_false] at hp
      rcases hp with rfl | rfl
      · exact hm0
      · exact hc
    exact ⟨hk _ _ (N p hp').1, (N p hp').2⟩
  · obtain ⟨_, _, _, _, _, _, h1, _⟩ := hJ
    exact h1
  · obtain ⟨p2, g2, d2, t2, os2⟩ := s'
    obtain ⟨l, out, nn, oc, v, m, h1, F1, N1, h2, h3, h4, h5, hg2, ho2⟩ := hJ
    have hg' : g2 = s₁.gens := hg2
    have ho' : os2 = s₁.os := ho2
    subst hg' ho'
    have hl0 := N1 (l, listOf out nn) (by simp)
    have hc0 := N1 (c, oc) (by simp)
    have lc : l ≠ c := fun e => by
      have e1 := hl0.1
      rw [e, hc0.1] at e1
      have e2 : oc = listOf out nn := Option.some.inj e1
      rw [e2] at h2; cases h2
    have hIl : s₁.heap.objs.size ≠ l := fun e => by have e1 := hl0.1; rw [← e, h1] at e1; exact absurd (congrArg Obj.cls (Option.some.inj e1)) (show ¬ (Value.type "range_iterator" = Value.type "list") by decide)
    have hIc : s₁.heap.objs.size ≠ c := fun e => by
      have e1 := hc0.1; rw [← e, h1] at e1
      have e2 : oc = _ := (Option.some.inj e1).symm
      rw [e2] at h2; cases h2
    have hIL : s₁.heap.objs.size ≠ env.locals := fun e => absurd F.ns.lt (e ▸ Nat.lt_irrefl _)
    have hIn : h₀.get? s₁.heap.objs.size = none := next_is_new F
    have F2 : Fr h₀ env.locals h' m := F1.change hsb hIL hIn
    have hn : ns[i]? = some ns[i] := by simp [hi]
    refine wpAny_mono (turn i ns[i] d2 h' _ t _ l (itR ((i + 1 : Nat) : Int) ((ns.length : Int) - ((i + 1 : Nat) : Int))) oc v out nn m hn h2 h3 hIl hIc lc (by rw [norm h4 h5]; exact F2) fun p hp => ?_) (fun _ s₂ hq => wpAny_mono hq (fun f s₃ hq => ?_) fun _ _ e => e) fun _ _ e => e
    · simp only [List.mem_cons, List.not_mem_nil, or_false] at hp
      rcases hp with rfl | rfl | rfl
      · exact ⟨hit, hIL, hIn⟩
      · exact ⟨(hsb.2 l (Ne.symm hIl)).trans hl0.1, hl0.2⟩
      · exact ⟨(hsb.2 c (Ne.symm hIc)).trans hc0.1, hc0.2⟩
    · obtain ⟨rfl, ⟨l', out', nn', oc', v', m', g1, g2, g3, g4, g5, g6, g7⟩, g8, g9⟩ := hq
      refine ⟨rfl, l', out', nn', oc', v', m', g1, g2, g3, g4, ?_, g6, g7, g8, g9⟩
      rw [List.take_add_one, hn]
      show IntsAre _ (asInts (reachR tw (ns.take i ++ [ns[i]])))
      rw [reach_snoc]; exact g5
  · obtain ⟨p2, g2, d2, t2, os2⟩ := s'
    obtain ⟨l, out, nn, oc, v, m, h1, F1, N1, h2, h3, h4, h5, hg2, ho2⟩ := hJ
    have hg' : g2 = s₁.gens := hg2
    have ho' : os2 = s₁.os := ho2
    subst hg' ho'
    have hl0 := N1 (l, listOf out nn) (by simp)
    have hIl : l ≠ s₁.heap.objs.size := fun e => by have e1 := hl0.1; rw [e, h1] at e1; exact absurd (congrArg Obj.cls (Option.some.inj e1)) (show ¬ (Value.type "range_iterator" = Value.type "list") by decide)
    rw [List.take_length] at h3
    have hIL : s₁.heap.objs.size ≠ env.locals := fun e => absurd F.ns.lt (e ▸ Nat.lt_irrefl _)
    refine fin d2 h' t2 l out nn m h3 (by rw [norm h4 h5]; exact ⟨F1.ns.extBut he (Ne.symm hIL), fun b o e => he b o (fun eb => by rw [eb, next_is_new F] at e; cases e) (F1.keep b o e), F1.above⟩) fun p hp => ?_
    · rw [List.mem_singleton.mp hp]
      exact ⟨he _ _ hIl hl0.1, hl0.2⟩
end

section
variable {prog : Program} {w : World} {A : Around} {h₀ : Heap} {L : Addr} {m : Str → Option Value} {env : Env} {elt : Expr} {x : Str} {scope : Scope} {cl : List (Str × Addr)} {news : List (Addr × Obj)}
theorem counts_src {s₁ : Shared} {Fin : Shared → List Value → List (Addr × Obj) → Prop} {l : Addr} {its : Array Value} {ns : List Nat} {tw i n : Nat} (hR : ReachIn tw ns its) (_hp : PlaceAt ns i n) (hh : A.handled = none) (F : Fr h₀ L s₁.heap m) (N : News h₀ L s₁.heap news) (hl : h₀.IsList l its)
    (turn : ∀ (k : Nat) ti I oI C oC D m₂ ys h tk (E' : Value → Shared → Prop), k < 6 - tw → LCg.NsObj oC m₂ → m₂ x = some (.str (pageS tw k ns) ti) → Fr h₀ L h m → News h₀ L h ((I, oI) :: (C, oC) :: (D, LCg.lst ys) :: news) → LCg.Off3 I C D news → ((@Ne Nat I C) ∧ (@Ne Nat I D) ∧ (@Ne Nat C D)) →
      wpAny (model prog w) A (eval elt (compEnvC scope cl C env)) (LCg.CompEnd h₀ L m { s₁ with heap := h, toks := tk } I oI C oC D (LCg.lst ys) (fun _ => True) (fun y news' => Elt news (fun y v => ∃ t, v = Value.int y t) ((n * sc tw k : Nat) : Int) y news')) E' { s₁ with heap := h, toks := tk })
    (fin : ∀ g ys, IntsAre ys (asInts (worths tw n)) → Fin { s₁ with heap := g } ys news) : LCg.CompSrc prog w A h₀ L m env elt x scope cl Fin (.ref l) s₁ := by
  have hsz : its.size = 6 - tw := by have := strs_len hR.txts; simpa using this
  refine LCg.CompSrc.base hh F N hl (by rw [hsz, PySem.sizeLine_eq]; omega) fun g => ?_
  refine map_rest (ks := List.range (6 - tw)) (fun (k : Nat) v => ∃ t, v = Value.str (pageS tw k ns) t) (fun y v => ∃ t, v = Value.int y t) (fun k => ((n * sc tw k : Nat) : Int)) (by rw [List.length_range]; exact hsz.symm) (fun i v hi hv => ?_) (.inl hl) (fun k v I oI C oC D m₂ ys h tk E' hk hr hC hx F N off ne => ?_) fun ys hAll => fin g ys ?_
  · obtain ⟨y, hy, t, rfl⟩ := strs_at hR.txts i v (by rw [Array.getElem?_toList]; exact hv)
    have hi' : i < 6 - tw := by omega
    rw [List.getElem?_map, List.getElem?_range hi'] at hy
    exact ⟨i, by simp [hi'], t, by rw [← Option.some.inj hy]⟩
  · obtain ⟨tv, rfl⟩ := hr
    exact turn k tv I oI C oC D m₂ ys h tk E' (List.mem_range.mp hk) hC hx F N off ne
  · have := hAll.ints
    unfold asInts worths
    rw [List.map_map]; exact this
end

section
variable {prog : Program} {w : World} {A : Around} {E : Value → Shared → Prop} {s : Shared} {env : Env} {h₀ : Heap} {x y : Str} {body : List Stmt} {Q : Flow → Shared → Prop} {l a : Addr} {its : Array Value} {nn : Nat} {o : Obj} {led : Bool} {ks : List Int} {m₀ : Str → Option Value} {rest : List (Addr × Obj)}
theorem tot_here {tw n : Nat} {ys : List Value} {R : List Nat} (hh : A.handled = none) (F : Fr h₀ env.locals s.heap m₀) (N : News h₀ env.locals s.heap ((a, o) :: rest)) (hl : (l, listOf its nn) ∈ rest) (hi : IntsAre its.toList (asInts R)) (sp : Sep a rest) (ho : SetObj o led []) (_hy : IntsAre ys (asInts (worths tw n)))
    (turn : ∀ (t : Int) (tt : Tok) (u : Str → Option Value) (o : Obj) (ks : List Int) (h : Heap) (tk : Nat) (own : List (Addr × Obj)), 0 ≤ t → Sep a (rest ++ own) → SetObj o led ks → Keys ks → Fr h₀ env.locals h (fun z => if z = x then some (.int t tt) else if z = y then u z else m₀ z) → News h₀ env.locals h ((a, o) :: (rest ++ own)) →
      wpAny (model prog w) A (execs body env) (InvPostN h₀ env.locals (fun m' nx => (∃ o', nx = (a, o') :: rest ∧ SetObj o' led (addAll t ((asInts (worths tw n)).filter fun c => decide (c ≤ 20 - t)) ks)) ∧ ∀ z, z ≠ x → z ≠ y → m' z = m₀ z) own (a :: rest.map (·.1)) { s with heap := h, toks := tk } Q) E { s with heap := h, toks := tk })
    (done : ∀ (u : Str → Option Value) o h tk, SetObj o led (sumsOf (asInts (worths tw n)) (asInts R) []) → Keys (sumsOf (asInts (worths tw n)) (asInts R) []) → Fr h₀ env.locals h (fun z => if z = x then u z else if z = y then u z else m₀ z) → News h₀ env.locals h ((a, o) :: rest) → Q .next { s with heap := h, toks := tk }) :
    wpAny (model prog w) A (pyIter (.ref l)) (fun it s₂ => LoopAtV prog w A h₀ env x body Q E it s₂) E s :=
  tot_loop hh F N hl hi sp ho (asInts_nonneg _) (asInts_nonneg _) turn done
end
theorem bis_here {tw n : Nat} {ys : List Value} (w : World) (l : Addr) (x : Int) (t : Tok) (hy : IntsAre ys (asInts (worths tw n))) : Tell w 2 40 [.ref l, .int x t] (fun s => s.heap.IsList l ys.toArray) (fun _ v _ => ∃ k t, v = .int k t ∧ 0 ≤ k ∧ k ≤ ((asInts (worths tw n)).length : Int) ∧ BisP (asInts (worths tw n)) x k k) :=
  bis_walk w l ys _ x t hy (by rw [worths_len]; omega) (worths_rise tw n)
theorem lst_list {g h : Heap} {L l : Addr} {news : List (Addr × Obj)} {ys : List Value} (N : News g L h news) (hm : (l, LCg.lst ys) ∈ news) : h.IsList l ys.toArray := ⟨_, (N _ hm).1, rfl, _, rfl⟩
section
variable {prog : Program} {w : World} {A : Around} {E : Value → Shared → Prop} {s : Shared} {env : Env} {h₀ : Heap} {L : Addr} {m : Str → Option Value} {x y : Str} {body : List Stmt} {Q : Flow → Shared → Prop} {l a d : Addr} {its : Array Value} {nn : Nat} {o : Obj} {led : Bool} {ks : List Int} {m₀ : Str → Option Value} {rest news : List (Addr × Obj)}
theorem slice_here {tw n : Nat} {ys : List Value} {k b : Int} {u : Tok} {value slice : Expr} {QV : Value → Shared → Prop} (F : Fr h₀ L s.heap m) (N : News h₀ L s.heap news) (hm : (l, LCg.lst ys) ∈ news) (hy : IntsAre ys (asInts (worths tw n))) (h0 : 0 ≤ k) (hb : BisP (asInts (worths tw n)) b k k)
    (h : ∀ D ws h', Fr h₀ L h' m → News h₀ L h' ((D, listOf (List.toArray ws) 0) :: news) → (∀ p ∈ news, p.1 < D) → IntsAre ws ((asInts (worths tw n)).filter fun c => decide (c ≤ b)) → QV (.ref D) { s with heap := h' })
    (hs : subscripted slice false (.ref l) (.ref s.heap.objs.size) = operate [.ref s.heap.objs.size, .ref l] (getItem (.ref l) (.ref s.heap.objs.size))) (ht : ∀ r, letTemporaryGo value (.ref l) r = pure ()) :
    wpAny (model prog w) A (subscriptTail value slice (.ref l) (.ref s.heap.objs.size)) QV E { s with heap := s.heap.push { cls := .type "slice", data := .fields #[.none, .int k u, .none] } } := by
  have hlen := hy.length
  rw [worths_len] at hlen
  refine kmk_slice (its := ys.toArray) (vl := .none) (vu := .int k u) (lo := none) (hi := some k) F N ⟨_, (N _ hm).1, rfl, _, rfl⟩ IsPart.none (IsPart.int _ _) (fun D h' F' N' l1 => h D (slicePick ys.toArray none (some k) none).toList h' F' (by rw [Array.toArray_toList]; exact N') l1 ?_) hs ht (by rw [List.size_toArray, PySem.sizeLine_eq]; omega)
  have h1 := kmk_upto hy h0
  rw [take_is_filter (x := b) (fun i v hi hn => ?_) (fun i v hi hn => ?_)] at h1
  · exact h1
  · have := hb.1 i (by omega)
    rw [List.getD, hn] at this; exact this
  · have hlt : i < (asInts (worths tw n)).length := (List.getElem?_eq_some_iff.mp hn).1
    have := hb.2 i (by omega) hlt
    rw [List.getD, hn] at this; exact this

theorem add_here {ws : List Value} {W : List Nat} {t : Int} (hh : A.handled = none) (F : Fr h₀ env.locals s.heap m₀) (N : News h₀ env.locals s.heap ((d, listOf ws.toArray 0) :: (a, o) :: rest)) (hi : IntsAre ws ((asInts W).filter fun c => decide (c ≤ 20 - t))) (sp : Sep a rest) (ho : SetObj o led ks) (hK : Keys ks) (ht : 0 ≤ t)
    (turn : ∀ (n : Int) (tn : Tok) (o : Obj) (ks : List Int) (h : Heap) (tk : Nat) (own : List (Addr × Obj)), 0 ≤ n → 0 ≤ t + n → t + n ≤ 20 → Sep a ((d, listOf ws.toArray 0) :: rest ++ own) → SetObj o led ks → Keys ks → Fr h₀ env.locals h (fun z => if z = x then some (.int n tn) else m₀ z) → News h₀ env.locals h ((a, o) :: ((d, listOf ws.toArray 0) :: rest ++ own)) →
      wpAny (model prog w) A (execs body env) (InvPostN h₀ env.locals (fun m' nx => (∃ o', nx = (a, o') :: (d, listOf ws.toArray 0) :: rest ∧ SetObj o' led (put (t + n) ks)) ∧ ∀ z, z ≠ x → m' z = m₀ z) own (a :: ((d, listOf ws.toArray 0) :: rest).map (·.1)) { s with heap := h, toks := tk } Q) E { s with heap := h, toks := tk })
    (done : ∀ (u : Str → Option Value) o h tk, SetObj o led (addAll t ((asInts W).filter fun c => decide (c ≤ 20 - t)) ks) → Fr h₀ env.locals h (fun z => if z = x then u z else m₀ z) → News h₀ env.locals h ((a, o) :: (d, listOf ws.toArray 0) :: rest) → Q .next { s with heap := h, toks := tk }) :
    wpAny (model prog w) A (pyIter (.ref d)) (fun it s₂ => LoopAtV prog w A h₀ env x body Q E it s₂) E s := by
  have hd : d ≠ a := fun e => by
    have h1 := (N _ List.mem_cons_self).1
    have h2 := (N _ (List.mem_cons_of_mem _ List.mem_cons_self)).1
    rw [e] at h1
    have h3 : listOf ws.toArray 0 = o := Option.some.inj (h1.symm.trans h2)
    have h4 := ho.cls
    rw [← h3] at h4
    exact absurd h4 (show ¬ (Value.type "list" = Value.type "set") by decide)
  refine add_loop (t := t) (cs := (asInts W).filter fun c => decide (c ≤ 20 - t)) hh F (fun p hp => N p (by
    rcases List.mem_cons.mp hp with rfl | hp
    · exact List.mem_cons_of_mem _ List.mem_cons_self
    · rcases List.mem_cons.mp hp with rfl | hp
      · exact List.mem_cons_self
      · exact List.mem_cons_of_mem _ (List.mem_cons_of_mem _ hp))) List.mem_cons_self hi (fun p hp => by
    rcases List.mem_cons.mp hp with rfl | hp
    · exact hd
    · exact sp p hp) ho hK ht (fun c hc => ?_) turn fun u o h tk h1 _ h3 h4 => done u o h tk h1 h3 h4
  have := List.mem_filter.mp hc
  exact ⟨asInts_nonneg _ c this.1, by simpa using this.2⟩

theorem add_end {own : List (Addr × Obj)} {K : List Int} {m' : Str → Option Value} {s₁ : Shared} {h' : Heap} {tk : Nat} (F : Fr h₀ L h' m') (N : News h₀ L h' ((a, o) :: (rest ++ own))) (ho : SetObj o led K) (hm : ∀ z, z ≠ x → m' z = m₀ z) :
    InvEndN h₀ L (fun m' nx => (∃ o', nx = (a, o') :: rest ∧ SetObj o' led K) ∧ ∀ z, z ≠ x → m' z = m₀ z) own (a :: rest.map (·.1)) s₁ { s₁ with heap := h', toks := tk } :=
  InvEndN.intro (nx := (a, o) :: rest) F N ⟨⟨o, rfl, ho⟩, hm⟩ rfl (fun p hp => by
    rcases List.mem_cons.mp hp with rfl | hp
    · exact List.mem_cons_self
    · exact List.mem_cons_of_mem _ (List.mem_append_left _ hp)) fun p hp => List.mem_cons_of_mem _ (List.mem_append_right _ hp)
theorem tot_end {own : List (Addr × Obj)} {K : List Int} {m' : Str → Option Value} {s₁ : Shared} {h' : Heap} {tk : Nat} {q : Addr × Obj} (F : Fr h₀ L h' m') (N : News h₀ L h' ((a, o) :: q :: (rest ++ own))) (ho : SetObj o led K) (hm : ∀ z, z ≠ x → z ≠ y → m' z = m₀ z) :
    InvEndN h₀ L (fun m' nx => (∃ o', nx = (a, o') :: rest ∧ SetObj o' led K) ∧ ∀ z, z ≠ x → z ≠ y → m' z = m₀ z) own (a :: rest.map (·.1)) s₁ { s₁ with heap := h', toks := tk } :=
  InvEndN.intro (nx := (a, o) :: rest) F N ⟨⟨o, rfl, ho⟩, hm⟩ rfl (fun p hp => by
    rcases List.mem_cons.mp hp with rfl | hp
    · exact List.mem_cons_self
    · exact List.mem_cons_of_mem _ (List.mem_cons_of_mem _ (List.mem_append_left _ hp))) fun p hp => List.mem_cons_of_mem _ (List.mem_cons_of_mem _ (List.mem_append_right _ hp))
end
theorem place_end {g₀ : Array GenState} {o₀ : OsState} {d₀ : Drawn} {h₀ h : Heap} {L I l c : Addr} {pv : Value} {it oc : Obj} {v : Option Value} {out : Array Value} {nn tk : Nat} {news : List (Addr × Obj)} {ns : List Int} {W R : List Nat} {m : Str → Option Value} (F : Fr h₀ L h m) (N : News h₀ L h news) (hi : IntsAre out.toList ns) (hp : ns.Perm (sumsOf (asInts W) (asInts R) [])) (hs : ns.Pairwise (· ≤ ·)) (hI : (I, it) ∈ news) (hl : (l, listOf out nn) ∈ news) (hcd : oc.data = .cell v) (hc : (c, oc) ∈ news) (h1 : m (Str.ofString "pages") = some pv) (h2 : m (Str.ofString "reached") = some (.ref l)) :
    TurnEnd (fun s₃ => (∃ l out nn oc v m, s₃.heap.get? I = some it ∧ Fr h₀ L s₃.heap m ∧ News h₀ L s₃.heap [(l, listOf out nn), (c, oc)] ∧ oc.data = .cell v ∧ IntsAre out.toList (asInts (stepR R W)) ∧ m (Str.ofString "pages") = some pv ∧ m (Str.ofString "reached") = some (.ref l)) ∧ s₃.gens = g₀ ∧ s₃.os = o₀) .next { heap := h, gens := g₀, drawn := d₀, toks := tk, os := o₀ } :=
  ⟨rfl, ⟨l, out, nn, oc, v, m, (N _ hI).1, F, fun p hp => by
    simp only [List.mem_cons, List.not_mem_nil, or_false] at hp
    rcases hp with rfl | rfl
    · exact N _ hl
    · exact N _ hc, hcd, step_sorted hp hs ▸ hi, h1, h2⟩, rfl, rfl⟩
theorem list_of {g h : Heap} {L l : Addr} {news : List (Addr × Obj)} {its : Array Value} {n : Nat} (N : News g L h news) (hm : (l, listOf its n) ∈ news) : h.IsList l its := ⟨_, (N _ hm).1, rfl, _, rfl⟩
theorem bar_is : Str.ofString "|" = bar := by decide +kernel
theorem pages_split {prog : Program} {w : World} {A : Around} {E : Value → Shared → Prop} {s : Shared} {h₀ : Heap} {L : Addr} {m : Str → Option Value} {news : List (Addr × Obj)} {ns : List Nat} {its : Array Value} {tw k : Nat} {t u : Tok} {Q : Value → Shared → Prop} (hR : ReachIn tw ns its) (F : Fr h₀ L s.heap m) (N : News h₀ L s.heap news) (hk : k < 6 - tw)
    (h : ∀ D vs h' tk, StrsAre vs (ns.map (groupS tw k)) → Fr h₀ L h' m → News h₀ L h' ((D, listOf vs.toArray 0) :: news) → (∀ p ∈ news, p.1 < D) → Q (.ref D) { s with heap := h', toks := tk }) :
    wpAny (model prog w) A (call (.builtin "str.split") [.str (pageS tw k ns) t, .str (Str.ofString "|") u]) Q E s := by
  have h1 := page_len tw k hR.htw (by have := hR.htw; omega) ns hR.hsmall
  have h2 := hR.hlen
  refine KSpl.split1 F N (by decide +kernel) (fun D l h' tk e hs F' N' hD => ?_) (by rw [PySem.sizeLine_eq]; omega)
  rw [e, bar_is, split_page tw k ns hR.hne] at hs
  exact h D _ h' tk hs F' N' hD
theorem page_item {prog : Program} {w : World} {A : Around} {E : Value → Shared → Prop} {s : Shared} {h₀ : Heap} {L D : Addr} {news : List (Addr × Obj)} {ns : List Nat} {its : Array Value} {tw k i n : Nat} {u : Tok} {vs : List Value} {value slice : Expr} {Q : Value → Shared → Prop} (hP : PlaceAt ns i n) (hR : ReachIn tw ns its) (N : News h₀ L s.heap news) (hm : (D, listOf vs.toArray 0) ∈ news) (hvs : StrsAre vs (ns.map (groupS tw k)))
    (h : ∀ t, Q (.str (groupS tw k n) t) s)
    (hs : subscripted slice false (.ref D) (.int (i : Nat) u) = operate [.ref D, .int (i : Nat) u] (getItem (.ref D) (.int (i : Nat) u)) := by with_unfolding_all rfl) :
    wpAny (model prog w) A (subscriptTail value slice (.ref D) (.int (i : Nat) u)) Q E s := by
  have hlt : i < ns.length := (List.getElem?_eq_some_iff.mp hP).1
  have h4 := hR.hlen
  refine item_strsR ⟨_, (N _ hm).1, rfl, 0, rfl⟩ hvs (by omega) (by rw [List.length_map]; omega) (by omega) (fun t => ?_) hs
  have e : (ns.map (groupS tw k)).getD ((i : Nat) : Int).toNat Str.empty = groupS tw k n := by
    rw [show ((i : Nat) : Int).toNat = i from rfl, List.getD, List.getElem?_map, hP]; rfl
  rw [e]; exact h t
theorem semi_is : Str.ofString ";" = ⟨#[59]⟩ := by decide +kernel
theorem group_count {prog : Program} {w : World} {A : Around} {E : Value → Shared → Prop} {s : Shared} {tw k n : Nat} {t u : Tok} {Q : Value → Shared → Prop} (h : ∀ t' k', Q (.int ((n * sc tw k : Nat) : Int) t') { s with toks := k' }) :
    wpAny (model prog w) A (call (.builtin "str.count") [.str (groupS tw k n) t, .str (Str.ofString ";") u]) Q E s :=
  SC.count (by rw [semi_is, count_groupS]; exact h _ _)
theorem News.swap {h₀ h : Heap} {L : Addr} {p q : Addr × Obj} {r : List (Addr × Obj)} (N : News h₀ L h (p :: q :: r)) : News h₀ L h (q :: p :: r) := fun x hx => by
  rcases List.mem_cons.mp hx with rfl | hx
  · exact N _ (List.mem_cons_of_mem _ List.mem_cons_self)
  · rcases List.mem_cons.mp hx with rfl | hx
    · exact N _ List.mem_cons_self
    · exact N _ (List.mem_cons_of_mem _ (List.mem_cons_of_mem _ hx))
section

local macro_rules | `(tactic| walk_at "exec For Name Call cons nil") => `(tactic| (k_here; k_dflt (refine For_any (by rfl) ?_)))
local macro_rules | `(tactic| walk_at "RSrc") => `(tactic| (k_dflt (refine reach_src (by assumption) (by assumption) (by k_asm) (by k_asm) (by assumption) (by assumption) (by k_mem) (by k_mem) (by with_unfolding_all rfl) (by with_unfolding_all rfl) ?turn ?fin); (case' turn => (intro i n s' h' tk' t I l it oc v out nn u hP hoc hout hIl hIc hlc F N)); (case' fin => (intro s' h' tk' l out nn u hout F N))))
local macro_rules | `(tactic| walk_at "eval ListComp") => `(tactic| (k_here; k_dflt (refine LCg.ListComp_U (F₀ := by k_asm) (by with_unfolding_all rfl) (by decide) (by rfl) (by decide) (by rfl) ?_)))
local macro_rules | `(tactic| walk_at "CompSrc") => `(tactic| (k_dflt (refine counts_src (by assumption) (by assumption) (by rfl) (by k_asm) (by k_asm) (by assumption) ?turn ?fin); (case' turn => (intro k ti I oI C oC D m₂ ys h tk E' hk hC hx F N off ne; (try simp only [LCg.Off3, and_true] at off))); (case' fin => intro g ys hAll)))
local macro_rules | `(tactic| walk_at "subscriptTail") => `(tactic| (k_here; k_dflt (refine page_item (by assumption) (by assumption) (by k_asm) (by k_mem) (by assumption) ?_); intro tg))
local macro_rules | `(tactic| walk_at "call builtin:str.count") => `(tactic| (k_here; k_dflt (refine group_count ?_); intro tg kg))
local macro_rules | `(tactic| walk_at "subscriptTail Name Slice ref ref") => `(tactic| (k_here; k_dflt (refine' slice_here ?F ?N ?l ?y ?z ?b ?_ ?s ?t; (case F => k_asm); (case N => k_asm); (case l => k_mem); (case y => assumption); (case z => assumption); (case b => assumption); (case s => with_unfolding_all rfl); (case t => (intro _; with_unfolding_all rfl))); intro D ws h' F N l1 hws))
local macro_rules | `(tactic| walk_at "exec For Name Subscript cons nil") => `(tactic| (k_here; (rename Fr _ _ _ _ => lF'); (with_unfolding_all refine' For_invVF lF' ?k1 ?k2 ?_; (case k1 => exact rfl); (case k2 => exact rfl); k_whole)))
local macro_rules | `(tactic| walk_at "getMethod ref") => `(tactic| (k_dflt (refine set_method (by k_asm) (by k_mem) (by assumption) ?_)))
local macro_rules | `(tactic| walk_at "call builtin:set.add") => `(tactic| (k_dflt (refine set_put (by k_asm) (by k_asm) (by assumption) (by assumption) (by assumption) (by assumption) (by assumption) ?_); intro o' h' tk' hO hK F N))
local macro_rules | `(tactic| walk_at "InvEndN") => `(tactic| first | (with_unfolding_all refine add_end (by assumption) (by assumption) (by assumption) ?_; intro z h1; first | rfl | (simp [h1]; done)) | (with_unfolding_all refine tot_end (by assumption) (by assumption) (by assumption) ?_; intro z h1 h2; first | rfl | (simp [h1, h2]; done)))
local macro_rules | `(tactic| walk_at "call builtin:sorted") => `(tactic| (k_dflt (refine set_sorted (by rfl) (by k_asm) (by k_asm) (by k_mem) (by assumption) (by assumption) ?_); intro s' h' tk' sl out sn ns' hi' hp' hs' sp' F N))
local macro_rules | `(tactic| walk_at "call ref") => `(tactic| (k_dflt (refine' call_use (bis_here _ _ _ _ ?kI) ?k1 ?k2 ?k3 ?k4 ?k5 ?kK ?kd ?ku ?kP ?_; (case kI => assumption); (case k1 => k_asm); (case k2 => k_asm); (case k3 => k_asm); (case k4 => k_asm); (case k5 => k_asm); (case kK => exact rfl); (case kd => ktr_room); (case ku => ktr_units); (case kP => ((rename News _ _ _ _ => lN'); exact lst_list lN' (by k_mem)))); (intro v9 h9 tk9 kE9 hP9 F9 N9; obtain ⟨k9, t9, e9, hb0, hb1, hbP⟩ := hP9; subst e9; clear kE9; (try dsimp only))))
local macro_rules | `(tactic| walk_at "call type:set nil nil") => `(tactic| (k_dflt (refine set_made (by k_asm) (by k_asm) ?_); intro sa so h' hO sp F N))
local macro_rules | `(tactic| walk_at "call builtin:str.split") => `(tactic| (k_dflt (refine pages_split (by assumption) (by k_asm) (by k_asm) (by assumption) ?_); intro D vs h' tk hvs F N hD; (try k_lt hD)))
local macro_rules | `(tactic| walk_at "pyIter ref") => `(tactic| (k_here; (rename Fr _ _ _ _ => lF'); (rename News _ _ _ _ => lN'); (first
  | ((with_unfolding_all refine tot_here (y := Str.ofString "count") (by rfl) lF' lN' (by k_mem) (by assumption) (by assumption) (by assumption) (by assumption) ?turn ?fin); (case' turn => (clear lF' lN'; intro t tt u o ks h tk own ht hsp hO hK F N; (try dsimp only [List.cons_append, List.nil_append] at hsp N))); (case' fin => (clear lF' lN'; intro u o h tk hO hK F N)))
  | ((with_unfolding_all refine add_here (by rfl) lF' lN' (by assumption) (by assumption) (by assumption) (by assumption) (by assumption) ?turn ?fin); (case' turn => (clear lF' lN'; intro n tn o ks h tk own hn0 hn1 hn2 hsp hO hK F N; (try dsimp only [List.cons_append, List.nil_append] at hsp N))); (case' fin => (clear lF' lN'; intro u o h tk hO F N))))))
local macro_rules | `(tactic| walk_at "Elt") => `(tactic| ((refine Elt.mk (by lcg_sub) ?_); exact ⟨_, rfl⟩))
set_option maxHeartbeats 8000000 in
theorem rea_walk (w : World) (l : Addr) (its : Array Value) (ns : List Nat) (tw : Nat) (t : Tok) (hR : ReachIn tw ns its) : TellD w 4 95 [.ref l, .int (ns.length : Int) t] (fun s => s.heap.IsList l its) (fun s₀ v h => ∃ l out, v = .ref l ∧ s₀.get? l = none ∧ h.IsList l out ∧ IntsAre out.toList (asInts (reachR tw ns))) := by
  w_top off
  k_with_none
  unfold TellD PG; k_fill
  intro loose mean mg mb dp un gd cn cs a ccd cl outer A₀ base h₀ L m s Q E B F X T hk hdp hun hpre hret
  refine wpAny_call ?_
  k_dflt (walk_at "mc cells")
  intro g' L' h' tk' cells' FG' F' N' Y' B' X' T' kE
  k_cells Y'
  (try simp only [List.nil_append, List.cons_append] at N')
  (try dsimp only)
  obtain ⟨hl, hdum⟩ : s.heap.IsList l its ∧ True := ⟨hpre, trivial⟩
  have hl := kE.list hl; clear hpre hdum

  clear F B X T FG'
  (try k_fold)
  k_steps
  all_goals (try dsimp only)
  k_steps
  rotate_left 2
  ((rename Fr _ _ _ _ => lF'); (rename News _ _ _ _ => lN'); (with_unfolding_all refine add_here (by rfl) lF' lN' (by assumption) (by assumption) (by assumption) (by assumption) (by assumption) ?turn ?fin); (case' turn => (clear lF' lN'; intro n tn o ks h tk own hn0 hn1 hn2 hsp hO hK F N; (try dsimp only [List.cons_append, List.nil_append] at hsp N))); (case' fin => (clear lF' lN'; intro u o h tk hO F N)))
  k_steps
  rotate_left 1
  · with_unfolding_all refine place_end (by assumption) (by assumption) (by assumption) (by assumption) (by assumption) (by k_mem) (by k_mem) (by assumption) (by k_mem) (by rfl) (by rfl)
  · refine mc_leaveD (w := w) (s := s) (Post := fun s₀ v h => ∃ l out, v = .ref l ∧ s₀.get? l = none ∧ h.IsList l out ∧ IntsAre out.toList (asInts (reachR tw ns))) hret kE (by assumption) (by assumption) ?_
    exact ⟨_, _, rfl, new_of kE (by assumption) (by k_mem), list_of (by assumption) (by k_mem), by assumption⟩
end
end

section
open PySem PySem.W PyProof.Rows PySem.Calls
set_option maxRecDepth 100000

/-- what is told of the sizes: the table walked -/
def showN (n : Int) : Str := if n = 10 then ⟨#[49, 48]⟩ else ⟨#[(48 + n).toNat]⟩
def toldGo (tbl : List (Str × Int)) : List Int → Str → Str
  | [], k => k
  | n :: r, k => if kdpLook tbl k 0 < n then k else toldGo tbl r (k ++ showN n)
def told (tbl : List (Str × Int)) (ns : List Int) : Int := kdpLook tbl (toldGo tbl ns ⟨#[]⟩) 21
def tbl0 : List (Str × Int) := [(Str.ofString "", 1), (Str.ofString "1", 2), (Str.ofString "11", 5), (Str.ofString "12", 4), (Str.ofString "113", 8)]
def tbl1 : List (Str × Int) := [(Str.ofString "", 1), (Str.ofString "1", 2), (Str.ofString "11", 3), (Str.ofString "12", 5), (Str.ofString "111", 7), (Str.ofString "112", 14), (Str.ofString "113", 6), (Str.ofString "122", 7), (Str.ofString "123", 10), (Str.ofString "124", 14), (Str.ofString "125", 10), (Str.ofString "1255", 15)]
def tblOf (tw : Nat) : List (Str × Int) := if tw = 0 then tbl0 else tbl1

/-- where the walk of the table stands -/
def ToldAt (tbl : List (Str × Int)) (ns rest : List Int) (k : Str) : Prop := toldGo tbl ns ⟨#[]⟩ = toldGo tbl rest k ∧ k.length ≤ 2 * (ns.length - rest.length) ∧ rest.length ≤ ns.length
theorem ToldAt.start (tbl : List (Str × Int)) (ns : List Int) : ToldAt tbl ns ns (Str.ofString "") := ⟨rfl, by show 0 ≤ _; omega, Nat.le_refl _⟩
theorem ToldAt.brk {tbl : List (Str × Int)} {ns rest : List Int} {n : Int} {k : Str} (h : ToldAt tbl ns (n :: rest) k) (hl : kdpLook tbl k 0 < n) : toldGo tbl ns ⟨#[]⟩ = k := by
  rw [h.1]; show (if _ then _ else _) = _; rw [if_pos hl]
theorem ToldAt.fin {tbl : List (Str × Int)} {ns : List Int} {k : Str} (h : ToldAt tbl ns [] k) : toldGo tbl ns ⟨#[]⟩ = k := h.1
theorem show_len (n : Int) : (showN n).length ≤ 2 := by
  unfold showN
  split
  · exact Nat.le_refl 2
  · exact Nat.le_succ 1
theorem ToldAt.next {tbl : List (Str × Int)} {ns rest : List Int} {n : Int} {k : Str} (h : ToldAt tbl ns (n :: rest) k) (hl : ¬ kdpLook tbl k 0 < n) : ToldAt tbl ns rest (k ++ showN n) := by
  have h3 := h.2.2
  rw [List.length_cons] at h3
  refine ⟨?_, ?_, by omega⟩
  · rw [h.1]; show (if _ then _ else _) = _; rw [if_neg hl]
  · have h1 := show_len n
    have h2 := h.2.1
    rw [List.length_cons] at h2
    rw [Str.length_append]; omega

section
variable {prog : Program} {w : World} {A : Around} {E : Value → Shared → Prop} {s : Shared} {env : Env} {h₀ : Heap} {x y : Str} {body : List Stmt} {Q : Flow → Shared → Prop} {l : Addr} {vs : List Value} {nn : Nat} {m₀ : Str → Option Value} {news : List (Addr × Obj)}
theorem told_loop {ns : List Int} {t₀ : Tok} (tbl : List (Str × Int)) (hh : A.handled = none) (F : Fr h₀ env.locals s.heap m₀) (N : News h₀ env.locals s.heap news) (hl : (l, listOf vs.toArray nn) ∈ news) (hi : IntsAre vs ns) (hb : ∀ n ∈ ns, 1 ≤ n ∧ n ≤ 10) (h4 : ns.length ≤ 4) (hy : m₀ y = some (.str (Str.ofString "") t₀)) (hyx : y ≠ x)
    (turn : ∀ (n : Int) (tn : Tok) (k : Str) (tk' : Tok) (rest : List Int) (h : Heap) (tk : Nat) (own : List (Addr × Obj)), 1 ≤ n → n ≤ 10 → ToldAt tbl ns (n :: rest) k → k.length ≤ 8 → Fr h₀ env.locals h (fun z => if z = x then some (.int n tn) else if z = y then some (.str k tk') else m₀ z) → News h₀ env.locals h (news ++ own) →
      wpAny (model prog w) A (execs body env) (InvPostN h₀ env.locals (fun m' nx => nx = news ∧ (∃ k t, m' y = some (.str k t) ∧ ToldAt tbl ns rest k) ∧ ∀ z, z ≠ x → z ≠ y → m' z = m₀ z) own (news.map (·.1)) { s with heap := h, toks := tk } Q) E { s with heap := h, toks := tk })
    (done : ∀ (u : Str → Option Value) k t h tk, toldGo tbl ns ⟨#[]⟩ = k → Fr h₀ env.locals h (fun z => if z = x then u z else if z = y then some (.str k t) else m₀ z) → News h₀ env.locals h news → Q .next { s with heap := h, toks := tk }) :
    wpAny (model prog w) A (pyIter (.ref l)) (fun it s₂ => LoopAtV prog w A h₀ env x body Q E it s₂) E s := by
  refine iter_invNL (vs := vs) (fun i m nx => nx = news ∧ (∃ k t, m y = some (.str k t) ∧ ToldAt tbl ns (ns.drop i) k) ∧ ∀ z, z ≠ x → z ≠ y → m z = m₀ z) hh hl hi F N ⟨rfl, ⟨_, t₀, hy, ToldAt.start tbl ns⟩, fun _ _ _ => rfl⟩ ?_ ?_
  · rintro i n tn m₁ news₁ h tk own hn _ hsep hl1 ⟨rfl, ⟨k, t, hk, hT⟩, hm⟩ F₁ N₁
    have e : (fun z => if z = x then some (Value.int n tn) else m₁ z) = fun z => if z = x then some (Value.int n tn) else if z = y then some (.str k t) else m₀ z := by
      funext z
      by_cases h1 : z = x
      · simp [h1]
      · simp only [if_neg h1]
        by_cases h2 : z = y
        · subst h2; simp [hk]
        · simp only [if_neg h2]; exact hm z h1 h2
    rw [e] at F₁
    have hlt : i < ns.length := (List.getElem?_eq_some_iff.mp hn).1
    have hd : ns.drop i = n :: ns.drop (i + 1) := by
      rw [List.drop_eq_getElem_cons hlt]
      congr 1
      exact (List.getElem?_eq_some_iff.mp hn).2
    rw [hd] at hT
    have hbn := hb n (List.mem_of_getElem? hn)
    have hk8 : k.length ≤ 8 := by have := hT.2.1; omega
    refine wpAny_mono (turn n tn k t _ h tk own hbn.1 hbn.2 hT hk8 F₁ N₁) (fun f s₂ hq => ?_) fun _ _ e => e
    have conv : InvEndN h₀ env.locals (fun m' nx => nx = news₁ ∧ (∃ k t, m' y = some (.str k t) ∧ ToldAt tbl ns (ns.drop (i + 1)) k) ∧ ∀ z, z ≠ x → z ≠ y → m' z = m₀ z) own (news₁.map (·.1)) { s with heap := h, toks := tk } s₂ →
        InvEndN h₀ env.locals (fun m' nx => (l, listOf vs.toArray nn) ∈ nx ∧ nx = news₁ ∧ (∃ k t, m' y = some (.str k t) ∧ ToldAt tbl ns (ns.drop (i + 1)) k) ∧ ∀ z, z ≠ x → z ≠ y → m' z = m₀ z) own (news₁.map (·.1)) { s with heap := h, toks := tk } s₂ := by
      rintro ⟨h', tk', m', news', nx, e1, e2, e3, e4, e5, e6, e7, e8, e9⟩
      exact ⟨h', tk', m', news', nx, e1, e2, e3, e4, e5, e6, by rw [e7]; exact hl, e7, e8, e9⟩
    cases f with
    | ret v => exact hq
    | brk => exact hq
    | next => exact conv hq
    | cont => exact conv hq
  · rintro m₁ news₁ h tk _ ⟨rfl, ⟨k, t, hk, hT⟩, hm⟩ F₁ N₁
    rw [List.drop_length] at hT
    refine done m₁ k t h tk hT.fin ?_ N₁
    have e : (fun z => if z = x then m₁ z else if z = y then some (.str k t) else m₀ z) = m₁ := by
      funext z
      by_cases h1 : z = x
      · simp [h1]
      · simp only [if_neg h1]
        by_cases h2 : z = y
        · subst h2; simp [hk]
        · simp only [if_neg h2]; exact (hm z h1 h2).symm
    rw [e]; exact F₁
end
def ins (n : Int) : List Int → List Int
  | [] => [n]
  | m :: r => if n ≤ m then n :: m :: r else m :: ins n r
def isort : List Int → List Int
  | [] => []
  | n :: r => ins n (isort r)
theorem ins_perm (n : Int) : ∀ l : List Int, (ins n l).Perm (n :: l)
  | [] => List.Perm.refl _
  | m :: r => by
    unfold ins
    split
    · exact List.Perm.refl _
    · exact (List.Perm.cons m (ins_perm n r)).trans (List.Perm.swap n m r)
theorem isort_perm : ∀ l : List Int, (isort l).Perm l
  | [] => List.Perm.refl _
  | n :: r => (ins_perm n _).trans (List.Perm.cons n (isort_perm r))
theorem ins_sorted (n : Int) : ∀ l : List Int, l.Pairwise (· ≤ ·) → (ins n l).Pairwise (· ≤ ·)
  | [], _ => List.pairwise_singleton _ _
  | m :: r, h => by
    have h' := List.pairwise_cons.mp h
    unfold ins
    split
    · rename_i hle
      refine List.pairwise_cons.mpr ⟨fun a ha => ?_, h⟩
      rcases List.mem_cons.mp ha with rfl | ha
      · exact hle
      · exact Int.le_trans hle (h'.1 a ha)
    · rename_i hle
      refine List.pairwise_cons.mpr ⟨fun a ha => ?_, ins_sorted n r h'.2⟩
      rcases List.mem_cons.mp ((ins_perm n r).mem_iff.mp ha) with rfl | ha
      · omega
      · exact h'.1 a ha
theorem isort_sorted : ∀ l : List Int, (isort l).Pairwise (· ≤ ·)
  | [] => .nil
  | n :: r => ins_sorted n _ (isort_sorted r)
theorem sorted_here {prog : Program} {w : World} {A : Around} {E : Value → Shared → Prop} {s : Shared} {h₀ : Heap} {L l : Addr} {m : Str → Option Value} {news : List (Addr × Obj)} {vs : List Value} {ns : List Int} {Q : Value → Shared → Prop} (F : Fr h₀ L s.heap m) (N : News h₀ L s.heap news) (hl : h₀.IsList l vs.toArray) (hi : IntsAre vs ns) (h4 : ns.length ≤ 4)
    (h : ∀ D vs' c h', Fr h₀ L h' m → News h₀ L h' ((D, listOf (List.toArray vs') c) :: news) → (∀ q ∈ news, q.1 < D) → IntsAre vs' (isort ns) → Q (.ref D) { s with heap := h' }) :
    wpAny (model prog w) A (call (.builtin "sorted") [.ref l]) Q E s :=
  kso_sorted F N (hl.at fun o e => F.keep l o e) hi (by omega) fun D vs' ns' c h' F' N' l1 i' _ p' o' _ => h D vs' c h' F' N' l1 (by
    have e := ksm_same (p'.trans (isort_perm ns).symm) o' (isort_sorted ns)
    rw [← e]; exact i')
theorem show_is (n : Int) (h1 : 1 ≤ n) (h2 : n ≤ 10) : Str.ofString (toString n) = showN n ∧ n.natAbs.log2 < 1920 := by
  have key : ∀ k : Nat, k < 11 → Str.ofString (toString (k : Int)) = showN (k : Int) ∧ ((k : Int)).natAbs.log2 < 1920 := by decide +kernel
  have := key n.toNat (by omega)
  rw [show ((n.toNat : Nat) : Int) = n from by omega] at this
  exact this
theorem str_here {prog : Program} {w : World} {A : Around} {E : Value → Shared → Prop} {s : Shared} {n : Int} {t : Tok} {Q : Value → Shared → Prop} (h1 : 1 ≤ n) (h2 : n ≤ 10) (h : ∀ t' k', Q (.str (showN n) t') { s with toks := k' }) : wpAny (model prog w) A (call (.type "str") [.int n t]) Q E s :=
  P.str_of_int (show_is n h1 h2).2 (by
    have e := (show_is n h1 h2).1
    show Q (.str (Str.ofString (toString n)) s.toks) _
    rw [e]; exact h _ _)
theorem told_end {h₀ : Heap} {L : Addr} {m' m₀ : Str → Option Value} {own news : List (Addr × Obj)} {s₁ : Shared} {h' : Heap} {tk t : Nat} {x y k : Str} {tbl : List (Str × Int)} {ns rest : List Int} (F : Fr h₀ L h' m') (N : News h₀ L h' (news ++ own)) (hT : ToldAt tbl ns rest k) (hy : m' y = some (.str k t)) (hm : ∀ z, z ≠ x → z ≠ y → m' z = m₀ z) :
    InvEndN h₀ L (fun m' nx => nx = news ∧ (∃ k t, m' y = some (.str k t) ∧ ToldAt tbl ns rest k) ∧ ∀ z, z ≠ x → z ≠ y → m' z = m₀ z) own (news.map (·.1)) s₁ { s₁ with heap := h', toks := tk } :=
  InvEndN.intro (nx := news) F N ⟨rfl, ⟨k, t, hy, hT⟩, hm⟩ rfl (fun p hp => List.mem_append_left _ hp) fun p hp => List.mem_append_right _ hp
/-- a table as an object: its address is no module table's -/
def Lacks (prog : Program) (w : World) (tbl : List (Str × Int)) (a : Addr) (o : Obj) : Prop := (a == sysModules) = false ∧ TabObj (strKind prog w) PyData.str (kdpD tbl) o
theorem lacks_made {prog : Program} {w : World} {A : Around} {E : Value → Shared → Prop} {s : Shared} {h₀ : Heap} {L : Addr} {m : Str → Option Value} {news : List (Addr × Obj)} {env : Env} {keys : List (Option Expr)} {values : List Expr} {pos : Pos} {Q : Value → Shared → Prop} (tbl : List (Str × Int)) (_hlt : keys.length = tbl.length) (hD : litPairs keys values = some (kdpD tbl)) (hs : strKeyed (kdpD tbl) = true) (hn : (strKeysOf (kdpD tbl)).Nodup)
    (hall : keys.all (·.isSome) = true) (hl : keys.length = values.length) (h0 : keys ≠ []) (hlen : keys.length ≤ 15) (F : Fr h₀ L s.heap m) (N : News h₀ L s.heap news) (hlim : h₀.NoLimit)
    (h : ∀ a o h' tk, Lacks prog w tbl a o → (∀ p ∈ news, p.1 < a) → Fr h₀ L h' m → News h₀ L h' ((a, o) :: news) → Q (.ref a) { s with heap := h', toks := tk }) :
    wpAny (model prog w) A (eval (.Dict keys values pos) env) Q E s := by
  refine Dict_lits_str hD hs hn hall hl h0 hlen fun a o h₁ tk ha ho hT hk => ?_
  have hlow := modules_low (hlim.keeps F.keep)
  refine h a o h₁ tk ⟨beq_eq_false_iff_ne.mpr (Nat.ne_of_gt (Nat.lt_of_lt_of_le hlow ha)), hT⟩ (fun p hp => Nat.lt_of_lt_of_le (Heap.lt_size (N p hp).1) ha) (F.kept hk) fun p hp => ?_
  rcases List.mem_cons.mp hp with rfl | hp
  · refine ⟨ho, fun e => ?_, ?_⟩
    · have h1 := F.ns.lt
      have e' : a = L := e
      rw [← e'] at h1
      exact absurd h1 (Nat.not_lt.mpr ha)
    · cases q : h₀.get? a with
      | none => rfl
      | some x => exact absurd (Heap.lt_size (F.keep _ _ q)) (Nat.not_lt.mpr ha)
  · exact ⟨hk _ _ (N p hp).1, (N p hp).2⟩
theorem lacks_get {prog : Program} {w : World} {A : Around} {E : Value → Shared → Prop} {s : Shared} {h₀ : Heap} {L d : Addr} {o : Obj} {news : List (Addr × Obj)} {tbl : List (Str × Int)} {k : Str} {tk te : Tok} {e : Int} {Q : Value → Shared → Prop} (N : News h₀ L s.heap news) (hm : (d, o) ∈ news) (hT : Lacks prog w tbl d o) (h : ∀ t, Q (.int (kdpLook tbl k e) t) { s with toks := s.toks + 1 }) :
    wpAny (model prog w) A (call (.builtin "dict.get") [.ref d, .str k tk, .int e te]) Q E s := by
  obtain ⟨lo, kvs, hd, hf⟩ := hT
  exact kdp_get2 (TabAt.ofNews N hm lo hd hf) h
theorem lacks_method {prog : Program} {w : World} {A : Around} {E : Value → Shared → Prop} {s : Shared} {h₀ : Heap} {L d : Addr} {o : Obj} {news : List (Addr × Obj)} {tbl : List (Str × Int)} {pl : Sem Bool} {Q : Value × List Value → Shared → Prop} (N : News h₀ L s.heap news) (hm : (d, o) ∈ news) (hT : Lacks prog w tbl d o) (h : Q (.builtin "dict.get", [.ref d]) s) :
    wpAny (model prog w) A (getMethod (.ref d) "get" pl) Q E s := by
  obtain ⟨lo, kvs, hd, hf⟩ := hT
  exact kdg_method (knd := strKind prog w) N hm hd h
theorem told_fin {tbl : List (Str × Int)} {ns : List Int} {k : Str} {t : Tok} (h : toldGo tbl ns ⟨#[]⟩ = k) : ∃ t', Value.int (kdpLook tbl k 21) t = .int (told tbl ns) t' := ⟨t, by unfold told; rw [h]⟩
theorem told_brk {tbl : List (Str × Int)} {ns rest : List Int} {n : Int} {k : Str} {t : Tok} (h : ToldAt tbl ns (n :: rest) k) (hl : kdpLook tbl k 0 < n) : ∃ t', Value.int (kdpLook tbl k 21) t = .int (told tbl ns) t' := told_fin (h.brk hl)
theorem iadd_sz {k : Str} (n : Int) (h : k.length ≤ 8) : k.length + (showN n).length ≤ sizeLine := by
  have := show_len n
  rw [PySem.sizeLine_eq]; omega
theorem ite_yes {b : Bool} {P Q : Prop} (hb : b = true) (h : P) : if b = true then P else Q := by rw [if_pos hb]; exact h
end

section
open PySem PySem.W PyProof.Rows PySem.Calls
set_option maxRecDepth 100000
local macro_rules | `(tactic| walk_at "mc enter") => `(tactic| (refine' code_defG (news := []) ?k1 ?k2 ?k3 ?k4 ?k5 ?kA ?kF ?kK ?k6 ?k7 ?k8 ?k9 ?kB ?_ ?c2 ?c3 ?c4 ?c5; (case kA => exact rfl); (case kF => exact rfl); (case kK => assumption); (case k1 => k_asm); (case k2 => k_asm); (case k3 => k_asm); (case k4 => exact fun _ hp => nomatch hp); (case k5 => k_asm); (case k6 => k_is); (case k7 => k_is); (case k8 => ktr_room); (case k9 => first | exact BindsTo.of_eq rfl | exact binds_K (by k_in) rfl (by k_is) rfl rfl rfl | (refine' kp_binds ?kx ?ke; (case kx => k_in); (case ke => exact fun _ => rfl))); (case c5 => decide); (case kB => exact locs rfl); (case c2 => exact rfl); (case c3 => exact rfl); (case c4 => exact rfl); k_whole))
section

local macro_rules | `(tactic| walk_at "call builtin:sorted") => `(tactic| (k_dflt (refine sorted_here (by k_asm) (by k_asm) (by assumption) (by assumption) (by assumption) ?_); intro D' v' c' h' F' N' l1 i'; (try k_lt l1)))
local macro_rules | `(tactic| walk_at "pyIter ref") => `(tactic| ((rename Fr _ _ _ _ => lF'); (rename News _ _ _ _ => lN'); (refine told_loop (y := Str.ofString "known") tbl0 (by rfl) lF' lN' (by k_mem) (by assumption) (by assumption) (by assumption) (by with_unfolding_all rfl) (by decide) ?turn ?fin); (case' turn => (clear lF' lN'; intro n tn k tk' rest h tk own hn1 hn2 hT hk F N; (try dsimp only [List.cons_append, List.nil_append] at N))); (case' fin => (clear lF' lN'; intro u k t h tk hT F N))))
local macro_rules | `(tactic| walk_at "inplaceOp Add str str") => `(tactic| (refine PyProof.Rows.iadd_str ?_ (iadd_sz _ (by assumption)); intro _ _))
local macro_rules | `(tactic| walk_at "InvEndN") => `(tactic| (with_unfolding_all refine told_end (by assumption) (by assumption) (ToldAt.next (by assumption) (by assumption)) (by rfl) ?_; intro z h1 h2; first | rfl | (simp [h1, h2]; done)))
local macro_rules | `(tactic| walk_at "call type:str") => `(tactic| (k_dflt (refine str_here (by assumption) (by assumption) ?_); intro tg kg))
local macro_rules | `(tactic| walk_at "call builtin:dict.get") => `(tactic| (k_dflt (refine lacks_get (tbl := tbl0) (by k_asm) (by k_mem) (by assumption) ?_); intro tg))
local macro_rules | `(tactic| walk_at "getMethod ref") => `(tactic| (k_dflt (refine lacks_method (by k_asm) (by k_mem) (by assumption) ?_)))
local macro_rules | `(tactic| walk_at "exec If") => `(tactic| refine wpAny_If ?_)
local macro_rules | `(tactic| walk_at "ite") => `(tactic| (with_reducible refine ite_yes ?c ?_; (case c => (k_dflt (exact rfl)))))
local macro_rules | `(tactic| walk_at "eval Dict") => `(tactic| ((with_reducible refine' lacks_made tbl0 ?h0 ?h1 ?h2 ?h3 ?h4 ?h5 ?h6 ?h7 ?h8 ?h9 ?h10 ?_); (case h0 => (k_dflt decide)); (case h1 => (k_dflt rfl)); (case h2 => (k_dflt rfl)); (case h3 => decide +kernel); (case h4 => (k_dflt rfl)); (case h5 => (k_dflt rfl)); (case h6 => exact List.cons_ne_nil _ _); (case h7 => (k_dflt decide)); (case h8 => k_asm); (case h9 => k_asm); (case h10 => exact TopRead.nolimit (by k_asm)); intro da do' h' tk' hLa l1 F N; (try k_lt l1)))
local macro_rules | `(tactic| walk_at "eval Dict") => `(tactic| ((with_reducible refine' lacks_made tbl1 ?h0 ?h1 ?h2 ?h3 ?h4 ?h5 ?h6 ?h7 ?h8 ?h9 ?h10 ?_); (case h0 => (k_dflt decide)); (case h1 => (k_dflt rfl)); (case h2 => (k_dflt rfl)); (case h3 => decide +kernel); (case h4 => (k_dflt rfl)); (case h5 => (k_dflt rfl)); (case h6 => exact List.cons_ne_nil _ _); (case h7 => (k_dflt decide)); (case h8 => k_asm); (case h9 => k_asm); (case h10 => exact TopRead.nolimit (by k_asm)); intro da do' h' tk' hLa l1 F N; (try k_lt l1)))
set_option maxHeartbeats 8000000 in
theorem tol0_walk (w : World) (l : Addr) (vs : List Value) (ns : List Int) (t : Tok) (hi : IntsAre vs ns) (hn : (isort ns).length ≤ 4) (hns : ∀ n ∈ isort ns, 1 ≤ n ∧ n ≤ 10) (hn2 : ns.length ≤ 4) : Tell w 2 102 [.ref l, .int 0 t] (fun s => s.heap.IsList l vs.toArray) (fun _ v _ => ∃ t, v = .int (told tbl0 (isort ns)) t) := by
  w_top off
  k_with_none
  unfold Tell PG; k_fill
  intro loose mean mg mb dp un gd cn cs a ccd cl outer A₀ base h₀ L m s Q E B F X T hk hdp hun hpre hret
  refine wpAny_call ?_
  k_dflt (walk_at "mc enter")
  intro g' L' h' FG' F' N' B' X' T' kG'
  have kE := GSub.ext kG'
  clear kG'
  (try dsimp only)
  have hl := kE.list hpre; clear hpre
  clear F B X T FG'
  (try k_fold)
  k_steps
  all_goals (refine mc_leave (w := w) (s := s) (Post := fun _ v _ => ∃ t, v = .int (told tbl0 (isort ns)) t) hret kE (by assumption) (by assumption) ?_)
  all_goals (first | exact told_fin (by assumption) | exact told_brk (by assumption) (by assumption))
end
end

section
open PySem PySem.W PyProof.Rows PySem.Calls
set_option maxRecDepth 100000
local macro_rules | `(tactic| walk_at "mc enter") => `(tactic| (refine' code_defG (news := []) ?k1 ?k2 ?k3 ?k4 ?k5 ?kA ?kF ?kK ?k6 ?k7 ?k8 ?k9 ?kB ?_ ?c2 ?c3 ?c4 ?c5; (case kA => exact rfl); (case kF => exact rfl); (case kK => assumption); (case k1 => k_asm); (case k2 => k_asm); (case k3 => k_asm); (case k4 => exact fun _ hp => nomatch hp); (case k5 => k_asm); (case k6 => k_is); (case k7 => k_is); (case k8 => ktr_room); (case k9 => first | exact BindsTo.of_eq rfl | exact binds_K (by k_in) rfl (by k_is) rfl rfl rfl | (refine' kp_binds ?kx ?ke; (case kx => k_in); (case ke => exact fun _ => rfl))); (case c5 => decide); (case kB => exact locs rfl); (case c2 => exact rfl); (case c3 => exact rfl); (case c4 => exact rfl); k_whole))
local macro_rules | `(tactic| walk_at "pad 0") => `(tactic| skip)
section

local macro_rules | `(tactic| walk_at "call builtin:sorted") => `(tactic| (k_dflt (refine sorted_here (by k_asm) (by k_asm) (by assumption) (by assumption) (by assumption) ?_); intro D' v' c' h' F' N' l1 i'; (try k_lt l1)))
local macro_rules | `(tactic| walk_at "pyIter ref") => `(tactic| ((rename Fr _ _ _ _ => lF'); (rename News _ _ _ _ => lN'); (refine told_loop (y := Str.ofString "known") tbl1 (by rfl) lF' lN' (by k_mem) (by assumption) (by assumption) (by assumption) (by with_unfolding_all rfl) (by decide) ?turn ?fin); (case' turn => (clear lF' lN'; intro n tn k tk' rest h tk own hn1 hn2 hT hk F N; (try dsimp only [List.cons_append, List.nil_append] at N))); (case' fin => (clear lF' lN'; intro u k t h tk hT F N))))
local macro_rules | `(tactic| walk_at "inplaceOp Add str str") => `(tactic| (refine PyProof.Rows.iadd_str ?_ (iadd_sz _ (by assumption)); intro _ _))
local macro_rules | `(tactic| walk_at "InvEndN") => `(tactic| (with_unfolding_all refine told_end (by assumption) (by assumption) (ToldAt.next (by assumption) (by assumption)) (by rfl) ?_; intro z h1 h2; first | rfl | (simp [h1, h2]; done)))
local macro_rules | `(tactic| walk_at "call type:str") => `(tactic| (k_dflt (refine str_here (by assumption) (by assumption) ?_); intro tg kg))
local macro_rules | `(tactic| walk_at "call builtin:dict.get") => `(tactic| (k_dflt (refine lacks_get (tbl := tbl1) (by k_asm) (by k_mem) (by assumption) ?_); intro tg))
local macro_rules | `(tactic| walk_at "getMethod ref") => `(tactic| (k_dflt (refine lacks_method (by k_asm) (by k_mem) (by assumption) ?_)))
local macro_rules | `(tactic| walk_at "exec If") => `(tactic| refine wpAny_If ?_)
local macro_rules | `(tactic| walk_at "ite") => `(tactic| (with_reducible refine ite_yes ?c ?_; (case c => (k_dflt (exact rfl)))))
local macro_rules | `(tactic| walk_at "eval Dict") => `(tactic| ((with_reducible refine' lacks_made tbl0 ?h0 ?h1 ?h2 ?h3 ?h4 ?h5 ?h6 ?h7 ?h8 ?h9 ?h10 ?_); (case h0 => (k_dflt decide)); (case h1 => (k_dflt rfl)); (case h2 => (k_dflt rfl)); (case h3 => decide +kernel); (case h4 => (k_dflt rfl)); (case h5 => (k_dflt rfl)); (case h6 => exact List.cons_ne_nil _ _); (case h7 => (k_dflt decide)); (case h8 => k_asm); (case h9 => k_asm); (case h10 => exact TopRead.nolimit (by k_asm)); intro da do' h' tk' hLa l1 F N; (try k_lt l1)))
local macro_rules | `(tactic| walk_at "eval Dict") => `(tactic| ((with_reducible refine' lacks_made tbl1 ?h0 ?h1 ?h2 ?h3 ?h4 ?h5 ?h6 ?h7 ?h8 ?h9 ?h10 ?_); (case h0 => (k_dflt decide)); (case h1 => (k_dflt rfl)); (case h2 => (k_dflt rfl)); (case h3 => decide +kernel); (case h4 => (k_dflt rfl)); (case h5 => (k_dflt rfl)); (case h6 => exact List.cons_ne_nil _ _); (case h7 => (k_dflt decide)); (case h8 => k_asm); (case h9 => k_asm); (case h10 => exact TopRead.nolimit (by k_asm)); intro da do' h' tk' hLa l1 F N; (try k_lt l1)))
set_option maxHeartbeats 8000000 in
theorem tol1_walk (w : World) (l : Addr) (vs : List Value) (ns : List Int) (t : Tok) (hi : IntsAre vs ns) (hn : (isort ns).length ≤ 4) (hns : ∀ n ∈ isort ns, 1 ≤ n ∧ n ≤ 10) (hn2 : ns.length ≤ 4) : Tell w 2 102 [.ref l, .int 1 t] (fun s => s.heap.IsList l vs.toArray) (fun _ v _ => ∃ t, v = .int (told tbl1 (isort ns)) t) := by
  w_top off
  k_with_none
  unfold Tell PG; k_fill
  intro loose mean mg mb dp un gd cn cs a ccd cl outer A₀ base h₀ L m s Q E B F X T hk hdp hun hpre hret
  refine wpAny_call ?_
  k_dflt (walk_at "mc enter")
  intro g' L' h' FG' F' N' B' X' T' kG'
  have kE := GSub.ext kG'
  clear kG'
  (try dsimp only)
  have hl := kE.list hpre; clear hpre
  clear F B X T FG'
  (try k_fold)
  k_steps
  all_goals (refine mc_leave (w := w) (s := s) (Post := fun _ v _ => ∃ t, v = .int (told tbl1 (isort ns)) t) hret kE (by assumption) (by assumption) ?_)
  all_goals (first | exact told_fin (by assumption) | exact told_brk (by assumption) (by assumption))
end
end

section
open PySem PySem.W PyProof.Rows PySem.Calls PyProof.Rows.LCg
set_option maxRecDepth 100000

/-- the end of an element: what stood in the ledger stands, the value is as told -/
def EltEnd (h₀ : Heap) (L : Addr) (m : Str → Option Value) (s : Shared) (news : List (Addr × Obj)) (R : Value → Prop) (y : Value) (s' : Shared) : Prop :=
  ∃ h' tk' news', s' = { s with heap := h', toks := tk' } ∧ Fr h₀ L h' m ∧ News h₀ L h' news' ∧ (∀ p ∈ news, p ∈ news') ∧ R y
theorem EltEnd.intro {h₀ : Heap} {L : Addr} {m : Str → Option Value} {s : Shared} {news news' : List (Addr × Obj)} {R : Value → Prop} {y : Value} {h' : Heap} {tk' : Nat} (F : Fr h₀ L h' m) (N : News h₀ L h' news') (hs : ∀ p ∈ news, p ∈ news') (hr : R y) :
    EltEnd h₀ L m s news R y { s with heap := h', toks := tk' } := ⟨h', tk', news', rfl, F, N, hs, hr⟩

theorem off1_of {D : Addr} : ∀ {l : List (Addr × Obj)}, (∀ p ∈ l, p.1 ≠ D) → Off1 D l
  | [], _ => trivial
  | _ :: _, h => ⟨h _ List.mem_cons_self, off1_of fun p hp => h p (List.mem_cons_of_mem _ hp)⟩

/-- the turns of a block over enumerate(a list) -/
def EnumTurns (prog : Program) (w : World) (A : Around) (h₀ : Heap) (L : Addr) (m : Str → Option Value) (env : Env) (elt : Expr) (a b : Str) (scope : Scope) (cl : List (Str × Addr)) (s : Shared) (vs : List Value) (news : List (Addr × Obj)) (R : Value → Prop) : Prop :=
  ∀ (i : Nat) x t e oe it oit C oC D ys m₂ h tk (E' : Value → Shared → Prop), vs[i]? = some x → NsObj oC m₂ → m₂ a = some (.int (i : Int) t) → m₂ b = some x → Fr h₀ L h m → News h₀ L h ((e, oe) :: (it, oit) :: (C, oC) :: (D, lst ys) :: news) →
    wpAny (model prog w) A (eval elt (compEnvC scope cl C env)) (EltEnd h₀ L m { s with heap := h, toks := tk } ((e, oe) :: (it, oit) :: (C, oC) :: (D, lst ys) :: news) R) E' { s with heap := h, toks := tk }

def EnumSrc (prog : Program) (w : World) (A : Around) (h₀ : Heap) (L : Addr) (m : Str → Option Value) (env : Env) (elt : Expr) (a b : Str) (scope : Scope) (cl : List (Str × Addr)) (Fin : Shared → List Value → List (Addr × Obj) → Prop) (xv : Value) (s₁ : Shared) : Prop :=
  ∃ e it l vs k news R, xv = .ref e ∧ A.handled = none ∧ Fr h₀ L s₁.heap m ∧ News h₀ L s₁.heap news ∧ (l, listOf vs.toArray k) ∈ news ∧ IsEnum s₁.heap e it 0 .none ∧ s₁.heap.IsListIter it l 0 ∧ e ≠ it ∧ e ≠ L ∧ it ≠ L ∧ h₀.get? e = none ∧ h₀.get? it = none ∧ (∀ p ∈ news, p.1 ≠ e ∧ p.1 ≠ it) ∧
    vs.length ≤ sizeLine ∧ (∀ s₂ : Shared, (∃ h, s₂ = { s₁ with heap := h }) → EnumTurns prog w A h₀ L m env elt a b scope cl s₂ vs news R) ∧ ∀ g ys, ys.length = vs.length → (∀ y ∈ ys, R y) → Fin { s₁ with heap := g } ys news

section
variable {prog : Program} {w : World} {A : Around} {E : Value → Shared → Prop} {s : Shared} {h₀ : Heap} {L : Addr} {m : Str → Option Value} {env : Env}

theorem enum_block {elt iter : PySem.Expr} {a b : Str} {pa pb tp : Pos} {kk : Nat} {scope : Scope} {cl : List (Str × Addr)} {pos : Pos} {s₂ : Shared} {e it l : Addr} {vs : List Value} {kn : Nat} {news : List (Addr × Obj)} {P : Value → Prop} {RR : Value → Addr → Result → Shared → Prop}
    (hh : A.handled = none) (hei : e ≠ it) (hsz : vs.length ≤ sizeLine) (hlm : (l, listOf vs.toArray kn) ∈ news) (hE : IsEnum s₂.heap e it 0 .none) (hI : s₂.heap.IsListIter it l 0)
    (hcell : ∀ y ∈ scope.names, y.2 ≠ .cell) (hkind : scope.kind = .function) (hxa : scope.names.lookup a = some .local) (hxb : scope.names.lookup b = some .local) (hab : ¬ a = b)
    (F : Fr h₀ L s₂.heap m) (N : News h₀ L s₂.heap news) (heL : e ≠ L) (hiL : it ≠ L) (he₀ : h₀.get? e = none) (hi₀ : h₀.get? it = none) (off : ∀ p ∈ news, p.1 ≠ e ∧ p.1 ≠ it)
    (R : EnumTurns prog w A h₀ L m env elt a b scope cl s₂ vs news P)
    (hRR : ∀ D C h tk m' ys, Fr h₀ L h m → News h₀ L h ((D, lst ys) :: news) → Off1 D news → h.Ns C m' → h₀.get? C = none → h₀.get? D = none → C ≠ L → D ≠ L → C ≠ D → (∀ p ∈ news, p.1 ≠ C) → ys.length = vs.length → (∀ y ∈ ys, P y) → RR (.ref D) C (.ok .next) { s₂ with heap := h, toks := tk }) :
    wpAny (model prog w) A (newList []) (fun acc s₃ => wpAny (model prog w) A (newFunctionEnv scope env.globals cl [] env.qual none .none (some env)) (fun cenv s₄ =>
      codeAny (model prog w) A (.compStart (.ListComp elt [⟨.Tuple [.Name a pa, .Name b pb] kk tp, iter, [], 0⟩] scope pos) 0 (.ref e) acc { cenv with scope := relabel scope env }) (RR acc cenv.locals) s₄) E s₃) E s₂ := by
  refine wpAny_newObj_type (wpAny_newFunctionEnv hcell (by intro y hy; simp at hy) (fun h₁ hns₁ hsb₁ => ?_) hkind)
  dsimp only at hns₁ hsb₁ ⊢
  generalize hH2 : s₂.heap.push { cls := .type "list", dict := none, data := .seq ([] : List Value).toArray } = H2 at hns₁ hsb₁ ⊢
  have hC : H2.objs.size = s₂.heap.objs.size + 1 := by rw [← hH2, Heap.size_push]
  have hDC : s₂.heap.objs.size ≠ H2.objs.size := by rw [hC]; exact Nat.ne_of_lt (Nat.lt_succ_self _)
  have below : ∀ b, b < s₂.heap.objs.size → b ≠ H2.objs.size ∧ b ≠ s₂.heap.objs.size := fun b hb => ⟨by rw [hC]; exact Nat.ne_of_lt (Nat.lt_succ_of_lt hb), Nat.ne_of_lt hb⟩
  have helt : e < s₂.heap.objs.size := Heap.lt_size hE
  have hilt : it < s₂.heap.objs.size := by obtain ⟨_, x, _⟩ := hI; exact Heap.lt_size x
  have old : ∀ b o, s₂.heap.get? b = some o → h₁.get? b = some o := fun b o e => hsb₁.extBut b o (below b (Heap.lt_size e)).1 (Heap.get?_push_of_some _ (hH2 ▸ Heap.get?_push_of_some _ e))
  have hacc : h₁.get? s₂.heap.objs.size = some (lst []) := hsb₁.extBut _ _ hDC (Heap.get?_push_of_some _ (hH2 ▸ Heap.get?_push_size _ rfl))
  have fresh : ∀ a, s₂.heap.objs.size ≤ a → s₂.heap.get? a = none := fun a ha => by
    cases q : s₂.heap.get? a with
    | none => rfl
    | some o' => exact absurd (Heap.lt_size q) (Nat.not_lt.mpr ha)
  have fresh₀ : ∀ a, s₂.heap.objs.size ≤ a → h₀.get? a = none := fun a ha => by
    cases q : h₀.get? a with
    | none => rfl
    | some o' => have := F.keep a o' q; rw [fresh a ha] at this; cases this
  have hD₀ : h₀.get? s₂.heap.objs.size = none := fresh₀ _ (Nat.le_refl _)
  have hC₀ : h₀.get? H2.objs.size = none := fresh₀ _ (by rw [hC]; exact Nat.le_succ _)
  have hLlt : L < s₂.heap.objs.size := F.ns.lt
  have hDL : s₂.heap.objs.size ≠ L := Ne.symm (below L hLlt).2
  have hCL : H2.objs.size ≠ L := Ne.symm (below L hLlt).1
  have hCe : e ≠ H2.objs.size := (below e helt).1
  have hDe : e ≠ s₂.heap.objs.size := (below e helt).2
  have hCi : it ≠ H2.objs.size := (below it hilt).1
  have hDi : it ≠ s₂.heap.objs.size := (below it hilt).2
  have offC : ∀ p ∈ news, p.1 ≠ H2.objs.size := fun p hp => (below _ (Heap.lt_size (N p hp).1)).1
  have offD : ∀ p ∈ news, p.1 ≠ s₂.heap.objs.size := fun p hp => (below _ (Heap.lt_size (N p hp).1)).2
  have hle : l ≠ e := (off _ hlm).1
  have hli : l ≠ it := (off _ hlm).2
  have lst_of : ∀ {h' : Heap}, News h₀ L h' news → h'.IsList l vs.toArray := fun N => ⟨_, (N _ hlm).1, rfl, _, rfl⟩
  have W := KTurns.ofWalksU (elts := [.Name a pa, .Name b pb]) (k := kk) (pos := tp) (WalksT.enumerate (prog := prog) (w := w) hh e it l hei hle hli vs.toArray).toU
  have loop : ∀ s₃ : Shared, s₃ = { s₂ with heap := h₁, toks := s₂.toks + ([] : List (Str × Value)).length } →
      codeAny (model prog w) A (.compLoop (.ListComp elt [⟨.Tuple [.Name a pa, .Name b pb] kk tp, iter, [], 0⟩] scope pos) 0 (.ref e) (.ref s₂.heap.objs.size) (compEnvC scope cl H2.objs.size env))
        (RR (.ref s₂.heap.objs.size) H2.objs.size) s₃ := by
    rintro s₃ rfl
    refine kcp_loop
      (fun k s' => ∃ h' tk i ys m', s' = { s₂ with heap := h', toks := tk } ∧ i ≤ vs.length ∧ k = vs.length + 1 - i ∧ ys.length = i ∧ (∃ old, IsEnum h' e it (i : Nat) old) ∧ h'.IsListIter it l i ∧ Fr h₀ L h' m ∧ h'.Ns H2.objs.size m' ∧
        News h₀ L h' ((s₂.heap.objs.size, lst ys) :: news) ∧ ∀ y ∈ ys, P y) ?_ (vs.length + 1)
      ⟨h₁, _, 0, [], _, rfl, Nat.zero_le _, rfl, rfl, ⟨_, old _ _ hE⟩, hI.at fun o q => old _ _ q, F.keeps old, hns₁, fun p hp => ?_, fun _ h => nomatch h⟩
    · rintro k s' ⟨h', tk, i, ys, m', rfl, hi, rfl, hyl, hE', hI', F', hn', N', hys⟩
      have hN' : News h₀ L h' news := fun p hp => N' p (List.mem_cons_of_mem _ hp)
      by_cases hlt : i < vs.length
      · refine W.item i _ _ _ (by simpa using hlt) ⟨hE', hI', lst_of hN'⟩ fun v h₂ tk₂ hMd hk₂ => ?_
        refine W.go i v _ _ _ hMd fun h₃ hP hst₃ hk₃ => ?_
        obtain ⟨T, vals, rfl, ⟨t, x, hx, rfl⟩, hT⟩ := hP
        have up₃ : ∀ c o, c ≠ e → c ≠ it → h'.get? c = some o → h₃.get? c = some o := fun c o h1 h2 q => hk₃ c o (by simp [h1, h2]) (hk₂ c o (by simp [h1, h2]) q)
        refine kcp_assign (env := compEnvC scope cl H2.objs.size env) hh hT (lookup_relabel_local hxa) (lookup_relabel_local hxb) (by simp [compEnvC, relabel, hkind]) (hn'.at' fun o q => up₃ _ o (Ne.symm hCe) (Ne.symm hCi) q) fun h₄ tk₄ hn₄ hs₄ => ?_
        have up : ∀ c o, c ≠ e → c ≠ it → c ≠ H2.objs.size → h'.get? c = some o → h₄.get? c = some o := fun c o h1 h2 h3 q => hs₄ c o h3 (up₃ c o h1 h2 q)
        obtain ⟨⟨old', hE₃⟩, ⟨oi, hoi, hic, hid⟩, _⟩ := hst₃
        have hE₄ : IsEnum h₄ e it ((i + 1 : Nat) : Int) old' := hs₄ e _ hCe hE₃
        obtain ⟨oe, hee, hoe⟩ : ∃ oe : Obj, h₄.get? e = some oe ∧ ∀ h : Heap, h.get? e = some oe → ∃ old, IsEnum h e it ((i + 1 : Nat) : Int) old := ⟨_, hE₄, fun _ q => ⟨_, q⟩⟩
        have hoi₄ : h₄.get? it = some oi := hs₄ it _ hCi hoi
        obtain ⟨oC, heC, hoC⟩ := ns_obj hn₄
        have F₄ : Fr h₀ L h₄ m := ⟨F'.ns.at' fun o q => up _ o (Ne.symm heL) (Ne.symm hiL) (Ne.symm hCL) q, fun c o q => up c o (fun z => by rw [z, he₀] at q; cases q) (fun z => by rw [z, hi₀] at q; cases q) (fun z => by rw [z, hC₀] at q; cases q) (F'.keep c o q), F'.above⟩
        have N₄ : News h₀ L h₄ ((e, oe) :: (it, oi) :: (H2.objs.size, oC) :: (s₂.heap.objs.size, lst ys) :: news) := fun q hq => by
          rcases List.mem_cons.mp hq with rfl | hq
          · exact ⟨hee, heL, he₀⟩
          rcases List.mem_cons.mp hq with rfl | hq
          · exact ⟨hoi₄, hiL, hi₀⟩
          rcases List.mem_cons.mp hq with rfl | hq
          · exact ⟨heC, hCL, hC₀⟩
          have z := N' q hq
          rcases List.mem_cons.mp hq with rfl | hq
          · exact ⟨up _ _ (Ne.symm hDe) (Ne.symm hDi) hDC z.1, z.2⟩
          · exact ⟨up _ _ (off q hq).1 (off q hq).2 (offC q hq) z.1, z.2⟩
        refine wpAny_mono (R i x t e oe it oi H2.objs.size oC s₂.heap.objs.size ys _ h₄ _ _ (by simpa using hx) hoC (by simp [hab]) (by simp) F₄ N₄) (fun y s₅ h₅ => ?_) fun _ _ q => q
        obtain ⟨h₅, tk₅, news₅, rfl, F₅, N₅', sub, hPy⟩ := h₅
        have N₅ : News h₀ L h₅ ((e, oe) :: (it, oi) :: (H2.objs.size, oC) :: (s₂.heap.objs.size, lst ys) :: news) := fun p hp => N₅' p (sub p hp)
        have zE := (N₅ (e, oe) List.mem_cons_self).1
        have zI := (N₅ (it, oi) (List.mem_cons_of_mem _ List.mem_cons_self)).1
        have zC := (N₅ (H2.objs.size, oC) (List.mem_cons_of_mem _ (List.mem_cons_of_mem _ List.mem_cons_self))).1
        have zD := (N₅ (s₂.heap.objs.size, lst ys) (List.mem_cons_of_mem _ (List.mem_cons_of_mem _ (List.mem_cons_of_mem _ List.mem_cons_self)))).1
        have zN : News h₀ L h₅ news := fun q hq => N₅ q (List.mem_cons_of_mem _ (List.mem_cons_of_mem _ (List.mem_cons_of_mem _ (List.mem_cons_of_mem _ hq))))
        refine append_at (hsz := by show ys.toArray.size ≤ sizeLine; rw [List.size_toArray, hyl]; exact Nat.le_trans hi hsz) zD fun h₆ hs₆ hD₆ => ?_
        refine ⟨vs.length + 1 - (i + 1), by omega, h₆, tk₅, i + 1, ys ++ [y], _, rfl, hlt, rfl, by rw [List.length_append, List.length_singleton, hyl], hoe h₆ (hs₆.extBut e oe hDe zE), ⟨oi, hs₆.extBut it oi hDi zI, hic, hid⟩, F₅.change hs₆ hDL hD₀,
          (hoC.ns zC).sameBut hs₆ (Ne.symm hDC), fun q hq => ?_, fun z hz => ?_⟩
        · rcases List.mem_cons.mp hq with rfl | hq
          · exact ⟨hD₆.trans (congrArg some (lst_snoc ys y)), hDL, hD₀⟩
          · exact ⟨hs₆.extBut _ _ (offD q hq) (zN q hq).1, (zN q hq).2⟩
        · rcases List.mem_append.mp hz with hz | hz
          · exact hys z hz
          · rw [List.mem_singleton.mp hz]; exact hPy
      · obtain rfl : i = vs.length := Nat.le_antisymm hi (Nat.not_lt.mp hlt)
        refine W.done _ _ _ ⟨by simpa using hE', by simpa using hI', lst_of hN'⟩ fun h₂ tk₂ hk₂ => ?_
        have up : ∀ c o, c ≠ e → c ≠ it → h'.get? c = some o → h₂.get? c = some o := fun c o h1 h2 q => hk₂ c o (by simp [h1, h2]) q
        refine hRR _ _ h₂ tk₂ _ ys ⟨F'.ns.at' fun o q => up _ o (Ne.symm heL) (Ne.symm hiL) q, fun c o q => up c o (fun z => by rw [z, he₀] at q; cases q) (fun z => by rw [z, hi₀] at q; cases q) (F'.keep c o q), F'.above⟩ (fun p hp => ?_) (off1_of offD)
          (hn'.at' fun o q => up _ o (Ne.symm hCe) (Ne.symm hCi) q) hC₀ hD₀ hCL hDL (Ne.symm hDC) offC hyl hys
        have z := N' p hp
        rcases List.mem_cons.mp hp with rfl | hp
        · exact ⟨up _ _ (Ne.symm hDe) (Ne.symm hDi) z.1, z.2⟩
        · exact ⟨up _ _ (off p hp).1 (off p hp).2 z.1, z.2⟩
    · rcases List.mem_cons.mp hp with rfl | hp
      · exact ⟨hacc, hDL, hD₀⟩
      · exact ⟨old _ _ (N p hp).1, (N p hp).2⟩
  exact codeAny_compStart_list (loop _ rfl) (wpAny_pyIter_enum (old _ _ hE) (loop _ rfl))

theorem enum_assign {elt iter : Expr} {a b y : Str} {pa pb tp py : Pos} {kk : Nat} {scope : Scope} {cl : List (Str × Addr)} {pos spos : Pos} {Q : Flow → Shared → Prop} (_F₀ : Fr h₀ L s.heap m) (hLe : env.locals = L)
    (hsw : swapsWith (.ListComp elt [⟨.Tuple [.Name a pa, .Name b pb] kk tp, iter, [], 0⟩] scope pos) (some (.Name y py)) spos.line env = pure true)
    (hclos : closureFor scope env = pure cl) (hcell : ∀ z ∈ scope.names, z.2 ≠ .cell) (hkind : scope.kind = .function)
    (hnames : ∀ z ∈ scope.names, z.2 = .local → scope.names.lookup z.1 = some .local) (hxa : scope.names.lookup a = some .local) (hxb : scope.names.lookup b = some .local) (hab : ¬ a = b)
    (hy : env.kindOf y = some .local) (hp : (env.scope.kind == .class || (env.scope.kind == .module && env.locals != env.globals)) = false)
    (h : wpAny (model prog w) A (eval iter env) (EnumSrc prog w A h₀ L m env elt a b scope cl (fun s₂ => FinA h₀ L m s₂ y Q)) E s)
    (hs : ∀ x, foldedSetIterable iter env x = pure x := by intro _; rfl) :
    wpAny (model prog w) A (exec (.Assign [.Name y py] (.ListComp elt [⟨.Tuple [.Name a pa, .Name b pb] kk tp, iter, [], 0⟩] scope pos) spos) env) Q E s := by
  subst hLe
  rw [exec_Assign_Name_used _ _ _ _ hsw]
  refine wpAny_bind (wpAny_standAt (wpAny_bind ?_))
  show wpAny _ A (do let _ ← comprehension (.ListComp elt [⟨.Tuple [.Name a pa, .Name b pb] kk tp, iter, [], 0⟩] scope pos) scope env _ (newList []) false (eval iter env) (some (assign (.Name y py) env))) _ _ s
  refine wpAny_bind (wpAny_mono (wpAny_comprehension_free (use := some (assign (.Name y py) env)) (Q := fun _ s' => Q .next s') rfl hs hclos hkind hnames
    (wpAny_mono h (fun xv s₁ h₁ => ?_) fun _ _ e => e)) (fun _ s' hq => wpAny_pure (wpAny_pure hq)) fun _ _ e => e)
  obtain ⟨e, it, l, vs, k, news, R, rfl, hh, F, N, hlm, hE, hI, hei, heL, hiL, he₀, hi₀, off, hsz, turn, fin⟩ := h₁
  refine wpAny_pyIter_enum hE ?_
  refine enum_block hh hei hsz hlm hE hI hcell hkind hxa hxb hab F N heL hiL he₀ hi₀ off (turn _ ⟨_, rfl⟩) ?_
  intro D C h' tk m' ys F' N' o1 hn hC₀ hD₀ hCL hDL hCD offC hlen hP
  show wpAny _ A (assign (.Name y py) env (.ref D)) _ _ _
  refine wpAny_assign_Name (wpAny_storeName_local hy F'.ns (fun h₂ hn₂ hs₂ => ?_) hp)
  have hL₀ : h₀.get? env.locals = none := Heap.get?_none_of_le F'.above
  have F₂ : Fr h₀ env.locals h₂ (fun z => if z = y then some (.ref D) else m z) := ⟨hn₂, fun b o e => hs₂.extBut b o (fun q => by rw [q, hL₀] at e; cases e) (F'.keep b o e), F'.above⟩
  refine ⟨m', hn.sameBut hs₂ hCL, fun h'' hs'' => fin h'' ys hlen hP D h'' _ (F₂.change hs'' hCL hC₀) (fun p hp => ?_) o1⟩
  have z : h₂.get? p.1 = some p.2 := hs₂.extBut _ _ (N' p hp).2.1 (N' p hp).1
  refine ⟨hs''.extBut _ _ ?_ z, (N' p hp).2⟩
  rcases List.mem_cons.mp hp with rfl | hp
  · exact Ne.symm hCD
  · exact offC p hp

theorem enum_call {elt : Expr} {a b : Str} {scope : Scope} {cl : List (Str × Addr)} {Fin : Shared → List Value → List (Addr × Obj) → Prop} {l : Addr} {vs : List Value} {k : Nat} {news : List (Addr × Obj)} (R : Value → Prop) (hh : A.handled = none) (F : Fr h₀ L s.heap m) (N : News h₀ L s.heap news) (hlm : (l, listOf vs.toArray k) ∈ news) (hsz : vs.length ≤ sizeLine)
    (hv : ∀ v ∈ vs, ∃ n t, v = Value.int n t)
    (turn : ∀ (i : Nat) n t tn e oe it oit C oC D ys m₂ h tk (E' : Value → Shared → Prop), i < vs.length → NsObj oC m₂ → m₂ a = some (.int (i : Int) t) → m₂ b = some (.int n tn) → Fr h₀ L h m → News h₀ L h ((e, oe) :: (it, oit) :: (C, oC) :: (D, lst ys) :: news) →
      wpAny (model prog w) A (eval elt (compEnvC scope cl C env)) (EltEnd h₀ L m { s with heap := h, toks := tk } ((e, oe) :: (it, oit) :: (C, oC) :: (D, lst ys) :: news) R) E' { s with heap := h, toks := tk })
    (fin : ∀ g ys, ys.length = vs.length → (∀ y ∈ ys, R y) → Fin { s with heap := g } ys news) :
    wpAny (model prog w) A (call (.type "enumerate") [.ref l]) (EnumSrc prog w A h₀ L m env elt a b scope cl Fin) E s := by
  have hl : s.heap.IsList l vs.toArray := ⟨_, (N _ hlm).1, rfl, _, rfl⟩
  have hLs : L < s.heap.objs.size := F.ns.lt
  have fresh₀ : ∀ a, s.heap.objs.size ≤ a → h₀.get? a = none := fun a ha => by
    cases q : h₀.get? a with
    | none => rfl
    | some o' => exact absurd (Heap.lt_size (F.keep a o' q)) (Nat.not_lt.mpr ha)
  refine call_enumerate_list hl fun h' hE hI hsz' hk => ?_
  refine ⟨s.heap.objs.size + 1, s.heap.objs.size, l, vs, k, news, R, rfl, hh, F.keeps hk, N.grown hk, hlm, hE, hI, Nat.succ_ne_self _, Nat.ne_of_gt (Nat.lt_succ_of_lt hLs), Nat.ne_of_gt hLs, fresh₀ _ (Nat.le_succ _), fresh₀ _ (Nat.le_refl _), fun p hp => ⟨Nat.ne_of_lt (Nat.lt_succ_of_lt (Heap.lt_size (N p hp).1)), Nat.ne_of_lt (Heap.lt_size (N p hp).1)⟩, hsz, ?_, fun g => fin g⟩
  rintro s₂ ⟨g, rfl⟩ i x t e oe it oit C oC D ys m₂ h tk E' hx hC ha hb F N
  obtain ⟨n, tn, rfl⟩ := hv x (List.mem_of_getElem? hx)
  exact turn i n t tn e oe it oit C oC D ys m₂ h tk E' (List.getElem?_eq_some_iff.mp hx).1 hC ha hb F N
theorem five {R : Value → Prop} {ys : List Value} {n : Nat} (hn : n = 5) (h : ys.length = n) (hR : ∀ y ∈ ys, R y) : ∃ y0 y1 y2 y3 y4, ys = [y0, y1, y2, y3, y4] ∧ R y0 ∧ R y1 ∧ R y2 ∧ R y3 ∧ R y4 := by
  subst hn
  match ys, h with
  | [y0, y1, y2, y3, y4], _ => exact ⟨y0, y1, y2, y3, y4, rfl, hR _ (by simp), hR _ (by simp), hR _ (by simp), hR _ (by simp), hR _ (by simp)⟩
end
end

section
open PySem PySem.W PyProof.Rows PySem.Calls PyProof.Rows.LCg
set_option maxRecDepth 100000
section
variable {prog : Program} {w : World} {A : Around} {E : Value → Shared → Prop} {s : Shared} {h₀ : Heap} {L l : Addr} {m : Str → Option Value} {news : List (Addr × Obj)} {value slice : Expr} {Q : Value → Shared → Prop}

/-- cells[place::5]: ints again -/
theorem step_slice {ys : List Value} {ms : List Int} {i k : Int} {t u : Tok} {ops : List Value} (F : Fr h₀ L s.heap m) (N : News h₀ L s.heap news) (hm : (l, lst ys) ∈ news) (hy : IntsAre ys ms) (hlen : ys.length ≤ 10) (hk : k ≠ 0)
    (h : ∀ D ws ks h', Fr h₀ L h' m → News h₀ L h' ((D, listOf (List.toArray ws) 0) :: news) → (∀ p ∈ news, p.1 < D) → IntsAre ws ks → Q (.ref D) { s with heap := h' })
    (hs : subscripted slice false (.ref l) (.ref s.heap.objs.size) = operate ops (getItem (.ref l) (.ref s.heap.objs.size))) (ht : ∀ r, letTemporaryGo value (.ref l) r = pure ()) :
    wpAny (model prog w) A (subscriptTail value slice (.ref l) (.ref s.heap.objs.size)) Q E { s with heap := s.heap.push { cls := .type "slice", data := .fields #[.int i t, .none, .int k u] } } :=
  kmk_slice3_lit (its := ys.toArray) (lo := some i) (hi := none) (st := some k) F N ⟨_, (N _ hm).1, rfl, _, rfl⟩ (IsPart.int _ _) IsPart.none (IsPart.int _ _) (fun e => hk (Option.some.inj e)) rfl
    (fun D h' F' N' l1 => h D _ _ h' F' N' l1 (hy.pick (some i) none (some k))) hs ht (by rw [List.size_toArray, PySem.sizeLine_eq]; omega)
theorem sum_here {ws : List Value} {ks : List Int} {k : Nat} (hh : A.handled = none) (F : Fr h₀ L s.heap m) (N : News h₀ L s.heap news) (hm : (l, listOf ws.toArray k) ∈ news) (hi : IntsAre ws ks)
    (h : ∀ n t h' tk, Fr h₀ L h' m → News h₀ L h' news → Q (.int n t) { s with heap := h', toks := tk }) :
    wpAny (model prog w) A (call (.builtin "sum") [.ref l]) Q E s := by
  have hl : s.heap.IsList l ws.toArray := ⟨_, (N _ hm).1, rfl, _, rfl⟩
  obtain ⟨xs, hx⟩ := hi.allInts.items
  rw [hx] at hl
  exact sum_intListG hh hl fun h' tk t' hk => h _ _ h' tk (F.keeps hk) (N.grown hk)
/-- a rest by a small written number -/
theorem mod_small {a b : Int} {t u : Tok} (hb : 0 < b) (h : ∀ r : Nat, (r : Int) < b → Q (.int (r : Int) s.toks) { s with toks := s.toks + 1 }) : wpAny (model prog w) A (binaryOp .Mod (.int a t) (.int b u)) Q E s := by
  refine mod_int' (Int.ne_of_gt hb) ?_
  have h0 := Int.fmod_nonneg_of_pos a hb
  have h1 := Int.fmod_lt_of_pos a hb
  have e : ((a.fmod b).toNat : Int) = a.fmod b := Int.toNat_of_nonneg h0
  have := h (a.fmod b).toNat (by rw [e]; exact h1)
  rw [e] at this
  exact this
theorem item_lit {vs : List Value} {k : Int} {u : Tok} {v : Value} (N : News h₀ L s.heap news) (hm : (l, lst vs) ∈ news) (h0 : 0 ≤ k) (h1 : k < 2 ^ 63) (hx : vs[k.toNat]? = some v) (h : Q v s)
    (hs : subscripted slice false (.ref l) (.int k u) = operate [.ref l, .int k u] (getItem (.ref l) (.int k u)) := by with_unfolding_all rfl) :
    wpAny (model prog w) A (subscriptTail value slice (.ref l) (.int k u)) Q E s :=
  have hl : s.heap.IsList l vs.toArray := ⟨_, (N _ hm).1, rfl, _, rfl⟩
  tail_any hl.typeIs slot_list_getitem.lookup (wpAny_getItem_list hl h0 h1 (by simpa using hx) h) hs
theorem enum_call5 {env : Env} {elt : Expr} {a b : Str} {scope : Scope} {cl : List (Str × Addr)} {Fin : Shared → List Value → List (Addr × Obj) → Prop} {vs : List Value} {k : Nat} (hh : A.handled = none) (F : Fr h₀ L s.heap m) (N : News h₀ L s.heap news) (hlm : (l, listOf vs.toArray k) ∈ news) (h5 : vs.length = 5)
    (hv : ∀ v ∈ vs, ∃ n t, v = Value.int n t)
    (turn : ∀ (i : Nat) n t tn e oe it oit C oC D ys m₂ h tk (E' : Value → Shared → Prop), i < vs.length → NsObj oC m₂ → m₂ a = some (.int (i : Int) t) → m₂ b = some (.int n tn) → Fr h₀ L h m → News h₀ L h ((e, oe) :: (it, oit) :: (C, oC) :: (D, lst ys) :: news) →
      wpAny (model prog w) A (eval elt (compEnvC scope cl C env)) (EltEnd h₀ L m { s with heap := h, toks := tk } ((e, oe) :: (it, oit) :: (C, oC) :: (D, lst ys) :: news) (fun v => ∃ n t, v = Value.int n t)) E' { s with heap := h, toks := tk })
    (fin : ∀ g n0 t0 n1 t1 n2 t2 n3 t3 n4 t4, Fin { s with heap := g } [.int n0 t0, .int n1 t1, .int n2 t2, .int n3 t3, .int n4 t4] news) :
    wpAny (model prog w) A (call (.type "enumerate") [.ref l]) (EnumSrc prog w A h₀ L m env elt a b scope cl Fin) E s := by
  refine enum_call (fun v => ∃ n t, v = Value.int n t) hh F N hlm (by rw [h5, PySem.sizeLine_eq]; omega) hv turn fun g ys hlen hR => ?_
  obtain ⟨y0, y1, y2, y3, y4, rfl, ⟨n0, t0, rfl⟩, ⟨n1, t1, rfl⟩, ⟨n2, t2, rfl⟩, ⟨n3, t3, rfl⟩, ⟨n4, t4, rfl⟩⟩ := five h5 hlen hR
  exact fin _ _ _ _ _ _ _ _ _ _ _
theorem ints_cons {n : Int} {t : Tok} {r : List Value} (h : ∀ v ∈ r, ∃ n t, v = Value.int n t) : ∀ v ∈ Value.int n t :: r, ∃ n t, v = Value.int n t := List.forall_mem_cons.mpr ⟨⟨_, _, rfl⟩, h⟩
theorem ints_nil : ∀ v ∈ ([] : List Value), ∃ n t, v = Value.int n t := fun _ h => nomatch h
end
section
variable {prog : Program} {w : World} {A : Around} {h₀ : Heap} {L : Addr} {m : Str → Option Value} {env : Env} {elt : Expr} {x : Str} {scope : Scope} {cl : List (Str × Addr)} {news : List (Addr × Obj)}
theorem all_ints : ∀ {us : List Unit} {vs : List Value}, All2 (fun _ v => ∃ n t, v = Value.int n t) us vs → ∃ ns, IntsAre vs ns
  | _, _, .nil => ⟨[], .nil⟩
  | _, _, .cons ⟨n, t, e⟩ r => let ⟨ns, h⟩ := all_ints r; ⟨n :: ns, by subst e; exact .cons _ t h⟩
theorem cells_src {s₁ : Shared} {Fin : Shared → List Value → List (Addr × Obj) → Prop} {l : Addr} {ws : List Value} {ns : List Int} {k : Nat} (hh : A.handled = none) (F : Fr h₀ L s₁.heap m) (N : News h₀ L s₁.heap news) (hm : (l, listOf ws.toArray k) ∈ news) (hi : IntsAre ws (ns.take 10))
    (turn : ∀ (n : Int) ti I oI C oC D m₂ ys h tk (E' : Value → Shared → Prop), LCg.NsObj oC m₂ → m₂ x = some (.int n ti) → Fr h₀ L h m → News h₀ L h ((I, oI) :: (C, oC) :: (D, LCg.lst ys) :: news) → LCg.Off3 I C D news → ((@Ne Nat I C) ∧ (@Ne Nat I D) ∧ (@Ne Nat C D)) →
      wpAny (model prog w) A (eval elt (compEnvC scope cl C env)) (LCg.CompEnd h₀ L m { s₁ with heap := h, toks := tk } I oI C oC D (LCg.lst ys) (fun _ => True) (fun y news' => Elt news (fun (_ : Unit) v => ∃ n t, v = Value.int n t) () y news')) E' { s₁ with heap := h, toks := tk })
    (fin : ∀ g ys ms, IntsAre ys ms → ys.length ≤ 10 → Fin { s₁ with heap := g } ys news) : LCg.CompSrc prog w A h₀ L m env elt x scope cl Fin (.ref l) s₁ := by
  have e := hi.length
  have e2 := List.length_take_le 10 ns
  refine LCg.CompSrc.ledger hh F N hm (by rw [List.size_toArray, PySem.sizeLine_eq]; omega) fun g => ?_
  refine map_rest (ks := ns.take 10) (fun (i : Int) v => ∃ t, v = Value.int i t) (fun (_ : Unit) v => ∃ n t, v = Value.int n t) (fun _ => ()) (by rw [List.size_toArray]; exact e.symm) (fun i v _ hv => ints_at hi i v (by simpa using hv)) (.inr ⟨_, hm, rfl, _, rfl⟩) (fun k v I oI C oC D m₂ ys h tk E' hk hr hC hx F N off ne => ?_) fun ys hAll => ?_
  · obtain ⟨tv, rfl⟩ := hr
    exact turn k tv I oI C oC D m₂ ys h tk E' hC hx F N off ne
  · obtain ⟨ms, hms⟩ := all_ints hAll
    exact fin g ys ms hms (by have := hAll.len; simp at this; omega)
end
end

section
open PySem PySem.W PyProof.Rows PySem.Calls PyProof.Rows.LCg
set_option maxRecDepth 100000

/-- the sizes that a script draws -/
def Sizes (ns : List Nat) : Prop := ∃ a b c d r : Nat, a < 2 ∧ b < 3 ∧ c < 6 ∧ d < 10 ∧ r < 2 ∧ ns = [1 + a, 1 + b, 1 + c, 1 + d].take (3 + r)
theorem Sizes.all {ns : List Nat} (h : Sizes ns) : ∀ n ∈ ns, 1 ≤ n ∧ n ≤ 10 := by
  obtain ⟨a, b, c, d, r, ha, hb, hc, hd, hr, rfl⟩ := h
  intro n hn
  have := List.mem_of_mem_take hn
  simp only [List.mem_cons, List.not_mem_nil, or_false] at this
  omega
theorem Sizes.len {ns : List Nat} (h : Sizes ns) : ns.length ≤ 4 := by
  obtain ⟨a, b, c, d, r, ha, hb, hc, hd, hr, rfl⟩ := h
  exact List.length_take_le' _ _
theorem Sizes.ne {ns : List Nat} (h : Sizes ns) : ns ≠ [] := by
  obtain ⟨a, b, c, d, r, ha, hb, hc, hd, hr, rfl⟩ := h
  rw [show 3 + r = (2 + r) + 1 from by omega, List.take_succ_cons]
  exact List.cons_ne_nil _ _
/-- a list's object -/
def ListObj (o : Obj) (its : Array Value) : Prop := o.cls = .type "list" ∧ ∃ n, o.data = .seq its n
theorem ListObj.list {h₀ h : Heap} {L l : Addr} {o : Obj} {its : Array Value} {news : List (Addr × Obj)} (x : ListObj o its) (N : News h₀ L h news) (hm : (l, o) ∈ news) : h.IsList l its := ⟨o, (N _ hm).1, x.1, x.2⟩
theorem ListObj.of (its : Array Value) (n : Nat) : ListObj (listOf its n) its := ⟨rfl, n, rfl⟩

section
variable {prog : Program} {w : World} {A : Around} {E : Value → Shared → Prop} {s : Shared} {h₀ : Heap} {L l : Addr} {m : Str → Option Value} {news : List (Addr × Obj)} {value slice : Expr} {Q : Value → Shared → Prop}

theorem size_slice {a b c d r : Nat} {t0 t1 t2 t3 u : Tok} {k : Nat} (F : Fr h₀ L s.heap m) (N : News h₀ L s.heap news)
    (hm : (l, listOf #[.int (1 + (a : Int)) t0, .int (1 + (b : Int)) t1, .int (1 + (c : Int)) t2, .int (1 + (d : Int)) t3] k) ∈ news) (ha : (a : Int) < 2) (hb : (b : Int) < 3) (hc : (c : Int) < 6) (hd : (d : Int) < 10) (hr : (r : Int) < 2)
    (h : ∀ D ws ns h', Fr h₀ L h' m → News h₀ L h' ((D, listOf (List.toArray ws) 0) :: news) → (∀ p ∈ news, p.1 < D) → Sizes ns → IntsAre ws (ns.map fun (n : Nat) => (n : Int)) → Q (.ref D) { s with heap := h' })
    (hs : subscripted slice false (.ref l) (.ref s.heap.objs.size) = operate [.ref s.heap.objs.size, .ref l] (getItem (.ref l) (.ref s.heap.objs.size))) (ht : ∀ r, letTemporaryGo value (.ref l) r = pure ()) :
    wpAny (model prog w) A (subscriptTail value slice (.ref l) (.ref s.heap.objs.size)) Q E { s with heap := s.heap.push { cls := .type "slice", data := .fields #[.none, .int (3 + (r : Int)) u, .none] } } := by
  have hy : IntsAre [.int (1 + (a : Int)) t0, .int (1 + (b : Int)) t1, .int (1 + (c : Int)) t2, .int (1 + (d : Int)) t3] [1 + (a : Int), 1 + (b : Int), 1 + (c : Int), 1 + (d : Int)] := .cons _ _ (.cons _ _ (.cons _ _ (.cons _ _ .nil)))
  have h1 := kmk_upto hy (y := 3 + (r : Int)) (by omega)
  refine kmk_slice (its := #[.int (1 + (a : Int)) t0, .int (1 + (b : Int)) t1, .int (1 + (c : Int)) t2, .int (1 + (d : Int)) t3]) (vl := .none) (vu := .int (3 + (r : Int)) u) (lo := none) (hi := some (3 + (r : Int))) F N ⟨_, (N _ hm).1, rfl, _, rfl⟩ IsPart.none (IsPart.int _ _)
    (fun D h' F' N' l1 => h D (slicePick _ none (some (3 + (r : Int))) none).toList ([1 + a, 1 + b, 1 + c, 1 + d].take (3 + r)) h' F' (by rw [Array.toArray_toList]; exact N') l1 ⟨a, b, c, d, r, by omega, by omega, by omega, by omega, by omega, rfl⟩ ?_) hs ht (by rw [PySem.sizeLine_eq]; exact Nat.le_of_ble_eq_true rfl)
  have e : (3 + (r : Int)).toNat = 3 + r := by omega
  rw [e] at h1
  have e2 : ([1 + a, 1 + b, 1 + c, 1 + d].take (3 + r)).map (fun (n : Nat) => (n : Int)) = [1 + (a : Int), 1 + (b : Int), 1 + (c : Int), 1 + (d : Int)].take (3 + r) := by
    rw [List.map_take]; simp
  rw [e2]; exact h1

theorem len_here {o : Obj} {its : Array Value} {n : Nat} (N : News h₀ L s.heap news) (hm : (l, o) ∈ news) (ho : ListObj o its) (hn : its.size = n) (hs : n ≤ 100) (h : ∀ t k', Q (.int (n : Int) t) { s with toks := k' }) :
    wpAny (model prog w) A (call (.builtin "len") [.ref l]) Q E s :=
  call_len_list (ho.list N hm) (by omega) (by rw [hn]; exact h _ _)

theorem same_strs : ∀ ns : List Str, PySem.Spec.sameAll (ns.map PyData.str) (ns.map PyData.str) = true
  | [] => by simp [PySem.Spec.sameAll]
  | a :: r => by simp [PySem.Spec.sameAll, PySem.Spec.same, same_strs r]
theorem lay_strs : ∀ {ns : List Str}, (∀ y ∈ ns, PyData.strOk y = true) → PyData.canLayAll0 (ns.map PyData.str) = true
  | [], _ => rfl
  | a :: r, h => by
    have h1 := h a List.mem_cons_self
    have h2 := lay_strs (ns := r) fun y hy => h y (List.mem_cons_of_mem _ hy)
    simp [PyData.canLayAll0, PyData.canLay0, h1, h2]
theorem depth_strs : ∀ ns : List Str, PyData.depthAll (ns.map PyData.str) = 0
  | [] => rfl
  | _ :: r => by simp [PyData.depthAll, PyData.depth, depth_strs r]
theorem shaped_strs {ns : List Str} (h : ∀ y ∈ ns, PyData.strOk y = true) : SeqAt.shaped (.list (ns.map PyData.str)) = true := by
  simp [SeqAt.shaped, PyData.canLay0, PyData.depth, lay_strs h, depth_strs]
theorem carried_strs : ∀ {vs : List Value} {ns : List Str}, StrsAre vs ns → CarriedAll vs (ns.map PyData.str)
  | _, _, .nil => .nil
  | _, _, .cons _ t r => .cons (.str _ t) (carried_strs r)
/-- two lists of the same texts -/
theorem ne_texts {a b : Addr} {xs ys : List Value} {zs : List Str} (ha : s.heap.IsList a xs.toArray) (hb : s.heap.IsList b ys.toArray) (hi : StrsAre xs zs) (hj : StrsAre ys zs) (hok : ∀ z ∈ zs, PyData.strOk z = true) (hu : A.units + 64 < cLine) (h : Q (.bool false) s) :
    wpAny (model prog w) A (compareOp .NotEq (.ref a) (.ref b)) Q E s :=
  ne_dataH_same (reads_newData ha (carried_strs hi)) (reads_newData hb (carried_strs hj)) (shaped_strs hok) (shaped_strs hok) hu (SeqAt.noMix_of_shape (.list .str) rfl _ _ (list_map_has fun _ => rfl) (list_map_has fun _ => rfl)) (by simp only [PySem.Spec.same]; rw [same_strs]; exact h)

def smallSign (c : Nat) : Bool := decide (c < 1114112)
theorem unit_small (tw b : Nat) : (unitL tw b).all smallSign = true := by
  have h : ∀ n : Nat, ((List.replicate n [97, 109, 112, 59]).flatten : List Nat).all smallSign = true := by
    intro n
    induction n with
    | zero => rfl
    | succ n ih => rw [List.replicate_succ, List.flatten_cons, List.all_append, ih]; rfl
  unfold unitL
  rw [List.all_cons, List.all_append, h]; rfl
theorem end_small (tw : Nat) : ∀ k, (endL tw k).all smallSign = true
  | 0 => rfl
  | k + 1 => by
    show (unitL tw k ++ endL tw k).all smallSign = true
    rw [List.all_append, unit_small, end_small tw k]; rfl
theorem group_small (tw k : Nat) : ∀ n, (groupL tw k n).all smallSign = true
  | 0 => rfl
  | n + 1 => by
    have ih := group_small tw k n
    unfold groupL at ih ⊢
    rw [List.replicate_succ, List.flatten_cons, List.all_append, ih, end_small]; rfl
theorem page_small (tw k : Nat) : ∀ sizes, (pageS tw k sizes).cps.toList.all smallSign = true
  | [] => rfl
  | [n] => group_small tw k n
  | a :: b :: r => by
    have ih := page_small tw k (b :: r)
    show (groupS tw k a ++ bar ++ pageS tw k (b :: r)).cps.toList.all smallSign = true
    simp only [Str.cps_append, Array.toList_append]
    rw [List.all_append, List.all_append, ih]
    have : (groupS tw k a).cps.toList.all smallSign = true := group_small tw k a
    rw [this]; rfl
theorem page_strOk (tw k : Nat) (sizes : List Nat) : PyData.strOk (pageS tw k sizes) = true := by
  unfold PyData.strOk
  rw [← Array.all_toList]
  exact page_small tw k sizes
theorem pages_strOk (tw : Nat) (ns : List Nat) : ∀ z ∈ (List.range (6 - tw)).map (fun k => pageS tw k ns), PyData.strOk z = true := fun z hz => by
  obtain ⟨k, _, rfl⟩ := List.mem_map.mp hz
  exact page_strOk tw k ns
theorem news_new {h : Heap} {o : Obj} (F : Fr h₀ L s.heap m) (N : News h₀ L s.heap news) (hn : s.heap.get? l = none) : Off1 l news ∧ l ≠ L ∧ h₀.get? l = none := by
  refine ⟨off1_of fun p hp e => ?_, fun e => ?_, ?_⟩
  · have := (N p hp).1; rw [e, hn] at this; cases this
  · obtain ⟨oL, _, _, hL, _⟩ := F.ns
    rw [← e, hn] at hL; cases hL
  · cases q : h₀.get? l with
    | none => rfl
    | some x => have := F.keep _ _ q; rw [hn] at this; cases this
end

theorem pag_any (w : World) (l : Addr) (vs : List Value) (ns : List Nat) (tw : Nat) (t : Tok) (htw : (tw : Int) < 2) (hi : IntsAre vs (ns.map fun (n : Nat) => (n : Int))) (hS : Sizes ns) : Tell w 4 90 [.ref l, .int (tw : Int) t] (fun s => s.heap.IsList l vs.toArray) (fun s₀ v h => Pages tw ns s₀ v h) := by
  have h : tw = 0 ∨ tw = 1 := by omega
  rcases h with rfl | rfl
  · exact pag0_walk w l vs ns t hi hS.len fun n hn => (hS.all n hn).2
  · exact pag1_walk w l vs ns t hi hS.len fun n hn => (hS.all n hn).2
theorem tol_any (w : World) (l : Addr) (vs : List Value) (ns : List Nat) (tw : Nat) (t : Tok) (htw : (tw : Int) < 2) (hi : IntsAre vs (ns.map fun (n : Nat) => (n : Int))) (hS : Sizes ns) : Tell w 2 102 [.ref l, .int (tw : Int) t] (fun s => s.heap.IsList l vs.toArray) (fun _ v _ => ∃ t, v = .int (told (tblOf tw) (isort (ns.map fun (n : Nat) => (n : Int)))) t) := by
  have h4 : (isort (ns.map fun (n : Nat) => (n : Int))).length ≤ 4 := by rw [(isort_perm _).length_eq, List.length_map]; exact hS.len
  have hb : ∀ n ∈ isort (ns.map fun (n : Nat) => (n : Int)), 1 ≤ n ∧ n ≤ 10 := fun n hn => by
    obtain ⟨k, hk, rfl⟩ := List.mem_map.mp ((isort_perm _).mem_iff.mp hn)
    have := hS.all k hk
    omega
  have h : tw = 0 ∨ tw = 1 := by omega
  rcases h with rfl | rfl
  · exact tol0_walk w l vs _ t hi h4 hb (by rw [List.length_map]; exact hS.len)
  · exact tol1_walk w l vs _ t hi h4 hb (by rw [List.length_map]; exact hS.len)

section
variable {w : World} {loose : List Str} {mean : ExcName → Option Value} {mg mb : Str → Option Value} {dp un : Nat} {gd : Option (List Code)} {cn : Str} {cs : Scope} {a : Addr} {ccd : Value} {cl : List (Str × Addr)} {outer : List Env} {A₀ : Around} {base h₀ : Heap} {L l : Addr} {m : Str → Option Value} {s : Shared} {news : List (Addr × Obj)} {Q E : Value → Shared → Prop}
theorem pages_call {vs : List Value} {ns : List Nat} {tw kk : Nat} {t : Tok} (htw : (tw : Int) < 2) (hS : Sizes ns) (hm : (l, listOf vs.toArray kk) ∈ news) (hi : IntsAre vs (ns.map fun (n : Nat) => (n : Int)))
    (B : Below A₀ base outer h₀) (F : Fr h₀ L s.heap m) (X : (hd.heap_39 w.params).In h₀) (N : News h₀ L s.heap news) (T : Top topProg loose mean mg mb h₀) (hk : cs.kind = .function) (hd : dp + 4 < recursionLimit) (hu : un + 20 * 4 < cLine)
    (h : ∀ lp o its h' tk', ListObj o its → StrsAre its.toList ((List.range (6 - tw)).map fun k => pageS tw k ns) → Off1 lp news → Fr h₀ L h' m → News h₀ L h' ((lp, o) :: news) → Q (.ref lp) { s with heap := h', toks := tk' }) :
    wpAny (model PG w) (ktrTop dp un gd cn cs L a ccd cl outer) (call (.ref 90) [.ref l, .int (tw : Int) t]) Q E s := by
  refine call_use (pag_any w l vs ns tw t htw hi hS) B F X N T hk hd hu ((ListObj.of _ _).list N hm) fun v h' tk' k hq F' N' => ?_
  obtain ⟨lp, its, rfl, hn, ⟨o, ho, hc, n, hd'⟩, hs⟩ := hq
  obtain ⟨h1, h2, h3⟩ := news_new (o := o) (h := h') F N hn
  exact h lp o its h' tk' ⟨hc, n, hd'⟩ hs h1 F' (List.forall_mem_cons.mpr ⟨⟨ho, h2, h3⟩, N'⟩)
theorem written_call {vs : List Value} {ns : List Nat} {tw kk k : Nat} {t t2 : Tok} (htw : (tw : Int) < 2) (hS : Sizes ns) (hm : (l, listOf vs.toArray kk) ∈ news) (hi : IntsAre vs (ns.map fun (n : Nat) => (n : Int))) (hkk : k < 6 - tw)
    (B : Below A₀ base outer h₀) (F : Fr h₀ L s.heap m) (X : (hd.heap_39 w.params).In h₀) (N : News h₀ L s.heap news) (T : Top topProg loose mean mg mb h₀) (hk : cs.kind = .function) (hd : dp + 2 < recursionLimit) (hu : un + 20 * 2 < cLine)
    (h : ∀ t h' tk', Fr h₀ L h' m → News h₀ L h' news → Q (.str (pageS tw k ns) t) { s with heap := h', toks := tk' }) :
    wpAny (model PG w) (ktrTop dp un gd cn cs L a ccd cl outer) (call (.ref 85) [.ref l, .int (tw : Int) t, .int (k : Int) t2]) Q E s := by
  have hl := hS.len
  refine call_use (wri_walk w l vs ns tw k t t2 hi (by omega) (by omega) (by omega) fun n hn => (hS.all n hn).2) B F X N T hk hd hu ((ListObj.of _ _).list N hm) fun v h' tk' _ hq F' N' => ?_
  obtain ⟨t', rfl⟩ := hq
  exact h t' h' tk' F' N'
theorem told_call {vs : List Value} {ns : List Nat} {tw kk : Nat} {t : Tok} (htw : (tw : Int) < 2) (hS : Sizes ns) (hm : (l, listOf vs.toArray kk) ∈ news) (hi : IntsAre vs (ns.map fun (n : Nat) => (n : Int)))
    (B : Below A₀ base outer h₀) (F : Fr h₀ L s.heap m) (X : (hd.heap_39 w.params).In h₀) (N : News h₀ L s.heap news) (T : Top topProg loose mean mg mb h₀) (hk : cs.kind = .function) (hd : dp + 2 < recursionLimit) (hu : un + 20 * 2 < cLine)
    (h : ∀ t h' tk', Fr h₀ L h' m → News h₀ L h' news → Q (.int (told (tblOf tw) (isort (ns.map fun (n : Nat) => (n : Int)))) t) { s with heap := h', toks := tk' }) :
    wpAny (model PG w) (ktrTop dp un gd cn cs L a ccd cl outer) (call (.ref 102) [.ref l, .int (tw : Int) t]) Q E s := by
  refine call_use (tol_any w l vs ns tw t htw hi hS) B F X N T hk hd hu ((ListObj.of _ _).list N hm) fun v h' tk' _ hq F' N' => ?_
  obtain ⟨t', rfl⟩ := hq
  exact h t' h' tk' F' N'
theorem reached_call {its : Array Value} {o₀ : Obj} {ns : List Nat} {tw : Nat} {t : Tok} (htw : (tw : Int) < 2) (hS : Sizes ns) (hm : (l, o₀) ∈ news) (ho : ListObj o₀ its) (hs : StrsAre its.toList ((List.range (6 - tw)).map fun k => pageS tw k ns))
    (B : Below A₀ base outer h₀) (F : Fr h₀ L s.heap m) (X : (hd.heap_39 w.params).In h₀) (N : News h₀ L s.heap news) (T : Top topProg loose mean mg mb h₀) (hk : cs.kind = .function) (hd : dp + 4 < recursionLimit) (hu : un + 20 * 4 < cLine)
    (h : ∀ d lr o out h' tk', ListObj o out → IntsAre out.toList (asInts (reachR tw ns)) → Off1 lr news → Fr h₀ L h' m → News h₀ L h' ((lr, o) :: news) → Q (.ref lr) { s with heap := h', toks := tk', drawn := d }) :
    wpAny (model PG w) (ktrTop dp un gd cn cs L a ccd cl outer) (call (.ref 95) [.ref l, .int (ns.length : Int) t]) Q E s := by
  refine call_useD (rea_walk w l its ns tw t ⟨by omega, hS.len, hS.ne, fun n hn => (hS.all n hn).2, hs⟩) B F X N T hk hd hu (ho.list N hm) fun s' v h' tk' k hq F' N' => ?_
  obtain ⟨lr, out, rfl, hn, ⟨o, hg, hc, n, hd'⟩, hints⟩ := hq
  obtain ⟨h1, h2, h3⟩ := news_new (o := o) (h := h') F N hn
  exact h s' lr o out h' tk' ⟨hc, n, hd'⟩ hints h1 F' (List.forall_mem_cons.mpr ⟨⟨hg, h2, h3⟩, N'⟩)
end
section
variable {prog : Program} {w : World} {A : Around} {h₀ : Heap} {L : Addr} {m : Str → Option Value} {env : Env} {elt : Expr} {x : Str} {scope : Scope} {cl : List (Str × Addr)} {news : List (Addr × Obj)}
theorem written_src {s₁ : Shared} {Fin : Shared → List Value → List (Addr × Obj) → Prop} {r : Addr} {t u v : Tok} {tw : Nat} {ns : List Nat} (hr : IsRange s₁.heap r 0 (6 - (tw : Int)) 1 t u v) (_hS : Sizes ns) (htw : (tw : Int) < 2) (hh : A.handled = none) (F : Fr h₀ L s₁.heap m) (N : News h₀ L s₁.heap news)
    (turn : ∀ (k : Nat) ti I oI C oC D m₂ ys h tk (E' : Value → Shared → Prop), k < 6 - tw → LCg.NsObj oC m₂ → m₂ x = some (.int (k : Int) ti) → Fr h₀ L h m → News h₀ L h ((I, oI) :: (C, oC) :: (D, LCg.lst ys) :: news) → LCg.Off3 I C D news → ((@Ne Nat I C) ∧ (@Ne Nat I D) ∧ (@Ne Nat C D)) →
      wpAny (model prog w) A (eval elt (compEnvC scope cl C env)) (EltEnd h₀ L m { s₁ with heap := h, toks := tk } ((I, oI) :: (C, oC) :: (D, LCg.lst ys) :: news) (fun y => ∃ t, y = Value.str (pageS tw k ns) t)) E' { s₁ with heap := h, toks := tk })
    (fin : ∀ g ys, StrsAre ys ((List.range (6 - tw)).map fun k => pageS tw k ns) → Fin { s₁ with heap := g } ys news) : LCg.CompSrc prog w A h₀ L m env elt x scope cl Fin (.ref r) s₁ := by
  have e : (6 - (tw : Int)) = ((6 - tw : Nat) : Int) := by omega
  rw [e] at hr
  have hsm : ∀ n : Nat, n < 8 → Builtin.Range.small 0 (n : Int) 1 = true := by decide
  have hsz : ∀ n : Nat, n < 8 → Builtin.Range.rangeSize 0 (n : Int) 1 = n := by decide
  refine LCg.CompSrc.range hh F N hr (hsm _ (by omega)) (hsz _ (by omega)) (by rw [PySem.sizeLine_eq]; omega) fun g => ?_
  refine map_rest (ks := List.range (6 - tw)) (fun (k : Nat) v => ∃ t, v = Value.int (k : Int) t) (fun y v => ∃ t, v = Value.str y t) (fun k => pageS tw k ns) List.length_range (fun i v hi hv => ⟨i, by simp [hi], by simpa using hv⟩) trivial (fun k v I oI C oC D m₂ ys h tk E' hk hr hC hx F N off ne => ?_) fun ys hAll => fin g ys hAll.strs
  obtain ⟨tv, rfl⟩ := hr
  refine wpAny_mono (turn k tv I oI C oC D m₂ ys h tk E' (List.mem_range.mp hk) hC hx F N off ne) (fun y s₂ hq => ?_) fun _ _ e => e
  obtain ⟨h', tk', news', e, F', N', sub, hr⟩ := hq
  exact ⟨h', tk', news, e, F', fun p hp => N' p (sub p hp), off, trivial, ⟨fun p hp => hp, hr⟩⟩
end
section
variable {prog : Program} {w : World} {A : Around} {E : Value → Shared → Prop} {s : Shared} {h₀ : Heap} {L l : Addr} {m : Str → Option Value} {news : List (Addr × Obj)} {Q : Value → Shared → Prop}
theorem len_sizes {ws : List Value} {ns : List Nat} {k : Nat} (N : News h₀ L s.heap news) (hm : (l, listOf ws.toArray k) ∈ news) (hi : IntsAre ws (ns.map fun (n : Nat) => (n : Int))) (hS : Sizes ns) (h : ∀ t k', Q (.int (ns.length : Int) t) { s with toks := k' }) :
    wpAny (model prog w) A (call (.builtin "len") [.ref l]) Q E s :=
  len_here N hm (ListObj.of _ _) (by rw [List.size_toArray, hi.length, List.length_map]) (by have := hS.len; omega) h
theorem len_reached {o : Obj} {out : Array Value} {tw : Nat} {ns : List Nat} (N : News h₀ L s.heap news) (hm : (l, o) ∈ news) (ho : ListObj o out) (hi : IntsAre out.toList (asInts (reachR tw ns))) (h : ∀ t k', Q (.int ((reachR tw ns).length : Int) t) { s with toks := k' }) :
    wpAny (model prog w) A (call (.builtin "len") [.ref l]) Q E s :=
  len_here N hm ho (by rw [← Array.length_toList, hi.length]; simp [asInts]) (by have := (reach_small tw ns).2; omega) h
theorem ne_here {a b : Addr} {o : Obj} {its : Array Value} {ys : List Value} {tw : Nat} {ns : List Nat} (N : News h₀ L s.heap news) (ho : ListObj o its) (hs : StrsAre its.toList ((List.range (6 - tw)).map fun k => pageS tw k ns)) (hj : StrsAre ys ((List.range (6 - tw)).map fun k => pageS tw k ns)) (ha : (a, o) ∈ news) (hb : (b, lst ys) ∈ news) (hu : A.units + 64 < cLine) (h : Q (.bool false) s) :
    wpAny (model prog w) A (compareOp .NotEq (.ref a) (.ref b)) Q E s :=
  ne_texts (xs := its.toList) (by simpa using ho.list N ha) (lst_list N hb) hs hj (pages_strOk tw ns) hu h
theorem spots_here {r : Addr} {tw : Nat} {ns : List Nat} {t₀ u₀ v₀ : Tok} (hh : A.handled = none) (F : Fr h₀ L s.heap m) (N : News h₀ L s.heap news) (hr : IsRange s.heap r 0 ((reachR tw ns).length : Int) 1 t₀ u₀ v₀)
    (h : ∀ D us c h' tk, Fr h₀ L h' m → News h₀ L h' ((D, listOf (List.toArray us) c) :: news) → (∀ p ∈ news, p.1 < D) → IntsAre us (rangeKs 0 (reachR tw ns).length) → Q (.ref D) { s with heap := h', toks := tk }) :
    wpAny (model prog w) A (call (.type "list") [.ref r]) Q E s := by
  have hR := (reach_small tw ns).2
  have hsm : ∀ n : Nat, n < 22 → Builtin.Range.small 0 (n : Int) 1 = true := by decide
  have hsz : ∀ n : Nat, n < 22 → Builtin.Range.rangeSize 0 (n : Int) 1 = n := by decide
  exact kll_range hh F N hr (hsm _ (by omega)) (hsz _ (by omega)) (by omega) h
end
end

section
open PySem PySem.W PyProof.Rows PySem.Calls PyProof.Rows.LCg
set_option maxRecDepth 100000

/-- a ledger with one object changed; what is not known apart may be dropped -/
inductive UpdS (c : Addr) (o : Obj) : List (Addr × Obj) → (Obj → List (Addr × Obj)) → Prop
  | nil : UpdS c o [] (fun _ => [])
  | here {r : List (Addr × Obj)} {g : Obj → List (Addr × Obj)} : UpdS c o r g → UpdS c o ((c, o) :: r) (fun o' => (c, o') :: g o')
  | skip {p : Addr × Obj} {r : List (Addr × Obj)} {g : Obj → List (Addr × Obj)} : p.2 ≠ o → UpdS c o r g → UpdS c o (p :: r) (fun o' => p :: g o')
  | apart {p : Addr × Obj} {r : List (Addr × Obj)} {g : Obj → List (Addr × Obj)} : @Ne Nat p.1 c → UpdS c o r g → UpdS c o (p :: r) (fun o' => p :: g o')
  | drop {p : Addr × Obj} {r : List (Addr × Obj)} {g : Obj → List (Addr × Obj)} : UpdS c o r g → UpdS c o (p :: r) g
theorem UpdS.news {c L : Addr} {o o' : Obj} {h₀ h h' : Heap} {news : List (Addr × Obj)} {g : Obj → List (Addr × Obj)} (U : UpdS c o news g) (hc : h.get? c = some o) (h1 : c ≠ L ∧ h₀.get? c = none) (N : News h₀ L h news) (hs : Heap.SameBut c h h') (ho : h'.get? c = some o') : News h₀ L h' (g o') := by
  induction U with
  | nil => exact fun p hp => nomatch hp
  | here _ ih =>
    intro p hp
    rcases List.mem_cons.mp hp with rfl | hp
    · exact ⟨ho, h1⟩
    · exact ih (fun q hq => N q (List.mem_cons_of_mem _ hq)) p hp
  | @skip q r g hne _ ih =>
    intro p hp
    rcases List.mem_cons.mp hp with rfl | hp
    · have z := N p List.mem_cons_self
      refine ⟨(hs.2 p.1 fun e => hne ?_).trans z.1, z.2⟩
      have z1 := z.1
      rw [e, hc] at z1
      exact (Option.some.inj z1).symm
    · exact ih (fun q hq => N q (List.mem_cons_of_mem _ hq)) p hp
  | @apart q r g hne _ ih =>
    intro p hp
    rcases List.mem_cons.mp hp with rfl | hp
    · have z := N p List.mem_cons_self
      exact ⟨(hs.2 p.1 hne).trans z.1, z.2⟩
    · exact ih (fun q hq => N q (List.mem_cons_of_mem _ hq)) p hp
  | drop _ ih => exact ih (fun q hq => N q (List.mem_cons_of_mem _ hq))
theorem lst_cell {o : Obj} {v : Option Value} {ys : List Value} (hd : o.data = .cell v) : lst ys ≠ o := fun e => by rw [← e] at hd; cases hd
theorem listOf_cell {o : Obj} {v : Option Value} {ys : Array Value} {k : Nat} (hd : o.data = .cell v) : listOf ys k ≠ o := fun e => by rw [← e] at hd; cases hd
theorem listObj_cell {o q : Obj} {v : Option Value} {ys : Array Value} (hd : o.data = .cell v) (hq : ListObj q ys) : q ≠ o := fun e => by
  obtain ⟨_, n, h⟩ := hq
  rw [e, hd] at h; cases h
section
variable {M : Model} {A : Around} {E : Value → Shared → Prop} {s : Shared} {h₀ : Heap} {L a : Addr} {m : Str → Option Value} {cn : Str} {cs : Scope} {ccd : Value} {cl : List (Str × Addr)}
  {x : Str} {v : Value} {news : List (Addr × Obj)} {g : Obj → List (Addr × Obj)} {c : Addr} {o : Obj} {v₀ : Option Value}
theorem store_cell {Q : Unit → Shared → Prop} (F : Fr h₀ L s.heap m) (N : News h₀ L s.heap news) (hc : cl.lookup x = some c) (hm : (c, o) ∈ news) (hd : o.data = .cell v₀) (U : UpdS c o news g)
    (h : ∀ h' o', Fr h₀ L h' m → News h₀ L h' (g o') → o'.data = .cell (some v) → Q () { s with heap := h' })
    (hk : cs.kind = .function := by rfl) (hx : (envX cn cs L a ccd cl).kindOf x = some .cell := by rfl) : wpAny M A (storeName (envX cn cs L a ccd cl) x v) Q E s := by
  have hmem := N (c, o) hm
  refine wpAny_storeName_cell hk hx hc ⟨o, hmem.1, hd⟩ fun h' hv hs => ?_
  obtain ⟨o', ho', hd'⟩ := hv
  refine h h' o' ⟨F.ns.sameBut hs (Ne.symm hmem.2.1), fun b ob e => (hs.2 b (fun q => ?_)).trans (F.keep b ob e), F.above⟩ (U.news hmem.1 hmem.2 N hs ho') hd'
  rw [q, hmem.2.2] at e; cases e
end
end

section
open PySem PySem.W PyProof.Rows PySem.Calls
set_option maxRecDepth 100000

abbrev kReached : Str := Str.ofString "reached"
abbrev kSpot : Str := Str.ofString "spot"
/-- the lambda's object: what a spot's sum is above the spot -/
def KeyObj (o : Obj) (cc c' : Addr) (qual : Str) : Prop :=
  ∃ name params scope pm ctv p1 p2 p3 p4 p5, o = kla_obj name qual params (.BinOp (.Subscript (.Name kReached p1) (.Name kSpot p2) p3) .Sub (.Name kSpot p4) p5) scope [(kReached, cc)] pm c' ctv ∧ scope.kind = .function ∧ scope.isCoroutine = false ∧ scope.isGenerator = false ∧ (∀ x ∈ scope.names, x.2 ≠ .cell) ∧ scope.names.lookup kSpot = some .local ∧ scope.names.lookup kReached = some .free ∧
    ∀ v : Value, bindArgs (kla_fn name qual params (.BinOp (.Subscript (.Name kReached p1) (.Name kSpot p2) p3) .Sub (.Name kSpot p4) p5) scope [(kReached, cc)] pm (.ref c') ctv) ⟨[v], []⟩ = pure [(kSpot, v)]
/-- the lambda stands, and so does what it looks at -/
structure KeyAt (h : Heap) (f lr : Addr) (out : Array Value) : Prop where
  fn : ∃ o cc c' qual, KeyObj o cc c' qual ∧ h.get? f = some o ∧ h.CodeRec (.ref c') qual ∧ h.IsCell cc (some (.ref lr))
  ls : h.IsList lr out
theorem KeyAt.func {h : Heap} {f lr : Addr} {out : Array Value} (x : KeyAt h f lr out) : ∃ o fd, h.get? f = some o ∧ o.data = .func fd := by
  obtain ⟨⟨o, cc, c', qual, ⟨name, params, scope, pm, ctv, p1, p2, p3, p4, p5, rfl, _⟩, ho, _⟩, _⟩ := x
  exact ⟨_, _, ho, rfl⟩
theorem KeyAt.ext {h h' : Heap} {f lr : Addr} {out : Array Value} (x : KeyAt h f lr out) (k : Ext h h') : KeyAt h' f lr out := by
  obtain ⟨⟨o, cc, c', qual, hk, ho, hc, hl⟩, ls⟩ := x
  exact ⟨⟨o, cc, c', qual, hk, k _ _ ho, hc.keeps fun b o e => k b o e, hl.keeps fun b o e => k b o e⟩, Ext.list k ls⟩

theorem key_tell (w : World) (f lr : Addr) (out : Array Value) (Rs : List Int) (i : Int) (t : Tok) (hi : IntsAre out.toList Rs) (h0 : 0 ≤ i) (h1 : i < (Rs.length : Int)) (hs : Rs.length ≤ 100) :
    Tell w 2 f [.int i t] (fun s => KeyAt s.heap f lr out) (fun _ v _ => ∃ t, v = .int (Rs.getD i.toNat 0 - i) t) := by
  unfold Tell
  intro loose mean mg mb dp un gd cn cs a ccd cl outer A₀ base h₀ L m s Q E B F X T hk hdp hun hpre hret
  obtain ⟨⟨o, cc, c', qual, ⟨name, params, scope, pm, ctv, p1, p2, p3, p4, p5, rfl, hsk, hco, hgen, hcell, hsp, hre, hbind⟩, ho, hcd, hcc⟩, hls⟩ := hpre
  refine wpAny_call ?_
  refine kla_callFunE (by show dp < recursionLimit; omega) ho rfl hco hgen rfl hcd ?_
  rw [hbind]
  refine wpAny_pure (wpAny_newFunctionEnv hcell (fun y hy => by rw [List.mem_singleton.mp hy]; exact hsp) (fun h₁ hns hsb => ⟨((T.nolimit).keeps F.keep).fresh _ hsb, ?_⟩) hsk)
  have hk₁ : Ext s.heap h₁ := fun b o e => hsb.extBut b o (Nat.ne_of_lt (Heap.lt_size e)) (Heap.get?_push_of_some _ e)
  have hv : (fun x => [(kSpot, Value.int i t)].reverse.lookup x) kSpot = some (.int i t) := rfl
  have hcc₁ : h₁.IsCell cc (some (.ref lr)) := hcc.keeps fun b o e => hk₁ b o e
  have hls₁ : h₁.IsList lr out := Ext.list hk₁ hls
  refine kla_codeExpr (env := envX qual scope s.heap.objs.size f (.ref c') [(kReached, cc)]) ?_
  refine wpAny_BinOp (Subscript_ ?_)
  refine wpAny_Name (wpAny_loadName_free hsk hre rfl hcc₁ ?_) (by decide)
  refine wpAny_Name (wpAny_loadName_local hsk hsp hns hv ?_) (by decide)
  refine item_anyK (vs := out.toList) (ns := Rs) (by simpa using hls₁) hi h0 h1 (by omega) (fun t2 => ?_)
  refine wpAny_Name (wpAny_loadName_local hsk hsp hns hv ?_) (by decide)
  refine sub_int ?_
  exact hret _ _ _ hk₁ ⟨_, rfl⟩
end

section
open PySem PySem.W PyProof.Rows PySem.Calls
set_option maxRecDepth 100000
local macro_rules | `(tactic| walk_at "mc enter") => `(tactic| (refine' code_defG (news := []) ?k1 ?k2 ?k3 ?k4 ?k5 ?kA ?kF ?kK ?k6 ?k7 ?k8 ?k9 ?kB ?_ ?c2 ?c3 ?c4 ?c5; (case kA => exact rfl); (case kF => exact rfl); (case kK => assumption); (case k1 => k_asm); (case k2 => k_asm); (case k3 => k_asm); (case k4 => exact fun _ hp => nomatch hp); (case k5 => k_asm); (case k6 => k_is); (case k7 => k_is); (case k8 => ktr_room); (case k9 => first | exact BindsTo.of_eq rfl | exact binds_K (by k_in) rfl (by k_is) rfl rfl rfl | (refine' kp_binds ?kx ?ke; (case kx => k_in); (case ke => exact fun _ => rfl))); (case c5 => decide); (case kB => exact locs rfl); (case c2 => exact rfl); (case c3 => exact rfl); (case c4 => exact rfl); k_whole))

def BilP (Rs : List Int) (lo hi : Int) : Prop := (∀ i : Nat, (i : Int) < lo → Rs.getD i 0 - i < 1) ∧ (∀ i : Nat, hi ≤ (i : Int) → i < Rs.length → ¬ Rs.getD i 0 - i < 1)
abbrev BilW (Rs : List Int) (lo hi : Int) : Prop := 0 ≤ lo ∧ lo ≤ hi ∧ hi ≤ (Rs.length : Int) ∧ BilP Rs lo hi
theorem rise_one {Rs : List Int} (hs : Rs.Pairwise (· < ·)) : ∀ (j i : Nat), i ≤ j → j < Rs.length → Rs.getD i 0 - i ≤ Rs.getD j 0 - j
  | 0, i, h, _ => by rw [Nat.le_zero.mp h]; exact Int.le_refl _
  | j + 1, i, h, hj => by
    rcases Nat.lt_or_ge j i with h1 | h1
    · rw [show i = j + 1 from by omega]; exact Int.le_refl _
    · have ih := rise_one hs j i h1 (by omega)
      have h2 := List.pairwise_iff_getElem.mp hs j (j + 1) (by omega) hj (Nat.lt_succ_self j)
      have e1 : Rs.getD j 0 = Rs[j] := by rw [List.getD, List.getElem?_eq_getElem (by omega)]; rfl
      have e2 : Rs.getD (j + 1) 0 = Rs[j + 1] := by rw [List.getD, List.getElem?_eq_getElem hj]; rfl
      rw [e1] at ih
      rw [e2]
      omega
theorem bil_mid {lo hi : Int} : (lo + hi).fdiv 2 = (lo + hi) / 2 := Int.fdiv_eq_ediv_of_nonneg _ (by decide)
theorem bil_start {Rs : List Int} : BilW Rs 0 (Rs.length : Int) := ⟨by omega, by omega, by omega, fun i h => by omega, fun i h h' => by omega⟩
theorem bil_lo {Rs : List Int} (hs : Rs.Pairwise (· < ·)) {lo hi : Int} (h0 : 0 ≤ lo) (h1 : hi ≤ (Rs.length : Int)) (hb : BilP Rs lo hi) (hlt : lo < hi) (hx : Rs.getD ((lo + hi).fdiv 2).toNat 0 - (lo + hi).fdiv 2 < 1) : BilW Rs ((lo + hi).fdiv 2 + 1) hi := by
  rw [bil_mid] at hx ⊢
  refine ⟨by omega, by omega, h1, fun i h => ?_, hb.2⟩
  have := rise_one hs ((lo + hi) / 2).toNat i (by omega) (by omega)
  omega
theorem bil_hi {Rs : List Int} (hs : Rs.Pairwise (· < ·)) {lo hi : Int} (h0 : 0 ≤ lo) (h1 : hi ≤ (Rs.length : Int)) (hb : BilP Rs lo hi) (hlt : lo < hi) (hx : ¬ Rs.getD ((lo + hi).fdiv 2).toNat 0 - (lo + hi).fdiv 2 < 1) : BilW Rs lo ((lo + hi).fdiv 2) := by
  rw [bil_mid] at hx ⊢
  refine ⟨h0, by omega, by omega, hb.1, fun i h h' => ?_⟩
  have := rise_one hs i ((lo + hi) / 2).toNat (by omega) h'
  omega
theorem bil_m1 {lo hi : Int} (hlt : lo < hi) : ((lo + hi).fdiv 2 - lo).toNat < (hi - lo).toNat := by rw [bil_mid]; omega
theorem bil_m2 {lo hi : Int} (hlt : lo < hi) : (hi - ((lo + hi).fdiv 2 + 1)).toNat < (hi - lo).toNat := by rw [bil_mid]; omega
theorem bil_end {Rs : List Int} {lo hi : Int} (hb : BilP Rs lo hi) (h1 : lo ≤ hi) (h2 : ¬ lo < hi) : BilP Rs lo lo := by
  have e : hi = lo := by omega
  rw [e] at hb; exact hb
section
variable {prog : Program} {w : World} {A : Around} {E : Value → Shared → Prop} {s : Shared} {h₀ : Heap} {L l : Addr} {m : Str → Option Value} {value slice : Expr} {Q : Value → Shared → Prop}
theorem spots_len {us : List Value} {Rs : List Int} (F : Fr h₀ L s.heap m) (hl : h₀.IsList l us.toArray) (hI : IntsAre us (rangeKs 0 Rs.length)) (hs : Rs.length ≤ 100) (h : ∀ t k', Q (.int (Rs.length : Int) t) { s with toks := k' }) :
    wpAny (model prog w) A (call (.builtin "len") [.ref l]) Q E s := by
  have e : us.toArray.size = Rs.length := by rw [List.size_toArray, hI.length, rangeKs_length]
  exact call_len_list (hl.at fun o e => F.keep l o e) (by omega) (by rw [e]; exact h _ _)
theorem spot_item {us : List Value} {Rs : List Int} {lo hi : Int} {u : Tok} (F : Fr h₀ L s.heap m) (hl : h₀.IsList l us.toArray) (hI : IntsAre us (rangeKs 0 Rs.length)) (hs : Rs.length ≤ 100) (h0 : 0 ≤ lo) (h1 : hi ≤ (Rs.length : Int)) (hlt : lo < hi) (h : ∀ t, Q (.int ((lo + hi).fdiv 2) t) s)
    (hs' : subscripted slice false (.ref l) (.int ((lo + hi).fdiv 2) u) = operate [.ref l, .int ((lo + hi).fdiv 2) u] (getItem (.ref l) (.int ((lo + hi).fdiv 2) u)) := by with_unfolding_all rfl) :
    wpAny (model prog w) A (subscriptTail value slice (.ref l) (.int ((lo + hi).fdiv 2) u)) Q E s := by
  have e := bil_mid (lo := lo) (hi := hi)
  refine kll_item (n := Rs.length) (hl.at fun o e => F.keep l o e) hI (by omega) (by omega) (by omega) (fun t => ?_) hs'
  rw [Int.zero_add]; exact h t
end
theorem key_use {w : World} {f lr : Addr} {out : Array Value} {Rs : List Int} {lo hi : Int} {t : Tok} (hi' : IntsAre out.toList Rs) (h0 : 0 ≤ lo) (h1 : hi ≤ (Rs.length : Int)) (hlt : lo < hi) (hs : Rs.length ≤ 100) :
    Tell w 2 f [.int ((lo + hi).fdiv 2) t] (fun s => KeyAt s.heap f lr out) (fun _ v _ => ∃ t, v = .int (Rs.getD ((lo + hi).fdiv 2).toNat 0 - (lo + hi).fdiv 2) t) := by
  have e := bil_mid (lo := lo) (hi := hi)
  exact key_tell w f lr out Rs _ t hi' (by omega) (by omega) hs
section
local macro_rules | `(tactic| walk_at "call builtin:len") => `(tactic| (k_dflt (refine spots_len (by k_asm) (by assumption) (by assumption) (by assumption) ?_); intro tl kl))
local macro_rules | `(tactic| walk_at "subscriptTail") => `(tactic| (k_dflt (refine spot_item (by k_asm) (by assumption) (by assumption) (by assumption) (by assumption) (by assumption) (by assumption) ?_); intro ti))
local macro_rules | `(tactic| walk_at "call ref") => `(tactic| (k_dflt (refine' call_use (key_use ?kI ?k0 ?k1 ?k2 ?k3) ?b1 ?b2 ?b3 ?b4 ?b5 ?kK ?kd ?ku ?kP ?_; (case kI => assumption); (case k0 => assumption); (case k1 => assumption); (case k2 => assumption); (case k3 => assumption); (case b1 => k_asm); (case b2 => k_asm); (case b3 => k_asm); (case b4 => k_asm); (case b5 => k_asm); (case kK => exact rfl); (case kd => ktr_room); (case ku => ktr_units); (case kP => ((rename KeyAt _ _ _ _ => hK9); (rename Fr _ _ _ _ => lF9); exact hK9.ext lF9.keep))); (intro v9 h9 tk9 kE9 hP9 F9 N9; obtain ⟨t9, e9⟩ := hP9; subst e9; clear kE9; (try dsimp only))))
local macro_rules | `(tactic| walk_at "callWith ref") => `(tactic| (k_dflt (refine callWith_def (by assumption) ?_)))
local macro_rules | `(tactic| walk_at "And") => `(tactic| ((rename Fr _ _ _ _ => lF9); refine And.intro (lF9.keep _ _ (by assumption)) ?_))
set_option maxHeartbeats 2000000 in
theorem bil_walk (w : World) (l f lr : Addr) (us : List Value) (out : Array Value) (Rs : List Int) (t : Tok) (hI : IntsAre us (rangeKs 0 Rs.length)) (hR : IntsAre out.toList Rs) (hn : Rs.length ≤ 100) (hs : Rs.Pairwise (· < ·)) :
    ∀ (loose : List Str) (mean : ExcName → Option Value) (mg mb : Str → Option Value) (dp un : Nat) (gd : Option (List Code)) (cn : Str) (cs : Scope) (a : Addr) (ccd : Value) (cl : List (Str × Addr)) (outer : List Env) (A₀ : Around) (base h₀ : Heap) (L : Addr) (m : Str → Option Value) (s : Shared) (Q E : Value → Shared → Prop),
      Below A₀ base outer h₀ → Fr h₀ L s.heap m → (hd.heap_39 w.params).In h₀ → Top topProg loose mean mg mb h₀ → cs.kind = .function → dp + 4 < recursionLimit → un + 20 * 4 < cLine → s.heap.IsList l us.toArray → KeyAt s.heap f lr out →
      (∀ (v : Value) (h' : Heap) (tk' : Nat), Ext s.heap h' → (∃ k t, v = .int k t ∧ 0 ≤ k ∧ k ≤ (Rs.length : Int) ∧ BilP Rs k k) → Q v { s with heap := h', toks := tk' }) →
      wpAny (model PG w) (ktrTop dp un gd cn cs L a ccd cl outer) (call (.ref 49) [.ref l, .int 1 t] [(Str.ofString "key", .ref f)]) Q E s := by
  w_top off
  k_with_none
  k_with "exec While Compare cons nil" => k_while (fun (_ : List Int) (lo hi : Int) => BilW Rs lo hi) (fun (_ : List Int) (lo hi : Int) => (hi - lo).toNat) "lo" "hi"
  k_with "state" => first | exact bil_start | exact bil_hi hs (by assumption) (by assumption) (by assumption) (by assumption) (by assumption) | exact bil_lo hs (by assumption) (by assumption) (by assumption) (by assumption) (by assumption)
  k_with "measure" => first | exact bil_m1 (by assumption) | exact bil_m2 (by assumption)
  unfold PG; k_fill
  intro loose mean mg mb dp un gd cn cs a ccd cl outer A₀ base h₀ L m s Q E B F X T hk hdp hun hl hK hret
  refine wpAny_call ?_
  k_dflt (walk_at "mc enter")
  intro g' L' h' FG' F' N' B' X' T' kG'
  have kE := GSub.ext kG'
  clear kG'
  (try dsimp only)
  have hl' := kE.list hl; clear hl
  have hK' := hK.ext kE; clear hK
  obtain ⟨of, fd, hof, hfd⟩ := hK'.func
  clear F B X T FG'
  (try k_fold)
  k_steps
  all_goals (try dsimp only)
  k_steps
  all_goals (refine mc_leave (w := w) (s := s) (Post := fun _ v _ => ∃ k t, v = .int k t ∧ 0 ≤ k ∧ k ≤ (Rs.length : Int) ∧ BilP Rs k k) hret kE (by assumption) (by assumption) ?_)
  all_goals (exact ⟨_, _, rfl, by assumption, by omega, bil_end (by assumption) (by assumption) (by assumption)⟩)
end
end

section
open PySem PySem.W PyProof.Rows PySem.Calls
set_option maxRecDepth 100000

theorem reach_rise (tw : Nat) (ns : List Nat) : (reachR tw ns).Pairwise (· < ·) := by
  rcases List.eq_nil_or_concat ns with rfl | ⟨r, n, rfl⟩
  · exact List.pairwise_singleton _ _
  · rw [List.concat_eq_append, reach_snoc]
    exact List.Pairwise.filter _ List.pairwise_lt_range

/-- the sums as a number's binary places -/
def maskStep (M : Nat) (cs : List Nat) : Nat := (cs.foldl (fun A c => A ||| (M <<< c)) 0) &&& (2 ^ 21 - 1)
def maskR (tw : Nat) (ns : List Nat) : Nat := ns.foldl (fun M n => maskStep M (worths tw n)) 1
theorem mask_fold (M v : Nat) : ∀ (cs : List Nat) (A : Nat), (cs.foldl (fun A c => A ||| (M <<< c)) A).testBit v = (A.testBit v || cs.any fun c => decide (c ≤ v) && M.testBit (v - c))
  | [], A => by simp
  | c :: cs, A => by
    rw [List.foldl_cons, mask_fold M v cs, Nat.testBit_or, Nat.testBit_shiftLeft, List.any_cons, Bool.or_assoc]
theorem mask_step {R cs : List Nat} {M : Nat} (hR : ∀ v, v ∈ R ↔ M.testBit v = true) (v : Nat) : v ∈ stepR R cs ↔ (maskStep M cs).testBit v = true := by
  unfold stepR maskStep
  rw [Nat.testBit_and, mask_fold, Nat.testBit_two_pow_sub_one, List.mem_filter, List.mem_range]
  simp only [Nat.zero_testBit, Bool.false_or, Bool.and_eq_true, decide_eq_true_eq, List.any_eq_true, beq_iff_eq]
  constructor
  · rintro ⟨hv, t, ht, c, hc, rfl⟩
    exact ⟨⟨c, hc, by omega, (hR _).mp (by rw [show t + c - c = t from by omega]; exact ht)⟩, hv⟩
  · rintro ⟨⟨c, hc, hle, hb⟩, hv⟩
    exact ⟨hv, v - c, (hR _).mpr hb, c, hc, by omega⟩
theorem mask_reach (tw : Nat) (ns : List Nat) : ∀ v, v ∈ reachR tw ns ↔ (maskR tw ns).testBit v = true := by
  have key : ∀ (ns : List Nat) (R : List Nat) (M : Nat), (∀ v, v ∈ R ↔ M.testBit v = true) → ∀ v, v ∈ ns.foldl (fun R n => stepR R (worths tw n)) R ↔ (ns.foldl (fun M n => maskStep M (worths tw n)) M).testBit v = true := by
    intro ns
    induction ns with
    | nil => intro R M h; exact h
    | cons n r ih => intro R M h; exact ih _ _ (mask_step h)
  refine key ns [0] 1 fun v => ?_
  rw [List.mem_singleton]
  constructor
  · rintro rfl; rfl
  · intro h
    cases v with
    | zero => rfl
    | succ v => rw [Nat.testBit_succ] at h; simp at h

def okCase (tw : Nat) (ns : List Nat) : Bool :=
  decide (0 ≤ told (tblOf tw) (isort (ns.map fun (n : Nat) => (n : Int)))) && ((List.range (told (tblOf tw) (isort (ns.map fun (n : Nat) => (n : Int)))).toNat).all fun v => (maskR tw ns).testBit v) && !(maskR tw ns).testBit (told (tblOf tw) (isort (ns.map fun (n : Nat) => (n : Int)))).toNat
def okAll (tw r : Nat) : Bool := (List.range 2).all fun a => (List.range 3).all fun b => (List.range 6).all fun c => (List.range 10).all fun d => okCase tw ([1 + a, 1 + b, 1 + c, 1 + d].take (3 + r))
def okThree (tw : Nat) : Bool := (List.range 2).all fun a => (List.range 3).all fun b => (List.range 6).all fun c => okCase tw [1 + a, 1 + b, 1 + c]
theorem ok00 : okThree 0 = true := by decide +kernel
theorem ok10 : okThree 1 = true := by decide +kernel
theorem ok01 : okAll 0 1 = true := by decide +kernel
theorem ok11 : okAll 1 1 = true := by decide +kernel
theorem ok_all {tw : Nat} {ns : List Nat} (htw : tw < 2) (hS : Sizes ns) : okCase tw ns = true := by
  obtain ⟨a, b, c, d, r, ha, hb, hc, hd, hr, rfl⟩ := hS
  have hr' : r = 0 ∨ r = 1 := by omega
  have ht' : tw = 0 ∨ tw = 1 := by omega
  have h3 : ∀ tw, okThree tw = true → okCase tw [1 + a, 1 + b, 1 + c] = true := fun tw h => by
    have h1 := List.all_eq_true.mp h a (List.mem_range.mpr ha)
    have h2 := List.all_eq_true.mp h1 b (List.mem_range.mpr hb)
    exact List.all_eq_true.mp h2 c (List.mem_range.mpr hc)
  have h4 : ∀ tw, okAll tw 1 = true → okCase tw ([1 + a, 1 + b, 1 + c, 1 + d].take (3 + 1)) = true := fun tw h => by
    have h1 := List.all_eq_true.mp h a (List.mem_range.mpr ha)
    have h2 := List.all_eq_true.mp h1 b (List.mem_range.mpr hb)
    have h3 := List.all_eq_true.mp h2 c (List.mem_range.mpr hc)
    exact List.all_eq_true.mp h3 d (List.mem_range.mpr hd)
  rcases hr' with rfl | rfl
  · rcases ht' with rfl | rfl
    · exact h3 0 ok00
    · exact h3 1 ok10
  · rcases ht' with rfl | rfl
    · exact h4 0 ok01
    · exact h4 1 ok11

theorem rise_ge {R : List Nat} (h : R.Pairwise (· < ·)) : ∀ (i : Nat) (hi : i < R.length), i ≤ R[i]
  | 0, _ => Nat.zero_le _
  | i + 1, hi => by
    have h1 := rise_ge h i (by omega)
    have h2 := List.pairwise_iff_getElem.mp h i (i + 1) (by omega) hi (Nat.lt_succ_self i)
    omega
/-- the place found is the least number that is no sum -/
theorem gap_is {R : List Nat} (h : R.Pairwise (· < ·)) {k : Nat} (hk : k ≤ R.length) (hb : BilP (asInts R) (k : Int) (k : Int)) : (∀ v, v < k → v ∈ R) ∧ k ∉ R := by
  have get : ∀ i (hi : i < R.length), (asInts R).getD i 0 = (R[i] : Int) := fun i hi => by
    rw [List.getD, show (asInts R)[i]? = some ((R[i] : Nat) : Int) from by unfold asInts; rw [List.getElem?_map, List.getElem?_eq_getElem hi]; rfl]; rfl
  have low : ∀ i (hi : i < R.length), i < k → R[i] = i := fun i hi hlt => by
    have h1 := hb.1 i (by omega)
    rw [get i hi] at h1
    have := rise_ge h i hi
    omega
  refine ⟨fun v hv => ?_, fun hm => ?_⟩
  · have e := low v (by omega) hv
    rw [← e]; exact List.getElem_mem _
  · obtain ⟨j, hj, e⟩ := List.getElem_of_mem hm
    rcases Nat.lt_or_ge j k with h1 | h1
    · have := low j hj h1; omega
    · have h2 := hb.2 j (by omega) (by unfold asInts; rw [List.length_map]; exact hj)
      rw [get j hj] at h2
      omega
theorem law_true {tw : Nat} {ns : List Nat} {k : Int} (htw : (tw : Int) < 2) (hS : Sizes ns) (h0 : 0 ≤ k) (h1 : k ≤ ((asInts (reachR tw ns)).length : Int)) (hb : BilP (asInts (reachR tw ns)) k k) : told (tblOf tw) (isort (ns.map fun (n : Nat) => (n : Int))) = k := by
  obtain ⟨j, rfl⟩ : ∃ j : Nat, k = (j : Int) := ⟨k.toNat, by omega⟩
  have hl : (asInts (reachR tw ns)).length = (reachR tw ns).length := by unfold asInts; rw [List.length_map]
  obtain ⟨g1, g2⟩ := gap_is (reach_rise tw ns) (by omega) hb
  have ok := ok_all (tw := tw) (by omega) hS
  unfold okCase at ok
  generalize told (tblOf tw) (isort (ns.map fun (n : Nat) => (n : Int))) = T at ok ⊢
  rw [Bool.and_eq_true, Bool.and_eq_true, decide_eq_true_eq] at ok
  obtain ⟨⟨o0, o1⟩, o2⟩ := ok
  have o1' : ∀ v, v < T.toNat → v ∈ reachR tw ns := fun v hv => (mask_reach tw ns v).mpr (List.all_eq_true.mp o1 v (List.mem_range.mpr hv))
  have o2' : T.toNat ∉ reachR tw ns := fun hm => by rw [(mask_reach tw ns _).mp hm] at o2; cases o2
  have e : T.toNat = j := by
    rcases Nat.lt_trichotomy T.toNat j with h | h | h
    · exact absurd (g1 _ h) o2'
    · exact h
    · exact absurd (o1' _ h) g2
  omega
end

section
open PySem PySem.W PyProof.Rows PySem.Calls PyProof.Rows.LCg
set_option maxRecDepth 100000

theorem UpdS.newsX {c L : Addr} {o o' : Obj} {h₀ h h' : Heap} {news : List (Addr × Obj)} {g : Obj → List (Addr × Obj)} (U : UpdS c o news g) (hc : h.get? c = some o) (h1 : c ≠ L ∧ h₀.get? c = none) (N : News h₀ L h news) (hs : Heap.ExtBut c h h') (ho : h'.get? c = some o') : News h₀ L h' (g o') := by
  induction U with
  | nil => exact fun p hp => nomatch hp
  | here _ ih =>
    intro p hp
    rcases List.mem_cons.mp hp with rfl | hp
    · exact ⟨ho, h1⟩
    · exact ih (fun q hq => N q (List.mem_cons_of_mem _ hq)) p hp
  | @skip q r g hne _ ih =>
    intro p hp
    rcases List.mem_cons.mp hp with rfl | hp
    · have z := N p List.mem_cons_self
      refine ⟨hs _ _ (fun e => hne ?_) z.1, z.2⟩
      have z1 := z.1
      rw [e, hc] at z1
      exact (Option.some.inj z1).symm
    · exact ih (fun q hq => N q (List.mem_cons_of_mem _ hq)) p hp
  | @apart q r g hne _ ih =>
    intro p hp
    rcases List.mem_cons.mp hp with rfl | hp
    · have z := N p List.mem_cons_self
      exact ⟨hs _ _ hne z.1, z.2⟩
    · exact ih (fun q hq => N q (List.mem_cons_of_mem _ hq)) p hp
  | drop _ ih => exact ih (fun q hq => N q (List.mem_cons_of_mem _ hq))
theorem lst_tab {ys : List Value} {ps : Array Value} : lst ys ≠ tabObj ps := fun e => by
  have := congrArg Obj.data e
  cases this
theorem listOf_tab {ys : Array Value} {k : Nat} {ps : Array Value} : listOf ys k ≠ tabObj ps := fun e => by
  have := congrArg Obj.data e
  cases this
theorem listObj_tab {q : Obj} {ys ps : Array Value} (hq : ListObj q ys) : q ≠ tabObj ps := fun e => by
  obtain ⟨_, n, h⟩ := hq
  rw [e] at h; cases h
theorem cell_tab {q : Obj} {v : Option Value} {ps : Array Value} (hq : q.data = .cell v) : q ≠ tabObj ps := fun e => by
  rw [e] at hq; cases hq

section
variable {M : Model} {A : Around} {E : Value → Shared → Prop} {s : Shared} {h₀ : Heap} {L a c P : Addr} {m mg mb : Str → Option Value} {cn : Str} {cs : Scope} {ccd : Value} {cl : List (Str × Addr)} {news : List (Addr × Obj)} {g : Obj → List (Addr × Obj)}
  {p : Program} {loose : List Str} {mean : ExcName → Option Value} {params : Arguments} {scope : Scope} {pos : Pos}

/-- the lambda made -/
theorem lam_here {Q : Value → Shared → Prop} {p1 p2 p3 p4 p5 : Pos} {cc lr : Addr} {oc ol : Obj} {out : Array Value} (F : Fr h₀ L s.heap m) (N : News h₀ L s.heap news) (T : Top p loose mean mg mb h₀) (C : CodeHd h₀ c P) (hcd : ccd = .ref c) (hP : (P, tabObj #[]) ∈ news) (U : UpdS P (tabObj #[]) news g)
    (hdef : defaultsOf params (envX cn cs L a ccd cl) = ([], [])) (hcl : closureFor scope (envX cn cs L a ccd cl) = pure [(kReached, cc)])
    (hcm : (cc, oc) ∈ news) (hoc : oc.data = .cell (some (.ref lr))) (hlm : (lr, ol) ∈ news) (hol : ListObj ol out)
    (hsk : scope.kind = .function) (hco : scope.isCoroutine = false) (hgen : scope.isGenerator = false) (hcell : ∀ x ∈ scope.names, x.2 ≠ .cell) (hsp : scope.names.lookup kSpot = some .local) (hre : scope.names.lookup kReached = some .free)
    (hbind : ∀ name qual pm c' ctv, ∀ v : Value, bindArgs (kla_fn name qual params (.BinOp (.Subscript (.Name kReached p1) (.Name kSpot p2) p3) .Sub (.Name kSpot p4) p5) scope [(kReached, cc)] pm (.ref c') ctv) ⟨[v], []⟩ = pure [(kSpot, v)])
    (h : ∀ f ps h' tk, KeyAt h' f lr out → Fr h₀ L h' m → News h₀ L h' (g (tabObj ps)) → Q (.ref f) { s with heap := h', toks := tk }) :
    wpAny M A (eval (.Lambda params (.BinOp (.Subscript (.Name kReached p1) (.Name kSpot p2) p3) .Sub (.Name kSpot p4) p5) scope pos) (envX cn cs L a ccd cl)) Q E s := by
  refine kla_eval hdef ?_
  have hm := N (P, tabObj #[]) hP
  have hgs := T.g.keeps F.keep
  obtain ⟨bm, ob, b1, b2, b3, b4, b5, b6⟩ := T.bmain
  have hgP : mainGlobals ≠ P := fun q => by
    obtain ⟨o, es, ep, e, hd, _⟩ := hgs
    rw [q, hm.1] at e; cases e; cases hd
  have hbP : bm ≠ P := fun q => by
    have e := F.keep _ _ b3
    rw [q, hm.1] at e; cases e; cases b4
  have hbG : bm ≠ mainGlobals := fun q => by
    obtain ⟨o, es, ep, e, hd, _⟩ := T.g
    rw [q, e] at b3; cases b3; rw [hd] at b6; cases b6
  refine kla_makeFunction (mg := mg) (ps := #[]) hcl rfl hgs hcd (C.keeps F.keep) hm.1 True.intro rfl hgP ⟨bm, ob, b1, b2, hbG, hbP, F.keep _ _ b3, b4, b5, b6⟩ fun c' ctv h' tk hx hge hlt hrec htb => ?_
  have hcP : cc ≠ P := fun q => by
    have e := (N _ hcm).1
    have e1 := hm.1
    rw [show (cc, oc).1 = P from q] at e
    rw [show (P, tabObj #[]).1 = P from rfl, e] at e1
    have e2 := congrArg Obj.data (Option.some.inj e1)
    rw [show (cc, oc).2.data = _ from hoc] at e2; cases e2
  have hlP : lr ≠ P := fun q => by
    have e := (N _ hlm).1
    have e1 := hm.1
    rw [show (lr, ol).1 = P from q] at e
    rw [show (P, tabObj #[]).1 = P from rfl, e] at e1
    obtain ⟨_, n, hd⟩ := hol
    have e2 := congrArg Obj.data (Option.some.inj e1)
    rw [show (lr, ol).2.data = _ from hd] at e2; cases e2
  have up : ∀ (o : Obj) b x, h'.get? b = some x → (h'.push o).get? b = some x := fun o b x e => Heap.get?_push_of_some _ e
  have N' : News h₀ L h' (g (tabObj (#[] ++ #[rawInt pos.line, rawInt pos.col, .ref c']))) := U.newsX hm.1 hm.2 N hx htb
  refine h h'.objs.size _ _ tk ⟨⟨_, cc, c', _, ⟨_, params, scope, _, ctv, p1, p2, p3, p4, p5, rfl, hsk, hco, hgen, hcell, hsp, hre, hbind _ _ _ _ _⟩, Heap.get?_push_size _ rfl, hrec.keeps fun b o e => Heap.get?_push_of_some _ e, ⟨oc, Heap.get?_push_of_some _ (hx _ _ hcP (N _ hcm).1), hoc⟩⟩, ?_⟩
    ⟨(F.ns.extBut hx hm.2.1.symm).push _, fun b o e => Heap.get?_push_of_some _ (hx b o (fun q => by rw [q, hm.2.2] at e; cases e) (F.keep b o e)), F.above⟩ fun q hq => ⟨Heap.get?_push_of_some _ (N' q hq).1, (N' q hq).2⟩
  exact ⟨ol, Heap.get?_push_of_some _ (hx _ _ hlP (N _ hlm).1), hol.1, hol.2⟩
end
section
variable {w : World} {loose : List Str} {mean : ExcName → Option Value} {mg mb : Str → Option Value} {dp un : Nat} {gd : Option (List Code)} {cn : Str} {cs : Scope} {a : Addr} {ccd : Value} {cl : List (Str × Addr)} {outer : List Env} {A₀ : Around} {base h₀ : Heap} {L l : Addr} {m : Str → Option Value} {s : Shared} {news : List (Addr × Obj)} {Q E : Value → Shared → Prop}
theorem bil_call {f lr : Addr} {out : Array Value} {us : List Value} {tw kk : Nat} {ns : List Nat} {t : Tok} (hm : (l, listOf us.toArray kk) ∈ news) (hI : IntsAre us (rangeKs 0 (reachR tw ns).length)) (hK : KeyAt s.heap f lr out) (hrs : IntsAre out.toList (asInts (reachR tw ns)))
    (B : Below A₀ base outer h₀) (F : Fr h₀ L s.heap m) (X : (hd.heap_39 w.params).In h₀) (N : News h₀ L s.heap news) (T : Top topProg loose mean mg mb h₀) (hk : cs.kind = .function) (hd : dp + 4 < recursionLimit) (hu : un + 20 * 4 < cLine)
    (h : ∀ k t h' tk', 0 ≤ k → k ≤ ((asInts (reachR tw ns)).length : Int) → BilP (asInts (reachR tw ns)) k k → Fr h₀ L h' m → News h₀ L h' news → Q (.int k t) { s with heap := h', toks := tk' }) :
    wpAny (model PG w) (ktrTop dp un gd cn cs L a ccd cl outer) (call (.ref 49) [.ref l, .int 1 t] [(Str.ofString "key", .ref f)]) Q E s := by
  have hlen : (asInts (reachR tw ns)).length = (reachR tw ns).length := by unfold asInts; rw [List.length_map]
  have hR := (reach_small tw ns).2
  have hrise : (asInts (reachR tw ns)).Pairwise (· < ·) := by
    unfold asInts
    exact List.Pairwise.map _ (fun a b hab => by omega) (reach_rise tw ns)
  refine bil_walk w l f lr us out (asInts (reachR tw ns)) t (by rw [hlen]; exact hI) hrs (by omega) hrise loose mean mg mb dp un gd cn cs a ccd cl outer A₀ base h₀ L m s Q E B F X T hk hd hu ((ListObj.of _ _).list N hm) hK fun v h' tk' k hq => ?_
  obtain ⟨k', t', rfl, h0, h1, hb⟩ := hq
  exact h k' t' h' tk' h0 h1 hb (F.kept k) fun p hp => ⟨k _ _ (N p hp).1, (N p hp).2⟩
theorem told_same {vs : List Value} {ns : List Nat} {tw kk : Nat} {t : Tok} {k : Int} (htw : (tw : Int) < 2) (hb : BilP (asInts (reachR tw ns)) k k) (h0 : 0 ≤ k) (h1 : k ≤ ((asInts (reachR tw ns)).length : Int)) (hS : Sizes ns) (hm : (l, listOf vs.toArray kk) ∈ news) (hi : IntsAre vs (ns.map fun (n : Nat) => (n : Int)))
    (B : Below A₀ base outer h₀) (F : Fr h₀ L s.heap m) (X : (hd.heap_39 w.params).In h₀) (N : News h₀ L s.heap news) (T : Top topProg loose mean mg mb h₀) (hk : cs.kind = .function) (hd : dp + 2 < recursionLimit) (hu : un + 20 * 2 < cLine)
    (h : ∀ t h' tk', Fr h₀ L h' m → News h₀ L h' news → Q (.int k t) { s with heap := h', toks := tk' }) :
    wpAny (model PG w) (ktrTop dp un gd cn cs L a ccd cl outer) (call (.ref 102) [.ref l, .int (tw : Int) t]) Q E s :=
  told_call htw hS hm hi B F X N T hk hd hu fun t h' tk' F' N' => by
    rw [law_true htw hS h0 h1 hb]; exact h t h' tk' F' N'
end
theorem eq_same {A : Around} {E : Value → Shared → Prop} {s : Shared} {k : Int} {t u : Tok} {prog : Program} {w : World} {Q : Value → Shared → Prop} (h : Q (.bool true) s) : wpAny (model prog w) A (compareOp .Eq (.int k t) (.int k u)) Q E s := by
  refine PyProof.Rows.eq_int ?_
  rw [show (k == k) = true from beq_self_eq_true k]; exact h
end

section
open PySem PySem.W PyProof.Rows PySem.Calls
set_option maxRecDepth 100000

set_option linter.unusedVariables false
section
local macro_rules | `(tactic| walk_at "eval ListComp") => `(tactic| (k_here; (first | lcg_look | lcf_look); k_dflt (refine LCg.ListComp_U (F₀ := by k_asm) (by with_unfolding_all rfl) (by decide) (by rfl) (by decide) (by rfl) ?_)))
local macro_rules | `(tactic| walk_at "CompSrc") => `(tactic| (k_dflt (refine cells_src (by rfl) (by k_asm) (by k_asm) (by k_mem) (by assumption) ?turn ?fin); (case' turn => (intro n ti I oI C oC D m₂ ys h tk E' hC hx F N off ne; (try simp only [LCg.Off3, and_true] at off))); (case' fin => intro g ys ms hAll hlen)))
local macro_rules | `(tactic| walk_at "Elt") => `(tactic| ((refine Elt.mk (by lcg_sub) ?_); first | exact ⟨_, _, rfl⟩ | exact ⟨_, rfl⟩))
local macro_rules | `(tactic| walk_at "exec Assign cons ListComp") => `(tactic| (k_here; lcp_look; k_dflt (refine enum_assign (by k_asm) (by rfl) (by with_unfolding_all rfl) (by with_unfolding_all rfl) (by decide) (by rfl) (by decide) (by rfl) (by rfl) (by decide) (by rfl) (by rfl) ?_)))
local macro_rules | `(tactic| walk_at "call type:enumerate") => `(tactic| (k_dflt (refine enum_call5 (by rfl) (by k_asm) (by k_asm) (by k_mem) (by rfl) (ints_cons (ints_cons (ints_cons (ints_cons (ints_cons ints_nil))))) ?turn ?fin); (case' turn => (intro i n t tn e oe it oit C oC D ys m₂ h tk E' hi hC ha hb F N)); (case' fin => (intro g n0 t0 n1 t1 n2 t2 n3 t3 n4 t4))))
local macro_rules | `(tactic| walk_at "binaryOp Mod int int") => `(tactic| (k_dflt (refine mod_small (by decide) ?_); intro r hr))
local macro_rules | `(tactic| walk_at "subscriptTail Name Slice ref ref") => `(tactic| (k_here; k_dflt (refine' step_slice ?F ?N ?l ?y ?z ?b ?_ ?s ?t; (case F => k_asm); (case N => k_asm); (case l => k_mem); (case y => assumption); (case z => assumption); (case b => decide); (case s => with_unfolding_all rfl); (case t => (intro _; with_unfolding_all rfl))); intro D ws ks h' F N l1 hws; (try k_lt l1)))
local macro_rules | `(tactic| walk_at "call builtin:sum") => `(tactic| (k_dflt (refine sum_here (by rfl) (by k_asm) (by k_asm) (by k_mem) (by assumption) ?_); intro ns ts h' tk F N))
local macro_rules | `(tactic| walk_at "subscriptTail Name Constant ref int") => `(tactic| (k_dflt (refine item_lit (by k_asm) (by k_mem) (by decide) (by decide) (by rfl) ?_)))
local macro_rules | `(tactic| walk_at "subscriptTail Name Slice ref ref") => `(tactic| (k_here; k_dflt (refine' size_slice ?F ?N ?l ?a ?b ?c ?d ?e ?_ ?s ?t; (case F => k_asm); (case N => k_asm); (case l => k_mem); (case a => assumption); (case b => assumption); (case c => assumption); (case d => assumption); (case e => assumption); (case s => with_unfolding_all rfl); (case t => (intro _; with_unfolding_all rfl))); intro D ws ns h' F N l1 hS hi; (try k_lt l1)))
local macro_rules | `(tactic| walk_at "call ref") => `(tactic| (k_dflt (refine' pages_call ?k1 ?k2 ?k3 ?k4 ?k5 ?k6 ?k7 ?k8 ?k9 ?kK ?kd ?ku ?_; (case k8 => k_asm); (case k1 => assumption); (case k2 => assumption); (case k3 => k_mem); (case k4 => assumption); (case k5 => k_asm); (case k6 => k_asm); (case k7 => k_asm); (case k9 => k_asm); (case kK => exact rfl); (case kd => first | ktr_room | decide); (case ku => first | ktr_units | decide)); intro lp o its h' tk' hlo hls o1 F N; clear o1))
local macro_rules | `(tactic| walk_at "call ref") => `(tactic| (k_dflt (refine' written_call ?k1 ?k2 ?k3 ?k4 ?k0 ?k5 ?k6 ?k7 ?k8 ?k9 ?kK ?kd ?ku ?_; (case k8 => k_asm); (case k1 => assumption); (case k2 => assumption); (case k3 => k_mem); (case k4 => assumption); (case k0 => assumption); (case k5 => k_asm); (case k6 => k_asm); (case k7 => k_asm); (case k9 => k_asm); (case kK => exact rfl); (case kd => first | ktr_room | decide); (case ku => first | ktr_units | decide)); intro tw9 h' tk' F N))
local macro_rules | `(tactic| walk_at "call ref") => `(tactic| (k_dflt (refine' reached_call ?k1 ?k2 ?k3 ?k4 ?k0 ?k5 ?k6 ?k7 ?k8 ?k9 ?kK ?kd ?ku ?_; (case k8 => k_asm); (case k3 => k_mem); (case k4 => assumption); (case k0 => assumption); (case k1 => assumption); (case k2 => assumption); (case k5 => k_asm); (case k6 => k_asm); (case k7 => k_asm); (case k9 => k_asm); (case kK => exact rfl); (case kd => first | ktr_room | decide); (case ku => first | ktr_units | decide)); intro dr lr o out h' tk' hro hrs o1 F N; clear o1))
local macro_rules | `(tactic| walk_at "CompSrc") => `(tactic| (k_dflt (refine written_src (by assumption) (by assumption) (by assumption) (by rfl) (by k_asm) (by k_asm) ?turn2 ?fin2); (case' turn2 => (intro k ti I oI C oC D m₂ ys h tk E' hk hC hx F N off ne; (try simp only [LCg.Off3, and_true] at off))); (case' fin2 => intro g ys hAll)))
local macro_rules | `(tactic| walk_at "call builtin:len") => `(tactic| (k_dflt (refine len_sizes (by k_asm) (by k_mem) (by assumption) (by assumption) ?_); intro tl kl))
local macro_rules | `(tactic| walk_at "call builtin:len") => `(tactic| (k_dflt (refine len_reached (by k_asm) (by k_mem) (by assumption) (by assumption) ?_); intro tl kl))
local macro_rules | `(tactic| walk_at "compareOp NotEq ref ref") => `(tactic| (k_dflt (refine ne_here (by k_asm) (by assumption) (by assumption) (by assumption) (by k_mem) (by k_mem) (by ke_room) ?_)))
local macro_rules | `(tactic| walk_at "call type:list") => `(tactic| (k_dflt (refine spots_here (by rfl) (by k_asm) (by k_asm) (by assumption) ?_); intro D us c h' tk F N l1 hI; (try k_lt l1)))
local macro_rules | `(tactic| walk_at "EltEnd") => `(tactic| (refine EltEnd.intro (by k_asm) (by k_asm) (by lcg_sub) ?_; first | exact ⟨_, _, rfl⟩ | exact ⟨_, rfl⟩))

local macro_rules | `(tactic| walk_at "exec If") => `(tactic| refine wpAny_If ?_)
local macro_rules | `(tactic| walk_at "call type:range") => `(tactic| (k_dflt (refine range1_rows (by k_asm) (by k_asm) ?_); intro h' tk' t1 u1 v1 hr F N kr))
local macro_rules | `(tactic| walk_at "storeName") => `(tactic| (k_here; k_dflt (refine' store_cell ?sF ?sN ?sc ?sm ?sd ?sU ?_ ?sa ?sb; (case sa => rfl); (case sb => rfl); (case sF => k_asm); (case sN => k_asm); (case sc => rfl); (case sm => k_mem); (case sd => assumption); (case sU => (repeat' (first | exact UpdS.nil | refine' UpdS.here ?_ | refine' UpdS.skip (lst_cell (by assumption)) ?_ | refine' UpdS.skip (listOf_cell (by assumption)) ?_ | refine' UpdS.skip (listObj_cell (by assumption) (by assumption)) ?_ | refine' UpdS.apart (by k_ne) ?_ | refine' UpdS.drop ?_)))); intro h' o' F' N' d'; (try dsimp only at N'); (try k_sweep)))
local macro_rules | `(tactic| walk_at "eval Lambda") => `(tactic| (k_here; k_dflt (refine' lam_here ?lF ?lN ?lT ?lC ?lcd ?lP ?lU ?ld ?lcl ?lm ?lo ?lr ?lol ?l1 ?l2 ?l3 ?l4 ?l5 ?l6 ?lb ?_; (case lcd => exact rfl); (case lF => k_asm); (case lN => k_asm); (case lT => k_asm); (case lC => assumption); (case lP => k_mem); (case lU => (repeat' (first | exact UpdS.nil | refine' UpdS.here ?_ | refine' UpdS.skip lst_tab ?_ | refine' UpdS.skip listOf_tab ?_ | refine' UpdS.skip (listObj_tab (by assumption)) ?_ | refine' UpdS.skip (cell_tab (by assumption)) ?_ | refine' UpdS.drop ?_))); (case ld => exact rfl); (case lcl => exact rfl); (case lm => k_mem); (case lo => assumption); (case lr => k_mem); (case lol => assumption); (case l1 => exact rfl); (case l2 => exact rfl); (case l3 => exact rfl); (case l4 => decide); (case l5 => exact rfl); (case l6 => exact rfl); (case lb => (intros; exact rfl))); intro lf lps h' tk' hKey F' N'; (try dsimp only at N'); (try k_sweep)))
local macro_rules | `(tactic| walk_at "call ref") => `(tactic| (k_dflt (refine' bil_call ?k1 ?k2 ?k3 ?k4 ?k5 ?k6 ?k7 ?k8 ?k9 ?kK ?kd ?ku ?_; (case k8 => k_asm); (case k1 => k_mem); (case k2 => assumption); (case k3 => assumption); (case k4 => assumption); (case k5 => k_asm); (case k6 => k_asm); (case k7 => k_asm); (case k9 => k_asm); (case kK => exact rfl); (case kd => first | ktr_room | decide); (case ku => first | ktr_units | decide)); intro k9 tw9 h' tk' hk0 hk1 hkb F N))
local macro_rules | `(tactic| walk_at "call ref") => `(tactic| (k_dflt (refine' told_same ?k1 ?q1 ?q2 ?q3 ?k2 ?k3 ?k4 ?k5 ?k6 ?k7 ?k8 ?k9 ?kK ?kd ?ku ?_; (case k8 => k_asm); (case k1 => assumption); (case q1 => assumption); (case q2 => assumption); (case q3 => assumption); (case k2 => assumption); (case k3 => k_mem); (case k4 => assumption); (case k5 => k_asm); (case k6 => k_asm); (case k7 => k_asm); (case k9 => k_asm); (case kK => exact rfl); (case kd => first | ktr_room | decide); (case ku => first | ktr_units | decide)); intro tw9 h' tk' F N))
local macro_rules | `(tactic| walk_at "compareOp Eq int int") => `(tactic| (k_dflt (refine eq_same ?_)))
set_option maxHeartbeats 8000000 in
theorem t1 : PySem.Challenge.rw_wn0045_01.Holds := hd (by w_top off; k_with_none; k_go0; (all_goals try k_fold); k_steps)
end
end
end Mine

theorem PySem.Challenge.cw_wn0045_01_holds : PySem.Challenge.rw_wn0045_01.Holds := by
  exact Mine.t1
