import PyProof.Rows.All
import Wide.All
import OpenK.AllK
import Wide.FinOn
import PySem.Challenge.RW_wk0003_01
set_option Elab.async false

section
open PySem PySem.W PyProof.Rows
set_option maxRecDepth 100000
set_option maxHeartbeats 8000000
namespace Mine
open_top hd for PySem.Challenge.rw_wk0003_01
end Mine

end

section
open PySem PySem.W PyProof.Rows PySem.Calls
set_option maxRecDepth 100000
set_option maxHeartbeats 800000
namespace Mine
noncomputable abbrev PW := PySem.Challenge.pw_wk0003_01
noncomputable abbrev VW := Mine.hd.view_39
noncomputable abbrev LS := looseW Mine.hd.view_39 [Str.ofString "_twin_re_1", Str.ofString "_twin_re_2"]

def Stay (h h' : Heap) : Prop := ∀ b o, h.get? b = some o → h'.get? b = some o
theorem Stay.refl (h : Heap) : Stay h h := fun _ _ e => e
theorem Stay.trans {a b c : Heap} (x : Stay a b) (y : Stay b c) : Stay a c := fun _ _ e => y _ _ (x _ _ e)

/-- entering a def of the top: the ledger's objects are hidden from the ground -/
theorem enter {w : World} {A : Around} {s : Shared} {K : Frag} {G : Heap} {p : Program} {loose : List Str} {mg mb : Str → Option Value} {R : Result → Shared → Prop}
    {name qual : Str} {params : Arguments} {body : List Stmt} {scope : Scope} {dV kV doc pm cdv ct oc : Value} {an od : Option Addr} {osl : Array (Option Value)} {f : Addr} {args : Args} {binds : List (Str × Value)}
    (news : List (Addr × Obj)) (kg : Stay G s.heap) (X : K.In G) (T : TopRead p loose mg mb G)
    (hN : ∀ q ∈ news, s.heap.get? q.1 = some q.2 ∧ G.get? q.1 = none)
    (ho : K.lookup f = some ⟨oc, od, .func (fnOf name qual params body scope dV kV doc pm an cdv ct), osl⟩) (hcd : codeIn K cdv qual = true) (hroom : A.depth < recursionLimit)
    (hbind : BindsTo s (fnOf name qual params body scope dV kV doc pm an cdv ct) args binds) (hloc : ∀ y ∈ binds, scope.names.lookup y.1 = some .local)
    (h : ∀ g h₁, K.In g → TopRead p loose mg mb g → (∀ b o, s.heap.get? b = some o → b ∉ news.map (·.1) → g.get? b = some o) → Stay s.heap h₁ →
      Fr g s.heap.objs.size h₁ (fun y => binds.reverse.lookup y) → News g s.heap.objs.size h₁ news →
      wpAny (model PW w) (A.deeper (envOf qual scope s.heap.objs.size f cdv)) (execs body (envOf qual scope s.heap.objs.size f cdv))
        (fun fl s' => R (.ok (.ret (match fl with | .ret v => v | _ => .none))) s')
        (fun e s' => wpAny (model PW w) (A.deeper (envOf qual scope s.heap.objs.size f cdv)) (leaving (envOf qual scope s.heap.objs.size f cdv) e) (fun _ s'' => R (.error e) s'') (fun e' s'' => R (.error e') s'') s')
        { s with heap := h₁, toks := s.toks + binds.length })
    (hco : scope.isCoroutine = false := by rfl) (hgen : scope.isGenerator = false := by rfl) (hk : scope.kind = .function := by rfl)
    (hcell : ∀ x ∈ scope.names, x.2 ≠ .cell := by decide) : codeAny (model PW w) A (.call (.ref f) args) R s := by
  have st : ∀ b o, G.get? b = some o → (hideAll s.heap (news.map (·.1))).get? b = some o := fun b o e => hideAll_get _ (kg b o e) fun hm => by
    obtain ⟨q, hq, rfl⟩ := List.mem_map.mp hm
    rw [(hN q hq).2] at e; cases e
  refine codeAny_call_def (fd := fnOf name qual params body scope dV kV doc pm an cdv ct) (body := body) (binds := binds) hroom ((X.keeps kg) _ _ ho) rfl (T.nolimit.keeps kg) (codeRec_of (X.keeps kg) hcd) rfl hbind hcell hloc (fun h₁ hns hk₁ => ?_) hco hgen hk
  exact h _ h₁ (X.keeps st) (T.keeps st) (fun b o e n => hideAll_get _ e n) hk₁ ⟨hns, fun b o e => hk₁ b o (of_hideAll _ e), Nat.le_of_eq (hideAll_size _ _)⟩
    (fun q hq => ⟨hk₁ _ _ (hN q hq).1, Nat.ne_of_lt (Heap.lt_size (hN q hq).1), hideAll_none _ (List.mem_map_of_mem hq)⟩)
end Mine

end

section
open PySem PySem.Sre
set_option linter.unusedSimpArgs false
namespace Mine
def P1 : Array Nat := #[14, 4, 0, 1, 1, 6, 1, 16, 46, 1]
def P2 : Array Nat := #[14, 9, 4, 1, 2, 16, 10, 16, 13, 0, 7, 7, 16, 13, 16, 10, 15, 18, 5, 16, 10, 15, 13, 11, 16, 13, 5, 5, 0, 16, 10, 1, 15, 2, 0, 1]

theorem runFor_add (a b : Nat) (m : M) : M.runFor (a + b) m = M.runFor b (M.runFor a m) := by
  induction a generalizing m with
  | zero => simp [M.runFor]
  | succ a ih =>
    rw [Nat.succ_add]
    simp only [M.runFor]
    split
    · rename_i h
      cases b with
      | zero => simp [M.runFor]
      | succ b => simp [M.runFor, h]
    · exact ih _

/-- the machine in a search -/
def st (code text : Array Nat) (start pc pos handed : Nat) (om : Bool) (frames : List Sre.Frame) (wt : Nat) (ans : Option Bool) (seen : Seen) (out : Option Sre.Outcome := none) : M :=
  { code, text, lim := text.size, start, lastStart := text.size, pc, pos, handed, outermost := om, marks := #[], frames, weight := wt, answer := ans, seen, outcome := out }
def fr (pc s : Nat) (om : Bool) : Sre.Frame := { wait := .nextStart, pc := pc, pos := s, outermost := om }


/-- one step, where the machine is not yet ended -/
theorem run_step {n : Nat} {m m' : M} (ho : m.outcome = none) (h : m.step = m') : M.runFor (n + 1) m = M.runFor n m' := by
  simp [M.runFor, ho, h]
theorem run_end {n : Nat} {m : M} (ho : m.outcome.isSome = true) : M.runFor n m = m := by
  cases n with
  | zero => rfl
  | succ n => simp [M.runFor, ho]

section
variable {text : Array Nat} {s a b hd : Nat} {om : Bool} {seen : Seen}
theorem p1_at_no (h0 : s ≠ 0) (h : ¬ text[s - 1]?.getD 0 = 10) : ∃ seen', (st P1 text a 5 s hd om [fr 5 b om] 1 none seen).step = st P1 text a 5 s hd om [fr 5 b om] 1 (some false) seen' := by
  refine ⟨?_, ?_⟩
  rotate_left
  · simp [M.step, st, fr, P1, M.exec, M.word, ops, M.isAt, M.say, h0, h]; rfl
theorem p1_at_yes (h : s = 0 ∨ text[s - 1]?.getD 0 = 10) : ∃ seen', (st P1 text a 5 s hd om [fr 5 b om] 1 none seen).step = st P1 text a 7 s hd om [fr 5 b om] 1 none seen' := by
  refine ⟨?_, ?_⟩
  rotate_left
  · simp [M.step, st, fr, P1, M.exec, M.word, ops, M.isAt, M.say, h]; rfl
theorem p1_lit_end (h : text.size ≤ s) : ∃ seen', (st P1 text a 7 s hd om [fr 5 b om] 1 none seen).step = st P1 text a 7 s hd om [fr 5 b om] 1 (some false) seen' := by
  refine ⟨?_, ?_⟩
  rotate_left
  · simp [M.step, st, fr, P1, M.exec, M.word, ops, M.say, h]; rfl
theorem p1_lit_no (h : s < text.size) (hc : text[s]?.getD 0 ≠ 46) : ∃ seen', (st P1 text a 7 s hd om [fr 5 b om] 1 none seen).step = st P1 text a 7 s hd om [fr 5 b om] 1 (some false) seen' := by
  refine ⟨?_, ?_⟩
  rotate_left
  · have hb : (text[s]?.getD 0 == 46) = false := by simp [hc]
    simp [M.step, st, fr, P1, M.exec, M.word, ops, M.say, Nat.not_le.mpr h, accepts, hb]; rfl
theorem p1_lit_yes (h : s < text.size) (hc : text[s]?.getD 0 = 46) : ∃ seen', (st P1 text a 7 s hd om [fr 5 b om] 1 none seen).step = st P1 text a 9 (s + 1) hd om [fr 5 b om] 1 none seen' := by
  refine ⟨?_, ?_⟩
  rotate_left
  · simp [M.step, st, fr, P1, M.exec, M.word, ops, M.say, Nat.not_le.mpr h, accepts, hc, itemWidth]; rfl
theorem p1_succ : ∃ seen', (st P1 text a 9 s hd om [fr 5 b om] 1 none seen).step = st P1 text a 9 s s om [fr 5 b om] 1 (some true) seen' := by
  refine ⟨?_, ?_⟩
  rotate_left
  · simp [M.step, st, fr, P1, M.exec, M.word, ops, M.say]; rfl
theorem p1_back_yes {pc : Nat} : (st P1 text a pc s hd om [fr 5 b om] 1 (some true) seen).step = st P1 text a 5 b hd om [] 0 (some true) seen := by
  simp [M.step, st, fr, P1, M.resume, M.say]
theorem p1_end {pc : Nat} {x : Bool} : (st P1 text a pc s hd om [] 0 (some x) seen).step = st P1 text a pc s hd om [] 0 (some x) seen (some (if x then .matched else .failed)) := by
  simp [M.step, st]
theorem p1_back_no {pc : Nat} (h : b < text.size) : (st P1 text a pc s hd om [fr 5 b om] 1 (some false) seen).step = st P1 text (b + 1) 5 (b + 1) (b + 1) false [fr 5 (b + 1) false] 1 none seen := by
  simp [M.step, st, fr, P1, M.resume, M.putBack, M.attemptFrom, M.hasFirstSet, M.attemptAt, M.attempt, h, ops]
theorem p1_back_fail {pc : Nat} (h : text.size ≤ b) : (st P1 text a pc s hd om [fr 5 b om] 1 (some false) seen).step = st P1 text a 5 b hd om [] 0 (some false) seen := by
  simp [M.step, st, fr, P1, M.resume, M.putBack, M.say, Nat.not_lt.mpr h]
end

def Hit1 (text : Array Nat) (s : Nat) : Prop := s < text.size ∧ (s = 0 ∨ text[s - 1]?.getD 0 = 10) ∧ text[s]?.getD 0 = 46

/-- how a search ends -/
def Ends (m : M) (bound : Nat) (r : Option (Nat × Nat)) : Prop :=
  ∃ n m', n ≤ bound ∧ M.runFor n m = m' ∧ match r with
    | some (a, b) => m'.outcome = some .matched ∧ m'.start = a ∧ m'.handed = b
    | none => m'.outcome = some .failed
theorem Ends.step {m m' : M} {b : Nat} {r : Option (Nat × Nat)} (h : Ends m' b r) (ho : m.outcome = none) (hs : m.step = m') : Ends m (b + 1) r := by
  obtain ⟨n, m₂, hn, hr, hm⟩ := h
  exact ⟨n + 1, m₂, by omega, by rw [run_step ho hs]; exact hr, hm⟩
theorem Ends.mono {m : M} {b c : Nat} {r : Option (Nat × Nat)} (h : Ends m b r) (hb : b ≤ c) : Ends m c r := by
  obtain ⟨n, m₂, hn, hr, hm⟩ := h
  exact ⟨n, m₂, by omega, hr, hm⟩

theorem p1_hit {text : Array Nat} {s : Nat} {om : Bool} {seen : Seen} (h : Hit1 text s) :
    Ends (st P1 text s 5 s s om [fr 5 s om] 1 none seen) 5 (some (s, s + 1)) := by
  obtain ⟨h1, h2, h3⟩ := h
  obtain ⟨e1, q1⟩ := p1_at_yes (text := text) (s := s) (a := s) (b := s) (hd := s) (om := om) (seen := seen) h2
  obtain ⟨e2, q2⟩ := p1_lit_yes (text := text) (s := s) (a := s) (b := s) (hd := s) (om := om) (seen := e1) h1 h3
  obtain ⟨e3, q3⟩ := p1_succ (text := text) (s := s + 1) (a := s) (b := s) (hd := s) (om := om) (seen := e2)
  refine Ends.step (b := 4) ?_ rfl q1
  refine Ends.step (b := 3) ?_ rfl q2
  refine Ends.step (b := 2) ?_ rfl q3
  refine Ends.step (b := 1) ?_ rfl p1_back_yes
  refine Ends.step (b := 0) ?_ rfl p1_end
  exact ⟨0, _, Nat.le_refl _, rfl, rfl, rfl, rfl⟩

theorem p1_miss {text : Array Nat} {s : Nat} {om : Bool} {seen : Seen} {r : Option (Nat × Nat)} {b : Nat} (h : ¬ Hit1 text s) (hs : s < text.size)
    (hn : ∀ seen', Ends (st P1 text (s + 1) 5 (s + 1) (s + 1) false [fr 5 (s + 1) false] 1 none seen') b r) :
    Ends (st P1 text s 5 s s om [fr 5 s om] 1 none seen) (b + 3) r := by
  by_cases h2 : s = 0 ∨ text[s - 1]?.getD 0 = 10
  · have h3 : text[s]?.getD 0 ≠ 46 := fun e => h ⟨hs, h2, e⟩
    obtain ⟨e1, q1⟩ := p1_at_yes (text := text) (s := s) (a := s) (b := s) (hd := s) (om := om) (seen := seen) h2
    obtain ⟨e2, q2⟩ := p1_lit_no (text := text) (s := s) (a := s) (b := s) (hd := s) (om := om) (seen := e1) hs h3
    refine Ends.step (b := b + 2) ?_ rfl q1
    refine Ends.step (b := b + 1) ?_ rfl q2
    exact Ends.step (hn _) rfl (p1_back_no hs)
  · obtain ⟨e1, q1⟩ := p1_at_no (text := text) (s := s) (a := s) (b := s) (hd := s) (om := om) (seen := seen) (fun e => h2 (.inl e)) (fun e => h2 (.inr e))
    refine Ends.step (b := b + 2) ?_ rfl q1
    exact (Ends.step (hn _) rfl (p1_back_no hs)).mono (by omega)

theorem p1_last {text : Array Nat} {s : Nat} {om : Bool} {seen : Seen} (hs : text.size ≤ s) :
    Ends (st P1 text s 5 s s om [fr 5 s om] 1 none seen) 4 none := by
  by_cases h2 : s = 0 ∨ text[s - 1]?.getD 0 = 10
  · obtain ⟨e1, q1⟩ := p1_at_yes (text := text) (s := s) (a := s) (b := s) (hd := s) (om := om) (seen := seen) h2
    obtain ⟨e2, q2⟩ := p1_lit_end (text := text) (s := s) (a := s) (b := s) (hd := s) (om := om) (seen := e1) hs
    refine Ends.step (b := 3) ?_ rfl q1
    refine Ends.step (b := 2) ?_ rfl q2
    refine Ends.step (b := 1) ?_ rfl (p1_back_fail hs)
    refine Ends.step (b := 0) ?_ rfl p1_end
    exact ⟨0, _, Nat.le_refl _, rfl, rfl⟩
  · obtain ⟨e1, q1⟩ := p1_at_no (text := text) (s := s) (a := s) (b := s) (hd := s) (om := om) (seen := seen) (fun e => h2 (.inl e)) (fun e => h2 (.inr e))
    refine Ends.step (b := 3) ?_ rfl q1
    refine Ends.step (b := 2) ?_ rfl (p1_back_fail hs)
    refine (Ends.step (b := 0) ?_ rfl p1_end).mono (by omega)
    exact ⟨0, _, Nat.le_refl _, rfl, rfl⟩

/-- the first hit from a place on -/
def First (H : Nat → Prop) (s : Nat) (r : Option Nat) : Prop := match r with
  | some a => s ≤ a ∧ H a ∧ ∀ j, s ≤ j → j < a → ¬ H j
  | none => ∀ j, s ≤ j → ¬ H j

theorem p1_search {text : Array Nat} : ∀ (k s : Nat) (om : Bool) (seen : Seen), k = text.size - s →
    ∃ r, First (Hit1 text) s r ∧ Ends (st P1 text s 5 s s om [fr 5 s om] 1 none seen) (3 * k + 5) (r.map fun a => (a, a + 1)) := by
  intro k
  induction k with
  | zero =>
    intro s om seen hk
    refine ⟨none, fun j hj h => ?_, (p1_last (by omega)).mono (by omega)⟩
    have := h.1; omega
  | succ k ih =>
    intro s om seen hk
    by_cases h : Hit1 text s
    · exact ⟨some s, ⟨Nat.le_refl _, h, fun j h1 h2 => by omega⟩, (p1_hit h).mono (by omega)⟩
    · have H : ∀ seen', ∃ r, First (Hit1 text) (s + 1) r ∧ Ends (st P1 text (s + 1) 5 (s + 1) (s + 1) false [fr 5 (s + 1) false] 1 none seen') (3 * k + 5) (r.map fun a => (a, a + 1)) :=
        fun seen' => ih (s + 1) false seen' (by omega)
      obtain ⟨r, hr, _⟩ := H {}
      have same : ∀ r', First (Hit1 text) (s + 1) r' → r' = r := by
        intro r' hr'
        cases r with
        | none =>
          cases r' with
          | none => rfl
          | some a => exact absurd hr'.2.1 (hr a hr'.1)
        | some b =>
          cases r' with
          | none => exact absurd hr.2.1 (hr' b hr.1)
          | some a =>
            rcases Nat.lt_trichotomy a b with q | q | q
            · exact absurd hr'.2.1 (hr.2.2 a hr'.1 q)
            · rw [q]
            · exact absurd hr.2.1 (hr'.2.2 b hr.1 q)
      refine ⟨r, ?_, (p1_miss (b := 3 * k + 5) h (by omega) fun seen' => ?_).mono (by omega)⟩
      · cases r with
        | none =>
          intro j hj
          by_cases e : j = s
          · rw [e]; exact h
          · exact hr j (by omega)
        | some a =>
          refine ⟨by have := hr.1; omega, hr.2.1, fun j h1 h2 => ?_⟩
          by_cases e : j = s
          · rw [e]; exact h
          · exact hr.2.2 j (by omega) h2
      · obtain ⟨r', hr', he⟩ := H seen'
        rw [same r' hr'] at he; exact he

theorem p1_find {text : Array Nat} {s : Nat} (hs : s ≤ text.size) :
    ∃ r, First (Hit1 text) s r ∧ Ends (Sre.forSearch P1 text 0 s text.size false) (3 * text.size + 5) (r.map fun a => (a, a + 1)) := by
  by_cases h : text.size - s < 1
  · refine ⟨none, fun j hj x => by have := x.1; omega, ?_⟩
    refine ⟨1, _, by omega, rfl, ?_⟩
    have e : Sre.forSearch P1 text 0 s text.size false = { (st P1 text s 5 s s true [] 0 (some false) (({} : Seen).add 14)) with lastStart := 0 } := by
      simp [Sre.forSearch, header, P1, ops, h, M.say, st]
      repeat' (first | exact rfl | apply And.intro)
    rw [e]; rfl
  · obtain ⟨r, hr, he⟩ := p1_search (text := text) (text.size - s) s true (({} : Seen).add 14) rfl
    refine ⟨r, hr, ?_⟩
    have e : Sre.forSearch P1 text 0 s text.size false = st P1 text s 5 s s true [fr 5 s true] 1 none (({} : Seen).add 14) := by
      have h1 : ¬ (text.size < s ∨ text.size - s = 0) := by omega
      simp [Sre.forSearch, header, P1, ops, h1, M.attemptFrom, M.hasFirstSet, M.attemptAt, M.attempt, st, fr]
      rfl
    rw [e]
    exact he.mono (by omega)

/- ---- the second pattern: the ends of lines ---- -/
def nb (pc s : Nat) (om : Bool) : Sre.Frame := { wait := .nextBranch, pc := pc, pos := s, outermost := om }
def ln (pc s : Nat) (om : Bool) : Sre.Frame := { wait := .lookNot, pc := pc, pos := s, outermost := om }
section
variable {text : Array Nat} {s a b hd wt : Nat} {om : Bool} {seen : Seen} {fs : List Sre.Frame}
theorem p2_branch (hw : wt < 100) : ∃ seen', (st P2 text a 10 s hd om fs wt none seen).step = st P2 text a 12 s s om (nb 11 s om :: fs) (wt + 1) none seen' := by
  refine ⟨?_, ?_⟩
  rotate_left
  · have h : ¬ 16777216 < wt + 1 := by omega
    simp [M.step, st, nb, P2, M.exec, M.word, ops, M.alternative, M.attempt, M.frame, M.keep, h]; try rfl
theorem p2_lit_end {pc : Nat} (hpc : pc = 12 ∨ pc = 14 ∨ pc = 19 ∨ pc = 24 ∨ pc = 29) (h : text.size ≤ s) : ∃ seen', (st P2 text a pc s hd om fs wt none seen).step = st P2 text a pc s hd om fs wt (some false) seen' := by
  refine ⟨?_, ?_⟩
  rotate_left
  · rcases hpc with rfl | rfl | rfl | rfl | rfl <;> (simp [M.step, st, P2, M.exec, M.word, ops, M.say, h]; try rfl)
theorem p2_lit13_no {pc : Nat} (hpc : pc = 12 ∨ pc = 24) (h : s < text.size) (hc : text[s]?.getD 0 ≠ 13) : ∃ seen', (st P2 text a pc s hd om fs wt none seen).step = st P2 text a pc s hd om fs wt (some false) seen' := by
  have hb : (text[s]?.getD 0 == 13) = false := by simp [hc]
  refine ⟨?_, ?_⟩
  rotate_left
  · rcases hpc with rfl | rfl <;> (simp [M.step, st, P2, M.exec, M.word, ops, M.say, Nat.not_le.mpr h, accepts, hb]; try rfl)
theorem p2_lit13_yes {pc : Nat} (hpc : pc = 12 ∨ pc = 24) (h : s < text.size) (hc : text[s]?.getD 0 = 13) : ∃ seen', (st P2 text a pc s hd om fs wt none seen).step = st P2 text a (pc + 2) (s + 1) hd om fs wt none seen' := by
  refine ⟨?_, ?_⟩
  rotate_left
  · rcases hpc with rfl | rfl <;> (simp [M.step, st, P2, M.exec, M.word, ops, M.say, Nat.not_le.mpr h, accepts, hc, itemWidth]; try rfl)
theorem p2_lit10_no {pc : Nat} (hpc : pc = 14 ∨ pc = 19 ∨ pc = 29) (h : s < text.size) (hc : text[s]?.getD 0 ≠ 10) : ∃ seen', (st P2 text a pc s hd om fs wt none seen).step = st P2 text a pc s hd om fs wt (some false) seen' := by
  have hb : (text[s]?.getD 0 == 10) = false := by simp [hc]
  refine ⟨?_, ?_⟩
  rotate_left
  · rcases hpc with rfl | rfl | rfl <;> (simp [M.step, st, P2, M.exec, M.word, ops, M.say, Nat.not_le.mpr h, accepts, hb]; try rfl)
theorem p2_lit10_yes {pc : Nat} (hpc : pc = 14 ∨ pc = 19) (h : s < text.size) (hc : text[s]?.getD 0 = 10) : ∃ seen', (st P2 text a pc s hd om fs wt none seen).step = st P2 text a (pc + 2) (s + 1) hd om fs wt none seen' := by
  refine ⟨?_, ?_⟩
  rotate_left
  · rcases hpc with rfl | rfl <;> (simp [M.step, st, P2, M.exec, M.word, ops, M.say, Nat.not_le.mpr h, accepts, hc, itemWidth]; try rfl)
theorem p2_jump {pc : Nat} (hpc : pc = 16 ∨ pc = 21 ∨ pc = 32) : ∃ seen', (st P2 text a pc s hd om fs wt none seen).step = st P2 text a 35 s hd om fs wt none seen' := by
  refine ⟨?_, ?_⟩
  rotate_left
  · rcases hpc with rfl | rfl | rfl <;> (simp [M.step, st, P2, M.exec, M.word, ops]; try rfl)
theorem p2_succ : ∃ seen', (st P2 text a 35 s hd om fs wt none seen).step = st P2 text a 35 s s om fs wt (some true) seen' := by
  refine ⟨?_, ?_⟩
  rotate_left
  · simp [M.step, st, P2, M.exec, M.word, ops, M.say]; try rfl
theorem p2_nb_yes {pc fp p : Nat} {o : Bool} : (st P2 text a pc s hd om (nb fp p o :: fs) (wt + 1) (some true) seen).step = st P2 text a fp p hd o fs wt (some true) seen := by
  simp [M.step, st, nb, P2, M.resume, M.say]
theorem p2_nb_no11 {pc p : Nat} {o : Bool} (hw : wt < 100) : (st P2 text a pc s hd om (nb 11 p o :: fs) (wt + 1) (some false) seen).step = st P2 text a 19 p p o (nb 18 p o :: fs) (wt + 1) none seen := by
  have h : ¬ 16777216 < wt + 1 := by omega
  simp [M.step, st, nb, P2, M.resume, M.putBack, M.alternative, M.attempt, M.frame, h]
theorem p2_nb_no18 {pc p : Nat} {o : Bool} (hw : wt < 100) : (st P2 text a pc s hd om (nb 18 p o :: fs) (wt + 1) (some false) seen).step = st P2 text a 24 p p o (nb 23 p o :: fs) (wt + 1) none seen := by
  have h : ¬ 16777216 < wt + 1 := by omega
  simp [M.step, st, nb, P2, M.resume, M.putBack, M.alternative, M.attempt, M.frame, h]
theorem p2_look (hw : wt < 100) : ∃ seen', (st P2 text a 26 s hd om fs wt none seen).step = st P2 text a 29 s s false (ln 26 s om :: fs) (wt + 1) none seen' := by
  refine ⟨?_, ?_⟩
  rotate_left
  · have h : ¬ 16777216 < wt + 1 := by omega
    simp [M.step, st, ln, P2, M.exec, M.word, ops, M.attempt, M.frame, M.keep, h]; try rfl
theorem p2_ln_no {pc p : Nat} {o : Bool} : (st P2 text a pc s hd om (ln 26 p o :: fs) (wt + 1) (some false) seen).step = st P2 text a 32 p hd o fs wt none seen := by
  simp [M.step, st, ln, P2, M.resume, M.putBack, M.word]
theorem p2_back_yes {pc : Nat} {o : Bool} : (st P2 text a pc s hd om [fr 10 b o] 1 (some true) seen).step = st P2 text a 10 b hd o [] 0 (some true) seen := by
  simp [M.step, st, fr, P2, M.resume, M.say]
theorem p2_end {pc : Nat} {x : Bool} : (st P2 text a pc s hd om [] 0 (some x) seen).step = st P2 text a pc s hd om [] 0 (some x) seen (some (if x then .matched else .failed)) := by
  simp [M.step, st]
end

def Hit2 (text : Array Nat) (s : Nat) : Prop := s < text.size ∧ (text[s]?.getD 0 = 10 ∨ text[s]?.getD 0 = 13)
/-- how long the end of a line at a place is -/
def len2 (text : Array Nat) (s : Nat) : Nat := if text[s]?.getD 0 = 13 ∧ s + 1 < text.size ∧ text[s + 1]?.getD 0 = 10 then 2 else 1

theorem p2_done {text : Array Nat} {s a hd fp : Nat} {om o : Bool} {seen : Seen} : 
    Ends (st P2 text a 35 s hd om [nb fp a o, fr 10 a o] 2 none seen) 4 (some (a, s)) := by
  obtain ⟨e3, q3⟩ := p2_succ (text := text) (s := s) (a := a) (hd := hd) (om := om) (seen := seen) (fs := [nb fp a o, fr 10 a o]) (wt := 2)
  refine Ends.step (b := 3) ?_ rfl q3
  refine Ends.step (b := 2) ?_ rfl p2_nb_yes
  refine Ends.step (b := 1) ?_ rfl p2_back_yes
  refine Ends.step (b := 0) ?_ rfl p2_end
  exact ⟨0, _, Nat.le_refl _, rfl, rfl, rfl, rfl⟩

theorem p2_hit {text : Array Nat} {s : Nat} {om : Bool} {seen : Seen} (h : Hit2 text s) :
    Ends (st P2 text s 10 s s om [fr 10 s om] 1 none seen) 20 (some (s, s + len2 text s)) := by
  obtain ⟨h1, h2⟩ := h
  obtain ⟨e1, q1⟩ := p2_branch (text := text) (s := s) (a := s) (hd := s) (om := om) (seen := seen) (fs := [fr 10 s om]) (wt := 1) (by omega)
  refine (Ends.step (b := 18) ?_ rfl q1).mono (by omega)
  by_cases c13 : text[s]?.getD 0 = 13
  · obtain ⟨e2, q2⟩ := p2_lit13_yes (text := text) (s := s) (a := s) (hd := s) (om := om) (seen := e1) (fs := [nb 11 s om, fr 10 s om]) (wt := 2) (.inl rfl) h1 c13
    refine Ends.step (b := 17) ?_ rfl q2
    by_cases c10 : s + 1 < text.size ∧ text[s + 1]?.getD 0 = 10
    · have hl : len2 text s = 2 := by unfold len2; rw [if_pos ⟨c13, c10⟩]
      rw [hl]
      obtain ⟨e3, q3⟩ := p2_lit10_yes (pc := 14) (text := text) (s := s + 1) (a := s) (hd := s) (om := om) (seen := e2) (fs := [nb 11 s om, fr 10 s om]) (wt := 2) (.inl rfl) c10.1 c10.2
      obtain ⟨e4, q4⟩ := p2_jump (pc := 16) (text := text) (s := s + 1 + 1) (a := s) (hd := s) (om := om) (seen := e3) (fs := [nb 11 s om, fr 10 s om]) (wt := 2) (.inl rfl)
      refine (Ends.step (b := 5) ?_ rfl q3).mono (by omega)
      exact Ends.step p2_done rfl q4
    · have hl : len2 text s = 1 := by unfold len2; rw [if_neg (fun x => c10 x.2)]
      rw [hl]
      have H : ∃ e3, (st P2 text s 14 (s + 1) s om [nb 11 s om, fr 10 s om] 2 none e2).step = st P2 text s 14 (s + 1) s om [nb 11 s om, fr 10 s om] 2 (some false) e3 := by
        by_cases hs : s + 1 < text.size
        · exact p2_lit10_no (.inl rfl) hs fun e => c10 ⟨hs, e⟩
        · exact p2_lit_end (.inr (.inl rfl)) (by omega)
      obtain ⟨e3, q3⟩ := H
      refine Ends.step (b := 16) ?_ rfl q3
      refine Ends.step (b := 15) ?_ rfl (p2_nb_no11 (by omega))
      obtain ⟨e4, q4⟩ := p2_lit10_no (pc := 19) (text := text) (s := s) (a := s) (hd := s) (om := om) (seen := e3) (fs := [nb 18 s om, fr 10 s om]) (wt := 2) (.inr (.inl rfl)) h1 (by omega)
      refine Ends.step (b := 14) ?_ rfl q4
      refine Ends.step (b := 13) ?_ rfl (p2_nb_no18 (by omega))
      obtain ⟨e5, q5⟩ := p2_lit13_yes (pc := 24) (text := text) (s := s) (a := s) (hd := s) (om := om) (seen := e4) (fs := [nb 23 s om, fr 10 s om]) (wt := 2) (.inr rfl) h1 c13
      refine Ends.step (b := 12) ?_ rfl q5
      obtain ⟨e6, q6⟩ := p2_look (text := text) (s := s + 1) (a := s) (hd := s) (om := om) (seen := e5) (fs := [nb 23 s om, fr 10 s om]) (wt := 2) (by omega)
      refine Ends.step (b := 11) ?_ rfl q6
      have H : ∃ e7, (st P2 text s 29 (s + 1) (s + 1) false [ln 26 (s + 1) om, nb 23 s om, fr 10 s om] 3 none e6).step = st P2 text s 29 (s + 1) (s + 1) false [ln 26 (s + 1) om, nb 23 s om, fr 10 s om] 3 (some false) e7 := by
        by_cases hs : s + 1 < text.size
        · exact p2_lit10_no (.inr (.inr rfl)) hs fun e => c10 ⟨hs, e⟩
        · exact p2_lit_end (.inr (.inr (.inr (.inr rfl)))) (by omega)
      obtain ⟨e7, q7⟩ := H
      refine Ends.step (b := 10) ?_ rfl q7
      refine Ends.step (b := 9) ?_ rfl p2_ln_no
      obtain ⟨e8, q8⟩ := p2_jump (pc := 32) (text := text) (s := s + 1) (a := s) (hd := s + 1) (om := om) (seen := e7) (fs := [nb 23 s om, fr 10 s om]) (wt := 2) (.inr (.inr rfl))
      exact (Ends.step p2_done rfl q8).mono (by omega)
  · have c10 : text[s]?.getD 0 = 10 := h2.resolve_right c13
    have hl : len2 text s = 1 := by unfold len2; rw [if_neg (fun x => c13 x.1)]
    rw [hl]
    obtain ⟨e2, q2⟩ := p2_lit13_no (pc := 12) (text := text) (s := s) (a := s) (hd := s) (om := om) (seen := e1) (fs := [nb 11 s om, fr 10 s om]) (wt := 2) (.inl rfl) h1 c13
    refine Ends.step (b := 17) ?_ rfl q2
    refine Ends.step (b := 16) ?_ rfl (p2_nb_no11 (by omega))
    obtain ⟨e3, q3⟩ := p2_lit10_yes (pc := 19) (text := text) (s := s) (a := s) (hd := s) (om := om) (seen := e2) (fs := [nb 18 s om, fr 10 s om]) (wt := 2) (.inr rfl) h1 c10
    refine Ends.step (b := 15) ?_ rfl q3
    obtain ⟨e4, q4⟩ := p2_jump (pc := 21) (text := text) (s := s + 1) (a := s) (hd := s) (om := om) (seen := e3) (fs := [nb 18 s om, fr 10 s om]) (wt := 2) (.inr (.inl rfl))
    exact (Ends.step p2_done rfl q4).mono (by omega)

theorem p2_set (c : Nat) (seen : Seen) : ∃ seen', inSet P2 c P2.size 5 true seen = .ok (c == 10 || c == 13, seen') := by
  by_cases c10 : c = 10
  · subst c10
    exact ⟨_, rfl⟩
  · by_cases c13 : c = 13
    · subst c13
      exact ⟨_, rfl⟩
    · have h1 : (c == 10) = false := by simp [c10]
      have h2 : (c == 13) = false := by simp [c13]
      refine ⟨?_, ?_⟩
      rotate_left
      · simp [inSet, P2, ops, h1, h2]; try rfl

theorem p2_admit (m : M) (hc : m.code = P2) (hl : m.lim = m.text.size) : ∀ (fuel s : Nat) (seen : Seen), m.text.size + 1 ≤ s + fuel →
    ∃ r seen', First (Hit2 m.text) s r ∧ M.admitted m fuel s seen = .ok (r, seen') := by
  intro fuel
  induction fuel with
  | zero =>
    intro s seen h
    exact ⟨none, seen, fun j hj x => by have := x.1; omega, rfl⟩
  | succ fuel ih =>
    intro s seen h
    by_cases hs : s ≥ m.lim
    · refine ⟨none, seen, fun j hj x => by have := x.1; omega, ?_⟩
      simp [M.admitted, hs]
    · obtain ⟨e1, q1⟩ := p2_set (m.text.getD s 0) seen
      cases hb : (m.text.getD s 0 == 10 || m.text.getD s 0 == 13) with
      | true =>
        rw [hb] at q1
        refine ⟨some s, e1, ⟨Nat.le_refl _, ⟨by omega, by simpa using hb⟩, fun j h1 h2 => by omega⟩, ?_⟩
        rw [← hc] at q1
        simp only [M.admitted, if_neg hs, q1]
      | false =>
        rw [hb] at q1
        obtain ⟨r, e2, hr, he⟩ := ih (s + 1) e1 (by omega)
        have hn : ¬ Hit2 m.text s := fun x => by
          have := x.2
          simp at hb
          omega
        refine ⟨r, e2, ?_, ?_⟩
        · cases r with
          | none =>
            intro j hj
            by_cases e : j = s
            · rw [e]; exact hn
            · exact hr j (by omega)
          | some a =>
            refine ⟨by have := hr.1; omega, hr.2.1, fun j h1 h2 => ?_⟩
            by_cases e : j = s
            · rw [e]; exact hn
            · exact hr.2.2 j (by omega) h2
        · rw [← hc] at q1
          simp only [M.admitted, if_neg hs, q1, he]

theorem p2_find {text : Array Nat} {s : Nat} (hs : s ≤ text.size) :
    ∃ r, First (Hit2 text) s r ∧ Ends (Sre.forSearch P2 text 0 s text.size false) (3 * text.size + 20) (r.map fun a => (a, a + len2 text a)) := by
  by_cases h : text.size - s < 1
  · refine ⟨none, fun j hj x => by have := x.1; omega, ?_⟩
    refine ⟨1, _, by omega, rfl, ?_⟩
    have e : Sre.forSearch P2 text 0 s text.size false = { (st P2 text s 10 s s true [] 0 (some false) (({} : Seen).add 14)) with lastStart := 0 } := by
      simp [Sre.forSearch, header, P2, ops, h, M.say, st]
      repeat' (first | exact rfl | apply And.intro)
    rw [e]; rfl
  · obtain ⟨r, e1, hr, he⟩ := p2_admit (st P2 text s 10 s s true [] 0 none (({} : Seen).add 14)) rfl rfl (text.size + 1 - s) s (({} : Seen).add 14) (by show text.size + 1 ≤ _; omega)
    refine ⟨r, hr, ?_⟩
    have e : Sre.forSearch P2 text 0 s text.size false = M.attemptFrom (st P2 text s 10 s s true [] 0 none (({} : Seen).add 14)) s true := by
      have h1 : ¬ (text.size < s ∨ text.size - s = 0) := by omega
      simp [Sre.forSearch, header, P2, ops, h1, st]
      rfl
    rw [e]
    have hf : M.hasFirstSet (st P2 text s 10 s s true [] 0 none (({} : Seen).add 14)) = true := by
      simp [M.hasFirstSet, st, P2, ops]
    have he' : M.admitted (st P2 text s 10 s s true [] 0 none (({} : Seen).add 14)) ((st P2 text s 10 s s true [] 0 none (({} : Seen).add 14)).lim + 1 - s) s (st P2 text s 10 s s true [] 0 none (({} : Seen).add 14)).seen = .ok (r, e1) := he
    unfold M.attemptFrom
    rw [hf, he']
    cases r with
    | none =>
      refine ⟨1, _, by omega, rfl, ?_⟩
      rfl
    | some a =>
      refine (p2_hit (text := text) (om := true) (seen := e1) hr.2.1).mono (by omega)
end Mine

end

section
open PySem PySem.Sre PySem.Builtin PySem.Builtin.Re PyProof.Rows
set_option linter.unusedSimpArgs false
namespace Mine
section
variable {M₀ : Model} {A : Around} {E : Value → Shared → Prop} {s : Shared}

theorem wp_reDrive : ∀ (turns n : Nat) (m m' : M), n < 4 * turns → M.runFor n m = m' → m'.outcome.isSome = true → ∀ {Q : M → Shared → Prop}, Q m' s → wpAny M₀ A (reDrive turns m) Q E s := by
  intro turns
  induction turns with
  | zero => intro n m m' h; omega
  | succ turns ih =>
    intro n m m' h hr ho Q hQ
    unfold reDrive
    by_cases hn : n ≤ 4
    · have e : m.runFor reTurnSteps = m' := by
        have : reTurnSteps = n + (4 - n) := by unfold reTurnSteps; omega
        rw [this, runFor_add, hr, run_end ho]
      dsimp only
      rw [e, if_pos ho]
      exact wpAny_pure hQ
    · by_cases h4 : (m.runFor reTurnSteps).outcome.isSome = true
      · have e : m.runFor reTurnSteps = m' := by
          have : n = reTurnSteps + (n - 4) := by unfold reTurnSteps; omega
          rw [this, runFor_add, run_end h4] at hr; exact hr
        dsimp only
        rw [e, if_pos ho]
        exact wpAny_pure hQ
      · dsimp only
        rw [if_neg h4]
        refine wpAny_bind (wpAny_rule ?_)
        refine ih (n - 4) _ m' (by omega) ?_ ho hQ
        have : n = reTurnSteps + (n - 4) := by unfold reTurnSteps; omega
        rw [this, runFor_add] at hr; exact hr

theorem wp_rules {b : Nat → Bool} {t : Nat → String} {Q : PUnit → Shared → Prop} (h : Q ⟨⟩ s) : ∀ l : List Nat,
    wpAny M₀ A (forIn l PUnit.unit fun (i : Nat) (__s : PUnit) => if b i = true then do
        rule (t i)
        pure (ForInStep.yield PUnit.unit)
      else pure (ForInStep.yield PUnit.unit)) Q E s := by
  intro l
  induction l with
  | nil => exact wpAny_pure h
  | cons i l ih =>
    rw [List.forIn_cons]
    refine wpAny_bind ?_
    split
    · exact wpAny_bind (wpAny_rule (wpAny_pure ih))
    · exact wpAny_pure ih

theorem wp_reRun {m : M} {bound : Nat} {r : Option (Nat × Nat)} (h : Ends m bound r) (hb : bound < 2 ^ 64) {Q : Option M → Shared → Prop}
    (hs : ∀ m' a b, r = some (a, b) → m'.start = a → m'.handed = b → Q (some m') s) (hn : r = none → Q none s) : wpAny M₀ A (reRunToEnd m) Q E s := by
  obtain ⟨n, m', hn', hr, hm⟩ := h
  unfold reRunToEnd
  have ho : m'.outcome.isSome = true := by
    cases r with
    | none => rw [show m'.outcome = some .failed from hm]; rfl
    | some x => obtain ⟨a, b⟩ := x; rw [show m'.outcome = some .matched from hm.1]; rfl
  refine wpAny_bind (wp_reDrive (2 ^ 64) n m m' (by omega) hr ho ?_)
  refine wpAny_bind (wp_rules ?_ _)
  cases r with
  | none => 
    rw [show m'.outcome = some .failed from hm]
    exact wpAny_pure (hn rfl)
  | some x =>
    obtain ⟨a, b⟩ := x
    rw [show m'.outcome = some .matched from hm.1]
    exact wpAny_pure (hs m' a b rfl hm.2.1 hm.2.2)
end

/-- what a substitution yields from a place on -/
inductive Sub (H : Nat → Prop) (len : Nat → Nat) (repl : List Nat) (text : Array Nat) : Nat → List Nat → Prop where
  | last {s : Nat} : First H s none → Sub H len repl text s (text.extract s text.size).toList
  | hit {s a : Nat} {r : List Nat} : First H s (some a) → Sub H len repl text (a + len a) r → Sub H len repl text s ((text.extract s a).toList ++ repl ++ r)

/-- a pattern object that stands in the heap -/
structure PatAt (h : Heap) (pat : Addr) (P : Array Nat) : Prop where
  ob : ∃ o f0 f1 f3 f4 cd oc n vs, h.get? pat = some o ∧ o.cls = .type "re.Pattern" ∧ o.dict = none ∧ o.data = .fields #[f0, f1, .int 0 0, f3, f4, .ref cd, .int 0 0] ∧ h.get? cd = some oc ∧ oc.data = .seq vs n ∧ oc.cls = .type "tuple" ∧ (vs.map reRawOf).map (·.toNat) = P
theorem PatAt.keeps {h h' : Heap} {pat : Addr} {P : Array Nat} (x : PatAt h pat P) (k : ∀ b o, h.get? b = some o → h'.get? b = some o) : PatAt h' pat P := by
  obtain ⟨o, f0, f1, f3, f4, cd, oc, n, vs, h1, h2, h2', h3, h4, h5, h7, h6⟩ := x.ob
  exact ⟨o, f0, f1, f3, f4, cd, oc, n, vs, k _ _ h1, h2, h2', h3, k _ _ h4, h5, h7, h6⟩
theorem PatAt.but {h h' : Heap} {pat D : Addr} {P : Array Nat} {its : Array Value} {k : Nat} (x : PatAt h pat P) (hD : h.get? D = some { cls := .type "list", data := .seq its k })
    (hs : ∀ b o, b ≠ D → h.get? b = some o → h'.get? b = some o) : PatAt h' pat P := by
  obtain ⟨o, f0, f1, f3, f4, cd, oc, n, vs, h1, h2, h2', h3, h4, h5, h7, h6⟩ := x.ob
  refine ⟨o, f0, f1, f3, f4, cd, oc, n, vs, hs _ _ (fun e => ?_) h1, h2, h2', h3, hs _ _ (fun e => ?_) h4, h5, h7, h6⟩
  · rw [e, hD] at h1; cases h1; exact absurd (Value.type.inj h2) (by decide)
  · rw [e, hD] at h4; cases h4; exact absurd (Value.type.inj h7) (by decide)

section
variable {prog : Program} {w : World} {A : Around} {E : Value → Shared → Prop} {s : Shared}
theorem wp_whole {pat : Addr} {P text : Array Nat} {tk : Tok} (x : PatAt s.heap pat P) {Q : ReTarget → Shared → Prop}
    (h : ∀ t : ReTarget, t.pattern = .ref pat → t.string = .str ⟨text⟩ tk → t.code = P → t.text = text → t.kind = 0 → t.groups = 0 → t.lim = text.size → Q t s) :
    wpAny (model prog w) A (reWholeTarget (.ref pat) (.str ⟨text⟩ tk)) Q E s := by
  obtain ⟨o, f0, f1, f3, f4, cd, oc, n, vs, h1, h2, h2', h3, h4, h5, h7, h6⟩ := x.ob
  unfold reWholeTarget
  refine wpAny_bind (wpAny_fieldsOf h1 h3 ?_)
  refine wpAny_bind (wpAny_of_eq (a := (text, 0)) (by rfl) ?_)
  dsimp only
  show wpAny _ _ (if ((reRawNat (Value.int 0 0) == 0 && (0:Nat) == 1) = true) then _ else _) _ _ _
  rw [if_neg (by decide)]
  show wpAny _ _ (if ((reRawNat (Value.int 0 0) == 1 && (0:Nat) == 0) = true) then _ else _) _ _ _
  rw [if_neg (by decide)]
  refine wpAny_bind (wpAny_of_eq (a := ()) (by rfl) ?_)
  refine wpAny_bind (wpAny_bind (wpAny_seqItems h4 h5 (wpAny_pure ?_)))
  refine wpAny_pure (h _ rfl rfl ?_ rfl rfl rfl rfl)
  exact h6

theorem entry_pat_loop : entryFor table "re.Pattern.sub.loop" = some Builtin.«re.Pattern.sub.loop» := entryFor_of_tree (by kernel_rfl)
theorem plain_pat_loop : plainId "re.Pattern.sub.loop" = true := by decide +kernel

def loopCode (pat : Addr) (text : Array Nat) (tk : Tok) (repl : Str) (tr : Tok) (n : Int) (done : Nat) (D : Addr) : Code :=
  .builtin "re.Pattern.sub.loop" ⟨[.ref pat, .str ⟨text⟩ tk, .str repl tr, rawInt 0, rawInt 0, rawInt n, rawInt done, rawInt done, .bool false, .ref D, .bool false], []⟩

theorem wp_push {D : Addr} {its : Array Value} {n : Nat} {x : Value} {Q : Unit → Shared → Prop} (ho : s.heap.get? D = some { cls := .type "list", data := .seq its n })
    (h : ∀ h', (∀ b, b ≠ D → h'.get? b = s.heap.get? b) → h'.get? D = some { cls := .type "list", data := .seq (its.push x) (n + 1) } → Q () { s with heap := h' }) (hsz : its.size ≤ sizeLine) :
    wpAny (model prog w) A (updateSeq D (·.push x)) Q E s := by
  refine wpAny_updateSeq ho rfl (h _ (fun b hb => Heap.get?_update_other _ _ (Ne.symm hb)) ?_) hsz
  rw [Heap.get?_update_self _ ho (by rw [Obj.mapSeq_push_plain]; rfl), Obj.mapSeq_push_plain]

theorem first_unique {H : Nat → Prop} {s : Nat} {r r' : Option Nat} (hr : First H s r) (hr' : First H s r') : r' = r := by
  cases r with
  | none =>
    cases r' with
    | none => rfl
    | some a => exact absurd hr'.2.1 (hr a hr'.1)
  | some b =>
    cases r' with
    | none => exact absurd hr.2.1 (hr' b hr.1)
    | some a =>
      rcases Nat.lt_trichotomy a b with q | q | q
      · exact absurd hr'.2.1 (hr.2.2 a hr'.1 q)
      · rw [q]
      · exact absurd hr.2.1 (hr'.2.2 b hr.1 q)

theorem strs_push {vs : List Value} {ys : List Str} {y : Str} {t : Tok} (h : StrsAre vs ys) : StrsAre (vs ++ [.str y t]) (ys ++ [y]) := by
  induction h with
  | nil => exact .cons _ _ .nil
  | cons y t _ ih => exact .cons _ _ ih

theorem txt_join (sep : Str) (l : List Str) : Txt.join sep l = Str.join sep l := eq_of_beq (PyProof.Rows.join_plain_closes sep l)
theorem cps_join (ys : List Str) : (Str.join ⟨#[]⟩ ys).cps.toList = (ys.map fun y => y.cps.toList).flatten := by
  induction ys with
  | nil => rfl
  | cons y ys ih =>
    rw [PyProof.Rows.join_nil_cons, List.map_cons, List.flatten_cons, ← ih]
    show ((y ++ Str.join ⟨#[]⟩ ys).cps).toList = _
    rw [Str.cps_append]; simp

theorem codeAny_plain {id : String} {args : Args} {b : Builtin} {R : Result → Shared → Prop} (hb : entryFor table id = some b) (hq : plainId id = true)
    (h : wpAny (model prog w) A.in1 (b args) (fun fin s' => match fin with | .done f => R (.ok f) s' | .again c' => c'.quiet = true ∧ codeAny (model prog w) A c' R s') (fun e s' => R (.error e) s') s) :
    codeAny (model prog w) A (.builtin id args) R s := by
  refine codeAny_of_tree ?_
  rw [Around.under_plainId hq]
  show wpAny _ _ (match entryFor table id with | some b => b args | none => unsupported ((withoutEnding? id "#data").getD id)) _ _ s
  rw [hb]; exact h

theorem plain_str {text : Array Nat} {b e : Nat} {Q : Value → Shared → Prop} (h : ∀ tk tk', Q (.str ⟨text.extract b e⟩ tk) { s with toks := tk' }) (hs : text.size ≤ 2 ^ 20) :
    wpAny (model prog w) A (reSlice text 0 b e) Q E s := by
  unfold reSlice
  rw [if_pos (by rfl)]
  refine wpAny_mkStr (h _ _) ?_
  show (text.extract b e).size ≤ sizeLine
  rw [sizeLine_eq, Array.size_extract]; omega

theorem loop_sub {H : Nat → Prop} {len : Nat → Nat} {P text : Array Nat} {repl : Str} {B : Nat} {pat D : Addr} {tk tr : Tok} {R : Result → Shared → Prop}
    (hf : ∀ s ≤ text.size, ∃ r, First H s r ∧ Ends (Sre.forSearch P text 0 s text.size false) B (r.map fun a => (a, a + len a))) (hB : B < 2 ^ 64)
    (hH : ∀ a, H a → a < text.size ∧ 1 ≤ len a ∧ a + len a ≤ text.size) (hts : text.size ≤ 2 ^ 20) :
    ∀ done r, Sub H len repl.cps.toList text done r → ∀ (s : Shared) (n : Int) (its : Array Value) (k : Nat) (pre : List Nat) (ys : List Str), done ≤ text.size →
      s.heap.get? D = some { cls := .type "list", data := .seq its k } → StrsAre its.toList ys → (ys.map fun y => y.cps.toList).flatten = pre → its.size ≤ 2 * done → (pre ++ r).length ≤ 2 ^ 23 →
      PatAt s.heap pat P →
      (∀ h' tk' t, (∀ b o, b ≠ D → s.heap.get? b = some o → h'.get? b = some o) → R (.ok (.ret (.str ⟨(pre ++ r).toArray⟩ t))) { s with heap := h', toks := tk' }) →
      codeAny (model prog w) A (loopCode pat text tk repl tr n done D) R s := by
  intro done r hS
  induction hS with
  | last hl =>
    rename_i s₀
    intro s n its k pre ys hd hD hys hpre hsz hlen hp hR
    refine codeAny_plain entry_pat_loop plain_pat_loop ?_
    unfold Builtin.«re.Pattern.sub.loop»
    dsimp only [rawInt]
    refine wpAny_bind (wp_whole hp fun t e1 e2 e3 e4 e5 e6 e7 => ?_)
    obtain ⟨r₀, hr₀, he₀⟩ := hf s₀ hd
    cases first_unique hl hr₀
    rw [if_pos (by decide)]
    refine wpAny_bind (wpAny_of_eq (a := ()) (by rfl) ?_)
    rw [if_neg (by exact Bool.false_ne_true)]
    unfold reNextFound
    rw [e3, e4, e6, e7, e5]
    simp only [Int.toNat_natCast]
    refine wpAny_bind (wp_reRun he₀ hB (fun _ _ _ x => nomatch x) fun _ => ?_)
    dsimp only
    have fin : ∀ (s' : Shared) (its' : Array Value) (k' : Nat) (ys' : List Str) (o' : Nat → Nat), (∃ h' tk', s' = { s with heap := h', toks := tk' } ∧ (∀ b o, b ≠ D → s.heap.get? b = some o → h'.get? b = some o)) →
        s'.heap.get? D = some { cls := .type "list", data := .seq its' k' } → StrsAre its'.toList ys' → (ys'.map fun y => y.cps.toList).flatten = pre ++ (text.extract s₀ text.size).toList →
        wpAny (model prog w) A.in1 (do
          let joiner ← reSlice text 0 0 0
          let x ← seqItems? (Value.ref D)
          if (x.getD #[]).isEmpty = true then do
              let text ← pure joiner
              ret text
            else do
              let text ← call (Value.builtin "str.join") [joiner, Value.ref D]
              ret text)
          (fun fin s' => match fin with | .done f => R (.ok f) s' | .again c' => c'.quiet = true ∧ codeAny (model prog w) A c' R s') (fun e s' => R (.error e) s') s' := by
      rintro s' its' k' ys' _ ⟨h', tk', rfl, hk⟩ hD' hys' hpre'
      refine wpAny_bind (plain_str (fun t1 t2 => ?_) hts)
      refine wpAny_bind (wpAny_seqItems hD' rfl ?_)
      have hl : ys'.map (·.length) = (ys'.map fun y => y.cps.toList).map List.length := by
        rw [List.map_map]; exact List.map_congr_left fun y _ => (by show y.cps.size = _; simp)
      have hlen' : (ys'.map (·.length)).sum ≤ 2 ^ 23 := by
        rw [hl, ← List.length_flatten, hpre']; exact hlen
      have hex : text.extract 0 0 = #[] := by simp
      by_cases he : (((some its').getD #[]).isEmpty) = true
      · rw [if_pos he]
        have h0 : its' = #[] := by simpa using he
        subst h0
        cases hys'
        have h1 : pre ++ (text.extract s₀ text.size).toList = [] := by simpa using hpre'.symm
        refine wpAny_bind (wpAny_pure (wpAny_pure ?_))
        rw [hex]
        have := hR h' t2 t1 hk
        rw [h1] at this
        exact this
      · rw [if_neg he]
        rw [hex]
        refine wpAny_bind (join_list ⟨_, hD', rfl, _, rfl⟩ hys' (by show _ + _ * 0 ≤ _; omega) fun t3 t4 => wpAny_pure ?_)
        have := hR h' t4 t3 hk
        have e : Str.join ⟨#[]⟩ ys' = ⟨(pre ++ (text.extract s₀ text.size).toList).toArray⟩ := by
          have := cps_join ys'
          rw [hpre'] at this
          apply Str.ext'
          exact Array.ext' this
        rw [show Txt.join ⟨#[]⟩ ys' = Str.join ⟨#[]⟩ ys' from txt_join _ _, e]
        exact this
    by_cases hlt : s₀ < text.size
    · rw [if_pos hlt]
      refine wpAny_bind (plain_str (fun t1 t2 => ?_) hts)
      refine wpAny_bind (wp_push (s := { s with toks := t2 }) hD (fun h' hk hD' => ?_) (by rw [sizeLine_eq]; omega))
      refine fin _ _ _ (ys ++ [⟨text.extract s₀ text.size⟩]) id ⟨h', t2, rfl, fun b o hb e => (hk b hb).trans e⟩ hD' (by rw [Array.toList_push]; exact strs_push hys) ?_
      rw [List.map_append, List.flatten_append, hpre]; simp
    · rw [if_neg hlt]
      refine fin _ _ _ ys id ⟨s.heap, s.toks, rfl, fun b o hb e => e⟩ hD hys ?_
      have : (text.extract s₀ text.size).toList = [] := by
        rw [Array.extract_eq_empty_of_le (by omega)]
      rw [hpre, this, List.append_nil]
  | hit ha hr ih =>
    rename_i s₀ a r
    intro s n its k pre ys hd hD hys hpre hsz hlen hp hR
    refine codeAny_plain entry_pat_loop plain_pat_loop ?_
    unfold Builtin.«re.Pattern.sub.loop»
    dsimp only [rawInt]
    refine wpAny_bind (wp_whole hp fun t e1 e2 e3 e4 e5 e6 e7 => ?_)
    obtain ⟨r₀, hr₀, he₀⟩ := hf s₀ hd
    cases first_unique ha hr₀
    rw [if_pos (by decide)]
    refine wpAny_bind (wpAny_of_eq (a := ()) (by rfl) ?_)
    rw [if_neg (by exact Bool.false_ne_true)]
    unfold reNextFound
    rw [e3, e4, e6, e7, e5]
    simp only [Int.toNat_natCast]
    refine wpAny_bind (wp_reRun he₀ hB (fun m' a' b' hab hst hhd => ?_) (fun x => nomatch x))
    simp only [Option.map_some, Option.some.injEq, Prod.mk.injEq] at hab
    obtain ⟨rfl, rfl⟩ := hab
    dsimp only
    have hHa := hH a ha.2.1
    have fin : ∀ (s' : Shared) (its' : Array Value) (k' : Nat) (ys' : List Str), (∃ h' tk', s' = { s with heap := h', toks := tk' } ∧ (∀ b o, b ≠ D → s.heap.get? b = some o → h'.get? b = some o)) →
        s'.heap.get? D = some { cls := .type "list", data := .seq its' k' } → StrsAre its'.toList ys' → (ys'.map fun y => y.cps.toList).flatten = pre ++ (text.extract s₀ a).toList → its'.size ≤ 2 * s₀ + 1 →
        wpAny (model prog w) A.in1 (do
          let item ← pure (Value.str repl tr)
          if (item != Value.none) = true then do
              updateSeq D fun x => x.push item
              again
                  (Code.builtin "re.Pattern.sub.loop"
                    {
                      pos :=
                        [Value.ref pat, Value.str { cps := text } tk, Value.str repl tr, Value.int 0 0, Value.int 0 0,
                          Value.int (n + 1) 0, Value.int (↑m'.handed) 0, Value.int (↑m'.handed) 0,
                          Value.bool (m'.handed == m'.start), Value.ref D, Value.bool false] })
            else
              again
                (Code.builtin "re.Pattern.sub.loop"
                  {
                    pos :=
                      [Value.ref pat, Value.str { cps := text } tk, Value.str repl tr, Value.int 0 0, Value.int 0 0,
                        Value.int (n + 1) 0, Value.int (↑m'.handed) 0, Value.int (↑m'.handed) 0,
                        Value.bool (m'.handed == m'.start), Value.ref D, Value.bool false] }))
          (fun fin s' => match fin with | .done f => R (.ok f) s' | .again c' => c'.quiet = true ∧ codeAny (model prog w) A c' R s') (fun e s' => R (.error e) s') s' := by
      rintro s' its' k' ys' ⟨h', tk', rfl, hk⟩ hD' hys' hpre' hsz'
      refine wpAny_bind (wpAny_pure ?_)
      rw [if_pos (by rfl)]
      refine wpAny_bind (wp_push hD' (fun h₂ hk₂ hD₂ => ?_) (by rw [sizeLine_eq]; omega))
      refine wpAny_pure ⟨plainId_quiet plain_pat_loop _, ?_⟩
      have hm : (m'.handed == m'.start) = false := by
        rw [hst, hhd]; simp; omega
      rw [hm, hhd]
      refine ih _ (n + 1) _ _ (pre ++ (text.extract s₀ a).toList ++ repl.cps.toList) (ys' ++ [repl]) (by omega) hD₂ (by rw [Array.toList_push]; exact strs_push hys') ?_ ?_ ?_ ?_ ?_
      · rw [List.map_append, List.flatten_append, hpre']; simp
      · rw [Array.size_push]; have := ha.1; omega
      · simpa [List.append_assoc] using hlen
      · exact (hp.but hD hk).but hD' fun b o hb e => (hk₂ b hb).trans e
      · intro h₃ tk₃ t₃ hk₃
        have := hR h₃ tk₃ t₃ fun b o hb e => hk₃ b o hb ((hk₂ b hb).trans (hk b o hb e))
        simpa [List.append_assoc] using this
    simp only [beq_self_eq_true, if_true]
    by_cases hlt : s₀ < a
    · rw [if_pos (by rw [hst]; exact hlt)]
      refine wpAny_bind (plain_str (fun t1 t2 => ?_) hts)
      refine wpAny_bind (wp_push (s := { s with toks := t2 }) hD (fun h' hk hD' => ?_) (by rw [sizeLine_eq]; omega))
      refine fin _ _ _ (ys ++ [⟨text.extract s₀ m'.start⟩]) ⟨h', t2, rfl, fun b o hb e => (hk b hb).trans e⟩ hD' (by rw [Array.toList_push]; exact strs_push hys) ?_ (by rw [Array.size_push]; omega)
      rw [List.map_append, List.flatten_append, hpre, hst]; simp
    · rw [if_neg (by rw [hst]; exact hlt)]
      refine fin _ _ _ ys ⟨s.heap, s.toks, rfl, fun b o hb e => e⟩ hD hys ?_ (by omega)
      have : (text.extract s₀ a).toList = [] := by
        rw [Array.extract_eq_empty_of_le (by omega)]
      rw [hpre, this, List.append_nil]

theorem slot_pat_sub : Slot "re.Pattern" "sub" "re.Pattern.sub" :=
  .of (owner := "re.Pattern") (n := "sub") (by rw [typeLookup_type, builtinLookup_eq_fast]; kernel_rfl) (by decide +kernel) (by decide +kernel) (by decide +kernel)
    (by first | exact .inl (by decide +kernel) | exact .inr (by decide +kernel)) (by rw [isSubtype_type]; kernel_rfl)
theorem type_pat_sub : typeOf (.builtin "re.Pattern.sub") = pure (.type "method_descriptor") := by show builtinType _ = _; rw [builtinType_eq_fast]; kernel_rfl
theorem entry_pat_sub : entryFor table "re.Pattern.sub" = some Builtin.«re.Pattern.sub» := entryFor_of_tree (by kernel_rfl)
theorem args_pat_sub (a b c : Value) : argsOk "re.Pattern.sub" ⟨[a, b, c], []⟩ := by unfold argsOk; kernel_rfl
theorem str_no_call : typeLookup (.type "str") "__call__" = pure none := by rw [typeLookup_type, builtinLookup_eq_fast]; kernel_rfl

/-- PATTERN.sub(repl, text): the text where each hit is replaced -/
theorem call_sub {H : Nat → Prop} {len : Nat → Nat} {P text : Array Nat} {repl : Str} {B : Nat} {pat : Addr} {tk tr : Tok} {r : List Nat} {Q : Value → Shared → Prop}
    (hf : ∀ s ≤ text.size, ∃ r, First H s r ∧ Ends (Sre.forSearch P text 0 s text.size false) B (r.map fun a => (a, a + len a))) (hB : B < 2 ^ 64)
    (hH : ∀ a, H a → a < text.size ∧ 1 ≤ len a ∧ a + len a ≤ text.size) (hts : text.size ≤ 2 ^ 20) (hS : Sub H len repl.cps.toList text 0 r) (hr : r.length ≤ 2 ^ 23) (hp : PatAt s.heap pat P)
    (hlit : repl.cps.contains 92 = false)
    (hQ : ∀ h' tk' t, (∀ b o, s.heap.get? b = some o → h'.get? b = some o) → Q (.str ⟨r.toArray⟩ t) { s with heap := h', toks := tk' }) :
    wpAny (model prog w) A (call (.builtin "re.Pattern.sub") [.ref pat, .str repl tr, .str ⟨text⟩ tk]) Q E s := by
  obtain ⟨o, f0, f1, f3, f4, cd, oc, n, vs, h1, h2, h2', h3, h4, h5, h7, h6⟩ := id hp.ob
  refine wpAny_call (codeAny_call_builtin_at (plainId_quiet slot_pat_sub.plain _) entry_pat_sub (slot_pat_sub.check _ _ _ _ _ _ _ _ ⟨o, h1, h2⟩ (args_pat_sub _ _ _) ?_))
  rw [Around.under_plainId slot_pat_sub.plain]
  unfold Builtin.«re.Pattern.sub» reSubstitute
  dsimp only
  refine wpAny_bind (wpAny_of_eq (a := [some (.str repl tr), some (.str ⟨text⟩ tk), none]) (by rfl) ?_)
  dsimp only
  refine wpAny_bind (wpAny_pure ?_)
  refine wpAny_bind (wpAny_specialOf (T := "str") (typeIs_str _ _ _) str_no_call ?_)
  dsimp only [Option.isSome_none]
  rw [if_neg (by exact Bool.false_ne_true)]
  refine wpAny_bind (wpAny_of_eq (a := some repl) (by rfl) ?_)
  dsimp only
  rw [hlit]
  refine wpAny_bind (wpAny_pure ?_)
  rw [if_neg (by exact Bool.false_ne_true)]
  rw [if_pos (by rfl)]
  refine wpAny_bind (wpAny_pure ?_)
  dsimp only
  refine wpAny_bind (wpAny_holding (wp_whole hp fun t e1 e2 e3 e4 e5 e6 e7 => ?_))
  rw [if_neg (by decide)]
  unfold newList
  refine wpAny_bind (wpAny_newObj_type ?_)
  refine wpAny_pure ⟨plainId_quiet plain_pat_loop _, ?_⟩
  refine loop_sub hf hB hH hts 0 r hS _ 0 #[] 0 [] [] (Nat.zero_le _) (Heap.get?_push_size _ rfl) .nil rfl (Nat.zero_le _) (by simpa using hr) (hp.keeps fun b o e => Heap.get?_push_of_some _ e) fun h' tk' t hk => ?_
  exact hQ h' tk' t fun b o e => hk b o (Nat.ne_of_lt (Heap.lt_size e)) (Heap.get?_push_of_some _ e)
end
end Mine

end

section
open PySem PySem.Sre PySem.Builtin PySem.Builtin.Re PyProof.Rows
set_option linter.unusedSimpArgs false
namespace Mine
def crlf : List Nat → List Nat
  | [] => []
  | 13 :: 10 :: r => 13 :: 10 :: crlf r
  | c :: r => if c = 10 ∨ c = 13 then 13 :: 10 :: crlf r else c :: crlf r
def dot : Bool → List Nat → List Nat
  | _, [] => []
  | b, c :: r => (if b = true ∧ c = 46 then [46, 46] else [c]) ++ dot (c == 10) r

theorem Sub.cons {H : Nat → Prop} {len : Nat → Nat} {repl : List Nat} {text : Array Nat} {s : Nat} {r : List Nat} (h : Sub H len repl text (s + 1) r) (hs : s < text.size) (hn : ¬ H s) :
    Sub H len repl text s (text[s] :: r) := by
  generalize hk : s + 1 = k at h
  cases h with
  | last hl =>
    subst hk
    have e : text[s] :: (text.extract (s + 1) text.size).toList = (text.extract s text.size).toList := by
      simp only [Array.toList_extract, List.extract_eq_take_drop]
      rw [List.drop_eq_getElem_cons (i := s) (by simpa using hs)]
      rw [show text.size - s = (text.size - (s + 1)) + 1 by omega, List.take_succ_cons]
      simp
    rw [e]
    exact .last fun j hj => by
      by_cases q : j = s
      · rw [q]; exact hn
      · exact hl j (by omega)
  | hit ha hr =>
    rename_i a r'
    subst hk
    have ha1 := ha.1
    have e : text[s] :: ((text.extract (s + 1) a).toList ++ repl ++ r') = (text.extract s a).toList ++ repl ++ r' := by
      rw [← List.cons_append, ← List.cons_append]
      congr 2
      simp only [Array.toList_extract, List.extract_eq_take_drop]
      rw [List.drop_eq_getElem_cons (i := s) (by simpa using hs)]
      rw [show a - s = (a - (s + 1)) + 1 by omega, List.take_succ_cons]
      simp
    rw [e]
    exact .hit ⟨by omega, ha.2.1, fun j h1 h2 => by
      by_cases q : j = s
      · rw [q]; exact hn
      · exact ha.2.2 j (by omega) h2⟩ hr

theorem Sub.here {H : Nat → Prop} {len : Nat → Nat} {repl : List Nat} {text : Array Nat} {s : Nat} {r : List Nat} (hH : H s) (h : Sub H len repl text (s + len s) r) :
    Sub H len repl text s (repl ++ r) := by
  have := Sub.hit (H := H) (len := len) (repl := repl) (text := text) (s := s) (a := s) ⟨Nat.le_refl _, hH, fun j h1 h2 => by omega⟩ h
  have e : (text.extract s s).toList = [] := by simp
  rwa [e, List.nil_append] at this
theorem Sub.stop {H : Nat → Prop} {len : Nat → Nat} {repl : List Nat} {text : Array Nat} (hH : ∀ a, H a → a < text.size) : Sub H len repl text text.size [] := by
  have := Sub.last (H := H) (len := len) (repl := repl) (text := text) (s := text.size) fun j hj h => by have := hH j h; omega
  simpa using this

theorem sub_crlf (text : Array Nat) : ∀ (k s : Nat), s ≤ text.size → text.size - s ≤ k → Sub (Hit2 text) (len2 text) [13, 10] text s (crlf (text.toList.drop s)) := by
  intro k
  induction k with
  | zero =>
    intro s h1 h2
    have : s = text.size := by omega
    subst this
    rw [List.drop_of_length_le (by simp)]
    exact Sub.stop fun a h => h.1
  | succ k ih =>
    intro s h1 h2
    by_cases hs : s < text.size
    · rw [List.drop_eq_getElem_cons (by simpa using hs)]
      have hc : text[s]?.getD 0 = text[s] := by simp [hs]
      have ht : text.toList[s]'(by simpa using hs) = text[s] := by simp
      rw [ht]
      by_cases h13 : text[s] = 13 ∧ ∃ h : s + 1 < text.size, text[s + 1] = 10
      · obtain ⟨e13, hs1, e10⟩ := h13
        rw [List.drop_eq_getElem_cons (i := s + 1) (by simpa using hs1)]
        have ht1 : text.toList[s + 1]'(by simpa using hs1) = text[s + 1] := by simp
        rw [ht1, e13, e10]
        have hl : len2 text s = 2 := by
          unfold len2
          rw [if_pos ⟨by rw [hc, e13], hs1, by simp [hs1, e10]⟩]
        have := ih (s + 2) (by omega) (by omega)
        show Sub _ _ _ _ _ ([13, 10] ++ crlf (text.toList.drop (s + 1 + 1)))
        exact Sub.here ⟨hs, .inr (by rw [hc, e13])⟩ (by rw [hl]; exact this)
      · have hstep : crlf (text[s] :: List.drop (s + 1) text.toList) = if text[s] = 10 ∨ text[s] = 13 then 13 :: 10 :: crlf (text.toList.drop (s + 1)) else text[s] :: crlf (text.toList.drop (s + 1)) := by
          by_cases hs1 : s + 1 < text.size
          · rw [List.drop_eq_getElem_cons (i := s + 1) (by simpa using hs1)]
            have ht1 : text.toList[s + 1]'(by simpa using hs1) = text[s + 1] := by simp
            rw [ht1]
            rw [crlf]
            intro r e1 e2
            injection e2 with e3 e4
            exact h13 ⟨e1, hs1, e3⟩
          · rw [List.drop_of_length_le (i := s + 1) (by simp; omega)]
            rw [crlf.eq_3]
            intro r e1 e2
            cases e2
        rw [hstep]
        by_cases hh : text[s] = 10 ∨ text[s] = 13
        · rw [if_pos hh]
          have hl : len2 text s = 1 := by
            unfold len2
            rw [if_neg]
            rintro ⟨a, b, c⟩
            refine h13 ⟨by rw [← hc, a], b, ?_⟩
            simpa [b] using c
          exact Sub.here ⟨hs, by rw [hc]; exact hh⟩ (by rw [hl]; exact ih (s + 1) (by omega) (by omega))
        · rw [if_neg hh]
          exact Sub.cons (ih (s + 1) (by omega) (by omega)) hs fun x => hh (by have := x.2; rwa [hc] at this)
    · have : s = text.size := by omega
      subst this
      rw [List.drop_of_length_le (by simp)]
      exact Sub.stop fun a h => h.1

theorem sub_dot (text : Array Nat) : ∀ (k s : Nat) (b : Bool), s ≤ text.size → text.size - s ≤ k → (b = true ↔ s = 0 ∨ text[s - 1]?.getD 0 = 10) →
    Sub (Hit1 text) (fun _ => 1) [46, 46] text s (dot b (text.toList.drop s)) := by
  intro k
  induction k with
  | zero =>
    intro s b h1 h2 _
    have : s = text.size := by omega
    subst this
    rw [List.drop_of_length_le (by simp)]
    exact Sub.stop fun a h => h.1
  | succ k ih =>
    intro s b h1 h2 hb
    by_cases hs : s < text.size
    · rw [List.drop_eq_getElem_cons (by simpa using hs)]
      have hc : text[s]?.getD 0 = text[s] := by simp [hs]
      have ht : text.toList[s]'(by simpa using hs) = text[s] := by simp
      rw [ht, dot]
      have hi := ih (s + 1) (text[s] == 10) (by omega) (by omega) (by simp [hs])
      by_cases hh : b = true ∧ text[s] = 46
      · rw [if_pos hh]
        exact Sub.here ⟨hs, hb.mp hh.1, by rw [hc]; exact hh.2⟩ hi
      · rw [if_neg hh]
        exact Sub.cons hi hs fun x => hh ⟨hb.mpr x.2.1, by have := x.2.2; rwa [hc] at this⟩
    · have : s = text.size := by omega
      subst this
      rw [List.drop_of_length_le (by simp)]
      exact Sub.stop fun a h => h.1

theorem crlf_length : ∀ l : List Nat, (crlf l).length ≤ 2 * l.length
  | [] => by simp [crlf]
  | 13 :: 10 :: r => by have := crlf_length r; simp [crlf]; omega
  | c :: r => by
    have := crlf_length r
    by_cases h : ∃ r', c = 13 ∧ r = 10 :: r'
    · obtain ⟨r', rfl, rfl⟩ := h
      have := crlf_length r'
      simp [crlf]; omega
    · rw [crlf]
      · split <;> (simp only [List.length_cons]; omega)
      · rintro r' rfl rfl; exact h ⟨_, rfl, rfl⟩
theorem dot_length : ∀ (b : Bool) (l : List Nat), (dot b l).length ≤ 2 * l.length
  | _, [] => by simp [dot]
  | b, c :: r => by
    have := dot_length (c == 10) r
    rw [dot]
    split <;> (simp only [List.length_append, List.length_cons, List.length_nil]; omega)

theorem dot_nl {text : Array Nat} (h : text.size ≤ 2 ^ 18) {prog : Program} {w : World} {A : Around} {E : Value → Shared → Prop} {s : Shared} {pat : Addr} {tk tr : Tok} {Q : Value → Shared → Prop}
    (hp : PatAt s.heap pat P1) (hQ : ∀ h' tk' t, (∀ b o, s.heap.get? b = some o → h'.get? b = some o) → Q (.str ⟨(dot true text.toList).toArray⟩ t) { s with heap := h', toks := tk' }) :
    wpAny (model prog w) A (call (.builtin "re.Pattern.sub") [.ref pat, .str (Str.ofString "..") tr, .str ⟨text⟩ tk]) Q E s := by
  have e : (Str.ofString "..").cps.toList = [46, 46] := by decide +kernel
  have hS := sub_dot text text.size 0 true (Nat.zero_le _) (Nat.le_refl _) (by simp)
  rw [List.drop_zero] at hS
  have hl := dot_length true text.toList
  refine call_sub (H := Hit1 text) (len := fun _ => 1) (fun s hs => p1_find hs) (by omega) (fun a h => ⟨h.1, Nat.le_refl _, h.1⟩) (by omega) (by rw [e]; exact hS) (by simp at hl; omega) hp (by decide +kernel) hQ

theorem crlf_nl {text : Array Nat} (h : text.size ≤ 2 ^ 18) {prog : Program} {w : World} {A : Around} {E : Value → Shared → Prop} {s : Shared} {pat : Addr} {tk tr : Tok} {Q : Value → Shared → Prop}
    (hp : PatAt s.heap pat P2) (hQ : ∀ h' tk' t, (∀ b o, s.heap.get? b = some o → h'.get? b = some o) → Q (.str ⟨(crlf text.toList).toArray⟩ t) { s with heap := h', toks := tk' }) :
    wpAny (model prog w) A (call (.builtin "re.Pattern.sub") [.ref pat, .str (Str.ofString "\x0d\n") tr, .str ⟨text⟩ tk]) Q E s := by
  have e : (Str.ofString "\x0d\n").cps.toList = [13, 10] := by decide +kernel
  have hS := sub_crlf text text.size 0 (Nat.zero_le _) (Nat.le_refl _)
  rw [List.drop_zero] at hS
  have hl := crlf_length text.toList
  refine call_sub (H := Hit2 text) (len := len2 text) (fun s hs => p2_find hs) (by omega) (fun a h => ⟨h.1, ?_, ?_⟩) (by omega) (by rw [e]; exact hS) (by simp at hl; omega) hp (by decide +kernel) hQ
  · unfold len2; split <;> omega
  · have := h.1
    unfold len2; split <;> omega

theorem plainAttrs_pat : PlainAttrs "re.Pattern" :=
  ⟨⟨"object.__getattribute__", by rw [typeLookup_type, builtinLookup_eq_fast]; kernel_rfl, by decide +kernel⟩, by rw [typeLookup_type, builtinLookup_eq_fast]; kernel_rfl⟩
theorem method_sub {M : Model} {A : Around} {E : Value → Shared → Prop} {s : Shared} {pat : Addr} {P : Array Nat} {pl : Sem Bool} {Q : Value × List Value → Shared → Prop} (hp : PatAt s.heap pat P)
    (h : Q (.builtin "re.Pattern.sub", [.ref pat]) s) : wpAny M A (getMethod (.ref pat) (Str.ofString "sub") pl) Q E s := by
  obtain ⟨o, f0, f1, f3, f4, cd, oc, n, vs, h1, h2, h2', h3, h4, h5, h7, h6⟩ := hp.ob
  exact getMethod_builtin ⟨o, h1, h2⟩ plainAttrs_pat slot_pat_sub type_pat_sub (fun a e => by cases e; exact ⟨o, h1, h2'⟩) h
end Mine

end

section
open PySem PySem.W PyProof.Rows PySem.Calls
theorem Mine.againQD {prog : Program} {w : World} {A : Around} {E : Value → Shared → Prop} {s : Shared} {env : Env} {Q : Flow → Shared → Prop} (h : Q .next s) : wpAny (model prog w) A (execs [] env) Q E s := by
  first | (walk1; exact h) | exact wpAny_execs_nil h
end

section
open PySem PySem.W PyProof.Rows PySem.Calls
set_option maxRecDepth 100000
set_option maxHeartbeats 4000000
namespace Mine
theorem reg : (PySem.Challenge.rw_wk0003_01 = PySem.Challenge.rw_wk0003_01) ∧ (Mine.hd.heap_39 = Mine.hd.heap_39) := by k_fill; exact ⟨rfl, rfl⟩
theorem patK1 {P : Params} {h : Heap} (X : (Mine.hd.heap_39 P).In h) : PatAt h 36 P1 := ⟨⟨_, _, _, _, _, 35, _, _, _, X 36 _ rfl, rfl, rfl, rfl, X 35 _ rfl, rfl, rfl, by decide +kernel⟩⟩
theorem patK2 {P : Params} {h : Heap} (X : (Mine.hd.heap_39 P).In h) : PatAt h 41 P2 := ⟨⟨_, _, _, _, _, 40, _, _, _, X 41 _ rfl, rfl, rfl, rfl, X 40 _ rfl, rfl, rfl, by decide +kernel⟩⟩

/-- quotedata, on codes -/
def qd (l : List Nat) : List Nat := dot true (crlf l)

section
local macro_rules | `(tactic| walk_at "getMethod ref") => `(tactic| (k_here; first | refine method_sub (PatAt.keeps (patK1 (by assumption)) (Fr.keep (by assumption))) ?_ | refine method_sub (PatAt.keeps (patK2 (by assumption)) (Fr.keep (by assumption))) ?_))
local macro_rules | `(tactic| walk_at "call builtin:re.Pattern.sub") => `(tactic| (k_here; first
  | (refine dot_nl (by assumption) (PatAt.keeps (patK1 (by assumption)) (Fr.keep (by assumption))) (fun h' tk' t' hk' => ?_); (rename Fr _ _ _ _ => F₀); (have F' := F₀.keeps hk'); clear F₀)
  | (refine crlf_nl (by assumption) (PatAt.keeps (patK2 (by assumption)) (Fr.keep (by assumption))) (fun h' tk' t' hk' => ?_); (rename Fr _ _ _ _ => F₀); (have F' := F₀.keeps hk'); clear F₀)))
theorem quotedata_call {w : World} {A : Around} {E : Value → Shared → Prop} {s : Shared} {G : Heap} {mg mb : Str → Option Value} {text : Array Nat} {t : Tok} {Q : Value → Shared → Prop}
   (kg : Stay G s.heap) (X : (Mine.hd.heap_39 w.params).In G) (T : TopRead VW LS mg mb G)
   (hA : A.depth < recursionLimit) (hts : text.size ≤ 2 ^ 16)
   (h : ∀ h' tk t', Stay s.heap h' → Q (.str ⟨(qd text.toList).toArray⟩ t') { s with heap := h', toks := tk }) :
   wpAny (model PW w) A (call (.ref 48) [.str ⟨text⟩ t] []) Q E s := by
  have hts' : text.size ≤ 2 ^ 18 := by omega
  have hts2 : ((crlf text.toList).toArray).size ≤ 2 ^ 18 := by
    have := crlf_length text.toList
    simp at this ⊢; omega
  refine wpAny_call (enter [] kg X T (fun _ h => nomatch h) (by k_is) (by k_is) hA (BindsTo.of_eq (binds := [("data", .str ⟨text⟩ t)]) rfl) (locs rfl) (fun g h₁ Xg Tg hg hk F N => ?_))
  clear X T N
  k_steps
  rename_i h2 tk2 t2 k2 h3 tk3 t3 k3 F3
  exact h h3 tk3 t3 (fun b o e => k3 b o (k2 b o (hk b o e)))
end
end Mine

end

section
open PySem PySem.W PyProof.Rows PySem.Calls
theorem Mine.againVP {prog : Program} {w : World} {A : Around} {E : Value → Shared → Prop} {s : Shared} {env : Env} {Q : Flow → Shared → Prop} (h : Q .next s) : wpAny (model prog w) A (execs [] env) Q E s := by
  first | (walk1; exact h) | exact wpAny_execs_nil h
end

section
open PySem PySem.W PyProof.Rows PySem.Calls
set_option maxRecDepth 100000
set_option maxHeartbeats 4000000
set_option linter.unusedSimpArgs false
set_option linter.unusedVariables false
namespace Mine
theorem regV : (PySem.Challenge.rw_wk0003_01 = PySem.Challenge.rw_wk0003_01) ∧ (Mine.hd.heap_39 = Mine.hd.heap_39) := by k_fill; exact ⟨rfl, rfl⟩

theorem bitAnd_nat (a b : Nat) : Builtin.bitAnd (a : Int) (b : Int) = ((a &&& b : Nat) : Int) := by
  unfold Builtin.bitAnd
  have h1 : decide ((0 : Int) ≤ (a : Int)) = true := by simp
  have h2 : decide ((0 : Int) ≤ (b : Int)) = true := by simp
  rw [h1, h2]; simp
theorem bitOr_nat (a b : Nat) : Builtin.bitOr (a : Int) (b : Int) = ((a ||| b : Nat) : Int) := by
  unfold Builtin.bitOr Builtin.bitAnd
  have h1 : decide ((0 : Int) ≤ Builtin.bitNot (a : Int)) = false := by simp [Builtin.bitNot]; omega
  have h2 : decide ((0 : Int) ≤ Builtin.bitNot (b : Int)) = false := by simp [Builtin.bitNot]; omega
  rw [h1, h2]
  dsimp only
  have e : ∀ x : Int, Builtin.bitNot (Builtin.bitNot x) = x := fun x => by simp [Builtin.bitNot]; omega
  rw [e, e, e]; simp
theorem and63 (c : Nat) : Builtin.bitAnd (c : Int) 63 = ((c % 64 : Nat) : Int) := by
  have := bitAnd_nat c 63
  rw [show (63 : Nat) = 2 ^ 6 - 1 from rfl, Nat.and_two_pow_sub_one_eq_mod] at this
  exact this
theorem and64_small : ∀ d < 128, (d &&& 64) = if d / 64 % 2 = 1 then 64 else 0 := by decide
theorem and64 (c : Nat) : Builtin.bitAnd (c : Int) 64 = if c / 64 % 2 = 1 then 64 else 0 := by
  have h := bitAnd_nat c 64
  have e1 : (c &&& 64) = ((c % 128) &&& 64) := by
    have := Nat.and_two_pow_sub_one_eq_mod c 7
    rw [show (128 : Nat) = 2 ^ 7 from rfl, ← this, Nat.and_assoc, show ((2 ^ 7 - 1 : Nat) &&& 64) = 64 from by decide]
  rw [show ((64 : Int)) = ((64 : Nat) : Int) from rfl, h, e1, and64_small _ (Nat.mod_lt _ (by decide))]
  have e2 : c % 128 / 64 % 2 = c / 64 % 2 := by omega
  rw [e2]
  split <;> rfl
theorem or6 (v c : Nat) (h : c < 64) : Builtin.bitOr ((v : Int) * 64) (c : Int) = ((v * 64 + c : Nat) : Int) := by
  have := bitOr_nat (v * 64) c
  rw [show ((v * 64 : Nat) : Int) = (v : Int) * 64 from by simp] at this
  rw [this]
  have e := Nat.shiftLeft_add_eq_or_of_lt (i := 6) (b := c) (by simpa using h) v
  rw [Nat.shiftLeft_eq] at e
  rw [← e]

/-- the reading of one number, in the loop -/
inductive VL : Nat → Nat → Nat → List Nat → Nat → List Nat → Prop where
  | stop {b v : Nat} {r : List Nat} : b / 64 % 2 = 0 → VL 0 b v r v r
  | more {k b v c val : Nat} {r r' : List Nat} : b / 64 % 2 = 1 → VL k c (v * 64 + c % 64) r val r' → VL (k + 1) b v (c :: r) val r'

def itObj (l : Addr) (i : Nat) : Obj := { cls := .type "list_iterator", data := .fields #[.ref l, .int i 0] }

section
variable {prog : Program} {w : World} {A : Around} {E : Value → Shared → Prop} {s : Shared} {g : Heap} {L I l : Addr} {m : Str → Option Value} {i : Nat} {vs : Array Value} {n : Nat} {x : Value}

theorem special_item {Q : Option Value → Shared → Prop} (hI : s.heap.get? I = some (itObj l i)) (hl : s.heap.IsList l vs) (hx : vs[i]? = some x)
    (h : ∀ h', Heap.SameBut I s.heap h' → h'.get? I = some (itObj l (i + 1)) → Q (some x) { s with heap := h' }) :
    wpAny (model prog w) A (callSpecial? (.ref I) (Str.ofString "__next__")) Q E s := by
  obtain ⟨ol, hol, _, nl, hdl⟩ := hl
  have hT : s.TypeIs (.ref I) "list_iterator" := ⟨_, hI, rfl⟩
  refine wpAny_callSpecial?_slot (name := Str.ofString "__next__") hT slot_listiter_next (wpAny_call_entry slot_listiter_next hT entry_listiter_next ?_ (args_listiter_next _))
  show wpAny _ _ (field (.ref I) 0 >>= _) _ _ s
  refine wpAny_bind (wpAny_field hI rfl (x := .ref l) rfl ?_)
  show wpAny _ _ (if (Value.ref l == Value.none) = true then _ else _) _ _ s
  rw [if_neg (show ¬ ((Value.ref l == Value.none) = true) from Bool.false_ne_true)]
  show wpAny _ _ (field (.ref I) 1 >>= _) _ _ s
  refine wpAny_bind (wpAny_field hI rfl (x := .int i 0) rfl ?_)
  show wpAny _ _ (seqItems? (.ref l) >>= _) _ _ s
  refine wpAny_bind (wpAny_seqItems hol hdl ?_)
  simp only [Int.toNat_natCast, hx]
  refine wpAny_bind (wpAny_setField hI rfl (by simp) (wpAny_pure ⟨x, rfl, h _ (Heap.SameBut.update ..) ?_⟩))
  rw [Heap.get?_update_self _ hI rfl]
  rfl

theorem next_item {Q : Value → Shared → Prop} (hI : s.heap.get? I = some (itObj l i)) (hl : s.heap.IsList l vs) (hx : vs[i]? = some x)
    (h : ∀ h', Heap.SameBut I s.heap h' → h'.get? I = some (itObj l (i + 1)) → Q x { s with heap := h' }) :
    wpAny (model prog w) A (call (.builtin "next") [.ref I]) Q E s := by
  have hT : s.TypeIs (.ref I) "list_iterator" := ⟨_, hI, rfl⟩
  refine call_function_entry (by decide +kernel) (by decide +kernel) kdk_entry_next (kdk_args_next _) ?_
  unfold Builtin.«next»
  refine wpAny_bind (m := someArgs "next" 1 2 _) (wpAny_of_eq (a := [Value.ref I]) (by first | rfl | kernel_rfl!) ?_)
  dsimp only
  refine wpAny_bind (wpAny_specialOf (name := Str.ofString "__next__") hT slot_listiter_next.lookup ?_)
  refine wpAny_ite_split (fun hab => absurd hab (by decide)) (fun _ => ?_)
  refine wpAny_bind (special_item hI hl hx fun h' h1 h2 => ?_)
  exact wpAny_pure ⟨_, rfl, h h' h1 h2⟩

/-- the iterator is at its end -/
theorem next_end (hh : A.handled = none) {Q : Value → Shared → Prop} (hI : s.heap.get? I = some (itObj l i)) (hl : s.heap.IsList l vs) (hx : vs[i]? = none)
    (h : ∀ h' e oe fs t, (∀ b o, b ≠ I → s.heap.get? b = some o → h'.get? b = some o) → s.heap.get? e = none → h'.get? e = some oe → oe.cls = .type "StopIteration" → oe.data = .fields fs → fs[1]? = some .none → fs[0]? = some t → E (.ref e) { s with heap := h' }) :
    wpAny (model prog w) A (call (.builtin "next") [.ref I]) Q E s := by
  have hT : s.TypeIs (.ref I) "list_iterator" := ⟨_, hI, rfl⟩
  refine call_function_entry (by decide +kernel) (by decide +kernel) kdk_entry_next (kdk_args_next _) ?_
  unfold Builtin.«next»
  refine wpAny_bind (m := someArgs "next" 1 2 _) (wpAny_of_eq (a := [Value.ref I]) (by first | rfl | kernel_rfl!) ?_)
  dsimp only
  refine wpAny_bind (wpAny_specialOf (name := Str.ofString "__next__") hT slot_listiter_next.lookup ?_)
  refine wpAny_ite_split (fun hab => absurd hab (by decide)) (fun _ => ?_)
  obtain ⟨ol, hol, _, nl, hdl⟩ := hl
  refine wpAny_bind (wpAny_callSpecial?_slot (name := Str.ofString "__next__") hT slot_listiter_next (wpAny_call_entry slot_listiter_next hT entry_listiter_next ?_ (args_listiter_next _)))
  show wpAny _ _ (field (.ref I) 0 >>= _) _ _ s
  refine wpAny_bind (wpAny_field hI rfl (x := .ref l) rfl ?_)
  show wpAny _ _ (if (Value.ref l == Value.none) = true then _ else _) _ _ s
  rw [if_neg (show ¬ ((Value.ref l == Value.none) = true) from Bool.false_ne_true)]
  show wpAny _ _ (field (.ref I) 1 >>= _) _ _ s
  refine wpAny_bind (wpAny_field hI rfl (x := .int i 0) rfl ?_)
  show wpAny _ _ (seqItems? (.ref l) >>= _) _ _ s
  refine wpAny_bind (wpAny_seqItems hol hdl ?_)
  simp only [Int.toNat_natCast, hx]
  refine wpAny_bind (wpAny_rule (wpAny_bind (wpAny_setField hI rfl (by simp) ?_)))
  show wpAny _ _ (newExc (.type "StopIteration") [] >>= _) _ _ _
  refine wpAny_bind ?_
  simp only [newExc, newTuple]
  refine wpAny_bind (wpAny_newObj_type ?_ (by size_fits))
  refine wpAny_bind (m := firstArgMember _ _) (wpAny_of_eq (a := Value.none) (by first | rfl | (simp only [firstArgMember]; rfl)) ?_)
  refine wpAny_newObj_type ?_ (by size_fits)
  simp only [raiseNew]
  refine wpAny_bind (wpAny_handled ?_)
  rw [show A.in1.in1.handled = none from hh]
  refine wpAny_bind (wpAny_pure (wpAny_throw ?_))
  have hsz : (s.heap.update I (Obj.mapFields fun x => x.setIfInBounds 0 Value.none)).objs.size = s.heap.objs.size := Heap.size_after_update ..
  refine h _ _ _ _ (.ref s.heap.objs.size) (fun b o hb e => ?_) ?_ (Heap.get?_push_size _ rfl) rfl rfl ?_ ?_
  · exact Heap.get?_push_of_some _ (Heap.get?_push_of_some _ ((Heap.get?_update_other _ _ (Ne.symm hb)).trans e))
  · rw [Heap.size_push, hsz]; exact Heap.get?_none_of_le (Nat.le_succ _)
  · simp [Array.getElem?_append]
  · simp [Array.getElem?_append, hsz]

theorem next_item_N {x : Value} {Q : Value → Shared → Prop} (F : Fr g L s.heap m) (N : News g L s.heap [(I, itObj l i)]) (hl : g.IsList l vs) (hx : vs[i]? = some x)
    (h : ∀ h', Fr g L h' m → News g L h' [(I, itObj l (i + 1))] → Q x { s with heap := h' }) :
    wpAny (model prog w) A (call (.builtin "next") [.ref I]) Q E s := by
  have z := N _ (List.mem_singleton.mpr rfl)
  have hl' : s.heap.IsList l vs := by obtain ⟨o, ho, r⟩ := hl; exact ⟨o, F.keep _ _ ho, r⟩
  refine next_item z.1 hl' hx fun h' h1 h2 => h h' ?_ ?_
  · exact F.change h1 z.2.1 z.2.2
  · intro p hp
    rw [List.mem_singleton.mp hp]
    exact ⟨h2, z.2⟩
end

/-- the locals of _parse_varint -/
def mv (I : Addr) (b v : Nat) (tb tv : Tok) : Str → Option Value := fun y => if y = Str.ofString "val" then some (.int v tv) else if y = Str.ofString "b" then some (.int b tb) else if y = Str.ofString "iterator" then some (.ref I) else none


theorem mv_norm {g h : Heap} {L I : Addr} {b v : Nat} {tb tv : Tok} {m' : Str → Option Value} (F : Fr g L h m') (hv : m' (Str.ofString "val") = some (.int v tv)) (hb : m' (Str.ofString "b") = some (.int b tb)) (hi : m' (Str.ofString "iterator") = some (.ref I))
    (ho : ∀ y, y ≠ Str.ofString "val" → y ≠ Str.ofString "b" → y ≠ Str.ofString "iterator" → m' y = none) : Fr g L h (mv I b v tb tv) := by
  have e : m' = mv I b v tb tv := by
    funext y
    unfold mv
    by_cases h1 : y = Str.ofString "val"
    · rw [if_pos h1, h1, hv]
    · rw [if_neg h1]
      by_cases h2 : y = Str.ofString "b"
      · rw [if_pos h2, h2, hb]
      · rw [if_neg h2]
        by_cases h3 : y = Str.ofString "iterator"
        · rw [if_pos h3, h3, hi]
        · rw [if_neg h3]; exact ho y h1 h2 h3
  exact e ▸ F

section
local macro_rules | `(tactic| walk_at "call builtin:next") => `(tactic| (k_here; refine next_item_N (by assumption) (by assumption) (by assumption) (by assumption) (fun h' F' N' => ?_)))
local macro_rules | `(tactic| walk_at "execs cons") => `(tactic| refine wpAny_execs_cons ?_)
local macro_rules | `(tactic| walk_at "execs nil") => `(tactic| refine wpAny_execs_nil ?_)
local macro_rules | `(tactic| walk_at "inplaceOp LShift int int") => `(tactic| (refine ilshift_int_small (by decide) (by decide) (by omega) ?_))
theorem pv_call {w : World} {A : Around} {E : Value → Shared → Prop} {s : Shared} {G : Heap} {mg mb : Str → Option Value} {I l : Addr} {i k c val : Nat} {cs rest r' : List Nat} {vs : List Value} {n : Nat} {Q : Value → Shared → Prop}
   (kg : Stay G s.heap) (X : (Mine.hd.heap_39 w.params).In G) (T : TopRead VW LS mg mb G)
   (hA : A.depth < recursionLimit)
   (hI : s.heap.get? I = some (itObj l i)) (hG : G.get? I = none) (hl : s.heap.get? l = some (W.listOf vs.toArray n)) (hvs : IntsAre vs (cs.map fun (c : Nat) => (c : Int)))
   (hd : cs.drop i = c :: rest) (hk8 : k ≤ 8) (hv : VL k c (c % 64) rest val r')
   (h : ∀ h' tk t' i', s.toks < t' → t' < tk → (∀ b o, b ≠ I → s.heap.get? b = some o → h'.get? b = some o) → h'.get? I = some (itObj l i') → cs.drop i' = r' → Q (.int val t') { s with heap := h', toks := tk }) :
   wpAny (model PW w) A (call (.ref 55) [.ref I] []) Q E s := by
  refine wpAny_call (enter [(I, itObj l i)] kg X T (fun q hq => by rw [List.mem_singleton.mp hq]; exact ⟨hI, hG⟩) (by k_is) (by k_is) hA (BindsTo.of_eq (binds := [("iterator", .ref I)]) rfl) (locs rfl) (fun g h₁ Xg Tg hg hk F N => ?_))
  clear X T
  have hlI : l ≠ I := fun e => by rw [e, hI] at hl; have := congrArg Obj.cls (Option.some.inj hl); exact absurd (Value.type.inj this) (by decide)
  have hlg : g.IsList l vs.toArray := ⟨_, hg l _ hl (by simpa using hlI), rfl, _, rfl⟩
  have h0 : cs[i]? = some c := by
    have := congrArg List.head? hd
    simpa [List.head?_drop] using this
  obtain ⟨tc, hc0⟩ := hvs.get i (c : Int) (by simp [h0])
  have hc0' : vs.toArray[i]? = some (.int (c : Int) tc) := by simpa using hc0
  (repeat ((fail_if_success (with_reducible show wpAny _ _ (exec (Stmt.While _ _ _ _) _) _ _ _)); walk1))
  rename_i h2 h3 h4 F4 N4
  generalize hL : s.heap.objs.size = L at *
  refine wpAny_While (codeAny_whileLoop
     (fun n s' => ∃ b v rest i' h' tk tb tv, s' = { s with heap := h', toks := tk } ∧ (s.toks < tv ∧ tv < tk) ∧ VL n b v rest val r' ∧ cs.drop i' = rest ∧ (v + 1) * 64 ^ n ≤ 2 ^ 60 ∧ Fr g L h' (mv I b v tb tv) ∧ News g L h' [(I, itObj l i')]) ?turn k ?init)
  case init =>
    rw [and63] at F4
    have hoth : ∀ (p q : Option Value) y, y ≠ Str.ofString "val" → y ≠ Str.ofString "b" → y ≠ Str.ofString "iterator" → (if y = Str.ofString "val" then p else if y = Str.ofString "b" then q else List.lookup y [(Str.ofString "iterator", Value.ref I)].reverse) = none := by
      intro p q y y1 y2 y3
      have y4 : (y == Str.ofString "iterator") = false := by simp [y3]
      simp [y1, y2, List.lookup, y4]
    refine ⟨c, c % 64, rest, i + 1, h4, _, _, _, rfl, ⟨by (simp only [List.length_cons, List.length_nil]; omega), by (simp only [List.length_cons, List.length_nil]; omega)⟩, hv, ?_, ?_, mv_norm F4 rfl rfl rfl (hoth _ _), N4⟩
    · rw [← List.tail_drop, hd]; rfl
    · have h1 : 64 ^ k ≤ 64 ^ 8 := Nat.pow_le_pow_right (by decide) hk8
      have h2 : c % 64 + 1 ≤ 64 := by omega
      have := Nat.mul_le_mul h2 h1
      omega
  case turn =>
    rintro n' s' ⟨b, v, rst, i', h', tk', tb, tv, rfl, ⟨ht1, ht2⟩, hVL, hdr, hb, F, N⟩
    clear F4 N4
    cases hVL with
    | stop h0 =>
      have e64 : Builtin.bitAnd (b : Int) 64 = 0 := by rw [and64, if_neg (by omega)]
      iterate 6 walk1
      rw [e64, if_neg (by decide)]
      k_steps
      refine h _ _ _ i' ht1 (by ((try dsimp only); omega)) (fun b o hb e => ?_) (N _ (List.mem_singleton.mpr rfl)).1 hdr
      exact F.keep b o (hg b o e (by simpa using hb))
    | more h1 hm =>
      rename_i k' c' r
      have e64 : Builtin.bitAnd (b : Int) 64 = 64 := by rw [and64, if_pos (by omega)]
      have hb2 : v < 2 ^ 64 := by
        have : 1 ≤ 64 ^ (k' + 1) := Nat.pow_pos (by decide)
        have := Nat.mul_le_mul_left (v + 1) this
        omega
      have h0' : cs[i']? = some c' := by
        have := congrArg List.head? hdr
        simpa [List.head?_drop] using this
      obtain ⟨tc', hc1⟩ := hvs.get i' (c' : Int) (by simp [h0'])
      have hc1' : vs.toArray[i']? = some (.int (c' : Int) tc') := by simpa using hc1
      iterate 6 walk1
      rw [e64, if_pos (by decide)]
      (repeat ((fail_if_success (with_reducible show ∃ _, _)); walk1))
      rename_i h5 h6 h7 h8 F6 N6
      have hc64 : c' % 64 < 64 := Nat.mod_lt _ (by decide)
      rw [and63, show ((v : Int) * 2 ^ Int.toNat 6) = (v : Int) * 64 from rfl, or6 _ _ hc64] at F6
      refine ⟨k', Nat.lt_succ_self _, c', v * 64 + c' % 64, r, i' + 1, h8, _, _, _, rfl, ⟨by ((try dsimp only); omega), by ((try dsimp only); omega)⟩, hm, ?_, ?_, mv_norm F6 rfl rfl rfl (fun y y1 y2 y3 => ?_), N6⟩
      · rw [← List.tail_drop, hdr]; rfl
      · have e : (v + 1) * 64 ^ (k' + 1) = (v * 64 + 63 + 1) * 64 ^ k' := by
          rw [Nat.pow_succ]
          have : v * 64 + 63 + 1 = (v + 1) * 64 := by omega
          rw [this, Nat.mul_assoc, Nat.mul_comm 64]
        have := Nat.mul_le_mul_right (64 ^ k') (show v * 64 + c' % 64 + 1 ≤ v * 64 + 63 + 1 by omega)
        omega
      · simp [mv, y1, y2, y3]
end
end Mine

end

section
open PySem PySem.W PyProof.Rows PySem.Calls
theorem Mine.againVS {prog : Program} {w : World} {A : Around} {E : Value → Shared → Prop} {s : Shared} {env : Env} {Q : Flow → Shared → Prop} (h : Q .next s) : wpAny (model prog w) A (execs [] env) Q E s := by
  first | (walk1; exact h) | exact wpAny_execs_nil h
end

section
open PySem PySem.W PyProof.Rows PySem.Calls
set_option maxRecDepth 100000
set_option maxHeartbeats 4000000
set_option linter.unusedSimpArgs false
set_option linter.unusedVariables false
namespace Mine
theorem regS : (PySem.Challenge.rw_wk0003_01 = PySem.Challenge.rw_wk0003_01) ∧ (Mine.hd.heap_39 = Mine.hd.heap_39) := by k_fill; exact ⟨rfl, rfl⟩

theorem next_end_N {prog : Program} {w : World} {A : Around} {E : Value → Shared → Prop} {s : Shared} {g : Heap} {L I l : Addr} {m : Str → Option Value} {i : Nat} {vs : Array Value} {Q : Value → Shared → Prop}
    (hh : A.handled = none) (F : Fr g L s.heap m) (N : News g L s.heap [(I, itObj l i)]) (hl : g.IsList l vs) (hx : vs[i]? = none)
    (h : ∀ h' e oe fs t, (∀ b o, b ≠ I → s.heap.get? b = some o → h'.get? b = some o) → s.heap.get? e = none → h'.get? e = some oe → oe.cls = .type "StopIteration" → oe.data = .fields fs → fs[1]? = some .none → fs[0]? = some t → E (.ref e) { s with heap := h' }) :
    wpAny (model prog w) A (call (.builtin "next") [.ref I]) Q E s := by
  have z := N _ (List.mem_singleton.mpr rfl)
  have hl' : s.heap.IsList l vs := by obtain ⟨o, ho, r⟩ := hl; exact ⟨o, F.keep _ _ ho, r⟩
  exact next_end hh z.1 hl' hx h

section
local macro_rules | `(tactic| walk_at "call builtin:next") => `(tactic| (k_here; refine next_item_N (by assumption) (by assumption) (by assumption) (by assumption) (fun h' F' N' => ?_)))
local macro_rules | `(tactic| walk_at "inplaceOp LShift int int") => `(tactic| (refine ilshift_int_small (by decide) (by decide) (by omega) ?_))
theorem pv_stop {w : World} {A : Around} {E : Value → Shared → Prop} {s : Shared} {G B : Heap} {mg mb : Str → Option Value} {I l : Addr} {i c : Nat} {cs : List Nat} {vs : List Value} {n : Nat} {Q : Value → Shared → Prop} {fr : List Env}
   (kg : Stay G s.heap) (X : (Mine.hd.heap_39 w.params).In G) (T : TopRead VW LS mg mb G)
   (hA : A.depth < recursionLimit) (hh : A.handled = none) (hfr : A.frames = some fr) (hB : B.StaysIn s.heap) (hFF : s.heap.FunFrames B fr) (hBI : B.get? I = none)
   (hI : s.heap.get? I = some (itObj l i)) (hG : G.get? I = none) (hl : s.heap.get? l = some (W.listOf vs.toArray n)) (hvs : IntsAre vs (cs.map fun (c : Nat) => (c : Int)))
   (hd : cs.drop i = [c]) (hc64 : c / 64 % 2 = 1)
   (h : ∀ h' e a0 tk, Heap.FlyingW B fr e (.type "StopIteration") a0 h' → s.heap.UpToSlots h' → s.heap.get? e = none → E (.ref e) { s with heap := h', toks := tk }) :
   wpAny (model PW w) A (call (.ref 55) [.ref I] []) Q E s := by
  refine wpAny_call (enter [(I, itObj l i)] kg X T (fun q hq => by rw [List.mem_singleton.mp hq]; exact ⟨hI, hG⟩) (by k_is) (by k_is) hA (BindsTo.of_eq (binds := [("iterator", .ref I)]) rfl) (locs rfl) (fun g h₁ Xg Tg hg hk F N => ?_))
  clear X T
  have hlI : l ≠ I := fun e => by rw [e, hI] at hl; have := congrArg Obj.cls (Option.some.inj hl); exact absurd (Value.type.inj this) (by decide)
  have hlg : g.IsList l vs.toArray := ⟨_, hg l _ hl (by simpa using hlI), rfl, _, rfl⟩
  have h0 : cs[i]? = some c := by
    have := congrArg List.head? hd
    simpa [List.head?_drop] using this
  obtain ⟨tc, hc0⟩ := hvs.get i (c : Int) (by simp [h0])
  have hc0' : vs.toArray[i]? = some (.int (c : Int) tc) := by simpa using hc0
  have hlen : cs.length = i + 1 := by
    have := congrArg List.length hd
    simp at this
    have h2 : i < cs.length := (List.getElem?_eq_some_iff.mp h0).1
    omega
  have hend : vs.toArray[i + 1]? = none := by
    have := hvs.length
    simp at this ⊢; omega
  (repeat ((fail_if_success (with_reducible show wpAny _ _ (exec (Stmt.While _ _ _ _) _) _ _ _)); walk1))
  rename_i h2 h3 h4 F4 N4
  generalize hL : s.heap.objs.size = L at *
  have e64 : Builtin.bitAnd (c : Int) 64 = 64 := by rw [and64, if_pos hc64]
  have hb2 : c % 64 < 2 ^ 64 := by omega
  rw [and63] at F4
  have hoth : ∀ (p q : Option Value) y, y ≠ Str.ofString "val" → y ≠ Str.ofString "b" → y ≠ Str.ofString "iterator" → (if y = Str.ofString "val" then p else if y = Str.ofString "b" then q else List.lookup y [(Str.ofString "iterator", Value.ref I)].reverse) = none := by
    intro p q y y1 y2 y3
    have y4 : (y == Str.ofString "iterator") = false := by simp [y3]
    simp [y1, y2, List.lookup, y4]
  have F5 := mv_norm F4 rfl rfl rfl (hoth _ _)
  refine wpAny_While (codeAny_whileLoop
     (fun n s' => ∃ h' tk tb tv, s' = { s with heap := h', toks := tk } ∧ Fr g L h' (mv I c (c % 64) tb tv) ∧ News g L h' [(I, itObj l (i + 1))]) ?turn 0 ?init)
  case init =>
    exact ⟨h4, _, _, _, rfl, F5, N4⟩
  case turn =>
    rintro n' s' ⟨h', tk', tb, tv, rfl, F, N⟩
    clear F4 N4 F5
    refine wpAny_passesOwn PassesOwn.leaving ?_
    iterate 6 walk1
    rw [e64, if_pos (by decide)]
    refine wpAny_passesOwn PassesOwn.leaving ?_
    (repeat ((fail_if_success (with_reducible show wpAny _ _ (call (Value.builtin "next") _ _) _ _ _)); walk1))
    rename_i h5 F6 N6
    refine next_end_N (i := i + 1) (by simp [Around.deeper, hh]) F6 N6 hlg hend (fun h7 e oe fs t k7 hnew he hcls hdat hf1 hf0 => ?_)
    have hpass : ∀ b o, b ≠ I → s.heap.get? b = some o → h7.get? b = some o := fun b o hb e' => k7 b o hb (F6.keep b o (hg b o e' (by simpa using hb)))
    have hLI : L ≠ I := fun q => by
      have z := (N6 _ (List.mem_singleton.mpr rfl)).2.1
      exact z q.symm
    have hBL : B.get? L = none := by
      cases q : B.get? L with
      | none => rfl
      | some o => exact absurd (Heap.lt_size (hB _ _ q)) (by rw [hL]; exact Nat.lt_irrefl _)
    obtain ⟨oL, es, ep, hoL, hdL, _⟩ := F6.ns
    have hBe : B.get? e = none := by
      cases q : B.get? e with
      | none => rfl
      | some o =>
        have hne : e ≠ I := fun q' => by rw [q', hBI] at q; cases q
        have := F6.keep e o (hg e o (hB _ _ q) (by simpa using hne))
        rw [show ({ s with heap := h5, toks := tk } : Shared).heap = h5 from rfl] at hnew
        rw [this] at hnew; cases hnew
    have hse : s.heap.get? e = none := by
      cases q : s.heap.get? e with
      | none => rfl
      | some o =>
        by_cases hne : e = I
        · have := (N6 _ (List.mem_singleton.mpr rfl)).1
          rw [← hne] at this
          rw [show ({ s with heap := h5, toks := tk } : Shared).heap = h5 from rfl] at hnew
          rw [this] at hnew; cases hnew
        · have := F6.keep e o (hg e o q (by simpa using hne))
          rw [show ({ s with heap := h5, toks := tk } : Shared).heap = h5 from rfl] at hnew
          rw [this] at hnew; cases hnew
    refine wpAny_leaving_firstW (base := B) (outer := fr) (L := L) (a0 := t) (Around.frames_deeper hfr) ?_ rfl he ?_ hBe hdat hf1 hf0 (fun h8 hLeft => ?_)
    · refine ⟨(fun q => nomatch (show ScopeKind.function = ScopeKind.module from q)), ⟨L, oL, rfl, hBL, k7 _ _ hLI hoL, fun vs q => by rw [hdL] at q; cases q⟩, ?_⟩
      refine hFF.of_keeps fun b o hb hnf => ⟨o, hpass b o (fun q => ?_) hb, rfl⟩
      rw [q, hI] at hb
      cases hb
      exact hnf _ rfl
    · intro b o hb
      have hne : b ≠ I := fun q' => by rw [q', hBI] at hb; cases hb
      exact hpass b o hne (hB _ _ hb)
    · obtain ⟨k1, ⟨_, _, k2⟩, k3, k4⟩ := hLeft
      refine h h8 e t _ ⟨k1, hBe, k2, hcls ▸ k3⟩ (fun b o hb hnf => ?_) hse
      refine k4 b o (hpass b o (fun q => ?_) hb) hnf
      rw [q, hI] at hb
      cases hb
      exact hnf _ rfl
end
end Mine

end

section
open PySem PySem.W PyProof.Rows PySem.Calls
set_option linter.unusedSimpArgs false
set_option linter.unusedVariables false
namespace Mine
section
variable {prog : Program} {w : World} {A : Around} {E : Value → Shared → Prop} {env : Env} {s : Shared}

/-- names in a block of a comprehension -/
theorem nameL {h₀ : Heap} {m : Str → Option Value} {n : Str} {pos : Pos} {v : Value} {Q : Value → Shared → Prop} (F : Fr h₀ env.locals s.heap m) (hv : m n = some v) (h : Q v s)
    (hk : env.scope.kind = .function) (hl : env.kindOf n = some .local) (hd : (n == ("__debug__" : Str)) = false) : wpAny (model prog w) A (eval (.Name n pos) env) Q E s :=
  wpAny_Name (wpAny_loadName_local hk hl F.ns hv h) hd
theorem nameC {h₀ : Heap} {C c : Addr} {n : Str} {pos : Pos} {v : Value} {o : Obj} {news : List (Addr × Obj)} {Q : Value → Shared → Prop} (N : News h₀ C s.heap news) (hm : (c, o) ∈ news) (hd' : o.data = .cell (some v)) (h : Q v s)
    (hk : env.scope.kind = .function) (hl : env.kindOf n = some .cell) (hc : env.cells.lookup n = some c) (hd : (n == ("__debug__" : Str)) = false) : wpAny (model prog w) A (eval (.Name n pos) env) Q E s :=
  wpAny_Name (wpAny_loadName_cell hk hl hc ⟨o, N.get hm, hd'⟩ h) hd
theorem nameB {K : Frag} {h₀ : Heap} {C : Addr} {m mg mb : Str → Option Value} {p : Program} {loose : List Str} {n : Str} {pos : Pos} {v : Value} {Q : Value → Shared → Prop} (F : Fr h₀ C s.heap m) (X : K.In h₀) (T : TopRead p loose mg mb h₀)
    (e : nsIn K mainGlobals n = some none) (hv : bootBuiltins n = some v) (hn : n ≠ "__name__") (h : Q v s)
    (hg : env.globals = mainGlobals) (hb : env.builtins = builtinsNs) (hk : env.scope.kind = .function) (hx : env.kindOf n = some .globalImplicit) (hd : (n == ("__debug__" : Str)) = false) :
    wpAny (model prog w) A (eval (.Name n pos) env) Q E s :=
  Name_function_global hk hx (loadGlobal_builtin (env := env) (by rw [hg]; exact T.g.keeps F.keep) (mg_none_of X T.g e) (by rw [hb]; exact T.b.keeps F.keep) ((T.builtins n hn).trans hv) h) hd

/-- a list comprehension of one clause, in frames and ledgers -/
theorem comp_K (Fv : Value → Value → Prop) {elt iter : Expr} {x : Str} {px : Pos} {scope : Scope} {cl : List (Str × Addr)} {pos : Pos} {Q : Value → Shared → Prop} {h₀ : Heap} {L : Addr} {m : Str → Option Value} (_F : Fr h₀ L s.heap m)
    (hclos : closureFor scope env = pure cl) (hcell : ∀ y ∈ scope.names, y.2 ≠ .cell) (hkind : scope.kind = .function)
    (hnames : ∀ y ∈ scope.names, y.2 = .local → scope.names.lookup y.1 = some .local) (hx : scope.names.lookup x = some .local)
    (h : wpAny (model prog w) A (eval iter env) (fun xv s₁ => wpAny (model prog w) A (pyIter xv) (fun it s₂ => ∃ I fp wr n P St news, it = .ref I ∧ Walks prog w A I fp wr n P St ∧ n ≤ sizeLine ∧ St 0 s₂.heap ∧ (∀ b ∈ fp, b < s₂.heap.objs.size) ∧
      Fr h₀ L s₂.heap m ∧ News h₀ L s₂.heap news ∧ (∀ p ∈ news, p.1 ∉ wr) ∧ L ∉ wr ∧ (∀ b ∈ wr, h₀.get? b = none) ∧
      (∀ C i v s₃ m₃, P i v → Fr h₀ C s₃.heap m₃ → News h₀ C s₃.heap news → m₃ x = some v → wpAny (model prog w) A (eval elt (compEnvC scope cl C env)) (fun y s₄ => Fv v y ∧ Keeps s₃ s₄) (fun _ _ => False) s₃) ∧
      (∀ D h' tk ys (vs : List Value) k, Fr h₀ L h' m → News h₀ L h' ((D, W.listOf ys k) :: news) → (∀ p ∈ news, p.1 ≠ D) → (∀ b o, b ∉ wr → s₂.heap.get? b = some o → h'.get? b = some o) → vs.length = n → (∀ j v, vs[j]? = some v → P j v) → Paired Fv vs ys.toList →
        Q (.ref D) { s₂ with heap := h', toks := tk })) E s₁) E s)
    (hs : ∀ x, foldedSetIterable iter env x = pure x := by intro _; rfl) :
    wpAny (model prog w) A (eval (.ListComp elt [⟨.Name x px, iter, [], 0⟩] scope pos) env) Q E s := by
  refine wpAny_ListComp_free (fun _ => true) Fv hclos hcell hkind hnames hx (wpAny_mono h (fun xv s₁ h₁ => wpAny_mono h₁ (fun it s₂ h₂ => ?_) fun _ _ e => e) fun _ _ e => e) hs
  obtain ⟨I, fp, wr, n, P, St, news, hI, hW, hn, hst, hfp, F, N, hnw, hLw, hwr, hel, hQ⟩ := h₂
  refine ⟨I, fp, wr, n, P, St, hI, hW, hn, hst, hfp, ⟨?_, ?_⟩, ?_⟩
  · intro C i v s₃ m₃ E' _ _ _ _ _ _
    exact wpAny_pure ⟨rfl, s₃.heap, s₃.toks, rfl, fun _ _ e => e⟩
  · intro C i v s₃ m₃ E' hC hP _ hns hm hk _
    have hb : ∀ b o, h₀.get? b = some o → b ∉ wr := fun b o e hb => by rw [hwr b hb] at e; cases e
    refine wpAny_mono (hel C i v s₃ m₃ hP ⟨hns, fun b o e => hk b o (hb b o e) (F.keep b o e), ?_⟩ (fun p hp => ⟨hk _ _ (hnw p hp) (N p hp).1, ?_, (N p hp).2.2⟩) hm) (fun _ _ y => y) fun _ _ y => y.elim
    · exact Nat.le_trans F.above (Nat.le_trans (Nat.le_of_lt F.ns.lt) hC)
    · exact Nat.ne_of_lt (Nat.lt_of_lt_of_le (Heap.lt_size (N p hp).1) hC)
  · intro D h' tk ys vs hD hl hpl hlen hP hF hk
    obtain ⟨k, hpl⟩ := hpl
    have hb : ∀ b o, h₀.get? b = some o → b ∉ wr := fun b o e hb => by rw [hwr b hb] at e; cases e
    have hne : ∀ p ∈ news, p.1 ≠ D := fun p hp e => by have := (N p hp).1; rw [e, hD] at this; cases this
    have hDL : D ≠ L := fun e => by obtain ⟨o, _, _, ho, _⟩ := F.ns; rw [← e, hD] at ho; cases ho
    have hD0 : h₀.get? D = none := by
      cases q : h₀.get? D with
      | none => rfl
      | some o => have := F.keep D o q; rw [hD] at this; cases this
    refine hQ D h' tk ys vs k ⟨F.ns.at' fun o e => hk _ o hLw e, fun b o e => hk b o (hb b o e) (F.keep b o e), F.above⟩ (fun p hp => ?_) hne hk hlen hP (by rwa [filter_tt] at hF)
    rcases List.mem_cons.mp hp with rfl | hp
    · exact ⟨hpl, hDL, hD0⟩
    · exact ⟨hk _ _ (hnw p hp) (N p hp).1, (N p hp).2⟩

/-- what a comprehension's list holds, where each element is an int -/
theorem ints_of_paired {Fv : Value → Value → Prop} {n : Nat} {P : Nat → Value → Prop} {f : Nat → Int} {vs : List Value} {ys : Array Value} (hlen : vs.length = n) (hP : ∀ j v, vs[j]? = some v → P j v) (hF : Paired Fv vs ys.toList)
    (h : ∀ j v y, j < n → P j v → Fv v y → ∃ t, y = .int (f j) t) : IntsAre ys.toList ((List.range n).map f) := by
  have key : ∀ (us zs : List Value), Paired Fv us zs → ∀ k, (∀ j v, us[j]? = some v → P (k + j) v) → k + us.length = n → IntsAre zs ((List.range' k us.length).map f) := by
    intro us zs hp
    induction hp with
    | nil => intro k _ _; exact .nil
    | @cons x y xs ys' hxy _ ih =>
      intro k hk hn
      simp only [List.length_cons] at hn ⊢
      obtain ⟨t, ht⟩ := h k x y (by omega) (by simpa using hk 0 x rfl) hxy
      rw [ht, List.range'_succ, List.map_cons]
      refine .cons _ _ (ih (k + 1) (fun j v hj => ?_) (by omega))
      have := hk (j + 1) v (by simpa using hj)
      rwa [show k + 1 + j = k + (j + 1) by omega]
  have := key vs ys.toList hF 0 (fun j v hj => by simpa using hP j v hj) (by omega)
  rw [hlen] at this
  rwa [List.range_eq_range']
end
end Mine

end

section
open PySem PySem.W PyProof.Rows PySem.Calls
theorem Mine.againLR {prog : Program} {w : World} {A : Around} {E : Value → Shared → Prop} {s : Shared} {env : Env} {Q : Flow → Shared → Prop} (h : Q .next s) : wpAny (model prog w) A (execs [] env) Q E s := by
  first | (walk1; exact h) | exact wpAny_execs_nil h
end

section
open PySem PySem.W PyProof.Rows PySem.Calls
set_option maxRecDepth 100000
set_option maxHeartbeats 4000000
set_option linter.unusedSimpArgs false
set_option linter.unusedVariables false
namespace Mine
theorem regL : (PySem.Challenge.rw_wk0003_01 = PySem.Challenge.rw_wk0003_01) ∧ (Mine.hd.heap_39 = Mine.hd.heap_39) := by k_fill; exact ⟨rfl, rfl⟩

/-- the numbers of a text's codes -/
inductive NL : List Nat → List Nat → Prop where
  | stop {c : Nat} : c / 64 % 2 = 1 → NL [c] []
  | num {k c val : Nat} {rest r' nums : List Nat} : k ≤ 8 → VL k c (c % 64) rest val r' → NL r' nums → NL (c :: rest) (val :: nums)

theorem VL.le {k b v val : Nat} {r r' : List Nat} (h : VL k b v r val r') : r'.length ≤ r.length := by
  induction h with
  | stop _ => exact Nat.le_refl _
  | more _ _ ih => simp only [List.length_cons]; omega
theorem NL.le {l nums : List Nat} (h : NL l nums) : nums.length ≤ l.length := by
  induction h with
  | stop _ => simp
  | num _ hv _ ih => have := hv.le; simp only [List.length_cons]; omega

/-- the tokens of a list's ints lie below the counter -/
def TokLt (ws : List Value) (tk : Nat) : Prop := ∀ n t, Value.int n t ∈ ws → 0 < t ∧ t < tk

theorem bump {g h h' : Heap} {L I : Addr} {m : Str → Option Value} {o o' : Obj} {news news' : List (Addr × Obj)} (F : Fr g L h m) (N : News g L h news) (U : Upd I o o' news news')
    (hk : ∀ b x, b ≠ I → h.get? b = some x → h'.get? b = some x) (ho : h'.get? I = some o') : Fr g L h' m ∧ News g L h' news' := by
  obtain ⟨pre, post, rfl, rfl, a, b⟩ := U.split
  have z := N (I, o) (List.mem_append.mpr (.inr (.head _)))
  refine ⟨⟨F.ns.at' fun x e => hk _ x (Ne.symm z.2.1) e, fun c x e => hk c x (fun q => ?_) (F.keep c x e), F.above⟩, fun p hp => ?_⟩
  · have := z.2.2; rw [← show c = I from q, e] at this; cases this
  · rcases List.mem_append.mp hp with hp | hp
    · have y := N p (List.mem_append.mpr (.inl hp))
      exact ⟨hk _ _ (a p hp) y.1, y.2⟩
    · rcases List.mem_cons.mp hp with rfl | hp
      · exact ⟨ho, z.2⟩
      · have y := N p (List.mem_append.mpr (.inr (.tail _ hp)))
        exact ⟨hk _ _ (b p hp) y.1, y.2⟩

theorem iter_list_N {prog : Program} {w : World} {A : Around} {E : Value → Shared → Prop} {s : Shared} {g : Heap} {L D : Addr} {m : Str → Option Value} {news : List (Addr × Obj)} {its : Array Value} {n : Nat} {Q : Value → Shared → Prop}
    (F : Fr g L s.heap m) (N : News g L s.heap news) (hm : (D, W.listOf its n) ∈ news)
    (h : ∀ I h', Fr g L h' m → News g L h' ((I, itObj D 0) :: news) → (∀ p ∈ news, p.1 < I) → Q (.ref I) { s with heap := h' }) :
    wpAny (model prog w) A (call (.builtin "iter") [.ref D]) Q E s := by
  refine call_function_entry (by decide +kernel) (by decide +kernel) kdk_entry_iter (kdk_args_iter _) ?_
  unfold Builtin.«iter»
  refine wpAny_bind (m := someArgs "iter" 1 2 _) (wpAny_of_eq (a := [Value.ref D]) (by first | rfl | kernel_rfl!) ?_)
  show wpAny _ _ (pyIter (.ref D) >>= _) _ _ _
  refine wpAny_bind (wpAny_pyIter_list ⟨_, (N _ hm).1, rfl, _, rfl⟩ ?_)
  exact wpAny_pure ⟨_, rfl, h _ _ (F.push _) (News.push F N _ rfl) (fun q hq => Heap.lt_size (N q hq).1)⟩

section
local macro_rules | `(tactic| walk_at "eval Name") => `(tactic| (k_here; refine nameL (by assumption) (by assumption) ?_ rfl rfl (by decide)))
local macro_rules | `(tactic| walk_at "eval Name") => `(tactic| (k_here; refine nameB (by assumption) (by assumption) (by assumption) (by k_is) (by boot_by_name) (by decide) ?_ rfl rfl rfl rfl (by decide)))
local macro_rules | `(tactic| walk_at "call builtin:iter") => `(tactic| (k_here; refine iter_list_N (by assumption) (by assumption) (by k_mem) (fun I' h' F' N' l1 => ?_); (try k_lt l1); (try k_sweep)))
local macro_rules | `(tactic| walk_at "execs cons") => `(tactic| refine wpAny_execs_cons ?_)
local macro_rules | `(tactic| walk_at "execs nil") => `(tactic| refine wpAny_execs_nil ?_)
local macro_rules | `(tactic| walk_at "call builtin:list.append") => `(tactic| (k_here; refine append_K (by assumption) (by assumption) (by k_upd) (fun h' F' N' => ?_) (by assumption)))
theorem lr_call {w : World} {A : Around} {E : Value → Shared → Prop} {s : Shared} {G : Heap} {mg mb : Str → Option Value} {text : Array Nat} {t : Tok} {nums : List Nat} {Q : Value → Shared → Prop} {env0 : Env} {L0 : Addr} {oL0 : Obj} {es0 : Array DictEntry} {ep0 : Nat}
   (kg : Stay G s.heap) (X : (Mine.hd.heap_39 w.params).In G) (T : TopRead VW LS mg mb G)
   (hA : A.depth + 1 < recursionLimit) (hh : A.handled = none) (hfr : A.frames = some [env0]) (hf0 : env0.frame = some L0) (hk0 : env0.scope.kind ≠ .module) (hL0 : s.heap.get? L0 = some oL0) (hd0 : oL0.data = .dict es0 ep0) (hG0 : G.get? L0 = none)
   (hts : text.size ≤ 2 ^ 16) (hNL : NL text.toList nums)
   (h : ∀ h' tk p ws kn, (∀ b o, b ≠ L0 → s.heap.get? b = some o → h'.get? b = some o) → (∃ sl, h'.get? L0 = some { oL0 with slots := sl }) → s.heap.get? p = none → h'.get? p = some (W.listOf (List.toArray ws) kn) → IntsAre ws (nums.map fun (c : Nat) => (c : Int)) → TokLt ws tk → Q (.ref p) { s with heap := h', toks := tk }) :
   wpAny (model PW w) A (call (.ref 109) [.str ⟨text⟩ t] []) Q E s := by
  refine wpAny_call (enter [(L0, oL0)] kg X T (fun q hq => by rw [List.mem_singleton.mp hq]; exact ⟨hL0, hG0⟩) (by k_is) (by k_is) (by omega) (BindsTo.of_eq (binds := [("text", .str ⟨text⟩ t)]) rfl) (locs rfl) (fun g h₁ Xg Tg hg hk F N => ?_))
  clear X T
  generalize hL : s.heap.objs.size = L at *
  have hAh : (A.deeper (envOf (Str.ofString "_law_read") default L 109 (.ref 108))).handled = none := hh
  (repeat ((fail_if_success (with_reducible show wpAny _ _ (eval (Expr.ListComp _ _ _ _) _) _ _ _)); walk1))
  refine comp_K (fun v y => ∃ c u u', v = .str ⟨#[c]⟩ u ∧ y = .int (c : Nat) u') (cl := []) (by assumption) (by rfl) (by decide) rfl (by decide) rfl ?_
  walk1
  refine wpAny_pyIter_str (fun o St hW hst => ?_)
  refine ⟨_, _, _, _, _, _, [(L0, oL0)], rfl, hW _ hAh, ?_, hst, ?_, Fr.push ‹_› _, News.pushKeep ‹_› _, ?_, ?_, ?_, ?_, ?_⟩
  · show text.size ≤ sizeLine
    rw [sizeLine_eq]; omega
  · intro b hb; rw [List.mem_singleton.mp hb]; show _ < (Heap.push _ _).objs.size; rw [Heap.size_push]; exact Nat.lt_succ_self _
  · intro p hp hI
    rw [List.mem_singleton.mp hp] at hI
    have z := (N _ (List.mem_singleton.mpr rfl)).1
    exact absurd (Heap.lt_size z) ((List.mem_singleton.mp hI) ▸ Nat.lt_irrefl _)
  · intro hI
    exact absurd F.ns.lt ((List.mem_singleton.mp hI) ▸ Nat.lt_irrefl _)
  · intro b hb
    rw [List.mem_singleton.mp hb]
    exact next_is_new F
  · rintro C i v s₃ m₃ ⟨c, u, hc, rfl⟩ F₃ N₃ hm
    clear N F
    (repeat ((fail_if_success (with_reducible show And _ _)); walk1))
    exact ⟨⟨c, _, _, rfl, rfl⟩, s₃.heap, _, rfl, fun _ _ e => e⟩
  · intro D h' tk ys vs kk F₄ N₄ hne hkp hlen hP hFv
    have hvs : IntsAre ys.toList (text.toList.map fun (c : Nat) => (c : Int)) := by
      have := ints_of_paired (f := fun j => ((text.toList.getD j 0 : Nat) : Int)) hlen hP hFv (fun j v y hj hPj hFy => by
        obtain ⟨c, u, hc, rfl⟩ := hPj
        obtain ⟨c', u1, u2, e1, rfl⟩ := hFy
        cases e1
        have : text[j]? = some c := hc
        refine ⟨u2, ?_⟩
        simp [this])
      have e : (List.range text.size).map (fun j => ((text.toList.getD j 0 : Nat) : Int)) = text.toList.map fun (c : Nat) => (c : Int) := by
        apply List.ext_getElem
        · simp
        · intro j h1 h2
          simp at h1
          simp [h1]
      rw [← e]; exact this
    clear N F hlen hP hFv
    obtain ⟨yl⟩ := ys
    (repeat ((fail_if_success (with_reducible show wpAny _ _ (exec (Stmt.Try _ _ _ _ _) _) _ _ _)); walk1))
    rename_i I₀ h₂ l1 h₃ N₀ h₄ l2 h₅ F₅ N₅
    refine wpAny_Try_except ?_
    walk1
    refine wpAny_While (codeAny_whileLoop
     (fun n s' => ∃ h' tk i' done rn ws kn, s' = { s with heap := h', toks := tk } ∧ NL (text.toList.drop i') rn ∧ done ++ rn = nums ∧ IntsAre ws (done.map fun (c : Nat) => (c : Int)) ∧ TokLt ws tk ∧
        Fr g L h' (fun y => if y = Str.ofString "numbers" then some (Value.ref N₀) else if y = Str.ofString "octets" then some (Value.ref I₀) else List.lookup y [(Str.ofString "text", Value.str { cps := text } t)].reverse) ∧
        News g L h' [(N₀, W.listOf (List.toArray ws) kn), (I₀, itObj D i'), (D, W.listOf (List.toArray yl) kk), (L0, oL0)] ∧ n = rn.length) ?turn nums.length ?init)
    case init =>
      exact ⟨_, _, 0, [], nums, [], 0, rfl, by simpa using hNL, rfl, .nil, (fun n t q => nomatch q), F₅, N₅, rfl⟩
    case turn =>
      rintro n' s' ⟨h', tk', i', done, rn, ws, kn, rfl, hnl, hdone, hws, htl, F, N, rfl⟩
      clear F₅ N₅
      refine wpAny_passesOwn PassesOwn.looking ?_
      iterate 3 walk1
      rw [if_pos rfl]
      refine wpAny_passesOwn PassesOwn.looking ?_
      clear hW hst hkp hne
      (repeat ((fail_if_success (with_reducible show wpAny _ _ (call (Value.ref 55) _ _) _ _ _)); walk1))
      have zI := N (I₀, itObj D i') (by k_mem)
      have zD := N (D, W.listOf (List.toArray yl) kk) (by k_mem)
      have z0 := N (L0, oL0) (by k_mem)
      have zN := N (N₀, W.listOf (List.toArray ws) kn) (by k_mem)
      generalize hcd : text.toList.drop i' = cd at hnl
      cases hnl with
      | num hk8 hv hrest =>
        refine pv_call (G := g) (cs := text.toList) F.keep Xg Tg (by simpa [Around.deeper] using hA) zI.1 zI.2.2 zD.1 hvs hcd hk8 hv (fun h6 tk6 t6 i6 ht1 ht2 k6 g6 d6 => ?_)
        obtain ⟨F6, N6⟩ := bump F N (o' := itObj D i6) (by k_upd) k6 g6
        clear F N zI zD z0 zN
        have hsz : (List.toArray ws).size ≤ sizeLine := by
          have e1 := hws.length
          have e2 := hNL.le
          have e3 := congrArg List.length hdone
          rw [sizeLine_eq]
          simp at e1 e2 e3 ⊢
          omega
        (repeat ((fail_if_success (with_reducible show ∃ _, _)); walk1))
        rename_i k' c' val' rest' r' nums' h7 F7 N7
        refine ⟨nums'.length, by simp, h7, _, i6, done ++ [val'], nums', ws ++ [.int (val' : Nat) t6], kn + 1, rfl, by rw [d6]; exact hrest, by simpa using hdone, ?_, ?_, F7, ?_, rfl⟩
        · rw [List.map_append]
          exact IntsAre.append hws (.cons _ _ .nil)
        · intro n t hm
          rcases List.mem_append.mp hm with hm | hm
          · have := htl n t hm
            refine ⟨this.1, ?_⟩
            exact Nat.lt_trans this.2 (Nat.lt_trans ht1 ht2)
          · cases List.mem_singleton.mp hm
            exact ⟨Nat.lt_of_le_of_lt (Nat.zero_le _) ht1, ht2⟩
        · rw [List.push_toArray] at N7
          exact N7
      | stop hc64 =>
        rename_i c'
        have hn0 : ∀ b o, g.get? b = some o → b ∉ [I₀, L, L0] := fun b o e hm => by
          rcases List.mem_cons.mp hm with rfl | hm
          · rw [zI.2.2] at e; cases e
          · rcases List.mem_cons.mp hm with rfl | hm
            · exact absurd (Heap.lt_size e) (Nat.not_lt.mpr F.above)
            · rw [List.mem_singleton.mp hm, z0.2.2] at e; cases e
        have hdict : ∃ oL es ep, h'.get? L = some oL ∧ oL.data = .dict es ep := let ⟨o, es, ep, e1, e2, _⟩ := F.ns; ⟨o, es, ep, e1, e2⟩
        obtain ⟨oL, esL, epL, hoL, hdL⟩ := hdict
        have hfr' : (A.deeper (envOf (Str.ofString "_law_read") default L 109 (.ref 108))).frames = some [envOf (Str.ofString "_law_read") default L 109 (.ref 108), env0] := by
          simp [Around.deeper, hfr]
        refine wpAny_with_toks (n := tk') (Nat.le_refl _) ?_
        refine pv_stop (G := g) (B := hideAll h' [I₀, L, L0]) (cs := text.toList) F.keep Xg Tg (by simpa [Around.deeper] using hA) (by simpa [Around.deeper] using hh) (Around.frames_deeper hfr) (fun b o e => of_hideAll _ e) ?_ (hideAll_none _ (.head _)) zI.1 zI.2.2 zD.1 hvs hcd hc64 (fun h8 e a0 tk8 hfly hup hnew htk8 => ?_)
        · exact ⟨(fun q => nomatch (show ScopeKind.function = ScopeKind.module from q)), ⟨L, oL, rfl, hideAll_none _ (.tail _ (.head _)), hoL, fun vs q => by rw [hdL] at q; cases q⟩,
            hk0, ⟨L0, oL0, hf0, hideAll_none _ (.tail _ (.tail _ (.head _))), z0.1, fun vs q => by rw [hd0] at q; cases q⟩, trivial⟩
        · refine wpAny_looks_onW (Around.frames_deeper hfr) rfl hfly (fun h9 hheld hup9 => ?_)
          refine wpAny_landsW hheld (fun h10 hfly10 hup10 => ?_)
          have hupA := (hup.trans hup9).trans hup10
          have hstay : ∀ (hx : Heap), (hideAll h' [I₀, L, L0]).StaysIn hx → h'.UpToSlots hx → Fr g L hx (fun y => if y = Str.ofString "numbers" then some (Value.ref N₀) else if y = Str.ofString "octets" then some (Value.ref I₀) else List.lookup y [(Str.ofString "text", Value.str { cps := text } t)].reverse) :=
            fun hx hst hu => ⟨hu.ns F.ns, fun b o e => hst b o (hideAll_get _ (F.keep b o e) (hn0 b o e)), F.above⟩
          refine wpAny_handleBy_builtin (X := "StopIteration") (T := "StopIteration") (b := true) (by rw [isSubtype_type]; kernel_rfl) (by rw [isSubtype_type]; kernel_rfl) (by rw [isSubtype_type]; kernel_rfl) ?_
          have F10 := hstay h10 hfly10.1 hupA
          refine nameB F10 Xg Tg (by k_is) (by boot_by_name) (by decide) ?_ rfl rfl rfl rfl (by decide)
          refine ⟨rfl, ?_, ?_⟩
          · obtain ⟨ob, q1, q2⟩ := hfly10.there
            exact ⟨ob, q1, q2⟩
          · rw [if_pos rfl]
            refine wpAny_setFlight_noneW (base := hideAll h' [I₀, L, L0]) hfly10.1 hfly10.2.2.1 hfly10.2.2.2.at (fun h11 r1 r2 r3 r4 => ?_)
            have hupB : h'.UpToSlots h11 := hupA.trans fun b o e hn => ⟨o.slots, r4 b o e hn⟩
            have F11 := hstay h11 r1 hupB
            clear F10 hstay
            refine wpAny_noRaise ?_
            (repeat ((fail_if_success (with_reducible show ∃ _, _)); walk1))
            have hN0 : N₀ ∉ [I₀, L, L0] := fun hm => by
              rcases List.mem_cons.mp hm with q | hm
              · exact absurd l2.1 (by rw [q]; exact Nat.lt_irrefl _)
              · rcases List.mem_cons.mp hm with q | hm
                · exact zN.2.1 q
                · exact absurd l2.2.2 (by rw [List.mem_singleton.mp hm]; exact Nat.lt_irrefl _)
            refine h h11 _ N₀ ws kn (fun b o hb e => ?_) ?_ ?_ (r1 _ _ (hideAll_get _ zN.1 hN0)) ?_ ?_
            · have hgb := hg b o e (by simpa using hb)
              exact r1 b o (hideAll_get _ (F.keep b o hgb) (hn0 b o hgb))
            · obtain ⟨sl, q⟩ := hupB L0 oL0 z0.1 (fun vs q => by rw [hd0] at q; cases q)
              exact ⟨sl, q⟩
            · cases q : s.heap.get? N₀ with
              | none => rfl
              | some o =>
                have := hg N₀ o q (by
                  intro hm
                  exact hN0 (.tail _ (.tail _ (List.mem_singleton.mpr (by simpa using hm)))))
                rw [zN.2.2] at this; cases this
            · rw [← hdone, List.append_nil]; exact hws
            · intro n t hm
              have := htl n t hm
              exact ⟨this.1, Nat.lt_of_lt_of_le this.2 htk8⟩
end
end Mine

end

section
open PySem PySem.W PyProof.Rows PySem.Calls
set_option linter.unusedSimpArgs false
set_option linter.unusedVariables false
namespace Mine
section
variable {prog : Program} {w : World} {A : Around} {E : Value → Shared → Prop} {env : Env} {s : Shared}

/-- how a turn of a loop over enumerate(list) may end -/
def EnumPost (h₀ : Heap) (L e it : Addr) (eo io : Obj) (s : Shared) (J : (Str → Option Value) → List (Addr × Obj) → Nat → Prop) (Q : Flow → Shared → Prop) (f : Flow) (s₂ : Shared) : Prop :=
  match f with
  | .ret v => Q (.ret v) s₂
  | .brk => Q .next s₂
  | _ => ∃ h' tk' m₂ news₂, s₂ = { s with heap := h', toks := tk' } ∧ Fr h₀ L h' m₂ ∧ News h₀ L h' ((e, eo) :: (it, io) :: news₂) ∧ J m₂ news₂ tk'

theorem codeAny_forEnum {R : Result → Shared → Prop} {xi xv : Str} {pi pv pt : Pos} {x1} {body orelse : List Stmt} {e it l : Addr} {items : Array Value} {m : Str → Option Value} {h₀ : Heap} {news : List (Addr × Obj)}
    (hh : A.handled = none) (hxi : env.kindOf xi = some .local) (hxv : env.kindOf xv = some .local)
    (hp : (env.scope.kind == .class || (env.scope.kind == .module && env.locals != env.globals)) = false)
    (hei : e ≠ it) (hle : l ≠ e) (hli : l ≠ it) (he : IsEnum s.heap e it 0 .none) (hit : s.heap.IsListIter it l 0)
    (F : Fr h₀ env.locals s.heap m) (N : News h₀ env.locals s.heap news) (hn : ∀ p ∈ news, p.1 ≠ e ∧ p.1 ≠ it) (h0e : h₀.get? e = none) (h0i : h₀.get? it = none)
    (J : Nat → (Str → Option Value) → List (Addr × Obj) → Nat → Prop) (h0 : J 0 m news s.toks)
    (hlJ : ∀ i m₁ news₁ tk h, J i m₁ news₁ tk → Fr h₀ env.locals h m₁ → News h₀ env.locals h news₁ → h.IsList l items)
    (hapart : ∀ i m₁ news₁ tk, J i m₁ news₁ tk → ∀ p ∈ news₁, p.1 ≠ e ∧ p.1 ≠ it)
    (step : ∀ i v m₁ news₁ h tk tk' eo io, items[i]? = some v → J i m₁ news₁ tk → tk < tk' → Fr h₀ env.locals h (fun y => if y = xv then some v else if y = xi then some (.int i tk) else m₁ y) → News h₀ env.locals h ((e, eo) :: (it, io) :: news₁) →
      wpAny (model prog w) A (execs body env) (EnumPost h₀ env.locals e it eo io s (J (i + 1)) fun f s' => R (.ok f) s') (notedBy (model prog w) A env fun e s' => R (.error e) s') { s with heap := h, toks := tk' })
    (done : ∀ h' tk' m' news', Fr h₀ env.locals h' m' → News h₀ env.locals h' news' → J items.size m' news' tk' → wpAny (model prog w) A (execs orelse env) (fun f s₃ => R (.ok f) s₃) (notedBy (model prog w) A env fun e s' => R (.error e) s') { s with heap := h', toks := tk' }) :
    codeAny (model prog w) A (.forLoop (.Tuple [.Name xi pi, .Name xv pv] x1 pt) (.ref e) body orelse env) R s := by
  have heL : ∀ {h : Heap} {it' : Addr} {i : Int} {old : Value} {m' : Str → Option Value}, IsEnum h e it' i old → h.Ns env.locals m' → e ≠ env.locals := by
    intro h it' i old m' a b q
    obtain ⟨o, es, ep, ho, hd, _⟩ := b
    rw [← q, show h.get? e = _ from a] at ho; cases ho; cases hd
  have hiL : ∀ {h : Heap} {i : Nat} {m' : Str → Option Value}, h.IsListIter it l i → h.Ns env.locals m' → it ≠ env.locals := by
    intro h i m' a b q
    obtain ⟨o, es, ep, ho, hd, _⟩ := b
    obtain ⟨o', ho', _, hd'⟩ := a
    rw [← q, ho'] at ho; cases ho; rw [hd'] at hd; cases hd
  have base : ∀ b o, h₀.get? b = some o → b ≠ e ∧ b ≠ it := fun b o q => ⟨fun z => by (rw [z, h0e] at q; cases q), fun z => by (rw [z, h0i] at q; cases q)⟩
  refine codeAny_forLoop_any
    (fun k s' => ∃ h' tk m' news' i old, s' = { s with heap := h', toks := tk } ∧ IsEnum h' e it ((i : Nat) : Int) old ∧ h'.IsListIter it l i ∧ Fr h₀ env.locals h' m' ∧ News h₀ env.locals h' news' ∧ J i m' news' tk ∧ i ≤ items.size ∧
      k = items.size + 1 - i) ?_ (items.size + 1)
    ⟨s.heap, s.toks, m, news, 0, .none, rfl, he, hit, F, N, h0, Nat.zero_le _, rfl⟩
  rintro k s' ⟨H, tk, m', news', i, old, rfl, he', hit', F', N', hJ, hi, rfl⟩
  have hl' := hlJ _ _ _ _ _ hJ F' N'
  have hap := hapart _ _ _ _ hJ
  have heL' := heL he' F'.ns
  have hiL' := hiL hit' F'.ns
  cases hv : items[i]? with
  | none =>
    have hsz : i = items.size := Nat.le_antisymm hi (by simpa using hv)
    refine wpAny_pyNext_enum_end hh he' hit' hl' hv fun h₁ he₁ => ?_
    refine done h₁ tk m' news' ⟨F'.ns.extBut he₁ (Ne.symm hiL'), fun b o q => he₁ b o (base b o q).2 (F'.keep b o q), F'.above⟩ (fun p hp => ⟨he₁ _ _ (hap p hp).2 (N' p hp).1, (N' p hp).2⟩) (hsz ▸ hJ)
  | some v =>
    have hlt : i < items.size := (Array.getElem?_eq_some_iff.mp hv).1
    have heH : e < H.objs.size := Heap.lt_size he'
    have hLH : env.locals < H.objs.size := F'.ns.lt
    obtain ⟨oi, hoi, _⟩ := id hit'
    have hiH : it < H.objs.size := Heap.lt_size hoi
    refine wpAny_pyNext_enum_item he' hit' hl' hv hei fun h₁ heo hit₁ ht₁ hz₁ hk₁ => ?_
    refine wpAny_letOwnedTupleGo_enum heo fun h₂ he₂ hs₂ => ?_
    replace hs₂ : Heap.SameBut e h₁ h₂ := hs₂
    have ht₂ : h₂.IsTuple H.objs.size #[.int i tk, v] := ⟨_, (hs₂.2 _ (Nat.ne_of_gt heH)).trans ht₁, rfl, _, rfl⟩
    have hz₂ : h₂.objs.size = H.objs.size + 1 := hs₂.1.trans hz₁
    refine wpAny_assign_Tuple hh ht₂ rfl rfl fun h₃ hx₃ => ?_
    replace hx₃ : Heap.ExtBut h₂.objs.size h₂ h₃ := hx₃
    have old₃ : ∀ b o, b < H.objs.size → h₂.get? b = some o → h₃.get? b = some o := fun b o hb x => hx₃ b o (by rw [hz₂]; exact Nat.ne_of_lt (Nat.lt_succ_of_lt hb)) x
    have to₃ : ∀ b o, b ≠ e → b ≠ it → H.get? b = some o → h₃.get? b = some o := fun b o hbe hbi x => old₃ b o (Heap.lt_size x) ((hs₂.2 b hbe).trans (hk₁ b o hbe hbi x))
    have hn₃ : h₃.Ns env.locals m' := F'.ns.at fun o x => to₃ _ o (Ne.symm heL') (Ne.symm hiL') x
    show wpAny _ A (do holding [v] (assign (.Name xi pi) env (.int i tk)); do holding [] (assign (.Name xv pv) env v); pure ()) _ _ _
    refine wpAny_bind (wpAny_holding (wpAny_assign_Name (wpAny_storeName_local hxi hn₃ (fun h₄ hn₄ hs₄ => ?_) hp)))
    replace hs₄ : Heap.SameBut env.locals h₃ h₄ := hs₄
    refine wpAny_bind (wpAny_holding (wpAny_assign_Name (wpAny_storeName_local hxv hn₄ (fun h₅ hn₅ hs₅ => wpAny_pure ?_) hp)))
    replace hs₅ : Heap.SameBut env.locals h₄ h₅ := hs₅
    have to₅ : ∀ b o, b ≠ env.locals → h₃.get? b = some o → h₅.get? b = some o := fun b o hb x => hs₅.extBut b o hb (hs₄.extBut b o hb x)
    have e₃ : h₃.get? e = some _ := old₃ e _ heH he₂
    have i₃ : h₃.IsListIter it l (i + 1) := (hit₁.extBut hs₂.extBut (Ne.symm hei)).at fun o x => old₃ it o hiH x
    obtain ⟨io, hio, hic, hid⟩ := id i₃
    have F₅ : Fr h₀ env.locals h₅ (fun y => if y = xv then some v else if y = xi then some (.int i tk) else m' y) :=
      ⟨hn₅, fun b o q => to₅ b o (Nat.ne_of_lt (Nat.lt_of_lt_of_le (Heap.lt_size q) F'.above)) (to₃ b o (base b o q).1 (base b o q).2 (F'.keep b o q)), F'.above⟩
    refine wpAny_mono (step i v m' news' h₅ tk _ { cls := .type "enumerate", data := .fields #[.none, .bool false, .ref it, rawInt ((i : Int) + 1), .none, v] } io hv hJ (by show tk < tk + 1 + 1 + 1; omega) F₅ (fun p hp => ?_)) (fun f s₃ h₆ => ?_) fun _ _ x => x
    · rcases List.mem_cons.mp hp with rfl | hp
      · exact ⟨to₅ _ _ heL' e₃, heL', h0e⟩
      · rcases List.mem_cons.mp hp with rfl | hp
        · exact ⟨to₅ _ _ hiL' hio, hiL', h0i⟩
        · exact ⟨to₅ _ _ (N' p hp).2.1 (to₃ _ _ (hap p hp).1 (hap p hp).2 (N' p hp).1), (N' p hp).2⟩
    · have fin : (∃ h' tk' m₂ news₂, s₃ = { s with heap := h', toks := tk' } ∧ Fr h₀ env.locals h' m₂ ∧ News h₀ env.locals h' ((e, { cls := .type "enumerate", data := .fields #[.none, .bool false, .ref it, rawInt ((i : Int) + 1), .none, v] }) :: (it, io) :: news₂) ∧ J (i + 1) m₂ news₂ tk') →
          ∃ m, m < items.size + 1 - i ∧ ∃ h' tk m' news' i old, s₃ = { s with heap := h', toks := tk } ∧ IsEnum h' e it ((i : Nat) : Int) old ∧ h'.IsListIter it l i ∧ Fr h₀ env.locals h' m' ∧ News h₀ env.locals h' news' ∧ J i m' news' tk ∧ i ≤ items.size ∧ m = items.size + 1 - i := by
        rintro ⟨h', tk', m₂, news₂, rfl, F₆, N₆, hJ₆⟩
        refine ⟨items.size + 1 - (i + 1), by omega, h', tk', m₂, news₂, i + 1, v, rfl, ?_, ⟨io, (N₆ _ (.tail _ (.head _))).1, hic, hid⟩, F₆, fun p hp => N₆ p (.tail _ (.tail _ hp)), hJ₆, hlt, rfl⟩
        have : ((i + 1 : Nat) : Int) = (i : Int) + 1 := by push_cast; rfl
        rw [this]; exact (N₆ _ (.head _)).1
      cases f with
      | ret v => exact h₆
      | brk => exact h₆
      | next => exact fin h₆
      | cont => exact fin h₆
end
end Mine

end

section
open PySem PySem.W PyProof.Rows PySem.Calls
theorem Mine.againIX {prog : Program} {w : World} {A : Around} {E : Value → Shared → Prop} {s : Shared} {env : Env} {Q : Flow → Shared → Prop} (h : Q .next s) : wpAny (model prog w) A (execs [] env) Q E s := by
  first | (walk1; exact h) | exact wpAny_execs_nil h
end

section
open PySem PySem.W PyProof.Rows PySem.Calls
set_option maxRecDepth 100000
set_option maxHeartbeats 4000000
set_option linter.unusedSimpArgs false
set_option linter.unusedVariables false
namespace Mine
theorem regI : (PySem.Challenge.rw_wk0003_01 = PySem.Challenge.rw_wk0003_01) ∧ (Mine.hd.heap_39 = Mine.hd.heap_39) := by k_fill; exact ⟨rfl, rfl⟩

theorem ns_none_of {K : Frag} {h : Heap} {a : Addr} {mg : Str → Option Value} {n : Str} (X : K.In h) (G : h.Ns a mg) (e : nsIn K a n = some none) : mg n = none := by
  obtain ⟨o, es, ep, ho, hd, _, hf⟩ := G
  unfold nsIn at e
  split at e
  · rename_i c d es' n' sl q
    have := X _ _ q
    rw [ho] at this
    cases this
    cases hd
    split at e
    · cases e
    · rename_i he
      rw [← hf]
      unfold nsFind findBy
      rw [← Array.find?_toList, he]
      rfl
  · cases e

theorem is_int {M : Model} {A : Around} {E : Value → Shared → Prop} {s : Shared} {p q : Int} {t u : Tok} {mc : Str → Option Value} {Q : Value → Shared → Prop} (ht : t ≠ 0) (hu : u ≠ 0) (hne : p ≠ q → t ≠ u) (hn : s.heap.Ns cStatics mc) (hc : mc sharingNotToldKey = none)
    (h : ∀ b : Bool, (b = true → p = q) → Q (.bool b) s) : wpAny M A (compareOp .Is (.int p t) (.int q u)) Q E s := by
  have ht' : (t == 0) = false := by simp [ht]
  have hu' : (u == 0) = false := by simp [hu]
  have told : ∀ (x : Tok) {Q : Bool → Shared → Prop}, Q false s → wpAny M A (sharingNotTold x) Q E s := fun x Q hq => by
    unfold sharingNotTold
    refine wpAny_bind (wpAny_nsGet hn ?_)
    rw [hc]; exact wpAny_pure hq
  show wpAny M A (isSame (.int p t) (.int q u) >>= fun b => pure (.bool b)) Q E s
  refine wpAny_bind ?_
  unfold isSame
  dsimp only
  by_cases hpq : p = q
  · subst hpq
    by_cases hs : smallInt p = true
    · rw [if_pos (by simp [hs])]
      unfold isSame.cachedInt
      rw [if_neg (by simp [ht', hu'])]
      exact wpAny_bind (wpAny_rule (wpAny_pure (wpAny_pure (h true fun _ => rfl))))
    · rw [if_neg (by simp [hs])]
      unfold isSame.created
      rw [if_neg (by simp [ht', hu'])]
      by_cases htu : (t == u) = true
      · rw [if_pos htu]
        exact wpAny_pure (wpAny_pure (h true fun _ => rfl))
      · rw [if_neg htu, if_neg (by simp)]
        refine wpAny_bind (told t ?_)
        rw [if_neg (by simp)]
        refine wpAny_bind (told u ?_)
        rw [if_neg (by simp)]
        refine wpAny_bind (wpAny_rule ?_)
        refine wpAny_bind (wpAny_askSetting ?_)
        exact wpAny_pure (wpAny_pure (h _ fun _ => rfl))
  · have hb : (p == q) = false := by simp [hpq]
    rw [hb]
    rw [if_neg (by simp)]
    unfold isSame.created
    rw [if_neg (by simp [ht', hu'])]
    rw [if_neg (by simpa using hne hpq), if_pos (by simp)]
    exact wpAny_pure (wpAny_pure (h false fun x => by cases x))

section
local macro_rules | `(tactic| walk_at "eval Name") => `(tactic| (k_here; refine ld (by assumption) (by first | exact rfl | assumption) ?_))
theorem io_call {w : World} {A : Around} {E : Value → Shared → Prop} {s : Shared} {G : Heap} {mg mb : Str → Option Value} {l : Addr} {vs : List Value} {n d : Nat} {ns : List Int} {k : Int} {u : Tok} {Q : Value → Shared → Prop}
   (kg : Stay G s.heap) (X : (Mine.hd.heap_39 w.params).In G) (T : TopRead VW LS mg mb G)
   (hA : A.depth < recursionLimit) (hh : A.handled = none)
   (hl : s.heap.get? l = some (W.listOf vs.toArray n)) (hvs : IntsAre vs ns) (hu : 0 < u) (htl : TokLt vs u) (hd : ns[d]? = some k) (hbef : ∀ j < d, ns[j]? ≠ some k)
   (h : ∀ h' tk t', Stay s.heap h' → Q (.int d t') { s with heap := h', toks := tk }) :
   wpAny (model PW w) A (call (.ref 97) [.ref l, .int k u] []) Q E s := by
  refine wpAny_call (enter [] kg X T (fun _ h => nomatch h) (by k_is) (by k_is) hA (BindsTo.of_eq (binds := [("a", .ref l), ("b", .int k u)]) rfl) (locs rfl) (fun g h₁ Xg Tg hg hk F N => ?_))
  clear X T
  have hlg : g.get? l = some (W.listOf vs.toArray n) := hg l _ hl (by simp)
  have hc : ∃ mc, g.Ns cStatics mc ∧ mc sharingNotToldKey = none := let ⟨mc, h1, _⟩ := Tg.nolimit; ⟨mc, h1, ns_none_of Xg h1 (by k_is)⟩
  obtain ⟨mc, hc1, hc2⟩ := hc
  generalize hL : s.heap.objs.size = L at *
  (repeat ((fail_if_success (with_reducible show wpAny _ _ (exec (Stmt.For _ _ _ _ _) _) _ _ _)); walk1))
  refine wpAny_For ?_
  (repeat ((fail_if_success (with_reducible show wpAny _ _ (call (Value.type "enumerate") _ _) _ _ _)); walk1))
  have hl1 : h₁.get? l = some (W.listOf vs.toArray n) := F.keep _ _ hlg
  refine call_enumerate_list ⟨_, hl1, rfl, _, rfl⟩ (fun h₂ he hit hz hk₂ => ?_)
  refine wpAny_pyIter_enum he ?_
  have hlt : l < h₁.objs.size := Heap.lt_size hl1
  have F₂ := F.keeps hk₂
  have hlen := hvs.length
  refine codeAny_forEnum (h₀ := g) (l := l) (items := vs.toArray) (news := []) (by simpa [Around.deeper] using hh) rfl rfl rfl (Nat.succ_ne_self _) (Nat.ne_of_lt (Nat.lt_succ_of_lt hlt)) (Nat.ne_of_lt hlt) he hit F₂ News.nil (fun p hp => nomatch hp) ?_ ?_
    (fun i m₁ news₁ tk => news₁ = [] ∧ i ≤ d ∧ m₁ (Str.ofString "b") = some (.int k u)) ⟨rfl, Nat.zero_le _, rfl⟩ (fun i m₁ news₁ tk h hJ F N => ⟨_, F.keep _ _ hlg, rfl, _, rfl⟩) (fun i m₁ news₁ tk hJ p hp => by rw [hJ.1] at hp; cases hp) ?step ?done
  · cases q : g.get? (h₁.objs.size + 1) with
    | none => rfl
    | some o => exact absurd (Heap.lt_size (F.keep _ _ q)) (Nat.not_lt.mpr (Nat.le_succ _))
  · cases q : g.get? h₁.objs.size with
    | none => rfl
    | some o => exact absurd (Heap.lt_size (F.keep _ _ q)) (Nat.lt_irrefl _)
  case done =>
    rintro h' tk' m' news' _ _ ⟨_, hi, _⟩
    have := (List.getElem?_eq_some_iff.mp hd).1
    simp at hi hlen
    omega
  case step =>
    rintro i v m₁ news₁ h₃ tk tk' eo io hv ⟨rfl, hi, hb⟩ htk F₃ N₃
    refine wpAny_passesOwn PassesOwn.leaving ?_
    have hil : i < ns.length := Nat.lt_of_le_of_lt hi (List.getElem?_eq_some_iff.mp hd).1
    obtain ⟨t, hvt⟩ := hvs.get i ns[i] (by simp [hil])
    have hv' : vs[i]? = some v := by simpa using hv
    rw [hvt] at hv'
    cases hv'
    have ht := htl _ _ (List.mem_of_getElem? hvt)
    clear F N F₂
    (repeat ((fail_if_success (with_reducible show wpAny _ _ (compareOp CmpOp.Is _ _) _ _ _)); walk1))
    refine is_int (Nat.ne_of_gt ht.1) (Nat.ne_of_gt hu) (fun _ => Nat.ne_of_lt ht.2) (hc1.keeps F₃.keep) hc2 (fun b' hb' => ?_)
    by_cases hk' : ns[i] = k
    · have hid : i = d := by
        refine Nat.le_antisymm hi (Nat.le_of_not_lt fun hlt' => hbef i hlt' ?_)
        simp [hil, hk']
      have fin : ∀ h', (∀ b o, g.get? b = some o → h'.get? b = some o) → ∀ tk2, Q (.int (i : Nat) tk) { s with heap := h', toks := tk2 } := fun h' hk3 tk2 => by
        rw [hid]
        exact h h' tk2 tk fun b o e => hk3 b o (hg b o e (by simp))
      cases b' with
      | true =>
        (repeat ((fail_if_success (with_reducible show EnumPost _ _ _ _ _ _ _ _ _ _ _)); walk1))
        exact fin _ F₃.keep _
      | false =>
        (repeat ((fail_if_success (with_reducible show EnumPost _ _ _ _ _ _ _ _ _ _ _)); walk1))
        · exact fin _ F₃.keep _
        · exact absurd hk' (by assumption)
    · have hb2 : b' = false := by cases b' with | false => rfl | true => exact absurd (hb' rfl) hk'
      subst hb2
      (repeat ((fail_if_success (with_reducible show EnumPost _ _ _ _ _ _ _ _ _ _ _)); walk1))
      · exact absurd (by assumption) hk'
      · (repeat ((fail_if_success (with_reducible show EnumPost _ _ _ _ _ _ _ _ _ _ _)); walk1))
        refine ⟨_, _, _, [], rfl, F₃, N₃, rfl, ?_, hb⟩
        refine Nat.succ_le_of_lt (Nat.lt_of_le_of_ne hi fun q => hk' ?_)
        subst q
        have := (List.getElem?_eq_some_iff.mp hd).2
        exact this
end
end Mine

end

section
open PySem PySem.W PyProof.Rows PySem.Calls
theorem Mine.againF1 {prog : Program} {w : World} {A : Around} {E : Value → Shared → Prop} {s : Shared} {env : Env} {Q : Flow → Shared → Prop} (h : Q .next s) : wpAny (model prog w) A (execs [] env) Q E s := by
  first | (walk1; exact h) | exact wpAny_execs_nil h
end

section
open PySem PySem.W PyProof.Rows PySem.Calls
set_option maxRecDepth 100000
set_option maxHeartbeats 4000000
set_option linter.unusedSimpArgs false
set_option linter.unusedVariables false
namespace Mine
theorem regF : (PySem.Challenge.rw_wk0003_01 = PySem.Challenge.rw_wk0003_01) ∧ (Mine.hd.heap_39 = Mine.hd.heap_39) := by k_fill; exact ⟨rfl, rfl⟩

section
variable {w : World} {A : Around} {E : Value → Shared → Prop} {s : Shared} {G : Heap} {mg mb : Str → Option Value} {Q : Value → Shared → Prop} {a b : Int} {t u : Tok}
theorem ge_call (kg : Stay G s.heap) (X : (Mine.hd.heap_39 w.params).In G) (T : TopRead VW LS mg mb G) (hA : A.depth < recursionLimit)
   (h : ∀ h' tk, Stay s.heap h' → Q (.bool (decide (b ≤ a))) { s with heap := h', toks := tk }) :
   wpAny (model PW w) A (call (.ref 62) [.int a t, .int b u] []) Q E s := by
  refine wpAny_call (enter [] kg X T (fun _ h => nomatch h) (by k_is) (by k_is) hA (BindsTo.of_eq (binds := [("a", .int a t), ("b", .int b u)]) rfl) (locs rfl) (fun g h₁ Xg Tg hg hk F N => ?_))
  clear X T N
  k_steps
  exact h _ _ hk
theorem add_call (kg : Stay G s.heap) (X : (Mine.hd.heap_39 w.params).In G) (T : TopRead VW LS mg mb G) (hA : A.depth < recursionLimit)
   (h : ∀ h' tk t', Stay s.heap h' → Q (.int (a + b) t') { s with heap := h', toks := tk }) :
   wpAny (model PW w) A (call (.ref 69) [.int a t, .int b u] []) Q E s := by
  refine wpAny_call (enter [] kg X T (fun _ h => nomatch h) (by k_is) (by k_is) hA (BindsTo.of_eq (binds := [("a", .int a t), ("b", .int b u)]) rfl) (locs rfl) (fun g h₁ Xg Tg hg hk F N => ?_))
  clear X T N
  k_steps
  exact h _ _ _ hk
theorem sub_call (kg : Stay G s.heap) (X : (Mine.hd.heap_39 w.params).In G) (T : TopRead VW LS mg mb G) (hA : A.depth < recursionLimit)
   (h : ∀ h' tk t', Stay s.heap h' → Q (.int (a - b) t') { s with heap := h', toks := tk }) :
   wpAny (model PW w) A (call (.ref 83) [.int a t, .int b u] []) Q E s := by
  refine wpAny_call (enter [] kg X T (fun _ h => nomatch h) (by k_is) (by k_is) hA (BindsTo.of_eq (binds := [("a", .int a t), ("b", .int b u)]) rfl) (locs rfl) (fun g h₁ Xg Tg hg hk F N => ?_))
  clear X T N
  k_steps
  exact h _ _ _ hk
local macro_rules | `(tactic| walk_at "binaryOp Mult int int") => `(tactic| refine W.mul_int ?_ (by assumption))
theorem mul_call (kg : Stay G s.heap) (X : (Mine.hd.heap_39 w.params).In G) (T : TopRead VW LS mg mb G) (hA : A.depth < recursionLimit) (hm : IntMulOk a b)
   (h : ∀ h' tk t', Stay s.heap h' → Q (.int (a * b) t') { s with heap := h', toks := tk }) :
   wpAny (model PW w) A (call (.ref 76) [.int a t, .int b u] []) Q E s := by
  refine wpAny_call (enter [] kg X T (fun _ h => nomatch h) (by k_is) (by k_is) hA (BindsTo.of_eq (binds := [("a", .int a t), ("b", .int b u)]) rfl) (locs rfl) (fun g h₁ Xg Tg hg hk F N => ?_))
  clear X T N
  k_steps
  exact h _ _ _ hk
theorem getitem_call {l : Addr} {vs : List Value} {n : Nat} {v : Value} (kg : Stay G s.heap) (X : (Mine.hd.heap_39 w.params).In G) (T : TopRead VW LS mg mb G) (hA : A.depth < recursionLimit)
   (hl : s.heap.get? l = some (W.listOf vs.toArray n)) (h0 : 0 ≤ a) (hhi : a < 2 ^ 63) (hv : vs[a.toNat]? = some v)
   (h : ∀ h' tk, Stay s.heap h' → Q v { s with heap := h', toks := tk }) :
   wpAny (model PW w) A (call (.ref 90) [.ref l, .int a t] []) Q E s := by
  refine wpAny_call (enter [] kg X T (fun _ h => nomatch h) (by k_is) (by k_is) hA (BindsTo.of_eq (binds := [("a", .ref l), ("b", .int a t)]) rfl) (locs rfl) (fun g h₁ Xg Tg hg hk F N => ?_))
  clear X T N
  (repeat ((fail_if_success (with_reducible show wpAny _ _ (subscriptTail _ _ _ _) _ _ _)); walk1))
  refine item_litK ⟨_, F.keep _ _ (hg l _ hl (by simp)), rfl, _, rfl⟩ h0 hhi hv ?_
  k_steps
  exact h _ _ hk
theorem setitem_call {l : Addr} {vs : List Value} {n : Nat} {v : Value} (kg : Stay G s.heap) (X : (Mine.hd.heap_39 w.params).In G) (T : TopRead VW LS mg mb G) (hA : A.depth < recursionLimit)
   (hl : s.heap.get? l = some (W.listOf vs.toArray n)) (hG : G.get? l = none) (h0 : 0 ≤ a) (hhi : a < vs.length) (hfit : a < 2 ^ 63)
   (h : ∀ h' tk, (∀ b o, b ≠ l → s.heap.get? b = some o → h'.get? b = some o) → h'.get? l = some (W.listOf (vs.set a.toNat v).toArray n) → Q .none { s with heap := h', toks := tk }) :
   wpAny (model PW w) A (call (.ref 104) [.ref l, .int a t, v] []) Q E s := by
  refine wpAny_call (enter [(l, W.listOf vs.toArray n)] kg X T (fun q hq => by rw [List.mem_singleton.mp hq]; exact ⟨hl, hG⟩) (by k_is) (by k_is) hA (BindsTo.of_eq (binds := [("a", .ref l), ("b", .int a t), ("c", v)]) rfl) (locs rfl) (fun g h₁ Xg Tg hg hk F N => ?_))
  clear X T
  (repeat ((fail_if_success (with_reducible show wpAny _ _ (setItem _ _ _) _ _ _)); walk1))
  have z := N (l, W.listOf vs.toArray n) (.head _)
  refine ki_setAt z.1 h0 hfit (by simpa using hhi) ?_
  have hg' : ∀ b o, b ≠ l → s.heap.get? b = some o → g.get? b = some o := fun b o q e => hg b o e (by simpa using q)
  have e : h₁.update l (Obj.mapSeq (·.setIfInBounds a.toNat v)) = h₁.update l (Obj.mapSeq (·.setIfInBounds a.toNat v)) := rfl
  generalize hh2 : h₁.update l (Obj.mapSeq (·.setIfInBounds a.toNat v)) = h₂
  have k6 : ∀ b x, b ≠ l → h₁.get? b = some x → h₂.get? b = some x := fun b x q e => by
    rw [← hh2, Heap.get?_update_other _ _ (Ne.symm q)]; exact e
  have g6 : h₂.get? l = some (W.listOf (vs.set a.toNat v).toArray n) := by
    rw [← hh2, Heap.get?_update_self _ z.1 rfl]
    simp [Obj.mapSeq, W.listOf]
  obtain ⟨F6, N6⟩ := bump F N (o' := W.listOf (vs.set a.toNat v).toArray n) (by k_upd) k6 g6
  clear F N z
  k_steps
  exact h _ _ (fun b o q e => F6.keep _ _ (hg' b o q e)) (N6 _ (.head _)).1
end
end Mine

end

section
open PySem PySem.W PyProof.Rows PySem.Calls
theorem Mine.againBS {prog : Program} {w : World} {A : Around} {E : Value → Shared → Prop} {s : Shared} {env : Env} {Q : Flow → Shared → Prop} (h : Q .next s) : wpAny (model prog w) A (execs [] env) Q E s := by
  first | (walk1; exact h) | exact wpAny_execs_nil h
end

section
open PySem PySem.W PyProof.Rows PySem.Calls
set_option maxRecDepth 100000
set_option maxHeartbeats 4000000
set_option linter.unusedSimpArgs false
set_option linter.unusedVariables false
namespace Mine
theorem regB : (PySem.Challenge.rw_wk0003_01 = PySem.Challenge.rw_wk0003_01) ∧ (Mine.hd.heap_39 = Mine.hd.heap_39) := by k_fill; exact ⟨rfl, rfl⟩

def cutL (c : Bool) (v : Int) : List Int := if c then [v] else []
theorem rep_cut (c : Bool) (v : Int) : (List.replicate (if c = true then (1 : Int) else 0).toNat [v]).flatten = cutL c v := by
  cases c <;> simp [cutL]
def orL (l : List Int) (d : Int) : List Int := if l.length = 0 then [d] else l
def besU (x q : Int) : List Int := orL (cutL (x.fmod q != 1) (x - 1) ++ cutL (decide (q < x)) (x - q)) 0
def besO (x q : Int) : List Int := orL (cutL (x.fmod q != 0) (x + 1) ++ cutL (decide (x ≤ q)) (x + q)) (2 * q + 1)
theorem or_pos {c c' : Bool} {v v' d : Int} (h : 0 < (List.replicate (if c = true then (1 : Int) else 0).toNat [v]).flatten.length + (List.replicate (if c' = true then (1 : Int) else 0).toNat [v']).flatten.length) :
    (List.replicate (if c = true then (1 : Int) else 0).toNat [v]).flatten ++ (List.replicate (if c' = true then (1 : Int) else 0).toNat [v']).flatten = orL (cutL c v ++ cutL c' v') d := by
  rw [rep_cut, rep_cut] at *
  unfold orL
  rw [if_neg]
  rw [List.length_append]; omega
theorem or_neg {c c' : Bool} {v v' d : Int} (h : ¬ 0 < (List.replicate (if c = true then (1 : Int) else 0).toNat [v]).flatten.length + (List.replicate (if c' = true then (1 : Int) else 0).toNat [v']).flatten.length) :
    [d] = orL (cutL c v ++ cutL c' v') d := by
  rw [rep_cut, rep_cut] at *
  unfold orL
  rw [if_pos]
  rw [List.length_append]; omega

/-- the two lists of neighbours -/
def Beside (h h' : Heap) (D : Addr) (x q : Int) : Prop :=
  Stay h h' ∧ h.get? D = none ∧ ∃ a b wa na wb nb, h'.get? D = some { cls := .type "tuple", data := .seq #[Value.ref a, Value.ref b] } ∧ h.get? a = none ∧ h.get? b = none ∧
    h'.get? a = some (W.listOf (List.toArray wa) na) ∧ h'.get? b = some (W.listOf (List.toArray wb) nb) ∧ IntsAre wa (besU x q) ∧ IntsAre wb (besO x q)

theorem beside_fin {h g h' : Heap} {L D a b : Addr} {m : Str → Option Value} {news : List (Addr × Obj)} {wa wb : List Value} {na nb : Nat} {la lb : List Int} {x q : Int}
    (hg : ∀ c o, h.get? c = some o → g.get? c = some o) (F : Fr g L h' m) (N : News g L h' news) (hD : (D, { cls := .type "tuple", data := .seq #[Value.ref a, Value.ref b] }) ∈ news)
    (ha : (a, W.listOf (List.toArray wa) na) ∈ news) (hb : (b, W.listOf (List.toArray wb) nb) ∈ news) (Ia : IntsAre wa la) (Ib : IntsAre wb lb) (ea : la = besU x q) (eb : lb = besO x q) : Beside h h' D x q := by
  have hn : ∀ c, g.get? c = none → h.get? c = none := fun c e => by
    cases q : h.get? c with
    | none => rfl
    | some o => rw [hg c o q] at e; cases e
  subst ea; subst eb
  exact ⟨fun b o e => F.keep _ _ (hg b o e), hn _ (N _ hD).2.2, a, b, wa, na, wb, nb, (N _ hD).1, hn _ (N _ ha).2.2, hn _ (N _ hb).2.2, (N _ ha).1, (N _ hb).1, Ia, Ib⟩

/-- how the assignment of one list of neighbours ends -/
def BesJ (g : Heap) (L : Addr) (m : Str → Option Value) (x : Str) (ns : List Int) (news : List (Addr × Obj)) (s : Shared) (f : Flow) (s' : Shared) : Prop :=
  f = .next ∧ ∃ h' tk D ws n, s' = { s with heap := h', toks := tk } ∧ Fr g L h' (fun y => if y = x then some (.ref D) else m y) ∧ News g L h' ((D, W.listOf (List.toArray ws) n) :: news) ∧ IntsAre ws ns
theorem besJ_fin {g : Heap} {L D : Addr} {m : Str → Option Value} {x : Str} {ns la : List Int} {news news' : List (Addr × Obj)} {s : Shared} {h' : Heap} {tk : Nat} {ws : List Value} {n : Nat} (F : Fr g L h' (fun y => if y = x then some (.ref D) else m y)) (N : News g L h' news')
    (hD : (D, W.listOf (List.toArray ws) n) ∈ news') (I : IntsAre ws la) (ea : la = ns) (hs : ∀ p ∈ news, p ∈ news') : BesJ g L m x ns news s .next { s with heap := h', toks := tk } :=
  ⟨rfl, h', tk, D, ws, n, rfl, F, fun p hp => by
    rcases List.mem_cons.mp hp with rfl | hp
    · exact N _ hD
    · exact N p (hs p hp), ea ▸ I⟩
section
local macro_rules | `(tactic| walk_at "eval Name") => `(tactic| (k_here; k_dflt (refine nameL (by assumption) (by first | (k_dflt (exact rfl)) | assumption) ?_ rfl rfl (by decide))))
theorem beside_call {w : World} {A : Around} {E : Value → Shared → Prop} {s : Shared} {G : Heap} {mg mb : Str → Option Value} {x q : Int} {t u : Tok} {Q : Value → Shared → Prop}
   (kg : Stay G s.heap) (X : (Mine.hd.heap_39 w.params).In G) (T : TopRead VW LS mg mb G)
   (hA : A.depth < recursionLimit) 
   (h1 : 1 ≤ x) (h2 : x ≤ 6) (h3 : 2 ≤ q) (h4 : q ≤ 3)
   (h : ∀ h' tk D, Beside s.heap h' D x q → Q (.ref D) { s with heap := h', toks := tk }) :
   wpAny (model PW w) A (call (.ref 116) [.int x t, .int q u] []) Q E s := by
  refine wpAny_call (enter [] kg X T (fun _ h => nomatch h) (by k_is) (by k_is) hA (BindsTo.of_eq (binds := [("x", .int x t), ("q", .int q u)]) rfl) (locs rfl) (fun g h₁ Xg Tg hg hk F N => ?_))
  clear X T
  have hg' : ∀ b o, s.heap.get? b = some o → g.get? b = some o := fun b o e => hg b o e (by simp)
  generalize hL : s.heap.objs.size = L at *
  obtain ⟨m1, F1, e1, e2⟩ : ∃ m1, Fr g L h₁ m1 ∧ m1 (Str.ofString "x") = some (.int x t) ∧ m1 (Str.ofString "q") = some (.int q u) := ⟨_, F, rfl, rfl⟩
  clear F
  refine wpAny_execs_cons ?_
  refine wpAny_mono (Q := BesJ g L m1 (Str.ofString "under") (besU x q) [] s) ?p1 (fun f s' hq => ?_) (fun _ _ e => e)
  case p1 =>
    (repeat ((fail_if_success (with_reducible show BesJ _ _ _ _ _ _ _ _ _)); walk1))
    all_goals try (repeat ((fail_if_success (with_reducible show BesJ _ _ _ _ _ _ _ _ _)); walk1))
    all_goals
      refine besJ_fin (by assumption) (by assumption) (by k_mem) (by first | assumption | exact .cons _ _ .nil) ?_ (fun p hp => nomatch hp)
      first | exact or_pos (by assumption) | exact or_neg (by assumption)
  obtain ⟨rfl, h5, tk5, D1, ws1, n1, rfl, F5, N5, I1⟩ := hq
  show wpAny _ _ (execs _ _) _ _ _
  obtain ⟨m2, F6, e3, e4, e5⟩ : ∃ m2, Fr g L h5 m2 ∧ m2 (Str.ofString "x") = some (.int x t) ∧ m2 (Str.ofString "q") = some (.int q u) ∧ m2 (Str.ofString "under") = some (.ref D1) := ⟨_, F5, e1, e2, rfl⟩
  clear F1 F5 e1 e2 N
  refine wpAny_execs_cons ?_
  refine wpAny_mono (Q := BesJ g L m2 (Str.ofString "over") (besO x q) [(D1, W.listOf (List.toArray ws1) n1)] s) ?p2 (fun f s' hq => ?_) (fun _ _ e => e)
  case p2 =>
    (repeat ((fail_if_success (with_reducible show BesJ _ _ _ _ _ _ _ _ _)); walk1))
    all_goals try (repeat ((fail_if_success (with_reducible show BesJ _ _ _ _ _ _ _ _ _)); walk1))
    all_goals
      refine besJ_fin (by assumption) (by assumption) (by k_mem) (by first | assumption | exact .cons _ _ .nil) ?_ (fun p hp => by rw [List.mem_singleton.mp hp]; k_mem)
      first | exact or_pos (by assumption) | exact or_neg (by assumption)
  obtain ⟨rfl, h7, tk7, D2, ws2, n2, rfl, F7, N7, I2⟩ := hq
  show wpAny _ _ (execs _ _) _ _ _
  obtain ⟨m3, F8, e6, e7⟩ : ∃ m3, Fr g L h7 m3 ∧ m3 (Str.ofString "under") = some (.ref D1) ∧ m3 (Str.ofString "over") = some (.ref D2) := ⟨_, F7, e5, rfl⟩
  clear F6 F7 e3 e4 e5 N5
  k_steps
  exact h _ _ _ (beside_fin hg' (by assumption) (by assumption) (by k_mem) (by k_mem) (by k_mem) I1 I2 rfl rfl)
end
end Mine

end

section
open PySem PySem.W PyProof.Rows PySem.Calls
set_option maxRecDepth 100000
set_option maxHeartbeats 1000000
set_option linter.unusedSimpArgs false
set_option linter.unusedVariables false
namespace Mine
section
variable {prog : Program} {w : World} {A : Around} {E : Value → Shared → Prop} {env : Env} {s : Shared}

/-- where a comprehension's block ends: the list, and the outer frame among the ledger's objects -/
def CompFin (h₀ : Heap) (L C : Addr) (oL : Obj) (m : Str → Option Value) (D : Addr) (Q : Value → Shared → Prop) (r : Result) (s' : Shared) : Prop :=
  match r with
  | .ok _ => ∃ m' news, Fr h₀ C s'.heap m' ∧ News h₀ C s'.heap ((L, oL) :: news) ∧ (∀ p ∈ news, p.1 ≠ L) ∧ ∀ h, Fr h₀ L h m → News h₀ L h news → Q (.ref D) { s' with heap := h }
  | .error _ => False

theorem comp_open {elt target iter : Expr} {ifs : List Expr} {rest : List Comprehension} {scope : Scope} {cl : List (Str × Addr)} {pos : Pos} {Q : Value → Shared → Prop} {h₀ : Heap} {L : Addr} {m : Str → Option Value}
    (hclos : closureFor scope env = pure cl) (hcell : ∀ y ∈ scope.names, y.2 ≠ .cell) (hkind : scope.kind = .function)
    (hnames : ∀ y ∈ scope.names, y.2 = .local → scope.names.lookup y.1 = some .local)
    (h : wpAny (model prog w) A (eval iter env) (fun xv s₁ => wpAny (model prog w) A (pyIter xv) (fun it s₂ => ∃ news I, it = .ref I ∧ Fr h₀ L s₂.heap m ∧ News h₀ L s₂.heap news ∧
      (∀ C D oL h', s₂.heap.get? L = some oL → Fr h₀ C h' (fun _ => none) → News h₀ C h' ((D, W.listOf #[] 0) :: (L, oL) :: news) → (∀ p ∈ news, p.1 < D) → L < D → D < C →
        (∀ b o, s₂.heap.get? b = some o → h'.get? b = some o) →
        codeAny (model prog w) A (.compStart (.ListComp elt (⟨target, iter, ifs, 0⟩ :: rest) scope pos) 0 it (.ref D) (compEnvC scope cl C env)) (CompFin h₀ L C oL m D Q) { s₂ with heap := h' })) E s₁) E s)
    (hs : ∀ x, foldedSetIterable iter env x = pure x := by intro _; rfl) :
    wpAny (model prog w) A (eval (.ListComp elt (⟨target, iter, ifs, 0⟩ :: rest) scope pos) env) Q E s := by
  rw [eval_ListComp]
  refine wpAny_comprehension_free (use := none) rfl hs hclos hkind hnames (wpAny_mono h (fun xv s₁ h₁ => wpAny_mono h₁ (fun it s₂ h₂ => ?_) fun _ _ e => e) fun _ _ e => e)
  obtain ⟨news, I, rfl, F, N, hb⟩ := h₂
  refine wpAny_newObj_type (wpAny_newFunctionEnv hcell (by intro y hy; simp at hy) (fun h₁ hns₁ hsb₁ => ?_) hkind)
  dsimp only at hns₁ hsb₁ ⊢
  generalize hH2 : s₂.heap.push { cls := .type "list", dict := none, data := .seq ([] : List Value).toArray } = H2 at hns₁ hsb₁ ⊢
  have hC : H2.objs.size = s₂.heap.objs.size + 1 := by rw [← hH2, Heap.size_push]
  have below : ∀ b, b < s₂.heap.objs.size → b ≠ H2.objs.size ∧ b ≠ s₂.heap.objs.size := fun b hb => ⟨by rw [hC]; exact Nat.ne_of_lt (Nat.lt_succ_of_lt hb), Nat.ne_of_lt hb⟩
  have hDC : s₂.heap.objs.size ≠ H2.objs.size := by rw [hC]; exact Nat.ne_of_lt (Nat.lt_succ_self _)
  have old : ∀ b o, s₂.heap.get? b = some o → h₁.get? b = some o := fun b o e => hsb₁.extBut b o (below b (Heap.lt_size e)).1 (Heap.get?_push_of_some _ (hH2 ▸ Heap.get?_push_of_some _ e))
  have hacc : h₁.get? s₂.heap.objs.size = some (W.listOf #[] 0) := hsb₁.extBut _ _ hDC (Heap.get?_push_of_some _ (hH2 ▸ Heap.get?_push_size _ rfl))
  have fresh : ∀ a, s₂.heap.objs.size ≤ a → h₀.get? a = none := fun a ha => by
    cases e : h₀.get? a with
    | none => rfl
    | some o' => exact absurd (Heap.lt_size (F.keep a o' e)) (Nat.not_lt.mpr ha)
  have hC0 : h₀.get? H2.objs.size = none := fresh _ (by rw [hC]; exact Nat.le_succ _)
  have hD0 : h₀.get? s₂.heap.objs.size = none := fresh _ (Nat.le_refl _)
  have hLlt : L < s₂.heap.objs.size := F.ns.lt
  have hL0 : h₀.get? L = none := by
    cases e : h₀.get? L with
    | none => rfl
    | some o' => exact absurd (Heap.lt_size e) (Nat.not_lt.mpr F.above)
  obtain ⟨oL, esL, epL, hoL, hdL⟩ := id F.ns
  have FC : Fr h₀ H2.objs.size h₁ (fun _ => none) := ⟨hns₁, fun b o e => old b o (F.keep b o e), Nat.le_trans F.above (Nat.le_trans (Nat.le_of_lt hLlt) (by rw [hC]; exact Nat.le_succ _))⟩
  have NC : News h₀ H2.objs.size h₁ ((s₂.heap.objs.size, W.listOf #[] 0) :: (L, oL) :: news) := fun p hp => by
    rcases List.mem_cons.mp hp with rfl | hp
    · exact ⟨hacc, hDC, hD0⟩
    · rcases List.mem_cons.mp hp with rfl | hp
      · exact ⟨old _ _ hoL, (below _ hLlt).1, hL0⟩
      · exact ⟨old _ _ (N p hp).1, (below _ (Heap.lt_size (N p hp).1)).1, (N p hp).2.2⟩
  refine codeAny_mono (hb H2.objs.size s₂.heap.objs.size oL h₁ hoL FC NC (fun p hp => Heap.lt_size (N p hp).1) hLlt (by rw [hC]; exact Nat.lt_succ_self _) old) (fun r s' hr => ?_)
  cases r with
  | error e => exact hr.elim
  | ok f =>
    obtain ⟨m', news', F', N', hne, hq⟩ := hr
    refine ⟨m', F'.ns, fun h'' hs'' => hq h'' ?_ fun p hp => ?_⟩
    · refine ⟨?_, fun b o e => hs''.extBut b o (fun q => by rw [show b = H2.objs.size from q, hC0] at e; cases e) (F'.keep b o e), F.above⟩
      exact ⟨oL, esL, epL, hs''.extBut _ _ (below _ hLlt).1 (N' (L, oL) (.head _)).1, hdL⟩
    · have z := N' p (.tail _ hp)
      exact ⟨hs''.extBut _ _ z.2.1 z.1, hne p hp, z.2.2⟩

theorem compTurn_two0 (elt t₁ i₁ t₂ i₂ : Expr) (scope : Scope) (pos : Pos) (it acc : Value) (env : Env) :
    compTurn (.ListComp elt [⟨t₁, i₁, [], 0⟩, ⟨t₂, i₂, [], 0⟩] scope pos) 0 it acc env = (standAt i₁.pos >>= fun _ => pyNext it >>= fun r => match r with
      | none => pure (.done .next)
      | some v => letOwnedTupleGo t₁ it v >>= fun _ => assign t₁ env v >>= fun _ => eval i₂ env >>= fun x => standAt i₂.pos >>= fun _ => foldedSetIterable i₂ env x >>= fun x => holding [x] (pyIter x) >>= fun y =>
        runOwn (.compStart (.ListComp elt [⟨t₁, i₁, [], 0⟩, ⟨t₂, i₂, [], 0⟩] scope pos) 1 y acc env) env >>= fun _ =>
          again (.compLoop (.ListComp elt [⟨t₁, i₁, [], 0⟩, ⟨t₂, i₂, [], 0⟩] scope pos) 0 it acc env)) := by rfl
theorem compTurn_two1 (elt t₁ i₁ t₂ i₂ : Expr) (scope : Scope) (pos : Pos) (it acc : Value) (env : Env) :
    compTurn (.ListComp elt [⟨t₁, i₁, [], 0⟩, ⟨t₂, i₂, [], 0⟩] scope pos) 1 it acc env = (standAt i₂.pos >>= fun _ => pyNext it >>= fun r => match r with
      | none => pure (.done .next)
      | some v => letOwnedTupleGo t₂ it v >>= fun _ => assign t₂ env v >>= fun _ =>
        (eval elt env >>= fun x => call (.builtin "list.append") [acc, x] >>= fun _ => pure ()) >>= fun _ =>
          again (.compLoop (.ListComp elt [⟨t₁, i₁, [], 0⟩, ⟨t₂, i₂, [], 0⟩] scope pos) 1 it acc env)) := by rfl

theorem codeAny_compStart_two {elt t₁ i₁ t₂ i₂ scope pos it acc env} {R : Result → Shared → Prop} (d : Nat) (hd : d = 0 ∨ d = 1)
    (h0 : codeAny (model prog w) A (.compLoop (.ListComp elt [⟨t₁, i₁, [], 0⟩, ⟨t₂, i₂, [], 0⟩] scope pos) d it acc env) R s)
    (h : wpAny (model prog w) A (pyIter it) (fun it' s' => codeAny (model prog w) A (.compLoop (.ListComp elt [⟨t₁, i₁, [], 0⟩, ⟨t₂, i₂, [], 0⟩] scope pos) d it' acc env) R s')
      (notedBy (model prog w) A env fun x s' => R (.error x) s') s) :
    codeAny (model prog w) A (.compStart (.ListComp elt [⟨t₁, i₁, [], 0⟩, ⟨t₂, i₂, [], 0⟩] scope pos) d it acc env) R s := by
  refine codeAny_of_tree ?_
  show wpAny _ _ ((compStart (.ListComp elt [⟨t₁, i₁, [], 0⟩, ⟨t₂, i₂, [], 0⟩] scope pos) d it acc env).onRaise (fun x => do noteFrame x env; standAt theWindowsPlace)) _ _ s
  refine wpAny_notedAt ?_
  unfold compStart
  rcases hd with rfl | rfl
  all_goals
    show wpAny _ _ (ask >>= _) _ _ s
    refine wpAny_bind (wpAny_askSetting (wpAny_ite ?_))
    split
    · first
        | exact wpAny_bind (wpAny_pure (wpAny_pure (And.intro rfl h0)))
        | exact wpAny_pure (And.intro rfl h0)
    · first
        | exact wpAny_bind (wpAny_rule (wpAny_bind (wpAny_standAt (wpAny_bind (wpAny_mono h (fun it' s' h' => wpAny_pure (And.intro rfl h')) fun _ _ x => x)))))
        | (refine wpAny_bind (wpAny_rule ?_); refine wpAny_bind (wpAny_standAt ?_); exact wpAny_bind (wpAny_mono h (fun it' s' h' => wpAny_pure (And.intro rfl h')) fun _ _ x => x))

theorem compLoop_two1 {elt t₁ i₁ t₂ i₂ : Expr} {scope : Scope} {pos : Pos} {it acc : Value} {env : Env} {R : Result → Shared → Prop} (I : Nat → Shared → Prop)
    (turn : ∀ n s, I n s → wpAny (model prog w) A (pyNext it) (fun r s₁ => match r with
      | none => R (.ok .next) s₁
      | some v => wpAny (model prog w) A (assign t₂ env v) (fun _ s₂ =>
          wpAny (model prog w) A (eval elt env) (fun x s₄ =>
            wpAny (model prog w) A (call (.builtin "list.append") [acc, x]) (fun _ s₅ => ∃ m, m < n ∧ I m s₅) (fun _ _ => False) s₄) (fun _ _ => False) s₂)
          (fun _ _ => False) s₁) (fun _ _ => False) s)
    (n : Nat) (h : I n s) (ht : ∀ v, letOwnedTupleGo t₂ it v = pure () := by intro _; rfl) : codeAny (model prog w) A (.compLoop (.ListComp elt [⟨t₁, i₁, [], 0⟩, ⟨t₂, i₂, [], 0⟩] scope pos) 1 it acc env) R s := by
  refine codeAny_loop rfl I (fun n s hI => ?_) n h
  show wpAny _ A ((compTurn (.ListComp elt [⟨t₁, i₁, [], 0⟩, ⟨t₂, i₂, [], 0⟩] scope pos) 1 it acc env).onRaise (fun x => do noteFrame x env; theTreesLotGoes x)) _ _ s
  refine wpAny_noted (wpAny_noRaise ?_)
  rw [compTurn_two1]
  refine wpAny_bind (wpAny_standAt (wpAny_bind (wpAny_mono (turn n s hI) (fun r s₁ h₁ => ?_) fun _ _ h' => h')))
  cases r with
  | none => exact wpAny_pure h₁
  | some v =>
    refine wpAny_bind (wpAny_of_eq (ht v) ?_)
    refine wpAny_bind (wpAny_mono h₁ (fun _ s₂ h₂ => ?_) fun _ _ h' => h')
    exact wpAny_bind (wpAny_bind (wpAny_mono h₂ (fun x s₄ h₄ => wpAny_bind (wpAny_mono h₄ (fun _ s₅ h₅ => wpAny_pure (wpAny_pure ⟨rfl, h₅⟩)) fun _ _ h' => h')) fun _ _ h' => h'))

theorem compLoop_two0 {elt t₁ i₁ t₂ i₂ : Expr} {scope : Scope} {pos : Pos} {it acc : Value} {env : Env} {R : Result → Shared → Prop} (I : Nat → Shared → Prop)
    (turn : ∀ n s, I n s → wpAny (model prog w) A (pyNext it) (fun r s₁ => match r with
      | none => R (.ok .next) s₁
      | some v => wpAny (model prog w) A (assign t₁ env v) (fun _ s₂ =>
          wpAny (model prog w) A (eval i₂ env) (fun x s₃ => wpAny (model prog w) A (pyIter x) (fun y s₄ =>
            codeAny (model prog w) (A.mark none) (.compStart (.ListComp elt [⟨t₁, i₁, [], 0⟩, ⟨t₂, i₂, [], 0⟩] scope pos) 1 y acc env) (fun r s₅ => match r with | .ok _ => ∃ m, m < n ∧ I m s₅ | .error _ => False) s₄) (fun _ _ => False) s₃) (fun _ _ => False) s₂)
          (fun _ _ => False) s₁) (fun _ _ => False) s)
    (n : Nat) (h : I n s) (ht : ∀ v, letOwnedTupleGo t₁ it v = pure () := by intro _; rfl) (hs : ∀ x, foldedSetIterable i₂ env x = pure x := by intro _; rfl) : codeAny (model prog w) A (.compLoop (.ListComp elt [⟨t₁, i₁, [], 0⟩, ⟨t₂, i₂, [], 0⟩] scope pos) 0 it acc env) R s := by
  refine codeAny_loop rfl I (fun n s hI => ?_) n h
  show wpAny _ A ((compTurn (.ListComp elt [⟨t₁, i₁, [], 0⟩, ⟨t₂, i₂, [], 0⟩] scope pos) 0 it acc env).onRaise (fun x => do noteFrame x env; theTreesLotGoes x)) _ _ s
  refine wpAny_noted (wpAny_noRaise ?_)
  rw [compTurn_two0]
  refine wpAny_bind (wpAny_standAt (wpAny_bind (wpAny_mono (turn n s hI) (fun r s₁ h₁ => ?_) fun _ _ h' => h')))
  cases r with
  | none => exact wpAny_pure h₁
  | some v =>
    refine wpAny_bind (wpAny_of_eq (ht v) ?_)
    refine wpAny_bind (wpAny_mono h₁ (fun _ s₂ h₂ => ?_) fun _ _ h' => h')
    refine wpAny_bind (wpAny_mono h₂ (fun x s₃ h₃ => ?_) fun _ _ h' => h')
    refine wpAny_bind (wpAny_standAt (wpAny_bind (wpAny_of_eq (hs x) ?_)))
    refine wpAny_bind (wpAny_holding (wpAny_mono h₃ (fun y s₄ h₄ => ?_) fun _ _ h' => h'))
    refine wpAny_bind (wpAny_runOwn (codeAny_mono h₄ fun r s₅ h₅ => ?_))
    cases r with
    | ok f => exact wpAny_pure ⟨rfl, h₅⟩
    | error e => exact h₅.elim
end
end Mine

end

section
open PySem PySem.W PyProof.Rows PySem.Calls
set_option maxRecDepth 100000
set_option maxHeartbeats 800000
namespace Mine
/-- entering a def of the top with cells -/
theorem enterC {w : World} {A : Around} {s : Shared} {K : Frag} {G : Heap} {p : Program} {loose : List Str} {mg mb : Str → Option Value} {R : Result → Shared → Prop}
    {name qual : Str} {params : Arguments} {body : List Stmt} {scope : Scope} {dV kV doc pm cdv ct oc : Value} {an od : Option Addr} {osl : Array (Option Value)} {f : Addr} {args : Args} {binds : List (Str × Value)}
    (news : List (Addr × Obj)) (kg : Stay G s.heap) (X : K.In G) (T : TopRead p loose mg mb G)
    (hN : ∀ q ∈ news, s.heap.get? q.1 = some q.2 ∧ G.get? q.1 = none)
    (ho : K.lookup f = some ⟨oc, od, .func (fnOf name qual params body scope dV kV doc pm an cdv ct), osl⟩) (hcd : codeIn K cdv qual = true) (hroom : A.depth < recursionLimit)
    (hbind : BindsTo s (fnOf name qual params body scope dV kV doc pm an cdv ct) args binds) (hkind : (binds.all fun y => scope.names.lookup y.1 == some .local || scope.names.lookup y.1 == some .cell) = true)
    (hnd : ((cellsFrom 0 scope.names []).map (·.1)).Nodup)
    (h : ∀ g h₁ tk cells, K.In g → TopRead p loose mg mb g → (∀ b o, s.heap.get? b = some o → b ∉ news.map (·.1) → g.get? b = some o) → Stay s.heap h₁ →
      Fr g s.heap.objs.size h₁ (bindL (envOfC qual scope s.heap.objs.size f cdv).kindOf binds fun _ => none) → News g s.heap.objs.size h₁ (cells ++ news) →
      CellsAre (bindC (envOfC qual scope s.heap.objs.size f cdv).kindOf binds fun _ => none) (cellsFrom (s.heap.objs.size + 1) scope.names []) cells →
      wpAny (model PW w) (A.deeper (envOfC qual scope s.heap.objs.size f cdv)) (execs body (envOfC qual scope s.heap.objs.size f cdv))
        (fun fl s' => R (.ok (.ret (match fl with | .ret v => v | _ => .none))) s')
        (fun e s' => wpAny (model PW w) (A.deeper (envOfC qual scope s.heap.objs.size f cdv)) (leaving (envOfC qual scope s.heap.objs.size f cdv) e) (fun _ s'' => R (.error e) s'') (fun e' s'' => R (.error e') s'') s')
        { s with heap := h₁, toks := tk })
    (hco : scope.isCoroutine = false := by rfl) (hgen : scope.isGenerator = false := by rfl) (hk : scope.kind = .function := by rfl) : codeAny (model PW w) A (.call (.ref f) args) R s := by
  have st : ∀ b o, G.get? b = some o → (hideAll s.heap (news.map (·.1))).get? b = some o := fun b o e => hideAll_get _ (kg b o e) fun hm => by
    obtain ⟨q, hq, rfl⟩ := List.mem_map.mp hm
    rw [(hN q hq).2] at e; cases e
  refine codeAny_call_function (s := s) hroom ((X.keeps kg) _ _ ho) rfl hco hgen rfl (codeRec_of (X.keeps kg) hcd) (hbind _ _ _ _ ?_)
  refine wpAny_newFunctionEnv_cells hk (kindsX hkind _) fun env' he s' x => ?_
  subst he
  refine ⟨(T.nolimit.keeps kg).keeps x.toInCall.keep, codeAny_func ?_⟩
  obtain ⟨h₁, tk, rfl, _⟩ := x.done
  have hk₁ := x.toInCall.keep
  obtain ⟨cells, NC, Y⟩ := Cl.news (h₀ := s.heap) (Nat.le_refl _) fun n c hm => ⟨x.cell n c (lookup_of_mem_nodup (cellsFrom_names scope.names 0 (s.heap.objs.size + 1) [] [] rfl ▸ hnd) hm), x.above n c hm⟩
  refine h _ h₁ tk cells (X.keeps st) (T.keeps st) (fun b o e n => hideAll_get _ e n) hk₁ ⟨x.toInCall.ns, fun b o e => hk₁ b o (of_hideAll _ e), Nat.le_of_eq (hideAll_size _ _)⟩ (fun p hp => ?_) Y
  rcases List.mem_append.mp hp with hp | hp
  · refine ⟨(NC p hp).1, (NC p hp).2.1, ?_⟩
    cases q : (hideAll s.heap (news.map (·.1))).get? p.1 with
    | none => rfl
    | some o => have := of_hideAll _ q; rw [(NC p hp).2.2] at this; cases this
  · exact ⟨hk₁ _ _ (hN p hp).1, Nat.ne_of_lt (Heap.lt_size (hN p hp).1), hideAll_none _ (List.mem_map_of_mem hp)⟩
end Mine

end

section
open PySem PySem.W PyProof.Rows PySem.Calls
set_option maxRecDepth 100000
set_option maxHeartbeats 800000
set_option linter.unusedSimpArgs false
set_option linter.unusedVariables false
namespace Mine

/-- an iterator that is one object of the heap -/
structure Src (prog : Program) (w : World) (A : Around) (I : Addr) (at_ : Nat → Obj → Prop) (n : Nat) (P : Nat → Value → Prop) (need : Heap → Prop) : Prop where
  item : ∀ i o (s : Shared) (Q : Option Value → Shared → Prop) (E : Value → Shared → Prop), i < n → s.heap.get? I = some o → at_ i o → need s.heap →
    (∀ v h' tk o', P i v → h'.get? I = some o' → at_ (i + 1) o' → (∀ b x, b ≠ I → s.heap.get? b = some x → h'.get? b = some x) → Q (some v) { s with heap := h', toks := tk }) → wpAny (model prog w) A (pyNext (.ref I)) Q E s
  done : ∀ o (s : Shared) (Q : Option Value → Shared → Prop) (E : Value → Shared → Prop), s.heap.get? I = some o → at_ n o → need s.heap →
    (∀ h' tk, (∀ b x, b ≠ I → s.heap.get? b = some x → h'.get? b = some x) → Q none { s with heap := h', toks := tk }) → wpAny (model prog w) A (pyNext (.ref I)) Q E s
  self : ∀ i o (s : Shared) (Q : Value → Shared → Prop) (E : Value → Shared → Prop), s.heap.get? I = some o → at_ i o → Q (.ref I) s → wpAny (model prog w) A (pyIter (.ref I)) Q E s

def rangeAt (a c : Int) (n : Nat) (i : Nat) (o : Obj) : Prop := o = { cls := .type "range_iterator", data := .fields #[rawInt (a + i * c), rawInt ((n : Int) - i), rawInt c] }
def listAt (l : Addr) (i : Nat) (o : Obj) : Prop := o.cls = .type "list_iterator" ∧ o.data = .fields #[.ref l, .int i 0]

theorem Src.range {prog : Program} {w : World} {A : Around} (hh : A.handled = none) (I : Addr) (a c : Int) (n : Nat) :
    Src prog w A I (rangeAt a c n) n (fun i v => ∃ t, v = .int (a + i * c) t) (fun _ => True) where
  item := fun i o s Q E hi ho ha _ hQ => by
    subst ha
    refine (Walks.range hh I a c n).item i s Q E hi ho fun v h' tk hP hst hk => ?_
    exact hQ v h' tk _ hP hst rfl fun b x hb e => hk b x (by simpa using hb) e
  done := fun o s Q E ho ha _ hQ => by
    subst ha
    exact (Walks.range hh I a c n).done s Q E ho fun h' tk hk => hQ h' tk fun b x hb e => hk b x (by simpa using hb) e
  self := fun i o s Q E ho ha hQ => by
    subst ha
    exact (Walks.range hh I a c n).self i s Q E ho hQ

theorem Src.list {prog : Program} {w : World} {A : Around} (hh : A.handled = none) (I l : Addr) (hne : l ≠ I) (items : Array Value) :
    Src prog w A I (listAt l) items.size (fun i v => items[i]? = some v) (fun h => h.IsList l items) where
  item := fun i o s Q E hi ho ha hl hQ => by
    refine (Walks.list hh I l hne items).item i s Q E hi ⟨⟨o, ho, ha.1, ha.2⟩, hl⟩ fun v h' tk hP hst hk => ?_
    obtain ⟨⟨o', e1, e2, e3⟩, _⟩ := hst
    exact hQ v h' tk o' hP e1 ⟨e2, e3⟩ fun b x hb e => hk b x (by simpa using hb) e
  done := fun o s Q E ho ha hl hQ => by
    exact (Walks.list hh I l hne items).done s Q E ⟨⟨o, ho, ha.1, ha.2⟩, hl⟩ fun h' tk hk => hQ h' tk fun b x hb e => hk b x (by simpa using hb) e
  self := fun i o s Q E ho ha hQ => wpAny_pyIter_listiter ⟨o, ho, ha.1, ha.2⟩ hQ

/-- the iterator moved: the frame and the ledger stay -/
theorem moved {g h h' : Heap} {L I : Addr} {m : Str → Option Value} {news : List (Addr × Obj)} (F : Fr g L h m) (N : News g L h news) (hI : I ≠ L) (hI0 : g.get? I = none) (hn : ∀ p ∈ news, p.1 ≠ I)
    (hk : ∀ b x, b ≠ I → h.get? b = some x → h'.get? b = some x) : Fr g L h' m ∧ News g L h' news :=
  ⟨⟨F.ns.at' fun x e => hk _ x (Ne.symm hI) e, fun c x e => hk c x (fun q => by rw [q, hI0] at e; cases e) (F.keep c x e), F.above⟩, fun p hp => ⟨hk _ _ (hn p hp) (N p hp).1, (N p hp).2⟩⟩
theorem addNew {g h : Heap} {L I : Addr} {o : Obj} {m : Str → Option Value} {news : List (Addr × Obj)} (N : News g L h news) (e : h.get? I = some o) (hI : I ≠ L) (hI0 : g.get? I = none) : News g L h ((I, o) :: news) := fun p hp => by
  rcases List.mem_cons.mp hp with rfl | hp
  · exact ⟨e, hI, hI0⟩
  · exact N p hp

/-- how a turn of a for loop may end -/
def ForPost (h₀ : Heap) (L I : Addr) (o : Obj) (s : Shared) (J : (Str → Option Value) → List (Addr × Obj) → Nat → Prop) (Q : Flow → Shared → Prop) (f : Flow) (s₂ : Shared) : Prop :=
  match f with
  | .ret v => Q (.ret v) s₂
  | .brk => Q .next s₂
  | _ => ∃ h' tk' m₂ news₂, s₂ = { s with heap := h', toks := tk' } ∧ Fr h₀ L h' m₂ ∧ News h₀ L h' ((I, o) :: news₂) ∧ (∀ p ∈ news₂, p.1 ≠ I) ∧ J m₂ news₂ tk'

section
variable {prog : Program} {w : World} {A : Around} {E : Value → Shared → Prop} {env : Env} {s : Shared}
theorem codeAny_forSrc {R : Result → Shared → Prop} {x : Str} {px : Pos} {body orelse : List Stmt} {I : Addr} {at_ : Nat → Obj → Prop} {n : Nat} {P : Nat → Value → Prop} {need : Heap → Prop} {o0 : Obj} {m : Str → Option Value} {h₀ : Heap} {news : List (Addr × Obj)}
    (W : Src prog w A I at_ n P need) (hx : env.kindOf x = some .local)
    (hp : (env.scope.kind == .class || (env.scope.kind == .module && env.locals != env.globals)) = false)
    (ho : s.heap.get? I = some o0) (ha : at_ 0 o0) (hIL : I ≠ env.locals) (hI0 : h₀.get? I = none)
    (F : Fr h₀ env.locals s.heap m) (N : News h₀ env.locals s.heap news) (hn : ∀ p ∈ news, p.1 ≠ I)
    (J : Nat → (Str → Option Value) → List (Addr × Obj) → Nat → Prop) (h0 : J 0 m news s.toks)
    (hneed : ∀ i m₁ news₁ tk h, J i m₁ news₁ tk → Fr h₀ env.locals h m₁ → News h₀ env.locals h news₁ → need h)
    (step : ∀ i v m₁ news₁ h tk tk' o, i < n → P i v → J i m₁ news₁ tk → tk ≤ tk' → Fr h₀ env.locals h (fun y => if y = x then some v else m₁ y) → News h₀ env.locals h ((I, o) :: news₁) → (∀ p ∈ news₁, p.1 ≠ I) →
      wpAny (model prog w) A (execs body env) (ForPost h₀ env.locals I o s (J (i + 1)) fun f s' => R (.ok f) s') (notedBy (model prog w) A env fun e s' => R (.error e) s') { s with heap := h, toks := tk' })
    (done : ∀ h' tk tk' m' news', Fr h₀ env.locals h' m' → News h₀ env.locals h' news' → J n m' news' tk → tk ≤ tk' → wpAny (model prog w) A (execs orelse env) (fun f s₃ => R (.ok f) s₃) (notedBy (model prog w) A env fun e s' => R (.error e) s') { s with heap := h', toks := tk' }) :
    codeAny (model prog w) A (.forLoop (.Name x px) (.ref I) body orelse env) R s := by
  refine codeAny_forLoop
    (fun k s' => ∃ h' tk m' news' i o, s' = { s with heap := h', toks := tk } ∧ h'.get? I = some o ∧ at_ i o ∧ Fr h₀ env.locals h' m' ∧ News h₀ env.locals h' news' ∧ (∀ p ∈ news', p.1 ≠ I) ∧ J i m' news' tk ∧ i ≤ n ∧ k = n + 1 - i) ?_ (n + 1)
    ⟨s.heap, s.toks, m, news, 0, o0, rfl, ho, ha, F, N, hn, h0, Nat.zero_le _, rfl⟩
  rintro k s' ⟨h', tk, m', news', i, o, rfl, ho', ha', F', N', hn', hJ, hi, rfl⟩
  have hnd := hneed _ _ _ _ _ hJ F' N'
  refine wpAny_with_toks (n := tk) (Nat.le_refl _) ?_
  by_cases hlt : i < n
  · refine wpAny_mono (W.item i o _ (fun r s₁ => tk ≤ s₁.toks → match r with
      | none => wpAny (model prog w) A (execs orelse env) (fun f s₃ => R (.ok f) s₃) (notedBy (model prog w) A env fun e s' => R (.error e) s') s₁
      | some v => wpAny (model prog w) A (assign (.Name x px) env v) (fun _ s₂ => wpAny (model prog w) A (execs body env) (fun f s₃ => match f with
          | .next | .cont => ∃ k', k' < n + 1 - i ∧ ∃ h' tk m' news' i o, s₃ = { s with heap := h', toks := tk } ∧ h'.get? I = some o ∧ at_ i o ∧ Fr h₀ env.locals h' m' ∧ News h₀ env.locals h' news' ∧ (∀ p ∈ news', p.1 ≠ I) ∧ J i m' news' tk ∧ i ≤ n ∧ k' = n + 1 - i
          | .brk => R (.ok .next) s₃
          | .ret v => R (.ok (.ret v)) s₃) (notedBy (model prog w) A env fun e s' => R (.error e) s') s₂) (notedBy (model prog w) A env fun e s' => R (.error e) s') s₁) (fun _ _ => False) hlt ho' ha' hnd ?_) (fun _ _ q => q) (fun _ _ q => q.elim)
    intro v h₁ tk₁ o₁ hP ho₁ ha₁ hk₁ htk
    obtain ⟨F₁, N₁⟩ := moved F' N' hIL hI0 hn' hk₁
    refine wpAny_assign_Name (wpAny_storeName_local hx F₁.ns (fun h₂ hn₂ hs₂ => ?_) hp)
    have F₂ := F₁.set hn₂ hs₂
    have N₂ : News h₀ env.locals h₂ ((I, o₁) :: news') := (addNew (m := m') N₁ ho₁ hIL hI0).set hs₂
    refine wpAny_mono (step i v m' news' h₂ tk (tk₁ + 1) o₁ hlt hP hJ (Nat.le_succ_of_le htk) F₂ N₂ hn') (fun f s₃ h₃ => ?_) fun _ _ e => e
    have fin : (∃ h' tk' m₂ news₂, s₃ = { s with heap := h', toks := tk' } ∧ Fr h₀ env.locals h' m₂ ∧ News h₀ env.locals h' ((I, o₁) :: news₂) ∧ (∀ p ∈ news₂, p.1 ≠ I) ∧ J (i + 1) m₂ news₂ tk') →
        ∃ k', k' < n + 1 - i ∧ ∃ h' tk m' news' i o, s₃ = { s with heap := h', toks := tk } ∧ h'.get? I = some o ∧ at_ i o ∧ Fr h₀ env.locals h' m' ∧ News h₀ env.locals h' news' ∧ (∀ p ∈ news', p.1 ≠ I) ∧ J i m' news' tk ∧ i ≤ n ∧ k' = n + 1 - i := by
      rintro ⟨h', tk', m₂, news₂, rfl, F₆, N₆, hn₆, hJ₆⟩
      exact ⟨n + 1 - (i + 1), by omega, h', tk', m₂, news₂, i + 1, o₁, rfl, (N₆ _ (.head _)).1, ha₁, F₆, fun p hp => N₆ p (.tail _ hp), hn₆, hJ₆, hlt, rfl⟩
    cases f with
    | ret v => exact h₃
    | brk => exact h₃
    | next => exact fin h₃
    | cont => exact fin h₃
  · have hin : i = n := by omega
    subst hin
    refine wpAny_mono (W.done o _ (fun r s₁ => tk ≤ s₁.toks → match r with
      | none => wpAny (model prog w) A (execs orelse env) (fun f s₃ => R (.ok f) s₃) (notedBy (model prog w) A env fun e s' => R (.error e) s') s₁
      | some v => _) (fun _ _ => False) ho' ha' hnd ?_) (fun _ _ q => q) (fun _ _ q => q.elim)
    intro h₁ tk₁ hk₁ htk
    obtain ⟨F₁, N₁⟩ := moved F' N' hIL hI0 hn' hk₁
    exact done h₁ tk tk₁ m' news' F₁ N₁ hJ htk
end
end Mine

end

section
open PySem PySem.W PyProof.Rows PySem.Calls
set_option maxRecDepth 100000
set_option maxHeartbeats 800000
set_option linter.unusedSimpArgs false
set_option linter.unusedVariables false
namespace Mine
section
variable {prog : Program} {w : World} {A : Around} {E : Value → Shared → Prop} {env : Env} {s : Shared} {h₀ : Heap} {L : Addr} {news : List (Addr × Obj)}
theorem sub_at {value slice : PySem.Expr} {l : Addr} {vs : List Value} {n : Nat} {k : Int} {u : Tok} {v : Value} {Q : Value → Shared → Prop} (N : News h₀ L s.heap news) (hm : (l, W.listOf (List.toArray vs) n) ∈ news) (h0 : 0 ≤ k) (hhi : k < 2 ^ 63) (hx : vs[k.toNat]? = some v) (h : Q v s)
    (hs : subscripted slice false (.ref l) (.int k u) = operate [.ref l, .int k u] (getItem (.ref l) (.int k u)) := by with_unfolding_all rfl) :
    wpAny (model prog w) A (subscriptTail value slice (.ref l) (.int k u)) Q E s := item_litK (PySem.IsL.isList (n := n) (N _ hm).1) h0 hhi hx h hs
theorem sub_last {value slice : PySem.Expr} {l : Addr} {vs : List Value} {n : Nat} {u : Tok} {v : Value} {Q : Value → Shared → Prop} (N : News h₀ L s.heap news) (hm : (l, W.listOf (List.toArray vs) n) ∈ news) (hx : vs.getLast? = some v) (h : Q v s)
    (hs : subscripted slice false (.ref l) (.int (-1) u) = operate [.ref l, .int (-1) u] (getItem (.ref l) (.int (-1) u)) := by with_unfolding_all rfl) :
    wpAny (model prog w) A (subscriptTail value slice (.ref l) (.int (-1) u)) Q E s := by
  have hl : s.heap.IsList l (List.toArray vs) := PySem.IsL.isList (n := n) (N _ hm).1
  refine tail_any hl.typeIs slot_list_getitem.lookup (wpAny_getItem_list_neg hl (by decide) ?_ (by decide) ?_ h) hs
  · cases vs with
    | nil => cases hx
    | cons a r => simp; omega
  · rw [List.getLast?_eq_getElem?] at hx
    simp only [List.size_toArray, List.getElem?_toArray]
    rw [← hx]
    congr 1
    omega
theorem asg2 {a b : Str} {pa pb tp : Pos} {kk : Nat} {T : Addr} {x y : Value} {m : Str → Option Value} {Q : Unit → Shared → Prop} (F : Fr h₀ env.locals s.heap m) (N : News h₀ env.locals s.heap news)
    (hm : (T, { cls := .type "tuple", data := .seq #[x, y] }) ∈ news) (hh : A.handled = none)
    (ha : env.kindOf a = some .local) (hb : env.kindOf b = some .local) (hp : (env.scope.kind == .class || (env.scope.kind == .module && env.locals != env.globals)) = false)
    (h : ∀ (h' : Heap) (tk : Nat), Fr h₀ env.locals h' (fun z => if z = b then some y else if z = a then some x else m z) → News h₀ env.locals h' news → Q () { s with heap := h', toks := tk }) :
    wpAny (model prog w) A (assign (.Tuple [.Name a pa, .Name b pb] kk tp) env (.ref T)) Q E s :=
  kcp_assign hh ⟨_, (N _ hm).1, rfl, _, rfl⟩ ha hb hp F.ns fun h' tk hn hk => h h' tk
    ⟨hn, fun c o e => hk c o (Nat.ne_of_lt (Nat.lt_of_lt_of_le (Heap.lt_size e) F.above)) (F.keep c o e), F.above⟩
    fun p hp => ⟨hk _ _ (N p hp).2.1 (N p hp).1, (N p hp).2⟩
/-- objects of a callee's answer, onto the ledger -/
theorem onto {h h' : Heap} {D : Addr} {o : Obj} {m : Str → Option Value} (F : Fr h₀ L h m) (N : News h₀ L h' news) (e : h.get? D = none) (e' : h'.get? D = some o) : News h₀ L h' ((D, o) :: news) := by
  refine addNew (m := m) N e' ?_ ?_
  · intro q
    obtain ⟨oL, _, _, hL, _⟩ := F.ns
    rw [← q, e] at hL; cases hL
  · cases q : h₀.get? D with
    | none => rfl
    | some x => rw [F.keep _ _ q] at e; cases e
theorem apart_of {h : Heap} {a b : Addr} {o : Obj} (e : h.get? a = none) (e' : h.get? b = some o) : @Ne Nat a b := fun q => by
  have q' : a = b := q
  rw [q', e'] at e; cases e
theorem beside_onto {h h' : Heap} {D : Addr} {m : Str → Option Value} {x q : Int} (F : Fr h₀ L h m) (N : News h₀ L h news) (B : Beside h h' D x q) :
    ∃ a b wa na wb nb, Fr h₀ L h' m ∧ News h₀ L h' ((D, { cls := .type "tuple", data := .seq #[Value.ref a, Value.ref b] }) :: (a, W.listOf (List.toArray wa) na) :: (b, W.listOf (List.toArray wb) nb) :: news) ∧ IntsAre wa (besU x q) ∧ IntsAre wb (besO x q) ∧ h.get? b = none := by
  obtain ⟨st, hD, a, b, wa, na, wb, nb, eD, ha, hb, ea, eb, Ia, Ib⟩ := B
  exact ⟨a, b, wa, na, wb, nb, F.keeps st, onto F (onto F (onto F (N.grown st) hb eb) ha ea) hD eD, Ia, Ib, hb⟩
end
theorem ints_ends {vs : List Value} {ns : List Int} (h : IntsAre vs ns) (hn : ns ≠ []) : ∃ t u, vs[0]? = some (.int (ns.headD 0) t) ∧ vs.getLast? = some (.int (ns.getLastD 0) u) := by
  cases h with
  | nil => exact absurd rfl hn
  | @cons a t vs' ns' h =>
    clear hn
    have : ∀ (vs : List Value) (ns : List Int), IntsAre vs ns → ∀ a t, ∃ u, (Value.int a t :: vs).getLast? = some (.int ((a :: ns).getLastD 0) u) := by
      intro vs ns h
      induction h with
      | nil => intro a t; exact ⟨t, rfl⟩
      | @cons b u vs ns h ih =>
        intro a t
        obtain ⟨u', e⟩ := ih b u
        exact ⟨u', by rw [List.getLast?_cons_cons, e]; rfl⟩
    obtain ⟨u, e⟩ := this _ _ h a t
    exact ⟨t, u, rfl, e⟩
theorem bes_bounds {x q : Int} (h1 : 1 ≤ x) (h2 : x ≤ 2 * q) (h3 : 2 ≤ q) (h4 : q ≤ 3) :
    besU x q ≠ [] ∧ besO x q ≠ [] ∧ (∀ y ∈ besU x q, 0 ≤ y ∧ y < x) ∧ (∀ y ∈ besO x q, x < y ∧ y ≤ 2 * q + 1) := by
  rcases (show q = 2 ∨ q = 3 by omega) with rfl | rfl
  · rcases (show x = 1 ∨ x = 2 ∨ x = 3 ∨ x = 4 by omega) with rfl | rfl | rfl | rfl <;> decide
  · rcases (show x = 1 ∨ x = 2 ∨ x = 3 ∨ x = 4 ∨ x = 5 ∨ x = 6 by omega) with rfl | rfl | rfl | rfl | rfl | rfl <;> decide
end Mine

end

section
open PySem PySem.W PyProof.Rows PySem.Calls
set_option maxRecDepth 100000
set_option maxHeartbeats 800000
set_option linter.unusedSimpArgs false
set_option linter.unusedVariables false
namespace Mine
section
variable {prog : Program} {w : World} {A : Around} {E : Value → Shared → Prop} {env : Env} {s : Shared} {g : Heap}

/-- the ledger, where one object of it moved -/
theorem news_off {g h h' : Heap} {L I : Addr} {news : List (Addr × Obj)} (N : News g L h news) (hn : ∀ p ∈ news, p.1 ≠ I) (hk : ∀ b x, b ≠ I → h.get? b = some x → h'.get? b = some x) : News g L h' news :=
  fun p hp => ⟨hk _ _ (hn p hp) (N p hp).1, (N p hp).2⟩
theorem fr_off {g h h' : Heap} {L I : Addr} {m : Str → Option Value} (F : Fr g L h m) (hI : I ≠ L) (hI0 : g.get? I = none) (hk : ∀ b x, b ≠ I → h.get? b = some x → h'.get? b = some x) : Fr g L h' m :=
  ⟨F.ns.at' fun x e => hk _ x (Ne.symm hI) e, fun c x e => hk c x (fun q => by rw [q, hI0] at e; cases e) (F.keep c x e), F.above⟩

/-- a comprehension of two clauses whose every element is True -/
theorem two_true {elt i₁ i₂ : Expr} {x1 x2 : Str} {p1 p2 : Pos} {scope : Scope} {pos : Pos} {R : Result → Shared → Prop} {I D : Addr} {at_ : Nat → Obj → Prop} {n : Nat} {P : Nat → Value → Prop} {Good : Nat → List Value → Prop} {base : List (Addr × Obj)} {oI : Obj} {m₀ : Str → Option Value}
    (hh : A.handled = none) (WS : Src prog w A I at_ n P (fun _ => True)) (hx1 : env.kindOf x1 = some .local) (hx2 : env.kindOf x2 = some .local) (hp : (env.scope.kind == .class || (env.scope.kind == .module && env.locals != env.globals)) = false)
    (hne : ¬ x1 = x2) (hs : ∀ x, foldedSetIterable i₂ env x = pure x) (hsz : 2 * n ≤ sizeLine)
    (hIL : I ≠ env.locals) (hDL : D ≠ env.locals) (hID : I ≠ D) (hI0 : g.get? I = none) (hD0 : g.get? D = none) (hb : ∀ p ∈ base, p.1 ≠ I ∧ p.1 ≠ D)
    (F : Fr g env.locals s.heap m₀) (N : News g env.locals s.heap base) (hI : s.heap.get? I = some oI) (ha : at_ 0 oI) (hD : s.heap.get? D = some (W.listOf #[] 0))
    (hi2 : ∀ i v m h tk, i < n → P i v → Fr g env.locals h m → m x1 = some v → News g env.locals h base →
      wpAny (model prog w) A (eval i₂ env) (fun r s' => ∃ p wb kb h' tk', r = .ref p ∧ s' = { s with heap := h', toks := tk' } ∧ (∀ b o, h.get? b = some o → h'.get? b = some o) ∧ h.get? p = none ∧ h'.get? p = some (W.listOf (List.toArray wb) kb) ∧ Good i wb ∧ wb.length ≤ 2) (fun _ _ => False) { s with heap := h, toks := tk })
    (helt : ∀ i v wb y m h tk, P i v → Good i wb → y ∈ wb → Fr g env.locals h m → m x1 = some v → m x2 = some y → News g env.locals h base →
      wpAny (model prog w) A (eval elt env) (fun r s' => ∃ h' tk', r = .bool true ∧ s' = { s with heap := h', toks := tk' } ∧ (∀ b o, h.get? b = some o → h'.get? b = some o)) (fun _ _ => False) { s with heap := h, toks := tk })
    (hR : ∀ h' tk m' ys kd, Fr g env.locals h' m' → News g env.locals h' ((D, W.listOf (List.toArray ys) kd) :: base) → (∀ v ∈ ys, v = .bool true) → ys.length ≤ 2 * n → R (.ok .next) { s with heap := h', toks := tk }) :
    codeAny (model prog w) A (.compStart (.ListComp elt [⟨.Name x1 p1, i₁, [], 0⟩, ⟨.Name x2 p2, i₂, [], 0⟩] scope pos) 0 (.ref I) (.ref D) env) R s := by
  have loop : codeAny (model prog w) A (.compLoop (.ListComp elt [⟨.Name x1 p1, i₁, [], 0⟩, ⟨.Name x2 p2, i₂, [], 0⟩] scope pos) 0 (.ref I) (.ref D) env) R s := by
    refine compLoop_two0 (fun k s' => ∃ h' tk i o ys kd m', s' = { s with heap := h', toks := tk } ∧ h'.get? I = some o ∧ at_ i o ∧ h'.get? D = some (W.listOf (List.toArray ys) kd) ∧ Fr g env.locals h' m' ∧ News g env.locals h' base ∧ (∀ v ∈ ys, v = .bool true) ∧ ys.length ≤ 2 * i ∧ i ≤ n ∧ k = n + 1 - i) ?turn (n + 1)
      ⟨s.heap, s.toks, 0, oI, [], 0, m₀, rfl, hI, ha, hD, F, N, (fun _ h => nomatch h), Nat.zero_le _, Nat.zero_le _, rfl⟩ (hs := hs)
    rintro k s' ⟨h', tk, i, o, ys, kd, m', rfl, hI', ha', hD', F', N', hys, hyl, hi, rfl⟩
    by_cases hlt : i < n
    · refine WS.item i o _ _ _ hlt hI' ha' trivial (fun v h₁ tk₁ o₁ hP e₁ a₁ hk₁ => ?_)
      have F₁ := fr_off F' hIL hI0 hk₁
      have N₁ := news_off N' (fun p hp => (hb p hp).1) hk₁
      have D₁ := hk₁ D _ (Ne.symm hID) hD'
      refine wpAny_assign_Name (wpAny_storeName_local hx1 F₁.ns (fun h₂ hn₂ hs₂ => ?_) hp)
      have F₂ := F₁.set hn₂ hs₂
      have N₂ := N₁.set hs₂
      have D₂ : h₂.get? D = _ := hs₂.extBut _ _ hDL D₁
      have I₂ : h₂.get? I = _ := hs₂.extBut _ _ hIL e₁
      refine wpAny_mono (hi2 i v _ h₂ _ hlt hP F₂ (by simp) N₂) (fun r s₃ h₃' => ?_) (fun _ _ q => q.elim)
      obtain ⟨p, wb, kb, h₃, tk₃, rfl, rfl, st₃, hp0, hp3, hG, hw2⟩ := h₃'
      have F₃ := F₂.keeps st₃
      have N₃ := N₂.grown st₃
      have hpD : p ≠ D := fun q => by rw [q, D₂] at hp0; cases hp0
      have hpI : p ≠ I := fun q => by rw [q, I₂] at hp0; cases hp0
      have hpL : p ≠ env.locals := fun q => by obtain ⟨oL, _, _, hL, _⟩ := F₂.ns; rw [q, hL] at hp0; cases hp0
      have hpg : g.get? p = none := by
        cases q : g.get? p with
        | none => rfl
        | some x => rw [F₂.keep _ _ q] at hp0; cases hp0
      have hpb : ∀ q ∈ base, q.1 ≠ p := fun q hq e => by have := (N₂ q hq).1; rw [e, hp0] at this; cases this
      refine wpAny_pyIter_list (PySem.IsL.isList (n := kb) hp3) ?_
      -- the inner loop
      have hJ : ∀ b o, h₃.get? b = some o → b ≠ h₃.objs.size := fun b o e => Nat.ne_of_lt (Heap.lt_size e)
      have F₄ := F₃.push (itObj p 0)
      have N₄ := N₃.pushKeep (itObj p 0)
      have stp : ∀ b o, h₃.get? b = some o → (h₃.push (itObj p 0)).get? b = some o := fun b o e => Heap.get?_push_of_some _ e
      have J₄ : (h₃.push (itObj p 0)).get? h₃.objs.size = some (itObj p 0) := Heap.get?_push_size _ rfl
      have D₄ := stp _ _ (st₃ _ _ D₂)
      have I₄ := stp _ _ (st₃ _ _ I₂)
      have p₄ := stp _ _ hp3
      have hJD : h₃.objs.size ≠ D := Ne.symm (hJ _ _ (st₃ _ _ D₂))
      have hJI : h₃.objs.size ≠ I := Ne.symm (hJ _ _ (st₃ _ _ I₂))
      have hJp : h₃.objs.size ≠ p := Ne.symm (hJ _ _ hp3)
      have hJL : h₃.objs.size ≠ env.locals := Nat.ne_of_gt F₃.ns.lt
      have hJ0 : g.get? h₃.objs.size = none := next_is_new F₃
      have hJb : ∀ q ∈ base, q.1 ≠ h₃.objs.size := fun q hq => hJ _ _ (N₃ q hq).1
      have h4m : (fun y => if y = x1 then some v else m' y) x1 = some v := by simp
      rw [Around.mark_none]
      show codeAny (model prog w) A (.compStart _ 1 (.ref h₃.objs.size) (.ref D) env) _ { s with heap := h₃.push (itObj p 0), toks := tk₃ }
      generalize h₃.push (itObj p 0) = h₄ at *
      generalize h₃.objs.size = J at *
      generalize (fun y => if y = x1 then some v else m' y) = m₄ at *
      clear hJ stp hp3 st₃ hp0 F₃ N₃ F₂ N₂ F₁ N₁ D₁ D₂ I₂
      have W2 := Src.list (prog := prog) (w := w) (A := A) hh J p (Ne.symm hJp) (List.toArray wb)
      have a0 : listAt p 0 (itObj p 0) := ⟨rfl, rfl⟩
      have loop2 : codeAny (model prog w) A (.compLoop (.ListComp elt [⟨.Name x1 p1, i₁, [], 0⟩, ⟨.Name x2 p2, i₂, [], 0⟩] scope pos) 1 (.ref J) (.ref D) env) (fun r s₅ => match r with
          | .ok _ => ∃ m, m < n + 1 - i ∧ ∃ h' tk i o ys kd m', s₅ = { s with heap := h', toks := tk } ∧ h'.get? I = some o ∧ at_ i o ∧ h'.get? D = some (W.listOf (List.toArray ys) kd) ∧ Fr g env.locals h' m' ∧ News g env.locals h' base ∧ (∀ v ∈ ys, v = .bool true) ∧ ys.length ≤ 2 * i ∧ i ≤ n ∧ m = n + 1 - i
          | .error _ => False) { s with heap := h₄, toks := tk₃ } := by
        refine compLoop_two1 (fun k s' => ∃ h' tk j o2 ys2 kd2 m2, s' = { s with heap := h', toks := tk } ∧ h'.get? J = some o2 ∧ listAt p j o2 ∧ h'.get? I = some o₁ ∧ h'.get? D = some (W.listOf (List.toArray ys2) kd2) ∧ h'.get? p = some (W.listOf (List.toArray wb) kb) ∧
            Fr g env.locals h' m2 ∧ m2 x1 = some v ∧ News g env.locals h' base ∧ (∀ v ∈ ys2, v = .bool true) ∧ ys2.length ≤ 2 * i + j ∧ j ≤ wb.length ∧ k = wb.length + 1 - j) ?turn2 (wb.length + 1)
          ⟨h₄, tk₃, 0, _, ys, kd, m₄, rfl, J₄, a0, I₄, D₄, p₄, F₄, h4m, N₄, hys, hyl, Nat.zero_le _, rfl⟩
        rintro k2 s' ⟨h', tk, j, o2, ys2, kd2, m2, rfl, J5, a5, I5, D5, p5, F5, m5, N5, hys2, hyl2, hj, rfl⟩
        by_cases hjlt : j < wb.length
        · refine W2.item j o2 _ _ _ (by simpa using hjlt) J5 a5 (PySem.IsL.isList (n := kb) p5) (fun y h6 tk6 o6 hy J6 a6 hk6 => ?_)
          have F6 := fr_off F5 hJL hJ0 hk6
          have N6 := news_off N5 hJb hk6
          refine wpAny_assign_Name (wpAny_storeName_local hx2 F6.ns (fun h7 hn7 hs7 => ?_) hp)
          have F7 := F6.set hn7 hs7
          have N7 := N6.set hs7
          have k7 : ∀ b x, b ≠ J → b ≠ env.locals → h'.get? b = some x → h7.get? b = some x := fun b x e1 e2 e => hs7.extBut _ _ e2 (hk6 _ _ e1 e)
          have hym : y ∈ wb := by
            have : wb[j]? = some y := by simpa using hy
            exact List.mem_of_getElem? this
          refine wpAny_mono (helt i v wb y _ h7 (tk6 + 1) hP hG hym F7 (by simp [hne, m5]) (by simp) N7) (fun r s8 h8' => ?_) (fun _ _ q => q.elim)
          obtain ⟨h8, tk8, rfl, rfl, st8⟩ := h8'
          have D8 := st8 _ _ (k7 D _ (Ne.symm hJD) hDL D5)
          refine append_at (hsz := by simp; omega) D8 fun h9 hs9 hD9 => ?_
          have k9 : ∀ b x, b ≠ D → h8.get? b = some x → h9.get? b = some x := fun b x e1 e => hs9.extBut _ _ e1 e
          refine ⟨wb.length + 1 - (j + 1), by omega, h9, tk8, j + 1, o6, ys2 ++ [.bool true], kd2 + 1, _, rfl, k9 _ _ hJD (st8 _ _ (hs7.extBut _ _ hJL J6)), a6, k9 _ _ hID (st8 _ _ (k7 _ _ (Ne.symm hJI) hIL I5)), ?_, k9 _ _ hpD (st8 _ _ (k7 _ _ (Ne.symm hJp) hpL p5)),
            fr_off (F7.keeps st8) hDL hD0 k9, by simp [hne, m5], news_off (N7.grown st8) (fun p hp => (hb p hp).2) k9, ?_, by simp; omega, hjlt, rfl⟩
          · rw [hD9, List.push_toArray]
          · intro v hv
            rcases List.mem_append.mp hv with hv | hv
            · exact hys2 v hv
            · exact List.mem_singleton.mp hv
        · have hjw : j = wb.length := by omega
          subst hjw
          refine W2.done o2 _ _ _ J5 (by simpa using a5) (PySem.IsL.isList (n := kb) p5) (fun h6 tk6 hk6 => ?_)
          exact ⟨n + 1 - (i + 1), by omega, h6, tk6, i + 1, o₁, ys2, kd2, m2, rfl, hk6 _ _ (Ne.symm hJI) I5, a₁, hk6 _ _ (Ne.symm hJD) D5, fr_off F5 hJL hJ0 hk6, news_off N5 hJb hk6, hys2, by omega, hlt, rfl⟩
      exact codeAny_compStart_two 1 (.inr rfl) loop2 (W2.self 0 _ _ _ _ J₄ a0 loop2)
    · have hin : i = n := by omega
      subst hin
      refine WS.done o _ _ _ hI' ha' trivial (fun h₁ tk₁ hk₁ => ?_)
      exact hR h₁ tk₁ m' ys kd (fr_off F' hIL hI0 hk₁) (addNew (m := m') (news_off N' (fun p hp => (hb p hp).1) hk₁) (hk₁ _ _ (Ne.symm hID) hD') hDL hD0) hys hyl
  exact codeAny_compStart_two 0 (.inl rfl) loop (WS.self 0 _ _ _ _ hI ha loop)
end
end Mine

end

section
open PySem PySem.W PyProof.Rows PySem.Calls
theorem Mine.againLT {prog : Program} {w : World} {A : Around} {E : Value → Shared → Prop} {s : Shared} {env : Env} {Q : Flow → Shared → Prop} (h : Q .next s) : wpAny (model prog w) A (execs [] env) Q E s := by
  first | (walk1; exact h) | exact wpAny_execs_nil h
end

section
open PySem PySem.W PyProof.Rows PySem.Calls
set_option maxRecDepth 100000
set_option maxHeartbeats 4000000
set_option linter.unusedSimpArgs false
set_option linter.unusedVariables false
namespace Mine
theorem regT : (PySem.Challenge.rw_wk0003_01 = PySem.Challenge.rw_wk0003_01) ∧ (Mine.hd.heap_39 = Mine.hd.heap_39) := by k_fill; exact ⟨rfl, rfl⟩

/-- how an if that may set one name to an int ends -/
def JoinI (g : Heap) (L : Addr) (m : Str → Option Value) (x : Str) (v : Int) (news : List (Addr × Obj)) (s : Shared) (f : Flow) (s' : Shared) : Prop :=
  f = .next ∧ ∃ h' tk t', s' = { s with heap := h', toks := tk } ∧ Fr g L h' (fun y => if y = x then some (.int v t') else m y) ∧ News g L h' news
theorem fr_same {g h : Heap} {L : Addr} {m : Str → Option Value} {x : Str} {v : Value} (F : Fr g L h m) (e : m x = some v) : Fr g L h (fun y => if y = x then some v else m y) := by
  have : (fun y => if y = x then some v else m y) = m := by
    funext y
    by_cases hy : y = x
    · rw [if_pos hy, hy, e]
    · rw [if_neg hy]
  rw [this]; exact F
section
/-- one toggle -/
def tog (q : Int) (ns : List Int) (x : Int) : List Int :=
  let us := besU x q
  let os := besO x q
  let a := ns.getD (us.headD 0).toNat 0
  let b := ns.getD (us.getLastD 0).toNat 0
  let c := ns.getD (os.headD 0).toNat 0
  let d := ns.getD (os.getLastD 0).toNat 0
  ns.set x.toNat ((if a ≤ b then b else a) + (if d ≤ c then d else c) - ns.getD x.toNat 0)
/-- the first toggles of a turn -/
def togs (q : Int) : Nat → List Int → List Int
  | 0, ns => ns
  | i + 1, ns => tog q (togs q i ns) (2 * q + i * (-1))
theorem tog_length (q : Int) (ns : List Int) (x : Int) : (tog q ns x).length = ns.length := by simp [tog]
theorem togs_length (q : Int) (i : Nat) (ns : List Int) : (togs q i ns).length = ns.length := by
  induction i with
  | zero => rfl
  | succ i ih => simp only [togs, tog_length, ih]
theorem headD_mem {l : List Int} (h : l ≠ []) : l.headD 0 ∈ l := by
  cases l with
  | nil => exact absurd rfl h
  | cons a r => exact .head _
theorem lastD_mem {l : List Int} (h : l ≠ []) : l.getLastD 0 ∈ l := by
  rw [List.getLastD_eq_getLast?, List.getLast?_eq_some_getLast h]
  exact List.getLast_mem h
local macro_rules | `(tactic| walk_at "assign Tuple") => `(tactic| (k_here; refine asg2 (by assumption) (by assumption) (by k_mem) (by assumption) rfl rfl rfl (fun h' tk' F' N' => ?_); (try k_sweep)))
theorem ints_mem {vs : List Value} {ns : List Int} (h : IntsAre vs ns) {v : Value} (hv : v ∈ vs) : ∃ y t, v = .int y t ∧ y ∈ ns := by
  induction h with
  | nil => cases hv
  | @cons a t vs ns h ih =>
    rcases List.mem_cons.mp hv with rfl | hv
    · exact ⟨a, t, rfl, .head _⟩
    · obtain ⟨y, t, e, h⟩ := ih hv
      exact ⟨y, t, e, .tail _ h⟩
theorem bools_true {vs : List Value} (h : ∀ v ∈ vs, v = .bool true) : LSm.BoolsAre vs (List.replicate vs.length true) := by
  induction vs with
  | nil => exact .nil
  | cons v vs ih =>
    rw [h v (.head _)]
    exact .cons true (ih fun v hv => h v (.tail _ hv))
theorem all_true (n : Nat) : (List.replicate n true).all id = true := by simp
theorem besO_length {x q : Int} (h1 : 1 ≤ x) (h2 : x ≤ 2 * q) (h3 : 2 ≤ q) (h4 : q ≤ 3) : (besO x q).length ≤ 2 := by
  rcases (show q = 2 ∨ q = 3 by omega) with rfl | rfl
  · rcases (show x = 1 ∨ x = 2 ∨ x = 3 ∨ x = 4 by omega) with rfl | rfl | rfl | rfl <;> decide
  · rcases (show x = 1 ∨ x = 2 ∨ x = 3 ∨ x = 4 ∨ x = 5 ∨ x = 6 by omega) with rfl | rfl | rfl | rfl | rfl | rfl <;> decide
section
variable {prog : Program} {w : World} {A : Around} {E : Value → Shared → Prop} {env : Env} {s : Shared}
theorem nameG {K : Frag} {h₀ : Heap} {C : Addr} {m mg mb : Str → Option Value} {p : Program} {loose : List Str} {n : Str} {pos : Pos} {v : Value} {Q : Value → Shared → Prop} (F : Fr h₀ C s.heap m) (X : K.In h₀) (T : TopRead p loose mg mb h₀)
    (e : nsIn K mainGlobals n = some (some v)) (h : Q v s)
    (hg : env.globals = mainGlobals) (hk : env.scope.kind = .function) (hx : env.kindOf n = some .globalImplicit) (hd : (n == ("__debug__" : Str)) = false) :
    wpAny (model prog w) A (eval (.Name n pos) env) Q E s :=
  Name_function_global hk hx (loadGlobal_global (env := env) (by rw [hg]; exact T.g.keeps F.keep) (mg_of X T.g e) h) hd
end
local macro_rules | `(tactic| walk_at "eval Name") => `(tactic| (k_here; k_dflt (refine nameL (by assumption) (by first | (k_dflt (exact rfl)) | assumption) ?_ rfl rfl (by decide))))
local macro_rules | `(tactic| walk_at "eval Name") => `(tactic| (k_here; (with_reducible show wpAny _ _ (eval _ (compEnvC _ _ _ _)) _ _ _); refine nameG (by assumption) (by assumption) (by assumption) (by k_is) ?_ rfl rfl rfl (by decide)))
local macro_rules | `(tactic| walk_at "eval Name") => `(tactic| (k_here; (with_reducible show wpAny _ _ (eval _ (compEnvC _ _ _ _)) _ _ _); refine nameC (by assumption) (by k_mem) (by assumption) ?_ rfl rfl rfl (by decide)))
theorem getI_call {w : World} {A : Around} {E : Value → Shared → Prop} {s : Shared} {G : Heap} {mg mb : Str → Option Value} {Q : Value → Shared → Prop} {a : Int} {t : Tok} {l L : Addr} {vs : List Value} {ns : List Int} {n : Nat} {m : Str → Option Value} {news : List (Addr × Obj)}
   (F : Fr G L s.heap m) (N : News G L s.heap news) (X : (Mine.hd.heap_39 w.params).In G) (T : TopRead VW LS mg mb G) (hA : A.depth < recursionLimit)
   (hl : (l, W.listOf (List.toArray vs) n) ∈ news) (hI : IntsAre vs ns) (h0 : 0 ≤ a) (h1 : a < ns.length) (hhi : a < 2 ^ 63)
   (h : ∀ h' tk t', Fr G L h' m → News G L h' news → Q (.int (ns.getD a.toNat 0) t') { s with heap := h', toks := tk }) :
   wpAny (model PW w) A (call (.ref 90) [.ref l, .int a t] []) Q E s := by
  have hj : a.toNat < ns.length := by omega
  obtain ⟨u, hu⟩ := hI.get a.toNat (ns.getD a.toNat 0) (by simp [hj])
  exact getitem_call F.keep X T hA (N _ hl).1 h0 hhi hu fun h' tk st => h h' tk u (F.keeps st) (N.grown st)
local macro_rules | `(tactic| walk_at "call ref") => `(tactic| (k_here; (with_reducible show wpAny _ _ (call (Value.ref 90) _ _) _ _ _); refine getI_call (by assumption) (by assumption) (by assumption) (by assumption) (by assumption) (by k_mem) (by assumption) (by omega) (by omega) (by omega) (fun h' tk' t' F' N' => ?_); (try k_sweep)))
local macro_rules | `(tactic| walk_at "call ref") => `(tactic| (k_here; (with_reducible show wpAny _ _ (call (Value.ref 62) _ _) _ _ _); refine ge_call (Fr.keep (by assumption)) (by assumption) (by assumption) (by assumption) (fun h' tk' st => ?_); (rename Fr _ _ _ _ => F'); (rename News _ _ _ _ => N'); replace F' := F'.keeps st; replace N' := N'.grown st; clear st))
local macro_rules | `(tactic| walk_at "call ref") => `(tactic| (k_here; (with_reducible show wpAny _ _ (call (Value.ref 69) _ _) _ _ _); refine add_call (Fr.keep (by assumption)) (by assumption) (by assumption) (by assumption) (fun h' tk' t' st => ?_); (rename Fr _ _ _ _ => F'); (rename News _ _ _ _ => N'); replace F' := F'.keeps st; replace N' := N'.grown st; clear st))
local macro_rules | `(tactic| walk_at "call ref") => `(tactic| (k_here; (with_reducible show wpAny _ _ (call (Value.ref 83) _ _) _ _ _); refine sub_call (Fr.keep (by assumption)) (by assumption) (by assumption) (by assumption) (fun h' tk' t' st => ?_); (rename Fr _ _ _ _ => F'); (rename News _ _ _ _ => N'); replace F' := F'.keeps st; replace N' := N'.grown st; clear st))
local macro_rules | `(tactic| walk_at "subscriptTail") => `(tactic| (k_here; first | (refine sub_at (by assumption) (by k_mem) (by decide) (by decide) (by assumption) ?_) | (refine sub_last (by assumption) (by k_mem) (by assumption) ?_)))
theorem lt_call {w : World} {A : Around} {E : Value → Shared → Prop} {s : Shared} {G : Heap} {mg mb : Str → Option Value} {l : Addr} {vs : List Value} {n : Nat} {ns : List Int} {q : Int} {u : Tok} {Q : Value → Shared → Prop}
   (kg : Stay G s.heap) (X : (Mine.hd.heap_39 w.params).In G) (T : TopRead VW LS mg mb G)
   (hA : A.depth + 1 < recursionLimit) (hh : A.handled = none)
   (h3 : 2 ≤ q) (h4 : q ≤ 3)
   (hl : s.heap.get? l = some (W.listOf vs.toArray n)) (hG : G.get? l = none) (hvs : IntsAre vs ns) (hlen : ns.length = 2 * q.toNat + 2)
   (hord : ∀ x, 1 ≤ x → x ≤ 2 * q → ∀ y ∈ besO x q, (togs q (2 * q).toNat ns).getD x.toNat 0 ≤ (togs q (2 * q).toNat ns).getD y.toNat 0)
   (h : ∀ h' tk vs', (∀ b o, b ≠ l → s.heap.get? b = some o → h'.get? b = some o) → h'.get? l = some (W.listOf (List.toArray vs') n) → IntsAre vs' (togs q (2 * q).toNat ns) → Q (.bool true) { s with heap := h', toks := tk }) :
   wpAny (model PW w) A (call (.ref 121) [.ref l, .int q u] []) Q E s := by
  refine wpAny_call (enterC [(l, W.listOf vs.toArray n)] kg X T (fun q hq => by rw [List.mem_singleton.mp hq]; exact ⟨hl, hG⟩) (by k_is) (by k_is) (by omega) (BindsTo.of_eq (binds := [("worths", .ref l), ("q", .int q u)]) rfl) (by rfl) (by decide) (fun g h₁ tk cells Xg Tg hg hk F N X0 => ?_))
  clear X T
  cases A
  dsimp only at hh
  subst hh
  generalize hL : s.heap.objs.size = L at *
  obtain ⟨o1, o2, rfl, d1', d2'⟩ := CellsAre.two X0
  have d2 : o2.data = .cell (some (.ref l)) := d2'
  have d1 : o1.data = .cell (some (.int q u)) := d1'
  clear d1' d2' X0
  replace F : Fr g L h₁ (fun _ => none) := F
  replace N : News g L h₁ [(L+2, o1), (L+1, o2), (l, W.listOf vs.toArray n)] := N
  (repeat ((fail_if_success (with_reducible show wpAny _ _ (exec (Stmt.For _ _ _ _ _) _) _ _ _)); walk1))
  refine wpAny_For ?_
  (repeat ((fail_if_success (with_reducible show wpAny _ _ (pyIter _) _ _ _)); walk1))
  rename_i F N h₂ tk₂ t1 t2 t3 hr F₂ N₂ hk₂
  have hsz : Builtin.Range.rangeSize (2 * q) 0 (-1) = ((2 * q).toNat : Nat) := by
    rcases (show q = 2 ∨ q = 3 by omega) with rfl | rfl <;> decide
  refine wpAny_pyIter_range hr (by rcases (show q = 2 ∨ q = 3 by omega) with rfl | rfl <;> decide) ?_
  rw [hsz]
  have F₃ := F₂.push { cls := .type "range_iterator", data := .fields #[rawInt (2 * q), rawInt ((2 * q).toNat : Nat), rawInt (-1)] }
  have N₃ := N₂.pushKeep { cls := .type "range_iterator", data := .fields #[rawInt (2 * q), rawInt ((2 * q).toNat : Nat), rawInt (-1)] }
  have hlI : @Ne Nat l h₂.objs.size := Nat.ne_of_lt (Heap.lt_size (N₂ (l, W.listOf vs.toArray n) (by k_mem)).1)
  have hlL : @LT.lt Nat _ l L := by rw [← hL]; exact Heap.lt_size hl
  have hlt : ∀ p ∈ [(L + 2, o1), (L + 1, o2), (l, W.listOf vs.toArray n)], p.1 ≠ h₂.objs.size := fun p hp => Nat.ne_of_lt (Heap.lt_size (N₂ p hp).1)
  refine codeAny_forSrc (h₀ := g) (news := [(L + 2, o1), (L + 1, o2), (l, W.listOf vs.toArray n)]) (Src.range rfl h₂.objs.size (2 * q) (-1) (2 * q).toNat) rfl rfl (Heap.get?_push_size _ rfl) (by simp [rangeAt]) (Nat.ne_of_gt F₂.ns.lt) (next_is_new F₂) F₃ N₃ hlt
    (fun i m₁ news₁ tk => ∃ vs', news₁ = [(L + 2, o1), (L + 1, o2), (l, W.listOf (List.toArray vs') n)] ∧ IntsAre vs' (togs q i ns)) ⟨vs, rfl, by simpa [togs] using hvs⟩ (fun _ _ _ _ _ _ _ _ => trivial) ?step ?done
  case step =>
    rintro i v m₁ news₁ h₃ tk₃ tk₄ o₃ hi ⟨t, rfl⟩ ⟨vs', rfl, hvs'⟩ - F₃ N₃ hne
    refine wpAny_passesOwn PassesOwn.leaving ?_
    clear F N F₂ N₂ hk₂ hr
    have hneA : ∀ (o : Obj) (p : Addr × Obj), p ∈ [(L + 2, o1), (L + 1, o2), (l, o)] → p.1 ≠ h₂.objs.size := fun o p hp => by
      simp only [List.mem_cons, List.not_mem_nil, or_false] at hp
      rcases hp with rfl | rfl | rfl
      · exact hne (L + 2, o1) (by k_mem)
      · exact hne (L + 1, o2) (by k_mem)
      · exact hlI
    have hx1 : 1 ≤ 2 * q + (i : Int) * -1 := by omega
    have hx2 : 2 * q + (i : Int) * -1 ≤ 2 * q := by omega
    replace F₃ : Fr g L h₃ (fun y => if y = Str.ofString "x" then some (.int (2 * q + (i : Int) * -1) t) else m₁ y) := F₃
    replace N₃ : News g L h₃ [(h₂.objs.size, o₃), (L + 2, o1), (L + 1, o2), (l, W.listOf vs'.toArray n)] := N₃
    have hl' : (togs q i ns).length = ns.length := togs_length _ _ _
    generalize hns : togs q i ns = ns' at *
    generalize hxx : 2 * q + (i : Int) * -1 = x at *
    (repeat ((fail_if_success (with_reducible show wpAny _ _ (call (Value.ref 116) _ _) _ _ _)); walk1))
    refine beside_call (Fr.keep (by assumption)) Xg Tg (by exact hA) hx1 (by omega) h3 h4 (fun hB tkB D B => ?_)
    rename Fr _ _ _ _ => F5
    rename News _ _ _ _ => N5
    obtain ⟨p1, p2, wa, na, wb, nb, F6, N6, Ia, Ib, -⟩ := beside_onto F5 N5 B
    clear F5 N5 B F₃ N₃
    obtain ⟨bu, bo, bu1, bo1⟩ := bes_bounds hx1 hx2 h3 h4
    obtain ⟨ta, tb, ua, ub⟩ := ints_ends Ia bu
    obtain ⟨tc, td, uc, ud⟩ := ints_ends Ib bo
    refine asg2 F6 N6 (by k_mem) rfl rfl rfl rfl (fun h7 tk7 F7 N7 => ?_)
    clear F6 N6
    replace F7 : Fr g L h7 _ := F7
    replace N7 : News g L h7 _ := N7
    have ba : 0 ≤ (besU x q).headD 0 ∧ (besU x q).headD 0 < x := bu1 _ (headD_mem bu)
    have bb : 0 ≤ (besU x q).getLastD 0 ∧ (besU x q).getLastD 0 < x := bu1 _ (lastD_mem bu)
    have bc : x < (besO x q).headD 0 ∧ (besO x q).headD 0 ≤ 2 * q + 1 := bo1 _ (headD_mem bo)
    have bd : x < (besO x q).getLastD 0 ∧ (besO x q).getLastD 0 ≤ 2 * q + 1 := bo1 _ (lastD_mem bo)
    have htog : tog q ns' x = ns'.set x.toNat ((if ns'.getD ((besU x q).headD 0).toNat 0 ≤ ns'.getD ((besU x q).getLastD 0).toNat 0 then ns'.getD ((besU x q).getLastD 0).toNat 0 else ns'.getD ((besU x q).headD 0).toNat 0) +
      (if ns'.getD ((besO x q).getLastD 0).toNat 0 ≤ ns'.getD ((besO x q).headD 0).toNat 0 then ns'.getD ((besO x q).getLastD 0).toNat 0 else ns'.getD ((besO x q).headD 0).toNat 0) - ns'.getD x.toNat 0) := rfl
    generalize (besU x q).headD 0 = a at *
    generalize (besU x q).getLastD 0 = b at *
    generalize (besO x q).headD 0 = c at *
    generalize (besO x q).getLastD 0 = d at *
    clear Ia Ib bu bo bu1 bo1
    (repeat ((fail_if_success (with_reducible show wpAny _ _ (call (Value.ref 90) _ _) _ _ _)); walk1))
    refine getI_call F7 N7 Xg Tg (by assumption) (by k_mem) (by assumption) (by omega) (by omega) (by omega) (fun h' tk' t' F' N' => ?_)
    clear F7 N7
    (repeat ((fail_if_success (with_reducible show wpAny _ _ (exec (Stmt.If _ _ _ _) _) _ _ _)); walk1))
    rename Fr _ _ _ _ => F8
    rename News _ _ _ _ => N8
    have N9 : News g L _ [(h₂.objs.size, o₃), (L + 2, o1), (L + 1, o2), (l, W.listOf vs'.toArray n), (p1, W.listOf (List.toArray wa) na), (p2, W.listOf (List.toArray wb) nb)] := fun p hp => N8 p (by
      simp only [List.mem_cons, List.not_mem_nil, or_false] at hp
      rcases hp with rfl | rfl | rfl | rfl | rfl | rfl <;> k_mem)
    clear N8
    obtain ⟨m8, F9, e1, e2, e3, ⟨ta', e4⟩, ⟨tb', e5⟩⟩ : ∃ m8, Fr g L _ m8 ∧ m8 (Str.ofString "under") = some (.ref p1) ∧ m8 (Str.ofString "over") = some (.ref p2) ∧ m8 (Str.ofString "x") = some (.int x t) ∧
      (∃ ta', m8 (Str.ofString "most") = some (.int (ns'.getD a.toNat 0) ta')) ∧ (∃ tb', m8 (Str.ofString "least") = some (.int (ns'.getD c.toNat 0) tb')) := ⟨_, F8, rfl, rfl, rfl, ⟨_, rfl⟩, ⟨_, rfl⟩⟩
    clear F8
    refine wpAny_mono (Q := JoinI g L m8 (Str.ofString "most") (if ns'.getD a.toNat 0 ≤ ns'.getD b.toNat 0 then ns'.getD b.toNat 0 else ns'.getD a.toNat 0) [(h₂.objs.size, o₃), (L + 2, o1), (L + 1, o2), (l, W.listOf vs'.toArray n), (p1, W.listOf (List.toArray wa) na), (p2, W.listOf (List.toArray wb) nb)] s) ?if1 (fun f s' hq => ?_) (fun _ _ e => e)
    case if1 =>
      (repeat ((fail_if_success (with_reducible show JoinI _ _ _ _ _ _ _ _ _)); walk1))
      · rename Fr _ _ _ _ => F10
        rw [if_pos (by assumption)]
        exact ⟨rfl, _, _, _, rfl, F10, by assumption⟩
      · rename Fr _ _ _ _ => F10
        (repeat ((fail_if_success (with_reducible show JoinI _ _ _ _ _ _ _ _ _)); walk1))
        rename Fr _ _ _ _ => F11
        rw [if_neg (by assumption)]
        exact ⟨rfl, _, _, _, rfl, fr_same F11 e4, by assumption⟩
    obtain ⟨rfl, h12, tk12, t12, rfl, F12, N12⟩ := hq
    clear F9 N9
    show wpAny _ _ (execs _ _) _ _ _
    generalize (if ns'.getD a.toNat 0 ≤ ns'.getD b.toNat 0 then ns'.getD b.toNat 0 else ns'.getD a.toNat 0) = V1 at F12 htog
    obtain ⟨m9, F13, e6, e7, e8, e9⟩ : ∃ m9, Fr g L h12 m9 ∧ m9 (Str.ofString "over") = some (.ref p2) ∧ m9 (Str.ofString "x") = some (.int x t) ∧ m9 (Str.ofString "most") = some (.int V1 t12) ∧ m9 (Str.ofString "least") = some (.int (ns'.getD c.toNat 0) tb') := ⟨_, F12, e2, e3, rfl, e5⟩
    clear F12 e1 e2 e3 e4 e5
    (repeat ((fail_if_success (with_reducible show wpAny _ _ (exec (Stmt.If _ _ _ _) _) _ _ _)); walk1))
    refine wpAny_mono (Q := JoinI g L m9 (Str.ofString "least") (if ns'.getD d.toNat 0 ≤ ns'.getD c.toNat 0 then ns'.getD d.toNat 0 else ns'.getD c.toNat 0) [(h₂.objs.size, o₃), (L + 2, o1), (L + 1, o2), (l, W.listOf vs'.toArray n), (p1, W.listOf (List.toArray wa) na), (p2, W.listOf (List.toArray wb) nb)] s) ?if2 (fun f s' hq => ?_) (fun _ _ e => e)
    case if2 =>
      (repeat ((fail_if_success (with_reducible show JoinI _ _ _ _ _ _ _ _ _)); walk1))
      · rename Fr _ _ _ _ => F10
        rw [if_pos (by assumption)]
        exact ⟨rfl, _, _, _, rfl, F10, by assumption⟩
      · rename Fr _ _ _ _ => F10
        (repeat ((fail_if_success (with_reducible show JoinI _ _ _ _ _ _ _ _ _)); walk1))
        rename Fr _ _ _ _ => F11
        rw [if_neg (by assumption)]
        exact ⟨rfl, _, _, _, rfl, fr_same F11 e9, by assumption⟩
    obtain ⟨rfl, h14, tk14, t14, rfl, F14, N14⟩ := hq
    clear F13 N12
    show wpAny _ _ (execs _ _) _ _ _
    generalize (if ns'.getD d.toNat 0 ≤ ns'.getD c.toNat 0 then ns'.getD d.toNat 0 else ns'.getD c.toNat 0) = V2 at F14 htog
    obtain ⟨m10, F15, e10, e11, e12⟩ : ∃ m10, Fr g L h14 m10 ∧ m10 (Str.ofString "x") = some (.int x t) ∧ m10 (Str.ofString "most") = some (.int V1 t12) ∧ m10 (Str.ofString "least") = some (.int V2 t14) := ⟨_, F14, e7, e8, rfl⟩
    clear F14 e6 e7 e8 e9
    have N15 : News g L _ [(h₂.objs.size, o₃), (L + 2, o1), (L + 1, o2), (l, W.listOf vs'.toArray n)] := fun p hp => N14 p (by
      simp only [List.mem_cons, List.not_mem_nil, or_false] at hp
      rcases hp with rfl | rfl | rfl | rfl <;> k_mem)
    clear N14
    (repeat ((fail_if_success (with_reducible show wpAny _ _ (call (Value.ref 104) _ _) _ _ _)); walk1))
    rename Fr _ _ _ _ => F16
    rename News _ _ _ _ => N16
    have z := N16 (l, W.listOf vs'.toArray n) (by k_mem)
    have hlen' := hvs'.length
    refine setitem_call (Fr.keep F16) Xg Tg (by assumption) z.1 z.2.2 (by omega) (by omega) (by omega) (fun h9 tk9 k9 g9 => ?_)
    obtain ⟨F17, N17⟩ := bump F16 N16 (by k_upd) k9 g9
    clear F16 N16 z
    (repeat ((fail_if_success (with_reducible show ForPost _ _ _ _ _ _ _ _ _)); walk1))
    refine ⟨_, _, _, _, rfl, F17, N17, hneA _, _, rfl, ?_⟩
    show IntsAre _ (tog q (togs q i ns) (2 * q + (i : Int) * -1))
    rw [hns, hxx, htog]
    exact ints_set hvs' _
  case done =>
    rintro h₃ tk₃ tk₄ m₃ news₃ F₃' N₃' ⟨vs', rfl, hvs'⟩ -
    refine wpAny_passesOwn PassesOwn.leaving ?_
    clear F N F₂ N₂ hk₂ hr hlt F₃ N₃
    replace F₃' : Fr g L h₃ m₃ := F₃'
    replace N₃' : News g L h₃ [(L + 2, o1), (L + 1, o2), (l, W.listOf vs'.toArray n)] := N₃'
    (repeat ((fail_if_success (with_reducible show wpAny _ _ (eval (Expr.ListComp _ _ _ _) _) _ _ _)); walk1))
    refine comp_open (h₀ := g) (L := L) (m := m₃) rfl (by decide) rfl (by decide) ?_
    (repeat ((fail_if_success (with_reducible show wpAny _ _ (pyIter _) _ _ _)); walk1))
    rename_i F5 N5 h5 tk5 t1' t2' t3' hr F6 N6 hk5
    have hsz2 : Builtin.Range.rangeSize 1 (2 * q + 1) 1 = ((2 * q).toNat : Nat) := by
      rcases (show q = 2 ∨ q = 3 by omega) with rfl | rfl <;> decide
    refine wpAny_pyIter_range hr (by rcases (show q = 2 ∨ q = 3 by omega) with rfl | rfl <;> decide) ?_
    rw [hsz2]
    have F7 := F6.push { cls := .type "range_iterator", data := .fields #[rawInt 1, rawInt ((2 * q).toNat : Nat), rawInt 1] }
    have N7 := addNew (m := m₃) (N6.pushKeep { cls := .type "range_iterator", data := .fields #[rawInt 1, rawInt ((2 * q).toNat : Nat), rawInt 1] }) (Heap.get?_push_size _ rfl) (Nat.ne_of_gt F6.ns.lt) (next_is_new F6)
    refine ⟨_, _, rfl, F7, N7, fun C D oL h8 hoL F8 N8 hlt8 hLD hDC hk8 => ?_⟩
    have hlI5 : @LT.lt Nat _ l h5.objs.size := Heap.lt_size (N6 (l, W.listOf vs'.toArray n) (by k_mem)).1
    have hL2I5 : @LT.lt Nat _ (L + 2) h5.objs.size := Heap.lt_size (N6 (L + 2, o1) (by k_mem)).1
    have hID : @LT.lt Nat _ h5.objs.size D := hlt8 _ (.head _)
    replace hDC : @LT.lt Nat _ D C := hDC
    clear F5 N5 F6 N6 F7 N7 hr hk5 hk8 hlt8
    have hne8 : ∀ o : Obj, ∀ p ∈ [(D, o), (L, oL), (h5.objs.size, o), (L + 2, o1), (L + 1, o2), (l, o)], p.1 ≠ C := by
      intro o p hp
      simp only [List.mem_cons, List.not_mem_nil, or_false] at hp
      rcases hp with rfl | rfl | rfl | rfl | rfl | rfl <;> (refine neN ?_; (try dsimp only); omega)
    have zI := N8 (h5.objs.size, { cls := .type "range_iterator", data := .fields #[rawInt 1, rawInt ((2 * q).toNat : Nat), rawInt 1] }) (by k_mem)
    have zD := N8 (D, W.listOf #[] 0) (by k_mem)
    have zR : rangeAt 1 1 (2 * q).toNat 0 { cls := .type "range_iterator", data := .fields #[rawInt 1, rawInt ((2 * q).toNat : Nat), rawInt 1] } := by simp [rangeAt]
    have hlen' := hvs'.length
    have hl' : (togs q (2 * q).toNat ns).length = ns.length := togs_length _ _ _
    have hIDne : h5.objs.size ≠ D := Nat.ne_of_lt hID
    refine two_true (g := g) (base := [(L, oL), (L + 2, o1), (L + 1, o2), (l, W.listOf vs'.toArray n)]) (n := (2 * q).toNat) (Good := fun i wb => i < (2 * q).toNat ∧ IntsAre wb (besO (1 + (i : Int) * 1) q)) (m₀ := fun _ => none)
      rfl (Src.range rfl h5.objs.size 1 1 (2 * q).toNat) rfl rfl rfl (by decide) (fun _ => rfl) (by rw [sizeLine_eq]; omega) zI.2.1 zD.2.1 hIDne zI.2.2 zD.2.2 ?hb F8 ?hN zI.1 zR zD.1 ?hi2 ?helt ?hR
    case hb =>
      intro p hp
      simp only [List.mem_cons, List.not_mem_nil, or_false] at hp
      rcases hp with rfl | rfl | rfl | rfl <;> (constructor <;> (refine neN ?_; (try dsimp only); omega))
    case hN =>
      intro p hp
      simp only [List.mem_cons, List.not_mem_nil, or_false] at hp
      rcases hp with rfl | rfl | rfl | rfl
      · exact N8 (L, oL) (by k_mem)
      · exact N8 (L + 2, o1) (by k_mem)
      · exact N8 (L + 1, o2) (by k_mem)
      · exact N8 (l, W.listOf vs'.toArray n) (by k_mem)
    case hi2 =>
      rintro i v m h tk hi ⟨t, rfl⟩ F hmx N
      clear F8 N8 zI zD
      have hx1 : 1 ≤ 1 + (i : Int) * 1 := by omega
      have hx2 : 1 + (i : Int) * 1 ≤ 2 * q := by omega
      have hb2 := besO_length hx1 hx2 h3 h4
      generalize hxx : 1 + (i : Int) * 1 = x at *
      (repeat ((fail_if_success (with_reducible show wpAny _ _ (call (Value.ref 116) _ _) _ _ _)); walk1))
      refine beside_call (Fr.keep F) Xg Tg (by assumption) hx1 (by omega) h3 h4 (fun hB tkB D2 B => ?_)
      obtain ⟨p1, p2, wa, na, wb, nb, F11, N11, Ia, Ib, hpn⟩ := beside_onto F N B
      have hst := B.1
      have hlw := Ib.length
      clear F N
      (repeat ((fail_if_success (with_reducible show ∃ _, _)); walk1))
      rename News _ _ _ _ => N12
      exact ⟨p2, wb, nb, hB, _, rfl, rfl, hst, hpn, (N12 (p2, W.listOf (List.toArray wb) nb) (by k_mem)).1, ⟨hi, Ib⟩, by omega⟩
    case helt =>
      rintro i v wb y m h tk ⟨t, rfl⟩ ⟨hi, hG⟩ hy F hmx hmy N
      clear F8 N8 zI zD
      have hx1 : 1 ≤ 1 + (i : Int) * 1 := by omega
      have hx2 : 1 + (i : Int) * 1 ≤ 2 * q := by omega
      have hbl := (bes_bounds hx1 hx2 h3 h4).2.2.2
      obtain ⟨yv, ty, rfl, hyv⟩ := ints_mem hG hy
      have hby := hbl yv hyv
      have hle := hord _ hx1 hx2 yv hyv
      generalize hxx : 1 + (i : Int) * 1 = x at *
      generalize hns : togs q (2 * q).toNat ns = ns' at *
      (repeat ((fail_if_success (with_reducible show wpAny _ _ (call (Value.ref 62) _ _) _ _ _)); walk1))
      refine ge_call (Fr.keep (by assumption)) Xg Tg (by assumption) (fun h' tk' st => ?_)
      exact ⟨h', _, by rw [decide_eq_true hle], rfl, st⟩
    case hR =>
      intro h' tk m' ys kd F N hys hyl
      refine ⟨m', [(D, W.listOf (List.toArray ys) kd), (L + 2, o1), (L + 1, o2), (l, W.listOf vs'.toArray n)], F, ?_, ?_, fun h9 F9 N9 => ?_⟩
      · intro p hp
        simp only [List.mem_cons, List.not_mem_nil, or_false] at hp
        rcases hp with rfl | rfl | rfl | rfl | rfl
        · exact N (L, oL) (by k_mem)
        · exact N (D, W.listOf (List.toArray ys) kd) (by k_mem)
        · exact N (L + 2, o1) (by k_mem)
        · exact N (L + 1, o2) (by k_mem)
        · exact N (l, W.listOf vs'.toArray n) (by k_mem)
      · intro p hp
        simp only [List.mem_cons, List.not_mem_nil, or_false] at hp
        rcases hp with rfl | rfl | rfl | rfl <;> (refine neN ?_; (try dsimp only); omega)
      · clear F8 N8 zI zD F N
        (repeat ((fail_if_success (with_reducible show wpAny _ _ (call (Value.builtin "all") _ _) _ _ _)); walk1))
        refine LSm.all_bools F9 N9 rfl (PySem.IsL.isList (N9 (D, W.listOf (List.toArray ys) kd) (by k_mem)).1) (bools_true hys) (fun h10 tk10 F10 N10 => ?_)
        rw [all_true]
        refine h _ _ vs' (fun b o hb e => F10.keep _ _ (hg b o e (by simpa using hb))) (N10 (l, W.listOf vs'.toArray n) (by k_mem)).1 hvs'
end
end Mine

end

section
open PySem PySem.W PyProof.Rows PySem.Calls
set_option linter.unusedSimpArgs false
set_option linter.unusedVariables false
namespace Mine

/-- the codes of one worth's row, as written -/
def rowW (w : Nat) (e : List Nat) : List Nat := List.replicate (w / 4096 - 1) 46 ++ [193, 192 + w / 64 % 64, 128 + w % 64] ++ e
/-- the same row, as read -/
def rowN (w : Nat) : List Nat := List.replicate (w / 4096) 46 ++ [4096 + w % 4096, 13, 10]
def rowQ (w : Nat) : List Nat := List.replicate (w / 4096) 46 ++ [193, 192 + w / 64 % 64, 128 + w % 64, 13, 10]
def tailW : List Nat := [97, 98, 99, 100, 46, 12, 46, 10, 10, 46, 13, 197]
def tailN : List Nat := [562706734, 12, 46, 13, 10, 13, 10, 46, 46, 13, 10]
def IsEnd (e : List Nat) : Prop := e = [10] ∨ e = [13] ∨ e = [13, 10]

theorem crlf_plain {c : Nat} {r : List Nat} (h1 : c ≠ 10) (h2 : c ≠ 13) : crlf (c :: r) = c :: crlf r := by
  rw [crlf]
  · rw [if_neg (by omega)]
  · intro r' h _; exact h2 h
theorem crlf_dots (k : Nat) (r : List Nat) : crlf (List.replicate k 46 ++ r) = List.replicate k 46 ++ crlf r := by
  induction k with
  | zero => rfl
  | succ k ih => rw [List.replicate_succ, List.cons_append, crlf_plain (by decide) (by decide), ih]; rfl
theorem crlf_end {e r : List Nat} (he : IsEnd e) (hr : ∀ r', r ≠ 10 :: r') : crlf (e ++ r) = 13 :: 10 :: crlf r := by
  rcases he with rfl | rfl | rfl
  · show crlf (10 :: r) = _
    rw [crlf]
    · rw [if_pos (by decide)]
    · intro r' h; cases h
  · show crlf (13 :: r) = _
    rw [crlf]
    · rw [if_pos (by decide)]
    · intro r' _ h; exact hr r' h
  · show crlf (13 :: 10 :: r) = _
    rw [crlf]
theorem crlf_row {w : Nat} {e r : List Nat} (he : IsEnd e) (hr : ∀ r', r ≠ 10 :: r') : crlf (rowW w e ++ r) = List.replicate (w / 4096 - 1) 46 ++ [193, 192 + w / 64 % 64, 128 + w % 64, 13, 10] ++ crlf r := by
  unfold rowW
  rw [List.append_assoc, List.append_assoc, crlf_dots]
  show _ ++ crlf (193 :: (192 + w / 64 % 64) :: (128 + w % 64) :: (e ++ r)) = _
  rw [crlf_plain (by decide) (by decide), crlf_plain (by omega) (by omega), crlf_plain (by omega) (by omega), crlf_end he hr]
  simp

theorem dot_false {c : Nat} {r : List Nat} (h : c ≠ 10) : dot false (c :: r) = c :: dot false r := by
  rw [dot, if_neg (by simp), show (c == 10) = false by simpa using h]; rfl
theorem dot_dots (k : Nat) (r : List Nat) : dot false (List.replicate k 46 ++ r) = List.replicate k 46 ++ dot false r := by
  induction k with
  | zero => rfl
  | succ k ih => rw [List.replicate_succ, List.cons_append, dot_false (by decide), ih]; rfl
theorem dot_row {w : Nat} {r : List Nat} (hw : 8192 ≤ w) : dot true (List.replicate (w / 4096 - 1) 46 ++ [193, 192 + w / 64 % 64, 128 + w % 64, 13, 10] ++ r) = rowQ w ++ dot true r := by
  obtain ⟨k, hk⟩ : ∃ k, w / 4096 = k + 2 := ⟨w / 4096 - 2, by omega⟩
  have h0 : ∀ r, dot true (46 :: r) = 46 :: 46 :: dot false r := fun r => by rw [dot, if_pos (by simp)]; rfl
  unfold rowQ
  rw [hk, show k + 2 - 1 = k + 1 from rfl, List.replicate_succ (n := k), List.append_assoc, List.cons_append, h0, dot_dots]
  have h1 : ∀ r, dot false (10 :: r) = 10 :: dot true r := fun r => by rw [dot, if_neg (by simp)]; rfl
  show 46 :: 46 :: (_ ++ dot false (193 :: (192 + w / 64 % 64) :: (128 + w % 64) :: 13 :: 10 :: r)) = _
  rw [dot_false (by decide), dot_false (by omega), dot_false (by omega), dot_false (by decide), h1]
  simp [List.replicate_succ]

theorem NL.lit {c : Nat} {r nums : List Nat} (h : c < 64) (H : NL r nums) : NL (c :: r) (c :: nums) :=
  .num (k := 0) (val := c) (by decide) (by rw [Nat.mod_eq_of_lt h]; exact .stop (by omega)) H
theorem NL.dots (k : Nat) {r nums : List Nat} (H : NL r nums) : NL (List.replicate k 46 ++ r) (List.replicate k 46 ++ nums) := by
  induction k with
  | zero => exact H
  | succ k ih => rw [List.replicate_succ]; exact .lit (by decide) ih
theorem NL.row {w : Nat} {r nums : List Nat} (H : NL r nums) : NL (rowQ w ++ r) (rowN w ++ nums) := by
  unfold rowQ rowN
  rw [List.append_assoc, List.append_assoc]
  refine .dots _ ?_
  show NL (193 :: (192 + w / 64 % 64) :: (128 + w % 64) :: 13 :: 10 :: r) ((4096 + w % 4096) :: 13 :: 10 :: nums)
  refine .num (k := 2) (by decide) ?_ (.lit (by decide) (.lit (by decide) H))
  refine .more (by decide) (.more (by omega) ?_)
  have : (193 % 64 * 64 + (192 + w / 64 % 64) % 64) * 64 + (128 + w % 64) % 64 = 4096 + w % 4096 := by omega
  rw [this]
  exact .stop (by omega)
theorem tail_dot : dot true (crlf tailW) = [97, 98, 99, 100, 46, 12, 46, 13, 10, 13, 10, 46, 46, 13, 10, 197] := by
  simp [tailW, crlf, dot]
theorem NL.tail : NL (dot true (crlf tailW)) tailN := by
  rw [tail_dot]
  refine .num (k := 4) (by decide) (.more (by decide) (.more (by decide) (.more (by decide) (.more (by decide) (.stop (by decide)))))) ?_
  exact .lit (by decide) (.lit (by decide) (.lit (by decide) (.lit (by decide) (.lit (by decide) (.lit (by decide) (.lit (by decide) (.lit (by decide) (.lit (by decide) (.lit (by decide) (.stop (by decide)))))))))))

/-- the text of the rows -/
def rowsW : List (Nat × List Nat) → List Nat
  | [] => []
  | p :: r => rowW p.1 p.2 ++ rowsW r
def rowsN (ws : List Nat) : List Nat := (ws.map rowN).flatten
theorem row_head {w : Nat} {e r r' : List Nat} : rowW w e ++ r ≠ 10 :: r' := by
  unfold rowW
  rcases hk : w / 4096 - 1 with _ | k
  · simp
  · simp [List.replicate_succ]
theorem rows_head (ps : List (Nat × List Nat)) (r' : List Nat) : rowsW ps ++ tailW ≠ 10 :: r' := by
  cases ps with
  | nil => simp [rowsW, tailW]
  | cons p ps => rw [rowsW, List.append_assoc]; exact row_head
/-- what is read of the rows and the tail -/
theorem NL.rows : ∀ (ps : List (Nat × List Nat)), (∀ p ∈ ps, 8192 ≤ p.1 ∧ IsEnd p.2) → NL (dot true (crlf (rowsW ps ++ tailW))) (rowsN (ps.map (·.1)) ++ tailN)
  | [], _ => NL.tail
  | p :: ps, h => by
    have hp := h p (.head _)
    rw [rowsW, List.append_assoc, crlf_row hp.2 (rows_head ps), dot_row hp.1]
    have := NL.row (w := p.1) (NL.rows ps fun q hq => h q (.tail _ hq))
    simpa [rowsN] using this
theorem rowW_length {w : Nat} {e : List Nat} (hw : w < 65536) (he : IsEnd e) : (rowW w e).length ≤ 20 := by
  unfold rowW
  rcases he with rfl | rfl | rfl <;> simp <;> omega
theorem rowsW_length : ∀ (ps : List (Nat × List Nat)), (∀ p ∈ ps, p.1 < 65536 ∧ IsEnd p.2) → (rowsW ps).length ≤ 20 * ps.length
  | [], _ => by simp [rowsW]
  | p :: ps, h => by
    have := rowsW_length ps fun q hq => h q (.tail _ hq)
    have h1 := rowW_length (h p (.head _)).1 (h p (.head _)).2
    rw [rowsW]
    simp only [List.length_append, List.length_cons]
    omega
end Mine

end

section
set_option linter.unusedVariables false
set_option maxRecDepth 100000
namespace Mine
def mx (p q : Int) : Int := if p ≤ q then q else p
def mn (c d : Int) : Int := if d ≤ c then d else c
theorem mx_spec (p q : Int) : p ≤ mx p q ∧ q ≤ mx p q ∧ (mx p q = p ∨ mx p q = q) := by unfold mx; split <;> omega
theorem mn_spec (p q : Int) : mn p q ≤ p ∧ mn p q ≤ q ∧ (mn p q = p ∨ mn p q = q) := by unfold mn; split <;> omega

/-- one turn on the poset 2 x 2 -/
structure T2 (a b x1 x2 x3 x4 y1 y2 y3 y4 : Int) : Prop where
  h4 : y4 = mx x3 x2 + b - x4
  h3 : y3 = x1 + y4 - x3
  h2 : y2 = x1 + y4 - x2
  h1 : y1 = a + mn y2 y3 - x1
structure O2 (a b x1 x2 x3 x4 : Int) : Prop where
  o1 : a ≤ x1
  o2 : x1 ≤ x2
  o3 : x1 ≤ x3
  o4 : x2 ≤ x4
  o5 : x3 ≤ x4
  o6 : x4 ≤ b
structure T3 (a b x1 x2 x3 x4 x5 x6 y1 y2 y3 y4 y5 y6 : Int) : Prop where
  h6 : y6 = mx x5 x3 + b - x6
  h5 : y5 = mx x4 x2 + y6 - x5
  h4 : y4 = x1 + y5 - x4
  h3 : y3 = x2 + y6 - x3
  h2 : y2 = x1 + mn y3 y5 - x2
  h1 : y1 = a + mn y2 y4 - x1
structure O3 (a b x1 x2 x3 x4 x5 x6 : Int) : Prop where
  o1 : a ≤ x1
  o2 : x1 ≤ x2
  o3 : x2 ≤ x3
  o4 : x1 ≤ x4
  o5 : x2 ≤ x5
  o6 : x4 ≤ x5
  o7 : x3 ≤ x6
  o8 : x5 ≤ x6
  o9 : x6 ≤ b

theorem mx_ub {p q r : Int} (h1 : p ≤ r) (h2 : q ≤ r) : mx p q ≤ r := by unfold mx; split <;> assumption
theorem mn_lb {p q r : Int} (h1 : r ≤ p) (h2 : r ≤ q) : r ≤ mn p q := by unfold mn; split <;> assumption
theorem T2.order {a b x1 x2 x3 x4 y1 y2 y3 y4 : Int} (t : T2 a b x1 x2 x3 x4 y1 y2 y3 y4) (o : O2 a b x1 x2 x3 x4) : O2 a b y1 y2 y3 y4 := by
  obtain ⟨h4, h3, h2, h1⟩ := t
  obtain ⟨o1, o2, o3, o4, o5, o6⟩ := o
  have m1 := (mx_spec x3 x2).1
  have m2 := (mx_spec x3 x2).2.1
  have m3 := mx_ub o5 o4
  have n1 := (mn_spec y2 y3).1
  have n2 := (mn_spec y2 y3).2.1
  have n3 : x1 ≤ mn y2 y3 := mn_lb (by clear h1 n1 n2; omega) (by clear h1 n1 n2; omega)
  exact ⟨by clear h2 h3 h4 m1 m2 m3; omega, by clear h2 h3 h4 m1 m2 m3; omega, by clear h2 h3 h4 m1 m2 m3; omega, by clear h1 h3 n1 n2 n3; omega, by clear h1 h2 n1 n2 n3; omega, by clear h1 h2 h3 n1 n2 n3; omega⟩
theorem T2.A {a b x1 x2 x3 x4 y1 y2 y3 y4 : Int} (t : T2 a b x1 x2 x3 x4 y1 y2 y3 y4) : y1 = a + b - x4 := by
  obtain ⟨h4, h3, h2, h1⟩ := t
  have m1 := mx_spec x3 x2
  have m2 := mn_spec y2 y3
  omega
theorem T2.B {a b x1 x2 x3 x4 y1 y2 y3 y4 z1 z2 z3 z4 : Int} (t : T2 a b x1 x2 x3 x4 y1 y2 y3 y4) (u : T2 a b y1 y2 y3 y4 z1 z2 z3 z4) : z2 = a + b - x3 ∧ z3 = a + b - x2 := by
  have hA := t.A
  obtain ⟨h4, h3, h2, h1⟩ := t
  obtain ⟨g4, g3, g2, g1⟩ := u
  have m1 := mx_spec x3 x2
  have m2 := mx_spec y3 y2
  clear h1 g1
  omega
theorem T2.D {a b x1 x2 x3 x4 y1 y2 y3 y4 z1 z2 z3 z4 w1 w2 w3 w4 : Int} (t : T2 a b x1 x2 x3 x4 y1 y2 y3 y4) (u : T2 a b y1 y2 y3 y4 z1 z2 z3 z4) (v : T2 a b z1 z2 z3 z4 w1 w2 w3 w4) : w4 = a + b - x1 := by
  have b1 := T2.B t u
  have b2 := T2.B u v
  have a2 := u.A
  have f2 := v.h2
  have e3 := t.h3
  have e2 := t.h2
  omega
theorem T3.order {a b x1 x2 x3 x4 x5 x6 y1 y2 y3 y4 y5 y6 : Int} (t : T3 a b x1 x2 x3 x4 x5 x6 y1 y2 y3 y4 y5 y6) (o : O3 a b x1 x2 x3 x4 x5 x6) : O3 a b y1 y2 y3 y4 y5 y6 := by
  obtain ⟨h6, h5, h4, h3, h2, h1⟩ := t
  obtain ⟨o1, o2, o3, o4, o5, o6, o7, o8, o9⟩ := o
  have m1 := (mx_spec x5 x3).1
  have m2 := (mx_spec x5 x3).2.1
  have m3 := mx_ub o8 o7
  have m4 := (mx_spec x4 x2).1
  have m5 := (mx_spec x4 x2).2.1
  have m6 := mx_ub o6 o5
  have p6 : y6 ≤ b := by clear h1 h2 h3 h4 h5 m1 m2 m4 m5 m6; omega
  have q3 : x3 ≤ y6 := by clear h1 h2 h3 h4 h5 m1 m3 m4 m5 m6; omega
  have q5 : x5 ≤ y6 := by clear h1 h2 h3 h4 h5 m2 m3 m4 m5 m6; omega
  clear h6 m1 m2 m3 o9 o8 o7
  have p5 : y5 ≤ y6 := by clear h1 h2 h3 h4 m4 m5; omega
  have r4 : x4 ≤ y5 := by clear h1 h2 h3 h4 m5 m6; omega
  have r2 : x2 ≤ y5 := by clear h1 h2 h3 h4 m4 m6; omega
  clear h5 m4 m5 m6 o6 o5
  have p4 : y4 ≤ y5 := by clear h1 h2 h3 r2 q3 q5; omega
  have r1 : x1 ≤ y4 := by clear h1 h2 h3 r2 q3 q5; omega
  have p3 : y3 ≤ y6 := by clear h1 h2 h4 r4 r2 r1; omega
  have s3 : x2 ≤ y3 := by clear h1 h2 h4 r4 r2 r1; omega
  clear h3 h4 r4 q3 q5 o3
  have n1 := (mn_spec y3 y5).1
  have n2 := (mn_spec y3 y5).2.1
  have n3 := mn_lb s3 r2
  have p2 : y2 ≤ y3 := by clear h1 p3 p4 p5 p6; omega
  have p2' : y2 ≤ y5 := by clear h1 p3 p4 p5 p6; omega
  have s2 : x1 ≤ y2 := by clear h1 p3 p4 p5 p6; omega
  clear h2 n1 n2 n3
  have n4 := (mn_spec y2 y4).1
  have n5 := (mn_spec y2 y4).2.1
  have n6 := mn_lb s2 r1
  exact ⟨by clear p2 p3 p4 p5 p6; omega, by clear p2 p3 p4 p5 p6; omega, p2, by clear p2 p3 p4 p5 p6; omega, p2', p4, p3, p5, p6⟩
theorem T3.A {a b x1 x2 x3 x4 x5 x6 y1 y2 y3 y4 y5 y6 : Int} (t : T3 a b x1 x2 x3 x4 x5 x6 y1 y2 y3 y4 y5 y6) : y1 = a + b - x6 := by
  obtain ⟨h6, h5, h4, h3, h2, h1⟩ := t
  have m1 := mx_spec x5 x3
  have m2 := mx_spec x4 x2
  have m3 := mn_spec y3 y5
  have m4 := mn_spec y2 y4
  omega
theorem mx_cases (p q : Int) : (p ≤ q ∧ mx p q = q) ∨ (q ≤ p ∧ mx p q = p) := by unfold mx; split <;> omega
theorem mn_cases (p q : Int) : (p ≤ q ∧ mn p q = p) ∨ (q ≤ p ∧ mn p q = q) := by unfold mn; split <;> omega
theorem mx_mn (p q : Int) : mx p q + mn q p = p + q := by unfold mx mn; split <;> omega
theorem mx_rel (p q : Int) : mx p q = q + mx (p - q) 0 := by unfold mx; split <;> split <;> omega
theorem mn_rel (p q : Int) : mn p q = p + mn 0 (q - p) := by unfold mn; split <;> split <;> omega
theorem key1 {u v e : Int} (he : e = mx v 0 + u) (h0 : 0 ≤ e) : e + mn 0 (mx (e - v) 0 - e) = mx u 0 := by
  unfold mx mn at *; split at he <;> split <;> split <;> split <;> omega
theorem key2 {u v e : Int} (he : e = mx v 0 + u) : mx (e - mn 0 e - v) 0 = mx u 0 + mx v 0 - v := by
  unfold mx mn at *; split at he <;> split <;> split <;> split <;> omega
theorem mx_neg (u : Int) : mx u 0 - mx (-u) 0 = u := by unfold mx; split <;> split <;> omega
theorem mx_of_neg {u : Int} (h : u ≤ 0) : mx u 0 = 0 := by unfold mx; split <;> omega
theorem mx_nonneg (u : Int) : 0 ≤ mx u 0 := by unfold mx; split <;> omega
theorem mn_zero {u : Int} (h : 0 ≤ u) : mn 0 u = 0 := by unfold mn; split <;> omega
theorem mn_neg {u : Int} (h : u ≤ 0) : mn 0 u = u := by unfold mn; split <;> omega
theorem T3.B4 {a b x1 x2 x3 x4 x5 x6 y1 y2 y3 y4 y5 y6 z1 z2 z3 z4 z5 z6 : Int} (t : T3 a b x1 x2 x3 x4 x5 x6 y1 y2 y3 y4 y5 y6) (u : T3 a b y1 y2 y3 y4 y5 y6 z1 z2 z3 z4 z5 z6) : z4 = a + b - x3 := by
  have h3 := t.h3
  have h2 := t.h2
  have h1 := t.h1
  have g6 := u.h6
  have g5 := u.h5
  have g4 := u.h4
  have i1 := mx_mn y5 y3
  have i2 := mx_mn y4 y2
  clear t u
  omega
theorem T3.B2 {a b x1 x2 x3 x4 x5 x6 y1 y2 y3 y4 y5 y6 z1 z2 z3 z4 z5 z6 : Int} (t : T3 a b x1 x2 x3 x4 x5 x6 y1 y2 y3 y4 y5 y6) (w : T3 a b y1 y2 y3 y4 y5 y6 z1 z2 z3 z4 z5 z6) : z2 = a + b - x5 := by
  have hA := t.A
  obtain ⟨h6, h5, h4, h3, h2, -⟩ := t
  obtain ⟨g6, g5, -, g3, g2, -⟩ := w
  obtain ⟨u, hu⟩ : ∃ u, u = x3 - x5 := ⟨_, rfl⟩
  obtain ⟨v, hv⟩ : ∃ v, v = x4 - x2 := ⟨_, rfl⟩
  obtain ⟨e, he⟩ : ∃ e, e = mx v 0 + u := ⟨_, rfl⟩
  have e1 : mx x5 x3 = x5 + mx u 0 := by
    have := mx_mn x5 x3
    rw [mn_rel x3 x5] at this
    have k : x5 - x3 = -u := by omega
    rw [k] at this
    have k2 : mn 0 (-u) = - mx u 0 := by unfold mx mn; split <;> split <;> omega
    omega
  have e2 : mx x4 x2 = x2 + mx v 0 := by rw [mx_rel, ← hv]
  have ee : y5 - y3 = e := by clear h2 h4 g6 g5 g3 g2; omega
  have i1 := mx_mn y5 y3
  rcases mn_cases y3 y5 with ⟨q, k⟩ | ⟨q, k⟩
  · have e3 : mx y4 y2 = y2 + mx (e - v) 0 := by
      rw [mx_rel, show y4 - y2 = e - v by clear h5 h6 g6 g5 g3 g2 he e1 e2; omega]
    have e4 : mn z3 z5 = z3 + mn 0 (mx (e - v) 0 - e) := by
      rw [mn_rel, show z5 - z3 = mx (e - v) 0 - e by clear h5 h6 g6 g2 he e1 e2 h2 h4 hA; omega]
    have := key1 he (by omega)
    clear h4 h5 g5 e2 e3 he
    omega
  · have e3 : mx y4 y2 = y2 + mx (-v) 0 := by
      rw [mx_rel, show y4 - y2 = -v by clear h5 h6 g6 g5 g3 g2 he e1 e2; omega]
    have n1 := mx_nonneg (-v)
    have n2 := mx_nonneg v
    have e4 : mn z3 z5 = z3 := by
      rw [mn_rel, mn_zero]
      · omega
      · clear h5 h6 g6 g2 he e1 e2 h2 h4 hA; omega
    have n3 : mx u 0 = 0 := mx_of_neg (by omega)
    clear h4 h5 g5 e2 e3 he
    omega
theorem T3.B {a b x1 x2 x3 x4 x5 x6 y1 y2 y3 y4 y5 y6 z1 z2 z3 z4 z5 z6 : Int} (t : T3 a b x1 x2 x3 x4 x5 x6 y1 y2 y3 y4 y5 y6) (u : T3 a b y1 y2 y3 y4 y5 y6 z1 z2 z3 z4 z5 z6) : z2 = a + b - x5 ∧ z4 = a + b - x3 :=
  ⟨t.B2 u, t.B4 u⟩
theorem T3.C {a b x1 x2 x3 x4 x5 x6 y1 y2 y3 y4 y5 y6 z1 z2 z3 z4 z5 z6 w1 w2 w3 w4 w5 w6 : Int} (t : T3 a b x1 x2 x3 x4 x5 x6 y1 y2 y3 y4 y5 y6) (r : T3 a b y1 y2 y3 y4 y5 y6 z1 z2 z3 z4 z5 z6) (s : T3 a b z1 z2 z3 z4 z5 z6 w1 w2 w3 w4 w5 w6) :
    w5 = a + b - x2 ∧ w3 = a + b - x4 := by
  have b1 := T3.B t r
  have b2 := T3.B r s
  have a2 := r.A
  have e4 := s.h4
  have e3 := t.h3
  have hw5 : w5 = a + b - x2 := by omega
  refine ⟨hw5, ?_⟩
  have f3 := s.h3
  have f5 := s.h5
  have k5 := r.h5
  have k3 := r.h3
  have l5 := t.h5
  have l4 := t.h4
  have l2 := t.h2
  clear e4 b2 a2 t r s
  obtain ⟨u, hu⟩ : ∃ u, u = x3 - x5 := ⟨_, rfl⟩
  obtain ⟨v, hv⟩ : ∃ v, v = x4 - x2 := ⟨_, rfl⟩
  obtain ⟨e, he⟩ : ∃ e, e = mx v 0 + u := ⟨_, rfl⟩
  have e2 : mx x4 x2 = x2 + mx v 0 := by rw [mx_rel, ← hv]
  have ee : y5 - y3 = e := by clear b1 f3 f5 k5 k3 l4 l2 hw5; omega
  have m1 : mn y3 y5 = y3 + mn 0 e := by rw [mn_rel, ee]
  have m2 : mx y4 y2 = y2 + (mx u 0 + mx v 0 - v) := by
    rw [mx_rel, show y4 - y2 = e - mn 0 e - v by clear b1 f3 f5 k5 k3 l5 e3 hw5 he e2; omega, key2 he]
  have m3 : mx z4 z2 = z2 + mx (-u) 0 := by rw [mx_rel, show z4 - z2 = -u by clear f3 f5 k5 k3 l5 l4 l2 e3 hw5 he e2 ee m1 m2; omega]
  have m4 := mx_neg u
  clear l4 l2 m1 l5 e3 e2
  omega
theorem T3.D {a b x1 x2 x3 x4 x5 x6 y1 y2 y3 y4 y5 y6 z1 z2 z3 z4 z5 z6 w1 w2 w3 w4 w5 w6 u1 u2 u3 u4 u5 u6 : Int} (t : T3 a b x1 x2 x3 x4 x5 x6 y1 y2 y3 y4 y5 y6) (u : T3 a b y1 y2 y3 y4 y5 y6 z1 z2 z3 z4 z5 z6)
    (v : T3 a b z1 z2 z3 z4 z5 z6 w1 w2 w3 w4 w5 w6) (r : T3 a b w1 w2 w3 w4 w5 w6 u1 u2 u3 u4 u5 u6) : u6 = a + b - x1 := by
  have c1 := T3.C t u v
  have c2 := T3.C u v r
  have b2 := T3.B u v
  have f5 := r.h5
  have e2 := t.h2
  have m1 := mx_spec w4 w2
  have m2 := mn_spec y3 y5
  omega
end Mine

end

section
set_option linter.unusedVariables false
set_option linter.unusedSimpArgs false
set_option maxRecDepth 100000
set_option maxHeartbeats 1000000
namespace Mine
theorem mx_add (p q c : Int) : mx (p + c) (q + c) = mx p q + c := by unfold mx; split <;> split <;> omega
theorem mn_add (p q c : Int) : mn (p + c) (q + c) = mn p q + c := by unfold mn; split <;> split <;> omega
theorem mx_self (p : Int) : mx p p = p := by unfold mx; split <;> rfl
theorem mn_self (p : Int) : mn p p = p := by unfold mn; split <;> rfl
section
variable (a b x1 x2 x3 x4 x5 x6 : Int)
theorem tog2_4 : tog 2 [a, x1, x2, x3, x4, b] 4 = [a, x1, x2, x3, mx x3 x2 + mn b b - x4, b] := rfl
theorem tog2_3 : tog 2 [a, x1, x2, x3, x4, b] 3 = [a, x1, x2, mx x1 x1 + mn x4 x4 - x3, x4, b] := rfl
theorem tog2_2 : tog 2 [a, x1, x2, x3, x4, b] 2 = [a, x1, mx x1 x1 + mn x4 x4 - x2, x3, x4, b] := rfl
theorem tog2_1 : tog 2 [a, x1, x2, x3, x4, b] 1 = [a, mx a a + mn x2 x3 - x1, x2, x3, x4, b] := rfl
theorem tog3_6 : tog 3 [a, x1, x2, x3, x4, x5, x6, b] 6 = [a, x1, x2, x3, x4, x5, mx x5 x3 + mn b b - x6, b] := rfl
theorem tog3_5 : tog 3 [a, x1, x2, x3, x4, x5, x6, b] 5 = [a, x1, x2, x3, x4, mx x4 x2 + mn x6 x6 - x5, x6, b] := rfl
theorem tog3_4 : tog 3 [a, x1, x2, x3, x4, x5, x6, b] 4 = [a, x1, x2, x3, mx x1 x1 + mn x5 x5 - x4, x5, x6, b] := rfl
theorem tog3_3 : tog 3 [a, x1, x2, x3, x4, x5, x6, b] 3 = [a, x1, x2, mx x2 x2 + mn x6 x6 - x3, x4, x5, x6, b] := rfl
theorem tog3_2 : tog 3 [a, x1, x2, x3, x4, x5, x6, b] 2 = [a, x1, mx x1 x1 + mn x3 x5 - x2, x3, x4, x5, x6, b] := rfl
theorem tog3_1 : tog 3 [a, x1, x2, x3, x4, x5, x6, b] 1 = [a, mx a a + mn x2 x4 - x1, x2, x3, x4, x5, x6, b] := rfl
theorem togs2 (ns : List Int) : togs 2 4 ns = tog 2 (tog 2 (tog 2 (tog 2 ns 4) 3) 2) 1 := rfl
theorem togs3 (ns : List Int) : togs 3 6 ns = tog 3 (tog 3 (tog 3 (tog 3 (tog 3 (tog 3 ns 6) 5) 4) 3) 2) 1 := rfl
theorem turn2 (c : Int) : ∃ y1 y2 y3 y4, T2 a b x1 x2 x3 x4 y1 y2 y3 y4 ∧ togs 2 4 [a + c, x1 + c, x2 + c, x3 + c, x4 + c, b + c] = [a + c, y1 + c, y2 + c, y3 + c, y4 + c, b + c] := by
  obtain ⟨y4, h4⟩ : ∃ y, y = mx x3 x2 + b - x4 := ⟨_, rfl⟩
  obtain ⟨y3, h3⟩ : ∃ y, y = x1 + y4 - x3 := ⟨_, rfl⟩
  obtain ⟨y2, h2⟩ : ∃ y, y = x1 + y4 - x2 := ⟨_, rfl⟩
  obtain ⟨y1, h1⟩ : ∃ y, y = a + mn y2 y3 - x1 := ⟨_, rfl⟩
  refine ⟨y1, y2, y3, y4, ⟨h4, h3, h2, h1⟩, ?_⟩
  rw [togs2, tog2_4, mx_add, mn_self, show mx x3 x2 + c + (b + c) - (x4 + c) = y4 + c by omega, tog2_3, mx_self, mn_self, show x1 + c + (y4 + c) - (x3 + c) = y3 + c by omega,
    tog2_2, mx_self, mn_self, show x1 + c + (y4 + c) - (x2 + c) = y2 + c by omega, tog2_1, mx_self, mn_add, show a + c + (mn y2 y3 + c) - (x1 + c) = y1 + c by omega]
theorem turn3 (c : Int) : ∃ y1 y2 y3 y4 y5 y6, T3 a b x1 x2 x3 x4 x5 x6 y1 y2 y3 y4 y5 y6 ∧ togs 3 6 [a + c, x1 + c, x2 + c, x3 + c, x4 + c, x5 + c, x6 + c, b + c] = [a + c, y1 + c, y2 + c, y3 + c, y4 + c, y5 + c, y6 + c, b + c] := by
  obtain ⟨y6, h6⟩ : ∃ y, y = mx x5 x3 + b - x6 := ⟨_, rfl⟩
  obtain ⟨y5, h5⟩ : ∃ y, y = mx x4 x2 + y6 - x5 := ⟨_, rfl⟩
  obtain ⟨y4, h4⟩ : ∃ y, y = x1 + y5 - x4 := ⟨_, rfl⟩
  obtain ⟨y3, h3⟩ : ∃ y, y = x2 + y6 - x3 := ⟨_, rfl⟩
  obtain ⟨y2, h2⟩ : ∃ y, y = x1 + mn y3 y5 - x2 := ⟨_, rfl⟩
  obtain ⟨y1, h1⟩ : ∃ y, y = a + mn y2 y4 - x1 := ⟨_, rfl⟩
  refine ⟨y1, y2, y3, y4, y5, y6, ⟨h6, h5, h4, h3, h2, h1⟩, ?_⟩
  rw [togs3, tog3_6, mx_add, mn_self, show mx x5 x3 + c + (b + c) - (x6 + c) = y6 + c by omega, tog3_5, mx_add, mn_self, show mx x4 x2 + c + (y6 + c) - (x5 + c) = y5 + c by omega,
    tog3_4, mx_self, mn_self, show x1 + c + (y5 + c) - (x4 + c) = y4 + c by omega, tog3_3, mx_self, mn_self, show x2 + c + (y6 + c) - (x3 + c) = y3 + c by omega,
    tog3_2, mx_self, mn_add, show x1 + c + (mn y3 y5 + c) - (x2 + c) = y2 + c by omega, tog3_1, mx_self, mn_add, show a + c + (mn y2 y4 + c) - (x1 + c) = y1 + c by omega]
end
def up (ns : List Int) : List Int := ns.map (· + 4096)
/-- the worths after i rounds -/
def VV (q : Int) (v0 : List Int) : Nat → List Int
  | 0 => v0
  | i + 1 => togs q (2 * q).toNat (up (VV q v0 i))

/-- all that the law's loop wants of the worths -/
structure Fine (q : Int) (v0 : List Int) : Prop where
  len : ∀ i, i ≤ q.toNat + 1 → (VV q v0 i).length = 2 * q.toNat + 2
  bnd : ∀ i, i ≤ q.toNat → ∀ w ∈ VV q v0 i, 8192 ≤ w ∧ w < 65536
  ord : ∀ i, i ≤ q.toNat → ∀ x, 1 ≤ x → x ≤ 2 * q → ∀ y ∈ besO x q, (VV q v0 (i + 1)).getD x.toNat 0 ≤ (VV q v0 (i + 1)).getD y.toNat 0
  recip : ∀ i, i ≤ q.toNat → ∀ x, 1 ≤ x → x ≤ 2 * q → (i : Int) + 1 = 1 + (x - 1).fdiv q + (x - 1).fmod q →
    (VV q v0 (i + 1)).getD x.toNat 0 = v0.getD 0 0 + v0.getD (2 * q + 1).toNat 0 - v0.getD (2 * q + 1 - x).toNat 0 + 4096 * ((i : Int) + 1)

theorem bnd2 {a b x1 x2 x3 x4 c : Int} (o : O2 a b x1 x2 x3 x4) : ∀ w ∈ [a + c, x1 + c, x2 + c, x3 + c, x4 + c, b + c], a + c ≤ w ∧ w ≤ b + c := by
  obtain ⟨k1, k2, k3, k4, k5, k6⟩ := o
  intro w hw
  simp only [List.mem_cons, List.not_mem_nil, or_false] at hw
  rcases hw with rfl | rfl | rfl | rfl | rfl | rfl <;> omega
theorem ord2 {a b x1 x2 x3 x4 c : Int} (o : O2 a b x1 x2 x3 x4) : ∀ x, 1 ≤ x → x ≤ 4 → ∀ y ∈ besO x 2, ([a + c, x1 + c, x2 + c, x3 + c, x4 + c, b + c] : List Int).getD x.toNat 0 ≤ ([a + c, x1 + c, x2 + c, x3 + c, x4 + c, b + c] : List Int).getD y.toNat 0 := by
  obtain ⟨k1, k2, k3, k4, k5, k6⟩ := o
  intro x h1 h2 y hy
  rcases (show x = 1 ∨ x = 2 ∨ x = 3 ∨ x = 4 by omega) with rfl | rfl | rfl | rfl
  · replace hy : y ∈ [(2 : Int), (3 : Int)] := hy
    simp only [List.mem_cons, List.not_mem_nil, or_false] at hy
    rcases hy with rfl | rfl
    · show x1 + c ≤ x2 + c
      exact Int.add_le_add_right (by assumption) c
    · show x1 + c ≤ x3 + c
      exact Int.add_le_add_right (by assumption) c
  · replace hy : y ∈ [(4 : Int)] := hy
    simp only [List.mem_cons, List.not_mem_nil, or_false] at hy
    rcases hy with rfl
    · show x2 + c ≤ x4 + c
      exact Int.add_le_add_right (by assumption) c
  · replace hy : y ∈ [(4 : Int)] := hy
    simp only [List.mem_cons, List.not_mem_nil, or_false] at hy
    rcases hy with rfl
    · show x3 + c ≤ x4 + c
      exact Int.add_le_add_right (by assumption) c
  · replace hy : y ∈ [(5 : Int)] := hy
    simp only [List.mem_cons, List.not_mem_nil, or_false] at hy
    rcases hy with rfl
    · show x4 + c ≤ b + c
      exact Int.add_le_add_right (by assumption) c
theorem bnd3 {a b x1 x2 x3 x4 x5 x6 c : Int} (o : O3 a b x1 x2 x3 x4 x5 x6) : ∀ w ∈ [a + c, x1 + c, x2 + c, x3 + c, x4 + c, x5 + c, x6 + c, b + c], a + c ≤ w ∧ w ≤ b + c := by
  obtain ⟨k1, k2, k3, k4, k5, k6, k7, k8, k9⟩ := o
  intro w hw
  simp only [List.mem_cons, List.not_mem_nil, or_false] at hw
  rcases hw with rfl | rfl | rfl | rfl | rfl | rfl | rfl | rfl <;> omega
theorem ord3 {a b x1 x2 x3 x4 x5 x6 c : Int} (o : O3 a b x1 x2 x3 x4 x5 x6) : ∀ x, 1 ≤ x → x ≤ 6 → ∀ y ∈ besO x 3, ([a + c, x1 + c, x2 + c, x3 + c, x4 + c, x5 + c, x6 + c, b + c] : List Int).getD x.toNat 0 ≤ ([a + c, x1 + c, x2 + c, x3 + c, x4 + c, x5 + c, x6 + c, b + c] : List Int).getD y.toNat 0 := by
  obtain ⟨k1, k2, k3, k4, k5, k6, k7, k8, k9⟩ := o
  intro x h1 h2 y hy
  rcases (show x = 1 ∨ x = 2 ∨ x = 3 ∨ x = 4 ∨ x = 5 ∨ x = 6 by omega) with rfl | rfl | rfl | rfl | rfl | rfl
  · replace hy : y ∈ [(2 : Int), (4 : Int)] := hy
    simp only [List.mem_cons, List.not_mem_nil, or_false] at hy
    rcases hy with rfl | rfl
    · show x1 + c ≤ x2 + c
      exact Int.add_le_add_right (by assumption) c
    · show x1 + c ≤ x4 + c
      exact Int.add_le_add_right (by assumption) c
  · replace hy : y ∈ [(3 : Int), (5 : Int)] := hy
    simp only [List.mem_cons, List.not_mem_nil, or_false] at hy
    rcases hy with rfl | rfl
    · show x2 + c ≤ x3 + c
      exact Int.add_le_add_right (by assumption) c
    · show x2 + c ≤ x5 + c
      exact Int.add_le_add_right (by assumption) c
  · replace hy : y ∈ [(6 : Int)] := hy
    simp only [List.mem_cons, List.not_mem_nil, or_false] at hy
    rcases hy with rfl
    · show x3 + c ≤ x6 + c
      exact Int.add_le_add_right (by assumption) c
  · replace hy : y ∈ [(5 : Int)] := hy
    simp only [List.mem_cons, List.not_mem_nil, or_false] at hy
    rcases hy with rfl
    · show x4 + c ≤ x5 + c
      exact Int.add_le_add_right (by assumption) c
  · replace hy : y ∈ [(6 : Int)] := hy
    simp only [List.mem_cons, List.not_mem_nil, or_false] at hy
    rcases hy with rfl
    · show x5 + c ≤ x6 + c
      exact Int.add_le_add_right (by assumption) c
  · replace hy : y ∈ [(7 : Int)] := hy
    simp only [List.mem_cons, List.not_mem_nil, or_false] at hy
    rcases hy with rfl
    · show x6 + c ≤ b + c
      exact Int.add_le_add_right (by assumption) c
theorem fine2 {a b x1 x2 x3 x4 : Int} (o : O2 a b x1 x2 x3 x4) (ha : 8192 ≤ a) (hb : b < 40000) : Fine 2 [a, x1, x2, x3, x4, b] := by
  obtain ⟨y1, y2, y3, y4, t0, ht0⟩ := turn2 a b x1 x2 x3 x4 4096
  obtain ⟨z1, z2, z3, z4, t1, ht1⟩ := turn2 a b y1 y2 y3 y4 8192
  obtain ⟨w1, w2, w3, w4, t2, ht2⟩ := turn2 a b z1 z2 z3 z4 12288
  have o0 := o
  have o1 := T2.order t0 o0
  have o2 := T2.order t1 o1
  have o3 := T2.order t2 o2
  have e0 : VV 2 [a, x1, x2, x3, x4, b] 0 = [a, x1, x2, x3, x4, b] := rfl
  have e1 : VV 2 [a, x1, x2, x3, x4, b] 1 = [a + 4096, y1 + 4096, y2 + 4096, y3 + 4096, y4 + 4096, b + 4096] := ht0
  have p1 : up [a + 4096, y1 + 4096, y2 + 4096, y3 + 4096, y4 + 4096, b + 4096] = [a + 8192, y1 + 8192, y2 + 8192, y3 + 8192, y4 + 8192, b + 8192] := by
    simp only [up, List.map_cons, List.map_nil, Int.add_assoc]; rfl
  have e2 : VV 2 [a, x1, x2, x3, x4, b] 2 = [a + 8192, z1 + 8192, z2 + 8192, z3 + 8192, z4 + 8192, b + 8192] := by
    show togs 2 4 (up (VV 2 [a, x1, x2, x3, x4, b] 1)) = _
    rw [e1, p1, ht1]
  have p2 : up [a + 8192, z1 + 8192, z2 + 8192, z3 + 8192, z4 + 8192, b + 8192] = [a + 12288, z1 + 12288, z2 + 12288, z3 + 12288, z4 + 12288, b + 12288] := by
    simp only [up, List.map_cons, List.map_nil, Int.add_assoc]; rfl
  have e3 : VV 2 [a, x1, x2, x3, x4, b] 3 = [a + 12288, w1 + 12288, w2 + 12288, w3 + 12288, w4 + 12288, b + 12288] := by
    show togs 2 4 (up (VV 2 [a, x1, x2, x3, x4, b] 2)) = _
    rw [e2, p2, ht2]
  have r1 := T2.A t0
  have r2 := T2.B t0 t1
  have r3 := T2.D t0 t1 t2
  clear ht0 ht1 ht2 t0 t1 t2
  constructor
  · intro i hi
    have hi' : i = 0 ∨ i = 1 ∨ i = 2 ∨ i = 3 := by simp at hi; omega
    rcases hi' with rfl | rfl | rfl | rfl
    · rw [e0]; rfl
    · rw [e1]; rfl
    · rw [e2]; rfl
    · rw [e3]; rfl
  · intro i hi w hw
    have hi' : i = 0 ∨ i = 1 ∨ i = 2 := by simp at hi; omega
    rcases hi' with rfl | rfl | rfl
    · rw [e0] at hw
      have := bnd2 (c := 0) o0 w (by simpa using hw)
      omega
    · rw [e1] at hw
      have := bnd2 o1 w hw
      omega
    · rw [e2] at hw
      have := bnd2 o2 w hw
      omega
  · intro i hi x h1 h2 y hy
    have hi' : i = 0 ∨ i = 1 ∨ i = 2 := by simp at hi; omega
    rcases hi' with rfl | rfl | rfl
    · rw [e1]; exact ord2 o1 x h1 h2 y hy
    · rw [e2]; exact ord2 o2 x h1 h2 y hy
    · rw [e3]; exact ord2 o3 x h1 h2 y hy
  · intro i hi x h1 h2 hx
    have hi' : i = 0 ∨ i = 1 ∨ i = 2 := by simp at hi; omega
    have hx' : x = 1 ∨ x = 2 ∨ x = 3 ∨ x = 4 := by omega
    rcases hx' with rfl | rfl | rfl | rfl
    · have hi2 : i = 0 := by
        have e : ((1 : Int) - 1).fdiv 2 + ((1 : Int) - 1).fmod 2 = 0 := by decide
        omega
      subst hi2
      rw [e1]
      show y1 + 4096 = a + b - x4 + 4096 * (((0 : Nat) : Int) + 1)
      omega
    · have hi2 : i = 1 := by
        have e : ((2 : Int) - 1).fdiv 2 + ((2 : Int) - 1).fmod 2 = 1 := by decide
        omega
      subst hi2
      rw [e2]
      show z2 + 8192 = a + b - x3 + 4096 * (((1 : Nat) : Int) + 1)
      omega
    · have hi2 : i = 1 := by
        have e : ((3 : Int) - 1).fdiv 2 + ((3 : Int) - 1).fmod 2 = 1 := by decide
        omega
      subst hi2
      rw [e2]
      show z3 + 8192 = a + b - x2 + 4096 * (((1 : Nat) : Int) + 1)
      omega
    · have hi2 : i = 2 := by
        have e : ((4 : Int) - 1).fdiv 2 + ((4 : Int) - 1).fmod 2 = 2 := by decide
        omega
      subst hi2
      rw [e3]
      show w4 + 12288 = a + b - x1 + 4096 * (((2 : Nat) : Int) + 1)
      omega
theorem fine3 {a b x1 x2 x3 x4 x5 x6 : Int} (o : O3 a b x1 x2 x3 x4 x5 x6) (ha : 8192 ≤ a) (hb : b < 40000) : Fine 3 [a, x1, x2, x3, x4, x5, x6, b] := by
  obtain ⟨y1, y2, y3, y4, y5, y6, t0, ht0⟩ := turn3 a b x1 x2 x3 x4 x5 x6 4096
  obtain ⟨z1, z2, z3, z4, z5, z6, t1, ht1⟩ := turn3 a b y1 y2 y3 y4 y5 y6 8192
  obtain ⟨w1, w2, w3, w4, w5, w6, t2, ht2⟩ := turn3 a b z1 z2 z3 z4 z5 z6 12288
  obtain ⟨u1, u2, u3, u4, u5, u6, t3, ht3⟩ := turn3 a b w1 w2 w3 w4 w5 w6 16384
  have o0 := o
  have o1 := T3.order t0 o0
  have o2 := T3.order t1 o1
  have o3 := T3.order t2 o2
  have o4 := T3.order t3 o3
  have e0 : VV 3 [a, x1, x2, x3, x4, x5, x6, b] 0 = [a, x1, x2, x3, x4, x5, x6, b] := rfl
  have e1 : VV 3 [a, x1, x2, x3, x4, x5, x6, b] 1 = [a + 4096, y1 + 4096, y2 + 4096, y3 + 4096, y4 + 4096, y5 + 4096, y6 + 4096, b + 4096] := ht0
  have p1 : up [a + 4096, y1 + 4096, y2 + 4096, y3 + 4096, y4 + 4096, y5 + 4096, y6 + 4096, b + 4096] = [a + 8192, y1 + 8192, y2 + 8192, y3 + 8192, y4 + 8192, y5 + 8192, y6 + 8192, b + 8192] := by
    simp only [up, List.map_cons, List.map_nil, Int.add_assoc]; rfl
  have e2 : VV 3 [a, x1, x2, x3, x4, x5, x6, b] 2 = [a + 8192, z1 + 8192, z2 + 8192, z3 + 8192, z4 + 8192, z5 + 8192, z6 + 8192, b + 8192] := by
    show togs 3 6 (up (VV 3 [a, x1, x2, x3, x4, x5, x6, b] 1)) = _
    rw [e1, p1, ht1]
  have p2 : up [a + 8192, z1 + 8192, z2 + 8192, z3 + 8192, z4 + 8192, z5 + 8192, z6 + 8192, b + 8192] = [a + 12288, z1 + 12288, z2 + 12288, z3 + 12288, z4 + 12288, z5 + 12288, z6 + 12288, b + 12288] := by
    simp only [up, List.map_cons, List.map_nil, Int.add_assoc]; rfl
  have e3 : VV 3 [a, x1, x2, x3, x4, x5, x6, b] 3 = [a + 12288, w1 + 12288, w2 + 12288, w3 + 12288, w4 + 12288, w5 + 12288, w6 + 12288, b + 12288] := by
    show togs 3 6 (up (VV 3 [a, x1, x2, x3, x4, x5, x6, b] 2)) = _
    rw [e2, p2, ht2]
  have p3 : up [a + 12288, w1 + 12288, w2 + 12288, w3 + 12288, w4 + 12288, w5 + 12288, w6 + 12288, b + 12288] = [a + 16384, w1 + 16384, w2 + 16384, w3 + 16384, w4 + 16384, w5 + 16384, w6 + 16384, b + 16384] := by
    simp only [up, List.map_cons, List.map_nil, Int.add_assoc]; rfl
  have e4 : VV 3 [a, x1, x2, x3, x4, x5, x6, b] 4 = [a + 16384, u1 + 16384, u2 + 16384, u3 + 16384, u4 + 16384, u5 + 16384, u6 + 16384, b + 16384] := by
    show togs 3 6 (up (VV 3 [a, x1, x2, x3, x4, x5, x6, b] 3)) = _
    rw [e3, p3, ht3]
  have r1 := T3.A t0
  have r2 := T3.B t0 t1
  have r3 := T3.C t0 t1 t2
  have r4 := T3.D t0 t1 t2 t3
  clear ht0 ht1 ht2 ht3 t0 t1 t2 t3
  constructor
  · intro i hi
    have hi' : i = 0 ∨ i = 1 ∨ i = 2 ∨ i = 3 ∨ i = 4 := by simp at hi; omega
    rcases hi' with rfl | rfl | rfl | rfl | rfl
    · rw [e0]; rfl
    · rw [e1]; rfl
    · rw [e2]; rfl
    · rw [e3]; rfl
    · rw [e4]; rfl
  · intro i hi w hw
    have hi' : i = 0 ∨ i = 1 ∨ i = 2 ∨ i = 3 := by simp at hi; omega
    rcases hi' with rfl | rfl | rfl | rfl
    · rw [e0] at hw
      have := bnd3 (c := 0) o0 w (by simpa using hw)
      omega
    · rw [e1] at hw
      have := bnd3 o1 w hw
      omega
    · rw [e2] at hw
      have := bnd3 o2 w hw
      omega
    · rw [e3] at hw
      have := bnd3 o3 w hw
      omega
  · intro i hi x h1 h2 y hy
    have hi' : i = 0 ∨ i = 1 ∨ i = 2 ∨ i = 3 := by simp at hi; omega
    rcases hi' with rfl | rfl | rfl | rfl
    · rw [e1]; exact ord3 o1 x h1 h2 y hy
    · rw [e2]; exact ord3 o2 x h1 h2 y hy
    · rw [e3]; exact ord3 o3 x h1 h2 y hy
    · rw [e4]; exact ord3 o4 x h1 h2 y hy
  · intro i hi x h1 h2 hx
    have hi' : i = 0 ∨ i = 1 ∨ i = 2 ∨ i = 3 := by simp at hi; omega
    have hx' : x = 1 ∨ x = 2 ∨ x = 3 ∨ x = 4 ∨ x = 5 ∨ x = 6 := by omega
    rcases hx' with rfl | rfl | rfl | rfl | rfl | rfl
    · have hi2 : i = 0 := by
        have e : ((1 : Int) - 1).fdiv 3 + ((1 : Int) - 1).fmod 3 = 0 := by decide
        omega
      subst hi2
      rw [e1]
      show y1 + 4096 = a + b - x6 + 4096 * (((0 : Nat) : Int) + 1)
      omega
    · have hi2 : i = 1 := by
        have e : ((2 : Int) - 1).fdiv 3 + ((2 : Int) - 1).fmod 3 = 1 := by decide
        omega
      subst hi2
      rw [e2]
      show z2 + 8192 = a + b - x5 + 4096 * (((1 : Nat) : Int) + 1)
      omega
    · have hi2 : i = 2 := by
        have e : ((3 : Int) - 1).fdiv 3 + ((3 : Int) - 1).fmod 3 = 2 := by decide
        omega
      subst hi2
      rw [e3]
      show w3 + 12288 = a + b - x4 + 4096 * (((2 : Nat) : Int) + 1)
      omega
    · have hi2 : i = 1 := by
        have e : ((4 : Int) - 1).fdiv 3 + ((4 : Int) - 1).fmod 3 = 1 := by decide
        omega
      subst hi2
      rw [e2]
      show z4 + 8192 = a + b - x3 + 4096 * (((1 : Nat) : Int) + 1)
      omega
    · have hi2 : i = 2 := by
        have e : ((5 : Int) - 1).fdiv 3 + ((5 : Int) - 1).fmod 3 = 2 := by decide
        omega
      subst hi2
      rw [e3]
      show w5 + 12288 = a + b - x2 + 4096 * (((2 : Nat) : Int) + 1)
      omega
    · have hi2 : i = 3 := by
        have e : ((6 : Int) - 1).fdiv 3 + ((6 : Int) - 1).fmod 3 = 3 := by decide
        omega
      subst hi2
      rw [e4]
      show u6 + 16384 = a + b - x1 + 4096 * (((3 : Nat) : Int) + 1)
      omega
end Mine

end

section
open PySem PySem.W PyProof.Rows PySem.Calls
open AutoSeq1 (wpAny_loadPart')
set_option maxRecDepth 100000
set_option maxHeartbeats 1000000
set_option linter.unusedSimpArgs false
set_option linter.unusedVariables false
namespace Mine
section
variable {prog : Program} {w : World} {A : Around} {E : Value → Shared → Prop} {s : Shared}
theorem nextOf_tuple_item {it t : Addr} {i : Nat} {items : Array Value} {x : Value} {Q : Value → Shared → Prop} (hit : s.heap.IsTupleIter it t i) (ht : s.heap.IsTuple t items) (hx : items[i]? = some x)
    (hQ : ∀ h', h'.IsTupleIter it t (i + 1) → Heap.SameBut it s.heap h' → Q x { s with heap := h' }) :
    wpAny (model prog w) A (Builtin.SmallTypes.nextOf (.ref it)) Q E s := by
  obtain ⟨o, ho, hc, hd⟩ := id hit
  obtain ⟨ol, hol, _, nl, hdl⟩ := ht
  unfold Builtin.SmallTypes.nextOf
  refine wpAny_bind (wpAny_callSpecial?_slot (name := Str.ofString "__next__") hit.typeIs F.slot_tuple_iterator_next
    (wpAny_call_entry F.slot_tuple_iterator_next hit.typeIs F.entry_tuple_iterator_next ?_ (F.args_tuple_iterator_next_1 _)))
  show wpAny _ _ (field (.ref it) 0 >>= _) _ _ s
  refine wpAny_bind (wpAny_field ho hd (x := .ref t) rfl ?_)
  show wpAny _ _ (if (Value.ref t == Value.none) = true then _ else _) _ _ s
  rw [if_neg (show ¬ ((Value.ref t == Value.none) = true) from Bool.false_ne_true)]
  show wpAny _ _ (field (.ref it) 1 >>= _) _ _ s
  refine wpAny_bind (wpAny_field ho hd (x := .int i 0) rfl ?_)
  show wpAny _ _ (seqItems? (.ref t) >>= _) _ _ s
  refine wpAny_bind (wpAny_seqItems hol hdl ?_)
  simp only [Int.toNat_natCast, hx]
  refine wpAny_bind (wpAny_setField ho hd (by simp) (wpAny_pure ⟨x, rfl, wpAny_pure (hQ _ ?_ (Heap.SameBut.update ..))⟩))
  exact ⟨_, Heap.get?_update_self _ ho (Obj.isFreed_of_fields (Obj.data_mapFields hd _)), (Obj.cls_mapFields ..).trans hc, by
    rw [Obj.data_mapFields hd]; simp [rawInt]⟩
theorem nextOf_tuple_end {it t : Addr} {i : Nat} {items : Array Value} {Q : Value → Shared → Prop} (hh : A.handled = none)
    (hit : s.heap.IsTupleIter it t i) (ht : s.heap.IsTuple t items) (hx : items[i]? = none)
    (hE : ∀ h' e, Heap.ExtBut it s.heap h' → (∃ o, h'.get? e = some o ∧ o.cls = .type "StopIteration") → E (.ref e) { s with heap := h' }) :
    wpAny (model prog w) A (Builtin.SmallTypes.nextOf (.ref it)) Q E s := by
  obtain ⟨o, ho, hc, hd⟩ := id hit
  obtain ⟨ol, hol, _, nl, hdl⟩ := ht
  unfold Builtin.SmallTypes.nextOf
  refine wpAny_bind (wpAny_callSpecial?_slot (name := Str.ofString "__next__") hit.typeIs F.slot_tuple_iterator_next
    (wpAny_call_entry F.slot_tuple_iterator_next hit.typeIs F.entry_tuple_iterator_next ?_ (F.args_tuple_iterator_next_1 _)))
  show wpAny _ _ (field (.ref it) 0 >>= _) _ _ s
  refine wpAny_bind (wpAny_field ho hd (x := .ref t) rfl ?_)
  show wpAny _ _ (if (Value.ref t == Value.none) = true then _ else _) _ _ s
  rw [if_neg (show ¬ ((Value.ref t == Value.none) = true) from Bool.false_ne_true)]
  show wpAny _ _ (field (.ref it) 1 >>= _) _ _ s
  refine wpAny_bind (wpAny_field ho hd (x := .int i 0) rfl ?_)
  show wpAny _ _ (seqItems? (.ref t) >>= _) _ _ s
  refine wpAny_bind (wpAny_seqItems hol hdl ?_)
  simp only [Int.toNat_natCast, hx]
  refine wpAny_bind (wpAny_rule (wpAny_bind (wpAny_setField ho hd (by simp) ?_)))
  show wpAny _ _ (newExc (.type "StopIteration") [] >>= _) _ _ _
  refine wpAny_bind ?_
  simp only [newExc, newTuple]
  refine wpAny_bind (wpAny_newObj_type ?_ (by size_fits))
  refine wpAny_bind (m := firstArgMember _ _) (wpAny_of_eq (a := Value.none) (by first | rfl | (simp only [firstArgMember]; rfl)) ?_)
  refine wpAny_newObj_type ?_ (by size_fits)
  simp only [raiseNew]
  refine wpAny_bind (wpAny_handled ?_)
  first | rw [show A.in1.handled = none from hh] | rw [hh]
  refine wpAny_bind (wpAny_pure (wpAny_throw ?_))
  exact hE _ _ (((Heap.SameBut.update ..).extBut.push _).push _) ⟨_, Heap.get?_push_size _ rfl, rfl⟩
end
theorem drawsTuple {prog : Program} {w : World} {A : Around} (hh : A.handled = none) (it l : Addr) (hne : l ≠ it) (items : Array Value) :
    Draws prog w A it [it, l] items.size (fun i v => items[i]? = some v) (fun i h => h.IsTupleIter it l i ∧ h.IsTuple l items) where
  live := fun _ _ st => let ⟨o, ho, _⟩ := st.1; ⟨o, ho⟩
  frame := fun _ _ _ st hk => ⟨let ⟨o, e, r⟩ := st.1; ⟨o, hk it (by simp) o e, r⟩, let ⟨o, e, r⟩ := st.2; ⟨o, hk l (by simp) o e, r⟩⟩
  item := fun i s Q E hi st hQ => by
    refine nextOf_tuple_item st.1 st.2 (x := items[i]) (by simp [hi]) fun h' hit' hs' => ?_
    exact hQ _ h' s.toks (by simp [hi]) ⟨hit', st.2.extBut hs'.extBut hne⟩ hs'
  done := fun s Q E st hE => nextOf_tuple_end hh st.1 st.2 (by simp) hE

theorem meets_enumerate_newT (l : Addr) (items : Array Value) (n : Nat) (dct : Option Addr) (sl : Array (Option Value)) :
    Meets (Builtin.«enumerate.__new__» ⟨[.type "enumerate", .ref l], []⟩) (fun _ R s => s.heap.get? l = some { cls := .type "tuple", dict := dct, data := .seq items n, slots := sl } ∧
      R (.ok (.ret (.ref (s.heap.push { cls := .type "tuple_iterator", data := .fields #[.ref l, .int 0 0] }).objs.size)))
        { s with heap := (s.heap.push { cls := .type "tuple_iterator", data := .fields #[.ref l, .int 0 0] }).push { cls := .type "enumerate", data := .fields #[.none, .bool false, .ref s.heap.objs.size, rawInt 0, .none, .none] } }) :=
  .of_wp fun prog w A R s h => by
    obtain ⟨hp, g, d, tk, os⟩ := s; obtain ⟨hl, h⟩ := h
    have hsub := sub_enumerate
    have hL : Heap.IsTuple (Shared.heap ⟨hp, g, d, tk, os⟩) l items := ⟨_, hl, rfl, n, rfl⟩
    wp_walk using wpAny_loadPart' hl
    refine wpAny_stack_any fun st => wpAny_pure ?_
    split
    · rename_i c _ _ _ _ _
      cases (c == Value.type "enumerate")
      · wp_walk using wpAny_loadPart' hl, wpAny_pyIter_tuple hL
        exact ⟨_, rfl, h⟩
      · wp_walk using wpAny_loadPart' hl, wpAny_pyIter_tuple hL
        exact ⟨_, rfl, h⟩
    · wp_walk using wpAny_loadPart' hl, wpAny_pyIter_tuple hL
      exact ⟨_, rfl, h⟩
section
variable {prog : Program} {w : World} {A : Around} {E : Value → Shared → Prop} {s : Shared}
theorem call_enumerate_tuple {l : Addr} {items : Array Value} {Q : Value → Shared → Prop} (hL : s.heap.IsTuple l items)
    (h : ∀ h', IsEnum h' (s.heap.objs.size + 1) s.heap.objs.size 0 .none → h'.IsTupleIter s.heap.objs.size l 0 → h'.objs.size = s.heap.objs.size + 2 →
      (∀ b o, s.heap.get? b = some o → h'.get? b = some o) → Q (.ref (s.heap.objs.size + 1)) { s with heap := h' }) :
    wpAny (model prog w) A (call (.type "enumerate") [.ref l]) Q E s := by
  obtain ⟨⟨c, dct, dt, sl⟩, hl, hc, n, hd⟩ := hL
  replace hc : c = .type "tuple" := hc
  replace hd : dt = .seq items n := hd
  subst hc hd
  refine callType_new F.called_enumerate (by decide) (F.typeCall_enumerate_1 _) (F.newCall_enumerate_1 _) (fun obj => F.args_object_init_2 obj _) F.entry_enumerate_new
    (meets_enumerate_newT l items n dct sl) ⟨hl, ?_⟩
  have hz : (s.heap.push { cls := .type "tuple_iterator", data := .fields #[.ref l, .int 0 0] }).objs.size = s.heap.objs.size + 1 := Heap.size_push ..
  show _ ∧ _
  rw [hz]
  have he : IsEnum ((s.heap.push { cls := .type "tuple_iterator", data := .fields #[.ref l, .int 0 0] }).push
      { cls := .type "enumerate", data := .fields #[.none, .bool false, .ref s.heap.objs.size, rawInt 0, .none, .none] }) (s.heap.objs.size + 1) s.heap.objs.size 0 .none := by
    have := Heap.get?_push_size (s.heap.push { cls := .type "tuple_iterator", data := .fields #[.ref l, .int 0 0] })
      (o := { cls := .type "enumerate", data := .fields #[.none, .bool false, .ref s.heap.objs.size, rawInt 0, .none, .none] }) rfl
    rw [hz] at this; exact this
  refine ⟨⟨_, he, rfl⟩, h _ he ⟨_, Heap.get?_push_of_some _ (Heap.get?_push_size _ rfl), rfl, rfl⟩ (by rw [Heap.size_push, hz]) fun b o x => Heap.get?_push_of_some _ (Heap.get?_push_of_some _ x)⟩

/-- a comprehension over pairs, whose elements are ints -/
theorem pairs_ints {env : Env} {g : Heap} {elt iter : Expr} {xa xb : Str} {pa pb tp : Pos} {kk : Nat} {scope : Scope} {pos : Pos} {R : Result → Shared → Prop} {I D : Addr} {fp wr : List Addr} {n : Nat} {Pt : Nat → Array Value → Prop} {St : Nat → Heap → Prop} {Mid : Nat → Addr → Heap → Prop} {base : List (Addr × Obj)} {m₀ : Str → Option Value} {f : Nat → Int}
    (hh : A.handled = none) (WS : WalksT prog w A I fp wr n Pt St Mid) (hxa : env.kindOf xa = some .local) (hxb : env.kindOf xb = some .local) (hp : (env.scope.kind == .class || (env.scope.kind == .module && env.locals != env.globals)) = false)
    (hne : ¬ xa = xb) (hsz : n ≤ sizeLine) (hCf : env.locals ∉ fp) (hDf : D ∉ fp) (hDL : D ≠ env.locals) (hw0 : ∀ b ∈ wr, g.get? b = none) (hD0 : g.get? D = none) (hb : ∀ p ∈ base, p.1 ∉ wr ∧ p.1 ≠ D)
    (F : Fr g env.locals s.heap m₀) (N : News g env.locals s.heap base) (hst : St 0 s.heap) (hD : s.heap.get? D = some (W.listOf #[] 0))
    (helt : ∀ i vals va vb m h tk, i < n → Pt i vals → vals = #[va, vb] → Fr g env.locals h m → m xa = some va → m xb = some vb → News g env.locals h base →
      wpAny (model prog w) A (eval elt env) (fun r s' => ∃ h' tk' u, r = .int (f i) u ∧ s' = { s with heap := h', toks := tk' } ∧ (∀ b o, h.get? b = some o → h'.get? b = some o)) (fun _ _ => False) { s with heap := h, toks := tk })
    (hPt : ∀ i vals, Pt i vals → ∃ va vb, vals = #[va, vb])
    (hR : ∀ h' tk m' ys kd, Fr g env.locals h' m' → News g env.locals h' ((D, W.listOf (List.toArray ys) kd) :: base) → IntsAre ys ((List.range n).map f) → R (.ok .next) { s with heap := h', toks := tk }) :
    codeAny (model prog w) A (.compStart (.ListComp elt [⟨.Tuple [.Name xa pa, .Name xb pb] kk tp, iter, [], 0⟩] scope pos) 0 (.ref I) (.ref D) env) R s := by
  have hCw : env.locals ∉ wr := fun h => hCf (WS.sub _ h)
  have hDw : D ∉ wr := fun h => hDf (WS.sub _ h)
  have loop : codeAny (model prog w) A (.compLoop (.ListComp elt [⟨.Tuple [.Name xa pa, .Name xb pb] kk tp, iter, [], 0⟩] scope pos) 0 (.ref I) (.ref D) env) R s := by
    refine kcp_loop (fun k s' => ∃ h' tk i ys kd m', s' = { s with heap := h', toks := tk } ∧ St i h' ∧ h'.get? D = some (W.listOf (List.toArray ys) kd) ∧ Fr g env.locals h' m' ∧ News g env.locals h' base ∧ IntsAre ys ((List.range i).map f) ∧ i ≤ n ∧ k = n + 1 - i) ?turn (n + 1)
      ⟨s.heap, s.toks, 0, [], 0, m₀, rfl, hst, hD, F, N, .nil, Nat.zero_le _, rfl⟩
    rintro k s' ⟨h', tk, i, ys, kd, m', rfl, st', hD', F', N', hys, hi, rfl⟩
    refine wpAny_noRaise ?_
    have off : ∀ h₁ : Heap, (∀ b o, b ∉ wr → h'.get? b = some o → h₁.get? b = some o) → Fr g env.locals h₁ m' ∧ News g env.locals h₁ base ∧ h₁.get? D = some (W.listOf (List.toArray ys) kd) := fun h₁ hk =>
      ⟨⟨F'.ns.at' fun o e => hk _ o hCw e, fun b o e => hk b o (fun hm => by rw [hw0 b hm] at e; cases e) (F'.keep b o e), F'.above⟩, fun p hp => ⟨hk _ _ (hb p hp).1 (N' p hp).1, (N' p hp).2⟩, hk _ _ hDw hD'⟩
    by_cases hlt : i < n
    · refine WS.item i _ _ _ hlt st' (fun T vals h₁ tk₁ hP hT hIT hM hk₁ => ?_)
      refine wpAny_noRaise ?_
      refine WS.go _ _ _ i T _ _ _ hM (fun h₂ st₂ hk₂ => ?_)
      obtain ⟨F₂, N₂, D₂⟩ := off h₂ fun b o hb e => hk₂ b o hb (hk₁ b o hb e)
      obtain ⟨va, vb, rfl⟩ := hPt i vals hP
      have T₂ : h₂.IsTuple T #[va, vb] := let ⟨o, e, r⟩ := hIT; ⟨o, hk₂ T o (WS.apart i T _ hM) e, r⟩
      refine wpAny_noRaise ?_
      refine kcp_assign hh T₂ hxa hxb hp F₂.ns (fun h₃ tk₃ hn₃ hk₃ => ?_)
      have F₃ : Fr g env.locals h₃ _ := ⟨hn₃, fun c o e => hk₃ c o (Nat.ne_of_lt (Nat.lt_of_lt_of_le (Heap.lt_size e) F₂.above)) (F₂.keep c o e), F₂.above⟩
      have N₃ : News g env.locals h₃ base := fun p hp => ⟨hk₃ _ _ (N₂ p hp).2.1 (N₂ p hp).1, (N₂ p hp).2⟩
      have D₃ := hk₃ _ _ hDL D₂
      have st₃ : St (i + 1) h₃ := WS.frame _ _ _ st₂ fun b hb o e => hk₃ b o (fun q => hCf (q ▸ hb)) e
      refine wpAny_noRaise ?_
      refine wpAny_mono (helt i _ va vb _ h₃ tk₃ hlt hP rfl F₃ (by simp [hne]) (by simp) N₃) (fun r s₄ h₄' => ?_) (fun _ _ q => q)
      obtain ⟨h₄, tk₄, u, rfl, rfl, st₄⟩ := h₄'
      have hlen := hys.length
      refine wpAny_noRaise ?_
      refine append_at (hsz := by simp at hlen; simp; omega) (st₄ _ _ D₃) fun h₅ hs₅ hD₅ => ?_
      have k₅ : ∀ b x, b ≠ D → h₄.get? b = some x → h₅.get? b = some x := fun b x e1 e => hs₅.extBut _ _ e1 e
      refine ⟨n + 1 - (i + 1), by omega, h₅, tk₄, i + 1, ys ++ [.int (f i) u], kd + 1, _, rfl, WS.frame _ _ _ st₃ fun b hb o e => k₅ b o (fun q => hDf (q ▸ hb)) (st₄ _ _ e), ?_, fr_off (F₃.keeps st₄) hDL hD0 k₅, news_off (N₃.grown st₄) (fun p hp => (hb p hp).2) k₅, ?_, hlt, rfl⟩
      · rw [hD₅, List.push_toArray]
      · rw [List.range_succ, List.map_append]
        exact IntsAre.append hys (.cons _ _ .nil)
    · have hin : i = n := by omega
      subst hin
      refine WS.done _ _ _ st' (fun h₁ tk₁ hk₁ => ?_)
      obtain ⟨F₁, N₁, D₁⟩ := off h₁ hk₁
      exact hR h₁ tk₁ m' ys kd F₁ (addNew (m := m') N₁ D₁ hDL hD0) hys
  exact codeAny_compStart_list loop (WS.self 0 _ _ _ hst loop)
end
end Mine

end

section
open PySem PySem.W PyProof.Rows PySem.Calls
set_option maxRecDepth 100000
set_option maxHeartbeats 1000000
set_option linter.unusedSimpArgs false
set_option linter.unusedVariables false
namespace Mine
section
variable {prog : Program} {w : World} {A : Around} {E : Value → Shared → Prop} {env : Env} {s : Shared}
/-- where the block of an assigned comprehension ends -/
def CompFinA (h₀ : Heap) (L C : Addr) (oL : Obj) (y : Str) (m : Str → Option Value) (D : Addr) (Q : Flow → Shared → Prop) (r : Result) (s' : Shared) : Prop :=
  match r with
  | .ok _ => ∃ m' news, Fr h₀ C s'.heap m' ∧ News h₀ C s'.heap ((L, oL) :: news) ∧ (∀ p ∈ news, p.1 ≠ L) ∧ ∀ h tk, Fr h₀ L h (fun z => if z = y then some (.ref D) else m z) → News h₀ L h news → Q .next { s' with heap := h, toks := tk }
  | .error _ => False

theorem comp_assign {elt target iter : Expr} {y : Str} {py : Pos} {ifs : List Expr} {rest : List Comprehension} {scope : Scope} {cl : List (Str × Addr)} {pos spos : Pos} {Q : Flow → Shared → Prop} {h₀ : Heap} {m : Str → Option Value}
    (hsw : swapsWith (.ListComp elt (⟨target, iter, ifs, 0⟩ :: rest) scope pos) (some (.Name y py)) spos.line env = pure true)
    (hclos : closureFor scope env = pure cl) (hcell : ∀ y ∈ scope.names, y.2 ≠ .cell) (hkind : scope.kind = .function)
    (hnames : ∀ y ∈ scope.names, y.2 = .local → scope.names.lookup y.1 = some .local)
    (hy : env.kindOf y = some .local) (hp : (env.scope.kind == .class || (env.scope.kind == .module && env.locals != env.globals)) = false)
    (h : wpAny (model prog w) A (eval iter env) (fun xv s₁ => wpAny (model prog w) A (pyIter xv) (fun it s₂ => ∃ news I, it = .ref I ∧ Fr h₀ env.locals s₂.heap m ∧ News h₀ env.locals s₂.heap news ∧
      (∀ C D oL h', s₂.heap.get? env.locals = some oL → Fr h₀ C h' (fun _ => none) → News h₀ C h' ((D, W.listOf #[] 0) :: (env.locals, oL) :: news) → (∀ p ∈ news, p.1 < D) → env.locals < D → D < C →
        (∀ b o, s₂.heap.get? b = some o → h'.get? b = some o) →
        codeAny (model prog w) A (.compStart (.ListComp elt (⟨target, iter, ifs, 0⟩ :: rest) scope pos) 0 it (.ref D) (compEnvC scope cl C env)) (CompFinA h₀ env.locals C oL y m D Q) { s₂ with heap := h' })) E s₁) E s)
    (hs : ∀ x, foldedSetIterable iter env x = pure x := by intro _; rfl) :
    wpAny (model prog w) A (exec (.Assign [.Name y py] (.ListComp elt (⟨target, iter, ifs, 0⟩ :: rest) scope pos) spos) env) Q E s := by
  rw [exec_Assign_Name_used _ _ _ _ hsw]
  refine wpAny_bind (wpAny_standAt (wpAny_bind ?_))
  show wpAny _ A (do let _ ← comprehension (.ListComp elt (⟨target, iter, ifs, 0⟩ :: rest) scope pos) scope env _ (newList []) false (eval iter env) (some (assign (.Name y py) env))) _ _ s
  refine wpAny_bind (wpAny_mono (wpAny_comprehension_free (use := some (assign (.Name y py) env)) (Q := fun _ s' => Q .next s') rfl hs hclos hkind hnames
    (wpAny_mono h (fun xv s₁ h₁ => wpAny_mono h₁ (fun it s₂ h₂ => ?_) fun _ _ e => e) fun _ _ e => e)) (fun _ s' hq => wpAny_pure (wpAny_pure hq)) fun _ _ e => e)
  obtain ⟨news, I, rfl, F, N, hb⟩ := h₂
  refine wpAny_newObj_type (wpAny_newFunctionEnv hcell (by intro y hy; simp at hy) (fun h₁ hns₁ hsb₁ => ?_) hkind)
  dsimp only at hns₁ hsb₁ ⊢
  generalize hH2 : s₂.heap.push { cls := .type "list", dict := none, data := .seq ([] : List Value).toArray } = H2 at hns₁ hsb₁ ⊢
  have hC : H2.objs.size = s₂.heap.objs.size + 1 := by rw [← hH2, Heap.size_push]
  have below : ∀ b, b < s₂.heap.objs.size → b ≠ H2.objs.size ∧ b ≠ s₂.heap.objs.size := fun b hb => ⟨by rw [hC]; exact Nat.ne_of_lt (Nat.lt_succ_of_lt hb), Nat.ne_of_lt hb⟩
  have hDC : s₂.heap.objs.size ≠ H2.objs.size := by rw [hC]; exact Nat.ne_of_lt (Nat.lt_succ_self _)
  have old : ∀ b o, s₂.heap.get? b = some o → h₁.get? b = some o := fun b o e => hsb₁.extBut b o (below b (Heap.lt_size e)).1 (Heap.get?_push_of_some _ (hH2 ▸ Heap.get?_push_of_some _ e))
  have hacc : h₁.get? s₂.heap.objs.size = some (W.listOf #[] 0) := hsb₁.extBut _ _ hDC (Heap.get?_push_of_some _ (hH2 ▸ Heap.get?_push_size _ rfl))
  have fresh : ∀ a, s₂.heap.objs.size ≤ a → h₀.get? a = none := fun a ha => by
    cases e : h₀.get? a with
    | none => rfl
    | some o' => exact absurd (Heap.lt_size (F.keep a o' e)) (Nat.not_lt.mpr ha)
  have hC0 : h₀.get? H2.objs.size = none := fresh _ (by rw [hC]; exact Nat.le_succ _)
  have hD0 : h₀.get? s₂.heap.objs.size = none := fresh _ (Nat.le_refl _)
  have hLlt : env.locals < s₂.heap.objs.size := F.ns.lt
  have hL0 : h₀.get? env.locals = none := by
    cases e : h₀.get? env.locals with
    | none => rfl
    | some o' => exact absurd (Heap.lt_size e) (Nat.not_lt.mpr F.above)
  obtain ⟨oL, esL, epL, hoL, hdL⟩ := id F.ns
  have FC : Fr h₀ H2.objs.size h₁ (fun _ => none) := ⟨hns₁, fun b o e => old b o (F.keep b o e), Nat.le_trans F.above (Nat.le_trans (Nat.le_of_lt hLlt) (by rw [hC]; exact Nat.le_succ _))⟩
  have NC : News h₀ H2.objs.size h₁ ((s₂.heap.objs.size, W.listOf #[] 0) :: (env.locals, oL) :: news) := fun p hp => by
    rcases List.mem_cons.mp hp with rfl | hp
    · exact ⟨hacc, hDC, hD0⟩
    · rcases List.mem_cons.mp hp with rfl | hp
      · exact ⟨old _ _ hoL, (below _ hLlt).1, hL0⟩
      · exact ⟨old _ _ (N p hp).1, (below _ (Heap.lt_size (N p hp).1)).1, (N p hp).2.2⟩
  refine codeAny_mono (hb H2.objs.size s₂.heap.objs.size oL h₁ hoL FC NC (fun p hp => Heap.lt_size (N p hp).1) hLlt (by rw [hC]; exact Nat.lt_succ_self _) old) (fun r s' hr => ?_)
  cases r with
  | error e => exact hr.elim
  | ok f =>
    obtain ⟨m', news', F', N', hne, hq⟩ := hr
    have hLC : env.locals ≠ H2.objs.size := (below _ hLlt).1
    have nsL : s'.heap.Ns env.locals m := ⟨oL, esL, epL, (N' (env.locals, oL) (.head _)).1, hdL⟩
    show wpAny _ A (assign (.Name y py) env (.ref s₂.heap.objs.size)) _ _ _
    refine wpAny_assign_Name (wpAny_storeName_local hy nsL (fun h₂ hn₂ hs₂ => ?_) hp)
    refine ⟨m', F'.ns.sameBut hs₂ (Ne.symm hLC), fun h'' hs'' => hq h'' _ ?_ fun p hp => ?_⟩
    · refine ⟨hn₂.sameBut hs'' hLC, fun b o e => hs''.extBut b o (fun q => by rw [show b = H2.objs.size from q, hC0] at e; cases e) (hs₂.extBut b o (fun q => by rw [show b = env.locals from q, hL0] at e; cases e) (F'.keep b o e)), F.above⟩
    · have z := N' p (.tail _ hp)
      exact ⟨hs''.extBut _ _ z.2.1 (hs₂.extBut _ _ (hne p hp) z.1), hne p hp, z.2.2⟩
end
end Mine

end

section
open PySem PySem.W PyProof.Rows PySem.Calls
set_option maxRecDepth 100000
set_option maxHeartbeats 4000000
set_option linter.unusedSimpArgs false
set_option linter.unusedVariables false
namespace Mine
def stmtBody : Stmt → List Stmt
  | .FunctionDef _ _ b _ _ _ _ _ _ _ => b
  | .For _ _ b _ _ => b
  | _ => []
def stmtScope : Stmt → Scope
  | .FunctionDef _ _ _ _ _ _ s _ _ _ => s
  | _ => default
def lawStmt : Stmt := (PySem.Challenge.pw_wk0003_01.main.body.getLast?).getD (.Pass default)
def lawBody : List Stmt := stmtBody lawStmt
def lawScope : Scope := stmtScope lawStmt
def lawAt (i : Nat) : Stmt := lawBody.getD i (.Pass default)
/-- the body of the loop over the rounds -/
def rndBody : List Stmt := stmtBody (lawAt 7)
def rndAt (i : Nat) : Stmt := rndBody.getD i (.Pass default)
def lawEnv (L : Addr) : Env := envOfC (Str.ofString "law") lawScope L 126 (.ref 125)
end Mine

end

section
open PySem PySem.W PyProof.Rows PySem.Calls
theorem Mine.againTL {prog : Program} {w : World} {A : Around} {E : Value → Shared → Prop} {s : Shared} {env : Env} {Q : Flow → Shared → Prop} (h : Q .next s) : wpAny (model prog w) A (execs [] env) Q E s := by
  first | (walk1; exact h) | exact wpAny_execs_nil h
end

section
open PySem PySem.W PyProof.Rows PySem.Calls
set_option maxRecDepth 100000
set_option maxHeartbeats 4000000
set_option linter.unusedSimpArgs false
set_option linter.unusedVariables false
namespace Mine
theorem regTL : (PySem.Challenge.rw_wk0003_01 = PySem.Challenge.rw_wk0003_01) ∧ (Mine.hd.heap_39 = Mine.hd.heap_39) := by k_fill; exact ⟨rfl, rfl⟩
/-- the end of a row -/
def endAt (j : Int) : List Nat := if j.fmod 3 = 0 then [10] else if j.fmod 3 = 1 then [13] else [13, 10]
theorem endAt_is (j : Int) : IsEnd (endAt j) := by
  unfold endAt IsEnd
  split
  · exact .inl rfl
  · split
    · exact .inr (.inl rfl)
    · exact .inr (.inr rfl)
def rowsOf (t : Int) (ns : List Int) (j : Nat) : List (Nat × List Nat) := (List.range j).map fun i => ((ns.getD i 0).toNat, endAt ((i : Int) + t))
theorem rowsW_append (a b : List (Nat × List Nat)) : rowsW (a ++ b) = rowsW a ++ rowsW b := by
  induction a with
  | nil => rfl
  | cons p a ih => rw [List.cons_append, rowsW, rowsW, ih, List.append_assoc]
theorem text_step {t : Int} {ns : List Int} {i : Nat} {wv : Int} (e : ns.getD i 0 = wv) (h1 : 8192 ≤ wv) (h2 : wv < 65536) :
    ({ cps := (rowsW (rowsOf t ns i)).toArray } ++ Txt.mul (Str.ofString ".") (wv.fdiv 4096 - 1) ++ (Str.ofString "\u00c1" ++ { cps := #[(192 + (wv.fdiv 64).fmod 64).toNat] } ++ { cps := #[(128 + wv.fmod 64).toNat] }) ++ { cps := (endAt (↑i + t)).toArray } : Str)
      = ⟨(rowsW (rowsOf t ns (i + 1))).toArray⟩ := by
  have hm : (Txt.mul (Str.ofString ".") (wv.fdiv 4096 - 1)).cps.toList = List.replicate (wv.fdiv 4096 - 1).toNat 46 := mul_one_list 46 _
  have e1 : rowsOf t ns (i + 1) = rowsOf t ns i ++ [(wv.toNat, endAt ((i : Int) + t))] := by
    unfold rowsOf
    rw [List.range_succ, List.map_append, ← e]; rfl
  rw [e1, rowsW_append]
  generalize rowsW (rowsOf t ns i) = R
  generalize endAt ((i : Int) + t) = ee
  generalize Txt.mul (Str.ofString ".") (wv.fdiv 4096 - 1) = M at *
  obtain ⟨M⟩ := M
  show (⟨R.toArray ++ M ++ ((Str.ofString "\u00c1").cps ++ #[(192 + (wv.fdiv 64).fmod 64).toNat] ++ #[(128 + wv.fmod 64).toNat]) ++ ee.toArray⟩ : Str) = _
  congr 1
  apply Array.toList_inj.mp
  replace hm : M.toList = List.replicate (wv.fdiv 4096 - 1).toNat 46 := hm
  have hA : (Str.ofString "\u00c1").cps = #[193] := by decide
  rw [hA]
  simp only [Array.toList_append, hm, rowsW, rowW, List.append_assoc, List.append_nil]
  rw [Int.fdiv_eq_ediv_of_nonneg _ (by decide), Int.fdiv_eq_ediv_of_nonneg _ (by decide), Int.fmod_eq_emod_of_nonneg _ (by decide), Int.fmod_eq_emod_of_nonneg _ (by decide)]
  rw [show (wv / 4096 - 1).toNat = wv.toNat / 4096 - 1 by omega, show (192 + wv / 64 % 64).toNat = 192 + wv.toNat / 64 % 64 by omega, show (128 + wv % 64).toNat = 128 + wv.toNat % 64 by omega]
  rfl
theorem addS {prog : Program} {w : World} {A : Around} {E : Value → Shared → Prop} {s : Shared} {Q : Value → Shared → Prop} {x y : Str} {t u : Tok} {a b : Nat} (hx : x.length ≤ a) (hy : y.length ≤ b) (hab : a + b ≤ 1000)
    (h : ∀ t' tk, (x ++ y).length ≤ a + b → Q (.str (x ++ y) t') { s with toks := tk }) : wpAny (model prog w) A (binaryOp .Add (.str x t) (.str y u)) Q E s :=
  PyProof.Rows.add_str (fun t' tk => h t' tk (by
    show (x.cps ++ y.cps).size ≤ _
    rw [Array.size_append]
    exact Nat.add_le_add hx hy)) (by rw [sizeLine_eq]; omega)
theorem mul_le {y : Int} (h : y ≤ 16) : (Txt.mul (Str.ofString ".") y).length ≤ 16 := len_mul_one (c := 46) rfl h
theorem endAt_len (j : Int) : (⟨(endAt j).toArray⟩ : Str).length ≤ 2 := by
  show (endAt j).toArray.size ≤ 2
  rw [List.size_toArray]
  rcases endAt_is j with e | e | e <;> rw [e] <;> decide
theorem end_at {prog : Program} {w : World} {A : Around} {E : Value → Shared → Prop} {s : Shared} {Q : Value → Shared → Prop} {value slice : PySem.Expr} {h₀ : Heap} {L D : Addr} {news : List (Addr × Obj)} {k1 k2 k3 u : Tok} {j : Int} (N : News h₀ L s.heap news)
    (hm : (D, { cls := .type "tuple", data := .seq #[.str (Str.ofString "\n") k1, .str (Str.ofString "\x0d") k2, .str (Str.ofString "\x0d\n") k3] }) ∈ news)
    (h : ∀ t', Q (.str ⟨(endAt j).toArray⟩ t') s) (hs : subscripted slice false (.ref D) (.int (j.fmod 3) u) = operate [.ref D, .int (j.fmod 3) u] (getItem (.ref D) (.int (j.fmod 3) u)) := by with_unfolding_all rfl) :
    wpAny (model prog w) A (subscriptTail value slice (.ref D) (.int (j.fmod 3) u)) Q E s := by
  have h0 : 0 ≤ j.fmod 3 := Int.fmod_nonneg_of_pos _ (by decide)
  have h1 : j.fmod 3 < 3 := Int.fmod_lt_of_pos _ (by decide)
  refine KTb.item_tup (vs := [.str (Str.ofString "\n") k1, .str (Str.ofString "\x0d") k2, .str (Str.ofString "\x0d\n") k3]) (ws := [Str.ofString "\n", Str.ofString "\x0d", Str.ofString "\x0d\n"]) ⟨_, (N _ hm).1, rfl, _, rfl⟩ (.cons _ _ (.cons _ _ (.cons _ _ .nil))) h0 (by simpa using h1) (by omega) (fun t' hlt => ?_) hs
  have := h t'
  have e : [Str.ofString "\n", Str.ofString "\x0d", Str.ofString "\x0d\n"].getD (j.fmod 3).toNat PySem.Str.empty = ⟨(endAt j).toArray⟩ := by
    unfold endAt
    rcases (show j.fmod 3 = 0 ∨ j.fmod 3 = 1 ∨ j.fmod 3 = 2 by omega) with e | e | e <;> rw [e] <;> rfl
  rw [e]; exact this
section
local macro_rules | `(tactic| walk_at "eval Name") => `(tactic| (k_here; k_dflt (refine nameL (by assumption) (by first | (k_dflt (exact rfl)) | assumption) ?_ rfl rfl (by decide))))
local macro_rules | `(tactic| walk_at "binaryOp Add str str") => `(tactic| (k_here; (with_reducible show wpAny _ _ (binaryOp Operator.Add (Value.str _ _) (Value.str _ _)) _ _ _); k_dflt (refine addS (by first | assumption | exact Nat.le_refl 1 | exact Nat.le_refl 2 | exact mul_le (by omega) | exact endAt_len _) (by first | assumption | exact Nat.le_refl 1 | exact Nat.le_refl 2 | exact mul_le (by omega) | exact endAt_len _) (by decide) ?_); intro _ _ _))
local macro_rules | `(tactic| walk_at "subscriptTail") => `(tactic| (k_here; refine end_at (by assumption) (by k_mem) (fun t' => ?_)))
theorem text_loop {w : World} {A : Around} {Q : Flow → Shared → Prop} {E : Value → Shared → Prop} {s : Shared} {g : Heap} {L l : Addr} {m mg mb : Str → Option Value} {vs : List Value} {ns : List Int} {n : Nat} {base : List (Addr × Obj)} {t : Int} {tt tx : Tok}
    (X : (Mine.hd.heap_39 w.params).In g) (T : TopRead VW LS mg mb g) (hh : A.handled = none)
    (F : Fr g L s.heap m) (N : News g L s.heap ((l, W.listOf (List.toArray vs) n) :: base)) (hI : IntsAre vs ns) (hb : ∀ w ∈ ns, 8192 ≤ w ∧ w < 65536) (hlen : ns.length ≤ 8)
    (hw : m (Str.ofString "worths") = some (.ref l)) (ht : m (Str.ofString "t") = some (.int t tt)) (h1 : 1 ≤ t) (h2 : t ≤ 4) (hx : m (Str.ofString "text") = some (.str ⟨#[]⟩ tx))
    (h : ∀ h' tk m' tx', Fr g L h' m' → News g L h' ((l, W.listOf (List.toArray vs) n) :: base) → (∀ y, y ≠ Str.ofString "text" → y ≠ Str.ofString "k" → y ≠ Str.ofString "worth" → y ≠ Str.ofString "octets" → m' y = m y) →
      m' (Str.ofString "text") = some (.str ⟨(rowsW (rowsOf t ns ns.length)).toArray⟩ tx') → Q .next { s with heap := h', toks := tk }) :
    wpAny (model PW w) A (exec (rndAt 1) (lawEnv L)) Q E s := by
  have hb1 := Eq.refl (rndAt 1)
  conv at hb1 => rhs; whnf
  have hs := Eq.refl lawScope
  conv at hs => rhs; whnf
  unfold lawEnv
  rw [hb1, hs]
  clear hb1 hs
  cases A
  dsimp only at hh
  subst hh
  refine wpAny_For ?_
  (repeat ((fail_if_success (with_reducible show wpAny _ _ (call (Value.type "enumerate") _ _) _ _ _)); walk1))
  have zl := N (l, W.listOf (List.toArray vs) n) (.head _)
  refine call_enumerate_list ⟨_, zl.1, rfl, _, rfl⟩ (fun h₂ he hit hz hk₂ => ?_)
  refine wpAny_pyIter_enum he ?_
  have hll : @LT.lt Nat _ l s.heap.objs.size := Heap.lt_size zl.1
  have F₂ := F.keeps hk₂
  have N₂ := N.grown hk₂
  have hlen' := hI.length
  have hfresh : ∀ b, s.heap.objs.size ≤ b → g.get? b = none := by
    intro b hb
    cases q : g.get? b with
    | none => rfl
    | some o => exact absurd (Heap.lt_size (F.keep _ _ q)) (Nat.not_lt.mpr hb)
  have hap : ∀ p ∈ ((l, W.listOf (List.toArray vs) n) :: base), p.1 ≠ s.heap.objs.size + 1 ∧ p.1 ≠ s.heap.objs.size := fun p hp => by
    have := Heap.lt_size (N p hp).1
    exact ⟨Nat.ne_of_lt (Nat.lt_succ_of_lt this), Nat.ne_of_lt this⟩
  refine codeAny_forEnum (h₀ := g) (l := l) (items := vs.toArray) (news := (l, W.listOf (List.toArray vs) n) :: base) rfl rfl rfl rfl (Nat.succ_ne_self _) (Nat.ne_of_lt (Nat.lt_succ_of_lt hll)) (Nat.ne_of_lt hll) he hit F₂ N₂ hap (hfresh _ (Nat.le_succ _)) (hfresh _ (Nat.le_refl _))
    (fun i m₁ news₁ tk => news₁ = (l, W.listOf (List.toArray vs) n) :: base ∧ (∀ y, y ≠ Str.ofString "text" → y ≠ Str.ofString "k" → y ≠ Str.ofString "worth" → y ≠ Str.ofString "octets" → m₁ y = m y) ∧
      ∃ tx', m₁ (Str.ofString "text") = some (.str ⟨(rowsW (rowsOf t ns i)).toArray⟩ tx')) ⟨rfl, fun _ _ _ _ _ => rfl, tx, hx⟩ (fun i m₁ news₁ tk h hJ F N => ⟨_, (N (l, W.listOf (List.toArray vs) n) (hJ.1 ▸ .head _)).1, rfl, _, rfl⟩) (fun i m₁ news₁ tk hJ p hp => hap p (hJ.1 ▸ hp)) ?step ?done
  case done =>
    rintro h' tk' m' news' F' N' ⟨rfl, hm, tx', hx'⟩
    refine wpAny_execs_nil ?_
    have := h h' tk' m' tx' F' N' hm (by simpa [hlen'] using hx')
    exact this
  case step =>
    rintro i v m₁ news₁ h₃ tk tk' eo io hv ⟨rfl, hm, tx', hx'⟩ htk F₃ N₃
    have hil : i < ns.length := by
      have := (Array.getElem?_eq_some_iff.mp hv).1
      simp at this; omega
    obtain ⟨u, hvt⟩ := hI.get i ns[i] (by simp [hil])
    have hv' : vs[i]? = some v := by simpa using hv
    rw [hvt] at hv'
    cases hv'
    have hbw := hb ns[i] (List.getElem_mem hil)
    have ht1 := (hm (Str.ofString "t") (by decide) (by decide) (by decide) (by decide)).trans ht
    clear F N F₂ N₂ hx ht hv
    have hns : (ns.getD i 0) = ns[i] := by simp [hil]
    generalize hwv : ns[i] = wv at *
    have hdv : wv.fdiv 4096 - 1 ≤ 16 := by
      rw [Int.fdiv_eq_ediv_of_nonneg _ (by decide)]; omega
    have hlT : (⟨(rowsW (rowsOf t ns i)).toArray⟩ : Str).length ≤ 160 := by
      show (rowsW (rowsOf t ns i)).toArray.size ≤ 160
      rw [List.size_toArray]
      have h1 := rowsW_length (rowsOf t ns i) (fun p hp => by
        obtain ⟨j, hj, rfl⟩ := List.mem_map.mp hp
        refine ⟨?_, endAt_is _⟩
        have hj' : j < ns.length := Nat.lt_trans (List.mem_range.mp hj) hil
        have := hb ns[j] (List.getElem_mem hj')
        have e : ns.getD j 0 = ns[j] := by simp [hj']
        rw [e]
        show ns[j].toNat < 65536
        omega)
      have h2 : (rowsOf t ns i).length = i := by simp [rowsOf]
      omega
    replace F₃ : Fr g L h₃ _ := F₃
    replace N₃ : News g L h₃ _ := N₃
    (repeat ((fail_if_success (with_reducible show EnumPost _ _ _ _ _ _ _ _ _ _ _)); walk1))
    rename Fr _ _ _ _ => F9
    rename News _ _ _ _ => N9
    rw [text_step hns hbw.1 hbw.2] at F9
    refine ⟨_, _, _, _, rfl, F9, fun p hp => N9 p (.tail _ hp), rfl, fun y n1 n2 n3 n4 => ?_, _, rfl⟩
    simp only [if_neg n1, if_neg n2, if_neg n3, if_neg n4]
    exact hm y n1 n2 n3 n4
end
end Mine

end

section
open PySem PySem.W PyProof.Rows PySem.Calls
theorem Mine.againRL {prog : Program} {w : World} {A : Around} {E : Value → Shared → Prop} {s : Shared} {env : Env} {Q : Flow → Shared → Prop} (h : Q .next s) : wpAny (model prog w) A (execs [] env) Q E s := by
  first | (walk1; exact h) | exact wpAny_execs_nil h
end

section
open PySem PySem.W PyProof.Rows PySem.Calls
set_option maxRecDepth 100000
set_option maxHeartbeats 4000000
set_option linter.unusedSimpArgs false
set_option linter.unusedVariables false
namespace Mine
theorem regRL : (PySem.Challenge.rw_wk0003_01 = PySem.Challenge.rw_wk0003_01) ∧ (Mine.hd.heap_39 = Mine.hd.heap_39) := by k_fill; exact ⟨rfl, rfl⟩
def castL (l : List Nat) : List Int := l.map fun (c : Nat) => (c : Int)
/-- the numbers of the rows from the i-th on, and the tail -/
def numsAt (ns : List Int) (i : Nat) : List Int := castL (rowsN ((ns.drop i).map Int.toNat) ++ tailN)
def rowI (w : Int) : List Int := List.replicate (w / 4096).toNat 46 ++ [4096 + w % 4096, 13, 10]
theorem numsAt_succ {ns : List Int} {i : Nat} (h : i < ns.length) (hb : 0 ≤ ns[i]) : numsAt ns i = rowI ns[i] ++ numsAt ns (i + 1) := by
  unfold numsAt castL
  rw [← List.getElem_cons_drop h]
  show List.map _ ((List.map rowN (Int.toNat ns[i] :: _)).flatten ++ _) = _
  rw [List.map_cons, List.flatten_cons, List.append_assoc, List.map_append]
  congr 1
  generalize ns[i] = w at *
  unfold rowN rowI
  rw [List.map_append, List.map_replicate]
  have e1 : w.toNat / 4096 = (w / 4096).toNat := by omega
  have e2 : ((4096 + w.toNat % 4096 : Nat) : Int) = 4096 + w % 4096 := by omega
  simp only [List.map_cons, List.map_nil, e1, e2]
  rfl
theorem rowI_length (w : Int) : (rowI w).length = (w / 4096).toNat + 3 := by simp [rowI]
theorem rowI_own (w : Int) (r : List Int) : (rowI w ++ r)[(w / 4096).toNat]? = some (4096 + w % 4096) := by
  simp [rowI]
theorem rowI_bef (w : Int) (r : List Int) (j : Nat) (h : j < (w / 4096).toNat) : (rowI w ++ r)[j]? ≠ some (4096 + w % 4096) := by
  have e : (rowI w ++ r)[j]? = some 46 := by
    unfold rowI
    rw [List.append_assoc, List.getElem?_append_left (by simpa using h)]
    simp [h]
  rw [e]
  intro q
  have : (46 : Int) = 4096 + w % 4096 := by simpa using q
  omega
theorem rowI_take (w : Int) (r : List Int) : (rowI w ++ r).take ((w / 4096).toNat + 3) = rowI w := by
  rw [← rowI_length]; exact List.take_left' rfl
theorem rowI_drop (w : Int) (r : List Int) : (rowI w ++ r).drop ((w / 4096).toNat + 3) = r := by
  rw [← rowI_length]; exact List.drop_left' rfl
theorem rowsN_length : ∀ (l : List Nat), (∀ w ∈ l, w < 65536) → (rowsN l).length ≤ 20 * l.length
  | [], _ => by simp [rowsN]
  | w :: l, h => by
    have h1 := rowsN_length l fun q hq => h q (.tail _ hq)
    have h2 : (rowN w).length ≤ 20 := by
      have := h w (.head _)
      simp [rowN]; omega
    have e : rowsN (w :: l) = rowN w ++ rowsN l := rfl
    rw [e, List.length_append, List.length_cons]
    omega
theorem numsAt_length {ns : List Int} (hb : ∀ w ∈ ns, 8192 ≤ w ∧ w < 65536) (hlen : ns.length ≤ 8) (i : Nat) : (numsAt ns i).length ≤ 200 := by
  unfold numsAt castL
  rw [List.length_map, List.length_append]
  have h1 := rowsN_length ((ns.drop i).map Int.toNat) fun w hw => by
    obtain ⟨a, ha, rfl⟩ := List.mem_map.mp hw
    have := hb a (List.mem_of_mem_drop ha)
    omega
  have h2 : ((ns.drop i).map Int.toNat).length ≤ 8 := by simp; omega
  have h3 : tailN.length = 11 := rfl
  omega
theorem flat_rep (n : Nat) (c : Int) : (List.replicate n [c]).flatten = List.replicate n c := by
  induction n with
  | zero => rfl
  | succ n ih => rw [List.replicate_succ, List.flatten_cons, ih, List.replicate_succ]; rfl
/-- how a turn ends, the tokens not below n -/
def TokPost (n : Nat) (P : Flow → Shared → Prop) (f : Flow) (s : Shared) : Prop := n ≤ s.toks → P f s
section
variable {prog : Program} {w : World} {A : Around} {E : Value → Shared → Prop} {s : Shared} {h₀ : Heap} {L l : Addr} {m : Str → Option Value} {news : List (Addr × Obj)} {value slice : PySem.Expr} {vs : List Value} {vl vu : Value} {x y : Int} {n : Nat} {Q : Value → Shared → Prop}
theorem slice_from {t : Tok} (F : Fr h₀ L s.heap m) (N : News h₀ L s.heap news) (hm : (l, W.listOf (List.toArray vs) n) ∈ news) (h0 : 0 ≤ x) (hz : vs.length ≤ 100000)
    (h : ∀ D h', Fr h₀ L h' m → News h₀ L h' ((D, W.listOf (List.toArray (vs.drop x.toNat)) 0) :: news) → (∀ p ∈ news, p.1 < D) → Q (.ref D) { s with heap := h' })
    (hs : subscripted slice false (.ref l) (.ref s.heap.objs.size) = operate [.ref s.heap.objs.size, .ref l] (getItem (.ref l) (.ref s.heap.objs.size)) := by with_unfolding_all rfl) (ht : ∀ r, letTemporaryGo value (.ref l) r = pure () := by intro _; with_unfolding_all rfl) :
    wpAny (model prog w) A (subscriptTail value slice (.ref l) (.ref s.heap.objs.size)) Q E { s with heap := s.heap.push { cls := .type "slice", data := .fields #[.int x t, .none, .none] } } := by
  refine kmk_slice F N (News.isList N hm) (.int x t) .none (fun D h' F' N' l1 => h D h' F' ?_ l1) hs ht (by rw [List.size_toArray, sizeLine_eq]; omega)
  have e : sliceBounds (some x) none none vs.toArray.size = (((min x.toNat vs.toArray.size : Nat) : Int), ((vs.toArray.size : Nat) : Int), 1) := by
    simp only [sliceBounds, Option.getD_none, show (1 : Int) > 0 by decide, if_true, if_neg (show ¬ (x < 0) by omega)]
    congr 1
    omega
  rw [kmk_pick_nat _ e] at N'
  have e2 : (vs.toArray.toList.drop (min x.toNat vs.toArray.size)).take (vs.toArray.size - min x.toNat vs.toArray.size) = vs.drop x.toNat := by
    show ((vs.drop (min x.toNat vs.toArray.size)).take (vs.toArray.size - min x.toNat vs.toArray.size)) = _
    rw [List.size_toArray, kmk_drop_min, List.take_of_length_le (by rw [List.length_drop]; omega)]
  rw [e2] at N'
  exact N'
end
section
local macro_rules | `(tactic| walk_at "eval Name") => `(tactic| (k_here; k_dflt (refine nameL (by assumption) (by first | (k_dflt (exact rfl)) | assumption) ?_ rfl rfl (by decide))))
theorem rows_loop {w : World} {A : Around} {Q : Flow → Shared → Prop} {E : Value → Shared → Prop} {s : Shared} {g : Heap} {L l p r : Addr} {m mg mb : Str → Option Value} {vs vn : List Value} {ns : List Int} {n kn kr : Nat} {base : List (Addr × Obj)}
    (X : (Mine.hd.heap_39 w.params).In g) (T : TopRead VW LS mg mb g) (hA : A.depth < recursionLimit) (hh : A.handled = none) (hu : A.units + 64 < cLine)
    (F : Fr g L s.heap m) (N : News g L s.heap ((p, W.listOf (List.toArray vn) kn) :: (r, W.listOf #[] kr) :: (l, W.listOf (List.toArray vs) n) :: base)) (hI : IntsAre vs ns) (hb : ∀ w ∈ ns, 8192 ≤ w ∧ w < 65536) (hlen : ns.length ≤ 8)
    (hvn : IntsAre vn (numsAt ns 0)) (htl : TokLt vn s.toks) (hpr : @Ne Nat p r) (hrb : ∀ q ∈ (l, W.listOf (List.toArray vs) n) :: base, @Ne Nat q.1 r)
    (hm1 : m (Str.ofString "laid") = some (.ref l)) (hm2 : m (Str.ofString "numbers") = some (.ref p)) (hm3 : m (Str.ofString "worths") = some (.ref r))
    (h : ∀ h' tk m' p' ws vr kn' kr', Fr g L h' m' → News g L h' ((p', W.listOf (List.toArray ws) kn') :: (r, W.listOf (List.toArray vr) kr') :: base) →
      (∀ y, y ≠ Str.ofString "worth" → y ≠ Str.ofString "own" → y ≠ Str.ofString "dots" → y ≠ Str.ofString "numbers" → m' y = m y) →
      m' (Str.ofString "numbers") = some (.ref p') → IntsAre ws (castL tailN) → IntsAre vr (up ns) → Q .next { s with heap := h', toks := tk }) :
    wpAny (model PW w) A (exec (rndAt 5) (lawEnv L)) Q E s := by
  have hb1 := Eq.refl (rndAt 5)
  conv at hb1 => rhs; whnf
  have hs := Eq.refl lawScope
  conv at hs => rhs; whnf
  unfold lawEnv
  rw [hb1, hs]
  clear hb1 hs
  cases A
  dsimp only at hh
  subst hh
  refine wpAny_For ?_
  (repeat ((fail_if_success (with_reducible show wpAny _ _ (pyIter _) _ _ _)); walk1))
  have zl := (N (l, W.listOf (List.toArray vs) n) (by k_mem)).1
  refine wpAny_pyIter_list (PySem.IsL.isList (n := n) zl) ?_
  have hlL : @Ne Nat l L := (N (l, W.listOf (List.toArray vs) n) (by k_mem)).2.1
  have hlt : ∀ q ∈ ((p, W.listOf (List.toArray vn) kn) :: (r, W.listOf #[] kr) :: (l, W.listOf (List.toArray vs) n) :: base), q.1 < s.heap.objs.size := fun q hq => Heap.lt_size (N q hq).1
  have hll : @LT.lt Nat _ l s.heap.objs.size := hlt (l, W.listOf (List.toArray vs) n) (by k_mem)
  have hrl : @LT.lt Nat _ r s.heap.objs.size := hlt (r, W.listOf #[] kr) (by k_mem)
  have hlen' := hI.length
  have F₂ := F.push (itObj l 0)
  have N₂ := N.pushKeep (itObj l 0)
  refine codeAny_forSrc (h₀ := g) (news := (p, W.listOf (List.toArray vn) kn) :: (r, W.listOf #[] kr) :: (l, W.listOf (List.toArray vs) n) :: base) (Src.list rfl s.heap.objs.size l (Nat.ne_of_lt hll) (List.toArray vs)) rfl rfl (Heap.get?_push_size _ rfl) ⟨rfl, rfl⟩ (Nat.ne_of_gt F.ns.lt) (next_is_new F) F₂ N₂ (fun q hq => Nat.ne_of_lt (hlt q hq))
    (fun i m₁ news₁ tk => ∃ p' ws vr kn' kr', news₁ = (p', W.listOf (List.toArray ws) kn') :: (r, W.listOf (List.toArray vr) kr') :: (l, W.listOf (List.toArray vs) n) :: base ∧
      (∀ y, y ≠ Str.ofString "worth" → y ≠ Str.ofString "own" → y ≠ Str.ofString "dots" → y ≠ Str.ofString "numbers" → m₁ y = m y) ∧ m₁ (Str.ofString "numbers") = some (.ref p') ∧ @Ne Nat p' r ∧
      IntsAre ws (numsAt ns i) ∧ TokLt ws tk ∧ IntsAre vr (up (ns.take i)) ∧ i ≤ ns.length)
    ⟨p, vn, [], kn, kr, rfl, fun _ _ _ _ _ => rfl, hm2, hpr, hvn, htl, .nil, Nat.zero_le _⟩
    (fun i m₁ news₁ tk h ⟨p', ws, vr, kn', kr', e, _⟩ F N => PySem.IsL.isList (n := n) (N (l, W.listOf (List.toArray vs) n) (e ▸ by k_mem)).1) ?step ?done
  case done =>
    rintro h' tk tk' m' news' F' N' ⟨p', ws, vr, kn', kr', rfl, hm, hn, hne, hws, htk, hvr, hi⟩ -
    refine wpAny_execs_nil ?_
    have hsz : (List.toArray vs).size = ns.length := by simpa using hlen'
    rw [hsz] at hws hvr
    refine h h' tk' m' p' ws vr kn' kr' F' (fun q hq => N' q ?_) hm hn (by simpa [numsAt, rowsN] using hws) (by simpa using hvr)
    rcases List.mem_cons.mp hq with rfl | hq
    · k_mem
    · rcases List.mem_cons.mp hq with rfl | hq
      · k_mem
      · exact .tail _ (.tail _ (.tail _ hq))
  case step =>
    rintro i v m₁ news₁ h₃ tk tk' o hi hv ⟨p', ws, vr, kn', kr', rfl, hm, hn, hne, hws, htk, hvr, hi'⟩ htk' F₃ N₃ hap
    have hil : i < ns.length := by simp at hi; omega
    obtain ⟨u, hvt⟩ := hI.get i ns[i] (by simp [hil])
    have hv' : vs[i]? = some v := by simpa using hv
    rw [hvt] at hv'
    cases hv'
    have hbw := hb ns[i] (List.getElem_mem hil)
    have hnum := numsAt_succ hil (by omega)
    have htake : up (ns.take (i + 1)) = up (ns.take i) ++ [ns[i] + 4096] := by
      unfold up; rw [List.take_succ_eq_append_getElem hil, List.map_append]; rfl
    have hvl := hvr.length
    have hupl : (up (ns.take i)).length = i := by simp [up]; omega
    have hwl := hws.length
    have hm2' : m₁ (Str.ofString "worths") = some (.ref r) := (hm _ (by decide) (by decide) (by decide) (by decide)).trans hm3
    clear F N F₂ N₂ hv
    generalize hwv : ns[i] = wv at *
    rw [hnum] at hws hwl
    rw [List.length_append] at hwl
    have hnl := numsAt_length hb hlen (i + 1)
    have hrl' : (rowI wv).length ≤ 20 := by rw [rowI_length]; omega
    replace F₃ : Fr g L h₃ _ := F₃
    replace N₃ : News g L h₃ ((s.heap.objs.size, o) :: (p', W.listOf (List.toArray ws) kn') :: (r, W.listOf (List.toArray vr) kr') :: (l, W.listOf (List.toArray vs) n) :: base) := N₃
    refine wpAny_with_toks (n := tk') (Nat.le_refl _) ?_
    show wpAny _ _ _ (TokPost tk' _) _ _
    (repeat ((fail_if_success (with_reducible show wpAny _ _ (call (Value.ref 97) _ _) _ _ _)); walk1))
    rename Fr _ _ _ _ => F5
    rename News _ _ _ _ => N5
    dsimp only at F5 N5 ⊢
    have zn := (N5 (p', W.listOf (List.toArray ws) kn') (by k_mem)).1
    have htk3 : TokLt ws (tk' + 1 + 1 + 1) := fun a b hm => ⟨(htk a b hm).1, Nat.lt_of_lt_of_le (htk a b hm).2 (Nat.le_trans htk' (Nat.le_add_right tk' 3))⟩
    have hfm : wv.fmod 4096 = wv % 4096 := Int.fmod_eq_emod_of_nonneg _ (by decide)
    refine io_call (d := (wv / 4096).toNat) F5.keep X T hA rfl zn hws (Nat.succ_pos _) htk3 (by rw [hfm]; exact rowI_own _ _) (fun j hj => by rw [hfm]; exact rowI_bef _ _ j hj) (fun h6 tk6 t6 st6 => ?_)
    have F6 := F5.keeps st6
    have N6 := N5.grown st6
    clear F5 N5 zn st6
    have hdw : (((wv / 4096).toNat : Nat) : Int) = wv.fdiv 4096 := by rw [Int.fdiv_eq_ediv_of_nonneg _ (by decide)]; omega
    have hd16 : (wv / 4096).toNat ≤ 15 := by omega
    have hrt := rowI_take wv (numsAt ns (i + 1))
    have hrd := rowI_drop wv (numsAt ns (i + 1))
    have hrI : rowI wv = List.replicate (wv / 4096).toNat 46 ++ [4096 + wv.fmod 4096, 13, 10] := by rw [hfm]; rfl
    have hown := rowI_own wv (numsAt ns (i + 1))
    rw [← hfm] at hown
    have hrIl := rowI_length wv
    have hsum : (((wv / 4096).toNat : Nat) : Int) * 4096 + (4096 + wv.fmod 4096) = wv + 4096 := by rw [hfm]; omega
    generalize (wv / 4096).toNat = d at *
    (repeat ((fail_if_success (with_reducible show wpAny _ _ (compareOp CmpOp.NotEq _ _) _ _ _)); walk1))
    have heq : (List.take ((d : Int) + 3).toNat (rowI wv ++ numsAt ns (i + 1))) = (List.replicate (wv.fdiv 4096).toNat [46]).flatten ++ [4096 + wv.fmod 4096, 13, 10] := by
      rw [show ((d : Int) + 3).toNat = d + 3 by omega, hrt, flat_rep, show (wv.fdiv 4096).toNat = d by omega, ← hrI]
    refine ke_ne_ints (by is_list) (by is_list) (by assumption) (by assumption) hu ?_
    rw [decide_eq_true heq]
    dsimp only [Bool.not_true]
    rename Fr _ _ _ _ => F7
    rename News _ _ _ _ => N7
    have N8 : News g L _ ((s.heap.objs.size, o) :: (p', W.listOf (List.toArray ws) kn') :: (r, W.listOf (List.toArray vr) kr') :: (l, W.listOf (List.toArray vs) n) :: base) := fun q hq => N7 q (.tail _ (.tail _ (.tail _ (.tail _ (.tail _ hq)))))
    clear N7 heq
    (repeat ((fail_if_success (with_reducible show wpAny _ _ (call (Value.ref 76) _ _) _ _ _)); walk1))
    refine mul_call F7.keep X T hA (IntMulOk.of_right (by decide)) (fun h8 tk8 t8 st8 => ?_)
    have F8 := F7.keeps st8
    have N9 := N8.grown st8
    clear F7 N8 st8
    (repeat ((fail_if_success (with_reducible show wpAny _ _ (call (Value.ref 90) _ _) _ _ _)); walk1))
    refine getI_call F8 N9 X T hA (by k_mem) hws (by omega) (by rw [List.length_append, hrIl]; omega) (by omega) (fun h9 tk9 t9 F9 N10 => ?_)
    clear F8 N9
    have hgd : (rowI wv ++ numsAt ns (i + 1)).getD ((d : Int)).toNat 0 = 4096 + wv.fmod 4096 := by
      rw [List.getD_eq_getElem?_getD, Int.toNat_natCast, hown]; rfl
    rw [hgd]
    (repeat ((fail_if_success (with_reducible show wpAny _ _ (call (Value.ref 69) _ _) _ _ _)); walk1))
    refine add_call F9.keep X T hA (fun h10 tk10 t10 st10 => ?_)
    have F10 := F9.keeps st10
    have N11 := N10.grown st10
    clear F9 N10 st10
    rw [hsum]
    (repeat ((fail_if_success (with_reducible show wpAny _ _ (call (Value.builtin "list.append") _ _) _ _ _)); walk1))
    have hszr : (List.toArray vr).size ≤ sizeLine := by
      rw [List.size_toArray, sizeLine_eq]; omega
    refine append_K F10 N11 (.tail (Nat.ne_of_gt hrl) (.tail hne (.head hrb))) (fun h12 F12 N12 => ?_) (by assumption)
    rw [List.push_toArray] at N12
    clear F10 N11
    (repeat ((fail_if_success (with_reducible show wpAny _ _ (subscriptTail _ (PySem.Expr.Slice (some _) none none _) (Value.ref _) (Value.ref _)) _ _ _)); walk1))
    rename Fr _ _ _ _ => F13
    rename News _ _ _ _ => N13
    refine slice_from F13 N13 (l := p') (by k_mem) (by omega) (by omega) (fun D14 h14 F14 N14 l14 => ?_)
    have hD0 := l14 (r, _) (.tail _ (.tail _ (.head _)))
    have hDr : @Ne Nat D14 r := Nat.ne_of_gt hD0
    have hDI : @Ne Nat D14 s.heap.objs.size := Nat.ne_of_gt (l14 (s.heap.objs.size, o) (.head _))
    (repeat ((fail_if_success (with_reducible show TokPost _ _ _ _)); walk1))
    rename Fr _ _ _ _ => F15
    rename News _ _ _ _ => N15
    intro htke
    have hws' := hws.drop ((d : Int) + 3).toNat
    rw [show ((d : Int) + 3).toNat = d + 3 by omega, hrd] at hws'
    rw [show ((d : Int) + 3).toNat = d + 3 by omega] at N15
    refine ⟨_, _, _, (D14, W.listOf (List.toArray (ws.drop (d + 3))) 0) :: (r, W.listOf (List.toArray (vr ++ [Value.int (wv + 4096) t10])) (kr' + 1)) :: (l, W.listOf (List.toArray vs) n) :: base, rfl, F15, fun q hq => N15 q ?_, ?_, D14, ws.drop (d + 3), vr ++ [Value.int (wv + 4096) t10], 0, kr' + 1, rfl, fun y n1 n2 n3 n4 => ?_, rfl, hDr, hws', ?_, ?_, hil⟩
    · rcases List.mem_cons.mp hq with rfl | hq
      · k_mem
      · rcases List.mem_cons.mp hq with rfl | hq
        · k_mem
        · rcases List.mem_cons.mp hq with rfl | hq
          · k_mem
          · exact .tail _ (.tail _ (.tail _ (.tail _ hq)))
    · intro q hq
      rcases List.mem_cons.mp hq with rfl | hq
      · exact hDI
      · rcases List.mem_cons.mp hq with rfl | hq
        · exact hap (r, W.listOf (List.toArray vr) kr') (.tail _ (.head _))
        · exact hap q (.tail _ (.tail _ hq))
    · simp only [if_neg n1, if_neg n2, if_neg n3, if_neg n4]
      exact hm y n1 n2 n3 n4
    · intro a b hab
      have := htk a b (List.mem_of_mem_drop hab)
      exact ⟨this.1, Nat.lt_of_lt_of_le this.2 (Nat.le_trans htk' htke)⟩
    · rw [htake]
      exact IntsAre.append hvr (.cons _ _ .nil)
end
end Mine

end

section
open PySem PySem.W PyProof.Rows PySem.Calls
theorem Mine.againCK {prog : Program} {w : World} {A : Around} {E : Value → Shared → Prop} {s : Shared} {env : Env} {Q : Flow → Shared → Prop} (h : Q .next s) : wpAny (model prog w) A (execs [] env) Q E s := by
  first | (walk1; exact h) | exact wpAny_execs_nil h
end

section
open PySem PySem.W PyProof.Rows PySem.Calls
set_option maxRecDepth 100000
set_option maxHeartbeats 4000000
set_option linter.unusedSimpArgs false
set_option linter.unusedVariables false
namespace Mine
theorem regCK : (PySem.Challenge.rw_wk0003_01 = PySem.Challenge.rw_wk0003_01) ∧ (Mine.hd.heap_39 = Mine.hd.heap_39) := by k_fill; exact ⟨rfl, rfl⟩
section
variable {prog : Program} {w : World} {A : Around} {E : Value → Shared → Prop} {s : Shared} {h₀ : Heap} {L l : Addr} {m : Str → Option Value} {news : List (Addr × Obj)} {value slice : PySem.Expr} {vs : List Value} {ns : List Int} {k : Int} {u : Tok} {n : Nat} {Q : Value → Shared → Prop}
theorem sub_int (N : News h₀ L s.heap news) (hm : (l, W.listOf (List.toArray vs) n) ∈ news) (hI : IntsAre vs ns) (h0 : 0 ≤ k) (h1 : k < ns.length) (hhi : k < 2 ^ 63) (h : ∀ t', Q (.int (ns.getD k.toNat 0) t') s)
    (hs : subscripted slice false (.ref l) (.int k u) = operate [.ref l, .int k u] (getItem (.ref l) (.int k u)) := by with_unfolding_all rfl) :
    wpAny (model prog w) A (subscriptTail value slice (.ref l) (.int k u)) Q E s := by
  have hj : k.toNat < ns.length := by omega
  obtain ⟨t', e⟩ := hI.get k.toNat (ns.getD k.toNat 0) (by simp [hj])
  exact sub_at N hm h0 hhi e (h t') hs
end
theorem ne_false {prog : Program} {w : World} {A : Around} {E : Value → Shared → Prop} {s : Shared} {Q : Value → Shared → Prop} {a b : Int} {t u : Tok} (e : a = b) (h : Q (.bool false) s) : wpAny (model prog w) A (compareOp .NotEq (.int a t) (.int b u)) Q E s :=
  PyProof.Rows.ne_int (by rw [e, bne_self_eq_false]; exact h)
section
local macro_rules | `(tactic| walk_at "eval Name") => `(tactic| (k_here; k_dflt (refine nameC (by assumption) (by k_mem) (by assumption) ?_ rfl rfl rfl (by decide))))
local macro_rules | `(tactic| walk_at "eval Name") => `(tactic| (k_here; k_dflt (refine nameL (by assumption) (by first | (k_dflt (exact rfl)) | assumption) ?_ rfl rfl (by decide))))
local macro_rules | `(tactic| walk_at "subscriptTail") => `(tactic| (k_here; (refine sub_int (by assumption) (by k_mem) (by assumption) (by omega) (by omega) (by omega) (fun t' => ?_))))
theorem check_loop {w : World} {A : Around} {Q : Flow → Shared → Prop} {E : Value → Shared → Prop} {s : Shared} {g : Heap} {L r f : Addr} {m mg mb : Str → Option Value} {vr vf : List Value} {nr nf : List Int} {kr kf : Nat} {oc oI : Obj} {I : Addr} {q t : Int} {tq tt th : Tok}
    (X : (Mine.hd.heap_39 w.params).In g) (T : TopRead VW LS mg mb g) (hh : A.handled = none)
    (F : Fr g L s.heap m) (N : News g L s.heap [(r, W.listOf (List.toArray vr) kr), (f, W.listOf (List.toArray vf) kf), (L + 2, oc), (I, oI)])
    (hr : IntsAre vr nr) (hf : IntsAre vf nf) (hlr : nr.length = 2 * q.toNat + 2) (hlf : nf.length = 2 * q.toNat + 2) (d1 : oc.data = .cell (some (.ref f)))
    (h3 : 2 ≤ q) (h4 : q ≤ 3) (ht1 : 1 ≤ t) (ht2 : t ≤ 4)
    (hm1 : m (Str.ofString "worths") = some (.ref r)) (hm2 : m (Str.ofString "q") = some (.int q tq)) (hm3 : m (Str.ofString "head") = some (.int (2 * q + 1) th)) (hm4 : m (Str.ofString "t") = some (.int t tt))
    (hrec : ∀ x, 1 ≤ x → x ≤ 2 * q → t = 1 + (x - 1).fdiv q + (x - 1).fmod q → nr.getD x.toNat 0 = nf.getD 0 0 + nf.getD (2 * q + 1).toNat 0 - nf.getD (2 * q + 1 - x).toNat 0 + 4096 * t)
    (h : ∀ h' tk m', Fr g L h' m' → News g L h' [(r, W.listOf (List.toArray vr) kr), (f, W.listOf (List.toArray vf) kf), (L + 2, oc), (I, oI)] → (∀ y, y ≠ Str.ofString "x" → m' y = m y) → Q .next { s with heap := h', toks := tk }) :
    wpAny (model PW w) A (exec (rndAt 7) (lawEnv L)) Q E s := by
  have hb1 := Eq.refl (rndAt 7)
  conv at hb1 => rhs; whnf
  have hs := Eq.refl lawScope
  conv at hs => rhs; whnf
  unfold lawEnv
  rw [hb1, hs]
  clear hb1 hs
  cases A
  dsimp only at hh
  subst hh
  refine wpAny_For ?_
  (repeat ((fail_if_success (with_reducible show wpAny _ _ (pyIter _) _ _ _)); walk1))
  rename_i h₂ tk₂ t1 t2 t3 hrg F₂ N₂ hk₂
  have hsz : Builtin.Range.rangeSize 1 (2 * q + 1) 1 = ((2 * q).toNat : Nat) := by
    rcases (show q = 2 ∨ q = 3 by omega) with rfl | rfl <;> decide
  refine wpAny_pyIter_range hrg (by rcases (show q = 2 ∨ q = 3 by omega) with rfl | rfl <;> decide) ?_
  rw [hsz]
  have F₃ := F₂.push { cls := .type "range_iterator", data := .fields #[rawInt 1, rawInt ((2 * q).toNat : Nat), rawInt 1] }
  have N₃ := N₂.pushKeep { cls := .type "range_iterator", data := .fields #[rawInt 1, rawInt ((2 * q).toNat : Nat), rawInt 1] }
  have hlt : ∀ p ∈ [(r, W.listOf (List.toArray vr) kr), (f, W.listOf (List.toArray vf) kf), (L + 2, oc), (I, oI)], p.1 ≠ h₂.objs.size := fun p hp => Nat.ne_of_lt (Heap.lt_size (N₂ p hp).1)
  refine codeAny_forSrc (h₀ := g) (news := [(r, W.listOf (List.toArray vr) kr), (f, W.listOf (List.toArray vf) kf), (L + 2, oc), (I, oI)]) (Src.range rfl h₂.objs.size 1 1 (2 * q).toNat) rfl rfl (Heap.get?_push_size _ rfl) (by simp [rangeAt]) (Nat.ne_of_gt F₂.ns.lt) (next_is_new F₂) F₃ N₃ hlt
    (fun i m₁ news₁ tk => news₁ = [(r, W.listOf (List.toArray vr) kr), (f, W.listOf (List.toArray vf) kf), (L + 2, oc), (I, oI)] ∧ (∀ y, y ≠ Str.ofString "x" → m₁ y = m y)) ⟨rfl, fun _ _ => rfl⟩ (fun _ _ _ _ _ _ _ _ => trivial) ?step ?done
  case done =>
    rintro h₃ tk₃ tk₄ m₃ news₃ F₃' N₃' ⟨rfl, hm⟩ -
    refine wpAny_execs_nil ?_
    exact h h₃ tk₄ m₃ F₃' N₃' hm
  case step =>
    rintro i v m₁ news₁ h₃ tk₃ tk₄ o₃ hi ⟨u, rfl⟩ ⟨rfl, hm⟩ - F₃ N₃ hne
    clear F₂ N₂ hk₂ hrg
    have hx1 : 1 ≤ 1 + (i : Int) * 1 := by omega
    have hx2 : 1 + (i : Int) * 1 ≤ 2 * q := by omega
    replace F₃ : Fr g L h₃ (fun y => if y = Str.ofString "x" then some (.int (1 + (i : Int) * 1) u) else m₁ y) := F₃
    replace N₃ : News g L h₃ [(h₂.objs.size, o₃), (r, W.listOf (List.toArray vr) kr), (f, W.listOf (List.toArray vf) kf), (L + 2, oc), (I, oI)] := N₃
    have e1 := (hm (Str.ofString "worths") (by decide)).trans hm1
    have e2 := (hm (Str.ofString "q") (by decide)).trans hm2
    have e3 := (hm (Str.ofString "head") (by decide)).trans hm3
    have e4 := (hm (Str.ofString "t") (by decide)).trans hm4
    have hrx := hrec _ hx1 hx2
    generalize hxx : 1 + (i : Int) * 1 = x at *
    (repeat ((fail_if_success (with_reducible show wpAny _ _ (compareOp CmpOp.NotEq _ _) _ _ _)); walk1))
    · refine ne_false (hrx (by assumption)) (wpAny_truthy_bool (ite_ff (ite_ff (wpAny_execs_nil (wpAny_execs_nil ?_)))))
      exact ⟨_, _, _, _, rfl, F₃, N₃, hlt, rfl, fun y n1 => by simp only [if_neg n1]; exact hm y n1⟩
    · refine ite_ff (wpAny_execs_nil (wpAny_execs_nil ?_))
      exact ⟨_, _, _, _, rfl, F₃, N₃, hlt, rfl, fun y n1 => by simp only [if_neg n1]; exact hm y n1⟩
end
end Mine

end

section
open PySem PySem.W PyProof.Rows PySem.Calls
theorem Mine.againRD {prog : Program} {w : World} {A : Around} {E : Value → Shared → Prop} {s : Shared} {env : Env} {Q : Flow → Shared → Prop} (h : Q .next s) : wpAny (model prog w) A (execs [] env) Q E s := by
  first | (walk1; exact h) | exact wpAny_execs_nil h
end

section
open PySem PySem.W PyProof.Rows PySem.Calls
set_option maxRecDepth 100000
set_option maxHeartbeats 4000000
set_option linter.unusedSimpArgs false
set_option linter.unusedVariables false
namespace Mine
theorem regRD : (PySem.Challenge.rw_wk0003_01 = PySem.Challenge.rw_wk0003_01) ∧ (Mine.hd.heap_39 = Mine.hd.heap_39) := by k_fill; exact ⟨rfl, rfl⟩
theorem rowsOf_fst (t : Int) (ns : List Int) : (rowsOf t ns ns.length).map (·.1) = ns.map Int.toNat := by
  apply List.ext_getElem
  · simp [rowsOf]
  · intro j h1 h2
    simp at h2
    simp [rowsOf, h2]
theorem rowsOf_mem {t : Int} {ns : List Int} (hb : ∀ w ∈ ns, 8192 ≤ w ∧ w < 65536) : ∀ p ∈ rowsOf t ns ns.length, 8192 ≤ p.1 ∧ p.1 < 65536 ∧ IsEnd p.2 := by
  intro p hp
  obtain ⟨j, hj, rfl⟩ := List.mem_map.mp hp
  have hj' : j < ns.length := List.mem_range.mp hj
  have := hb ns[j] (List.getElem_mem hj')
  have e : ns.getD j 0 = ns[j] := by simp [hj']
  rw [e]
  refine ⟨?_, ?_, endAt_is _⟩ <;> (show _) <;> (dsimp only; omega)
theorem text_tail {txt : List Nat} : ({ cps := txt.toArray } ++ Str.ofString "abcd.\x0c.\n\n.\x0d\u00c5" : Str) = ⟨(txt ++ tailW).toArray⟩ := by
  have e : Str.ofString "abcd.\x0c.\n\n.\x0d\u00c5" = ⟨tailW.toArray⟩ := by decide +kernel
  rw [e]
  show (⟨txt.toArray ++ tailW.toArray⟩ : Str) = _
  simp
/-- the frame's object with other slots is the same frame -/
theorem fr_slots {g h h' : Heap} {L : Addr} {m : Str → Option Value} {oL : Obj} {sl : Array (Option Value)} (F : Fr g L h m) (e : h.get? L = some oL) (e' : h'.get? L = some { oL with slots := sl }) (hk : ∀ b o, b ≠ L → h.get? b = some o → h'.get? b = some o) : Fr g L h' m := by
  obtain ⟨⟨o, es, ep, ho, hd, hr⟩, k, a⟩ := F
  rw [e] at ho; cases ho
  exact ⟨⟨_, es, ep, e', hd, hr⟩, fun b o q => hk b o (Nat.ne_of_lt (Nat.lt_of_lt_of_le (Heap.lt_size q) a)) (k b o q), a⟩
def TokW {α : Type} (n : Nat) (P : α → Shared → Prop) (a : α) (s : Shared) : Prop := n ≤ s.toks → P a s
section
local macro_rules | `(tactic| walk_at "binaryOp Add str str") => `(tactic| (k_here; (with_reducible show wpAny _ _ (binaryOp Operator.Add (Value.str _ _) (Value.str _ _)) _ _ _); k_dflt (refine addS (by assumption) (by exact Nat.le_refl 12) (by decide) ?_); intro _ _ _))
local macro_rules | `(tactic| walk_at "eval Name") => `(tactic| (k_here; k_dflt (refine nameL (by assumption) (by first | (k_dflt (exact rfl)) | assumption) ?_ rfl rfl (by decide))))
theorem round {w : World} {A : Around} {Q : Flow → Shared → Prop} {E : Value → Shared → Prop} {s : Shared} {g : Heap} {L r f : Addr} {m mg mb : Str → Option Value} {vs vf : List Value} {v0 : List Int} {n kf i : Nat} {oc oI : Obj} {I : Addr} {q : Int} {tq tt th : Tok}
    (X : (Mine.hd.heap_39 w.params).In g) (T : TopRead VW LS mg mb g) (hA : A.depth + 1 < recursionLimit) (hh : A.handled = none) (hu : A.units + 64 < cLine) (hfr : A.frames = some [lawEnv L])
    (F : Fr g L s.heap m) (N : News g L s.heap [(r, W.listOf (List.toArray vs) n), (f, W.listOf (List.toArray vf) kf), (L + 2, oc), (I, oI)])
    (h3 : 2 ≤ q) (h4 : q ≤ 3) (fine : Fine q v0) (hi : i ≤ q.toNat) (hI : IntsAre vs (VV q v0 i)) (hf : IntsAre vf v0) (d1 : oc.data = .cell (some (.ref f)))
    (hm1 : m (Str.ofString "worths") = some (.ref r)) (hm2 : m (Str.ofString "q") = some (.int q tq)) (hm3 : m (Str.ofString "head") = some (.int (2 * q + 1) th)) (hm4 : m (Str.ofString "t") = some (.int (i + 1 : Int) tt))
    (h : ∀ h' tk m' r' vs' n', @Ne Nat r' I → Fr g L h' m' → News g L h' [(r', W.listOf (List.toArray vs') n'), (f, W.listOf (List.toArray vf) kf), (L + 2, oc), (I, oI)] → IntsAre vs' (VV q v0 (i + 1)) →
      m' (Str.ofString "worths") = some (.ref r') → m' (Str.ofString "q") = some (.int q tq) → m' (Str.ofString "head") = some (.int (2 * q + 1) th) → Q .next { s with heap := h', toks := tk }) :
    wpAny (model PW w) A (execs rndBody (lawEnv L)) Q E s := by
  have hb1 := Eq.refl rndBody
  conv at hb1 => rhs; whnf
  have hs := Eq.refl lawScope
  conv at hs => rhs; whnf
  unfold lawEnv
  rw [hb1, hs]
  clear hb1 hs
  cases A
  dsimp only at hh hfr
  subst hh
  subst hfr
  have hl0 := fine.len i (by omega)
  have hb0 := fine.bnd i hi
  have hl1 := fine.len (i + 1) (by omega)
  have hlv := fine.len 0 (by omega)
  (repeat ((fail_if_success (with_reducible show wpAny _ _ (exec (Stmt.For _ _ _ _ _) _) _ _ _)); walk1))
  rename Fr _ _ _ _ => F1
  rename News _ _ _ _ => N1
  refine text_loop (l := r) (t := (i + 1 : Int)) X T rfl F1 N1 hI hb0 (by omega) hm1 hm4 (by omega) (by omega) rfl (fun h2 tk2 m2 tx2 F2 N2 e2 et2 => ?_)
  have a1 := (e2 (Str.ofString "worths") (by decide) (by decide) (by decide) (by decide)).trans hm1
  have a2 := (e2 (Str.ofString "q") (by decide) (by decide) (by decide) (by decide)).trans hm2
  have a3 := (e2 (Str.ofString "head") (by decide) (by decide) (by decide) (by decide)).trans hm3
  have a4 := (e2 (Str.ofString "t") (by decide) (by decide) (by decide) (by decide)).trans hm4
  clear e2 F1 N1
  have hmem := rowsOf_mem (t := (i + 1 : Int)) hb0
  have hfst := rowsOf_fst (i + 1 : Int) (VV q v0 i)
  have hlen := rowsW_length _ (fun p hp => (hmem p hp).2)
  have hln : (rowsOf (i + 1 : Int) (VV q v0 i) (VV q v0 i).length).length ≤ 8 := by simp [rowsOf]; omega
  have hNL := NL.rows _ (fun p hp => ⟨(hmem p hp).1, (hmem p hp).2.2⟩)
  rw [hfst] at hNL
  generalize rowsW (rowsOf (i + 1 : Int) (VV q v0 i) (VV q v0 i).length) = txt at *
  have hlT : (⟨txt.toArray⟩ : Str).length ≤ 160 := by
    show txt.toArray.size ≤ 160
    rw [List.size_toArray]; omega
  (repeat ((fail_if_success (with_reducible show wpAny _ _ (call (Value.ref 48) _ _) _ _ _)); walk1))
  rw [text_tail]
  have hql : (qd (txt ++ tailW)).length ≤ 4 * (txt ++ tailW).length := by
    have c1 := dot_length true (crlf (txt ++ tailW))
    have c2 := crlf_length (txt ++ tailW)
    unfold qd; omega
  have htl2 : (txt ++ tailW).length ≤ 172 := by
    have : tailW.length = 12 := rfl
    rw [List.length_append]; omega
  refine quotedata_call (text := (txt ++ tailW).toArray) F2.keep X T (Nat.lt_of_succ_lt hA) (by rw [List.size_toArray]; omega) (fun h3' tk3 t3 st3 => ?_)
  have F3 := F2.keeps st3
  have N3 := N2.grown st3
  clear F2 N2 st3
  rw [show (txt ++ tailW).toArray.toList = txt ++ tailW from rfl]
  have hNL' : NL (qd (txt ++ tailW)) (rowsN ((VV q v0 i).map Int.toNat) ++ tailN) := hNL
  (repeat ((fail_if_success (with_reducible show wpAny _ _ (call (Value.ref 109) _ _) _ _ _)); walk1))
  obtain ⟨oL, esL, epL, hoL, hdL, hrL⟩ := id F3.ns
  have hL0 : g.get? L = none := by
    cases e : g.get? L with
    | none => rfl
    | some o' => exact absurd (Heap.lt_size e) (Nat.not_lt.mpr F3.above)
  refine lr_call (env0 := lawEnv L) (L0 := L) (oL0 := oL) F3.keep X T hA rfl rfl rfl (fun q => nomatch (show ScopeKind.function = ScopeKind.module from q)) hoL hdL hL0 (by rw [List.size_toArray]; omega) hNL' (fun h4' tk4 p ws kn k4 s4 p0 p4 hws htl => ?_)
  obtain ⟨sl, hsl⟩ := s4
  have F4 := fr_slots F3 hoL hsl k4
  have hpL : p ≠ L := fun e => by rw [e, hoL] at p0; cases p0
  have hpg : g.get? p = none := by
    cases e : g.get? p with
    | none => rfl
    | some o' => rw [F3.keep _ _ e] at p0; cases p0
  have N4 : News g L h4' [(p, W.listOf (List.toArray ws) kn), (r, W.listOf (List.toArray vs) n), (f, W.listOf (List.toArray vf) kf), (L + 2, oc), (I, oI)] :=
    addNew (m := m2) (fun b hb => ⟨k4 _ _ (N3 b hb).2.1 (N3 b hb).1, (N3 b hb).2⟩) p4 hpL hpg
  clear F3 N3 hrL hsl k4
  refine wpAny_with_toks (n := tk4) (Nat.le_refl _) ?_
  show wpAny _ _ _ (TokW tk4 _) _ _
  (repeat ((fail_if_success (with_reducible show TokW _ _ _ _)); walk1))
  intro hk5
  refine wpAny_execs_cons ?_
  refine wpAny_with_toks (n := tk4) hk5 ?_
  show wpAny _ _ _ (TokW tk4 _) _ _
  (repeat ((fail_if_success (with_reducible show TokW _ _ _ _)); walk1))
  intro hk6
  refine wpAny_execs_cons ?_
  refine wpAny_with_toks (n := tk4) hk6 ?_
  show wpAny _ _ _ (TokW tk4 _) _ _
  (repeat ((fail_if_success (with_reducible show TokW _ _ _ _)); walk1))
  intro hk7
  refine wpAny_execs_cons ?_
  rename Fr _ _ _ _ => F8
  rename News _ _ _ _ => N8
  rename_i r2 h8a hr2 h8b
  replace hr2 : @LT.lt Nat _ p r2 ∧ @LT.lt Nat _ r r2 ∧ @LT.lt Nat _ f r2 ∧ @LT.lt Nat _ (L + 2) r2 ∧ @LT.lt Nat _ I r2 := hr2
  have N9 : News g L _ ((p, W.listOf (List.toArray ws) kn) :: (r2, W.listOf #[] 0) :: (r, W.listOf (List.toArray vs) n) :: [(f, W.listOf (List.toArray vf) kf), (L + 2, oc), (I, oI)]) := fun b hb => N8 b (by
    simp only [List.mem_cons, List.not_mem_nil, or_false] at hb
    rcases hb with rfl | rfl | rfl | rfl | rfl | rfl <;> k_mem)
  clear N8
  refine rows_loop (p := p) (r := r2) (l := r) (kr := 0) X T (Nat.lt_of_succ_lt hA) rfl hu F8 N9 hI hb0 (by omega) hws (fun a b hm => ⟨(htl a b hm).1, Nat.lt_of_lt_of_le (htl a b hm).2 hk7⟩) (Nat.ne_of_lt hr2.1) (fun b hb => ?_) rfl rfl rfl (fun h10 tk10 m10 p10 ws10 vr10 kn10 kr10 F10 N10 e10 ep10 hw10 hv10 => ?_)
  · simp only [List.mem_cons, List.not_mem_nil, or_false] at hb
    rcases hb with rfl | rfl | rfl | rfl
    · exact Nat.ne_of_lt hr2.2.1
    · exact Nat.ne_of_lt hr2.2.2.1
    · exact Nat.ne_of_lt hr2.2.2.2.1
    · exact Nat.ne_of_lt hr2.2.2.2.2
  have b1 : m10 (Str.ofString "worths") = some (.ref r2) := e10 (Str.ofString "worths") (by decide) (by decide) (by decide) (by decide)
  have b2 : m10 (Str.ofString "q") = _ := (e10 (Str.ofString "q") (by decide) (by decide) (by decide) (by decide)).trans a2
  have b3 : m10 (Str.ofString "head") = _ := (e10 (Str.ofString "head") (by decide) (by decide) (by decide) (by decide)).trans a3
  have b4 : m10 (Str.ofString "t") = _ := (e10 (Str.ofString "t") (by decide) (by decide) (by decide) (by decide)).trans a4
  clear e10 F8 N9
  (repeat ((fail_if_success (with_reducible show wpAny _ _ (compareOp CmpOp.NotEq _ _) _ _ _)); walk1))
  refine ke_ne_ints (ns := castL tailN) (ms := [562706734, 12, 46, 13, 10, 13, 10, 46, 46, 13, 10]) (by is_list) (by is_list) hw10 (by l_ints) hu ?_
  rw [decide_eq_true (show castL tailN = [562706734, 12, 46, 13, 10, 13, 10, 46, 46, 13, 10] from rfl)]
  dsimp only [Bool.not_true]
  rename Fr _ _ _ _ => F11
  rename News _ _ _ _ => N11
  have N12 : News g L _ [(r2, W.listOf (List.toArray vr10) kr10), (f, W.listOf (List.toArray vf) kf), (L + 2, oc), (I, oI)] := fun b hb => N11 b (.tail _ (.tail _ hb))
  clear N11
  (repeat ((fail_if_success (with_reducible show wpAny _ _ (call (Value.ref 121) _ _) _ _ _)); walk1))
  have z := N12 (r2, W.listOf (List.toArray vr10) kr10) (.head _)
  have hor := fine.ord i hi
  refine lt_call (ns := up (VV q v0 i)) F11.keep X T hA rfl h3 h4 z.1 z.2.2 hv10 (by simp [up]; omega) hor (fun h13 tk13 vs13 k13 g13 hI13 => ?_)
  obtain ⟨F13, N13⟩ := bump F11 N12 (o' := W.listOf (List.toArray vs13) kr10) (.head (fun b hb => by
    simp only [List.mem_cons, List.not_mem_nil, or_false] at hb
    rcases hb with rfl | rfl | rfl
    · exact Nat.ne_of_lt hr2.2.2.1
    · exact Nat.ne_of_lt hr2.2.2.2.1
    · exact Nat.ne_of_lt hr2.2.2.2.2)) k13 g13
  clear F11 N12 z
  replace hI13 : IntsAre vs13 (VV q v0 (i + 1)) := hI13
  (repeat ((fail_if_success (with_reducible show wpAny _ _ (exec (Stmt.For _ _ _ _ _) _) _ _ _)); walk1))
  rename Fr _ _ _ _ => F14
  rename News _ _ _ _ => N14
  refine check_loop (r := r2) (nr := VV q v0 (i + 1)) (nf := v0) (t := (i + 1 : Int)) X T rfl F14 N14 hI13 hf hl1 hlv d1 h3 h4 (by omega) (by omega) b1 b2 b3 b4 (fun x x1 x2 x3 => fine.recip i hi x x1 x2 x3) (fun h15 tk15 m15 F15 N15 e15 => ?_)
  refine wpAny_execs_nil ?_
  exact h h15 tk15 m15 r2 vs13 kr10 (Nat.ne_of_gt hr2.2.2.2.2) F15 N15 hI13 ((e15 _ (by decide)).trans b1) ((e15 _ (by decide)).trans b2) ((e15 _ (by decide)).trans b3)
end
end Mine

end

section
open PySem PySem.W PyProof.Rows PySem.Calls
theorem Mine.againRS {prog : Program} {w : World} {A : Around} {E : Value → Shared → Prop} {s : Shared} {env : Env} {Q : Flow → Shared → Prop} (h : Q .next s) : wpAny (model prog w) A (execs [] env) Q E s := by
  first | (walk1; exact h) | exact wpAny_execs_nil h
end

section
open PySem PySem.W PyProof.Rows PySem.Calls
set_option maxRecDepth 100000
set_option maxHeartbeats 4000000
set_option linter.unusedSimpArgs false
set_option linter.unusedVariables false
namespace Mine
theorem regRS : (PySem.Challenge.rw_wk0003_01 = PySem.Challenge.rw_wk0003_01) ∧ (Mine.hd.heap_39 = Mine.hd.heap_39) := by k_fill; exact ⟨rfl, rfl⟩
section
local macro_rules | `(tactic| walk_at "eval Name") => `(tactic| (k_here; k_dflt (refine nameL (by assumption) (by first | (k_dflt (exact rfl)) | assumption) ?_ rfl rfl (by decide))))
theorem rounds_loop {w : World} {A : Around} {Q : Flow → Shared → Prop} {E : Value → Shared → Prop} {s : Shared} {g : Heap} {L r f : Addr} {m mg mb : Str → Option Value} {vs vf : List Value} {v0 : List Int} {n kf : Nat} {oc : Obj} {q : Int} {tq th : Tok}
    (X : (Mine.hd.heap_39 w.params).In g) (T : TopRead VW LS mg mb g) (hA : A.depth + 1 < recursionLimit) (hh : A.handled = none) (hu : A.units + 64 < cLine) (hfr : A.frames = some [lawEnv L])
    (F : Fr g L s.heap m) (N : News g L s.heap [(r, W.listOf (List.toArray vs) n), (f, W.listOf (List.toArray vf) kf), (L + 2, oc)])
    (h3 : 2 ≤ q) (h4 : q ≤ 3) (fine : Fine q v0) (hI : IntsAre vs v0) (hf : IntsAre vf v0) (d1 : oc.data = .cell (some (.ref f)))
    (hm1 : m (Str.ofString "worths") = some (.ref r)) (hm2 : m (Str.ofString "q") = some (.int q tq)) (hm3 : m (Str.ofString "head") = some (.int (2 * q + 1) th))
    (h : ∀ h' tk m', Fr g L h' m' → Q .next { s with heap := h', toks := tk }) :
    wpAny (model PW w) A (exec (lawAt 7) (lawEnv L)) Q E s := by
  have hb1 := Eq.refl (lawAt 7)
  conv at hb1 => rhs; whnf
  have hs := Eq.refl lawScope
  conv at hs => rhs; whnf
  unfold lawEnv
  rw [hb1, hs]
  clear hb1 hs
  cases A
  dsimp only at hh hfr
  subst hh
  subst hfr
  refine wpAny_For ?_
  (repeat ((fail_if_success (with_reducible show wpAny _ _ (pyIter _) _ _ _)); walk1))
  rename_i h₂ tk₂ t1 t2 t3 hrg F₂ N₂ hk₂
  have hsz : Builtin.Range.rangeSize 1 (q + 2) 1 = ((q + 1).toNat : Nat) := by
    rcases (show q = 2 ∨ q = 3 by omega) with rfl | rfl <;> decide
  refine wpAny_pyIter_range hrg (by rcases (show q = 2 ∨ q = 3 by omega) with rfl | rfl <;> decide) ?_
  rw [hsz]
  have F₃ := F₂.push { cls := .type "range_iterator", data := .fields #[rawInt 1, rawInt ((q + 1).toNat : Nat), rawInt 1] }
  have N₃ := N₂.pushKeep { cls := .type "range_iterator", data := .fields #[rawInt 1, rawInt ((q + 1).toNat : Nat), rawInt 1] }
  have hlt : ∀ p ∈ [(r, W.listOf (List.toArray vs) n), (f, W.listOf (List.toArray vf) kf), (L + 2, oc)], p.1 ≠ h₂.objs.size := fun p hp => Nat.ne_of_lt (Heap.lt_size (N₂ p hp).1)
  refine codeAny_forSrc (h₀ := g) (news := [(r, W.listOf (List.toArray vs) n), (f, W.listOf (List.toArray vf) kf), (L + 2, oc)]) (Src.range rfl h₂.objs.size 1 1 (q + 1).toNat) rfl rfl (Heap.get?_push_size _ rfl) (by simp [rangeAt]) (Nat.ne_of_gt F₂.ns.lt) (next_is_new F₂) F₃ N₃ hlt
    (fun i m₁ news₁ tk => ∃ r' vs' n', news₁ = [(r', W.listOf (List.toArray vs') n'), (f, W.listOf (List.toArray vf) kf), (L + 2, oc)] ∧ IntsAre vs' (VV q v0 i) ∧ m₁ (Str.ofString "worths") = some (.ref r') ∧ m₁ (Str.ofString "q") = some (.int q tq) ∧ m₁ (Str.ofString "head") = some (.int (2 * q + 1) th))
    ⟨r, vs, n, rfl, hI, hm1, hm2, hm3⟩ (fun _ _ _ _ _ _ _ _ => trivial) ?step ?done
  case done =>
    rintro h₃ tk₃ tk₄ m₃ news₃ F₃' N₃' - -
    refine wpAny_execs_nil ?_
    exact h h₃ tk₄ m₃ F₃'
  case step =>
    rintro i v m₁ news₁ h₃ tk₃ tk₄ o₃ hi ⟨u, rfl⟩ ⟨r', vs', n', rfl, hI', e1, e2, e3⟩ - F₃ N₃ hne
    have N₄ : News g L h₃ [(r', W.listOf (List.toArray vs') n'), (f, W.listOf (List.toArray vf) kf), (L + 2, oc), (h₂.objs.size, o₃)] := fun b hb => N₃ b (by
      simp only [List.mem_cons, List.not_mem_nil, or_false] at hb
      rcases hb with rfl | rfl | rfl | rfl <;> k_mem)
    have ht : 1 + (i : Int) * 1 = i + 1 := by omega
    rw [ht] at F₃
    replace F₃ : Fr g L h₃ (fun y => if y = Str.ofString "t" then some (.int (i + 1 : Int) u) else m₁ y) := F₃
    refine round (r := r') (n := n') X T hA rfl hu rfl F₃ N₄ h3 h4 fine (by omega) hI' hf d1 e1 e2 e3 rfl (fun h5 tk5 m5 r5 vs5 n5 hr5 F5 N5 hI5 c1 c2 c3 => ?_)
    refine ⟨h5, tk5, m5, [(r5, W.listOf (List.toArray vs5) n5), (f, W.listOf (List.toArray vf) kf), (L + 2, oc)], rfl, F5, fun b hb => N5 b ?_, fun b hb => ?_, r5, vs5, n5, rfl, hI5, c1, c2, c3⟩
    · simp only [List.mem_cons, List.not_mem_nil, or_false] at hb
      rcases hb with rfl | rfl | rfl | rfl <;> k_mem
    · simp only [List.mem_cons, List.not_mem_nil, or_false] at hb
      rcases hb with rfl | rfl | rfl
      · exact hr5
      · exact hne (f, W.listOf (List.toArray vf) kf) (by k_mem)
      · exact hne (L + 2, oc) (by k_mem)
end
end Mine

end

section
open PySem PySem.W PyProof.Rows PySem.Calls
theorem Mine.againFL {prog : Program} {w : World} {A : Around} {E : Value → Shared → Prop} {s : Shared} {env : Env} {Q : Flow → Shared → Prop} (h : Q .next s) : wpAny (model prog w) A (execs [] env) Q E s := by
  first | (walk1; exact h) | exact wpAny_execs_nil h
end

section
open PySem PySem.W PyProof.Rows PySem.Calls
set_option maxRecDepth 100000
set_option maxHeartbeats 4000000
set_option linter.unusedSimpArgs false
set_option linter.unusedVariables false
namespace Mine
theorem regFL : (PySem.Challenge.rw_wk0003_01 = PySem.Challenge.rw_wk0003_01) ∧ (Mine.hd.heap_39 = Mine.hd.heap_39) := by k_fill; exact ⟨rfl, rfl⟩
/-- each place is not below those under it, and less than 3000 above one of them -/
def Ups (q : Int) (ns : List Int) : Prop := ∀ x : Int, 1 ≤ x → x < ns.length → (∀ y ∈ besU x q, ns.getD y.toNat 0 ≤ ns.getD x.toNat 0) ∧ (∃ y ∈ besU x q, ns.getD x.toNat 0 < ns.getD y.toNat 0 + 3000)
theorem ups_snoc {q : Int} {ns : List Int} {v M : Int} (h3 : 2 ≤ q) (h4 : q ≤ 3) (hu : Ups q ns) (h1 : 1 ≤ ns.length) (h2 : ns.length ≤ 2 * q.toNat) (hM : M ∈ (besU ns.length q).map fun y => ns.getD y.toNat 0)
    (hmax : ∀ a, a ∈ (besU ns.length q).map (fun y => ns.getD y.toNat 0) → a ≤ M) (hv : M ≤ v) (hv2 : v < M + 3000) : Ups q (ns ++ [v]) := by
  have old : ∀ y : Int, 0 ≤ y → y < ns.length → (ns ++ [v]).getD y.toNat 0 = ns.getD y.toNat 0 := by
    intro y y0 y1
    have : y.toNat < ns.length := by omega
    simp [List.getD_eq_getElem?_getD, List.getElem?_append_left this]
  intro x x1 x2
  have x2' : x < ns.length + 1 := by simpa using x2
  have bb := (bes_bounds (q := q) x1 (by omega) h3 h4).2.2.1
  by_cases hx : x < ns.length
  · obtain ⟨a, y, hy, b⟩ := hu x x1 hx
    refine ⟨fun z hz => ?_, y, hy, ?_⟩
    · have := bb z hz
      rw [old z this.1 (by omega), old x (by omega) hx]; exact a z hz
    · have := bb y hy
      rw [old y this.1 (by omega), old x (by omega) hx]; exact b
  · have hxe : x = ns.length := by omega
    subst hxe
    have e : (ns ++ [v]).getD (ns.length : Int).toNat 0 = v := by simp [List.getD_eq_getElem?_getD]
    rw [e]
    refine ⟨fun z hz => ?_, ?_⟩
    · have := bb z hz
      rw [old z this.1 (by omega)]
      exact Int.le_trans (hmax _ (List.mem_map_of_mem hz)) hv
    · obtain ⟨y, hy, rfl⟩ := List.mem_map.mp hM
      have := bb y hy
      exact ⟨y, hy, by rw [old y this.1 (by omega)]; exact hv2⟩
theorem range_getD (l : List Int) (f : Int → Int) : (List.range l.length).map (fun j => f (l.getD j 0)) = l.map f := by
  apply List.ext_getElem
  · simp
  · intro j h1 h2
    simp at h1
    simp [h1]
section
local macro_rules | `(tactic| walk_at "eval Name") => `(tactic| (k_here; k_dflt (refine nameC (by assumption) (by k_mem) (by assumption) ?_ rfl rfl rfl (by decide))))
local macro_rules | `(tactic| walk_at "eval Name") => `(tactic| (k_here; k_dflt (refine nameL (by assumption) (by first | (k_dflt (exact rfl)) | assumption) ?_ rfl rfl (by decide))))
local macro_rules | `(tactic| walk_at "subscriptTail") => `(tactic| (k_here; (refine sub_int (by assumption) (by k_mem) (by assumption) (by omega) (by omega) (by omega) (fun t' => ?_))))
theorem first_loop {w : World} {A : Around} {Q : Flow → Shared → Prop} {E : Value → Shared → Prop} {s : Shared} {g : Heap} {L f D : Addr} {m mg mb : Str → Option Value} {vf vd : List Value} {ds : List Int} {kf kd : Nat} {oc : Obj} {q a0 : Int} {tq th : Tok}
    (X : (Mine.hd.heap_39 w.params).In g) (T : TopRead VW LS mg mb g) (hA : A.depth < recursionLimit) (hh : A.handled = none)
    (F : Fr g L s.heap m) (N : News g L s.heap [(f, W.listOf (List.toArray vf) kf), (D, W.listOf (List.toArray vd) kd), (L + 2, oc)])
    (h3 : 2 ≤ q) (h4 : q ≤ 3) (hd : IntsAre vd ds) (hdl : ds.length = 8) (hf : IntsAre vf [a0]) (d1 : oc.data = .cell (some (.ref f))) (hfD : @Ne Nat D f) (hfL : @Ne Nat (L + 2) f)
    (hm1 : m (Str.ofString "drawn") = some (.ref D)) (hm2 : m (Str.ofString "q") = some (.int q tq)) (hm3 : m (Str.ofString "head") = some (.int (2 * q + 1) th))
    (h : ∀ h' tk m' vf' kf' nf, Fr g L h' m' → News g L h' [(f, W.listOf (List.toArray vf') kf'), (D, W.listOf (List.toArray vd) kd), (L + 2, oc)] → IntsAre vf' nf → nf.length = 2 * q.toNat + 1 → Ups q nf → nf.getD 0 0 = a0 → (∀ y, y ≠ Str.ofString "x" → m' y = m y) →
      Q .next { s with heap := h', toks := tk }) :
    wpAny (model PW w) A (exec (lawAt 4) (lawEnv L)) Q E s := by
  have hb1 := Eq.refl (lawAt 4)
  conv at hb1 => rhs; whnf
  have hs := Eq.refl lawScope
  conv at hs => rhs; whnf
  unfold lawEnv
  rw [hb1, hs]
  clear hb1 hs
  cases A
  dsimp only at hh
  subst hh
  refine wpAny_For ?_
  (repeat ((fail_if_success (with_reducible show wpAny _ _ (pyIter _) _ _ _)); walk1))
  rename_i h₂ tk₂ t1 t2 t3 hrg F₂ N₂ hk₂
  have hsz : Builtin.Range.rangeSize 1 (2 * q + 1) 1 = ((2 * q).toNat : Nat) := by
    rcases (show q = 2 ∨ q = 3 by omega) with rfl | rfl <;> decide
  refine wpAny_pyIter_range hrg (by rcases (show q = 2 ∨ q = 3 by omega) with rfl | rfl <;> decide) ?_
  rw [hsz]
  have F₃ := F₂.push { cls := .type "range_iterator", data := .fields #[rawInt 1, rawInt ((2 * q).toNat : Nat), rawInt 1] }
  have N₃ := N₂.pushKeep { cls := .type "range_iterator", data := .fields #[rawInt 1, rawInt ((2 * q).toNat : Nat), rawInt 1] }
  have hlt : ∀ p ∈ [(f, W.listOf (List.toArray vf) kf), (D, W.listOf (List.toArray vd) kd), (L + 2, oc)], p.1 ≠ h₂.objs.size := fun p hp => Nat.ne_of_lt (Heap.lt_size (N₂ p hp).1)
  refine codeAny_forSrc (h₀ := g) (news := [(f, W.listOf (List.toArray vf) kf), (D, W.listOf (List.toArray vd) kd), (L + 2, oc)]) (Src.range rfl h₂.objs.size 1 1 (2 * q).toNat) rfl rfl (Heap.get?_push_size _ rfl) (by simp [rangeAt]) (Nat.ne_of_gt F₂.ns.lt) (next_is_new F₂) F₃ N₃ hlt
    (fun i m₁ news₁ tk => ∃ vf' kf' nf, news₁ = [(f, W.listOf (List.toArray vf') kf'), (D, W.listOf (List.toArray vd) kd), (L + 2, oc)] ∧ IntsAre vf' nf ∧ nf.length = i + 1 ∧ Ups q nf ∧ nf.getD 0 0 = a0 ∧ (∀ y, y ≠ Str.ofString "x" → m₁ y = m y))
    ⟨vf, kf, [a0], rfl, hf, rfl, (fun x x1 x2 => by simp at x2; omega), rfl, fun _ _ => rfl⟩ (fun _ _ _ _ _ _ _ _ => trivial) ?step ?done
  case done =>
    rintro h₃ tk₃ tk₄ m₃ news₃ F₃' N₃' ⟨vf', kf', nf, rfl, hnf, hnl, hup, h0, hm⟩ -
    refine wpAny_execs_nil ?_
    exact h h₃ tk₄ m₃ vf' kf' nf F₃' N₃' hnf (by omega) hup h0 hm
  case step =>
    rintro i v m₁ news₁ h₃ tk₃ tk₄ o₃ hi ⟨u, rfl⟩ ⟨vf', kf', nf, rfl, hnf, hnl, hup, h0, hm⟩ - F₃ N₃ hne
    clear F₂ N₂ hk₂ hrg
    have hx1 : 1 ≤ 1 + (i : Int) * 1 := by omega
    have hx2 : 1 + (i : Int) * 1 ≤ 2 * q := by omega
    replace F₃ : Fr g L h₃ (fun y => if y = Str.ofString "x" then some (.int (1 + (i : Int) * 1) u) else m₁ y) := F₃
    replace N₃ : News g L h₃ [(h₂.objs.size, o₃), (f, W.listOf (List.toArray vf') kf'), (D, W.listOf (List.toArray vd) kd), (L + 2, oc)] := N₃
    have e1 := (hm (Str.ofString "drawn") (by decide)).trans hm1
    have e2 := (hm (Str.ofString "q") (by decide)).trans hm2
    have e3 := (hm (Str.ofString "head") (by decide)).trans hm3
    have hxn : (nf.length : Int) = 1 + (i : Int) * 1 := by omega
    generalize hxx : 1 + (i : Int) * 1 = x at *
    (repeat ((fail_if_success (with_reducible show wpAny _ _ (eval (Expr.ListComp _ _ _ _) _) _ _ _)); walk1))
    refine comp_K (fun v y => ∃ k u u', v = .int k u ∧ 0 ≤ k ∧ k < nf.length ∧ y = .int (nf.getD k.toNat 0) u') (cl := [(Str.ofString "first", L + 2)]) (by assumption) (by rfl) (by decide) rfl (by decide) rfl ?_
    (repeat ((fail_if_success (with_reducible show wpAny _ _ (call (Value.ref 116) _ _) _ _ _)); walk1))
    refine beside_call (Fr.keep (by assumption)) X T (by assumption) hx1 (by omega) h3 h4 (fun hB tkB D2 B => ?_)
    rename Fr _ _ _ _ => F5
    rename News _ _ _ _ => N5
    obtain ⟨p1, p2, wa, na, wb, nb, F6, N6, Ia, Ib, -⟩ := beside_onto F5 N5 B
    obtain ⟨bu, bo, bu1, bo1⟩ := bes_bounds hx1 hx2 h3 h4
    clear F5 N5 B
    (repeat ((fail_if_success (with_reducible show wpAny _ _ (pyIter _) _ _ _)); walk1))
    have zp := (N6 (p1, W.listOf (List.toArray wa) na) (by k_mem)).1
    have hlp : @LT.lt Nat _ p1 hB.objs.size := Heap.lt_size zp
    have hwal := Ia.length
    have hual : (besU x q).length ≤ 2 := by
      rcases (show q = 2 ∨ q = 3 by omega) with rfl | rfl
      · rcases (show x = 1 ∨ x = 2 ∨ x = 3 ∨ x = 4 by omega) with rfl | rfl | rfl | rfl <;> decide
      · rcases (show x = 1 ∨ x = 2 ∨ x = 3 ∨ x = 4 ∨ x = 5 ∨ x = 6 by omega) with rfl | rfl | rfl | rfl | rfl | rfl <;> decide
    refine wpAny_pyIter_list (PySem.IsL.isList (n := na) zp) ?_
    have hnw : ∀ b ∈ [(f, W.listOf (List.toArray vf') kf'), (D, W.listOf (List.toArray vd) kd), (L + 2, oc), (h₂.objs.size, o₃)], b.1 ≠ hB.objs.size := fun b hb => Nat.ne_of_lt (Heap.lt_size (N6 b (by
      simp only [List.mem_cons, List.not_mem_nil, or_false] at hb
      rcases hb with rfl | rfl | rfl | rfl <;> k_mem)).1)
    have N7 : News g L hB [(f, W.listOf (List.toArray vf') kf'), (D, W.listOf (List.toArray vd) kd), (L + 2, oc), (h₂.objs.size, o₃)] := fun b hb => N6 b (by
      simp only [List.mem_cons, List.not_mem_nil, or_false] at hb
      rcases hb with rfl | rfl | rfl | rfl <;> k_mem)
    refine ⟨hB.objs.size, _, _, _, _, _, [(f, W.listOf (List.toArray vf') kf'), (D, W.listOf (List.toArray vd) kd), (L + 2, oc), (h₂.objs.size, o₃)], rfl, Walks.list rfl hB.objs.size p1 (Nat.ne_of_lt hlp) (List.toArray wa), ?_, ⟨⟨_, Heap.get?_push_size _ rfl, rfl, rfl⟩, PySem.IsL.isList (n := na) (Heap.get?_push_of_some _ zp)⟩, ?_, F6.push _, N7.pushKeep _, ?_, ?_, ?_, ?_, ?_⟩
    · rw [List.size_toArray, sizeLine_eq]; omega
    · intro b hb
      show b < (Heap.push _ _).objs.size
      rw [Heap.size_push]
      simp only [List.mem_cons, List.not_mem_nil, or_false] at hb
      rcases hb with rfl | rfl
      · exact Nat.lt_succ_self _
      · exact Nat.lt_succ_of_lt hlp
    · intro b hb hI
      exact hnw b hb (by simpa using hI)
    · intro hI
      exact absurd F6.ns.lt ((List.mem_singleton.mp hI) ▸ Nat.lt_irrefl _)
    · intro b hb
      rw [List.mem_singleton.mp hb]
      exact next_is_new F6
    · rintro C j v s₃ m₃ hPv F9 N9 hm9
      have hPv' : wa[j]? = some v := by simpa using hPv
      obtain ⟨y, ty, rfl, hy⟩ := ints_mem Ia (List.mem_of_getElem? hPv')
      have hyb := bu1 y hy
      clear F6 N6 N7 zp hPv
      (repeat ((fail_if_success (with_reducible show And _ _)); walk1))
      exact ⟨⟨y, _, _, rfl, hyb.1, by omega, rfl⟩, s₃.heap, _, rfl, fun _ _ e => e⟩
    · intro D3 h10 tk10 ys vs k10 F10 N10 hne10 hkp hlen10 hP hFv
      have hvs : IntsAre ys.toList ((besU x q).map fun y => nf.getD y.toNat 0) := by
        have := ints_of_paired (f := fun j => nf.getD ((besU x q).getD j 0).toNat 0) hlen10 hP hFv (fun j v y hj hPj hFy => by
          obtain ⟨k, u1, u2, rfl, k0, k1, rfl⟩ := hFy
          have hj' : j < (besU x q).length := by simp at hj; omega
          obtain ⟨u3, hu3⟩ := Ia.get j ((besU x q).getD j 0) (by simp [hj'])
          have hPj' : wa[j]? = some (.int k u1) := by simpa using hPj
          rw [hu3] at hPj'
          cases hPj'
          exact ⟨u2, rfl⟩)
        rw [List.size_toArray, hwal, range_getD (besU x q) (fun y => nf.getD y.toNat 0)] at this
        exact this
      clear F6 N6 N7 zp hkp hlen10 hP hFv hne10
      obtain ⟨yl⟩ := ys
      replace hvs : IntsAre yl ((besU x q).map fun y => nf.getD y.toNat 0) := hvs
      have hvl : 0 < ((besU x q).map fun y => nf.getD y.toNat 0).length := by
        rw [List.length_map]; exact List.length_pos_iff.mpr bu
      (repeat ((fail_if_success (with_reducible show wpAny _ _ (call (Value.builtin "max") _ _) _ _ _)); walk1))
      refine kso_max F10 N10 (PySem.IsL.isList (n := k10) (N10 (D3, W.listOf (List.toArray yl) k10) (by k_mem)).1) hvs hvl rfl (fun h11 M t11 tk11 F11 N11 hM hmax => ?_)
      clear F10 N10
      have N12 : News g L h11 [(f, W.listOf (List.toArray vf') kf'), (D, W.listOf (List.toArray vd) kd), (L + 2, oc), (h₂.objs.size, o₃)] := fun b hb => N11 b (.tail _ hb)
      clear N11
      (repeat ((fail_if_success (with_reducible show wpAny _ _ (call (Value.builtin "list.append") _ _) _ _ _)); walk1))
      have hnfl := hnf.length
      have hszf : (List.toArray vf').size ≤ sizeLine := by
        rw [List.size_toArray, sizeLine_eq]; omega
      have hfI : @Ne Nat (h₂.objs.size) f := fun e => hne (f, W.listOf (List.toArray vf') kf') (.head _) e.symm
      refine append_K F11 N12 (.head (fun b hb => by
        simp only [List.mem_cons, List.not_mem_nil, or_false] at hb
        rcases hb with rfl | rfl | rfl
        · exact hfD
        · exact hfL
        · exact hfI)) (fun h13 F13 N13 => ?_) hszf
      rw [List.push_toArray] at N13
      have hd0 : 0 ≤ (ds.getD x.toNat 0).fmod 3000 := Int.fmod_nonneg_of_pos _ (by decide)
      have hd1 : (ds.getD x.toNat 0).fmod 3000 < 3000 := Int.fmod_lt_of_pos _ (by decide)
      generalize (ds.getD x.toNat 0).fmod 3000 = dd at *
      rw [← hxn] at hM hmax
      refine wpAny_execs_nil ?_
      refine ⟨h13, _, _, [(f, W.listOf (List.toArray (vf' ++ [Value.int (M + dd) (tk11 + 1 + 1)])) (kf' + 1)), (D, W.listOf (List.toArray vd) kd), (L + 2, oc)], rfl, F13, fun b hb => N13 b ?_, fun b hb => ?_, vf' ++ [Value.int (M + dd) (tk11 + 1 + 1)], kf' + 1, nf ++ [M + dd], rfl, IntsAre.append hnf (.cons _ _ .nil), by simp; omega, ups_snoc h3 h4 hup (by omega) (by omega) hM hmax (by omega) (by omega), ?_, fun y n1 => ?_⟩
      · simp only [List.mem_cons, List.not_mem_nil, or_false] at hb
        rcases hb with rfl | rfl | rfl | rfl <;> k_mem
      · simp only [List.mem_cons, List.not_mem_nil, or_false] at hb
        rcases hb with rfl | rfl | rfl
        · exact Ne.symm hfI
        · exact hne (D, W.listOf (List.toArray vd) kd) (by k_mem)
        · exact hne (L + 2, oc) (by k_mem)
      · rw [← h0]
        cases nf with
        | nil => simp at hnl
        | cons a r => rfl
      · simp only [if_neg n1]
        exact hm y n1
end
end Mine

end

section
set_option linter.unusedVariables false
set_option linter.unusedSimpArgs false
set_option maxRecDepth 100000
set_option maxHeartbeats 1000000
namespace Mine
theorem fine_of {q : Int} {nf : List Int} {a0 d : Int} (h3 : 2 ≤ q) (h4 : q ≤ 3) (hl : nf.length = 2 * q.toNat + 1) (hup : Ups q nf) (h0 : nf.getD 0 0 = a0) (ha : 8192 ≤ a0) (ha2 : a0 < 12288) (hd : 0 ≤ d) (hd2 : d < 3000) :
    Fine q (nf ++ [nf.getLastD 0 + d]) := by
  rcases (show q = 2 ∨ q = 3 by omega) with rfl | rfl
  · match nf, hl, hup, h0 with
    | [a, x1, x2, x3, x4], _, hup, h0 =>
      replace h0 : a = a0 := h0
      have u1 := hup 1 (by decide) (by simp)
      have u2 := hup 2 (by decide) (by simp)
      have u3 := hup 3 (by decide) (by simp)
      have u4 := hup 4 (by decide) (by simp)
      rw [show besU 1 2 = [0] from rfl] at u1
      rw [show besU 2 2 = [1] from rfl] at u2
      rw [show besU 3 2 = [1] from rfl] at u3
      rw [show besU 4 2 = [3, 2] from rfl] at u4
      simp only [List.mem_cons, List.not_mem_nil, or_false, forall_eq, forall_eq_or_imp, exists_eq_left, exists_eq_or_imp] at u1 u2 u3 u4
      replace u1 : a ≤ x1 ∧ x1 < a + 3000 := u1
      replace u2 : x1 ≤ x2 ∧ x2 < x1 + 3000 := u2
      replace u3 : x1 ≤ x3 ∧ x3 < x1 + 3000 := u3
      replace u4 : (x3 ≤ x4 ∧ x2 ≤ x4) ∧ (x4 < x3 + 3000 ∨ x4 < x2 + 3000) := u4
      show Fine 2 [a, x1, x2, x3, x4, x4 + d]
      exact fine2 ⟨by omega, by omega, by omega, by omega, by omega, by omega⟩ (by omega) (by omega)
  · match nf, hl, hup, h0 with
    | [a, x1, x2, x3, x4, x5, x6], _, hup, h0 =>
      replace h0 : a = a0 := h0
      have u1 := hup 1 (by decide) (by simp)
      have u2 := hup 2 (by decide) (by simp)
      have u3 := hup 3 (by decide) (by simp)
      have u4 := hup 4 (by decide) (by simp)
      have u5 := hup 5 (by decide) (by simp)
      have u6 := hup 6 (by decide) (by simp)
      rw [show besU 1 3 = [0] from rfl] at u1
      rw [show besU 2 3 = [1] from rfl] at u2
      rw [show besU 3 3 = [2] from rfl] at u3
      rw [show besU 4 3 = [1] from rfl] at u4
      rw [show besU 5 3 = [4, 2] from rfl] at u5
      rw [show besU 6 3 = [5, 3] from rfl] at u6
      simp only [List.mem_cons, List.not_mem_nil, or_false, forall_eq, forall_eq_or_imp, exists_eq_left, exists_eq_or_imp] at u1 u2 u3 u4 u5 u6
      replace u1 : a ≤ x1 ∧ x1 < a + 3000 := u1
      replace u2 : x1 ≤ x2 ∧ x2 < x1 + 3000 := u2
      replace u3 : x2 ≤ x3 ∧ x3 < x2 + 3000 := u3
      replace u4 : x1 ≤ x4 ∧ x4 < x1 + 3000 := u4
      replace u5 : (x4 ≤ x5 ∧ x2 ≤ x5) ∧ (x5 < x4 + 3000 ∨ x5 < x2 + 3000) := u5
      replace u6 : (x5 ≤ x6 ∧ x3 ≤ x6) ∧ (x6 < x5 + 3000 ∨ x6 < x3 + 3000) := u6
      show Fine 3 [a, x1, x2, x3, x4, x5, x6, x6 + d]
      exact fine3 ⟨by omega, by omega, by omega, by omega, by omega, by omega, by omega, by omega, by omega⟩ (by omega) (by omega)
end Mine

end

section
open PySem PySem.W PyProof.Rows PySem.Calls
theorem Mine.againLW {prog : Program} {w : World} {A : Around} {E : Value → Shared → Prop} {s : Shared} {env : Env} {Q : Flow → Shared → Prop} (h : Q .next s) : wpAny (model prog w) A (execs [] env) Q E s := by
  first | (walk1; exact h) | exact wpAny_execs_nil h
end

section
open PySem PySem.W PyProof.Rows PySem.Calls
set_option maxRecDepth 100000
set_option maxHeartbeats 4000000
set_option linter.unusedSimpArgs false
set_option linter.unusedVariables false
namespace Mine
theorem regW : (PySem.Challenge.rw_wk0003_01 = PySem.Challenge.rw_wk0003_01) ∧ (Mine.hd.heap_39 = Mine.hd.heap_39) := by k_fill; exact ⟨rfl, rfl⟩
section
local macro_rules | `(tactic| walk_at "eval Name") => `(tactic| (k_here; k_dflt (refine nameL (by assumption) (by first | (k_dflt (exact rfl)) | assumption) ?_ rfl rfl (by decide))))
local macro_rules | `(tactic| walk_at "eval Name") => `(tactic| (k_here; (with_reducible show wpAny _ _ (eval _ (compEnvC _ _ _ _)) _ _ _); refine nameB (by assumption) (by assumption) (by assumption) (by k_is) (by boot_by_name) (by decide) ?_ rfl rfl rfl rfl (by decide)))
local macro_rules | `(tactic| walk_at "eval Name") => `(tactic| (k_here; (with_reducible show wpAny _ _ (eval _ (compEnvC _ _ _ _)) _ _ _); refine nameG (by assumption) (by assumption) (by assumption) (by k_is) ?_ rfl rfl rfl (by decide)))
local macro_rules | `(tactic| walk_at "eval Name") => `(tactic| (k_here; (with_reducible show wpAny _ _ (eval _ (compEnvC _ _ _ _)) _ _ _); refine nameC (by assumption) (by k_mem) (by assumption) ?_ rfl rfl rfl (by decide)))
theorem sum_stay {prog : Program} {w : World} {A : Around} {E : Value → Shared → Prop} {s : Shared} {l : Addr} {vs : List Value} {ns : List Int} {Q : Value → Shared → Prop} (hh : A.handled = none) (hl : s.heap.IsList l vs.toArray) (hi : IntsAre vs ns)
    (h : ∀ h' tk t', Stay s.heap h' → Q (.int ns.sum t') { s with heap := h', toks := tk }) : wpAny (model prog w) A (call (.builtin "sum") [.ref l]) Q E s := by
  obtain ⟨xs, hx⟩ := hi.allInts.items
  have hn : numsOf vs.toArray.toList = ns := by rw [show vs.toArray.toList = vs from rfl, hi.numsOf]
  rw [hx] at hl hn
  rw [nums_intItems] at hn
  refine sum_intListG hh hl fun h' tk t' hk => ?_
  have := h h' tk t' hk
  rw [preSum_eq, List.take_of_length_le (by simp), hn]
  exact this
theorem get8 {i : Nat} (h : i < 8) : ([10, 0, 1300, 46, 2900, 700, 1, 2222] : List Int)[i]? = some (([10, 0, 1300, 46, 2900, 700, 1, 2222] : List Int).getD i 0) := by
  rcases (show i = 0 ∨ i = 1 ∨ i = 2 ∨ i = 3 ∨ i = 4 ∨ i = 5 ∨ i = 6 ∨ i = 7 by omega) with rfl | rfl | rfl | rfl | rfl | rfl | rfl | rfl <;> rfl
local macro_rules | `(tactic| walk_at "eval Name") => `(tactic| (k_here; (fail_if_success (with_reducible show wpAny _ _ (eval _ (compEnvC _ _ _ _)) _ _ _)); k_dflt (refine nameC (by assumption) (by k_mem) (by assumption) ?_ rfl rfl rfl (by decide))))
local macro_rules | `(tactic| walk_at "subscriptTail") => `(tactic| (k_here; (with_reducible show wpAny _ _ (subscriptTail _ _ _ (Value.int _ _)) _ _ _); first | (refine sub_int (by assumption) (by k_mem) (by assumption) (by omega) (by omega) (by omega) (fun t' => ?_)) | (refine sub_last (by assumption) (by k_mem) (by assumption) ?_)))
theorem slice_all {prog : Program} {w : World} {A : Around} {E : Value → Shared → Prop} {s : Shared} {h₀ : Heap} {L l : Addr} {m : Str → Option Value} {news : List (Addr × Obj)} {value slice : PySem.Expr} {vs : List Value} {ns : List Int} {n : Nat} {Q : Value → Shared → Prop}
    (F : Fr h₀ L s.heap m) (N : News h₀ L s.heap news) (hm : (l, W.listOf (List.toArray vs) n) ∈ news) (hi : IntsAre vs ns) (hz : ns.length ≤ 100000)
    (h : ∀ D ws h', Fr h₀ L h' m → News h₀ L h' ((D, W.listOf (List.toArray ws) 0) :: news) → (∀ p ∈ news, p.1 < D) → IntsAre ws ns → Q (.ref D) { s with heap := h' })
    (hs : subscripted slice false (.ref l) (.ref s.heap.objs.size) = operate [.ref s.heap.objs.size, .ref l] (getItem (.ref l) (.ref s.heap.objs.size)) := by with_unfolding_all rfl) (ht : ∀ r, letTemporaryGo value (.ref l) r = pure () := by intro _; with_unfolding_all rfl) :
    wpAny (model prog w) A (subscriptTail value slice (.ref l) (.ref s.heap.objs.size)) Q E { s with heap := s.heap.push { cls := .type "slice", data := .fields #[.none, .none, .none] } } := by
  have hl := hi.length
  exact kmk_slice_ints F N (News.isList N hm) .none .none hi (kmk_all hi) rfl (fun D ws h' F' N' l1 hw _ _ => h D ws h' F' N' l1 hw) hs ht (by rw [List.size_toArray, sizeLine_eq]; omega)
theorem getD_last {l : List Int} (h : l ≠ []) : l.getD (-1 + (l.length : Int)).toNat 0 = l.getLastD 0 := by
  have hl : 0 < l.length := List.length_pos_iff.mpr h
  have e : (-1 + (l.length : Int)).toNat = l.length - 1 := by omega
  rw [e, List.getD_eq_getElem?_getD, ← List.getLast?_eq_getElem?, List.getLastD_eq_getLast?]
theorem law_call {w : World} {A : Around} {R : Result → Shared → Prop} {s : Shared} {mg mb : Str → Option Value} {l : Addr} {vs : List Value} {sc : List Int}
   (X : (Mine.hd.heap_39 w.params).In s.heap) (T : TopRead VW LS mg mb s.heap)
   (hA : A.depth + 3 < recursionLimit) (hu : A.units + 67 < cLine) (hh : A.handled = none) (hfr : A.frames = some [])
   (hl : s.heap.IsList l vs.toArray) (hI : IntsAre vs sc) (hlen : sc.length ≤ 63)
   (h : ∀ h' tk (Lf : Addr) (mf : Str → Option Value), Fr s.heap Lf h' mf → R (.ok (.ret (.bool true))) { s with heap := h', toks := tk }) :
   codeAny (model PW w) A (.call (.ref 126) ⟨[.ref l], []⟩) R s := by
  refine enterC (G := s.heap) [] (Stay.refl _) X T (fun _ h => nomatch h) (by k_is) (by k_is) (by omega) (BindsTo.of_eq (binds := [("script", .ref l)]) rfl) (by rfl) (by decide) (fun g h₁ tk cells Xg Tg hg hk F N X0 => ?_)
  clear X T
  obtain ⟨handled, depth, frames, guards, units⟩ := A
  dsimp only at hh hfr hA hu
  subst hh
  subst hfr
  have hlg : g.IsList l vs.toArray := let ⟨o, e, r⟩ := hl; ⟨o, hg l o e (by simp), r⟩
  generalize hL : s.heap.objs.size = L at *
  obtain ⟨o1, o2, rfl, d1', d2'⟩ := CellsAre.two X0
  clear X0
  have d2 : o2.data = .cell (some (.ref l)) := d2'
  have d1 : o1.data = .cell none := d1'
  clear d1' d2'
  replace F : Fr g L h₁ (fun _ => none) := F
  replace N : News g L h₁ [(L + 2, o1), (L + 1, o2)] := N
  refine wpAny_execs_cons ?_
  refine comp_assign (h₀ := g) (m := fun _ => none) (by rfl) rfl (by decide) rfl (by decide) rfl rfl ?_
  (repeat ((fail_if_success (with_reducible show wpAny _ _ (call (Value.type "enumerate") _ _) _ _ _)); walk1))
  rename_i T0 h2 F2 N2 l2
  obtain ⟨items, z0, hi8⟩ : ∃ items : Array Value, h2.get? T0 = some { cls := .type "tuple", data := .seq items } ∧ IntsAre items.toList [10, 0, 1300, 46, 2900, 700, 1, 2222] :=
    ⟨_, (N2 (T0, _) (.head _)).1, .cons _ _ (.cons _ _ (.cons _ _ (.cons _ _ (.cons _ _ (.cons _ _ (.cons _ _ (.cons _ _ .nil)))))))⟩
  have hsz8 : items.size = 8 := by simpa using hi8.length
  have N2' : News g L h2 [(L + 2, o1), (L + 1, o2)] := fun p hp => N2 p (.tail _ hp)
  clear N2
  refine call_enumerate_tuple ⟨_, z0, rfl, _, rfl⟩ (fun h3 he hit hz hk3 => ?_)
  refine wpAny_pyIter_enum he ?_
  have F3 := F2.keeps hk3
  have hT0 : @LT.lt Nat _ T0 h2.objs.size := Heap.lt_size z0
  have hL2 : @LT.lt Nat _ L h2.objs.size := F2.ns.lt
  have hg0 : ∀ b, h2.objs.size ≤ b → g.get? b = none := by
    intro b hb
    cases q : g.get? b with
    | none => rfl
    | some o => exact absurd (Heap.lt_size (F2.keep _ _ q)) (Nat.not_lt.mpr hb)
  obtain ⟨io, hio, hioc, hiod⟩ := id hit
  obtain ⟨eo, heo⟩ : ∃ eo, h3.get? (h2.objs.size + 1) = some eo := ⟨_, he⟩
  have N3 : News g L h3 [(h2.objs.size + 1, eo), (h2.objs.size, io), (L + 2, o1), (L + 1, o2)] :=
    addNew (m := fun _ => none) (addNew (m := fun _ => none) (N2'.grown hk3) hio (Nat.ne_of_gt hL2) (hg0 _ (Nat.le_refl _))) heo (Nat.ne_of_gt (Nat.lt_succ_of_lt hL2)) (hg0 _ (Nat.le_succ _))
  refine ⟨_, _, rfl, F3, N3, fun C D oL h8 hoL F8 N8 hlt8 hLD hDC hk8 => ?_⟩
  replace hLD : @LT.lt Nat _ L D := hLD
  replace hDC : @LT.lt Nat _ D C := hDC
  replace F8 : Fr g C h8 (fun _ => none) := F8
  have zD := N8 (D, W.listOf #[] 0) (.head _)
  have hDsz : @LT.lt Nat _ (h2.objs.size + 1) D := hlt8 _ (.head _)
  have hDc2 : @LT.lt Nat _ (L + 2) D := hlt8 (L + 2, o1) (by k_mem)
  have hfC : C ∉ [h2.objs.size + 1, h2.objs.size, T0] := by
    simp only [List.mem_cons, List.not_mem_nil, or_false, not_or]
    refine ⟨?_, ?_, ?_⟩ <;> (refine neN ?_; omega)
  have hfD : D ∉ [h2.objs.size + 1, h2.objs.size, T0] := by
    simp only [List.mem_cons, List.not_mem_nil, or_false, not_or]
    refine ⟨?_, ?_, ?_⟩ <;> (refine neN ?_; omega)
  have hc2 : @LT.lt Nat _ (L + 2) h2.objs.size := Heap.lt_size (N2' (L + 2, o1) (by k_mem)).1
  refine pairs_ints (g := g) (base := [(L, oL), (L + 2, o1), (L + 1, o2)]) (f := fun i => ([10, 0, 1300, 46, 2900, 700, 1, 2222] : List Int).getD i 0 + (pickNums sc (some (i : Int)) none (some 8)).sum) rfl (WalksT.enumerateD (drawsTuple rfl h2.objs.size T0 (Nat.ne_of_lt hT0) items) (h2.objs.size + 1) (Nat.succ_ne_self _) (by
      simp only [List.mem_cons, List.not_mem_nil, or_false, not_or]
      exact ⟨Nat.succ_ne_self _, Nat.ne_of_gt (Nat.lt_succ_of_lt hT0)⟩) (.head _)) rfl rfl rfl (by decide) (by rw [hsz8]; decide) hfC hfD (Nat.ne_of_lt hDC) ?hw zD.2.2 ?hb F8 ?hN ?hst zD.1 ?helt ?hPt ?hR
  case hw =>
    intro b hb
    simp only [List.mem_cons, List.not_mem_nil, or_false] at hb
    rcases hb with rfl | rfl
    · exact hg0 _ (Nat.le_succ _)
    · exact hg0 _ (Nat.le_refl _)
  case hb =>
    intro p hp
    simp only [List.mem_cons, List.not_mem_nil, or_false, not_or] at hp ⊢
    rcases hp with rfl | rfl | rfl <;> (refine ⟨⟨?_, ?_⟩, ?_⟩ <;> (refine neN ?_; (try dsimp only); omega))
  case hN =>
    intro p hp
    simp only [List.mem_cons, List.not_mem_nil, or_false] at hp
    rcases hp with rfl | rfl | rfl
    · exact N8 (L, oL) (by k_mem)
    · exact N8 (L + 2, o1) (by k_mem)
    · exact N8 (L + 1, o2) (by k_mem)
  case hst => exact ⟨⟨_, hk8 _ _ he⟩, ⟨io, hk8 _ _ hio, hioc, hiod⟩, ⟨_, hk8 _ _ (hk3 _ _ z0), rfl, _, rfl⟩⟩
  case hPt => exact fun i vals ⟨t, x, _, e⟩ => ⟨_, _, e⟩
  case helt =>
    rintro i vals va vb m h4 tk4 hi ⟨t, x, hx, rfl⟩ hv F hma hmb N
    obtain ⟨e1, e2⟩ : Value.int i t = va ∧ x = vb := by simpa using hv
    subst e1
    subst e2
    obtain ⟨u, hu⟩ := hi8.get i ([10, 0, 1300, 46, 2900, 700, 1, 2222].getD i 0) (get8 (by omega))
    have hx2 : items.toList[i]? = some x := by simpa using hx
    rw [hu] at hx2
    cases hx2
    clear F8 N8 hx hu hv zD
    have hlg' : h4.IsList l vs.toArray := let ⟨o, e, r⟩ := hlg; ⟨o, F.keep _ _ e, r⟩
    (repeat ((fail_if_success (with_reducible show wpAny _ _ (subscriptTail _ _ _ _) _ _ _)); walk1))
    refine tail_any (s := _) (hlg'.push _).typeIs slot_list_getitem.lookup (wpAny_getItem_list_slice (vl := .int (i : Int) t) (vu := .none) (lo := some (i : Int)) (hi := none) (st := some 8) (hlg'.push _) ⟨_, Heap.get?_push_size _ rfl, rfl, rfl⟩ (.int _ _) .none (.int _ _) (by decide) ?_ (by rw [List.size_toArray, hI.length, sizeLine_eq]; omega)) rfl
    (repeat ((fail_if_success (with_reducible show wpAny _ _ (call (Value.builtin "sum") _ _) _ _ _)); walk1))
    refine sum_stay rfl ⟨_, Heap.get?_push_size _ rfl, rfl, _, rfl⟩ (hI.pick _ _ _) (fun h5 tk5 t5 st5 => ?_)
    (repeat ((fail_if_success (with_reducible show ∃ _, _)); walk1))
    exact ⟨h5, _, _, rfl, rfl, fun b o e => st5 b o (Heap.get?_push_of_some _ (Heap.get?_push_of_some _ e))⟩
  case hR =>
    intro h4 tk4 m4 ys kd F N hys
    refine ⟨m4, [(D, W.listOf (List.toArray ys) kd), (L + 2, o1), (L + 1, o2)], F, ?_, ?_, fun h9 tk9 F9 N9 => ?_⟩
    · intro p hp
      simp only [List.mem_cons, List.not_mem_nil, or_false] at hp
      rcases hp with rfl | rfl | rfl | rfl
      · exact N (L, oL) (by k_mem)
      · exact N (D, W.listOf (List.toArray ys) kd) (by k_mem)
      · exact N (L + 2, o1) (by k_mem)
      · exact N (L + 1, o2) (by k_mem)
    · intro p hp
      show p.1 ≠ L
      simp only [List.mem_cons, List.not_mem_nil, or_false] at hp
      rcases hp with rfl | rfl | rfl <;> (refine neN ?_; (try dsimp only); omega)
    rw [hsz8] at hys
    obtain ⟨ds, hds, hdl⟩ : ∃ ds, IntsAre ys ds ∧ ds.length = 8 := ⟨_, hys, by simp⟩
    clear hys F N F8 N8 zD F3 N3 he hit hio heo hk3 z0 hi8 hsz8 hfC hfD hk8 hlt8 hg0 hoL N2'
    replace F9 : Fr g L h9 _ := F9
    (repeat ((fail_if_success (with_reducible show wpAny _ _ (exec (Stmt.For _ _ _ _ _) _) _ _ _)); walk1))
    rename Fr _ _ _ _ => F10
    rename News _ _ _ _ => N10
    rename_i f0 hx lf0 hy oc dc
    obtain ⟨q, hq⟩ : ∃ q : Int, 2 + (ds.getD (Int.toNat 0) 0).fmod 2 = q := ⟨_, rfl⟩
    obtain ⟨a0, ha0⟩ : ∃ a0 : Int, 8192 + ((ds.getD (Int.toNat 0) 0).fdiv 2).fmod 4096 = a0 := ⟨_, rfl⟩
    obtain ⟨m5, F11, e1, tq, e2, th, e3⟩ : ∃ m', Fr g L hy m' ∧ m' (Str.ofString "drawn") = some (.ref D) ∧ ∃ tq, m' (Str.ofString "q") = some (.int q tq) ∧ ∃ th, m' (Str.ofString "head") = some (.int (2 * q + 1) th) :=
      ⟨_, F10, rfl, _, by rw [← hq]; rfl, _, by rw [← hq]; rfl⟩
    obtain ⟨t0, N11⟩ : ∃ t0, News g L hy [(f0, W.listOf (List.toArray [Value.int a0 t0]) 0), (D, W.listOf (List.toArray ys) kd), (L + 2, oc)] := ⟨_, by
      rw [← ha0]
      intro b hb
      simp only [List.mem_cons, List.not_mem_nil, or_false] at hb
      rcases hb with rfl | rfl | rfl
      · exact N10 (f0, _) (.head _)
      · exact N10 (D, _) (.tail _ (.head _))
      · exact N10 (L + 1 + 1, oc) (.tail _ (.tail _ (.head _)))⟩
    clear F10 N10
    have q0 := Int.fmod_nonneg_of_pos (ds.getD (Int.toNat 0) 0) (show (0 : Int) < 2 by decide)
    have q1 := Int.fmod_lt_of_pos (ds.getD (Int.toNat 0) 0) (show (0 : Int) < 2 by decide)
    have h3 : 2 ≤ q := by omega
    have h4 : q ≤ 3 := by omega
    have a1 := Int.fmod_nonneg_of_pos ((ds.getD (Int.toNat 0) 0).fdiv 2) (show (0 : Int) < 4096 by decide)
    have a2 := Int.fmod_lt_of_pos ((ds.getD (Int.toNat 0) 0).fdiv 2) (show (0 : Int) < 4096 by decide)
    have ha1 : 8192 ≤ a0 := by omega
    have ha2 : a0 < 12288 := by omega
    clear q0 q1 a1 a2 hq ha0
    have lf1 : @LT.lt Nat _ D f0 ∧ @LT.lt Nat _ (L + 2) f0 := ⟨lf0.1, lf0.2.1⟩
    clear hI hl hlg lf0 hlen
    have hA1 : depth + 1 < recursionLimit := Nat.lt_of_succ_lt (Nat.lt_of_succ_lt hA)
    have hA2 : depth + 1 + 1 < recursionLimit := Nat.lt_of_succ_lt hA
    refine first_loop (f := f0) (D := D) (a0 := a0) Xg Tg hA1 rfl F11 N11 h3 h4 hds hdl (.cons _ _ .nil) dc (Nat.ne_of_lt lf1.1) (Nat.ne_of_lt lf1.2) e1 e2 e3 (fun h6 tk6 m6 vf kf nf F6 N6 hnf hnl hup hn0 em6 => ?_)
    show wpAny _ _ (execs _ _) _ _ _
    clear F11 N11
    have hne0 : nf ≠ [] := fun e => by rw [e] at hnl; simp at hnl
    obtain ⟨_, tl, _, hlast⟩ := ints_ends hnf hne0
    have c1 := (em6 (Str.ofString "drawn") (by decide)).trans e1
    have c2 := (em6 (Str.ofString "q") (by decide)).trans e2
    have c3 := (em6 (Str.ofString "head") (by decide)).trans e3
    clear em6
    (repeat ((fail_if_success (with_reducible show wpAny _ _ (call (Value.builtin "list.append") _ _) _ _ _)); walk1))
    rw [getD_last hne0]
    have d0 := Int.fmod_nonneg_of_pos (ds.getD (2 * q + 1).toNat 0) (show (0 : Int) < 3000 by decide)
    have d2 := Int.fmod_lt_of_pos (ds.getD (2 * q + 1).toNat 0) (show (0 : Int) < 3000 by decide)
    have hfine := fine_of h3 h4 hnl hup hn0 ha1 ha2 d0 d2
    have hnfl := hnf.length
    have hszf : (List.toArray vf).size ≤ sizeLine := by
      rw [List.size_toArray, sizeLine_eq]; omega
    refine append_K F6 N6 (.head (fun b hb => by
      simp only [List.mem_cons, List.not_mem_nil, or_false] at hb
      rcases hb with rfl | rfl
      · exact Nat.ne_of_lt lf1.1
      · exact Nat.ne_of_lt lf1.2)) (fun h7 F7 N7 => ?_) hszf
    rw [List.push_toArray] at N7
    clear F6 N6
    have hv0l : (nf ++ [nf.getLastD 0 + (ds.getD (2 * q + 1).toNat 0).fmod 3000]).length = 2 * q.toNat + 2 := by simp; omega
    have hI7 := IntsAre.append hnf (IntsAre.cons (nf.getLastD 0 + (ds.getD (2 * q + 1).toNat 0).fmod 3000) (tk6 + 1 + 1 + 1 + 1) .nil)
    obtain ⟨v0, vv, N8, hI8, hfine8, hl8⟩ : ∃ v0 vv, News g L h7 [(f0, W.listOf (List.toArray vv) (kf + 1)), (D, W.listOf (List.toArray ys) kd), (L + 2, oc)] ∧ IntsAre vv v0 ∧ Fine q v0 ∧ v0.length = 2 * q.toNat + 2 := ⟨_, _, N7, hI7, hfine, hv0l⟩
    clear N7 hI7 hfine hv0l hnf hnfl hup hn0 hnl hne0 hlast d0 d2 hszf N9 hds c1
    have hv8 : v0.length ≤ 8 := by omega
    (repeat ((fail_if_success (with_reducible show wpAny _ _ (subscriptTail _ _ _ _) _ _ _)); walk1))
    refine slice_all (l := f0) F7 N8 (.head _) hI8 (by omega) (fun D9 ws9 h9' F9 N9 l9 hI9 => ?_)
    clear F7 N8
    (repeat ((fail_if_success (with_reducible show wpAny _ _ (exec (Stmt.For _ _ _ _ _) _) _ _ _)); walk1))
    rename Fr _ _ _ _ => F12
    rename News _ _ _ _ => N12
    have N13 : News g L _ [(D9, W.listOf (List.toArray ws9) 0), (f0, W.listOf (List.toArray vv) (kf + 1)), (L + 2, oc)] := fun b hb => N12 b (by
      simp only [List.mem_cons, List.not_mem_nil, or_false] at hb
      rcases hb with rfl | rfl | rfl <;> k_mem)
    clear N12
    refine rounds_loop (r := D9) (f := f0) Xg Tg hA2 rfl (by show units + 3 + 64 < cLine; omega) rfl F12 N13 h3 h4 hfine8 hI9 hI8 dc rfl c2 c3 (fun h20 tk20 m20 F20 => ?_)
    show wpAny _ _ (execs _ _) _ _ _
    refine wpAny_execs_cons ?_
    iterate 2 walk1
    exact h _ _ L m20 ⟨F20.ns, fun b o e => F20.keep b o (hg b o e (by simp)), Nat.le_of_eq hL⟩
end
end Mine

end

section
open PySem PySem.W PyProof.Rows
set_option maxRecDepth 100000
set_option maxHeartbeats 8000000
theorem PySem.Challenge.cw_wk0003_01_holds : PySem.Challenge.rw_wk0003_01.Holds :=
  Mine.hd (by
  k_fill
  intro w s₀ s₁ mg mb G Y fa o pm cd doc dV kV ho hd hcd hD hmg hg args vals as hpre hlay hrd hwl hlo
  have KX := kIn_of Y
  have X := (Ground.X G).1
  have V := (Ground.X G).2
  refine Ground.open G ?_
  intro T B D TE TW
  try (refine guard_noD D (by decide +kernel) ?_; clear D)
  obtain ⟨_, _, M⟩ := bmod_of_top T
  have TA := at_of_top T
  try (obtain ⟨_, _, he, B0⟩ := based_of_top T rfl hmg ho hd; have he' : cd = _ := he; subst he'; clear he)
  wrow_args hpre hlay hrd hwl hlo
  all_goals (
    first | refine callC_kw (enter_call ?_) | refine enter_call ?_ | refine callC_kw (enter_callW ?_) | refine enter_callW ?_ | w_how
    w_top on
    try refine codeAny_mono ?_ (fun _ _ g => GoodW.toG g)
    have hmg2 : mg (Str.ofString "law") = some (.ref fa) := hmg
    clear hmg hD hcd hd TE TW
    have e126 : mg (Str.ofString "law") = some (.ref 126) := mg_of KX (topRead_of T).g (by k_is)
    have e : fa = 126 := by
      rw [e126] at hmg2
      cases hmg2
      rfl
    subst e
    rename IntsAre _ _ => hI
    rename Heap.IsList _ _ _ => hL
    rename ¬ _ < _ => hlen
    refine Mine.law_call KX (topRead_of T) (by decide) (by decide) rfl rfl hL hI (by omega) (fun h' tk L' m' F' => ?_)
    have hg' : ({ s₁ with heap := h', toks := tk } : Shared).gens = #[] := hg
    refine goodW_bool F' hg' (raisesW_false ?_) ?_
    · wrow_none_raised
    · wrow_post))

end
