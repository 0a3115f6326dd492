import PyProof.Rows.All
import Wide.All
import OpenK.AllK
import Wide.FinOn
import PySem.Challenge.RW_oy0130_01
set_option Elab.async false
section
open PySem PySem.W PyProof.Rows
namespace Mine
set_option maxRecDepth 100000 in
set_option maxHeartbeats 8000000 in
open_top hd for PySem.Challenge.rw_oy0130_01
end Mine
end
section
open PySem PySem.W PyProof.Rows PySem.Spec PySem.Calls
namespace Mine
abbrev prg : Program := Challenge.rw_oy0130_01.row.prog
structure Gd (w : World) (h : Heap) : Prop where
  K : (hd.heap_39 w.params).In h
  T : ∃ loose mean mg mb, Top topProg loose mean mg mb h
theorem Gd.keeps {w : World} {h h' : Heap} (G : Gd w h) (hk : ∀ b o, h.get? b = some o → h'.get? b = some o) : Gd w h' :=
  ⟨G.K.keeps hk, let ⟨a, b, c, d, T⟩ := G.T; ⟨a, b, c, d, T.keeps hk⟩⟩
structure Room (A : Around) (k : Nat) : Prop where
  hh : A.handled = none
  dp : A.depth + k < recursionLimit
  un : A.units + 8 * k < cLine
theorem Room.less {A : Around} {k j : Nat} (R : Room A k) (h : j ≤ k) : Room A j := ⟨R.hh, by have := R.dp; omega, by have := R.un; omega⟩
theorem Room.deeper {A : Around} {k : Nat} {env : Env} (R : Room A (k + 1)) : Room (A.deeper env) k :=
  ⟨R.hh, by have := R.dp; show A.depth + 1 + k < _; omega, by have := R.un; show A.units + 3 + 8 * k < _; omega⟩
theorem Room.in1 {A : Around} {k : Nat} (R : Room A (k + 1)) : Room A.in1 k :=
  ⟨R.hh, by have := R.dp; show A.depth + k < _; omega, by have := R.un; show A.units + 1 + 8 * k < _; omega⟩
/-- a call that keeps all that stands -/
def Fn (w : World) (f : Addr) (k : Nat) (pre : Heap → List Value → Prop) (post : Heap → List Value → Value → Heap → Prop) : Prop :=
  ∀ (A : Around) (s : Shared) (vs : List Value) (E : Value → Shared → Prop), Room A k → Gd w s.heap → pre s.heap vs →
    wpAny (model prg w) A (call (.ref f) vs) (fun r s' => Keeps s s' ∧ post s.heap vs r s'.heap) E s
theorem enterP {w : World} {A : Around} {s : Shared} {E : Value → Shared → Prop} {Q : Value → Shared → Prop} {k : Nat} {f : Addr}
    {name qual : Str} {params : Arguments} {body : List Stmt} {scope : Scope} {dV kV doc pm cdv ct oc : Value} {an od : Option Addr} {osl : Array (Option Value)} {vs : List Value} {binds : List (Str × Value)}
    (R : Room A (k + 1)) (G : Gd w s.heap)
    (ho : (hd.heap_39 w.params).lookup f = some ⟨oc, od, .func (fnOf name qual params body scope dV kV doc pm an cdv ct), osl⟩) (hcd : codeIn (hd.heap_39 w.params) cdv qual = true)
    (hbind : BindsTo s (fnOf name qual params body scope dV kV doc pm an cdv ct) ⟨vs, []⟩ binds) (hloc : ∀ y ∈ binds, scope.names.lookup y.1 = some .local)
    (hcell : ∀ x ∈ scope.names, x.2 ≠ .cell)
    (h : ∀ L h₁ env, env = envOf qual scope L f cdv → Room (A.deeper env) k → Fr s.heap L h₁ (fun y => binds.reverse.lookup y) → News s.heap L h₁ [] →
      wpAny (model prg w) (A.deeper env) (execs body env)
        (fun fl s' => Q (match fl with | .ret v => v | _ => .none) s') (fun _ _ => False) { s with heap := h₁, toks := s.toks + binds.length })
    (hco : scope.isCoroutine = false) (hgen : scope.isGenerator = false) (hk : scope.kind = .function) : wpAny (model prg w) A (call (.ref f) vs) Q E s := by
  refine wpAny_call ?_
  obtain ⟨_, _, _, _, T⟩ := G.T
  refine codeAny_call_def (fd := fnOf name qual params body scope dV kV doc pm an cdv ct) (body := body) (binds := binds) (by have := R.dp; omega) (G.K _ _ ho) rfl T.nolimit (codeRec_of G.K hcd) rfl hbind hcell hloc (fun h₁ hns hk₁ => ?_) hco hgen hk
  refine wpAny_mono (h _ h₁ _ rfl R.deeper ⟨hns, hk₁, Nat.le_refl _⟩ News.nil) (fun fl s' hq => hq) fun _ _ x => x.elim
/-- a body's end -/
theorem keeps_of {s : Shared} {L : Addr} {h' : Heap} {tk : Nat} {m : Str → Option Value} (F : Fr s.heap L h' m) : Keeps s { s with heap := h', toks := tk } := ⟨h', tk, rfl, F.keep⟩
theorem Keeps.refl {s : Shared} : Keeps s s := ⟨s.heap, s.toks, rfl, fun _ _ e => e⟩
theorem Keeps.trans {a b c : Shared} (x : Keeps a b) (y : Keeps b c) : Keeps a c := by
  obtain ⟨h, t, rfl, k⟩ := x
  obtain ⟨h', t', rfl, k'⟩ := y
  exact ⟨h', t', rfl, fun b o e => k' b o (k b o e)⟩
theorem Fr.kept {h₀ h h' : Heap} {L : Addr} {m : Str → Option Value} (F : Fr h₀ L h m) (k : ∀ b o, h.get? b = some o → h'.get? b = some o) : Fr h₀ L h' m :=
  ⟨F.ns.keeps k, fun b o e => k b o (F.keep b o e), F.above⟩
theorem News.kept {h₀ h h' : Heap} {L : Addr} {news : List (Addr × Obj)} (N : News h₀ L h news) (k : ∀ b o, h.get? b = some o → h'.get? b = some o) : News h₀ L h' news :=
  fun p hp => ⟨k _ _ (N p hp).1, (N p hp).2⟩
/-- a new object of a call's onto the ledger -/
theorem News.add {h₀ h h' : Heap} {L : Addr} {m : Str → Option Value} {news : List (Addr × Obj)} {a : Addr} {o : Obj} (F : Fr h₀ L h m) (N : News h₀ L h news) (k : ∀ b o, h.get? b = some o → h'.get? b = some o)
    (hn : h.get? a = none) (ha : h'.get? a = some o) : News h₀ L h' ((a, o) :: news) := by
  intro p hp
  rcases List.mem_cons.mp hp with rfl | hp
  · refine ⟨ha, fun e => ?_, ?_⟩
    · obtain ⟨oL, _, _, hL, _⟩ := F.ns
      have e' : a = L := e
      rw [e', hL] at hn; cases hn
    · cases q : h₀.get? a with
      | none => rfl
      | some o' => rw [F.keep _ _ q] at hn; cases hn
  · exact ⟨k _ _ (N p hp).1, (N p hp).2⟩
/-- a contract used in a walk -/
theorem useFn {w : World} {f : Addr} {k : Nat} {pre : Heap → List Value → Prop} {post : Heap → List Value → Value → Heap → Prop} (C : Fn w f k pre post)
    {A : Around} {s : Shared} {vs : List Value} {E Q : Value → Shared → Prop} {h₀ : Heap} {L : Addr} {m : Str → Option Value} {news : List (Addr × Obj)}
    (F : Fr h₀ L s.heap m) (N : News h₀ L s.heap news) (R : Room A k) (G : Gd w h₀) (hp : pre s.heap vs)
    (h : ∀ r h' tk', Fr h₀ L h' m → News h₀ L h' news → (∀ b o, s.heap.get? b = some o → h'.get? b = some o) → post s.heap vs r h' → Q r { s with heap := h', toks := tk' }) :
    wpAny (model prg w) A (call (.ref f) vs) Q E s := by
  refine wpAny_mono (C A s vs E R (G.keeps F.keep) hp) (fun r s' hr => ?_) fun _ _ x => x
  obtain ⟨⟨h', tk', rfl, kk⟩, hpost⟩ := hr
  exact h r h' tk' (Fr.kept F kk) (News.kept N kk) kk hpost
end Mine
end
section
open PySem PySem.W PyProof.Rows PySem.Spec PySem.Calls
namespace Mine
set_option maxRecDepth 100000
theorem slot_search : Slot "re.Pattern" "search" "re.Pattern.search" :=
  .of (owner := "re.Pattern") (n := "search") (by rw [typeLookup_type, builtinLookup_eq_fast]; kernel_rfl) (by decide +kernel) (by decide +kernel) (by decide +kernel)
    (by first | exact .inl (by decide +kernel) | exact .inr (by decide +kernel)) (by rw [isSubtype_type]; kernel_rfl)
theorem pa_pattern : PlainAttrs "re.Pattern" :=
  ⟨⟨"object.__getattribute__", by rw [typeLookup_type, builtinLookup_eq_fast]; kernel_rfl, by decide +kernel⟩, by rw [typeLookup_type, builtinLookup_eq_fast]; kernel_rfl⟩
theorem entry_search : entryFor table "re.Pattern.search" = some Builtin.«re.Pattern.search» := entryFor_of_fast (by kernel_rfl)
theorem args_search (a b : Value) : argsOk "re.Pattern.search" ⟨[a, b], []⟩ := by unfold argsOk; kernel_rfl
theorem type_search : typeOf (.builtin "re.Pattern.search") = pure (.type "method_descriptor") := by kernel_rfl
end Mine
end
section
open PySem PySem.W PyProof.Rows PySem.Spec PySem.Calls
namespace Mine
open PySem.Sre
abbrev reCode : Array Nat := #[14, 8, 1, 2, 4294967295, 1, 1, 46, 0, 16, 46, 24, 9, 1, 4294967295, 13, 4, 8, 0, 0, 1, 6, 5, 1]
theorem runFor_done {m : M} (h : m.outcome.isSome = true) : ∀ n, m.runFor n = m
  | 0 => rfl
  | n + 1 => by rw [M.runFor, if_pos h]
theorem runFor_add (m : M) : ∀ a b, m.runFor (a + b) = (m.runFor a).runFor b
  | 0, b => by rw [Nat.zero_add]; rfl
  | a + 1, b => by
    rw [show a + 1 + b = (a + b) + 1 by omega, M.runFor, M.runFor]
    by_cases h : m.outcome.isSome = true
    · rw [if_pos h, if_pos h, runFor_done h]
    · rw [if_neg h, if_neg h, runFor_add]
/-- at a start: the frame of the next start on the pile -/
def atS (T : Array Nat) (s : Nat) (ob : Bool) (seen : Sre.Seen) : M :=
  { code := reCode, text := T, lim := T.size, start := s, lastStart := T.size, pc := 9, pos := s, handed := s, outermost := ob, marks := #[],
    frames := [{ wait := .nextStart, pc := 9, pos := s, outermost := ob }], weight := 1, seen := seen }
/-- behind a denial -/
def noS (T : Array Nat) (s pc pos : Nat) (ob : Bool) (seen : Sre.Seen) : M :=
  { code := reCode, text := T, lim := T.size, start := s, lastStart := T.size, pc := pc, pos := pos, handed := s, outermost := ob, marks := #[],
    frames := [{ wait := .nextStart, pc := 9, pos := s, outermost := ob }], weight := 1, seen := seen, answer := some false }
/-- behind the dot -/
def dotS (T : Array Nat) (s : Nat) (ob : Bool) (seen : Sre.Seen) : M :=
  { code := reCode, text := T, lim := T.size, start := s, lastStart := T.size, pc := 11, pos := s + 1, handed := s, outermost := ob, marks := #[],
    frames := [{ wait := .nextStart, pc := 9, pos := s, outermost := ob }], weight := 1, seen := seen }
theorem step_lit (T : Array Nat) (s : Nat) (ob : Bool) (seen : Sre.Seen) :
    (∃ pc pos sn, (atS T s ob seen).step = noS T s pc pos ob sn) ∨ (∃ sn, (atS T s ob seen).step = dotS T s ob sn ∧ s < T.size) := by
  have e : (atS T s ob seen).step = (atS T s ob seen).exec := rfl
  rw [e]
  by_cases hs : s ≥ T.size
  · left
    refine ⟨9, s, seen.add 16, ?_⟩
    show (if s ≥ T.size then _ else _) = _
    rw [if_pos hs]; rfl
  · have e2 : (atS T s ob seen).exec = (if s ≥ T.size then _ else (match (Except.ok (T.getD s 0 == 46, seen.add 16) : Except String (Bool × Sre.Seen)) with
        | .error why => M.stick _ why
        | .ok (false, sn) => noS T s 9 s ob sn
        | .ok (true, sn) => dotS T s ob sn)) := rfl
    rw [e2, if_neg hs]
    cases h : (T.getD s 0 == 46) with
    | false => left; exact ⟨9, s, seen.add 16, rfl⟩
    | true => right; exact ⟨seen.add 16, rfl, by omega⟩
theorem cat_no {c : Nat} (h : ¬ (48 ≤ c ∧ c ≤ 57)) : category 0 c = .ok false := by
  have : isDigit c = false := by
    unfold isDigit
    rw [Bool.and_eq_false_iff, decide_eq_false_iff_not, decide_eq_false_iff_not]; omega
  show Except.map (· != (0 % 2 == 1)) (Except.ok (isDigit c)) = _
  rw [this]; rfl
theorem acc_no {c : Nat} (h : ¬ (48 ≤ c ∧ c ≤ 57)) (seen : Sre.Seen) : ∃ sn, accepts reCode 15 c seen = .ok (false, sn) := by
  refine ⟨((seen.add 8).add 55).add 0, ?_⟩
  have e : accepts reCode 15 c seen = (do
      if ← category 0 c then pure (true, (seen.add 8).add 55) else inSet reCode c 23 19 true ((seen.add 8).add 55)) := rfl
  rw [e, cat_no h]
  rfl
theorem step_rep (T : Array Nat) (s : Nat) (ob : Bool) (seen : Sre.Seen) (hT : ∀ i, ¬ (48 ≤ T.getD i 0 ∧ T.getD i 0 ≤ 57)) :
    ∃ pc pos sn, (dotS T s ob seen).step = noS T s pc pos ob sn := by
  have e : (dotS T s ob seen).step = (dotS T s ob seen).exec := rfl
  rw [e]
  by_cases hr : ((1 : Nat) : Int) > (T.size : Int) - ((s + 1 : Nat) : Int)
  · refine ⟨11, s + 1, seen.add 24, ?_⟩
    show (if ((1 : Nat) : Int) > (T.size : Int) - ((s + 1 : Nat) : Int) then _ else _) = _
    rw [if_pos hr]; rfl
  · obtain ⟨sn, ha⟩ := acc_no (hT (s + 1)) ((seen.add 24).add 13)
    have hn : ∃ k, min 4294967295 ((T.size : Int) - ((s + 1 : Nat) : Int)).toNat = k + 1 := ⟨min 4294967295 ((T.size : Int) - ((s + 1 : Nat) : Int)).toNat - 1, by omega⟩
    obtain ⟨k, hk⟩ := hn
    have hrun : Sre.run reCode T 15 (min 4294967295 ((T.size : Int) - ((s + 1 : Nat) : Int)).toNat) (s + 1) 0 ((seen.add 24).add 13) = .ok (0, sn) := by
      rw [hk, Sre.run, ha]; rfl
    refine ⟨11, s + 1, sn, ?_⟩
    show (if ((1 : Nat) : Int) > (T.size : Int) - ((s + 1 : Nat) : Int) then _ else
      (match Sre.run reCode T 15 (min 4294967295 ((T.size : Int) - ((s + 1 : Nat) : Int)).toNat) (s + 1) 0 ((seen.add 24).add 13) with
        | .error why => _
        | .ok (n, seen) => _)) = _
    rw [if_neg hr, hrun]
    rfl
theorem step_next (T : Array Nat) (s pc pos : Nat) (ob : Bool) (seen : Sre.Seen) :
    (s < T.size ∧ (noS T s pc pos ob seen).step = atS T (s + 1) false seen) ∨ (∃ m : M, (noS T s pc pos ob seen).step = m ∧ m.step.outcome = some .failed) := by
  by_cases hs : s < T.size
  · left
    refine ⟨hs, ?_⟩
    show (if false = true then _ else if s < T.size then _ else _) = _
    rw [if_neg Bool.false_ne_true, if_pos hs]
    rfl
  · right
    refine ⟨_, rfl, ?_⟩
    have : (noS T s pc pos ob seen).step = (if s < T.size then _ else _) := rfl
    rw [this, if_neg hs]
    rfl
theorem runs_fail (T : Array Nat) (hT : ∀ i, ¬ (48 ≤ T.getD i 0 ∧ T.getD i 0 ≤ 57)) : ∀ (d s : Nat) (ob : Bool) (seen : Sre.Seen), T.size - s = d →
    ∃ k, k ≤ 3 * d + 4 ∧ ((atS T s ob seen).runFor k).outcome = some .failed := by
  have behind : ∀ (d s pc pos : Nat) (ob : Bool) (seen : Sre.Seen), T.size - s = d →
      (∀ d', d' < d → ∀ s ob seen, T.size - s = d' → ∃ k, k ≤ 3 * d' + 4 ∧ ((atS T s ob seen).runFor k).outcome = some .failed) →
      ∃ k, k ≤ 3 * d + 2 ∧ ((noS T s pc pos ob seen).runFor k).outcome = some .failed := by
    intro d s pc pos ob seen hd ih
    rcases step_next T s pc pos ob seen with ⟨hs, e⟩ | ⟨m, e, hm⟩
    · obtain ⟨k, hk, h⟩ := ih (d - 1) (by omega) (s + 1) false seen (by omega)
      refine ⟨k + 1, by omega, ?_⟩
      rw [M.runFor, if_neg (by simp [noS]), e]; exact h
    · refine ⟨2, by omega, ?_⟩
      rw [M.runFor, if_neg (by simp [noS]), e, M.runFor]
      split
      · rename_i hso
        cases ho : m.outcome with
        | none => rw [ho] at hso; cases hso
        | some o => 
          have : m.step = m := by unfold M.step; rw [if_pos hso]
          rw [this, ho] at hm; exact hm
      · exact hm
  intro d
  induction d using Nat.strongRecOn with
  | ind d ih =>
    intro s ob seen hd
    rcases step_lit T s ob seen with ⟨pc, pos, sn, e⟩ | ⟨sn, e, hs⟩
    · obtain ⟨k, hk, h⟩ := behind d s pc pos ob sn hd ih
      refine ⟨k + 1, by omega, ?_⟩
      rw [M.runFor, if_neg (by simp [atS]), e]; exact h
    · obtain ⟨pc, pos, sn', e'⟩ := step_rep T s ob sn hT
      obtain ⟨k, hk, h⟩ := behind d s pc pos ob sn' hd ih
      refine ⟨k + 2, by omega, ?_⟩
      rw [M.runFor, if_neg (by simp [atS]), e, M.runFor, if_neg (by simp [dotS]), e']; exact h
theorem search_fail (T : Array Nat) (hT : ∀ i, ¬ (48 ≤ T.getD i 0 ∧ T.getD i 0 ≤ 57)) :
    ∃ k, k ≤ 3 * T.size + 4 ∧ ((forSearch reCode T 0 0 T.size false).runFor k).outcome = some .failed := by
  by_cases h : T.size - 0 < 2
  · refine ⟨1, by omega, ?_⟩
    have : forSearch reCode T 0 0 T.size false = (if 0 > T.size || T.size - 0 < 2 then _ else _) := rfl
    rw [this, if_pos (by simp; omega)]
    rfl
  · have : forSearch reCode T 0 0 T.size false = (if 0 > T.size || T.size - 0 < 2 then _ else atS T 0 true (({} : Sre.Seen).add 14)) := rfl
    rw [this, if_neg (by simp; omega)]
    obtain ⟨k, hk, h⟩ := runs_fail T hT T.size 0 true (({} : Sre.Seen).add 14) (by omega)
    exact ⟨k, hk, h⟩
end Mine
end
section
open PySem PySem.W PyProof.Rows PySem.Spec PySem.Calls PySem.Builtin.Re
namespace Mine
set_option maxRecDepth 100000
section
variable {prog : Program} {w : World} {A : Around} {E : Value → Shared → Prop} {s : Shared}
theorem drive_ok {m' : Sre.M} (hd : m'.outcome.isSome = true) : ∀ (k turns : Nat) (m : Sre.M) (Q : Sre.M → Shared → Prop), k < turns → m.runFor (4 * k) = m' → Q m' s →
    wpAny (model prog w) A (reDrive turns m) Q E s := by
  intro k
  induction k with
  | zero =>
    intro turns m Q ht hm hQ
    obtain ⟨t, rfl⟩ : ∃ t, turns = t + 1 := ⟨turns - 1, by omega⟩
    have hm' : m = m' := hm
    subst hm'
    unfold reDrive
    have : m.runFor reTurnSteps = m := runFor_done hd _
    rw [this]
    show wpAny _ _ (if m.outcome.isSome = true then pure m else _) _ _ _
    rw [if_pos hd]
    exact wpAny_pure hQ
  | succ k ih =>
    intro turns m Q ht hm hQ
    obtain ⟨t, rfl⟩ : ∃ t, turns = t + 1 := ⟨turns - 1, by omega⟩
    unfold reDrive
    show wpAny _ _ (if (m.runFor reTurnSteps).outcome.isSome = true then pure (m.runFor reTurnSteps) else _) _ _ _
    have e : m.runFor (4 * (k + 1)) = (m.runFor reTurnSteps).runFor (4 * k) := by
      rw [show 4 * (k + 1) = reTurnSteps + 4 * k from (by unfold reTurnSteps; omega), runFor_add]
    by_cases ho : (m.runFor reTurnSteps).outcome.isSome = true
    · rw [if_pos ho]
      rw [e, runFor_done ho] at hm
      rw [hm]
      exact wpAny_pure hQ
    · rw [if_neg ho]
      exact wpAny_bind (wpAny_rule (ih t _ Q (by omega) (e ▸ hm) hQ))
theorem rules_ok {f : Nat → PUnit → Sem (ForInStep PUnit)} {g : Nat → String} (hf : ∀ i u, f i u = (do rule (g i); pure (ForInStep.yield PUnit.unit)) ∨ f i u = pure (ForInStep.yield PUnit.unit)) : ∀ (l : List Nat) (Q : PUnit → Shared → Prop), Q ⟨⟩ s →
    wpAny (model prog w) A (forIn l PUnit.unit f) Q E s
  | [], Q, h => by rw [List.forIn_nil]; exact wpAny_pure h
  | i :: l, Q, h => by
    rw [List.forIn_cons]
    refine wpAny_bind ?_
    rcases hf i PUnit.unit with e | e
    · rw [e]; exact wpAny_bind (wpAny_rule (wpAny_pure (rules_ok hf l Q h)))
    · rw [e]; exact wpAny_pure (rules_ok hf l Q h)
theorem runEnd_ok {m : Sre.M} {k : Nat} {Q : Option Sre.M → Shared → Prop} (hk : k ≤ 2 ^ 60) (hm : (m.runFor k).outcome = some .failed) (hQ : Q none s) :
    wpAny (model prog w) A (reRunToEnd m) Q E s := by
  have h4 : ((m.runFor (4 * k))).outcome = some .failed := by
    rw [show 4 * k = k + 3 * k by omega, runFor_add, runFor_done (by rw [hm]; rfl)]; exact hm
  unfold reRunToEnd
  refine wpAny_bind (drive_ok (m' := m.runFor (4 * k)) (by rw [h4]; rfl) k _ _ _ (by omega) rfl ?_)
  refine wpAny_bind (rules_ok (g := fun i => Sre.names.getD i "") (fun i u => by cases h : ((m.runFor (4 * k)).seen.has i) <;> simp [h]) _ _ ?_)
  rw [h4]
  exact wpAny_pure hQ
end
theorem search_none {w : World} {A : Around} {E : Value → Shared → Prop} {s : Shared} {x : Str} {t : Tok} {Q : Value → Shared → Prop} (G : (hd.heap_39 w.params).In s.heap)
    (hx : ∀ c ∈ x.cps, ¬ (48 ≤ c ∧ c ≤ 57)) (hlen : x.length ≤ 10000) (h : Q .none s) :
    wpAny (model prg w) A (call (.builtin "re.Pattern.search") [.ref 36, .str x t]) Q E s := by
  have h36 := G 36 _ (by rfl)
  have h35 := G 35 _ (by rfl)
  refine wpAny_call_entry slot_search ⟨_, h36, rfl⟩ entry_search ?_ (args_search _ _)
  unfold Builtin.«re.Pattern.search»
  have hT : ∀ i, ¬ (48 ≤ x.cps.getD i 0 ∧ x.cps.getD i 0 ≤ 57) := by
    intro i
    by_cases hi : i < x.cps.size
    · rw [← Array.getElem_eq_getD (h := hi)]; exact hx _ (Array.getElem_mem hi)
    · rw [show x.cps.getD i 0 = 0 from by simp [Array.getD, hi]]; omega
  obtain ⟨k, hk, hf⟩ := search_fail x.cps hT
  have hsz : x.cps.size ≤ 10000 := hlen
  refine wpAny_bind (m := reTarget _ _ _) (wpAny_mono (Q := fun tg s' => s' = s ∧ tg.code = reCode ∧ tg.text = x.cps ∧ tg.groups = 0 ∧ tg.pos = 0 ∧ tg.lim = x.cps.size) ?_ (fun tg s' ht => ?_) fun _ _ e => e)
  · unfold reTarget
    dsimp only
    have hn : reNamed "re.Pattern.search" "search" ["string", "pos", "endpos"] 1 [Value.str x t] [] = pure [some (.str x t), none, none] := by rfl
    rw [hn]
    refine wpAny_bind (wpAny_pure ?_)
    dsimp only
    refine wpAny_bind (wpAny_pure (wpAny_bind (wpAny_pure (wpAny_bind (wpAny_fieldsOf h36 rfl ?_)))))
    have ht : reTextOf (.str x t) = pure (x.cps, 0) := by rfl
    rw [ht]
    refine wpAny_bind (wpAny_pure ?_)
    dsimp only
    rw [if_neg (by decide), if_neg (by decide)]
    have hc : reNoCollectionInside (.str x t) 0 = pure () := by rfl
    rw [hc]
    refine wpAny_bind (wpAny_pure ?_)
    refine wpAny_bind (m := reRawItems (.ref 35)) ?_
    unfold reRawItems
    refine wpAny_bind (wpAny_seqItems h35 rfl (wpAny_pure (wpAny_pure ?_)))
    refine ⟨rfl, by dsimp only; kernel_rfl, rfl, by rfl, by simp, ?_⟩
    show min (2 ^ 63 - 1 : Int).toNat x.cps.size = x.cps.size
    omega
  · obtain ⟨rfl, h1, h2, h3, h4, h5⟩ := ht
    rw [h1, h2, h3, h4, h5]
    unfold reAnswer
    refine wpAny_bind (runEnd_ok (by omega) hf ?_)
    exact wpAny_pure ⟨_, rfl, h⟩
end Mine
end
section
open PySem PySem.W PyProof.Rows PySem.Spec PySem.Calls
namespace Mine
theorem item_ne {x : Str} {i : Int} {k : Nat} (hi : Txt.charAt x i = some (x.cps.getD k 0)) (h : x.cps.getD k 0 ≠ 46) : ¬ ((Txt.item x i == Str.ofString ".") = true) := by
  intro e
  have e' : Txt.item x i = Str.ofString "." := eq_of_beq e
  unfold Txt.item at e'
  rw [hi] at e'
  have e2 : (Str.mk #[x.cps.getD k 0]) = Str.mk #[46] := e'.trans (by decide +kernel)
  have e3 : #[x.cps.getD k 0] = #[46] := congrArg Str.cps e2
  exact h (by simpa using e3)
theorem char_at {x : Str} {i : Int} {k : Nat} (hk : seqIndex? i x.length = some k) (h : k < x.cps.size) : Txt.charAt x i = some (x.cps.getD k 0) := by
  unfold Txt.charAt
  rw [hk]
  show x.cps[k]? = _
  simp [Array.getD, h]
theorem seqIdx_nonneg {i : Int} {n k : Nat} (h : i = (k : Int)) (hk : k < n) : seqIndex? i n = some k := by
  subst h
  unfold seqIndex?
  have h1 : ¬ ((k : Int) < 0) := by omega
  have h2 : ((k : Int) < (n : Int)) := by omega
  simp [h1, h2]
theorem seqIdx_neg {i : Int} {n k : Nat} (h : i + (n : Int) = (k : Int)) (hi : i < 0) : seqIndex? i n = some k := by
  unfold seqIndex?
  have h1 : (0 : Int) ≤ i + n := by omega
  have h2 : i + (n : Int) < n := by omega
  simp only [hi, if_true, h1, h2, decide_true, Bool.and_self]
  congr 1
  omega
theorem char0 {x : Str} (h : 0 < x.cps.size) : Txt.charAt x 0 = some (x.cps.getD 0 0) := char_at (seqIdx_nonneg rfl h) h
theorem charL {x : Str} (h : 0 < x.cps.size) : Txt.charAt x (-1) = some (x.cps.getD (x.cps.size - 1) 0) :=
  char_at (seqIdx_neg (by show (-1 : Int) + (x.cps.size : Int) = _; omega) (by omega)) (by omega)
theorem empty_ne {x : Str} (h : 0 < x.cps.size) : ¬ ((x == Str.ofString "") = true) := by
  intro e
  have e' : x = Str.ofString "" := eq_of_beq e
  rw [e'] at h
  exact absurd h (by decide +kernel)
theorem kmark : ∃ l : OpenLaw, l = Challenge.rw_oy0130_01 := ⟨_, rfl⟩
set_option maxRecDepth 100000 in
set_option maxHeartbeats 8000000 in
theorem isHDN (w : World) (x : Str) (t : Tok) : Fn w 43 1 (fun _ vs => vs = [.str x t] ∧ x.length ≤ 10000 ∧ (∀ c ∈ x.cps, ¬ (48 ≤ c ∧ c ≤ 57)) ∧ 0 < x.cps.size ∧ x.cps.getD 0 0 ≠ 46 ∧ x.cps.getD (x.cps.size - 1) 0 ≠ 46) (fun _ _ r _ => r = .bool true) := by
  intro A s vs E R G hp
  have X := G.K
  have hK := kmark
  revert X hK
  k_fill
  intro X hK
  clear hK
  obtain ⟨loose, mean, mg, mb, T⟩ := G.T
  obtain ⟨rfl, hx, hdig, hpos, hfst, hlst⟩ := hp
  k_dflt (refine' enterP (binds := [(Str.ofString "text", .str x t)]) R G ?ho ?hcd ?hb ?hl ?hc ?_ ?c1 ?c2 ?c3; (case ho => k_is); (case hcd => k_is); (case hb => exact BindsTo.of_eq rfl); (case hl => exact locs rfl); (case hc => decide); (case c1 => exact rfl); (case c2 => exact rfl); (case c3 => exact rfl))
  intro L h₁ env he R' F N
  subst he
  (try dsimp only)
  k_steps
  refine getMethod_builtin ⟨_, F.keep _ _ (X 36 _ (by rfl)), rfl⟩ pa_pattern slot_search type_search (fun a ha => by cases ha; exact ⟨_, F.keep _ _ (X 36 _ (by rfl)), rfl⟩) ?_
  dsimp only
  k_steps
  refine search_none (X.keeps F.keep) hdig hx ?_
  k_steps
  all_goals first
    | exact keeps_of (by assumption)
    | rfl
    | (exfalso; rename_i h9; exact item_ne (char0 hpos) hfst h9)
    | (exfalso; rename_i h9; exact item_ne (charL hpos) hlst h9)
    | (exfalso; rename_i h9; exact empty_ne hpos h9)
end Mine
end
section
open PySem PySem.W PyProof.Rows PySem.Spec PySem.Calls
namespace Mine
def HdnOk (x : Str) : Prop := x.length ≤ 10000 ∧ (∀ c ∈ x.cps, ¬ (48 ≤ c ∧ c ≤ 57)) ∧ 0 < x.cps.size ∧ x.cps.getD 0 0 ≠ 46 ∧ x.cps.getD (x.cps.size - 1) 0 ≠ 46
def DmOk (A B : Str) : Prop := A.length ≤ 1000 ∧ B.length ≤ 1000 ∧ HdnOk (Txt.lower A) ∧ (Txt.lower B).cps.getD 0 0 = 46 ∧ HdnOk (Txt.slice (Txt.lower B) (some 1) none)
theorem lower_ne {x y : Str} (h : HdnOk x) (hb : y.cps.getD 0 0 = 46) : ¬ ((x == y) = true) := by
  intro e
  have e' : x = y := eq_of_beq e
  rw [← e'] at hb
  exact h.2.2.2.1 hb
theorem starts_dot {y : Str} (hb : y.cps.getD 0 0 = 46) : Txt.startswith y (Str.ofString ".") = true := by
  obtain ⟨⟨l⟩⟩ := y
  cases l with
  | nil => exact absurd hb (by decide)
  | cons c r =>
    have hc : c = 46 := hb
    subst hc
    have e : Str.ofString "." = Str.mk #[46] := by decide +kernel
    rw [e]
    unfold Txt.startswith
    rw [StrLaws.subAt_eq]
    show (decide (0 + 1 ≤ (46 :: r).length) && (List.take 1 (46 :: r) == [46])) = true
    simp
theorem rfind_pos {x y : Str} (h1 : Txt.rfind x y ≠ -1) (h2 : Txt.rfind x y ≠ 0) : 0 < Txt.rfind x y := by
  unfold Txt.rfind at *
  split at h1
  · rename_i i he
    rw [he] at h2
    have h3 : (i : Int) ≠ 0 := h2
    show (0 : Int) < (i : Int)
    omega
  · exact absurd rfl h1
set_option maxRecDepth 100000 in
set_option maxHeartbeats 8000000 in
theorem dmatch (w : World) (x : Str) (t : Tok) (y : Str) (u : Tok) : Fn w 50 2 (fun _ vs => vs = [.str x t, .str y u] ∧ DmOk x y) (fun _ vs r _ => r = .bool (decide (0 < Txt.rfind (Txt.lower x) (Txt.lower y)))) := by
  intro A s vs E R G hp
  have X := G.K
  have hK := kmark
  revert X hK
  k_fill
  intro X hK
  clear hK
  obtain ⟨loose, mean, mg, mb, T⟩ := G.T
  obtain ⟨rfl, hx, hy, ha, hb, hc⟩ := hp
  k_dflt (refine' enterP (binds := [(Str.ofString "A", .str x t), (Str.ofString "B", .str y u)]) R G ?ho ?hcd ?hb ?hl ?hc ?_ ?c1 ?c2 ?c3; (case ho => k_is); (case hcd => k_is); (case hb => exact BindsTo.of_eq rfl); (case hl => exact locs rfl); (case hc => decide); (case c1 => exact rfl); (case c2 => exact rfl); (case c3 => exact rfl))
  intro L h₁ env he R' F N
  subst he
  (try dsimp only)
  k_steps
  · exact keeps_of (by assumption)
  · exfalso; rename_i h9; exact lower_ne ha hb h9
  refine useFn (isHDN w _ _) (by assumption) (by assumption) R' G ⟨rfl, ha⟩ ?_
  rintro _ h2 tk2 F2 N2 _ rfl
  dsimp only
  k_steps
  all_goals first
    | exact keeps_of (by assumption)
    | (exfalso; rename_i h9; rw [starts_dot hb] at h9; cases h9)
    | (rename_i h9; rw [h9]; rfl)
    | skip
  refine useFn (isHDN w _ _) (by assumption) (by assumption) R' G ⟨rfl, hc⟩ ?_
  rintro _ h3 tk3 F3 N3 _ rfl
  dsimp only
  k_steps
  · exact keeps_of (by assumption)
  · exact congrArg Value.bool (decide_eq_true (rfind_pos (by assumption) (by assumption))).symm
end Mine
end
section
open PySem PySem.W PyProof.Rows PySem.Spec PySem.Calls
namespace Mine
theorem enterQ {w : World} {A : Around} {s : Shared} {E : Value → Shared → Prop} {Q : Value → Shared → Prop} {k : Nat} {f : Addr} {fo : Obj} {cl : List (Str × Addr)}
    {name qual : Str} {params : Arguments} {body : List Stmt} {scope : Scope} {dV kV doc pm cdv ct : Value} {an : Option Addr} {vs : List Value} {binds : List (Str × Value)}
    (R : Room A (k + 1)) (G : Gd w s.heap)
    (ho : s.heap.get? f = some fo) (hfd : fo.data = .func (fnX name qual params body scope cl dV kV doc pm an cdv ct)) (hcd : s.heap.CodeRec cdv qual)
    (hbind : BindsTo s (fnX name qual params body scope cl dV kV doc pm an cdv ct) ⟨vs, []⟩ binds) (hloc : ∀ y ∈ binds, scope.names.lookup y.1 = some .local)
    (hcell : ∀ x ∈ scope.names, x.2 ≠ .cell)
    (h : ∀ L h₁ env, env = envX qual scope L f cdv cl → Room (A.deeper env) k → Fr s.heap L h₁ (fun y => binds.reverse.lookup y) → News s.heap L h₁ [] →
      wpAny (model prg w) (A.deeper env) (execs body env)
        (fun fl s' => Q (match fl with | .ret v => v | _ => .none) s') (fun _ _ => False) { s with heap := h₁, toks := s.toks + binds.length })
    (hco : scope.isCoroutine = false) (hgen : scope.isGenerator = false) (hk : scope.kind = .function) : wpAny (model prg w) A (call (.ref f) vs) Q E s := by
  refine wpAny_call ?_
  obtain ⟨_, _, _, _, T⟩ := G.T
  refine codeAny_call_def (fd := fnX name qual params body scope cl dV kV doc pm an cdv ct) (body := body) (binds := binds) (by have := R.dp; omega) ho hfd T.nolimit hcd rfl hbind hcell hloc (fun h₁ hns hk₁ => ?_) hco hgen hk
  refine wpAny_mono (h _ h₁ _ rfl R.deeper ⟨hns, hk₁, Nat.le_refl _⟩ News.nil) (fun fl s' hq => hq) fun _ _ x => x.elim
structure Box (p : Prop) : Prop where
  out : p
noncomputable def stepParts (P : Params) : Option (Arguments × List Stmt × Scope) :=
  match (hd.heap_39 P).lookup 118 with
  | some o => (match o.data with
    | .func fd => (match fd.body with
      | .stmts (.FunctionDef _ a b _ _ _ sc _ _ _ :: _) => some (a, b, sc)
      | _ => none)
    | _ => none)
  | none => none
def StepAt (w : World) (fa : Addr) (h : Heap) : Prop :=
  ∃ qual params body scope doc pm c ctv, stepParts w.params = some (params, body, scope) ∧ h.get? fa = some (fnMade (Str.ofString "step") qual params body scope [] doc pm c ctv) ∧ h.CodeRec (.ref c) qual
def StateIs (h : Heap) (v : Value) (ps qs : List Str) (cs : List Int) : Prop :=
  ∃ ta p q c vp vq vc, v = .ref ta ∧ IsTup h ta #[.ref p, .ref q, .ref c] ∧ h.IsList p vp ∧ StrsAre vp.toList ps ∧ h.IsList q vq ∧ StrsAre vq.toList qs ∧ h.IsList c vc ∧ IntsAre vc.toList cs
def host (ps : List Str) : Str := Txt.join (Str.ofString ".") (Str.ofString "q" :: ps)
def dom (qs : List Str) : Str := Str.ofString "." ++ Txt.join (Str.ofString ".") qs
def hit (ps qs : List Str) : Bool := decide (0 < Txt.rfind (Txt.lower (host ps)) (Txt.lower (dom qs)))
set_option maxRecDepth 100000 in
set_option maxHeartbeats 8000000 in
theorem step_ok (w : World) (fa : Addr) (v : Value) (x : Str) (t : Tok) (ps qs : List Str) (cs : List Int) :
    Fn w fa 3 (fun h vs => StepAt w fa h ∧ vs = [v, .str x t] ∧ StateIs h v ps qs cs ∧ DmOk (host ps) (dom (qs ++ [x])) ∧ ps.length ≤ 100 ∧ qs.length ≤ 100 ∧ cs.length ≤ 100 ∧ (ps.map (·.length)).sum ≤ 2000 ∧ ((qs ++ [x]).map (·.length)).sum ≤ 2000)
      (fun _ vs r h' => StateIs h' r (ps ++ [x]) (if hit ps (qs ++ [x]) then qs ++ [x] else []) (if hit ps (qs ++ [x]) then cs else cs ++ [(ps.length : Int) + 1])) := by
  intro A s vs E R G hp
  obtain ⟨ha', dp', fr', gd', un'⟩ := A
  obtain rfl : ha' = none := R.hh
  have hdp' : dp' < recursionLimit := Nat.lt_of_le_of_lt (Nat.le_add_right _ _) R.dp
  have hun' : un' < cLine := Nat.lt_of_le_of_lt (Nat.le_add_right _ _) R.un
  have X := G.K
  have hK := kmark
  revert X hK
  k_fill
  intro X hK
  clear hK
  obtain ⟨loose, mean, mg, mb, T⟩ := G.T
  obtain ⟨⟨qual, params, body, scope, doc, pm, c, ctv, hparts, hfo, hcd⟩, rfl, ⟨ta, p, q, c, vp, vq, vc, rfl, ht, hp, hps, hq, hqs, hc, hcs⟩, hdm, hl1, hl2, hl3, hs1, hs2⟩ := hp
  have e := hparts.symm.trans (show stepParts w.params = some (_, _, _) from rfl)
  cases e
  k_dflt (refine' enterQ (binds := [(Str.ofString "state", .ref ta), (Str.ofString "row", .str x t)]) R G hfo ?ho hcd ?hb ?hl ?hc ?_ ?c1 ?c2 ?c3; (case ho => exact rfl); (case hb => exact BindsTo.of_eq rfl); (case hl => exact locs rfl); (case hc => decide); (case c1 => exact rfl); (case c2 => exact rfl); (case c3 => exact rfl))
  intro L h₁ env he R' F N
  subst he
  (try dsimp only)
  have hqz : vq.size = qs.length := by rw [← Array.length_toList]; exact StrsAre.length hqs
  have hpz : vp.size = ps.length := by rw [← Array.length_toList]; exact StrsAre.length hps
  have hcz : vc.size = cs.length := by rw [← Array.length_toList]; exact IntsAre.length hcs
  have hsl : 16777216 = sizeLine := by decide
  have bps := Box.mk hps
  have bqs := Box.mk hqs
  have bcs := Box.mk hcs
  k_steps
  refine join_listC (ys := Str.ofString "q" :: ps) (News.isList (by assumption) (by k_mem)) ?_ (by decide +kernel) ?_ ?_
  · exact StrsAre.cons _ _ bps.out
  · have : (Str.ofString "q").length = 1 := by decide +kernel
    simp only [List.map_cons, List.sum_cons, List.length_cons, this]; omega
  intro t3 k3
  dsimp only
  k_steps
  refine join_listC (ys := qs ++ [x]) (News.isList (by assumption) (by k_mem)) ?_ (by decide +kernel) ?_ ?_
  · simpa using StrsAre.append' bqs.out (StrsAre.cons x t .nil)
  · simp only [List.length_append, List.length_singleton]; omega
  intro t4 k4
  dsimp only
  k_steps
  refine add_str ?_ (by have := hdm.2.1; unfold dom at this; rw [Str.length_append] at this; omega)
  intro t5 k5
  dsimp only
  k_steps
  refine useFn (dmatch w (host ps) _ (dom (qs ++ [x])) _) (by assumption) (by assumption) R' G ⟨rfl, hdm⟩ ?_
  intro r h6 tk6 F6 N6 _ hr
  have hr' : r = .bool (hit ps (qs ++ [x])) := hr
  subst hr'
  cases hh : hit ps (qs ++ [x])
  · dsimp only
    k_steps
    · exact keeps_of (by assumption)
    · first
        | rw [if_neg Bool.false_ne_true, if_neg Bool.false_ne_true]
        | rw [if_neg id, if_neg id]
        | simp only [if_false]
      refine ⟨_, _, _, _, _, _, _, rfl, News.isTup (by assumption) (by k_mem), News.isList (by assumption) (by k_mem), ?_, News.isList (by assumption) (by k_mem), ?_, News.isList (by assumption) (by k_mem), ?_⟩
      · simpa using StrsAre.append' bps.out (StrsAre.cons x t .nil)
      · exact StrsAre.nil
      · simpa using (by assumption)
  · dsimp only
    k_steps
    · exact keeps_of (by assumption)
    · first
        | rw [if_pos trivial, if_pos trivial]
        | rw [if_pos rfl, if_pos rfl]
        | simp only [if_true]
      refine ⟨_, _, _, _, _, _, _, rfl, News.isTup (by assumption) (by k_mem), News.isList (by assumption) (by k_mem), ?_, News.isList (by assumption) (by k_mem), ?_, Fr.lst (by assumption) hc, bcs.out⟩
      · simpa using StrsAre.append' bps.out (StrsAre.cons x t .nil)
      · simpa using StrsAre.append' bqs.out (StrsAre.cons x t .nil)
end Mine
end
section
open PySem PySem.W PyProof.Rows PySem.Spec PySem.Calls
namespace Mine
/-- all that stands beside the base, the locals and what a turn may change -/
def restOf (h₀ : Heap) (L : Addr) (mt : List Addr) (h : Heap) : List (Addr × Obj) :=
  (List.range h.objs.size).filterMap fun a => if a = L ∨ a ∈ mt ∨ (h₀.get? a).isSome = true then none else (h.get? a).map fun o => (a, o)
section
variable {h₀ h h' : Heap} {L : Addr} {mt : List Addr} {m m' : Str → Option Value}
theorem rest_spec {p : Addr × Obj} (hp : p ∈ restOf h₀ L mt h) : h.get? p.1 = some p.2 ∧ p.1 ≠ L ∧ p.1 ∉ mt ∧ h₀.get? p.1 = none := by
  unfold restOf at hp
  obtain ⟨a, _, ha⟩ := List.mem_filterMap.mp hp
  split at ha
  · cases ha
  · rename_i hn
    cases hg : h.get? a with
    | none => rw [hg] at ha; cases ha
    | some o =>
      rw [hg] at ha
      cases ha
      refine ⟨hg, fun e => hn (.inl e), fun e => hn (.inr (.inl e)), ?_⟩
      cases q : h₀.get? a with
      | none => rfl
      | some o' => exact absurd (.inr (.inr (by rw [q]; rfl))) hn
theorem rest_mem {a : Addr} {o : Obj} (hg : h.get? a = some o) (h1 : a ≠ L) (h2 : a ∉ mt) (h3 : h₀.get? a = none) : (a, o) ∈ restOf h₀ L mt h := by
  unfold restOf
  refine List.mem_filterMap.mpr ⟨a, List.mem_range.mpr (Heap.lt_size hg), ?_⟩
  rw [if_neg (by rintro (e | e | e); exact h1 e; exact h2 e; rw [h3] at e; cases e), hg]; rfl
theorem rest_news : News h₀ L h (restOf h₀ L mt h) := fun p hp => ⟨(rest_spec hp).1, (rest_spec hp).2.1, (rest_spec hp).2.2.2⟩
theorem rest_off : ∀ p ∈ restOf h₀ L mt h, p.1 ∉ mt := fun p hp => (rest_spec hp).2.2.1
theorem rest_sub (k : ∀ b o, b ≠ L → h.get? b = some o → h'.get? b = some o) {p : Addr × Obj} (hp : p ∈ restOf h₀ L mt h) : p ∈ restOf h₀ L mt h' :=
  have x := rest_spec hp
  rest_mem (k _ _ x.2.1 x.1) x.2.1 x.2.2.1 x.2.2.2
theorem rest_kept (F : Fr h₀ L h m) (F' : Fr h₀ L h' m') (N : News h₀ L h' (restOf h₀ L mt h)) {b : Addr} {o : Obj} (h1 : b ≠ L) (h2 : b ∉ mt) (e : h.get? b = some o) : h'.get? b = some o := by
  cases q : h₀.get? b with
  | none => exact (N _ (rest_mem e h1 h2 q)).1
  | some o' =>
    have := F.keep _ _ q
    rw [e] at this
    cases this
    exact F'.keep _ _ q
end
theorem list_ne {h : Heap} {L a : Addr} {m : Str → Option Value} {items : Array Value} (hn : h.Ns L m) (x : h.IsList a items) : a ≠ L := by
  rintro rfl
  obtain ⟨o', es, ep, e', hd', _⟩ := hn
  obtain ⟨o, e, hc, n, hd⟩ := x
  rw [e] at e'; cases e'
  rw [hd] at hd'; cases hd'
theorem list_rest {h₀ h h' : Heap} {L a : Addr} {mt : List Addr} {m m' : Str → Option Value} {items : Array Value} (F : Fr h₀ L h m) (F' : Fr h₀ L h' m') (N : News h₀ L h' (restOf h₀ L mt h)) (x : h.IsList a items) (hm : a ∉ mt) : h'.IsList a items := by
  have hne := list_ne F.ns x
  obtain ⟨o, e, r⟩ := x
  exact ⟨o, rest_kept F F' N hne hm e, r⟩
def TurnH (h₀ : Heap) (L : Addr) (mt : List Addr) (h₂ : Heap) (J : (Str → Option Value) → Heap → Prop) (s : Shared) (R : Result → Shared → Prop) (f : Flow) (s₃ : Shared) : Prop :=
  match f with
  | .brk => R (.ok .next) s₃
  | .ret v => R (.ok (.ret v)) s₃
  | _ => ∃ h₃ tk₃ m₃, s₃ = { s with heap := h₃, toks := tk₃ } ∧ Fr h₀ L h₃ m₃ ∧ News h₀ L h₃ (restOf h₀ L mt h₂) ∧ J m₃ h₃
section
variable {prog : Program} {w : World} {A : Around} {s : Shared} {env : Env} {h₀ : Heap}
theorem forH {R : Result → Shared → Prop} {x : Str} {px : Pos} {body : List Stmt} {I : Addr} {fp wr : List Addr} {n : Nat} {P : Nat → Value → Prop} {St : Nat → Heap → Prop} {m : Str → Option Value}
    (W : Walks prog w A I fp wr n P St) (hx : env.kindOf x = some .local)
    (hp : (env.scope.kind == .class || (env.scope.kind == .module && env.locals != env.globals)) = false)
    (hLf : env.locals ∉ fp) (mt : List Addr) (hmf : ∀ a ∈ mt, a ∉ fp) (hwr : ∀ b ∈ wr, h₀.get? b = none)
    (J : Nat → (Str → Option Value) → Heap → Prop)
    (stable : ∀ i m h h', h.Ns env.locals m → St i h → J i m h → (∀ b o, b ≠ env.locals → b ∉ wr → h.get? b = some o → h'.get? b = some o) → J i m h')
    (hst : St 0 s.heap) (F : Fr h₀ env.locals s.heap m) (h0 : J 0 m s.heap)
    (turn : ∀ i v m₁ h₂ tk, i < n → P i v → J i m₁ h₂ → St (i + 1) h₂ → Fr h₀ env.locals h₂ (fun y => if y = x then some v else m₁ y) → News h₀ env.locals h₂ (restOf h₀ env.locals mt h₂) →
      wpAny (model prog w) A (execs body env) (TurnH h₀ env.locals mt h₂ (J (i + 1)) s R) (fun _ _ => False) { s with heap := h₂, toks := tk })
    (done : ∀ m₁ h₁ tk, Fr h₀ env.locals h₁ m₁ → J n m₁ h₁ → R (.ok .next) { s with heap := h₁, toks := tk }) :
    codeAny (model prog w) A (.forLoop (.Name x px) (.ref I) body [] env) R s := by
  have hLw : env.locals ∉ wr := fun h => hLf (W.sub _ h)
  have old : ∀ b o, h₀.get? b = some o → b ∉ wr := fun b o e hb => by rw [hwr b hb] at e; cases e
  refine codeAny_forLoop (fun k s' => ∃ h' tk m' i, s' = { s with heap := h', toks := tk } ∧ St i h' ∧ Fr h₀ env.locals h' m' ∧ J i m' h' ∧ i ≤ n ∧ k = n + 1 - i) ?_ (n + 1)
    ⟨s.heap, s.toks, m, 0, rfl, hst, F, h0, Nat.zero_le _, rfl⟩
  rintro k s' ⟨h', tk, m', i, rfl, hst', F', hJ, hi, rfl⟩
  have next : ∀ h₁ : Heap, (∀ b o, b ∉ wr → h'.get? b = some o → h₁.get? b = some o) → Fr h₀ env.locals h₁ m' ∧ J i m' h₁ := fun h₁ hk₁ =>
    ⟨⟨F'.ns.at' fun o e => hk₁ _ o hLw e, fun b o e => hk₁ b o (old b o e) (F'.keep b o e), F'.above⟩, stable i m' h' h₁ F'.ns hst' hJ fun b o _ hb e => hk₁ b o hb e⟩
  by_cases hlt : i < n
  · refine W.item i _ _ _ hlt hst' fun v h₁ tk₁ hP hst₁ hk₁ => ?_
    obtain ⟨F₁, J₁⟩ := next h₁ hk₁
    refine wpAny_assign_Name (wpAny_storeName_local hx F₁.ns (fun h₂ hn₂ hs₂ => ?_) hp)
    have F₂ := F₁.set hn₂ hs₂
    have J₂ : J i m' h₂ := stable i m' h' h₂ F'.ns hst' hJ fun b o hb hb2 e => (hs₂.2 b hb).trans (hk₁ b o hb2 e)
    have hst₂ : St (i + 1) h₂ := W.frame _ _ _ hst₁ fun b hb o e => (hs₂.2 b fun q => hLf (q ▸ hb)).trans e
    refine wpAny_mono (turn i v m' h₂ (tk₁ + 1) hlt hP J₂ hst₂ F₂ rest_news) (fun f s₃ h₃ => ?_) fun _ _ e => e.elim
    have go : ∀ f', TurnH h₀ env.locals mt h₂ (J (i + 1)) s R f' s₃ → (f' = .next ∨ f' = .cont) → ∃ m, m < n + 1 - i ∧ ∃ h' tk m' i, s₃ = { s with heap := h', toks := tk } ∧ St i h' ∧ Fr h₀ env.locals h' m' ∧ J i m' h' ∧ i ≤ n ∧ m = n + 1 - i := by
      intro f' h₃ hf
      have h₃' : ∃ h₃ tk₃ m₃, s₃ = { s with heap := h₃, toks := tk₃ } ∧ Fr h₀ env.locals h₃ m₃ ∧ News h₀ env.locals h₃ (restOf h₀ env.locals mt h₂) ∧ J (i + 1) m₃ h₃ := by
        rcases hf with rfl | rfl <;> exact h₃
      obtain ⟨h₃', tk₃, m₃, rfl, F₃, N₃, J₃⟩ := h₃'
      refine ⟨n + 1 - (i + 1), by omega, h₃', tk₃, m₃, i + 1, rfl, ?_, F₃, J₃, hlt, rfl⟩
      exact W.frame _ _ _ hst₂ fun b hb o e => rest_kept F₂ F₃ N₃ (fun q => hLf (q ▸ hb)) (fun q => hmf b q hb) e
    cases f with
    | ret v => exact h₃
    | brk => exact h₃
    | cont => exact go _ h₃ (.inr rfl)
    | next => exact go _ h₃ (.inl rfl)
  · have hin : i = n := by omega
    subst hin
    refine W.done _ _ _ hst' fun h₁ tk₁ hk₁ => wpAny_execs_nil ?_
    obtain ⟨F₁, J₁⟩ := next h₁ hk₁
    exact done m' h₁ tk₁ F₁ J₁
/-- the same, as the statement's rule -/
theorem For_H {Q : Flow → Shared → Prop} {x : Str} {px pos : Pos} {iter : Expr} {body : List Stmt} (hx : env.kindOf x = some .local)
    (hp : (env.scope.kind == .class || (env.scope.kind == .module && env.locals != env.globals)) = false)
    (h : wpAny (model prog w) A (eval iter env) (fun xv s₁ => wpAny (model prog w) A (pyIter xv) (fun it s₂ =>
      codeAny (model prog w) A (.forLoop (.Name x px) it body [] env) (fun r s' => match r with | .ok f => Q f s' | .error _ => False) s₂) (fun _ _ => False) s₁) (fun _ _ => False) s)
    (hs : ∀ x, foldedSetIterable iter env x = pure x := by intro _; rfl) :
    wpAny (model prog w) A (exec (.For (.Name x px) iter body [] pos) env) Q (fun _ _ => False) s := by
  refine wpAny_For (wpAny_mono h (fun xv s₁ h₁ => wpAny_mono h₁ (fun it s₂ h₂ => ?_) fun _ _ e => e) fun _ _ e => e) hs
  refine codeAny_mono h₂ (fun r s' hr => ?_)
  cases r with
  | ok f => exact hr
  | error e => exact hr.elim
end
end Mine
end
section
open PySem PySem.W PyProof.Rows PySem.Spec PySem.Calls
namespace Mine
theorem args_iter (a : Value) : argsOk "iter" ⟨[a], []⟩ := by unfold argsOk; kernel_rfl
theorem call_iter_list {w : World} {A : Around} {E : Value → Shared → Prop} {s : Shared} {l : Addr} {items : Array Value} {Q : Value → Shared → Prop} {h₀ : Heap} {L : Addr} {m : Str → Option Value} {news : List (Addr × Obj)}
    (F : Fr h₀ L s.heap m) (N : News h₀ L s.heap news) (hl : s.heap.IsList l items)
    (h : ∀ I h', Fr h₀ L h' m → News h₀ L h' ((I, { cls := .type "list_iterator", data := .fields #[.ref l, .int 0 0] }) :: news) → (∀ b o, s.heap.get? b = some o → h'.get? b = some o) → s.heap.get? I = none → Q (.ref I) { s with heap := h' }) :
    wpAny (model prg w) A (call (.builtin "iter") [.ref l]) Q E s := by
  refine call_function_entry (by decide +kernel) (by decide +kernel) kdk_entry_iter (args_iter _) ?_
  unfold Builtin.«iter»
  refine wpAny_bind (m := someArgs "iter" 1 2 _) (wpAny_pure ?_)
  refine wpAny_bind (wpAny_pyIter_list hl (wpAny_pure ⟨_, rfl, ?_⟩))
  exact h _ _ (F.push _) (N.push F _) (fun b o e => Heap.get?_push_of_some _ e) (Heap.get?_none_of_le (Nat.le_refl _))
theorem is_ref_obj {w : World} {A : Around} {E : Value → Shared → Prop} {s : Shared} {a b : Addr} {oa ob : Obj} {Q : Value → Shared → Prop} (hne : a ≠ b) (ha : s.heap.get? a = some oa) (hb : s.heap.get? b = some ob) (hc : ob.cls = .type "object")
    (h : Q (.bool false) s) : wpAny (model prg w) A (compareOp .Is (.ref a) (.ref b)) Q E s := by
  show wpAny _ _ (do return Value.bool (← isSame (.ref a) (.ref b))) _ _ _
  refine wpAny_bind (m := isSame _ _) ?_
  unfold isSame
  have hn : (a == b) = false := by simpa using hne
  simp only [hn, Bool.false_eq_true, if_false]
  refine wpAny_bind (wpAny_load ha (wpAny_bind (wpAny_load hb ?_)))
  rw [hc]
  split
  · rename_i e _ _
    exact absurd e (by decide)
  · exact wpAny_pure (wpAny_pure h)
theorem useRaw {w : World} {f : Addr} {post : Value → Heap → Prop}
    {A : Around} {s : Shared} {vs : List Value} {E Q : Value → Shared → Prop} {h₀ : Heap} {L : Addr} {m : Str → Option Value} {news : List (Addr × Obj)}
    (C : wpAny (model prg w) A (call (.ref f) vs) (fun r s' => Keeps s s' ∧ post r s'.heap) E s)
    (F : Fr h₀ L s.heap m) (N : News h₀ L s.heap news)
    (h : ∀ r h' tk', Fr h₀ L h' m → News h₀ L h' news → (∀ b o, s.heap.get? b = some o → h'.get? b = some o) → post r h' → Q r { s with heap := h', toks := tk' }) :
    wpAny (model prg w) A (call (.ref f) vs) Q E s := by
  refine wpAny_mono C (fun r s' hr => ?_) fun _ _ x => x
  obtain ⟨⟨h', tk', rfl, kk⟩, hpost⟩ := hr
  exact h r h' tk' (Fr.kept F kk) (News.kept N kk) kk hpost
def redMap (fa l ta I : Addr) (v : Value) (e : Option Value) : Str → Option Value := fun y =>
  if y = Str.ofString "value" then some v else if y = Str.ofString "element" then e else if y = Str.ofString "it" then some (.ref I)
  else List.lookup y [(Str.ofString "function", Value.ref fa), (Str.ofString "sequence", Value.ref l), (Str.ofString "initial", Value.ref ta)].reverse
local macro_rules | `(tactic| walk_at "exec For Name Name cons nil") => `(tactic| (k_dflt (refine For_H (by exact rfl) (by exact rfl) ?_); (try dsimp only)))
set_option maxRecDepth 100000 in
set_option maxHeartbeats 8000000 in
theorem reduce_ok (w : World) (fa l ta : Addr) (items : Array Value) (P : Nat → Value → Heap → Prop)
    (stab : ∀ i v h h' L m I ax j, h.Ns L m → h.IsListIter I ax j → P i v h → (∀ b o, b ≠ L → b ≠ I → h.get? b = some o → h'.get? b = some o) → P i v h')
    (mono : ∀ i v h h', P i v h → (∀ b o, h.get? b = some o → h'.get? b = some o) → P i v h')
    (hstep : ∀ i v x A s' E, items[i]? = some x → Room A 3 → Gd w s'.heap → P i v s'.heap → wpAny (model prg w) A (call (.ref fa) [v, x]) (fun r s'' => Keeps s' s'' ∧ P (i + 1) r s''.heap) E s') :
    Fn w 59 4 (fun h vs => vs = [.ref fa, .ref l, .ref ta] ∧ FnAt fa h ∧ h.IsList l items ∧ P 0 (.ref ta) h ∧ ta ≠ 51 ∧ ∃ o, h.get? ta = some o)
      (fun _ _ r h' => P items.size r h') := by
  intro A s vs E R G hp
  obtain ⟨ha', dp', fr', gd', un'⟩ := A
  obtain rfl : ha' = none := R.hh
  have hdp' : dp' < recursionLimit := Nat.lt_of_le_of_lt (Nat.le_add_right _ _) R.dp
  have hun' : un' < cLine := Nat.lt_of_le_of_lt (Nat.le_add_right _ _) R.un
  have X := G.K
  have hK := kmark
  revert X hK
  k_fill
  intro X hK
  clear hK
  obtain ⟨loose, mean, mg, mb, T⟩ := G.T
  obtain ⟨rfl, hfa, hl, hP0, hta, ota, hota⟩ := hp
  k_dflt (refine' enterP (binds := [(Str.ofString "function", .ref fa), (Str.ofString "sequence", .ref l), (Str.ofString "initial", .ref ta)]) R G ?ho ?hcd ?hb ?hl ?hc ?_ ?c1 ?c2 ?c3; (case ho => k_is); (case hcd => k_is); (case hb => exact BindsTo.of_defaults rfl (X 52 _ (by rfl)) rfl rfl rfl); (case hl => exact locs rfl); (case hc => decide); (case c1 => exact rfl); (case c2 => exact rfl); (case c3 => exact rfl))
  intro L h₁ env he R' F N
  subst he
  (try dsimp only)
  k_steps
  refine call_iter_list (by assumption) (by assumption) (Fr.lst (by assumption) hl) ?_
  intro I h2 F2 N2 k2 hI
  dsimp only
  k_steps
  rename_i F3 N3
  refine is_ref_obj hta (F3.keep _ _ hota) (F3.keep _ _ (X 51 _ (by rfl))) rfl ?_
  (try dsimp only)
  k_steps
  rename_i F4 N4
  have hIit := (N4 _ (.head _)).1
  have hIl : l ≠ I := by
    intro e
    obtain ⟨o, ho, hc, _⟩ := Fr.lst F4 hl
    rw [e, hIit] at ho
    cases ho
    exact absurd hc (by intro e; exact absurd (Value.type.inj e) (by decide))
  have hIL : L ≠ I := fun e => (N4 _ (.head _)).2.1 e.symm
  have hI0 := (N4 _ (.head _)).2.2
  have hLl : L ≠ l := by
    intro e
    obtain ⟨o, ho, hc, n, hd⟩ := Fr.lst F4 hl
    obtain ⟨o', es, ep, ho', hd', _⟩ := F4.ns
    rw [← e, ho'] at ho
    cases ho
    rw [hd'] at hd; cases hd
  refine wpAny_pyIter_listiter ⟨_, hIit, rfl, rfl⟩ ?_
  refine forH (h₀ := s.heap) (Walks.list rfl I l hIl items) rfl rfl (by simp; exact ⟨hIL, hLl⟩) [] (by simp) (by simpa using hI0)
    (fun i m h => ∃ v e, m = redMap fa l ta I v e ∧ P i v h) ?_ ?_ F4 ?_ ?_ ?_
  · rintro i m h h' hns hst ⟨v, e, rfl, hP⟩ hk
    exact ⟨v, e, rfl, stab i v h h' _ _ I l i hns hst.1 hP fun b o hb hb2 => hk b o hb (by simpa using hb2)⟩
  · exact ⟨⟨_, hIit, rfl, rfl⟩, Fr.lst F4 hl⟩
  · refine ⟨.ref ta, none, ?_, ?_⟩
    · funext y
      unfold redMap
      by_cases h1 : y = Str.ofString "value"
      · simp [h1]
      · by_cases h2 : y = Str.ofString "element"
        · subst h2; rfl
        · simp [h1, h2]
    · exact mono 0 _ _ _ hP0 F4.keep
  · rintro i x m₁ h5 tk5 hi hx ⟨v, e, rfl, hP⟩ hst F5 N5
    dsimp only
    replace F5 : Fr s.heap L h5 _ := F5
    unfold redMap at F5
    replace N5 : News s.heap L h5 _ := N5
    have hfa5 : FnAt fa h5 := let ⟨a, b, c, d, e⟩ := hfa; ⟨a, b, c, d, F5.keep _ _ e⟩
    k_steps
    refine callWith_F hfa5 ?_
    k_steps
    · exact hfa5
    refine useRaw (post := P (i + 1)) (hstep i v x _ _ _ hx R' (G.keeps F5.keep) hP) F5 N5 ?_
    intro r h6 tk6 F6 N6 k6 hP6
    clear N6
    have N7 : News s.heap L h6 (restOf s.heap L [] h6) := rest_news
    have hst6 : h6.IsListIter I l (i + 1) := hst.1.at fun o e => k6 _ _ e
    have F5k := F5.keep
    have F5n := F5.ns
    clear F5 N5
    have F6' := Box.mk F6
    dsimp only
    k_steps
    rename_i h7 F7 N8
    refine ⟨h7, _, _, rfl, F7, fun p hp => ?_, r, some x, ?_, ?_⟩
    · exact N8 p (rest_sub (fun b o _ e => k6 b o e) hp)
    · funext y
      unfold redMap
      by_cases h1 : y = Str.ofString "value"
      · simp [h1]
      · by_cases h2 : y = Str.ofString "element"
        · simp [h1, h2]
        · simp [h1, h2]
    · exact stab (i + 1) r h6 h7 L _ I l (i + 1) F6'.out.ns hst6 hP6 fun b o hb _ e => rest_kept F6'.out F7 N8 hb (by simp) e
  · rintro m₁ h5 tk5 F5 ⟨v, e, rfl, hP⟩
    dsimp only
    replace F5 : Fr s.heap L h5 _ := F5
    unfold redMap at F5
    k_steps
    · exact keeps_of (by assumption)
    · exact hP
end Mine
end
section
open PySem PySem.W PyProof.Rows PySem.Spec PySem.Calls
namespace Mine
theorem enterG {w : World} {A : Around} {s : Shared} {E : Value → Shared → Prop} {Q : Value → Shared → Prop} {k : Nat} {f : Addr} {g₀ : Heap}
    {name qual : Str} {params : Arguments} {body : List Stmt} {scope : Scope} {dV kV doc pm cdv ct oc : Value} {an od : Option Addr} {osl : Array (Option Value)} {vs : List Value} {binds : List (Str × Value)}
    (R : Room A (k + 1)) (G : Gd w g₀) (hg : g₀.get? 113 = none) (hk₀ : ∀ b o, g₀.get? b = some o → s.heap.get? b = some o) (ht : s.heap.get? 113 = some (tabObj #[]))
    (ho : (hd.heap_39 w.params).lookup f = some ⟨oc, od, .func (fnOf name qual params body scope dV kV doc pm an cdv ct), osl⟩) (hcd : codeIn (hd.heap_39 w.params) cdv qual = true)
    (hbind : BindsTo s (fnOf name qual params body scope dV kV doc pm an cdv ct) ⟨vs, []⟩ binds) (hloc : ∀ y ∈ binds, scope.names.lookup y.1 = some .local)
    (hcell : ∀ x ∈ scope.names, x.2 ≠ .cell)
    (h : ∀ L h₁ env, env = envOf qual scope L f cdv → Room (A.deeper env) k → Gd w (hideAll s.heap [113]) → (∀ b o, g₀.get? b = some o → (hideAll s.heap [113]).get? b = some o) → Fr (hideAll s.heap [113]) L h₁ (fun y => binds.reverse.lookup y) → News (hideAll s.heap [113]) L h₁ [(113, tabObj #[])] → 113 < L →
      wpAny (model prg w) (A.deeper env) (execs body env)
        (fun fl s' => Q (match fl with | .ret v => v | _ => .none) s') (fun _ _ => False) { s with heap := h₁, toks := s.toks + binds.length })
    (hco : scope.isCoroutine = false) (hgen : scope.isGenerator = false) (hk : scope.kind = .function) : wpAny (model prg w) A (call (.ref f) vs) Q E s := by
  have hsub : ∀ b o, g₀.get? b = some o → (hideAll s.heap [113]).get? b = some o := fun b o e => hideAll_get _ (hk₀ b o e) (by simp; rintro rfl; rw [hg] at e; cases e)
  have G' := G.keeps hsub
  have Gs := G.keeps hk₀
  refine wpAny_call ?_
  obtain ⟨_, _, _, _, T⟩ := Gs.T
  refine codeAny_call_def (fd := fnOf name qual params body scope dV kV doc pm an cdv ct) (body := body) (binds := binds) (by have := R.dp; omega) (Gs.K _ _ ho) rfl T.nolimit (codeRec_of Gs.K hcd) rfl hbind hcell hloc (fun h₁ hns hk₁ => ?_) hco hgen hk
  refine wpAny_mono (h _ h₁ _ rfl R.deeper G' hsub ⟨hns, fun b o e => hk₁ b o (of_hideAll _ e), Nat.le_of_eq (hideAll_size _ _)⟩ ?_ (Heap.lt_size ht)) (fun fl s' hq => hq) fun _ _ x => x.elim
  intro p hp
  cases List.mem_singleton.mp hp
  exact ⟨hk₁ _ _ ht, Nat.ne_of_lt (Heap.lt_size ht), hideAll_none _ (by simp)⟩
section
variable {h h' : Heap} {a L I ax : Addr} {j : Nat} {m : Str → Option Value} {items : Array Value}
theorem obj_stab {o : Obj} (hns : h.Ns L m) (hit : h.IsListIter I ax j) (hk : ∀ b o, b ≠ L → b ≠ I → h.get? b = some o → h'.get? b = some o) (e : h.get? a = some o) (h1 : ∀ es ep, o.data ≠ .dict es ep) (h2 : ∀ x y, o.data ≠ .fields #[x, .int y 0]) : h'.get? a = some o := by
  refine hk a o ?_ ?_ e
  · rintro rfl
    obtain ⟨o', es, ep, e', hd, _⟩ := hns
    rw [e] at e'; cases e'
    exact h1 _ _ hd
  · rintro rfl
    obtain ⟨o', e', _, hd⟩ := hit
    rw [e] at e'; cases e'
    exact h2 _ _ hd
theorem list_stab (hns : h.Ns L m) (hit : h.IsListIter I ax j) (hk : ∀ b o, b ≠ L → b ≠ I → h.get? b = some o → h'.get? b = some o) (x : h.IsList a items) : h'.IsList a items := by
  obtain ⟨o, e, hc, n, hd⟩ := x
  exact ⟨o, obj_stab hns hit hk e (by intro _ _ q; rw [hd] at q; cases q) (by intro _ _ q; rw [hd] at q; cases q), hc, n, hd⟩
theorem tup_stab (hns : h.Ns L m) (hit : h.IsListIter I ax j) (hk : ∀ b o, b ≠ L → b ≠ I → h.get? b = some o → h'.get? b = some o) (x : IsTup h a items) : IsTup h' a items := by
  obtain ⟨o, e, hc, n, hd⟩ := x
  exact ⟨o, obj_stab hns hit hk e (by intro _ _ q; rw [hd] at q; cases q) (by intro _ _ q; rw [hd] at q; cases q), hc, n, hd⟩
end
theorem StateIs.stab {h h' : Heap} {L I ax : Addr} {j : Nat} {m : Str → Option Value} {v : Value} {ps qs : List Str} {cs : List Int} (x : StateIs h v ps qs cs) (hns : h.Ns L m) (hit : h.IsListIter I ax j) (hk : ∀ b o, b ≠ L → b ≠ I → h.get? b = some o → h'.get? b = some o) : StateIs h' v ps qs cs := by
  obtain ⟨ta, p, q, c, vp, vq, vc, rfl, ht, hp, hps, hq, hqs, hc, hcs⟩ := x
  exact ⟨ta, p, q, c, vp, vq, vc, rfl, tup_stab hns hit hk ht, list_stab hns hit hk hp, hps, list_stab hns hit hk hq, hqs, list_stab hns hit hk hc, hcs⟩
theorem StateIs.keeps {h h' : Heap} {v : Value} {ps qs : List Str} {cs : List Int} (x : StateIs h v ps qs cs) (hk : ∀ b o, h.get? b = some o → h'.get? b = some o) : StateIs h' v ps qs cs := by
  obtain ⟨ta, p, q, c, vp, vq, vc, rfl, ht, hp, hps, hq, hqs, hc, hcs⟩ := x
  exact ⟨ta, p, q, c, vp, vq, vc, rfl, ht.keeps hk, hp.at fun o e => hk _ o e, hps, hq.at fun o e => hk _ o e, hqs, hc.at fun o e => hk _ o e, hcs⟩
theorem StepAt.keeps {w : World} {fa : Addr} {h h' : Heap} (x : StepAt w fa h) (hk : ∀ b o, h.get? b = some o → h'.get? b = some o) : StepAt w fa h' := by
  obtain ⟨qual, params, body, scope, doc, pm, c, ctv, h1, h2, h3⟩ := x
  exact ⟨qual, params, body, scope, doc, pm, c, ctv, h1, hk _ _ h2, h3.keeps hk⟩
theorem StepAt.stab {w : World} {fa : Addr} {h h' : Heap} {L I ax : Addr} {j : Nat} {m : Str → Option Value} (x : StepAt w fa h) (hns : h.Ns L m) (hit : h.IsListIter I ax j) (hk : ∀ b o, b ≠ L → b ≠ I → h.get? b = some o → h'.get? b = some o) : StepAt w fa h' := by
  obtain ⟨qual, params, body, scope, doc, pm, c, ctv, h1, h2, c2, oc, vs, t, e1, e2, e3, e4⟩ := x
  refine ⟨qual, params, body, scope, doc, pm, c, ctv, h1, obj_stab hns hit hk h2 (by intro _ _ q; cases q) (by intro _ _ q; cases q), c2, oc, vs, t, e1, obj_stab hns hit hk e2 (by intro _ _ q; rw [e3] at q; cases q) ?_, e3, e4⟩
  intro x y q
  rw [e3] at q
  cases q
  cases e4
def stepF (st : List Str × List Str × List Int) (x : Str) : List Str × List Str × List Int :=
  (st.1 ++ [x], (if hit st.1 (st.2.1 ++ [x]) then st.2.1 ++ [x] else []), (if hit st.1 (st.2.1 ++ [x]) then st.2.2 else st.2.2 ++ [(st.1.length : Int) + 1]))
def cutF (rows : List Str) : List Str × List Str × List Int := rows.foldl stepF ([], [], [])
def RowsOk (rows : List Str) : Prop := ∀ i x, rows[i]? = some x →
  DmOk (host (cutF (rows.take i)).1) (dom ((cutF (rows.take i)).2.1 ++ [x])) ∧ (cutF (rows.take i)).1.length ≤ 100 ∧ (cutF (rows.take i)).2.1.length ≤ 100 ∧ (cutF (rows.take i)).2.2.length ≤ 100 ∧
    ((cutF (rows.take i)).1.map (·.length)).sum ≤ 2000 ∧ (((cutF (rows.take i)).2.1 ++ [x]).map (·.length)).sum ≤ 2000
theorem cutF_snoc (rows : List Str) (i : Nat) (x : Str) (h : rows[i]? = some x) : cutF (rows.take (i + 1)) = stepF (cutF (rows.take i)) x := by
  unfold cutF
  rw [List.take_add_one, h]
  simp
def CutP (w : World) (rows : List Str) (fa : Addr) (i : Nat) (v : Value) (h : Heap) : Prop :=
  StepAt w fa h ∧ StateIs h v (cutF (rows.take i)).1 (cutF (rows.take i)).2.1 (cutF (rows.take i)).2.2
theorem reduce_cut (w : World) (fa l ta : Addr) (items : Array Value) (rows : List Str) (hi : StrsAre items.toList rows) (hok : RowsOk rows) :
    Fn w 59 4 (fun h vs => vs = [.ref fa, .ref l, .ref ta] ∧ FnAt fa h ∧ h.IsList l items ∧ CutP w rows fa 0 (.ref ta) h ∧ ta ≠ 51 ∧ ∃ o, h.get? ta = some o)
      (fun _ _ r h' => StateIs h' r (cutF rows).1 (cutF rows).2.1 (cutF rows).2.2) := by
  have hlen : items.size = rows.length := by rw [← Array.length_toList]; exact StrsAre.length hi
  have := reduce_ok w fa l ta items (CutP w rows fa) ?_ ?_ ?_
  · intro A s vs E R G hp
    refine wpAny_mono (this A s vs E R G hp) (fun r s' hr => ⟨hr.1, ?_⟩) fun _ _ e => e
    have h2 := hr.2.2
    rwa [hlen, List.take_length] at h2
  · rintro i v h h' L m I ax j hns hit ⟨h1, h2⟩ hk
    exact ⟨h1.stab hns hit hk, h2.stab hns hit hk⟩
  · rintro i v h h' ⟨h1, h2⟩ hk
    exact ⟨h1.keeps hk, h2.keeps hk⟩
  · rintro i v x A s' E hx R3 G3 ⟨h1, h2⟩
    obtain ⟨y, t, rfl, hy⟩ := StrsAre.item hi i x (by simpa using hx)
    obtain ⟨o1, o2, o3, o4, o5, o6⟩ := hok i y hy
    refine wpAny_mono (step_ok w fa v y t _ _ _ A s' [v, .str y t] E R3 G3 ⟨h1, rfl, h2, o1, o2, o3, o4, o5, o6⟩) (fun r s'' hr => ⟨hr.1, ?_⟩) fun _ _ e => e
    obtain ⟨⟨h', tk', rfl, kk⟩, hp⟩ := hr
    refine ⟨h1.keeps kk, ?_⟩
    rw [cutF_snoc rows i y hy]
    exact hp
def CutPost (rows : List Str) (r : Value) (h : Heap) : Prop := GrownAt 113 h ∧ ∃ ta c vc left tk, r = .ref ta ∧ IsTup h ta #[.ref c, .int left tk] ∧ h.IsList c vc ∧ IntsAre vc.toList (cutF rows).2.2 ∧ left = ((cutF rows).2.1.length : Int)
def KeepsBut (c : Addr) (s s' : Shared) : Prop := ∃ h' tk, s' = { s with heap := h', toks := tk } ∧ ∀ b o, b ≠ c → s.heap.get? b = some o → h'.get? b = some o
set_option maxRecDepth 100000 in
set_option maxHeartbeats 8000000 in
theorem cut_ok {w : World} {A : Around} {s : Shared} {E : Value → Shared → Prop} {l : Addr} {items : Array Value} {rows : List Str} {g₀ : Heap}
    (R : Room A 6) (G : Gd w g₀) (hg : g₀.get? 113 = none) (hk₀ : ∀ b o, g₀.get? b = some o → s.heap.get? b = some o) (ht : s.heap.get? 113 = some (tabObj #[])) (C₀ : CodeHd g₀ 117 113)
    (hl : s.heap.IsList l items) (hi : StrsAre items.toList rows) (hok : RowsOk rows) (hbd : (cutF rows).2.1.length ≤ 1000) :
    wpAny (model prg w) A (call (.ref 118) [.ref l]) (fun r s' => KeepsBut 113 s s' ∧ CutPost rows r s'.heap) E s := by
  obtain ⟨ha', dp', fr', gd', un'⟩ := A
  obtain rfl : ha' = none := R.hh
  have hdp' : dp' < recursionLimit := Nat.lt_of_le_of_lt (Nat.le_add_right _ _) R.dp
  have hun' : un' < cLine := Nat.lt_of_le_of_lt (Nat.le_add_right _ _) R.un
  have X₀ := G.K
  have hK := kmark
  revert X₀ hK
  k_fill
  intro X₀ hK
  clear hK
  k_dflt (refine' enterG (binds := [(Str.ofString "rows", .ref l)]) R G hg hk₀ ht ?ho ?hcd ?hb ?hl ?hc ?_ ?c1 ?c2 ?c3; (case ho => k_is); (case hcd => k_is); (case hb => exact BindsTo.of_eq rfl); (case hl => exact locs rfl); (case hc => decide); (case c1 => exact rfl); (case c2 => exact rfl); (case c3 => exact rfl))
  intro L h₁ env he R' G' hsub F N hL113
  subst he
  clear X₀
  have X := G'.K
  obtain ⟨loose, mean, mg, mb, T⟩ := G'.T
  have C := C₀.keeps hsub
  (try dsimp only)
  k_steps
  rename_i f9 c9 oc9 vs9 t9 ct9 dc9 h95 tk9 d19 d29 q1 q2 h94 p2 h93 q3 p1 h92 q4 p0 h91 q5 D9 h9 F4 N4 q6
  have hcr : h9.CodeRec (.ref c9) _ := codeRec_news N4 (by k_mem) d19 d29
  have hfn := (N4 (f9, _) (by k_mem)).1
  have hl4 : ∀ {hh : Heap} {mm : Str → Option Value}, Fr (hideAll s.heap [113]) L hh mm → hh.IsList l items := by
    intro hh mm FF
    obtain ⟨o, e, hc, n, hd⟩ := hl
    refine ⟨o, FF.keep _ _ (hideAll_get _ e ?_), hc, n, hd⟩
    simp
    rintro rfl
    rw [ht] at e; cases e
    exact absurd hd (by intro q; cases q)
  refine useFn (reduce_cut w _ l _ items rows hi hok) F4 N4 (R'.less (by omega)) G' ⟨rfl, FnAt.of N4 (by k_mem), hl4 F4, ⟨⟨_, _, _, _, _, _, _, _, by rfl, hfn, hcr⟩, ⟨_, _, _, _, _, _, _, rfl, News.isTup N4 (by k_mem), News.isList N4 (by k_mem), .nil, News.isList N4 (by k_mem), .nil, News.isList N4 (by k_mem), .nil⟩⟩, fun e => absurd (show 113 < 51 from e ▸ q6.2.2.2.2.2) (by decide), _, (N4 (D9, _) (by k_mem)).1⟩ ?_
  rintro r h7 tk7 F7 N7 k7 hst7
  obtain ⟨ta, p, q, c, vp, vq, vc, rfl, h7t, h7p, hps, h7q, hqs, h7c, hcs⟩ := hst7
  have bg7 : Box (GrownAt 113 h7) := ⟨GrownAt.of N7 (by k_mem)⟩
  have bL113 := Box.mk hL113
  have N8 : News (hideAll s.heap [113]) L h7 (restOf (hideAll s.heap [113]) L [] h7) := rest_news
  have F7b := Box.mk F7
  have K7b := Box.mk (show ∀ b o, b ≠ 113 → s.heap.get? b = some o → h7.get? b = some o from fun b o hb e => F7.keep b o (hideAll_get _ e (by simpa using hb)))
  have hqz : vq.size = (cutF rows).2.1.length := by rw [← Array.length_toList]; exact StrsAre.length hqs
  have bqs := Box.mk hqs
  have bcs := Box.mk hcs
  clear N7 N4 hqs hps hcs
  dsimp only
  refine unpackN_ F7 N8 h7t rfl rfl rfl ?_
  intro h8 F8 N9
  clear F7 N8
  k_steps
  rename_i F10 N10
  have h10q := list_rest F7b.out F10 N10 h7q (by simp)
  refine len_list h10q (by rw [hqz]; omega) ?_
  dsimp only
  k_steps
  · rename_i F11 N12 _
    refine ⟨_, _, rfl, fun b o hb e => F11.keep b o (hideAll_get _ e (by simpa using hb))⟩
  · rename_i F11 N12 _
    refine ⟨(let ⟨ps, e⟩ := bg7.out; ⟨ps, rest_kept F7b.out F11 (fun p hp => N12 p (.tail _ hp)) (Nat.ne_of_lt bL113.out) (by simp) e⟩), _, c, vc, _, _, rfl, News.isTup N12 (by k_mem), list_rest F7b.out F11 (fun p hp => N12 p (.tail _ hp)) h7c (by simp), bcs.out, by rw [hqz]⟩
end Mine
end
section
open PySem PySem.W PyProof.Rows PySem.Spec PySem.Calls
namespace Mine
section
variable {prog : Program} {w : World} {A : Around} {s : Shared} {env : Env} {h₀ : Heap}
/-- an iterator with its target: a draw, then the owned tuple let go -/
structure WalkG (prog : Program) (w : World) (A : Around) (target : PySem.Expr) (I : Addr) (fp wr : List Addr) (n : Nat) (P : Nat → Value → Heap → Prop) (St : Nat → Heap → Prop) : Prop where
  sub : ∀ b ∈ wr, b ∈ fp
  frame : ∀ i h h', St i h → (∀ b ∈ fp, ∀ o, h.get? b = some o → h'.get? b = some o) → St i h'
  item : ∀ i (s : Shared) (Q : Value → Shared → Prop), i < n → St i s.heap →
    (∀ v h' tk, P i v h' → St (i + 1) h' → (∀ b o, b ∉ wr → s.heap.get? b = some o → h'.get? b = some o) → Q v { s with heap := h', toks := tk }) →
    wpAny (model prog w) A (pyNext (.ref I)) (fun r s₁ => match r with | none => False | some v => wpAny (model prog w) A (letOwnedTupleGo target (.ref I) v) (fun _ s₂ => Q v s₂) (fun _ _ => False) s₁) (fun _ _ => False) s
  fin : ∀ (s : Shared) (Q : Shared → Prop), St n s.heap → (∀ h' tk, (∀ b o, b ∉ wr → s.heap.get? b = some o → h'.get? b = some o) → Q { s with heap := h', toks := tk }) →
    wpAny (model prog w) A (pyNext (.ref I)) (fun r s₁ => match r with | none => Q s₁ | some _ => False) (fun _ _ => False) s
theorem forG {R : Result → Shared → Prop} {target : PySem.Expr} {body orelse : List Stmt} {I : Addr} {fp wr : List Addr} {n : Nat} {P : Nat → Value → Heap → Prop} {St : Nat → Heap → Prop} {m : Str → Option Value}
    (W : WalkG prog w A target I fp wr n P St)
    (hLf : env.locals ∉ fp) (mt : List Addr) (hmf : ∀ a ∈ mt, a ∉ fp) (hwr : ∀ b ∈ wr, h₀.get? b = none)
    (J : Nat → (Str → Option Value) → Heap → Prop)
    (stable : ∀ i m h h', h.Ns env.locals m → St i h → J i m h → (∀ b o, b ∉ wr → h.get? b = some o → h'.get? b = some o) → J i m h')
    (hst : St 0 s.heap) (F : Fr h₀ env.locals s.heap m) (h0 : J 0 m s.heap)
    (turn : ∀ i v m₁ h₂ tk, i < n → P i v h₂ → J i m₁ h₂ → St (i + 1) h₂ → Fr h₀ env.locals h₂ m₁ → News h₀ env.locals h₂ (restOf h₀ env.locals mt h₂) →
      wpAny (model prog w) A (assign target env v) (fun _ s₂ => wpAny (model prog w) A (execs body env) (TurnH h₀ env.locals mt h₂ (J (i + 1)) s R) (fun _ _ => False) s₂) (fun _ _ => False) { s with heap := h₂, toks := tk })
    (done : ∀ m₁ h₁ tk, Fr h₀ env.locals h₁ m₁ → J n m₁ h₁ → wpAny (model prog w) A (execs orelse env) (fun f s₃ => R (.ok f) s₃) (fun _ _ => False) { s with heap := h₁, toks := tk }) :
    codeAny (model prog w) A (.forLoop target (.ref I) body orelse env) R s := by
  have hLw : env.locals ∉ wr := fun h => hLf (W.sub _ h)
  have old : ∀ b o, h₀.get? b = some o → b ∉ wr := fun b o e hb => by rw [hwr b hb] at e; cases e
  refine codeAny_forLoop_any (fun k s' => ∃ h' tk m' i, s' = { s with heap := h', toks := tk } ∧ St i h' ∧ Fr h₀ env.locals h' m' ∧ J i m' h' ∧ i ≤ n ∧ k = n + 1 - i) ?_ (n + 1)
    ⟨s.heap, s.toks, m, 0, rfl, hst, F, h0, Nat.zero_le _, rfl⟩
  rintro k s' ⟨h', tk, m', i, rfl, hst', F', hJ, hi, rfl⟩
  have next : ∀ h₁ : Heap, (∀ b o, b ∉ wr → h'.get? b = some o → h₁.get? b = some o) → Fr h₀ env.locals h₁ m' ∧ J i m' h₁ := fun h₁ hk₁ =>
    ⟨⟨F'.ns.at' fun o e => hk₁ _ o hLw e, fun b o e => hk₁ b o (old b o e) (F'.keep b o e), F'.above⟩, stable i m' h' h₁ F'.ns hst' hJ hk₁⟩
  by_cases hlt : i < n
  · refine wpAny_mono (W.item i _ (fun v s₂ => wpAny (model prog w) A (assign target env v) (fun _ s₃ => wpAny (model prog w) A (execs body env) (fun f s₃ => match f with
            | .next | .cont => ∃ m, m < n + 1 - i ∧ ∃ h' tk m' i, s₃ = { s with heap := h', toks := tk } ∧ St i h' ∧ Fr h₀ env.locals h' m' ∧ J i m' h' ∧ i ≤ n ∧ m = n + 1 - i
            | .brk => R (.ok .next) s₃
            | .ret v => R (.ok (.ret v)) s₃) (fun _ _ => False) s₃) (fun _ _ => False) s₂) hlt hst' fun v h₂ tk₂ hP hst₂ hk₂ => ?_) (fun r s₁ hr => ?_) fun _ _ e => e.elim
    · obtain ⟨F₂, J₂⟩ := next h₂ hk₂
      refine wpAny_mono (turn i v m' h₂ tk₂ hlt hP J₂ hst₂ F₂ rest_news) (fun _ s₃ h₃ => wpAny_mono h₃ (fun f s₄ h₄ => ?_) fun _ _ e => e) fun _ _ e => e
      have go : ∀ f', TurnH h₀ env.locals mt h₂ (J (i + 1)) s R f' s₄ → (f' = .next ∨ f' = .cont) → ∃ m, m < n + 1 - i ∧ ∃ h' tk m' i, s₄ = { s with heap := h', toks := tk } ∧ St i h' ∧ Fr h₀ env.locals h' m' ∧ J i m' h' ∧ i ≤ n ∧ m = n + 1 - i := by
        intro f' h₃ hf
        have h₃' : ∃ h₃ tk₃ m₃, s₄ = { s with heap := h₃, toks := tk₃ } ∧ Fr h₀ env.locals h₃ m₃ ∧ News h₀ env.locals h₃ (restOf h₀ env.locals mt h₂) ∧ J (i + 1) m₃ h₃ := by
          rcases hf with rfl | rfl <;> exact h₃
        obtain ⟨h₃', tk₃, m₃, rfl, F₃, N₃, J₃⟩ := h₃'
        refine ⟨n + 1 - (i + 1), by omega, h₃', tk₃, m₃, i + 1, rfl, ?_, F₃, J₃, hlt, rfl⟩
        exact W.frame _ _ _ hst₂ fun b hb o e => rest_kept F₂ F₃ N₃ (fun q => hLf (q ▸ hb)) (fun q => hmf b q hb) e
      cases f with
      | ret v => exact h₄
      | brk => exact h₄
      | cont => exact go _ h₄ (.inr rfl)
      | next => exact go _ h₄ (.inl rfl)
    · cases r with
      | none => exact hr.elim
      | some v =>
        exact wpAny_mono hr (fun _ s₂ h₂ => wpAny_mono h₂ (fun _ s₃ h₃ => wpAny_mono h₃ (fun f s₄ h₄ => by cases f <;> exact h₄) fun _ _ e => e.elim) fun _ _ e => e.elim) fun _ _ e => e.elim
  · have hin : i = n := by omega
    subst hin
    refine wpAny_mono (W.fin _ (fun s₁ => wpAny (model prog w) A (execs orelse env) (fun f s₃ => R (.ok f) s₃) (fun _ _ => False) s₁) hst' fun h₁ tk₁ hk₁ => ?_) (fun r s₁ hr => ?_) fun _ _ e => e.elim
    · obtain ⟨F₁, J₁⟩ := next h₁ hk₁
      exact done m' h₁ tk₁ F₁ J₁
    · cases r with
      | none => exact wpAny_mono hr (fun _ _ h => h) fun _ _ e => e.elim
      | some v => exact hr.elim
theorem For_G {Q : Flow → Shared → Prop} {target iter : PySem.Expr} {pos : Pos} {body orelse : List Stmt}
    (h : wpAny (model prog w) A (eval iter env) (fun xv s₁ => wpAny (model prog w) A (pyIter xv) (fun it s₂ =>
      codeAny (model prog w) A (.forLoop target it body orelse env) (fun r s' => match r with | .ok f => Q f s' | .error _ => False) s₂) (fun _ _ => False) s₁) (fun _ _ => False) s)
    (hs : ∀ x, foldedSetIterable iter env x = pure x := by intro _; rfl) :
    wpAny (model prog w) A (exec (.For target iter body orelse pos) env) Q (fun _ _ => False) s := by
  refine wpAny_For (wpAny_mono h (fun xv s₁ h₁ => wpAny_mono h₁ (fun it s₂ h₂ => ?_) fun _ _ e => e) fun _ _ e => e) hs
  refine codeAny_mono h₂ (fun r s' hr => ?_)
  cases r with
  | ok f => exact hr
  | error e => exact hr.elim
/-- a tuple's items, whatever the target -/
theorem WalkG.tuple (hh : A.handled = none) (target : PySem.Expr) (I t : Addr) (hne : t ≠ I) (items : Array Value) :
    WalkG prog w A target I [I, t] [I] items.size (fun i v _ => items[i]? = some v) (fun i h => h.IsTupleIter I t i ∧ h.IsTuple t items) where
  sub := fun b hb => by simp at hb; simp [hb]
  frame := fun i h h' st hk => ⟨let ⟨o, ho, r⟩ := st.1; ⟨o, hk I (by simp) o ho, r⟩, let ⟨o, ho, r⟩ := st.2; ⟨o, hk t (by simp) o ho, r⟩⟩
  item := fun i s Q hi st hQ => by
    refine wpAny_pyNext_tuple_item st.1 st.2 (x := items[i]) (by simp [hi]) fun h' hit' hs' => ?_
    obtain ⟨o, ho, hc, hd⟩ := id hit'
    have fin := hQ items[i] h' s.toks (by simp [hi]) ⟨hit', st.2.extBut hs'.extBut hne⟩ fun b o hb e => hs'.extBut b o (fun h => hb (by simp [h])) e
    show wpAny _ _ (letOwnedTupleGo target (.ref I) items[i]) _ _ _
    generalize items[i] = v at fin ⊢
    unfold letOwnedTupleGo
    split
    · cases v with
      | ref a =>
        refine wpAny_bind (wpAny_load ho ?_)
        rw [hc, hd]
        exact wpAny_pure fin
      | _ => exact wpAny_pure fin
    · cases v with
      | ref a =>
        refine wpAny_bind (wpAny_load ho ?_)
        rw [hc, hd]
        exact wpAny_pure fin
      | _ => exact wpAny_pure fin
    · exact wpAny_pure fin
  fin := fun s Q st hQ => wpAny_pyNext_tuple_end hh st.1 st.2 (by simp) fun h' he' => hQ h' s.toks fun b o hb e => he' b o (fun h => hb (by simp [h])) e
end
end Mine
end
section
open PySem PySem.W PyProof.Rows PySem.Spec PySem.Calls
namespace Mine
set_option maxRecDepth 100000
section
variable {prog : Program} {w : World} {A : Around} {E : Value → Shared → Prop} {s : Shared}
theorem nextOf_tup_item {it t : Addr} {i : Nat} {items : Array Value} {x : Value} {Q : Value → Shared → Prop} (hit : s.heap.IsTupleIter it t i) (ht : s.heap.IsTuple t items) (hx : items[i]? = some x)
    (hQ : ∀ h', h'.IsTupleIter it t (i + 1) → Heap.SameBut it s.heap h' → Q x { s with heap := h' }) :
    wpAny (model prog w) A (Builtin.SmallTypes.nextOf (.ref it)) Q E s := by
  obtain ⟨o, ho, hc, hd⟩ := id hit
  obtain ⟨ol, hol, _, nl, hdl⟩ := ht
  unfold Builtin.SmallTypes.nextOf
  refine wpAny_bind (wpAny_callSpecial?_slot (name := Str.ofString "__next__") hit.typeIs F.slot_tuple_iterator_next
    (wpAny_call_entry F.slot_tuple_iterator_next hit.typeIs F.entry_tuple_iterator_next ?_ (F.args_tuple_iterator_next_1 _)))
  show wpAny _ _ (field (.ref it) 0 >>= _) _ _ s
  refine wpAny_bind (wpAny_field ho hd (x := .ref t) rfl ?_)
  show wpAny _ _ (if (Value.ref t == Value.none) = true then _ else _) _ _ s
  rw [if_neg (show ¬ ((Value.ref t == Value.none) = true) from Bool.false_ne_true)]
  show wpAny _ _ (field (.ref it) 1 >>= _) _ _ s
  refine wpAny_bind (wpAny_field ho hd (x := .int i 0) rfl ?_)
  show wpAny _ _ (seqItems? (.ref t) >>= _) _ _ s
  refine wpAny_bind (wpAny_seqItems hol hdl ?_)
  simp only [Int.toNat_natCast, hx]
  refine wpAny_bind (wpAny_setField ho hd (by simp) (wpAny_pure ⟨x, rfl, wpAny_pure (hQ _ ?_ (Heap.SameBut.update ..))⟩))
  exact ⟨_, Heap.get?_update_self _ ho (Obj.isFreed_of_fields (Obj.data_mapFields hd _)), (Obj.cls_mapFields ..).trans hc, by
    rw [Obj.data_mapFields hd]; simp [rawInt]⟩
theorem nextOf_tup_end {it t : Addr} {i : Nat} {items : Array Value} {Q : Value → Shared → Prop} (hh : A.handled = none)
    (hit : s.heap.IsTupleIter it t i) (ht : s.heap.IsTuple t items) (hx : items[i]? = none)
    (hE : ∀ h' e, Heap.ExtBut it s.heap h' → (∃ o, h'.get? e = some o ∧ o.cls = .type "StopIteration") → E (.ref e) { s with heap := h' }) :
    wpAny (model prog w) A (Builtin.SmallTypes.nextOf (.ref it)) Q E s := by
  obtain ⟨o, ho, hc, hd⟩ := id hit
  obtain ⟨ol, hol, _, nl, hdl⟩ := ht
  unfold Builtin.SmallTypes.nextOf
  refine wpAny_bind (wpAny_callSpecial?_slot (name := Str.ofString "__next__") hit.typeIs F.slot_tuple_iterator_next
    (wpAny_call_entry F.slot_tuple_iterator_next hit.typeIs F.entry_tuple_iterator_next ?_ (F.args_tuple_iterator_next_1 _)))
  show wpAny _ _ (field (.ref it) 0 >>= _) _ _ s
  refine wpAny_bind (wpAny_field ho hd (x := .ref t) rfl ?_)
  show wpAny _ _ (if (Value.ref t == Value.none) = true then _ else _) _ _ s
  rw [if_neg (show ¬ ((Value.ref t == Value.none) = true) from Bool.false_ne_true)]
  show wpAny _ _ (field (.ref it) 1 >>= _) _ _ s
  refine wpAny_bind (wpAny_field ho hd (x := .int i 0) rfl ?_)
  show wpAny _ _ (seqItems? (.ref t) >>= _) _ _ s
  refine wpAny_bind (wpAny_seqItems hol hdl ?_)
  simp only [Int.toNat_natCast, hx]
  refine wpAny_bind (wpAny_rule (wpAny_bind (wpAny_setField ho hd (by simp) ?_)))
  show wpAny _ _ (newExc (.type "StopIteration") [] >>= _) _ _ _
  refine wpAny_bind ?_
  simp only [newExc, newTuple]
  refine wpAny_bind (wpAny_newObj_type ?_ (by size_fits))
  refine wpAny_bind (m := firstArgMember _ _) (wpAny_of_eq (a := Value.none) (by first | rfl | (simp only [firstArgMember]; rfl)) ?_)
  refine wpAny_newObj_type ?_ (by size_fits)
  simp only [raiseNew]
  refine wpAny_bind (wpAny_handled ?_)
  first | rw [show A.in1.handled = none from hh] | rw [hh]
  refine wpAny_bind (wpAny_pure (wpAny_throw ?_))
  exact hE _ _ (((Heap.SameBut.update ..).extBut.push _).push _) ⟨_, Heap.get?_push_size _ rfl, rfl⟩
theorem enumT_item {e it l : Addr} {i : Nat} {items : Array Value} {x old : Value} {Q : Value → Shared → Prop}
    (he : IsEnum s.heap e it i old) (hit : s.heap.IsTupleIter it l i) (hl : s.heap.IsTuple l items) (hx : items[i]? = some x) (hne : e ≠ it)
    (hQ : ∀ h', IsEnumOut h' e it ((i : Int) + 1) x s.heap.objs.size → h'.IsTupleIter it l (i + 1) →
      h'.get? s.heap.objs.size = some { cls := .type "tuple", data := .seq #[.int i s.toks, x] } →
      (∀ b o, b ≠ e → b ≠ it → s.heap.get? b = some o → h'.get? b = some o) → Q (.ref s.heap.objs.size) { s with heap := h', toks := s.toks + 1 }) :
    wpAny (model prog w) A (Builtin.«enumerate.__next__» ⟨[.ref e], []⟩) (fun fin s' => ∃ v, fin = .done (.ret v) ∧ Q v s') E s := by
  obtain ⟨hp, g, d, tk, os⟩ := s
  show wpAny _ _ (field (.ref e) 2 >>= _) _ _ _
  refine wpAny_bind (wpAny_field he rfl (x := .ref it) rfl ?_)
  refine wpAny_bind (nextOf_tup_item hit hl hx fun h₁ hit₁ hs₁ => ?_)
  replace hs₁ : Heap.SameBut it hp h₁ := hs₁
  have he₁ : IsEnum h₁ e it i old := (hs₁.2 e hne).trans he
  show wpAny _ _ (field (.ref e) 3 >>= _) _ _ ⟨h₁, g, d, tk, os⟩
  refine wpAny_bind (wpAny_field he₁ rfl (x := rawInt i) rfl ?_)
  show wpAny _ _ (field (.ref e) 4 >>= _) _ _ ⟨h₁, g, d, tk, os⟩
  refine wpAny_bind (wpAny_field he₁ rfl (x := .none) rfl ?_)
  show wpAny _ _ (mkInt i >>= _) _ _ ⟨h₁, g, d, tk, os⟩
  refine wpAny_bind (wpAny_mkInt ?_)
  show wpAny _ _ (setField (.ref e) 3 (rawInt ((i : Int) + 1)) >>= _) _ _ ⟨h₁, g, d, tk + 1, os⟩
  refine wpAny_bind (wpAny_setField_rec he₁ (by simp) fun h₂ he₂ hs₂ => ?_)
  replace hs₂ : Heap.SameBut e h₁ h₂ := hs₂
  replace he₂ : IsEnum h₂ e it ((i : Int) + 1) old := he₂
  show wpAny _ _ (setField (.ref e) 4 .none >>= _) _ _ ⟨h₂, g, d, tk + 1, os⟩
  refine wpAny_bind (wpAny_setField_rec he₂ (by simp) fun h₃ he₃ hs₃ => ?_)
  replace hs₃ : Heap.SameBut e h₂ h₃ := hs₃
  replace he₃ : IsEnum h₃ e it ((i : Int) + 1) old := he₃
  show wpAny _ _ (newTuple [.int i tk, x] >>= _) _ _ ⟨h₃, g, d, tk + 1, os⟩
  refine wpAny_bind (wpAny_newTuple ?_)
  have he₄ : IsEnum (h₃.push { cls := .type "tuple", data := .seq #[.int i tk, x] }) e it ((i : Int) + 1) old := Heap.get?_push_of_some _ he₃
  generalize hh₄ : h₃.push { cls := .type "tuple", data := .seq #[.int i tk, x] } = h₄ at he₄
  have hsz : h₃.objs.size = hp.objs.size := by rw [hs₃.1, hs₂.1, hs₁.1]
  have hel : e < hp.objs.size := Heap.lt_size he
  have ht₄ : h₄.get? hp.objs.size = some { cls := .type "tuple", data := .seq #[.int i tk, x] } := by rw [← hh₄, ← hsz]; exact Heap.get?_push_size _ rfl
  have hk₄ : ∀ b o, b ≠ e → b ≠ it → hp.get? b = some o → h₄.get? b = some o := fun b o hbe hbi hb => by
    rw [← hh₄]; exact Heap.get?_push_of_some _ (hs₃.extBut b o hbe (hs₂.extBut b o hbe (hs₁.extBut b o hbi hb)))
  have hit₄ : h₄.IsTupleIter it l (i + 1) := by
    rw [← hh₄]; obtain ⟨o, ho, r⟩ := (hit₁.extBut hs₂.extBut (Ne.symm hne)).extBut hs₃.extBut (Ne.symm hne); exact ⟨o, Heap.get?_push_of_some _ ho, r⟩
  show wpAny _ _ (Builtin.SmallTypes.ownedTupleIsFree (.ref e) >>= _) _ _ ⟨h₄, g, d, tk + 1, os⟩
  rw [hsz]
  clear hh₄ he₃ hs₃ he₂ hs₂ he₁ hs₁ hit₁ hsz h₃ h₂ h₁
  refine wpAny_bind ?_
  · unfold Builtin.SmallTypes.ownedTupleIsFree
    refine wpAny_bind (wpAny_field he₄ rfl (x := .none) rfl (wpAny_pure ?_))
    simp only [if_true]
    refine wpAny_bind (wpAny_rule ?_)
    refine wpAny_bind (wpAny_field he₄ rfl (x := old) rfl ?_)
    refine wpAny_bind (wpAny_setField_rec he₄ (by simp) fun h₅ he₅ hs₅ => ?_)
    replace hs₅ : Heap.SameBut e h₄ h₅ := hs₅
    replace he₅ : IsEnum h₅ e it ((i : Int) + 1) x := he₅
    show wpAny _ _ (Builtin.SmallTypes.ownedTupleHandOut (.ref e) (.ref hp.objs.size) >>= _) _ _ ⟨h₅, g, d, tk + 1, os⟩
    refine wpAny_bind ?_
    · unfold Builtin.SmallTypes.ownedTupleHandOut
      refine wpAny_bind (wpAny_setField_rec he₅ (by simp) fun h₆ he₆ hs₆ => ?_)
      replace hs₆ : Heap.SameBut e h₅ h₆ := hs₆
      replace he₆ : IsEnumOut h₆ e it ((i : Int) + 1) x hp.objs.size := he₆
      refine wpAny_setField_rec he₆ (by simp) fun h₇ he₇ hs₇ => ?_
      replace hs₇ : Heap.SameBut e h₆ h₇ := hs₇
      replace he₇ : IsEnumOut h₇ e it ((i : Int) + 1) x hp.objs.size := he₇
      refine wpAny_bind (wpAny_letGo (wpAny_pure ⟨_, rfl, hQ h₇ he₇ ?_ ?_ ?_⟩))
      · exact ((hit₄.extBut hs₅.extBut (Ne.symm hne)).extBut hs₆.extBut (Ne.symm hne)).extBut hs₇.extBut (Ne.symm hne)
      · exact hs₇.extBut _ _ (Nat.ne_of_gt hel) (hs₆.extBut _ _ (Nat.ne_of_gt hel) (hs₅.extBut _ _ (Nat.ne_of_gt hel) ht₄))
      · exact fun b o hbe hbi hb => hs₇.extBut b o hbe (hs₆.extBut b o hbe (hs₅.extBut b o hbe (hk₄ b o hbe hbi hb)))
/-- enumerate over a tuple, a pair for a target -/
theorem WalkG.enumT (hh : A.handled = none) (elts : List PySem.Expr) (x1 : Nat) (pos : Pos) (e it t : Addr) (hei : e ≠ it) (hte : t ≠ e) (hti : t ≠ it) (items : Array Value) :
    WalkG prog w A (.Tuple elts x1 pos) e [e, it, t] [e, it] items.size (fun i v h => ∃ T tk x, v = .ref T ∧ items[i]? = some x ∧ IsTup h T #[.int i tk, x])
      (fun i h => (∃ old, IsEnum h e it i old) ∧ h.IsTupleIter it t i ∧ h.IsTuple t items) where
  sub := fun b hb => by simp at hb ⊢; rcases hb with rfl | rfl <;> simp
  frame := fun i h h' st hk => ⟨let ⟨old, he⟩ := st.1; ⟨old, hk e (by simp) _ he⟩, let ⟨o, ho, r⟩ := st.2.1; ⟨o, hk it (by simp) o ho, r⟩, let ⟨o, ho, r⟩ := st.2.2; ⟨o, hk t (by simp) o ho, r⟩⟩
  item := fun i s Q hi st hQ => by
    obtain ⟨⟨old, he⟩, hit, ht⟩ := st
    have hT : s.TypeIs (.ref e) "enumerate" := ⟨_, he, rfl⟩
    unfold pyNext
    refine wpAny_bind (wpAny_attempt (wpAny_callSpecial?_slot (name := Str.ofString "__next__") hT F.slot_enumerate_next
      (wpAny_call_entry F.slot_enumerate_next hT F.entry_enumerate_next
        (enumT_item he hit ht (x := items[i]) (by simp [hi]) hei fun h₁ heo hit₁ ht₁ hk₁ => wpAny_pure ?_) (F.args_enumerate_next_1 _))))
    show wpAny _ _ (letOwnedTupleGo _ (.ref e) _) _ _ _
    refine wpAny_letOwnedTupleGo_enum heo fun h₂ he₂ hs₂ => ?_
    replace hs₂ : Heap.SameBut e h₁ h₂ := hs₂
    have heH : e < s.heap.objs.size := Heap.lt_size he
    refine hQ _ h₂ (s.toks + 1) ⟨_, s.toks, items[i], rfl, by simp [hi], _, (hs₂.2 _ (Nat.ne_of_gt heH)).trans ht₁, rfl, _, rfl⟩ ⟨⟨_, he₂⟩, hit₁.extBut hs₂.extBut (Ne.symm hei), ?_⟩ ?_
    · obtain ⟨o, ho, r⟩ := ht
      exact ⟨o, (hs₂.2 _ hte).trans (hk₁ _ _ hte hti ho), r⟩
    · intro b o hb eb
      simp at hb
      exact (hs₂.2 _ hb.1).trans (hk₁ _ _ hb.1 hb.2 eb)
  fin := fun s Q st hQ => by
    obtain ⟨⟨old, he⟩, hit, ht⟩ := st
    have hT : s.TypeIs (.ref e) "enumerate" := ⟨_, he, rfl⟩
    unfold pyNext
    refine wpAny_bind (wpAny_attempt (wpAny_callSpecial?_slot (name := Str.ofString "__next__") hT F.slot_enumerate_next
      (wpAny_call_entry F.slot_enumerate_next hT F.entry_enumerate_next ?_ (F.args_enumerate_next_1 _))))
    show wpAny _ _ (field (.ref e) 2 >>= _) _ _ _
    refine wpAny_bind (wpAny_field he rfl (x := .ref it) rfl ?_)
    refine wpAny_bind (nextOf_tup_end hh hit ht (by simp) fun h' x he' hx' => ?_)
    obtain ⟨o, ho, hc⟩ := hx'
    refine wpAny_bind (wpAny_isInstance (T := "StopIteration") (b := true) ⟨o, ho, hc⟩ isSubtype_stop ?_)
    exact wpAny_pure (hQ _ _ fun b o hb eb => he' b o (by simp at hb; exact hb.2) eb)
end
open AutoSeq1 (wpAny_loadPart') in
theorem meets_enum_tuple (l : Addr) (items : Array Value) (n : Nat) (dct : Option Addr) (sl : Array (Option Value)) :
    Meets (Builtin.«enumerate.__new__» ⟨[.type "enumerate", .ref l], []⟩) (fun _ R s => s.heap.get? l = some { cls := .type "tuple", dict := dct, data := .seq items n, slots := sl } ∧
      R (.ok (.ret (.ref (s.heap.push { cls := .type "tuple_iterator", data := .fields #[.ref l, .int 0 0] }).objs.size)))
        { s with heap := (s.heap.push { cls := .type "tuple_iterator", data := .fields #[.ref l, .int 0 0] }).push { cls := .type "enumerate", data := .fields #[.none, .bool false, .ref s.heap.objs.size, rawInt 0, .none, .none] } }) :=
  .of_wp fun prog w A R s h => by
    obtain ⟨hp, g, d, tk, os⟩ := s; obtain ⟨hl, h⟩ := h
    have hsub := sub_enumerate
    have hL : Heap.IsTuple (Shared.heap ⟨hp, g, d, tk, os⟩) l items := ⟨_, hl, rfl, n, rfl⟩
    wp_walk using wpAny_loadPart' hl
    refine wpAny_stack_any fun st => wpAny_pure ?_
    split
    · rename_i c _ _ _ _ _
      cases (c == Value.type "enumerate")
      · wp_walk using wpAny_loadPart' hl, wpAny_pyIter_tuple hL
        exact ⟨_, rfl, h⟩
      · wp_walk using wpAny_loadPart' hl, wpAny_pyIter_tuple hL
        exact ⟨_, rfl, h⟩
    · wp_walk using wpAny_loadPart' hl, wpAny_pyIter_tuple hL
      exact ⟨_, rfl, h⟩
theorem call_enum_tuple {prog : Program} {w : World} {A : Around} {E : Value → Shared → Prop} {s : Shared} {l : Addr} {items : Array Value} {Q : Value → Shared → Prop} {h₀ : Heap} {L : Addr} {m : Str → Option Value} {news : List (Addr × Obj)}
    (FF : Fr h₀ L s.heap m) (N : News h₀ L s.heap news) (hL : s.heap.IsTuple l items)
    (h : ∀ e it h', Fr h₀ L h' m → News h₀ L h' ((e, { cls := .type "enumerate", data := .fields #[.none, .bool false, .ref it, rawInt 0, .none, .none] }) :: (it, { cls := .type "tuple_iterator", data := .fields #[.ref l, .int 0 0] }) :: news) →
      s.heap.get? e = none → s.heap.get? it = none → e ≠ it → (∀ b o, s.heap.get? b = some o → h'.get? b = some o) → Q (.ref e) { s with heap := h' }) :
    wpAny (model prog w) A (call (.type "enumerate") [.ref l]) Q E s := by
  obtain ⟨⟨c, dct, dt, sl⟩, hl, hc, n, hd⟩ := hL
  replace hc : c = .type "tuple" := hc
  replace hd : dt = .seq items n := hd
  subst hc hd
  refine callType_new F.called_enumerate (by decide) (F.typeCall_enumerate_1 _) (F.newCall_enumerate_1 _) (fun obj => F.args_object_init_2 obj _) F.entry_enumerate_new
    (meets_enum_tuple l items n dct sl) ⟨hl, ?_⟩
  have hz : (s.heap.push { cls := .type "tuple_iterator", data := .fields #[.ref l, .int 0 0] }).objs.size = s.heap.objs.size + 1 := Heap.size_push ..
  refine ⟨⟨_, Heap.get?_push_size _ rfl, rfl⟩, ?_⟩
  refine h _ s.heap.objs.size _ ((FF.push _).push _) ((N.push FF _).push (FF.push _) _) (Heap.get?_none_of_le (by rw [hz]; omega)) (Heap.get?_none_of_le (Nat.le_refl _)) (by rw [hz]; exact Nat.succ_ne_self _) fun b o x => Heap.get?_push_of_some _ (Heap.get?_push_of_some _ x)
end Mine
end
section
open PySem PySem.W PyProof.Rows PySem.Spec PySem.Calls
namespace Mine
def IntIs (r : Value) (n : Int) : Prop := ∃ tk, r = .int n tk
def StrIs (r : Value) (x : Str) : Prop := ∃ tk, r = .str x tk
set_option maxRecDepth 100000 in
set_option maxHeartbeats 1000000 in
theorem sifmt_ok (w : World) (md : Int) (t : Tok) : Fn w 66 1 (fun _ vs => vs = [.int md t]) (fun _ _ r _ => IntIs r (Builtin.bitAnd md 61440)) := by
  intro A s vs E R G hp
  obtain ⟨ha', dp', fr', gd', un'⟩ := A
  obtain rfl : ha' = none := R.hh
  have hdp' : dp' < recursionLimit := Nat.lt_of_le_of_lt (Nat.le_add_right _ _) R.dp
  have hun' : un' < cLine := Nat.lt_of_le_of_lt (Nat.le_add_right _ _) R.un
  have X := G.K
  have hK := kmark
  revert X hK
  k_fill
  intro X hK
  clear hK
  obtain ⟨loose, mean, mg, mb, T⟩ := G.T
  obtain rfl := hp
  k_dflt (refine' enterP (binds := [(Str.ofString "mode", .int md t)]) R G ?ho ?hcd ?hb ?hl ?hc ?_ ?c1 ?c2 ?c3; (case ho => k_is); (case hcd => k_is); (case hb => exact BindsTo.of_eq rfl); (case hl => exact locs rfl); (case hc => decide); (case c1 => exact rfl); (case c2 => exact rfl); (case c3 => exact rfl))
  intro L h₁ env he R' F N
  subst he
  (try dsimp only)
  k_steps
  · exact keeps_of (by assumption)
  · exact ⟨_, rfl⟩
end Mine
end
section
open PySem PySem.W PyProof.Rows PySem.Spec PySem.Calls
namespace Mine
def fmTabs : List (List (Int × Str)) :=
  [[(40960, Str.ofString "l"), (49152, Str.ofString "s"), (32768, Str.ofString "-"), (24576, Str.ofString "b"), (16384, Str.ofString "d"), (8192, Str.ofString "c"), (4096, Str.ofString "p")],
   [(256, Str.ofString "r")], [(128, Str.ofString "w")], [(2112, Str.ofString "s"), (2048, Str.ofString "S"), (64, Str.ofString "x")],
   [(32, Str.ofString "r")], [(16, Str.ofString "w")], [(1032, Str.ofString "s"), (1024, Str.ofString "S"), (8, Str.ofString "x")],
   [(4, Str.ofString "r")], [(2, Str.ofString "w")], [(513, Str.ofString "t"), (512, Str.ofString "T"), (1, Str.ofString "x")]]
abbrev fmRefs : Array Value := #[Value.ref 74, Value.ref 76, Value.ref 78, Value.ref 82, Value.ref 84, Value.ref 86, Value.ref 90, Value.ref 92, Value.ref 94, Value.ref 98]
def TabIs (h : Heap) (a : Addr) (l : List (Int × Str)) : Prop :=
  ∃ refs : Array Value, IsTup h a refs ∧ refs.size = l.length ∧ ∀ (j : Nat) (v : Value), refs[j]? = some v → ∃ p b c tb tc, v = Value.ref p ∧ l[j]? = some (b, c) ∧ IsTup h p #[.int b tb, .str c tc]
inductive PairsAre (h : Heap) : List Value → List (Int × Str) → Prop
  | nil : PairsAre h [] []
  | cons {p : Addr} {b : Int} {c : Str} {tb tc : Tok} {vs : List Value} {l : List (Int × Str)} : IsTup h p #[.int b tb, .str c tc] → PairsAre h vs l → PairsAre h (.ref p :: vs) ((b, c) :: l)
theorem PairsAre.length {h : Heap} : ∀ {vs : List Value} {l : List (Int × Str)}, PairsAre h vs l → vs.length = l.length
  | _, _, .nil => rfl
  | _, _, .cons _ r => by simp [r.length]
theorem PairsAre.at {h : Heap} : ∀ {vs : List Value} {l : List (Int × Str)}, PairsAre h vs l → ∀ (j : Nat) (v : Value), vs[j]? = some v → ∃ p b c tb tc, v = Value.ref p ∧ l[j]? = some (b, c) ∧ IsTup h p #[.int b tb, .str c tc]
  | _, _, .cons (p := p) (b := b) (c := c) (tb := tb) (tc := tc) t _, 0, v, e => ⟨p, b, c, tb, tc, by simpa using e.symm, rfl, t⟩
  | _, _, .cons _ r, j + 1, v, e => by
    obtain ⟨p, b, c, tb, tc, h1, h2, h3⟩ := r.at j v (by simpa using e)
    exact ⟨p, b, c, tb, tc, h1, by simpa using h2, h3⟩
theorem tab_of {h : Heap} {a : Addr} {vs : List Value} {l : List (Int × Str)} (ht : IsTup h a vs.toArray) (x : PairsAre h vs l) : TabIs h a l :=
  ⟨vs.toArray, ht, by simp [x.length], fun j v e => x.at j v (by simpa using e)⟩
set_option maxRecDepth 100000 in
theorem pairK {w : World} {h : Heap} {a : Addr} {b : Int} {c : Str} {tb tc : Tok} (X : (hd.heap_39 w.params).In h) (e : (hd.heap_39 w.params).lookup a = some { cls := .type "tuple", data := .seq #[.int b tb, .str c tc] }) : IsTup h a #[.int b tb, .str c tc] :=
  ⟨_, X a _ e, rfl, 0, rfl⟩
theorem tupK' {w : World} {h : Heap} {a : Addr} {vs : List Value} (X : (hd.heap_39 w.params).In h) (e : (hd.heap_39 w.params).lookup a = some { cls := .type "tuple", data := .seq vs.toArray }) : IsTup h a vs.toArray :=
  ⟨_, X a _ e, rfl, 0, rfl⟩
set_option maxRecDepth 100000 in
theorem fm_tabs {w : World} {h : Heap} (X : (hd.heap_39 w.params).In h) (i : Nat) (x : Value)
    (hx : fmRefs[i]? = some x) :
    ∃ a, x = .ref a ∧ TabIs h a (fmTabs.getD i []) := by
  match i, hx with
  | 0, hx => cases hx; exact ⟨_, rfl, tab_of (vs := [.ref 67, .ref 68, .ref 69, .ref 70, .ref 71, .ref 72, .ref 73]) (tupK' X (by rfl)) (.cons (pairK X (by rfl)) (.cons (pairK X (by rfl)) (.cons (pairK X (by rfl)) (.cons (pairK X (by rfl)) (.cons (pairK X (by rfl)) (.cons (pairK X (by rfl)) (.cons (pairK X (by rfl)) .nil)))))))⟩
  | 1, hx => cases hx; exact ⟨_, rfl, tab_of (vs := [.ref 75]) (tupK' X (by rfl)) (.cons (pairK X (by rfl)) .nil)⟩
  | 2, hx => cases hx; exact ⟨_, rfl, tab_of (vs := [.ref 77]) (tupK' X (by rfl)) (.cons (pairK X (by rfl)) .nil)⟩
  | 3, hx => cases hx; exact ⟨_, rfl, tab_of (vs := [.ref 79, .ref 80, .ref 81]) (tupK' X (by rfl)) (.cons (pairK X (by rfl)) (.cons (pairK X (by rfl)) (.cons (pairK X (by rfl)) .nil)))⟩
  | 4, hx => cases hx; exact ⟨_, rfl, tab_of (vs := [.ref 83]) (tupK' X (by rfl)) (.cons (pairK X (by rfl)) .nil)⟩
  | 5, hx => cases hx; exact ⟨_, rfl, tab_of (vs := [.ref 85]) (tupK' X (by rfl)) (.cons (pairK X (by rfl)) .nil)⟩
  | 6, hx => cases hx; exact ⟨_, rfl, tab_of (vs := [.ref 87, .ref 88, .ref 89]) (tupK' X (by rfl)) (.cons (pairK X (by rfl)) (.cons (pairK X (by rfl)) (.cons (pairK X (by rfl)) .nil)))⟩
  | 7, hx => cases hx; exact ⟨_, rfl, tab_of (vs := [.ref 91]) (tupK' X (by rfl)) (.cons (pairK X (by rfl)) .nil)⟩
  | 8, hx => cases hx; exact ⟨_, rfl, tab_of (vs := [.ref 93]) (tupK' X (by rfl)) (.cons (pairK X (by rfl)) .nil)⟩
  | 9, hx => cases hx; exact ⟨_, rfl, tab_of (vs := [.ref 95, .ref 96, .ref 97]) (tupK' X (by rfl)) (.cons (pairK X (by rfl)) (.cons (pairK X (by rfl)) (.cons (pairK X (by rfl)) .nil)))⟩
  | n + 10, hx => simp [fmRefs] at hx
def fmHit (md : Int) (i : Nat) (p : Int × Str) : Bool := if i = 0 then decide (Builtin.bitAnd md 61440 = p.1) else decide (Builtin.bitAnd md p.1 = p.1)
def fmAt (md : Int) (i : Nat) (l : List (Int × Str)) : Str :=
  match l.find? (fmHit md i) with
  | some p => p.2
  | none => if i = 0 then Str.ofString "?" else Str.ofString "-"
theorem tabs_len : ∀ l ∈ fmTabs, ∀ p ∈ l, p.2.length = 1 := by decide +kernel
theorem fmAt_len {md : Int} {i : Nat} : (fmAt md i (fmTabs.getD i [])).length = 1 := by
  unfold fmAt
  split
  · rename_i p hp
    have hm := List.mem_of_find?_eq_some hp
    by_cases hi : i < fmTabs.length
    · rw [List.getD_eq_getElem?_getD, List.getElem?_eq_getElem hi] at hm
      exact tabs_len _ (List.getElem_mem hi) p hm
    · rw [List.getD_eq_getElem?_getD, List.getElem?_eq_none (by omega)] at hm
      cases hm
  · split <;> decide +kernel
def fmChars (md : Int) : List Str := (List.range 10).map fun i => fmAt md i (fmTabs.getD i [])
theorem chars_sum (md : Int) : ((fmChars md).map (·.length)).sum = 10 := by
  unfold fmChars
  simp only [List.map_map]
  have : ((fun x : Str => x.length) ∘ fun i => fmAt md i (fmTabs.getD i [])) = fun _ => 1 := by
    funext i; exact fmAt_len
  rw [this]; rfl
end Mine
end
section
open PySem PySem.W PyProof.Rows PySem.Spec PySem.Calls
namespace Mine
def FM (md : Int) : Str := Txt.join (Str.ofString "") (fmChars md)
def PermIs (h : Heap) (pl : Addr) (cs : List Str) : Prop := ∃ vs n, h.get? pl = some (W.listOf vs.toArray n) ∧ StrsAre vs cs
theorem obj_ne {h : Heap} {a b : Addr} {o o' : Obj} (ha : h.get? a = some o) (hb : h.get? b = some o') (hc : o.cls ≠ o'.cls) : a ≠ b := by
  rintro rfl
  rw [ha] at hb
  exact hc (congrArg Obj.cls (Option.some.inj hb))
theorem mapEx {h₀ h : Heap} {L : Addr} {m : Str → Option Value} {x : Str} {v : Value} (F : Fr h₀ L h m) (hm : m x = some v) : Fr h₀ L h (fun y => if y = x then some v else m y) := by
  have e : (fun y => if y = x then some v else m y) = m := by
    funext y
    by_cases h : y = x
    · subst h; simp [hm]
    · simp [h]
  rw [e]; exact F
theorem mapEx2 {h₀ h : Heap} {L : Addr} {m : Str → Option Value} {x1 x2 : Str} {v1 v2 : Value} (F : Fr h₀ L h m) (h1 : m x1 = some v1) (h2 : m x2 = some v2) :
    Fr h₀ L h (fun y => if y = x1 then some v1 else if y = x2 then some v2 else m y) := by
  have e : (fun y => if y = x1 then some v1 else if y = x2 then some v2 else m y) = m := by
    funext y
    by_cases h : y = x1
    · subst h; simp [h1]
    · by_cases h' : y = x2
      · subst h'; simp [h, h2]
      · simp [h, h']
  rw [e]; exact F
theorem mapEx3 {h₀ h : Heap} {L : Addr} {m : Str → Option Value} {x1 x2 x3 : Str} {v1 v2 v3 : Value} (F : Fr h₀ L h m) (h1 : m x1 = some v1) (h2 : m x2 = some v2) (h3 : m x3 = some v3) :
    Fr h₀ L h (fun y => if y = x1 then some v1 else if y = x2 then some v2 else if y = x3 then some v3 else m y) := by
  have e : (fun y => if y = x1 then some v1 else if y = x2 then some v2 else if y = x3 then some v3 else m y) = m := by
    funext y
    by_cases h : y = x1
    · subst h; simp [h1]
    · by_cases h' : y = x2
      · subst h'; simp [h, h2]
      · by_cases h'' : y = x3
        · subst h''; simp [h, h', h3]
        · simp [h, h', h'']
  rw [e]; exact F
theorem append_rest {prog : Program} {w : World} {A : Around} {E : Value → Shared → Prop} {s : Shared} {h₀ : Heap} {L pl : Addr} {m : Str → Option Value} {its : Array Value} {n : Nat} {nw : List (Addr × Obj)} {x : Value} {Q : Value → Shared → Prop}
    (F : Fr h₀ L s.heap m) (N : News h₀ L s.heap ((pl, W.listOf its n) :: nw)) (off : ∀ p ∈ nw, p.1 ∉ [pl]) (hsz : its.size ≤ sizeLine)
    (h : ∀ h', Fr h₀ L h' m → News h₀ L h' ((pl, W.listOf (its.push x) (n + 1)) :: nw) → Q .none { s with heap := h' }) :
    wpAny (model prog w) A (call (.builtin "list.append") [.ref pl, x]) Q E s :=
  append_K F N (Upd.head fun q hq e => off q hq (by simp [e])) h hsz
theorem find_at {α : Type} {P : α → Bool} : ∀ {l : List α} {j : Nat} {x : α}, (∀ j' q, j' < j → l[j']? = some q → P q = false) → l[j]? = some x → P x = true → l.find? P = some x
  | [], _, _, _, h, _ => by simp at h
  | a :: r, 0, x, _, h, hx => by simp at h; subst h; simp [hx]
  | a :: r, j + 1, x, h0, h, hx => by
    have ha : P a = false := h0 0 a (Nat.succ_pos _) rfl
    rw [List.find?_cons, ha]
    exact find_at (fun j' q hj hq => h0 (j' + 1) q (Nat.succ_lt_succ hj) (by simpa using hq)) (by simpa using h) hx
theorem find_no {α : Type} {P : α → Bool} {l : List α} (h : ∀ j' q, j' < l.length → l[j']? = some q → P q = false) : l.find? P = none := by
  rw [List.find?_eq_none]
  intro x hx
  obtain ⟨j, hj, e⟩ := List.getElem_of_mem hx
  simp [h j x hj (by simp [hj, e])]
theorem chars_snoc {md : Int} {i : Nat} {c : Str} {tc : Tok} {vs : List Value} (hi : i < 10) (hvs : StrsAre vs ((fmChars md).take i)) (hc : fmAt md i (fmTabs.getD i []) = c) : StrsAre (vs ++ [.str c tc]) ((fmChars md).take (i + 1)) := by
  have hl : (fmChars md).length = 10 := by simp [fmChars]
  have e : (fmChars md)[i]? = some c := by
    unfold fmChars
    rw [List.getElem?_map, List.getElem?_range hi]
    exact congrArg some hc
  rw [List.take_add_one, e]
  exact StrsAre.append' hvs (StrsAre.cons c tc .nil)
theorem fm_fin {h₀ h' h5 h9 : Heap} {L pl : Addr} {m' : Str → Option Value} {md : Int} {t : Tok} {i : Nat} {vs : List Value} {n : Nat} {c : Str} {tc : Tok} {s : Shared} {tk : Nat} {R : Result → Shared → Prop}
    (F : Fr h₀ L h' m') (hm1 : m' (Str.ofString "mode") = some (.int md t)) (hm2 : m' (Str.ofString "perm") = some (.ref pl))
    (N : News h₀ L h' ((pl, W.listOf (vs.toArray.push (.str c tc)) (n + 1)) :: restOf h₀ L [pl] h9)) (b5 : ∀ p ∈ restOf h₀ L [pl] h5, h9.get? p.1 = some p.2)
    (hi : i < 10) (hvs : StrsAre vs ((fmChars md).take i)) (hc : fmAt md i (fmTabs.getD i []) = c) :
    TurnH h₀ L [pl] h5 (fun m h => m (Str.ofString "mode") = some (.int md t) ∧ m (Str.ofString "perm") = some (.ref pl) ∧ PermIs h pl ((fmChars md).take (i + 1))) s R .next { s with heap := h', toks := tk } := by
  refine ⟨h', tk, m', rfl, F, fun p hp => ?_, hm1, hm2, vs ++ [.str c tc], n + 1, ?_, chars_snoc hi hvs hc⟩
  · have x := rest_spec hp
    exact ⟨(N p (.tail _ (rest_mem (b5 p hp) x.2.1 x.2.2.1 x.2.2.2))).1, x.2.1, x.2.2.2⟩
  · have := (N _ (.head _)).1
    simpa using this
theorem cast_ne {i : Nat} (h : (i : Int) ≠ 0) : i ≠ 0 := by omega
theorem cast_eq {i : Nat} (h : (i : Int) = 0) : i = 0 := by omega
theorem at_hit {md : Int} {i j : Nat} {b : Int} {c : Str} (h6 : ∀ j' q, j' < j → (fmTabs.getD i [])[j']? = some q → fmHit md i q = false) (hl : (fmTabs.getD i [])[j]? = some (b, c)) (hh : fmHit md i (b, c) = true) :
    fmAt md i (fmTabs.getD i []) = c := by
  unfold fmAt
  rw [find_at h6 hl hh]
theorem at_miss {md : Int} {i j : Nat} {x : Int × Str} (h6 : ∀ j' q, j' < j → (fmTabs.getD i [])[j']? = some q → fmHit md i q = false) (hl : (fmTabs.getD i [])[j]? = some x) (hh : fmHit md i x = false) :
    ∀ j' q, j' < j + 1 → (fmTabs.getD i [])[j']? = some q → fmHit md i q = false := by
  intro j' q hj hq
  by_cases e : j' = j
  · subst e; rw [hl] at hq; cases hq; exact hh
  · exact h6 j' q (by omega) hq
local macro_rules | `(tactic| walk_at "exec For Tuple Call") => `(tactic| (k_dflt (refine For_G ?_); (try dsimp only)))
local macro_rules | `(tactic| walk_at "exec For Tuple Name") => `(tactic| (k_dflt (refine For_G ?_); (try dsimp only)))
set_option maxRecDepth 100000 in
set_option maxHeartbeats 4000000 in
theorem filemode_ok (w : World) (md : Int) (t : Tok) : Fn w 106 2 (fun _ vs => vs = [.int md t] ∧ 0 ≤ md ∧ md < 65536) (fun _ _ r _ => StrIs r (FM md)) := by
  intro A s vs E R G hp
  obtain ⟨ha', dp', fr', gd', un'⟩ := A
  obtain rfl : ha' = none := R.hh
  have hdp' : dp' < recursionLimit := Nat.lt_of_le_of_lt (Nat.le_add_right _ _) R.dp
  have hun' : un' < cLine := Nat.lt_of_le_of_lt (Nat.le_add_right _ _) R.un
  have X := G.K
  have hK := kmark
  revert X hK
  k_fill
  intro X hK
  clear hK
  obtain ⟨loose, mean, mg, mb, T⟩ := G.T
  obtain ⟨rfl, h0, h1⟩ := hp
  k_dflt (refine' enterP (binds := [(Str.ofString "mode", .int md t)]) R G ?ho ?hcd ?hb ?hl ?hc ?_ ?c1 ?c2 ?c3; (case ho => k_is); (case hcd => k_is); (case hb => exact BindsTo.of_eq rfl); (case hl => exact locs rfl); (case hc => decide); (case c1 => exact rfl); (case c2 => exact rfl); (case c3 => exact rfl))
  intro L h₁ env he R' F N
  subst he
  (try dsimp only)
  k_steps
  rename_i pl _ _ _ F1 N1
  refine call_enum_tuple F1 N1 ⟨_, F1.keep _ _ (X 99 _ (by rfl)), rfl, _, rfl⟩ ?_
  intro e it h2 F2 N2 he hit hei k2
  dsimp only
  have N2p := (N2 (pl, _) (by k_mem))
  have N2e := (N2 (e, _) (by k_mem))
  have N2i := (N2 (it, _) (by k_mem))
  have hpe : pl ≠ e := obj_ne N2p.1 N2e.1 (by intro q; exact absurd (Value.type.inj q) (by decide))
  have hpi : pl ≠ it := obj_ne N2p.1 N2i.1 (by intro q; exact absurd (Value.type.inj q) (by decide))
  have h99e : (99 : Addr) ≠ e := by
    rintro rfl
    have := N2e.2.2
    rw [X 99 _ (by rfl)] at this; cases this
  have h99i : (99 : Addr) ≠ it := by
    rintro rfl
    have := N2i.2.2
    rw [X 99 _ (by rfl)] at this; cases this
  have h99L : L ≠ 99 := Nat.ne_of_gt (Nat.lt_of_lt_of_le (Heap.lt_size (X 99 _ (by rfl))) F2.above)
  refine wpAny_pyIter_enum N2e.1 ?_
  refine forG (h₀ := s.heap) (WalkG.enumT rfl _ _ _ e it 99 hei h99e h99i fmRefs) ?_ [pl] ?_ ?_
    (fun i m h => m (Str.ofString "mode") = some (.int md t) ∧ m (Str.ofString "perm") = some (.ref pl) ∧ PermIs h pl ((fmChars md).take i)) ?_ ?_ F2 ?_ ?_ ?_
  · simp
    exact ⟨fun q => N2e.2.1 q.symm, fun q => N2i.2.1 q.symm, h99L⟩
  · simp
    exact ⟨hpe, hpi, fun q => by have := N2p.2.2; rw [q, X 99 _ (by rfl)] at this; cases this⟩
  · simp
    exact ⟨N2e.2.2, N2i.2.2⟩
  · rintro i m h h' hns hst ⟨a1, a2, vs, n, a3, a4⟩ hk
    exact ⟨a1, a2, vs, n, hk _ _ (by simp; exact ⟨hpe, hpi⟩) a3, a4⟩
  · exact ⟨⟨_, N2e.1⟩, ⟨_, N2i.1, rfl, rfl⟩, _, F2.keep _ _ (X 99 _ (by rfl)), rfl, _, rfl⟩
  · exact ⟨by rfl, by rfl, [], 0, N2p.1, .nil⟩
  · rintro i v m₁ h5 tk5 hi ⟨T, tkI, x, rfl, hx, hT⟩ ⟨hm1, hm2, vs, n, hpl, hvs⟩ hst F5 N5
    obtain ⟨a, rfl, refs, hta, hrz, hrf⟩ := fm_tabs X i x hx
    replace F5 : Fr s.heap L h5 _ := mapEx2 (F5 : Fr s.heap L h5 m₁) hm1 hm2
    replace N5 : News s.heap L h5 (restOf s.heap L [pl] h5) := N5
    have N6 : News s.heap L h5 ((pl, W.listOf vs.toArray n) :: restOf s.heap L [pl] h5) := by
      intro p hp
      rcases List.mem_cons.mp hp with rfl | hp
      · exact ⟨hpl, N2p.2⟩
      · exact N5 p hp
    have bvs := Box.mk hvs
    have hvz : vs.length ≤ 10 := by rw [StrsAre.length hvs, List.length_take]; simp [fmChars]; omega
    have hi10 : i < 10 := hi
    have hsl : 16777216 = sizeLine := by decide
    clear N5 F1 F2 N1 N2 hvs
    k_steps
    rename_i h7 F7 N7
    have hta7 := Fr.tup F7 hta
    refine wpAny_pyIter_tuple hta7 ?_
    have F8 := F7.push { cls := .type "tuple_iterator", data := .fields #[.ref a, .int 0 0] }
    have N8 := N7.push F7 { cls := .type "tuple_iterator", data := .fields #[.ref a, .int 0 0] }
    have N8I := N8 (h7.objs.size, _) (by k_mem)
    have N8p := N8 (pl, _) (by k_mem)
    obtain ⟨oa, hoa, hoac, hoan⟩ := id hta
    have haI : a ≠ h7.objs.size := by
      rintro rfl
      have := N8I.2.2
      rw [hoa] at this; cases this
    have hap : a ≠ pl := by
      rintro rfl
      have := N8p.2.2
      rw [hoa] at this; cases this
    have haL : a ≠ L := Nat.ne_of_lt (Nat.lt_of_lt_of_le (Heap.lt_size hoa) F7.above)
    have hpI : pl ≠ h7.objs.size := obj_ne N8p.1 N8I.1 (by intro q; exact absurd (Value.type.inj q) (by decide))
    refine forG (h₀ := s.heap) (WalkG.tuple rfl _ h7.objs.size a haI refs) ?_ [pl] ?_ ?_
      (fun j m h => m (Str.ofString "mode") = some (.int md t) ∧ m (Str.ofString "perm") = some (.ref pl) ∧ m (Str.ofString "index") = some (.int i tkI) ∧ h.get? pl = some (W.listOf vs.toArray n) ∧
        (∀ p ∈ restOf s.heap L [pl] h5, h.get? p.1 = some p.2) ∧ ∀ j' q, j' < j → (fmTabs.getD i [])[j']? = some q → fmHit md i q = false) ?_ ?_ F8 ?_ ?_ ?_
    · simp
      exact ⟨fun q => N8I.2.1 q.symm, fun q => haL q.symm⟩
    · simp
      exact ⟨hpI, fun q => hap q.symm⟩
    · simpa using N8I.2.2
    · rintro j m h h' hns hst' ⟨a1, a2, a3, a4, a5, a6⟩ hk
      refine ⟨a1, a2, a3, hk _ _ (by simpa using hpI) a4, fun p hp => ?_, a6⟩
      exact hk _ _ (by simpa using Nat.ne_of_lt (Heap.lt_size (N7 p (.tail _ hp)).1)) (a5 p hp)
    · exact ⟨⟨_, N8I.1, rfl, rfl⟩, hta7.push _⟩
    · exact ⟨by rfl, by rfl, by rfl, N8p.1, fun p hp => (N8 p (.tail _ (.tail _ hp))).1, fun j' q hj => absurd hj (Nat.not_lt_zero _)⟩
    · rintro j v m₂ h9 tk9 hj hv ⟨b1, b2, b3, b4, b5, b6⟩ hst9 F9 N9
      obtain ⟨p, b, c, tb, tc, rfl, hl, hpt⟩ := hrf j v hv
      replace F9 : Fr s.heap L h9 _ := mapEx3 (F9 : Fr s.heap L h9 m₂) b1 b2 b3
      replace N9 : News s.heap L h9 (restOf s.heap L [pl] h9) := N9
      have N10 : News s.heap L h9 ((pl, W.listOf vs.toArray n) :: restOf s.heap L [pl] h9) := by
        intro q hq
        rcases List.mem_cons.mp hq with rfl | hq
        · exact ⟨b4, N2p.2⟩
        · exact N9 q hq
      have hpt9 := Fr.tup F9 hpt
      clear N9 F8 N8 F7 N7 hpt
      have F9b := Box.mk F9
      k_steps
      · -- the kind
        rename_i F11 N11 _ hi0
        refine useFn (sifmt_ok w md t) F11 N11 R' G rfl ?_
        rintro _ h12 tk12 F12 N12 k12 ⟨tk13, rfl⟩
        clear F11 N11
        dsimp only
        k_steps
        · refine append_rest F12 N12 rest_off (by simp; omega) ?_
          intro h14 F14 N14
          dsimp only
          k_steps
          dsimp only [TurnH]
          k_steps
          exact fm_fin (by assumption) (by rfl) (by rfl) (by assumption) b5 hi10 bvs.out (at_hit b6 hl (by unfold fmHit; rw [if_pos (cast_eq hi0)]; exact decide_eq_true (by assumption)))
        · refine ⟨_, _, _, rfl, F12, fun q hq => N12 q (.tail _ hq), by rfl, by rfl, by rfl, (N12 _ (.head _)).1, fun q hq => ?_, at_miss b6 hl (by unfold fmHit; rw [if_pos (cast_eq hi0)]; exact decide_eq_false (by assumption))⟩
          have x := rest_spec hq
          exact (N12 q (.tail _ (rest_mem (b5 q hq) x.2.1 x.2.2.1 x.2.2.2))).1
      · rename_i F11 N11 _ hi0 _ hhit
        refine append_rest F11 N11 rest_off (by simp; omega) ?_
        intro h12 F12 N12
        dsimp only
        k_steps
        dsimp only [TurnH]
        k_steps
        exact fm_fin (by assumption) (by rfl) (by rfl) (by assumption) b5 hi10 bvs.out (at_hit b6 hl (by unfold fmHit; rw [if_neg (cast_ne hi0)]; simpa using hhit))
      · rename_i F11 N11 _ hi0 _ hmiss
        refine ⟨_, _, _, rfl, F11, fun q hq => N11 q (.tail _ hq), by rfl, by rfl, by rfl, (N11 _ (.head _)).1, fun q hq => ?_, at_miss b6 hl (by unfold fmHit; rw [if_neg (cast_ne hi0)]; simpa using hmiss)⟩
        have x := rest_spec hq
        exact (N11 q (.tail _ (rest_mem (b5 q hq) x.2.1 x.2.2.1 x.2.2.2))).1
    · rintro m₂ h9 tk9 F9 ⟨b1, b2, b3, b4, b5, b6⟩
      replace F9 : Fr s.heap L h9 _ := mapEx3 (F9 : Fr s.heap L h9 m₂) b1 b2 b3
      have N10 : News s.heap L h9 ((pl, W.listOf vs.toArray n) :: restOf s.heap L [pl] h9) := by
        intro q hq
        rcases List.mem_cons.mp hq with rfl | hq
        · exact ⟨b4, N2p.2⟩
        · exact rest_news q hq
      clear F8 N8 F7 N7
      rw [hrz] at b6
      k_steps
      · rename_i hi0 _
        refine append_rest (by assumption) (by assumption) rest_off (by simp; omega) ?_
        intro h12 F12 N12
        dsimp only
        k_steps
        exact fm_fin (by assumption) (by rfl) (by rfl) (by assumption) b5 hi10 bvs.out (by unfold fmAt; rw [find_no b6]; exact if_pos (cast_eq (by assumption)))
      · rename_i hi0 _
        refine append_rest (by assumption) (by assumption) rest_off (by simp; omega) ?_
        intro h12 F12 N12
        dsimp only
        k_steps
        exact fm_fin (by assumption) (by rfl) (by rfl) (by assumption) b5 hi10 bvs.out (by unfold fmAt; rw [find_no b6]; exact if_neg (cast_ne (by assumption)))
  · rintro m₁ h5 tk5 F5 ⟨hm1, hm2, vs, n, hpl, hvs⟩
    replace F5 : Fr s.heap L h5 _ := mapEx2 (F5 : Fr s.heap L h5 m₁) hm1 hm2
    have N6 : News s.heap L h5 [(pl, W.listOf vs.toArray n)] := by
      intro p hp
      cases List.mem_singleton.mp hp
      exact ⟨hpl, N2p.2⟩
    clear F1 F2 N1 N2
    have hvz : vs.length = 10 := by rw [StrsAre.length hvs, List.length_take]; simp [fmChars]
    have bvs := Box.mk hvs
    have e10 : List.take fmRefs.size (fmChars md) = fmChars md := List.take_of_length_le (by simp [fmChars])
    k_steps
    refine join_listC (ys := fmChars md) (News.isList (by assumption) (by k_mem)) ?_ (by decide +kernel) ?_ ?_
    · rw [← e10]; simpa using bvs.out
    · rw [chars_sum]; simp [fmChars]
    intro t3 k3
    dsimp only
    k_steps
    · exact keeps_of (by assumption)
    · exact ⟨_, rfl⟩
end Mine
end
section
open PySem PySem.W PyProof.Rows PySem.Spec PySem.Calls
namespace Mine
def normStep (x : Int) (p : Int × Int) : Int := if (x.fdiv p.1).fmod 2 ≠ 0 ∧ (x.fdiv p.2).fmod 2 ≠ 0 then x - p.2 else x
def normPairs : List (Int × Int) := [(2048, 64), (1024, 8), (512, 1)]
def norm (md : Int) : Int := normPairs.foldl normStep md
def KEY (md : Int) : Str := Txt.item (Str.ofString "?pc?d?b?-?l?s???") ((md.fdiv 4096).fmod 16) ++ Str.ofString (toString ((norm md).fmod 4096))
theorem norm_snoc (md : Int) (j : Nat) (p : Int × Int) (h : normPairs[j]? = some p) : (normPairs.take (j + 1)).foldl normStep md = normStep ((normPairs.take j).foldl normStep md) p := by
  rw [List.take_add_one, h]; simp
theorem ns_pos {x a r : Int} (h1 : (x.fdiv a).fmod 2 ≠ 0) (h2 : (x.fdiv r).fmod 2 ≠ 0) : normStep x (a, r) = x - r := if_pos ⟨h1, h2⟩
theorem ns_neg1 {x a r : Int} (h1 : (x.fdiv a).fmod 2 = 0) : normStep x (a, r) = x := if_neg fun q => q.1 h1
theorem ns_neg2 {x a r : Int} (h1 : (x.fdiv r).fmod 2 = 0) : normStep x (a, r) = x := if_neg fun q => q.2 h1
theorem step_bnd (x : Int) (p : Int × Int) (hp : 0 ≤ p.2 ∧ p.2 ≤ 64) : x - 64 ≤ normStep x p ∧ normStep x p ≤ x := by
  unfold normStep; split <;> omega
theorem norm_bnd (md : Int) (j : Nat) : md - 192 ≤ (normPairs.take j).foldl normStep md ∧ (normPairs.take j).foldl normStep md ≤ md := by
  have a1 := step_bnd md (2048, 64) (by decide)
  have a2 := step_bnd (normStep md (2048, 64)) (1024, 8) (by decide)
  have a3 := step_bnd (normStep (normStep md (2048, 64)) (1024, 8)) (512, 1) (by decide)
  match j with
  | 0 => show md - 192 ≤ md ∧ md ≤ md; omega
  | 1 => show md - 192 ≤ normStep md (2048, 64) ∧ normStep md (2048, 64) ≤ md; omega
  | 2 => show md - 192 ≤ normStep (normStep md (2048, 64)) (1024, 8) ∧ normStep (normStep md (2048, 64)) (1024, 8) ≤ md; omega
  | n + 3 =>
    have e : normPairs.take (n + 3) = normPairs := by simp [normPairs]
    rw [e]
    show md - 192 ≤ normStep (normStep (normStep md (2048, 64)) (1024, 8)) (512, 1) ∧ normStep (normStep (normStep md (2048, 64)) (1024, 8)) (512, 1) ≤ md
    omega
local macro_rules | `(tactic| walk_at "exec For Tuple Tuple cons nil") => `(tactic| (k_dflt (refine For_G ?_); (try dsimp only)))
set_option maxRecDepth 100000 in
set_option maxHeartbeats 4000000 in
theorem key_ok (w : World) (md : Int) (t : Tok) : Fn w 125 2 (fun _ vs => vs = [.int md t] ∧ 0 ≤ md ∧ md < 65536) (fun _ _ r _ => StrIs r (KEY md)) := by
  intro A s vs E R G hp
  obtain ⟨ha', dp', fr', gd', un'⟩ := A
  obtain rfl : ha' = none := R.hh
  have hdp' : dp' < recursionLimit := Nat.lt_of_le_of_lt (Nat.le_add_right _ _) R.dp
  have hun' : un' < cLine := Nat.lt_of_le_of_lt (Nat.le_add_right _ _) R.un
  have X := G.K
  have hK := kmark
  revert X hK
  k_fill
  intro X hK
  clear hK
  obtain ⟨loose, mean, mg, mb, T⟩ := G.T
  obtain ⟨rfl, h0, h1⟩ := hp
  k_dflt (refine' enterP (binds := [(Str.ofString "mode", .int md t)]) R G ?ho ?hcd ?hb ?hl ?hc ?_ ?c1 ?c2 ?c3; (case ho => k_is); (case hcd => k_is); (case hb => exact BindsTo.of_eq rfl); (case hl => exact locs rfl); (case hc => decide); (case c1 => exact rfl); (case c2 => exact rfl); (case c3 => exact rfl))
  intro L h₁ env he R' F N
  subst he
  (try dsimp only)
  iterate 60 (first | (with_reducible show wpAny _ _ (pyIter _) _ _ _; skip) | walk1 | (dsimp only; walk1))
  rename_i D3 _ _ D2 _ _ D1 _ _ DD h7 F7 N7 _
  have F8 := F7.push { cls := .type "tuple_iterator", data := .fields #[.ref DD, .int 0 0] }
  have N8 := N7.push F7 { cls := .type "tuple_iterator", data := .fields #[.ref DD, .int 0 0] }
  have hTD : h7.IsTuple DD #[.ref D3, .ref D2, .ref D1] := ⟨_, (N7 _ (.head _)).1, rfl, _, rfl⟩
  have N8I := N8 (h7.objs.size, _) (by k_mem)
  have hDI : DD ≠ h7.objs.size := Nat.ne_of_lt (Heap.lt_size (N7 _ (.head _)).1)
  have hDL : DD ≠ L := (N7 _ (.head _)).2.1
  refine wpAny_pyIter_tuple hTD ?_
  dsimp only
  refine forG (h₀ := s.heap) (WalkG.tuple rfl _ h7.objs.size DD hDI #[.ref D3, .ref D2, .ref D1]) ?_ [] ?_ ?_
    (fun j m h => (∃ tk, m (Str.ofString "mode") = some (.int ((normPairs.take j).foldl normStep md) tk)) ∧ (∃ tk, m (Str.ofString "sign") = some (.str (Txt.item (Str.ofString "?pc?d?b?-?l?s???") ((md.fdiv 4096).fmod 16)) tk)) ∧
      ∀ (j : Nat) (p : Int × Int), normPairs[j]? = some p → ∃ a ta tr, (#[Value.ref D3, Value.ref D2, Value.ref D1] : Array Value)[j]? = some (Value.ref a) ∧ a ≠ h7.objs.size ∧ a ≠ L ∧ IsTup h a #[.int p.1 ta, .int p.2 tr]) ?_ ?_ F8 ?_ ?_ ?_
  · simp
    exact ⟨fun q => N8I.2.1 q.symm, fun q => hDL q.symm⟩
  · simp
  · simpa using N8I.2.2
  · rintro j m h h' hns hst' ⟨a1, a2, a3⟩ hk
    refine ⟨a1, a2, fun j p hp => ?_⟩
    obtain ⟨a, ta, tr, e1, e2, e3, o, ho, r⟩ := a3 j p hp
    exact ⟨a, ta, tr, e1, e2, e3, o, hk _ _ (by simpa using e2) ho, r⟩
  · exact ⟨⟨_, N8I.1, rfl, rfl⟩, hTD.push _⟩
  · refine ⟨⟨_, by rfl⟩, ⟨_, by rfl⟩, fun j p hp => ?_⟩
    have lt : ∀ {a o}, (a, o) ∈ _ → a ≠ h7.objs.size := fun {a o} hm => Nat.ne_of_lt (Heap.lt_size (N7 (a, o) hm).1)
    match j, hp with
    | 0, hp => cases hp; exact ⟨D3, _, _, rfl, lt (by k_mem), (N7 (D3, _) (by k_mem)).2.1, News.isTup N8 (by k_mem)⟩
    | 1, hp => cases hp; exact ⟨D2, _, _, rfl, lt (by k_mem), (N7 (D2, _) (by k_mem)).2.1, News.isTup N8 (by k_mem)⟩
    | 2, hp => cases hp; exact ⟨D1, _, _, rfl, lt (by k_mem), (N7 (D1, _) (by k_mem)).2.1, News.isTup N8 (by k_mem)⟩
    | n + 3, hp => simp [normPairs] at hp
  · rintro j v m₂ h9 tk9 hj hv ⟨⟨tkm, b1⟩, ⟨tks, b2⟩, b3⟩ hst9 F9 N9
    obtain ⟨p, hp⟩ : ∃ p, normPairs[j]? = some p := by
      have : j < normPairs.length := hj
      exact ⟨_, List.getElem?_eq_getElem this⟩
    obtain ⟨a, ta, tr, e1, e2, e3, hpt⟩ := b3 j p hp
    rw [e1] at hv; cases hv
    obtain ⟨x1, x2⟩ := p
    dsimp only at hpt
    have hx : 0 < x1 ∧ x1 ≤ 2048 ∧ 0 < x2 ∧ x2 ≤ 64 := by
      match j, hp with
      | 0, hp => cases hp; decide
      | 1, hp => cases hp; decide
      | 2, hp => cases hp; decide
      | n + 3, hp => simp [normPairs] at hp
    obtain ⟨hx1, hx1', hx2, hx2'⟩ := hx
    have hb := norm_bnd md j
    replace F9 : Fr s.heap L h9 _ := mapEx2 (F9 : Fr s.heap L h9 m₂) b1 b2
    replace N9 : News s.heap L h9 (restOf s.heap L [] h9) := N9
    have F9b := Box.mk F9
    clear F8 N8 F7 N7
    generalize hxm : (normPairs.take j).foldl normStep md = xm at F9 b1 F9b hb
    obtain ⟨hb1, hb2⟩ := hb
    have key : ∀ {hh mm tk}, Fr s.heap L hh mm → News s.heap L hh (restOf s.heap L [] h9) → (∃ tk, mm (Str.ofString "mode") = some (.int (normStep xm (x1, x2)) tk)) → (∃ tk, mm (Str.ofString "sign") = some (.str (Txt.item (Str.ofString "?pc?d?b?-?l?s???") ((md.fdiv 4096).fmod 16)) tk)) →
        ∀ {s' : Shared} {R'}, TurnH s.heap L [] h9 (fun m h => (∃ tk, m (Str.ofString "mode") = some (.int ((normPairs.take (j + 1)).foldl normStep md) tk)) ∧ (∃ tk, m (Str.ofString "sign") = some (.str (Txt.item (Str.ofString "?pc?d?b?-?l?s???") ((md.fdiv 4096).fmod 16)) tk)) ∧
      ∀ (j : Nat) (p : Int × Int), normPairs[j]? = some p → ∃ a ta tr, (#[Value.ref D3, Value.ref D2, Value.ref D1] : Array Value)[j]? = some (Value.ref a) ∧ a ≠ h7.objs.size ∧ a ≠ L ∧ IsTup h a #[.int p.1 ta, .int p.2 tr]) s' R' .next { s' with heap := hh, toks := tk } := by
      intro hh mm tk FF NN c1 c2 s' R'
      refine ⟨hh, tk, mm, rfl, FF, NN, ?_, c2, fun j' p' hp' => ?_⟩
      · rw [norm_snoc md j _ hp, hxm]; exact c1
      · obtain ⟨a', ta', tr', e1', e2', e3', o, ho, r⟩ := b3 j' p' hp'
        exact ⟨a', ta', tr', e1', e2', e3', o, rest_kept F9b.out FF NN e3' (by simp) ho, r⟩
    k_steps
    · exact key (by assumption) (by assumption) ⟨_, by rw [ns_pos (by assumption) (by assumption)]; rfl⟩ ⟨_, by rfl⟩
    · exact key (by assumption) (by assumption) ⟨_, by rw [ns_neg2 (by assumption)]; rfl⟩ ⟨_, by rfl⟩
    · exact key (by assumption) (by assumption) ⟨_, by rw [ns_neg1 (by assumption)]; rfl⟩ ⟨_, by rfl⟩
  · rintro m₂ h9 tk9 F9 ⟨⟨tkm, b1⟩, ⟨tks, b2⟩, b3⟩
    replace F9 : Fr s.heap L h9 _ := mapEx2 (F9 : Fr s.heap L h9 m₂) b1 b2
    have N9 : News s.heap L h9 [] := News.nil
    clear F8 N8 F7 N7
    k_steps
    · exact keeps_of (by assumption)
    · exact ⟨_, rfl⟩
end Mine
end
section
open PySem PySem.W PyProof.Rows PySem.Spec PySem.Calls
namespace Mine
section
variable {prog : Program} {w : World} {A : Around} {h₀ : Heap} {L : Addr} {m : Str → Option Value} {env : Env} {ct elt : PySem.Expr} {x : Str} {scope : Scope} {cl : List (Str × Addr)} {s : Shared} {S : List (Addr × Obj) → Prop} {P : Nat → Value → Prop} {Fin : List Value → List (Addr × Obj) → Prop} {news : List (Addr × Obj)}
/-- a comprehension by what holds of the items made so far -/
theorem compU {n : Nat} (Inv : Nat → List Value → Prop) (h0 : Inv 0 [])
    (turn : ∀ i v I oI C oC D m₂ ys h tk (E' : Value → Shared → Prop), i < n → P i v → Inv i ys → LCg.NsObj oC m₂ → m₂ x = some v → Fr h₀ L h m → News h₀ L h ((I, oI) :: (C, oC) :: (D, LCg.lst ys) :: news) → LCg.Off3 I C D news → ((@Ne Nat I C) ∧ (@Ne Nat I D) ∧ (@Ne Nat C D)) →
      wpAny (model prog w) A (eval elt (compEnvC scope cl C env)) (LCg.CompEnd h₀ L m { s with heap := h, toks := tk } I oI C oC D (LCg.lst ys) S (fun y news' => news' = news ∧ Inv (i + 1) (ys ++ [y]))) E' { s with heap := h, toks := tk })
    (fin : ∀ ys, Inv n ys → Fin ys news) : LCg.CompRest prog w A h₀ L m env elt x scope cl s S P Fin n 0 [] news := by
  have key : ∀ (j i : Nat) (ys : List Value), i + j = n → Inv i ys → LCg.CompRest prog w A h₀ L m env elt x scope cl s S P Fin j i ys news := by
    intro j
    induction j with
    | zero =>
      intro i ys hi hy
      have e : i = n := by omega
      subst e
      exact LCg.CompRest.zero (fin ys hy)
    | succ j ih =>
      intro i ys hi hy
      refine LCg.CompRest.succ ?_
      intro v I oI C oC D m₂ h tk E' hv hC hx F N off ne
      refine wpAny_mono (turn i v I oI C oC D m₂ ys h tk E' (by omega) hv hy hC hx F N off ne) (fun y s₂ hq => ?_) fun _ _ e => e
      obtain ⟨h', tk', nw, e, F', N', off', hS, hn, hI⟩ := hq
      subst hn
      exact ⟨h', tk', nw, e, F', N', off', hS, ih (i + 1) _ (by omega) hI⟩
  exact key n 0 [] (by omega) h0
/-- the same with a test -/
theorem compT {n : Nat} (Inv : Nat → List Value → Prop) (h0 : Inv 0 [])
    (turn : ∀ i v I oI C oC D m₂ ys h tk (E' : Value → Shared → Prop), i < n → P i v → Inv i ys → LCg.NsObj oC m₂ → m₂ x = some v → Fr h₀ L h m → News h₀ L h ((I, oI) :: (C, oC) :: (D, LCg.lst ys) :: news) → LCg.Off3 I C D news → ((@Ne Nat I C) ∧ (@Ne Nat I D) ∧ (@Ne Nat C D)) →
      wpAny (model prog w) A (isTrue ct (compEnvC scope cl C env) (eval ct (compEnvC scope cl C env))) (fun ok s' => if ok = true then
        wpAny (model prog w) A (eval elt (compEnvC scope cl C env)) (LCg.CompEnd h₀ L m { s with heap := h, toks := tk } I oI C oC D (LCg.lst ys) S (fun y news' => news' = news ∧ Inv (i + 1) (ys ++ [y]))) E' s'
        else LCg.CompEnd h₀ L m { s with heap := h, toks := tk } I oI C oC D (LCg.lst ys) S (fun _ news' => news' = news ∧ Inv (i + 1) ys) Value.none s') E' { s with heap := h, toks := tk })
    (fin : ∀ ys, Inv n ys → Fin ys news) : LCt.CompRestT prog w A h₀ L m env ct elt x scope cl s S P Fin n 0 [] news := by
  have key : ∀ (j i : Nat) (ys : List Value), i + j = n → Inv i ys → LCt.CompRestT prog w A h₀ L m env ct elt x scope cl s S P Fin j i ys news := by
    intro j
    induction j with
    | zero =>
      intro i ys hi hy
      have e : i = n := by omega
      subst e
      exact LCt.CompRestT.zero (fin ys hy)
    | succ j ih =>
      intro i ys hi hy
      refine LCt.CompRestT.succ ?_
      intro v I oI C oC D m₂ h tk E' hv hC hx F N off ne
      refine wpAny_mono (turn i v I oI C oC D m₂ ys h tk E' (by omega) hv hy hC hx F N off ne) (fun ok s₂ hq => ?_) fun _ _ e => e
      by_cases hok : ok = true
      · rw [if_pos hok] at hq ⊢
        refine wpAny_mono hq (fun y s₂ hq => ?_) fun _ _ e => e
        obtain ⟨h', tk', nw, e, F', N', off', hS, hn, hI⟩ := hq
        subst hn
        exact ⟨h', tk', nw, e, F', N', off', hS, ih (i + 1) _ (by omega) hI⟩
      · rw [if_neg hok] at hq ⊢
        obtain ⟨h', tk', nw, e, F', N', off', hS, hn, hI⟩ := hq
        subst hn
        exact ⟨h', tk', nw, e, F', N', off', hS, ih (i + 1) _ (by omega) hI⟩
  exact key n 0 [] (by omega) h0
end
end Mine
end
section
open PySem PySem.W PyProof.Rows PySem.Spec PySem.Calls PyProof.V PySem.SeqAt
namespace Mine
theorem canLay_strs : ∀ ns : List Str, (∀ n ∈ ns, PyData.strOk n = true) → PyData.canLayAll0 (ns.map PyData.str) = true
  | [], _ => by simp [PyData.canLayAll0]
  | n :: r, h => by simp [PyData.canLayAll0, PyData.canLay0, canLay_strs r fun k hk => h k (List.mem_cons_of_mem _ hk), h n List.mem_cons_self]
theorem depth_strs : ∀ ns : List Str, PyData.depthAll (ns.map PyData.str) ≤ 1
  | [] => by simp [PyData.depthAll]
  | n :: r => by
    have := depth_strs r
    simp only [List.map_cons, PyData.depthAll, PyData.depth]
    omega
theorem shaped_strs (ns : List Str) (hok : ∀ n ∈ ns, PyData.strOk n = true) : shaped (.list (ns.map PyData.str)) = true := by
  have h1 := depth_strs ns
  have h2 : PyData.depth (.list (ns.map PyData.str)) ≤ 64 := by simp only [PyData.depth]; omega
  show (PyData.canLay0 (.list (ns.map PyData.str)) && decide (PyData.depth (.list (ns.map PyData.str)) ≤ 64)) = true
  rw [Bool.and_eq_true]
  exact ⟨by simp only [PyData.canLay0]; exact canLay_strs ns hok, decide_eq_true h2⟩
theorem noMix_strs : ∀ ns ms : List Str, noMixAll (ns.map PyData.str) (ms.map PyData.str) = true
  | [], [] => by simp [noMixAll]
  | [], _ :: _ => by simp [noMixAll]
  | _ :: _, [] => by simp [noMixAll]
  | _ :: r, _ :: q => by simp [noMixAll, noMix, noMix_strs r q]
theorem same_strs : ∀ ns ms : List Str, PySem.Spec.sameAll (ns.map PyData.str) (ms.map PyData.str) = decide (ns = ms)
  | [], [] => by simp [PySem.Spec.sameAll]
  | [], _ :: _ => by simp [PySem.Spec.sameAll]
  | _ :: _, [] => by simp [PySem.Spec.sameAll]
  | n :: r, k :: q => by
    simp only [List.map_cons, PySem.Spec.sameAll, PySem.Spec.same, same_strs r q]
    by_cases h : n = k <;> simp [h]
theorem reads_strs {h : Heap} {a : Addr} {vs : List Value} {ns : List Str} (hl : h.IsList a vs.toArray) (hi : StrsAre vs ns) : Reads h (.ref a) (.list (ns.map PyData.str)) [a] := by
  obtain ⟨o, ho, hc, n, hd⟩ := hl
  exact Reads.list ho hc hd (by simpa using StrsAre.reads h hi)
theorem eq_strsK {prog : Program} {w : World} {A : Around} {E : Value → Shared → Prop} {s : Shared} {a b : Addr} {vs us : List Value} {ns ms : List Str} {Q : Value → Shared → Prop} (hl : s.heap.IsList a vs.toArray) (hi : StrsAre vs ns) (hl' : s.heap.IsList b us.toArray) (hi' : StrsAre us ms) (ho : ∀ n ∈ ns, PyData.strOk n = true) (ho' : ∀ n ∈ ms, PyData.strOk n = true) (hu : A.units + 64 < cLine)
    (h : Q (.bool (decide (ns = ms))) s) : wpAny (model prog w) A (compareOp .Eq (.ref a) (.ref b)) Q E s :=
  eq_dataH_same (reads_strs hl hi) (reads_strs hl' hi') (shaped_strs ns ho) (shaped_strs ms ho') hu (by simp only [noMix]; exact noMix_strs ns ms) (by simp only [PySem.Spec.same]; rw [same_strs]; exact h)
theorem eqGives_bool (a b : Bool) : MeetsSeq.EqGives (.bool a) (.bool b) (a == b) := by
  intro prog w A E s Q h
  unfold eqBool
  refine wpAny_holding ?_
  by_cases e : a = b
  · subst e
    rw [if_pos (by simp)]
    refine wpAny_bind (wpAny_rule (wpAny_pure ?_))
    simpa using h
  · rw [if_neg (by simpa using e)]
    show wpAny _ _ (richCompare .Eq (.bool a) (.bool b) >>= fun v => truthOfDropped v) _ _ _
    exact wpAny_bind (eq_bool (wpAny_truthy_bool h))
theorem in_bools {prog : Program} {w : World} {A : Around} {E : Value → Shared → Prop} {s : Shared} {l : Addr} {bs : List Bool} {Q : Value → Shared → Prop}
    (hl : s.heap.IsList l (bs.map Value.bool).toArray) (h : Q (.bool (bs.any id)) s) : wpAny (model prog w) A (compareOp .In (.bool true) (.ref l)) Q E s := by
  refine PySem.SeqInW.in_listW (fun v => v == .bool true) (fun y hy => ?_) hl ?_
  · have hy' : y ∈ bs.map Value.bool := by simpa using hy
    obtain ⟨b, _, rfl⟩ := List.mem_map.mp hy'
    have := eqGives_bool b true
    have e : (Value.bool b == Value.bool true) = (b == true) := by cases b <;> rfl
    show MeetsSeq.EqGives _ _ (Value.bool b == Value.bool true)
    rw [e]; exact this
  · have e : ((bs.map Value.bool).toArray.any fun v => v == .bool true) = bs.any id := by
      rw [List.any_toArray, List.any_map]
      congr 1
      funext b
      cases b <;> rfl
    rw [e]; exact h
end Mine
end
section
open PySem PySem.W PyProof.Rows PySem.Spec PySem.Calls
namespace Mine
theorem enterC {w : World} {A : Around} {s : Shared} {E : Value → Shared → Prop} {Q : Value → Shared → Prop} {k : Nat} {f : Addr}
    {name qual : Str} {params : Arguments} {body : List Stmt} {scope : Scope} {dV kV doc pm cdv ct oc : Value} {an od : Option Addr} {osl : Array (Option Value)} {vs : List Value} {binds : List (Str × Value)}
    (R : Room A (k + 1)) (G : Gd w s.heap)
    (ho : (hd.heap_39 w.params).lookup f = some ⟨oc, od, .func (fnOf name qual params body scope dV kV doc pm an cdv ct), osl⟩) (hcd : codeIn (hd.heap_39 w.params) cdv qual = true)
    (hbind : BindsTo s (fnOf name qual params body scope dV kV doc pm an cdv ct) ⟨vs, []⟩ binds)
    (hkind : (binds.all fun y => scope.names.lookup y.1 == some .local || scope.names.lookup y.1 == some .cell) = true)
    (hnd : ((cellsFrom 0 scope.names []).map (·.1)).Nodup)
    (h : ∀ L h₁ tk env cells, env = envOfC qual scope L f cdv → Room (A.deeper env) k → Fr s.heap L h₁ (bindL env.kindOf binds fun _ => none) → News s.heap L h₁ cells →
      CellsAre (bindC env.kindOf binds fun _ => none) (cellsFrom (L + 1) scope.names []) cells →
      wpAny (model prg w) (A.deeper env) (execs body env)
        (fun fl s' => Q (match fl with | .ret v => v | _ => .none) s') (fun _ _ => False) { s with heap := h₁, toks := tk })
    (hco : scope.isCoroutine = false) (hgen : scope.isGenerator = false) (hk : scope.kind = .function) : wpAny (model prg w) A (call (.ref f) vs) Q E s := by
  refine wpAny_call ?_
  obtain ⟨_, _, _, _, T⟩ := G.T
  refine codeAny_call_function (fd := fnOf name qual params body scope dV kV doc pm an cdv ct) (by have := R.dp; omega) (G.K _ _ ho) rfl hco hgen rfl (codeRec_of G.K hcd) (hbind _ _ _ _ ?_)
  refine wpAny_newFunctionEnv_cells hk (kindsX hkind _) fun env' he s' x => ?_
  subst he
  refine ⟨T.nolimit.keeps x.toInCall.keep, codeAny_func ?_⟩
  obtain ⟨h₁, tk, rfl, _⟩ := x.done
  have hk₁ := x.toInCall.keep
  obtain ⟨cells, NC, Y⟩ := Cl.news (h₀ := s.heap) (Nat.le_refl _) fun n c hm => ⟨x.cell n c (lookup_of_mem_nodup (cellsFrom_names scope.names 0 (s.heap.objs.size + 1) [] [] rfl ▸ hnd) hm), x.above n c hm⟩
  exact wpAny_mono (h s.heap.objs.size h₁ tk _ cells rfl R.deeper ⟨x.toInCall.ns, hk₁, Nat.le_refl _⟩ NC Y) (fun fl s' hq => hq) fun _ _ y => y.elim
def sliceS (ks : List Str) (a b : Nat) : List Str := (ks.drop a).take (b - a)
def standsB (ks : List Str) (first behind : Nat) : Bool := (List.range first).any fun p => decide (sliceS ks p (p + behind - first) = sliceS ks first behind)
theorem slice_are {items : Array Value} {ks : List Str} (h : StrsAre items.toList ks) {a b : Nat} {x y : Int} (hx : x = (a : Int)) (hy : y = (b : Int)) (hab : a ≤ b) (hb : b ≤ ks.length) :
    StrsAre (slicePick items (some x) (some y) none).toList (sliceS ks a b) := by
  have hz : items.size = ks.length := by rw [← Array.length_toList]; exact StrsAre.length h
  subst hx hy
  rw [slicePick_run items a b (by omega) hab]
  exact StrsAre.take' (StrsAre.drop' h a) (b - a)
local macro_rules | `(tactic| walk_at "eval ListComp") => `(tactic| (k_dflt (refine LCg.ListComp_U (F₀ := by k_asm) (by with_unfolding_all rfl) (by decide) (by rfl) (by decide) (by rfl) ?_)))
set_option maxRecDepth 100000 in
set_option maxHeartbeats 4000000 in
theorem stands_ok (w : World) (l : Addr) (items : Array Value) (ks : List Str) (first behind : Int) (t u : Tok) :
    Fn w 130 10 (fun h vs => vs = [.ref l, .int first t, .int behind u] ∧ h.IsList l items ∧ StrsAre items.toList ks ∧ 0 ≤ first ∧ first ≤ behind ∧ behind ≤ 100 ∧ ks.length ≤ 100 ∧ behind ≤ (ks.length : Int) ∧ ∀ k ∈ ks, PyData.strOk k = true) (fun _ _ r _ => r = .bool (standsB ks first.toNat behind.toNat)) := by
  intro A s vs E R G hp
  obtain ⟨ha', dp', fr', gd', un'⟩ := A
  obtain rfl : ha' = none := R.hh
  have hdp' : dp' < recursionLimit := Nat.lt_of_le_of_lt (Nat.le_add_right _ _) R.dp
  have hun' : un' < cLine := Nat.lt_of_le_of_lt (Nat.le_add_right _ _) R.un
  have X := G.K
  have hK := kmark
  revert X hK
  k_fill
  intro X hK
  clear hK
  obtain ⟨loose, mean, mg, mb, T⟩ := G.T
  obtain ⟨rfl, hl, hks, hf0, hf1, hb, hk100, hbk, hsok⟩ := hp
  have bsz : Box (items.size ≤ sizeLine) := ⟨by rw [← Array.length_toList, StrsAre.length hks]; exact Nat.le_trans hk100 (by decide)⟩
  have bks := Box.mk hks
  have bl := Box.mk hl
  have bok := Box.mk hsok
  have bkl := Box.mk hk100
  clear hks hk100 hl hsok
  k_dflt (refine' enterC (binds := [(Str.ofString "keys", .ref l), (Str.ofString "first", .int first t), (Str.ofString "behind", .int behind u)]) R G ?ho ?hcd ?hb ?hl ?hc ?_ ?c1 ?c2 ?c3; (case ho => k_is); (case hcd => k_is); (case hb => exact BindsTo.of_eq rfl); (case hl => rfl); (case hc => decide); (case c1 => exact rfl); (case c2 => exact rfl); (case c3 => exact rfl))
  intro L h₁ tk0 env cells he R' F N Y
  subst he
  obtain ⟨o1, o2, o3, rfl, d1, d2, d3⟩ := CellsAre.three Y
  replace d1 : o1.data = .cell (some (.int behind u)) := d1
  replace d2 : o2.data = .cell (some (.int first t)) := d2
  replace d3 : o3.data = .cell (some (.ref l)) := d3
  replace F : Fr s.heap L h₁ (fun _ => none) := F
  clear Y
  iterate 30 (first | (with_reducible show LCg.CompSrc _ _ _ _ _ _ _ _ _ _ _ _ _ _; skip) | walk1 | (dsimp only; walk1))
  rename_i hr F2 N2 k2
  refine LCg.CompSrc.range (n := first.toNat) rfl F2 N2 hr ?_ ?_ ?_ ?_
  · exact small_one (by omega) (by omega) (by omega) (by omega)
  · rw [show first.toNat = (first - 0).toNat by omega]; exact rangeSize_nat _ _
  · exact Nat.le_trans (show first.toNat ≤ 100 by omega) (by decide)
  intro g
  refine compU (fun i ys => ys = (List.range i).map fun p => Value.bool (decide (sliceS ks p (p + behind.toNat - first.toNat) = sliceS ks first.toNat behind.toNat))) ?_ ?_ ?_
  · rfl
  · rintro i v I oI C oC D m₂ ys h tk E' hi ⟨tv, rfl⟩ hInv hC hx F3 N3 off ne
    k_steps
    refine slice_list F3 N3 (Fr.lst F3 bl.out) (.int _ _) (.int _ _) ?_ (hsz := bsz.out)
    intro h4 F4 N4
    clear F3 N3
    (try dsimp only at F4 N4 ⊢)
    k_steps
    refine slice_list F4 N4 (Fr.lst F4 bl.out) (.int _ _) (.int _ _) ?_ (hsz := bsz.out)
    intro h5 F5 N5
    clear F4 N4
    (try dsimp only at F5 N5 ⊢)
    have e1 := slice_are bks.out (a := i) (b := i + behind.toNat - first.toNat) (x := 0 + (i : Int)) (y := 0 + (i : Int) + behind - first) (by omega) (by omega) (by omega) (by omega)
    have e2 := slice_are bks.out (a := first.toNat) (b := behind.toNat) (x := first) (y := behind) (by omega) (by omega) (by omega) (by omega)
    refine eq_strsK (News.isList N5 (by k_mem)) e1 (News.isList N5 (by k_mem)) e2 ?_ ?_ ?_ ?_
    · intro k hk; exact bok.out k (List.mem_of_mem_drop (List.mem_of_mem_take hk))
    · intro k hk; exact bok.out k (List.mem_of_mem_drop (List.mem_of_mem_take hk))
    · exact Nat.lt_of_le_of_lt (Nat.add_le_add_left (by decide) _) R'.un
    refine LCg.CompEnd.intro F5 N5 _ ?_ off trivial ⟨rfl, ?_⟩
    · intro p hp
      exact .tail _ (.tail _ hp)
    · rw [hInv, List.range_succ, List.map_append]; rfl
  · intro ys hInv D h tk F3 N3 o1
    subst hInv
    dsimp only
    k_steps
    have hD := News.isList N3 (.head _)
    refine in_bools (bs := (List.range first.toNat).map fun p => decide (sliceS ks p (p + behind.toNat - first.toNat) = sliceS ks first.toNat behind.toNat)) (by simpa [List.map_map, Function.comp_def] using hD) ?_
    refine ⟨keeps_of F3, ?_⟩
    rw [List.any_map]
    rfl
end Mine
end
section
open PySem PySem.W PyProof.Rows PySem.Spec PySem.Calls
namespace Mine
section
variable {prog : Program} {w : World} {A : Around} {E : Value → Shared → Prop} {s : Shared} {h₀ : Heap} {L : Addr} {m : Str → Option Value} {env : Env}
def TupIn (ax : Addr) (its : Array Value) (news : List (Addr × Obj)) : Prop := ∃ o, (ax, o) ∈ news ∧ o.cls = .type "tuple" ∧ ∃ n, o.data = .seq its n
def TupSrc (prog : Program) (w : World) (A : Around) (h₀ : Heap) (L : Addr) (m : Str → Option Value) (env : Env) (elt : PySem.Expr) (x : Str) (scope : Scope) (cl : List (Str × Addr)) (Q : Value → Shared → Prop) (xv : Value) (s₁ : Shared) : Prop :=
  ∃ ax its news, xv = .ref ax ∧ A.handled = none ∧ Fr h₀ L s₁.heap m ∧ News h₀ L s₁.heap news ∧ TupIn ax its news ∧ its.size ≤ sizeLine ∧
    ∀ g, LCg.CompRest prog w A h₀ L m env elt x scope cl { s₁ with heap := g } (TupIn ax its) (fun i v => its[i]? = some v) (LCg.FinE h₀ L m { s₁ with heap := g } Q) its.size 0 [] news
theorem TupSrc.intro {elt : PySem.Expr} {x : Str} {scope : Scope} {cl : List (Str × Addr)} {Q : Value → Shared → Prop} {ax : Addr} {its : Array Value} {k : Nat} {news : List (Addr × Obj)} {s₁ : Shared}
    (hh : A.handled = none) (F : Fr h₀ L s₁.heap m) (N : News h₀ L s₁.heap news) (hm : (ax, ({ cls := .type "tuple", data := .seq its k } : Obj)) ∈ news) (hsz : its.size ≤ sizeLine)
    (h : ∀ g, LCg.CompRest prog w A h₀ L m env elt x scope cl { s₁ with heap := g } (TupIn ax its) (fun i v => its[i]? = some v) (LCg.FinE h₀ L m { s₁ with heap := g } Q) its.size 0 [] news) :
    TupSrc prog w A h₀ L m env elt x scope cl Q (.ref ax) s₁ := ⟨ax, its, news, rfl, hh, F, N, ⟨_, hm, rfl, _, rfl⟩, hsz, h⟩
theorem tup_st {ax I : Addr} {its : Array Value} (i : Nat) (h h' : Heap) (o : Obj) (nw : List (Addr × Obj)) (st : h.IsTupleIter I ax i ∧ h.IsTuple ax its) (e : h.get? I = some o) (e' : h'.get? I = some o) (_ : ∀ b o, h₀.get? b = some o → h'.get? b = some o) (N : News h₀ L h' nw) (S : TupIn ax its nw) : h'.IsTupleIter I ax i ∧ h'.IsTuple ax its := by
  refine ⟨?_, ?_⟩
  · obtain ⟨o', q, r⟩ := st.1
    rw [e] at q; cases q
    exact ⟨o, e', r⟩
  · obtain ⟨o, hm, r⟩ := S
    exact ⟨o, (N _ hm).1, r⟩
theorem ListComp_Tup {elt iter : PySem.Expr} {x : Str} {px : Pos} {scope : Scope} {cl : List (Str × Addr)} {pos : Pos} {Q : Value → Shared → Prop} (F₀ : Fr h₀ L s.heap m)
    (hclos : closureFor scope env = pure cl) (hcell : ∀ y ∈ scope.names, y.2 ≠ .cell) (hkind : scope.kind = .function)
    (hnames : ∀ y ∈ scope.names, y.2 = .local → scope.names.lookup y.1 = some .local) (hx : scope.names.lookup x = some .local)
    (h : wpAny (model prog w) A (eval iter env) (TupSrc prog w A h₀ L m env elt x scope cl Q) E s)
    (hs : ∀ x, foldedSetIterable iter env x = pure x := by intro _; rfl) :
    wpAny (model prog w) A (eval (.ListComp elt [⟨.Name x px, iter, [], 0⟩] scope pos) env) Q E s := by
  rw [eval_ListComp]
  refine wpAny_comprehension_free (use := none) rfl hs hclos hkind hnames (wpAny_mono h (fun xv s₁ h₁ => ?_) fun _ _ e => e)
  obtain ⟨ax, its, news, rfl, hh, F, N, S, hsz, R⟩ := h₁
  have hl : s₁.heap.IsTuple ax its := by
    obtain ⟨o, hm, r⟩ := S
    exact ⟨o, (N _ hm).1, r⟩
  have hlt : ax < s₁.heap.objs.size := by obtain ⟨_, e, _⟩ := hl; exact Heap.lt_size e
  refine wpAny_pyIter_tuple hl ?_
  have up : ∀ b o, s₁.heap.get? b = some o → (s₁.heap.push { cls := .type "tuple_iterator", data := .fields #[.ref ax, .int 0 0] }).get? b = some o := fun b o e => Heap.get?_push_of_some _ e
  refine LCg.block_U (Walks.tuple hh s₁.heap.objs.size ax (Nat.ne_of_lt hlt) its) hsz (fun i h st => by obtain ⟨o, e, _⟩ := st.1; exact ⟨o, e⟩) tup_st hcell hkind hx ⟨⟨_, Heap.get?_push_size _ rfl, rfl, rfl⟩, hl.push _⟩ (fun b hb => ?_)
    (F.keeps up) (N.grown up) (Nat.ne_of_lt F.ns.lt) (next_is_new F) (fun p hp => Nat.ne_of_lt (Heap.lt_size (N p hp).1)) S (R _) ?_
  · show b < (s₁.heap.push _).objs.size
    rw [Heap.size_push]
    simp only [List.mem_cons, List.not_mem_nil, or_false] at hb
    rcases hb with rfl | rfl
    · exact Nat.lt_succ_self _
    · exact Nat.lt_succ_of_lt hlt
  · intro D C h tk m' ys news' F' N' o1 hn hC₀ hD₀ hCL hDL hCD offC fin
    refine ⟨m', hn, fun h'' hs'' => fin D h'' tk (F'.change hs'' hCL hC₀) (fun p hp => ⟨hs''.extBut _ _ ?_ (N' p hp).1, (N' p hp).2⟩) o1⟩
    rcases List.mem_cons.mp hp with rfl | hp
    · exact Ne.symm hCD
    · exact offC p hp
end
end Mine
end
section
open PySem PySem.W PyProof.Rows PySem.Spec PySem.Calls
namespace Mine
def FilesIs (r : Value) (h : Heap) : Prop := ∃ a vs fs, r = .ref a ∧ h.IsList a vs ∧ IntsAre vs.toList fs ∧ (∀ f ∈ fs, 0 ≤ f ∧ f < 65536) ∧ 6 ≤ fs.length ∧ fs.length ≤ 12
theorem xor_bnd {x y : Int} (hx : 0 ≤ x ∧ x < 65536) (hy : 0 ≤ y ∧ y < 65536) : 0 ≤ Builtin.bitXor x y ∧ Builtin.bitXor x y < 65536 := by
  obtain ⟨a, rfl⟩ := Int.eq_ofNat_of_zero_le hx.1
  obtain ⟨b, rfl⟩ := Int.eq_ofNat_of_zero_le hy.1
  have e1 : Builtin.bitAnd (a : Int) (b : Int) = ((a &&& b : Nat) : Int) := by
    unfold Builtin.bitAnd
    simp
  have e2 : Builtin.bitOr (a : Int) (b : Int) = ((a ||| b : Nat) : Int) := by
    unfold Builtin.bitOr Builtin.bitAnd Builtin.bitNot
    have h1 : decide (0 ≤ (-(a : Int) - 1)) = false := decide_eq_false (by omega)
    have h2 : decide (0 ≤ (-(b : Int) - 1)) = false := decide_eq_false (by omega)
    rw [h1, h2]
    show -(-(((-(-(a : Int) - 1) - 1).toNat ||| (-(-(b : Int) - 1) - 1).toNat : Nat) : Int) - 1) - 1 = _
    rw [show (-(-(a : Int) - 1) - 1).toNat = a by omega, show (-(-(b : Int) - 1) - 1).toNat = b by omega]
    omega
  unfold Builtin.bitXor
  rw [e1, e2]
  have h1 : a &&& b ≤ a := Nat.and_le_left
  have h2 : a ≤ a ||| b := Nat.left_le_or
  have h3 : a ||| b < 2 ^ 16 := Nat.or_lt_two_pow (by omega) (by omega)
  omega
theorem pick_tup {prog : Program} {w : World} {A : Around} {E : Value → Shared → Prop} {s : Shared} {value slice : PySem.Expr} {t : Addr} {xs : Array Value} {k : Int} {u : Tok} {Q : Value → Shared → Prop} (lo hi : Int)
    (ht : IsTup s.heap t xs) (hall : ∀ v ∈ xs.toList, ∃ n tk, v = .int n tk ∧ lo ≤ n ∧ n ≤ hi) (h0 : 0 ≤ k) (h1 : k < (xs.size : Int)) (h63 : (xs.size : Int) < 2 ^ 62)
    (h : ∀ n tk, lo ≤ n → n ≤ hi → Q (.int n tk) s)
    (hs : subscripted slice false (.ref t) (.int k u) = operate [.ref t, .int k u] (getItem (.ref t) (.int k u)) := by with_unfolding_all rfl) :
    wpAny (model prog w) A (subscriptTail value slice (.ref t) (.int k u)) Q E s := by
  have hk : k.toNat < xs.size := by omega
  obtain ⟨n, tk, e, hn⟩ := hall xs[k.toNat] (by simp)
  refine item_tupleT (j := k.toNat) ht (by omega) (by omega) (seqIdx_nonneg (by omega) hk) (by simp [hk]; exact e) (h n tk hn.1 hn.2) hs
theorem pick_mod {prog : Program} {w : World} {A : Around} {E : Value → Shared → Prop} {s : Shared} {value slice : PySem.Expr} {t : Addr} {xs : List Value} {k d : Int} {u : Tok} {Q : Value → Shared → Prop} (lo hi : Int)
    (ht : IsTup s.heap t xs.toArray) (hall : ∀ v ∈ xs, ∃ n tk, v = .int n tk ∧ lo ≤ n ∧ n ≤ hi) (hd : (xs.length : Int) = d) (hd6 : 0 < d ∧ d ≤ 6)
    (h : ∀ n tk, lo ≤ n → n ≤ hi → Q (.int n tk) s)
    (hs : subscripted slice false (.ref t) (.int (k.fmod d) u) = operate [.ref t, .int (k.fmod d) u] (getItem (.ref t) (.int (k.fmod d) u)) := by with_unfolding_all rfl) :
    wpAny (model prog w) A (subscriptTail value slice (.ref t) (.int (k.fmod d) u)) Q E s := by
  have h1 := Int.fmod_lt_of_pos k hd6.1
  refine pick_tup lo hi ht (by simpa using hall) (Int.fmod_nonneg_of_pos _ hd6.1) (by simpa [hd] using h1) ?_ h hs
  simp; omega
theorem pick_list {prog : Program} {w : World} {A : Around} {E : Value → Shared → Prop} {s : Shared} {value slice : PySem.Expr} {l : Addr} {vs : List Value} {ks : List Int} {k : Int} {u : Tok} {Q : Value → Shared → Prop} {P : Int → Prop}
    (hl : s.heap.IsList l vs.toArray) (hi : IntsAre vs ks) (hall : ∀ x ∈ ks, P x) (h0 : 0 ≤ k) (h1 : k < (ks.length : Int)) (h63 : (ks.length : Int) < 2 ^ 62)
    (h : ∀ n tk, P n → ks[k.toNat]? = some n → Q (.int n tk) s)
    (hs : subscripted slice false (.ref l) (.int k u) = operate [.ref l, .int k u] (getItem (.ref l) (.int k u)) := by with_unfolding_all rfl) :
    wpAny (model prog w) A (subscriptTail value slice (.ref l) (.int k u)) Q E s := by
  have hlen : vs.length = ks.length := IntsAre.length hi
  have hk : k.toNat < vs.length := by omega
  obtain ⟨n, tk, e, hn⟩ := IntsAre.at hi k.toNat vs[k.toNat] (List.getElem?_eq_getElem hk)
  refine tail_any hl.typeIs slot_list_getitem.lookup (wpAny_getItem_list hl h0 (by omega) (x := .int n tk) ?_ (h n tk (hall n (List.mem_of_getElem? hn)) hn)) hs
  rw [← e]; simp [hk]
local macro_rules | `(tactic| walk_at "exec Assign cons ListComp") => `(tactic| (k_dflt (refine LCg.Assign_ListComp_U (F₀ := by k_asm) (by rfl) (by with_unfolding_all rfl) (by with_unfolding_all rfl) (by decide) (by rfl) (by decide) (by rfl) (by rfl) (by rfl) ?_)))
local macro_rules | `(tactic| walk_at "eval ListComp") => `(tactic| (k_dflt (refine LCg.ListComp_U (F₀ := by k_asm) (by with_unfolding_all rfl) (by decide) (by rfl) (by decide) (by rfl) ?_)))
local macro_rules | `(tactic| walk_at "eval ListComp") => `(tactic| ((with_reducible show wpAny _ _ (eval (.ListComp _ [⟨_, .Tuple _ _ _, _, _⟩] _ _) _) _ _ _); k_dflt (refine ListComp_Tup (F₀ := by k_asm) (by with_unfolding_all rfl) (by decide) (by rfl) (by decide) (by rfl) ?_)))
set_option maxRecDepth 100000 in
set_option maxHeartbeats 4000000 in
theorem files_ok (w : World) (l : Addr) (vs0 : List Value) (ns : List Int) :
    Fn w 111 10 (fun h vs => vs = [.ref l] ∧ h.IsList l vs0.toArray ∧ IntsAre vs0 ns ∧ ns.length ≤ 63) (fun _ _ r h' => FilesIs r h') := by
  intro A s vs E R G hp
  obtain ⟨ha', dp', fr', gd', un'⟩ := A
  obtain rfl : ha' = none := R.hh
  have hdp' : dp' < recursionLimit := Nat.lt_of_le_of_lt (Nat.le_add_right _ _) R.dp
  have hun' : un' < cLine := Nat.lt_of_le_of_lt (Nat.le_add_right _ _) R.un
  have X := G.K
  have hK := kmark
  revert X hK
  k_fill
  intro X hK
  clear hK
  obtain ⟨loose, mean, mg, mb, T⟩ := G.T
  obtain ⟨rfl, hl, hi, hn⟩ := hp
  k_dflt (refine' enterC (binds := [(Str.ofString "script", .ref l)]) R G ?ho ?hcd ?hb ?hl ?hc ?_ ?c1 ?c2 ?c3; (case ho => k_is); (case hcd => k_is); (case hb => exact BindsTo.of_eq rfl); (case hl => rfl); (case hc => decide); (case c1 => exact rfl); (case c2 => exact rfl); (case c3 => exact rfl))
  intro L h₁ tk0 env cells he R' F N Y
  subst he
  obtain ⟨o1, o2, rfl, d1, d2⟩ := CellsAre.two Y
  replace F : Fr s.heap L h₁ (fun y => if y = Str.ofString "script" then some (.ref l) else none) := F
  replace d1 : o1.data = .cell none := d1
  replace d2 : o2.data = .cell none := d2
  clear Y
  iterate 80 (first | (with_reducible show wpAny _ _ (subscriptTail _ _ (Value.ref _) (Value.int _ _)) _ _ _; skip) | (with_reducible show TupSrc _ _ _ _ _ _ _ _ _ _ _ _ _ _; skip) | (with_reducible show LCg.CompSrc _ _ _ _ _ _ _ _ _ _ _ _ _ _; skip) | walk1 | (dsimp only; walk1))
  rename_i D1 _ _ _ _ hh1 tkk1 F1 N1 _
  have hM0 : 0 ≤ (ns.sum + 35309).fmod 65536 := Int.fmod_nonneg_of_pos _ (by decide)
  have hM1 : (ns.sum + 35309).fmod 65536 < 65536 := Int.fmod_lt_of_pos _ (by decide)
  generalize (ns.sum + 35309).fmod 65536 = M at *
  refine pick_mod 0 2048 (News.isTup (by assumption) (.head _)) ?_ (by rfl) (by decide) ?_
  · intro v hv; simp at hv; rcases hv with rfl | rfl | rfl <;> exact ⟨_, _, rfl, by decide, by decide⟩
  intro run trun run0 run1
  dsimp only
  iterate 80 (first | (with_reducible show wpAny _ _ (subscriptTail _ _ (Value.ref _) (Value.int _ _)) _ _ _; skip) | (with_reducible show TupSrc _ _ _ _ _ _ _ _ _ _ _ _ _ _; skip) | (with_reducible show LCg.CompSrc _ _ _ _ _ _ _ _ _ _ _ _ _ _; skip) | walk1 | (dsimp only; walk1))
  refine pick_mod 0 2048 (News.isTup (by assumption) (.head _)) ?_ (by rfl) (by decide) ?_
  · intro v hv; simp at hv; rcases hv with rfl | rfl | rfl <;> exact ⟨_, _, rfl, by decide, by decide⟩
  intro abv tabv abv0 abv1
  dsimp only
  iterate 80 (first | (with_reducible show wpAny _ _ (subscriptTail _ _ (Value.ref _) (Value.int _ _)) _ _ _; skip) | (with_reducible show TupSrc _ _ _ _ _ _ _ _ _ _ _ _ _ _; skip) | (with_reducible show LCg.CompSrc _ _ _ _ _ _ _ _ _ _ _ _ _ _; skip) | walk1 | (dsimp only; walk1))
  refine pick_mod 0 2048 (News.isTup (by assumption) (.head _)) ?_ (by rfl) (by decide) ?_
  · intro v hv; simp at hv; rcases hv with rfl | rfl | rfl | rfl | rfl | rfl <;> exact ⟨_, _, rfl, by decide, by decide⟩
  intro rgt trgt rgt0 rgt1
  dsimp only
  iterate 80 (first | (with_reducible show wpAny _ _ (subscriptTail _ _ (Value.ref _) (Value.int _ _)) _ _ _; skip) | (with_reducible show TupSrc _ _ _ _ _ _ _ _ _ _ _ _ _ _; skip) | (with_reducible show LCg.CompSrc _ _ _ _ _ _ _ _ _ _ _ _ _ _; skip) | walk1 | (dsimp only; walk1))
  refine TupSrc.intro rfl (by assumption) (by assumption) (.head _) (Nat.le_trans (show _ ≤ 6 from Nat.le_refl _) (by decide)) ?_
  intro g
  refine compU (fun i ys => ∃ ks, IntsAre ys ks ∧ ks.length = i ∧ ∀ k ∈ ks, 0 ≤ k ∧ k < 65536) ?_ ?_ ?_
  · exact ⟨[], .nil, rfl, by simp⟩
  · rintro i v I oI C oC D m₂ ys h tk E' hi hv ⟨ks, hks, hlen, hall⟩ hC hx F3 N3 off ne
    obtain ⟨x, tx, rfl, hx0, hx1⟩ : ∃ x tx, v = .int x tx ∧ 0 ≤ x ∧ x ≤ 4096 := by
      match i, hv with
      | 0, hv => cases hv; exact ⟨_, _, rfl, by decide, by decide⟩
      | 1, hv => cases hv; exact ⟨_, _, rfl, by omega, by omega⟩
      | 2, hv => cases hv; exact ⟨_, _, rfl, by omega, by omega⟩
      | 3, hv => cases hv; exact ⟨_, _, rfl, by omega, by omega⟩
      | 4, hv => cases hv; exact ⟨_, _, rfl, by decide, by decide⟩
      | 5, hv => cases hv; exact ⟨_, _, rfl, by omega, by omega⟩
      | n + 6, hv => simp at hv
    clear hv
    k_steps
    refine LCg.CompEnd.intro (by assumption) (by assumption) _ (fun p hp => hp) off ⟨_, .head _, rfl, _, rfl⟩ ⟨rfl, _, IntsAre.append hks (.cons _ _ .nil), by simp [hlen], ?_⟩
    intro k hk
    rcases List.mem_append.mp hk with hk | hk
    · exact hall k hk
    · rw [List.mem_singleton.mp hk]
      exact xor_bnd ⟨by assumption, by assumption⟩ ⟨hx0, by omega⟩
  · rename Fr _ _ _ _ => F0
    rename News _ _ _ _ => N0
    rintro ys ⟨ks, hks, hlen, hall⟩ D h tk F3 N3 o1
    clear F0 N0
    simp only [LCg.Off1, and_true] at o1
    dsimp only
    have bks := Box.mk hks
    have blen := Box.mk hlen
    have ball := Box.mk hall
    clear hks hlen hall
    repeat ((fail_if_success (with_reducible show LCg.CompSrc _ _ _ _ _ _ _ (.Subscript _ _ _) _ _ _ _ _ _)); first | walk1 | (dsimp only; walk1))
    rename Fr _ _ _ _ => F4
    rename News _ _ _ _ => N4
    rename IntsAre _ (_ ++ _ ++ _) => hws
    obtain ⟨src, hsrc, hb, hl6⟩ : ∃ src, IntsAre _ src ∧ (∀ x ∈ src, (0 : Int) ≤ x ∧ x < 6) ∧ 6 ≤ src.length ∧ src.length ≤ 12 := by
      refine ⟨_, hws, ?_, ?_⟩
      · have m6 : ∀ x : Int, 0 ≤ x.fmod 6 ∧ x.fmod 6 < 6 := fun x => ⟨Int.fmod_nonneg_of_pos _ (by decide), Int.fmod_lt_of_pos _ (by decide)⟩
        intro x hx
        simp only [List.mem_append, List.mem_cons, List.not_mem_nil, or_false, List.mem_map] at hx
        rcases hx with ((rfl | rfl | rfl) | ⟨y, _, rfl⟩) | (rfl | rfl | rfl) <;> first | exact m6 _ | decide
      · simp only [List.length_append, List.length_map, List.length_take, List.length_cons, List.length_nil]; omega
    have hsz := IntsAre.length hsrc
    refine LCg.CompSrc.ledger rfl F4 N4 (.head _) ?_ ?_
    · rw [List.size_toArray, hsz]; exact Nat.le_trans hl6.2 (by decide)
    intro g2
    refine compU (fun i ys => ∃ ks, IntsAre ys ks ∧ ks.length = i ∧ ∀ k ∈ ks, 0 ≤ k ∧ k < 65536) ?_ ?_ ?_
    · exact ⟨[], .nil, rfl, by simp⟩
    · rintro i v I oI C oC D m₂ ys h tk E' hi hv ⟨ks2, hks, hlen, hall⟩ hC hx F5 N5 off ne
      clear F4 N4
      obtain ⟨x, tx, rfl, hxs⟩ := IntsAre.at hsrc i v (by simpa using hv)
      obtain ⟨hx0, hx1⟩ := hb x (List.mem_of_getElem? hxs)
      have b2 := Box.mk hks
      have b3 := Box.mk hall
      have b4 := Box.mk hlen
      clear hks hall hlen
      k_steps
      have hk6 : ks.length = 6 := blen.out
      refine pick_list (News.isList N5 (by k_mem)) bks.out ball.out hx0 (by rw [hk6]; exact hx1) (by rw [hk6]; decide) ?_
      intro n tn hn _
      refine LCg.CompEnd.intro F5 N5 _ (fun p hp => hp) off (.inr ⟨_, .head _, rfl, _, rfl⟩) ⟨rfl, _, IntsAre.append b2.out (.cons _ _ .nil), by simp [b4.out], ?_⟩
      intro k hk
      rcases List.mem_append.mp hk with hk | hk
      · exact b3.out k hk
      · rw [List.mem_singleton.mp hk]; exact hn
    · rintro ys ⟨ks2, hks, hlen, hall⟩ D h tk F5 N5 o1
      clear F4 N4
      dsimp only
      refine ⟨keeps_of F5, D, ys.toArray, ks2, rfl, News.isList N5 (.head _), hks, hall, ?_, ?_⟩
      · rw [hlen, List.size_toArray, hsz]; exact hl6.1
      · rw [hlen, List.size_toArray, hsz]; exact hl6.2
end Mine
end
section
namespace Mine
section
def maxN (l : List Nat) : Nat := l.foldl max 0
theorem foldl_max_ge (l : List Nat) : ∀ a, a ≤ l.foldl max a ∧ (∀ x ∈ l, x ≤ l.foldl max a) ∧ (l.foldl max a = a ∨ l.foldl max a ∈ l) := by
  induction l with
  | nil => intro a; simp
  | cons y r ih =>
    intro a
    obtain ⟨h1, h2, h3⟩ := ih (max a y)
    refine ⟨by simp only [List.foldl_cons]; omega, ?_, ?_⟩
    · intro x hx
      simp only [List.foldl_cons]
      rcases List.mem_cons.mp hx with rfl | hx
      · omega
      · exact h2 x hx
    · simp only [List.foldl_cons]
      rcases h3 with h3 | h3
      · rw [h3]
        rcases Nat.le_total a y with h | h
        · right; rw [Nat.max_eq_right h]; exact List.mem_cons_self
        · left; exact Nat.max_eq_left h
      · right; exact List.mem_cons_of_mem _ h3
theorem maxN_mem {l : List Nat} (h : l ≠ []) : maxN l ∈ l := by
  obtain ⟨h1, h2, h3⟩ := foldl_max_ge l 0
  rcases h3 with h3 | h3
  · cases l with
    | nil => exact absurd rfl h
    | cons y r =>
      have := h2 y List.mem_cons_self
      have hy : y = 0 := by omega
      unfold maxN
      rw [h3, hy]; exact List.mem_cons_self
  · exact h3
theorem maxN_ge {l : List Nat} {x : Nat} (h : x ∈ l) : x ≤ maxN l := (foldl_max_ge l 0).2.1 x h
theorem maxN_eq {l : List Nat} {M : Nat} (h : M ∈ l) (h2 : ∀ a ∈ l, a ≤ M) : maxN l = M := by
  have h1 := maxN_ge h
  have h3 := h2 _ (maxN_mem (List.ne_nil_of_mem h))
  omega
variable (S : Nat → Nat → Bool) (n : Nat)
def waysN (f : Nat) : List Nat := (f + 1) :: ((List.range (n + 1 - (f + 2))).map fun i => f + 2 + i).filter fun b => S f (b - 1)
def endsN : Nat → List Nat
  | 0 => [0]
  | k + 1 => (List.range (n + 1)).filter fun p => (endsN k).any fun f => decide (p ∈ waysN S n f)
def farN (k : Nat) : Nat := maxN (endsN S n k)
def reachN (f : Nat) : Nat := maxN (waysN S n f)
def grN : Nat → Nat × List Nat
  | 0 => (0, [])
  | i + 1 => if S (grN i).1 (i + 1) = true then grN i else (i + 1, (grN i).2 ++ [i + 1])
variable {S n}
theorem mem_ways {f b : Nat} : b ∈ waysN S n f ↔ b = f + 1 ∨ (f + 2 ≤ b ∧ b ≤ n ∧ S f (b - 1) = true) := by
  unfold waysN
  rw [List.mem_cons, List.mem_filter, List.mem_map]
  constructor
  · rintro (h | ⟨⟨i, hi, rfl⟩, h⟩)
    · exact .inl h
    · rw [List.mem_range] at hi
      exact .inr ⟨by omega, by omega, h⟩
  · rintro (h | ⟨h1, h2, h3⟩)
    · exact .inl h
    · refine .inr ⟨⟨b - (f + 2), List.mem_range.mpr (by omega), by omega⟩, h3⟩
theorem mem_ends {k p : Nat} : p ∈ endsN S n (k + 1) ↔ p ≤ n ∧ ∃ f ∈ endsN S n k, p ∈ waysN S n f := by
  show p ∈ List.filter _ _ ↔ _
  rw [List.mem_filter, List.mem_range, List.any_eq_true]
  constructor
  · rintro ⟨h1, f, hf, h2⟩
    exact ⟨by omega, f, hf, of_decide_eq_true h2⟩
  · rintro ⟨h1, f, hf, h2⟩
    exact ⟨by omega, f, hf, decide_eq_true h2⟩
theorem ends_le {k p : Nat} (h : p ∈ endsN S n k) : p ≤ n := by
  cases k with
  | zero =>
    have : p = 0 := by simpa [endsN] using h
    omega
  | succ k => exact (mem_ends.mp h).1
theorem far_step {k : Nat} (hne : endsN S n k ≠ []) (h : farN S n k < n) : endsN S n (k + 1) ≠ [] ∧ farN S n k < farN S n (k + 1) := by
  have h1 : farN S n k ∈ endsN S n k := maxN_mem hne
  have h2 : farN S n k + 1 ∈ endsN S n (k + 1) := mem_ends.mpr ⟨by omega, _, h1, mem_ways.mpr (.inl rfl)⟩
  exact ⟨List.ne_nil_of_mem h2, Nat.lt_of_succ_le (maxN_ge h2)⟩
theorem ends_ne : ∀ {k : Nat}, (∀ j < k, farN S n j < n) → endsN S n k ≠ []
  | 0, _ => by simp [endsN]
  | k + 1, h => (far_step (ends_ne fun j hj => h j (by omega)) (h k (by omega))).1
theorem far_ge : ∀ {k : Nat}, (∀ j < k, farN S n j < n) → k ≤ farN S n k
  | 0, _ => Nat.zero_le _
  | k + 1, h => by
    have h1 := far_ge (k := k) fun j hj => h j (by omega)
    have h2 := (far_step (ends_ne fun j hj => h j (by omega)) (h k (by omega))).2
    omega
theorem reach_mem (f : Nat) : reachN S n f ∈ waysN S n f := maxN_mem (by simp [waysN])
theorem reach_le {f : Nat} (h : f < n) : reachN S n f ≤ n := by
  rcases mem_ways.mp (reach_mem (S := S) (n := n) f) with h1 | h1 <;> omega
/-- what stands, stands cut at either side -/
structure Mono (S : Nat → Nat → Bool) : Prop where
  pre : ∀ f b b', S f b = true → f ≤ b' → b' ≤ b → S f b' = true
  suf : ∀ f f' b, S f b = true → f ≤ f' → f' ≤ b → S f' b = true
  zero : ∀ b, S 0 b = false
variable (M : Mono S)
include M
theorem reach_mono {a b : Nat} (hab : a ≤ b) (hb : b < n) : reachN S n a ≤ reachN S n b := by
  have h1 := reach_mem (S := S) (n := n) a
  have h2 : b + 1 ≤ reachN S n b := maxN_ge (mem_ways.mpr (.inl rfl))
  by_cases hc : reachN S n a ≤ reachN S n b
  · exact hc
  · rcases mem_ways.mp h1 with h | ⟨h3, h4, h5⟩
    · omega
    · have : reachN S n a ∈ waysN S n b := mem_ways.mpr (.inr ⟨by omega, h4, M.suf _ _ _ h5 hab (by omega)⟩)
      exact maxN_ge this
theorem far_reach {k : Nat} (h : ∀ j < k + 1, farN S n j < n) : farN S n (k + 1) = reachN S n (farN S n k) := by
  have hk := h k (by omega)
  have hne := ends_ne (k := k) fun j hj => h j (by omega)
  refine maxN_eq (mem_ends.mpr ⟨reach_le hk, _, maxN_mem hne, reach_mem _⟩) fun p hp => ?_
  obtain ⟨h1, f, hf, h2⟩ := mem_ends.mp hp
  exact Nat.le_trans (maxN_ge h2) (reach_mono M (maxN_ge hf) hk)
theorem reach_cut {f i : Nat} (hf : f ≤ i) (hi : i < n) (hs : f < i → S f i = true) (hn : S f (i + 1) = false) : reachN S n f = i + 1 := by
  refine maxN_eq ?_ fun b hb => ?_
  · by_cases h : f = i
    · exact mem_ways.mpr (.inl (by omega))
    · exact mem_ways.mpr (.inr ⟨by omega, by omega, hs (by omega)⟩)
  · rcases mem_ways.mp hb with h | ⟨h1, h2, h3⟩
    · omega
    · by_cases hc : b ≤ i + 1
      · exact hc
      · have := M.pre _ _ (i + 1) h3 (by omega) (by omega)
        rw [hn] at this; cases this
theorem reach_end {f : Nat} (hf : f < n) (hs : S f n = true) : reachN S n f = n := by
  refine maxN_eq ?_ fun b hb => ?_
  · by_cases h : f + 1 = n
    · exact mem_ways.mpr (.inl h.symm)
    · exact mem_ways.mpr (.inr ⟨by omega, by omega, M.pre _ _ _ hs (by omega) (by omega)⟩)
  · rcases mem_ways.mp hb with h | ⟨h1, h2, h3⟩ <;> omega
theorem gr_inv : ∀ i, i ≤ n → ∃ j, (∀ q < j, farN S n q < n) ∧ grN S i = (farN S n j, (List.range j).map fun q => farN S n (q + 1)) ∧ farN S n j ≤ i ∧ (farN S n j < i → S (farN S n j) i = true) ∧ (0 < j → S (farN S n (j - 1)) (farN S n j) = false)
  | 0, _ => ⟨0, fun q h => absurd h (Nat.not_lt_zero _), by simp [grN, farN, endsN, maxN], by simp [farN, endsN, maxN], by simp [farN, endsN, maxN], fun h => absurd h (Nat.lt_irrefl _)⟩
  | i + 1, hi => by
    obtain ⟨j, h1, h2, h3, h4, h5⟩ := gr_inv i (by omega)
    by_cases hs : S (farN S n j) (i + 1) = true
    · refine ⟨j, h1, ?_, by omega, fun _ => hs, h5⟩
      unfold grN
      rw [h2, if_pos hs]
    · have hs' : S (farN S n j) (i + 1) = false := by simpa using hs
      have hlt : ∀ q < j + 1, farN S n q < n := by
        intro q hq
        by_cases e : q = j
        · subst e; omega
        · exact h1 q (by omega)
      have hr : farN S n (j + 1) = i + 1 := (far_reach M hlt).trans (reach_cut M h3 (by omega) h4 hs')
      refine ⟨j + 1, hlt, ?_, by omega, fun h => by omega, fun _ => ?_⟩
      · unfold grN
        rw [h2, if_neg hs, List.range_succ, List.map_append, hr]
        simp [hr]
      · show S (farN S n j) _ = false
        rw [hr]; exact hs'
theorem gr_far (hn : 2 ≤ n) (K : Nat) (hK : farN S n K = n) (hlt : ∀ j < K, farN S n j < n) : 2 ≤ K ∧
    (((grN S n).1 = n ∧ (grN S n).2 = (List.range K).map (fun q => farN S n (q + 1)) ∧ S (farN S n (K - 1)) n = false) ∨
     ((grN S n).1 < n ∧ (grN S n).2 = ((List.range K).map (fun q => farN S n (q + 1))).dropLast ∧ (grN S n).1 = farN S n (K - 1) ∧ S (farN S n (K - 1)) n = true)) := by
  have h0 : farN S n 0 = 0 := by simp [farN, endsN, maxN]
  have hf1 : farN S n 1 = 1 := by
    have := far_reach M (n := n) (k := 0) (fun j hj => by have : j = 0 := by omega
                                                          subst this; omega)
    rw [this, h0]
    exact reach_cut M (Nat.le_refl 0) (by omega) (fun h => absurd h (Nat.lt_irrefl _)) (M.zero _)
  have hK2 : 2 ≤ K := by
    match K, hK with
    | 0, hK => omega
    | 1, hK => omega
    | k + 2, _ => omega
  refine ⟨hK2, ?_⟩
  obtain ⟨j, h1, h2, h3, h4, h5⟩ := gr_inv M n (Nat.le_refl n)
  rw [h2]
  by_cases he : farN S n j = n
  · have hj : j = K := by
      rcases Nat.lt_trichotomy j K with h | h | h
      · have := hlt j h; omega
      · exact h
      · have := h1 K h; omega
    subst hj
    have := h5 (by omega)
    rw [he] at this
    exact .inl ⟨he, rfl, this⟩
  · have hl : farN S n j < n := by omega
    have hS := h4 hl
    have hlt' : ∀ q < j + 1, farN S n q < n := by
      intro q hq
      by_cases e : q = j
      · subst e; omega
      · exact h1 q (by omega)
    have hr : farN S n (j + 1) = n := (far_reach M hlt').trans (reach_end M hl hS)
    have hj : j + 1 = K := by
      rcases Nat.lt_trichotomy (j + 1) K with h | h | h
      · have := hlt _ h; omega
      · exact h
      · have := hlt' K h; omega
    subst hj
    refine .inr ⟨hl, ?_, rfl, hS⟩
    rw [List.range_succ, List.map_append]
    simp
end
end Mine
end
section
open PySem PySem.W PyProof.Rows PySem.Spec PySem.Calls
namespace Mine
section
variable {prog : Program} {w : World} {A : Around} {E : Value → Shared → Prop} {s : Shared} {h₀ : Heap} {L : Addr} {m : Str → Option Value} {env : Env}
theorem newEnv_cell {scope : Scope} {globals : Addr} {cl : List (Str × Addr)} {x : Str} {qual : Str} {Q : Env → Shared → Prop}
    (hcells : ∀ c, cellsFrom c scope.names cl = (x, c) :: cl) (hpush : ∀ h, pushCells h scope.names = h.push { cls := .type "cell", data := .cell none })
    (hQ : ∀ h', h'.Ns s.heap.objs.size (fun _ => none) → h'.IsCell (s.heap.objs.size + 1) none → (∀ b o, s.heap.get? b = some o → h'.get? b = some o) →
      Q { scope, locals := s.heap.objs.size, globals, cells := (x, s.heap.objs.size + 1) :: cl, qual, func := none, code := env.code, frame := env.frame, builtins := env.builtins } { s with heap := h' }) :
    wpAny (model prog w) A (newFunctionEnv scope globals cl [] qual none .none (some env)) Q E s := by
  simp only [newFunctionEnv, Option.isSome_some, if_true]
  refine wpAny_bind (wpAny_alloc ?_)
  refine wpAny_bind (wpAny_layCells _ (fun name kind cells => by cases hkc : kind == NameKind.cell <;> simp [hkc]) _ _ _ _ ?_)
  rw [hcells, hpush]
  rw [show ({ s with heap := s.heap.push { cls := .type "dict", data := .dict #[] } } : Shared).heap.objs.size = s.heap.objs.size + 1 from Heap.size_push ..]
  refine wpAny_bind ?_
  rw [List.forIn_nil]
  refine wpAny_pure (wpAny_pure (hQ _ ?_ ?_ ?_))
  · exact (Heap.Ns.new s.heap (.type "dict")).keeps fun b o e => Heap.get?_push_of_some _ e
  · refine ⟨{ cls := .type "cell", data := .cell none }, ?_, rfl⟩
    have := Heap.get?_push_size (s.heap.push { cls := .type "dict", data := .dict #[] }) (o := { cls := .type "cell", data := .cell none }) rfl
    rwa [Heap.size_push] at this
  · intro b o e
    exact Heap.get?_push_of_some _ (Heap.get?_push_of_some _ e)
def CompEndC (h₀ : Heap) (L : Addr) (m : Str → Option Value) (s₁ : Shared) (all : List (Addr × Obj)) (rest : Value → Prop) (y : Value) (s₂ : Shared) : Prop :=
  ∃ h' tk, s₂ = { s₁ with heap := h', toks := tk } ∧ Fr h₀ L h' m ∧ News h₀ L h' all ∧ rest y
theorem CompEndC.intro {s₁ : Shared} {all all' : List (Addr × Obj)} {rest : Value → Prop} {y : Value} {h' : Heap} {tk : Nat} (F : Fr h₀ L h' m) (N : News h₀ L h' all') (sub : ∀ p ∈ all, p ∈ all') (r : rest y) :
    CompEndC h₀ L m s₁ all rest y { s₁ with heap := h', toks := tk } := ⟨h', tk, rfl, F, fun p hp => N p (sub p hp), r⟩
/-- what a turn of such a comprehension must do -/
def TurnC (prog : Program) (w : World) (A : Around) (h₀ : Heap) (L : Addr) (m : Str → Option Value) (env : Env) (ct elt : PySem.Expr) (x : Str) (scope : Scope) (cl : List (Str × Addr)) (s₁ : Shared) (news : List (Addr × Obj)) (a : Int) (n : Nat) (Inv : Nat → List Value → Prop) : Prop :=
  ∀ i ys I oI C oC c oc D m₂ h tk tv (E' : Value → Shared → Prop), i < n → Inv i ys → LCg.NsObj oC m₂ → oc.data = .cell (some (.int (a + (i : Int)) tv)) → Fr h₀ L h m → News h₀ L h ((c, oc) :: (I, oI) :: (C, oC) :: (D, LCg.lst ys) :: news) →
    wpAny (model prog w) A (isTrue ct (compEnvC scope ((x, c) :: cl) C env) (eval ct (compEnvC scope ((x, c) :: cl) C env))) (fun ok s' => if ok = true then
      wpAny (model prog w) A (eval elt (compEnvC scope ((x, c) :: cl) C env)) (CompEndC h₀ L m { s₁ with heap := h, toks := tk } ((c, oc) :: (I, oI) :: (C, oC) :: (D, LCg.lst ys) :: news) (fun y => Inv (i + 1) (ys ++ [y]))) E' s'
      else CompEndC h₀ L m { s₁ with heap := h, toks := tk } ((c, oc) :: (I, oI) :: (C, oC) :: (D, LCg.lst ys) :: news) (fun _ => Inv (i + 1) ys) Value.none s') E' { s₁ with heap := h, toks := tk }
def SrcC (prog : Program) (w : World) (A : Around) (h₀ : Heap) (L : Addr) (m : Str → Option Value) (env : Env) (ct elt : PySem.Expr) (x : Str) (scope : Scope) (cl : List (Str × Addr)) (Q : Value → Shared → Prop) (xv : Value) (s₁ : Shared) : Prop :=
  ∃ r a b t u v n news Inv, xv = .ref r ∧ A.handled = none ∧ Fr h₀ L s₁.heap m ∧ News h₀ L s₁.heap news ∧ IsRange s₁.heap r a b 1 t u v ∧ Builtin.Range.small a b 1 = true ∧ Builtin.Range.rangeSize a b 1 = ((n : Nat) : Int) ∧ n ≤ sizeLine ∧ Inv 0 [] ∧
    (∀ g, TurnC prog w A h₀ L m env ct elt x scope cl { s₁ with heap := g } news a n Inv) ∧
    (∀ ys D h tk, Inv n ys → Fr h₀ L h m → News h₀ L h ((D, LCg.lst ys) :: news) → LCg.Off1 D news → Q (.ref D) { s₁ with heap := h, toks := tk })
theorem SrcC.intro {ct elt : PySem.Expr} {x : Str} {scope : Scope} {cl : List (Str × Addr)} {Q : Value → Shared → Prop} {s₁ : Shared} {r : Addr} {a b : Int} {t u v : Tok} {n : Nat} {news : List (Addr × Obj)}
    (hh : A.handled = none) (F : Fr h₀ L s₁.heap m) (N : News h₀ L s₁.heap news) (hr : IsRange s₁.heap r a b 1 t u v) (hsm : Builtin.Range.small a b 1 = true) (hn : Builtin.Range.rangeSize a b 1 = ((n : Nat) : Int)) (hsz : n ≤ sizeLine)
    (Inv : Nat → List Value → Prop) (h0 : Inv 0 []) (turn : ∀ g, TurnC prog w A h₀ L m env ct elt x scope cl { s₁ with heap := g } news a n Inv)
    (fin : ∀ ys D h tk, Inv n ys → Fr h₀ L h m → News h₀ L h ((D, LCg.lst ys) :: news) → LCg.Off1 D news → Q (.ref D) { s₁ with heap := h, toks := tk }) :
    SrcC prog w A h₀ L m env ct elt x scope cl Q (.ref r) s₁ := ⟨r, a, b, t, u, v, n, news, Inv, rfl, hh, F, N, hr, hsm, hn, hsz, h0, turn, fin⟩
theorem off1_of {D : Addr} : ∀ {l : List (Addr × Obj)}, (∀ p ∈ l, p.1 ≠ D) → LCg.Off1 D l
  | [], _ => trivial
  | _ :: _, h => ⟨h _ (.head _), off1_of fun p hp => h p (.tail _ hp)⟩
theorem block_C {ct elt iter : PySem.Expr} {x : Str} {px : Pos} {scope : Scope} {cl : List (Str × Addr)} {pos : Pos} {s₂ : Shared} {I : Addr} {fp : List Addr} {n : Nat} {a : Int} {St : Nat → Heap → Prop} {news : List (Addr × Obj)} {Inv : Nat → List Value → Prop}
    {RR : Value → Addr → Result → Shared → Prop}
    (W : Walks prog w A I fp [I] n (fun i v => ∃ t, v = .int (a + (i : Int)) t) St) (hsz : n ≤ sizeLine) (hIo : ∀ i h, St i h → ∃ o, h.get? I = some o)
    (hSt : ∀ i h h' o nw, St i h → h.get? I = some o → h'.get? I = some o → (∀ b o, h₀.get? b = some o → h'.get? b = some o) → News h₀ L h' nw → True → St i h')
    (hcells : ∀ c, cellsFrom c scope.names cl = (x, c) :: cl) (hpush : ∀ h, pushCells h scope.names = h.push { cls := .type "cell", data := .cell none })
    (hkind : scope.kind = .function) (hx : (relabel scope env).names.lookup x = some .cell) (hst : St 0 s₂.heap) (hfp : ∀ b ∈ fp, b < s₂.heap.objs.size)
    (F : Fr h₀ L s₂.heap m) (N : News h₀ L s₂.heap news) (hIL : L ≠ I) (hI₀ : h₀.get? I = none) (off : ∀ p ∈ news, p.1 ≠ I) (h0 : Inv 0 [])
    (R : TurnC prog w A h₀ L m env ct elt x scope cl s₂ news a n Inv)
    (hRR : ∀ D C h tk m' ys, Inv n ys → Fr h₀ L h m → News h₀ L h ((D, LCg.lst ys) :: news) → LCg.Off1 D news → h.Ns C m' → h₀.get? C = none → h₀.get? D = none → C ≠ L → D ≠ L → C ≠ D → (∀ p ∈ news, p.1 ≠ C) → RR (.ref D) C (.ok .next) { s₂ with heap := h, toks := tk }) :
    wpAny (model prog w) A (newList []) (fun acc s₃ => wpAny (model prog w) A (newFunctionEnv scope env.globals cl [] env.qual none .none (some env)) (fun cenv s₄ =>
      codeAny (model prog w) A (.compStart (.ListComp elt [⟨.Name x px, iter, [ct], 0⟩] scope pos) 0 (.ref I) acc { cenv with scope := relabel scope env }) (RR acc cenv.locals) s₄) E s₃) E s₂ := by
  refine wpAny_newObj_type (newEnv_cell hcells hpush (fun h₁ hns₁ hc₁ hk₁ => ?_))
  dsimp only at hns₁ hc₁ hk₁ ⊢
  generalize hH2 : s₂.heap.push { cls := .type "list", dict := none, data := .seq ([] : List Value).toArray } = H2 at hns₁ hc₁ hk₁ ⊢
  have hC : H2.objs.size = s₂.heap.objs.size + 1 := by rw [← hH2, Heap.size_push]
  generalize hCC : H2.objs.size = C at hns₁ hc₁ ⊢
  generalize hcc : C + 1 = c at hc₁ ⊢
  generalize hDD : s₂.heap.objs.size = D at hC ⊢
  have hCD : C = D + 1 := by rw [← hCC, hC]
  have nDC : D ≠ C := by rw [hCD]; exact Nat.ne_of_lt (Nat.lt_succ_self _)
  have nCc : C ≠ c := by rw [← hcc]; exact Nat.ne_of_lt (Nat.lt_succ_self _)
  have nDc : D ≠ c := by rw [← hcc, hCD]; exact Nat.ne_of_lt (Nat.lt_succ_of_lt (Nat.lt_succ_self _))
  have below : ∀ b, b < D → b ≠ C ∧ b ≠ D ∧ b ≠ c := fun b hb => ⟨by rw [hCD]; exact Nat.ne_of_lt (Nat.lt_succ_of_lt hb), Nat.ne_of_lt hb, by rw [← hcc, hCD]; exact Nat.ne_of_lt (Nat.lt_succ_of_lt (Nat.lt_succ_of_lt hb))⟩
  rw [hDD] at hfp
  have hDf : D ∉ fp := fun hm => Nat.lt_irrefl _ (hfp _ hm)
  have hCf : C ∉ fp := fun hm => (below _ (hfp _ hm)).1 rfl
  have hcf : c ∉ fp := fun hm => (below _ (hfp _ hm)).2.2 rfl
  have hIf : I ∈ fp := W.sub I (List.mem_singleton.mpr rfl)
  have hIlt : I < D := hfp I hIf
  have old : ∀ b o, s₂.heap.get? b = some o → h₁.get? b = some o := fun b o e => hk₁ b o (hH2 ▸ Heap.get?_push_of_some _ e)
  have hacc : h₁.get? D = some (LCg.lst []) := hk₁ _ _ (hH2 ▸ hDD ▸ Heap.get?_push_size _ rfl)
  have hst₁ : St 0 h₁ := W.frame _ _ _ hst fun b _ o e => old b o e
  have fresh : ∀ a, D ≤ a → s₂.heap.get? a = none := fun a ha => by
    cases e : s₂.heap.get? a with
    | none => rfl
    | some o' => exact absurd (Heap.lt_size e) (Nat.not_lt.mpr (hDD ▸ ha))
  have fresh₀ : ∀ a, D ≤ a → h₀.get? a = none := fun a ha => by
    cases e : h₀.get? a with
    | none => rfl
    | some o' => have := F.keep a o' e; rw [fresh a ha] at this; cases this
  have hD₀ : h₀.get? D = none := fresh₀ _ (Nat.le_refl _)
  have hC₀ : h₀.get? C = none := fresh₀ _ (by rw [hCD]; exact Nat.le_succ _)
  have hc₀ : h₀.get? c = none := fresh₀ _ (by rw [← hcc, hCD]; exact Nat.le_succ_of_le (Nat.le_succ _))
  have hLlt : L < D := hDD ▸ F.ns.lt
  have hDL : D ≠ L := Ne.symm (below L hLlt).2.1
  have hCL : C ≠ L := Ne.symm (below L hLlt).1
  have hcL : c ≠ L := Ne.symm (below L hLlt).2.2
  have hCI : I ≠ C := (below I hIlt).1
  have hDI : I ≠ D := (below I hIlt).2.1
  have hcI : I ≠ c := (below I hIlt).2.2
  have offn : ∀ p ∈ news, p.1 ≠ C ∧ p.1 ≠ D ∧ p.1 ≠ c := fun p hp => below _ (hDD ▸ Heap.lt_size (N p hp).1)
  have loop : ∀ s₃ : Shared, s₃ = { s₂ with heap := h₁ } →
      codeAny (model prog w) A (.compLoop (.ListComp elt [⟨.Name x px, iter, [ct], 0⟩] scope pos) 0 (.ref I) (.ref D) (compEnvC scope ((x, c) :: cl) C env))
        (RR (.ref D) C) s₃ := by
    rintro s₃ rfl
    refine codeAny_compLoop_tests
      (fun k s' => ∃ h' tk i ys m' v', s' = { s₂ with heap := h', toks := tk } ∧ i ≤ n ∧ k = n + 1 - i ∧ ys.length ≤ i ∧ St i h' ∧ Fr h₀ L h' m ∧ h'.Ns C m' ∧ h'.IsCell c v' ∧ News h₀ L h' ((D, LCg.lst ys) :: news) ∧ Inv i ys) ?_ (n + 1)
      ⟨h₁, _, 0, [], _, _, rfl, Nat.zero_le _, rfl, Nat.le_refl _, hst₁, F.keeps old, hns₁, hc₁, fun p hp => ?_, h0⟩
    · rintro k s' ⟨h', tk, i, ys, m', v', rfl, hi, rfl, hyl, hst', F', hn', hc', N', hInv⟩
      by_cases hlt : i < n
      · refine W.item i _ _ _ hlt hst' fun v h₂ tk₂ hPv hst₂ hk₂ => ?_
        obtain ⟨tv, rfl⟩ := hPv
        have hn₂ : h₂.Ns C m' := hn'.at' fun o e => hk₂ _ o (by simpa using Ne.symm hCI) e
        have hc₂ : h₂.IsCell c v' := by
          obtain ⟨o, e, r⟩ := hc'
          exact ⟨o, hk₂ _ o (by simpa using Ne.symm hcI) e, r⟩
        refine wpAny_assign_Name (wpAny_storeName_cell (env := compEnvC scope ((x, c) :: cl) C env) (c := c) hkind hx (by simp [compEnvC, List.lookup]) hc₂ (fun h₃ hc₃ hs₃ => ?_))
        refine wpAny_tests_one ?_
        have hst₃ : St (i + 1) h₃ := W.frame _ _ _ hst₂ fun b hb o e => hs₃.extBut b o (fun q => hcf (by have q' : b = c := q; rw [← q']; exact hb)) e
        have hn₃ : h₃.Ns C m' := hn₂.sameBut hs₃ nCc
        obtain ⟨oI, heI⟩ := hIo _ _ hst₃
        obtain ⟨oC, heC, hoC⟩ := LCg.ns_obj hn₃
        obtain ⟨oc, hec, hoc⟩ := hc₃
        have F₃ : Fr h₀ L h₃ m := (LCg.fr_but F' hk₂ hIL hI₀).change hs₃ hcL hc₀
        have N₂ : News h₀ L h₂ ((D, LCg.lst ys) :: news) := LCg.news_but N' hk₂ fun p hp => by
          rcases List.mem_cons.mp hp with rfl | hp
          · exact Ne.symm hDI
          · exact off p hp
        have N₃ : News h₀ L h₃ ((c, oc) :: (I, oI) :: (C, oC) :: (D, LCg.lst ys) :: news) := fun p hp => by
          rcases List.mem_cons.mp hp with rfl | hp
          · exact ⟨hec, hcL, hc₀⟩
          · rcases List.mem_cons.mp hp with rfl | hp
            · exact ⟨heI, Ne.symm hIL, hI₀⟩
            · rcases List.mem_cons.mp hp with rfl | hp
              · exact ⟨heC, hCL, hC₀⟩
              · have z := N₂ p hp
                refine ⟨hs₃.extBut _ _ ?_ z.1, z.2⟩
                rcases List.mem_cons.mp hp with rfl | hp
                · exact nDc
                · exact (offn p hp).2.2
        refine wpAny_mono (R i ys I oI C oC c oc D _ h₃ _ tv _ hlt hInv hoC hoc F₃ N₃) (fun ok s₄ h₄ => ?_) fun _ _ e => e
        cases ok with
        | true =>
          simp only [if_true] at h₄ ⊢
          refine wpAny_mono h₄ (fun y s₅ h₅ => ?_) fun _ _ e => e
          obtain ⟨h₄, tk₄, rfl, F₄, N₄, R₄⟩ := h₅
          have zc := (N₄ (c, oc) (.head _)).1
          have zI := (N₄ (I, oI) (.tail _ (.head _))).1
          have zC := (N₄ (C, oC) (.tail _ (.tail _ (.head _)))).1
          have zD := (N₄ (D, LCg.lst ys) (.tail _ (.tail _ (.tail _ (.head _))))).1
          have N₄' : News h₀ L h₄ news := fun p hp => N₄ p (.tail _ (.tail _ (.tail _ (.tail _ hp))))
          have hst₄ : St (i + 1) h₄ := hSt _ _ _ _ _ hst₃ heI zI F₄.keep N₄' trivial
          refine append_at (hsz := by show ys.toArray.size ≤ sizeLine; rw [List.size_toArray]; exact Nat.le_trans (Nat.le_trans hyl hi) hsz) zD fun h₅ hs₅ hD₅ => ?_
          refine ⟨n + 1 - (i + 1), by omega, h₅, tk₄, i + 1, ys ++ [y], _, _, rfl, hlt, rfl, by rw [List.length_append, List.length_singleton]; exact Nat.succ_le_succ hyl, W.frame _ _ _ hst₄ fun b hb o e => hs₅.extBut b o (fun q => hDf (q ▸ hb)) e, F₄.change hs₅ hDL hD₀,
            (hoC.ns zC).sameBut hs₅ (Ne.symm nDC), ⟨oc, hs₅.extBut _ _ (Ne.symm nDc) zc, hoc⟩, fun p hp => ?_, R₄⟩
          rcases List.mem_cons.mp hp with rfl | hp
          · exact ⟨hD₅.trans (congrArg some (LCg.lst_snoc ys y)), hDL, hD₀⟩
          · exact ⟨hs₅.extBut _ _ (offn p hp).2.1 (N₄' p hp).1, (N₄' p hp).2⟩
        | false =>
          simp only [Bool.false_eq_true, if_false] at h₄ ⊢
          obtain ⟨h₅, tk₄, rfl, F₄, N₄, R₄⟩ := h₄
          have zc := (N₄ (c, oc) (.head _)).1
          have zI := (N₄ (I, oI) (.tail _ (.head _))).1
          have zC := (N₄ (C, oC) (.tail _ (.tail _ (.head _)))).1
          have N₄' : News h₀ L h₅ news := fun p hp => N₄ p (.tail _ (.tail _ (.tail _ (.tail _ hp))))
          have hst₄ : St (i + 1) h₅ := hSt _ _ _ _ _ hst₃ heI zI F₄.keep N₄' trivial
          exact ⟨n + 1 - (i + 1), by omega, h₅, tk₄, i + 1, ys, _, _, rfl, hlt, rfl, Nat.le_succ_of_le hyl, hst₄, F₄, hoC.ns zC, ⟨oc, zc, hoc⟩, fun p hp => N₄ p (.tail _ (.tail _ (.tail _ hp))), R₄⟩
      · obtain rfl : i = n := Nat.le_antisymm hi (Nat.not_lt.mp hlt)
        refine W.done _ _ _ hst' fun h₂ tk₂ hk₂ => ?_
        exact hRR D C h₂ tk₂ _ ys hInv (LCg.fr_but F' hk₂ hIL hI₀) (LCg.news_but N' hk₂ fun p hp => by
          rcases List.mem_cons.mp hp with rfl | hp
          · exact Ne.symm hDI
          · exact off p hp) (off1_of fun p hp => (offn p hp).2.1) (hn'.at' fun o e => hk₂ _ o (by simpa using Ne.symm hCI) e) hC₀ hD₀ hCL hDL (Ne.symm nDC) (fun p hp => (offn p hp).1)
    · rcases List.mem_cons.mp hp with rfl | hp
      · exact ⟨hacc, hDL, hD₀⟩
      · exact ⟨old _ _ (N p hp).1, (N p hp).2⟩
  exact codeAny_compStart_list (loop _ rfl) (W.self 0 _ _ _ hst₁ (loop _ rfl))
theorem ListComp_C {ct elt iter : PySem.Expr} {x : Str} {px : Pos} {scope : Scope} {cl : List (Str × Addr)} {pos : Pos} {Q : Value → Shared → Prop} (F₀ : Fr h₀ L s.heap m)
    (hclos : closureFor scope env = pure cl) (hcells : ∀ c, cellsFrom c scope.names cl = (x, c) :: cl) (hpush : ∀ h, pushCells h scope.names = h.push { cls := .type "cell", data := .cell none }) (hkind : scope.kind = .function)
    (hnames : ∀ y ∈ scope.names, y.2 = .local → scope.names.lookup y.1 = some .local) (hx : (relabel scope env).names.lookup x = some .cell)
    (h : wpAny (model prog w) A (eval iter env) (SrcC prog w A h₀ L m env ct elt x scope cl Q) E s)
    (hs : ∀ x, foldedSetIterable iter env x = pure x := by intro _; rfl) :
    wpAny (model prog w) A (eval (.ListComp elt [⟨.Name x px, iter, [ct], 0⟩] scope pos) env) Q E s := by
  rw [eval_ListComp]
  refine wpAny_comprehension_free (use := none) rfl hs hclos hkind hnames (wpAny_mono h (fun xv s₁ h₁ => ?_) fun _ _ e => e)
  obtain ⟨r, a, b, t, u, v, n, news, Inv, rfl, hh, F, N, hr, hsm, hn, hsz, h0, turn, fin⟩ := h₁
  refine wpAny_pyIter_range hr hsm ?_
  refine block_C (LCg.range_walks hh a n) hsz (fun i h st => ⟨_, st⟩) LCg.range_st hcells hpush hkind hx (by show IsRangeIter _ _ _ _ _; rw [hn]; simpa using Heap.get?_push_size _ rfl) (fun b hb => ?_)
    (F.keeps fun _ _ e => Heap.get?_push_of_some _ e) (N.grown fun _ _ e => Heap.get?_push_of_some _ e) (Nat.ne_of_lt F.ns.lt) (next_is_new F) (fun p hp => Nat.ne_of_lt (Heap.lt_size (N p hp).1)) h0 (turn _) ?_
  · rw [List.mem_singleton.mp hb]
    show s₁.heap.objs.size < (s₁.heap.push _).objs.size
    rw [Heap.size_push]; exact Nat.lt_succ_self _
  · intro D C h tk m' ys hInv F' N' o1 hn hC₀ hD₀ hCL hDL hCD offC
    refine ⟨m', hn, fun h'' hs'' => fin ys D h'' tk hInv (F'.change hs'' hCL hC₀) (fun p hp => ?_) o1⟩
    refine ⟨hs''.extBut _ _ ?_ (N' p hp).1, (N' p hp).2⟩
    rcases List.mem_cons.mp hp with rfl | hp
    · exact Ne.symm hCD
    · exact offC p hp
end
end Mine
end
section
open PySem PySem.W PyProof.Rows PySem.Spec PySem.Calls
namespace Mine
section
variable {prog : Program} {w : World} {A : Around} {s : Shared} {env : Env} {h₀ : Heap}
def TurnW (h₀ : Heap) (L : Addr) (J : (Str → Option Value) → Heap → Prop) (s : Shared) (f : Flow) (s₃ : Shared) : Prop :=
  match f with
  | .brk => False
  | .ret _ => False
  | _ => ∃ h₃ tk₃ m₃, s₃ = { s with heap := h₃, toks := tk₃ } ∧ Fr h₀ L h₃ m₃ ∧ J m₃ h₃
theorem whileG {R : Result → Shared → Prop} {test : PySem.Expr} {body orelse : List Stmt} {m : Str → Option Value} (n : Nat) (mt : List Addr)
    (J : Nat → (Str → Option Value) → Heap → Prop) (hJ : ∀ k m h, J k m h → k ≤ n)
    (F : Fr h₀ env.locals s.heap m) (h0 : J 0 m s.heap)
    (turn : ∀ k m₁ h₂ tk, J k m₁ h₂ → Fr h₀ env.locals h₂ m₁ → News h₀ env.locals h₂ (restOf h₀ env.locals mt h₂) →
      wpAny (model prog w) A (isTrue test env (eval test env)) (fun b s₂ => if b = true then wpAny (model prog w) A (execs body env) (TurnW h₀ env.locals (J (k + 1)) s) (fun _ _ => False) s₂
        else wpAny (model prog w) A (execs orelse env) (fun f s₃ => R (.ok f) s₃) (fun _ _ => False) s₂) (fun _ _ => False) { s with heap := h₂, toks := tk }) :
    codeAny (model prog w) A (.whileLoop test body orelse env) R s := by
  refine codeAny_whileLoop (fun c s' => ∃ h' tk m' k, s' = { s with heap := h', toks := tk } ∧ Fr h₀ env.locals h' m' ∧ J k m' h' ∧ c = n - k) ?_ (n - 0) ⟨s.heap, s.toks, m, 0, rfl, F, h0, rfl⟩
  rintro c s' ⟨h', tk, m', k, rfl, F', hj, rfl⟩
  refine wpAny_mono (turn k m' h' tk hj F' rest_news) (fun b s₂ h₂ => ?_) fun _ _ e => e.elim
  by_cases hb : b = true
  · rw [if_pos hb] at h₂
    simp only [hb, if_true]
    refine wpAny_mono h₂ (fun f s₃ h₃ => ?_) fun _ _ e => e.elim
    have go : (∃ h₃ tk₃ m₃, s₃ = { s with heap := h₃, toks := tk₃ } ∧ Fr h₀ env.locals h₃ m₃ ∧ J (k + 1) m₃ h₃) → ∃ d, d < n - k ∧ ∃ h' tk m' k, s₃ = { s with heap := h', toks := tk } ∧ Fr h₀ env.locals h' m' ∧ J k m' h' ∧ d = n - k := by
      rintro ⟨h₃', tk₃, m₃, rfl, F₃, J₃⟩
      have := hJ _ _ _ J₃
      exact ⟨n - (k + 1), by omega, h₃', tk₃, m₃, k + 1, rfl, F₃, J₃, rfl⟩
    cases f with
    | next => exact go h₃
    | cont => exact go h₃
    | brk => exact h₃.elim
    | ret v => exact h₃.elim
  · rw [if_neg hb] at h₂
    have hb' : b = false := by simpa using hb
    subst hb'
    simp only [Bool.false_eq_true, if_false]
    exact wpAny_mono h₂ (fun f s₃ h₃ => h₃) fun _ _ e => e.elim
theorem While_G {Q : Flow → Shared → Prop} {test : PySem.Expr} {body orelse : List Stmt} {pos : Pos}
    (h : codeAny (model prog w) A (.whileLoop test body orelse env) (fun r s' => match r with | .ok f => Q f s' | .error _ => False) s) :
    wpAny (model prog w) A (exec (.While test body orelse pos) env) Q (fun _ _ => False) s := by
  refine wpAny_While (codeAny_mono h (fun r s' hr => ?_))
  cases r with
  | ok f => exact hr
  | error e => exact hr.elim
end
end Mine
end
section
open PySem PySem.W PyProof.Rows PySem.Spec PySem.Calls
namespace Mine
theorem WalkG.name {prog : Program} {w : World} {A : Around} {I : Addr} {fp wr : List Addr} {n : Nat} {P : Nat → Value → Prop} {St : Nat → Heap → Prop} (x : Str) (px : Pos) (W : Walks prog w A I fp wr n P St) :
    WalkG prog w A (.Name x px) I fp wr n (fun i v _ => P i v) St where
  sub := W.sub
  frame := W.frame
  item := fun i s Q hi st hQ => W.item i s _ _ hi st fun v h' tk hP hst hk => by
    show wpAny _ _ (letOwnedTupleGo (.Name x px) (.ref I) v) _ _ _
    exact wpAny_pure (hQ v h' tk hP hst hk)
  fin := fun s Q st hQ => W.done s _ _ st hQ
def FarIs (S : Nat → Nat → Bool) (n : Nat) (r : Value) (h : Heap) : Prop := ∃ K a vs, r = .ref a ∧ h.IsList a vs ∧ IntsAre vs.toList ((List.range K).map fun q => ((farN S n (q + 1) : Nat) : Int)) ∧ farN S n K = n ∧ ∀ j < K, farN S n j < n
theorem rest_ne {h₀ h : Heap} {L c : Addr} {mt : List Addr} (hc : c ∈ mt) : ∀ p ∈ restOf h₀ L mt h, p.1 ≠ c := fun p hp e => rest_off p hp (e ▸ hc)
/-- the lists of ways made so far -/
def WaysIs (bad : List Addr) (S : Nat → Nat → Bool) (n i : Nat) (refs : List Value) (h : Heap) : Prop :=
  refs.length = i ∧ ∀ f, f < i → ∃ a vs, refs[f]? = some (.ref a) ∧ a ∉ bad ∧ h.IsList a vs ∧ IntsAre vs.toList ((waysN S n f).map fun b => ((b : Nat) : Int))
theorem WaysIs.keeps {bad : List Addr} {S : Nat → Nat → Bool} {n i : Nat} {refs : List Value} {h h' : Heap} (x : WaysIs bad S n i refs h) (hk : ∀ b o, b ∉ bad → h.get? b = some o → h'.get? b = some o) : WaysIs bad S n i refs h' := by
  refine ⟨x.1, fun f hf => ?_⟩
  obtain ⟨a, vs, e1, e2, ⟨o, e3, e4⟩, e5⟩ := x.2 f hf
  exact ⟨a, vs, e1, e2, ⟨o, hk _ _ e2 e3, e4⟩, e5⟩
theorem natlt4 {L W : Nat} (h : L + 1 + 1 + 1 + 1 < W) : L + 1 + 1 + 1 + 1 < W := h
theorem natlt {a b : Nat} (h : a < b) : a < b := h
theorem mt_off {L W I : Nat} (h1 : L + 1 + 1 + 1 + 1 < W) (h2 : W < I) : ∀ a ∈ [L + 1 + 1 + 1, W], a ∉ [I] := by
  intro a ha
  simp only [List.mem_cons, List.not_mem_nil, or_false] at ha ⊢
  rcases ha with rfl | rfl <;> intro e <;> omega
def wayL (S : Nat → Nat → Bool) (i j : Nat) : List Int := (((List.range j).map fun q => i + 2 + q).filter fun b => S i (b - 1)).map fun b => ((b : Nat) : Int)
theorem way_snoc {S : Nat → Nat → Bool} {i j : Nat} {ys : List Value} {v : Int} {t : Tok} (h : IntsAre ys (wayL S i j)) (hb : S i (i + 2 + j - 1) = true) (hv : v = ((i + 2 + j : Nat) : Int)) : IntsAre (ys ++ [.int v t]) (wayL S i (j + 1)) := by
  have e : wayL S i (j + 1) = wayL S i j ++ [((i + 2 + j : Nat) : Int)] := by
    unfold wayL
    rw [List.range_succ, List.map_append, List.filter_append, List.map_append, List.map_singleton, List.filter_cons_of_pos (by simpa using hb), List.filter_nil]; rfl
  rw [e, ← hv]
  exact IntsAre.append h (.cons _ _ .nil)
theorem way_skip {S : Nat → Nat → Bool} {i j : Nat} {ys : List Value} (h : IntsAre ys (wayL S i j)) (hb : ¬ S i (i + 2 + j - 1) = true) : IntsAre ys (wayL S i (j + 1)) := by
  have e : wayL S i (j + 1) = wayL S i j := by
    unfold wayL
    rw [List.range_succ, List.map_append, List.filter_append, List.map_append, List.map_singleton, List.filter_cons_of_neg (by simpa using hb), List.filter_nil]; simp
  rw [e]; exact h
theorem way_len (S : Nat → Nat → Bool) (i j : Nat) : (wayL S i j).length ≤ j := by
  unfold wayL
  rw [List.length_map]
  exact Nat.le_trans (List.length_filter_le _ _) (by simp)
theorem way_eq (S : Nat → Nat → Bool) (n i : Nat) : (waysN S n i).map (fun b => ((b : Nat) : Int)) = ((i : Int) + 1) :: wayL S i (n + 1 - (i + 2)) := by
  unfold waysN wayL
  rw [List.map_cons]
  simp
structure WayJ (L W I : Nat) (m0 : Str → Option Value) (oK oW oE : Obj) (S : Nat → Nat → Bool) (n i : Nat) (m : Str → Option Value) (h : Heap) : Prop where
  hm : m = m0
  hK : h.get? (L + 1) = some oK
  hW : h.get? (L + 1 + 1) = some oW
  hE : h.get? (L + 1 + 1 + 1 + 1) = some oE
  hF : ∃ oF vF, h.get? (L + 1 + 1 + 1) = some oF ∧ oF.data = .cell vF
  hL : ∃ refs k, h.get? W = some (PySem.W.listOf refs.toArray k) ∧ WaysIs [L, I, L + 1 + 1 + 1, W, L + 1 + 1 + 1 + 1] S n i refs h
theorem way_end {h₀ h9 h10 : Heap} {L W I D : Nat} {m0 : Str → Option Value} {oK oW oE oF : Obj} {S : Nat → Nat → Bool} {n i kk : Nat} {refs ws : List Value} {x1 x2 : Addr × Obj} {v : Option Value} {a b c : Int}
    (F9 : Fr h₀ L h9 m0) (F10 : Fr h₀ L h10 m0)
    (N10 : News h₀ L h10 ((D, PySem.W.listOf ws.toArray 0) :: x1 :: x2 :: (W, PySem.W.listOf (refs.toArray.push (.ref D)) (kk + 1)) :: (L + 1 + 1 + 1 + 1, oE) :: (L + 1 + 1 + 1, oF) :: (L + 1 + 1, oW) :: (L + 1, oK) :: restOf h₀ L [L + 1 + 1 + 1, W] h9))
    (hF : oF.data = .cell v) (h1 : W < D) (h3 : L + 1 + 1 + 1 + 1 < W) (h4 : W < I) (hI : IsRangeIter h9 I a b c)
    (jw : WaysIs [L, I, L + 1 + 1 + 1, W, L + 1 + 1 + 1 + 1] S n i refs h9) (hws : IntsAre ws ((waysN S n i).map fun b => ((b : Nat) : Int))) : WayJ L W I m0 oK oW oE S n (i + 1) m0 h10 := by
  have N11 : News h₀ L h10 (restOf h₀ L [L + 1 + 1 + 1, W] h9) := fun p hp => N10 p (.tail _ (.tail _ (.tail _ (.tail _ (.tail _ (.tail _ (.tail _ (.tail _ hp))))))))
  have hD := N10 _ (.head _)
  have nIL : I ≠ L := by omega
  have nIm : I ∉ [L + 1 + 1 + 1, W] := by simp; omega
  have hDI : D ≠ I := by
    rintro rfl
    have := rest_kept F9 F10 N11 nIL nIm hI
    rw [hD.1] at this
    have h8 := congrArg Obj.cls (Option.some.inj this)
    exact absurd (Value.type.inj h8) (by decide)
  refine ⟨rfl, (N10 (L + 1, oK) (by k_mem)).1, (N10 (L + 1 + 1, oW) (by k_mem)).1, (N10 (L + 1 + 1 + 1 + 1, oE) (by k_mem)).1, ⟨oF, v, (N10 (L + 1 + 1 + 1, oF) (by k_mem)).1, hF⟩, refs ++ [.ref D], kk + 1, ?_, ?_, ?_⟩
  · have := (N10 (W, _) (.tail _ (.tail _ (.tail _ (.head _))))).1
    simpa using this
  · simp [jw.1]
  · intro f hf
    by_cases e : f < i
    · obtain ⟨x, vs, e1, e2, ⟨o, e3, e4⟩, e5⟩ := jw.2 f e
      have e2' := e2
      simp only [List.mem_cons, List.not_mem_nil, or_false, not_or] at e2'
      refine ⟨x, vs, ?_, e2, ⟨o, rest_kept F9 F10 N11 e2'.1 (by simp; exact ⟨e2'.2.2.1, e2'.2.2.2.1⟩) e3, e4⟩, e5⟩
      rw [List.getElem?_append_left (by rw [jw.1]; exact e)]; exact e1
    · have hfi : f = i := by omega
      subst hfi
      refine ⟨D, ws.toArray, ?_, ?_, ⟨_, hD.1, rfl, _, rfl⟩, by simpa using hws⟩
      · rw [← jw.1]; simp
      · have h5 : D ≠ L := by omega
        have h6 : D ≠ L + 1 + 1 + 1 := by omega
        have h7 : D ≠ W := by omega
        have h8 : D ≠ L + 1 + 1 + 1 + 1 := by omega
        simp [h5, h6, h7, h8, hDI]
theorem max_cast {l : List Nat} {M : Int} (h : M ∈ l.map fun b => ((b : Nat) : Int)) (h2 : ∀ a, (a ∈ l.map fun b => ((b : Nat) : Int)) → a ≤ M) : M = ((maxN l : Nat) : Int) := by
  obtain ⟨x, hx, rfl⟩ := List.mem_map.mp h
  have := maxN_eq hx fun a ha => by
    have := h2 _ (List.mem_map_of_mem ha)
    omega
  rw [this]
def endL (S : Nat → Nat → Bool) (n k i : Nat) : List Int := ((List.range i).filter fun p => (endsN S n k).any fun f => decide (p ∈ waysN S n f)).map fun b => ((b : Nat) : Int)
theorem ends_len (S : Nat → Nat → Bool) (n k : Nat) : (endsN S n k).length ≤ n + 1 := by
  cases k with
  | zero => simp [endsN]
  | succ k => exact Nat.le_trans (List.length_filter_le _ _) (by simp)
theorem pick_ref {prog : Program} {w : World} {A : Around} {E : Value → Shared → Prop} {s : Shared} {value slice : PySem.Expr} {l : Addr} {vs : List Value} {f : Nat} {u : Tok} {x : Value} {Q : Value → Shared → Prop}
    (hl : s.heap.IsList l vs.toArray) (hx : vs[f]? = some x) (h63 : (f : Int) < 2 ^ 62) (h : Q x s)
    (hs : subscripted slice false (.ref l) (.int (f : Int) u) = operate [.ref l, .int (f : Int) u] (getItem (.ref l) (.int (f : Int) u)) := by with_unfolding_all rfl) :
    wpAny (model prog w) A (subscriptTail value slice (.ref l) (.int (f : Int) u)) Q E s := by
  refine tail_any hl.typeIs slot_list_getitem.lookup (wpAny_getItem_list hl (Int.natCast_nonneg f) (by omega) (x := x) ?_ h) hs
  simpa using hx
theorem any_way (l : List Nat) (i : Nat) : ((l.map fun b => ((b : Nat) : Int)).any fun x => x == (0 + (i : Int))) = decide (i ∈ l) := by
  rw [Bool.eq_iff_iff, List.any_eq_true, decide_eq_true_eq]
  constructor
  · rintro ⟨x, hx, he⟩
    obtain ⟨b, hb, rfl⟩ := List.mem_map.mp hx
    have : ((b : Nat) : Int) = 0 + (i : Int) := by simpa using he
    have : b = i := by omega
    exact this ▸ hb
  · intro h
    exact ⟨_, List.mem_map_of_mem h, by simp⟩
theorem range_getD_map {α : Type} (l : List Nat) (g : Nat → α) : (List.range l.length).map (fun q => g (l.getD q 0)) = l.map g := by
  apply List.ext_getElem
  · simp
  · intro j h1 h2
    simp only [List.length_map, List.length_range] at h1
    simp [h1]
theorem end_snoc {S : Nat → Nat → Bool} {n k i : Nat} {ys : List Value} {v : Int} {t : Tok} (h : IntsAre ys (endL S n k i)) (hb : ((endsN S n k).any fun f => decide (i ∈ waysN S n f)) = true) (hv : v = ((i : Nat) : Int)) : IntsAre (ys ++ [.int v t]) (endL S n k (i + 1)) := by
  have e : endL S n k (i + 1) = endL S n k i ++ [((i : Nat) : Int)] := by
    unfold endL
    rw [List.range_succ, List.filter_append, List.map_append, List.filter_cons_of_pos (by simpa using hb), List.filter_nil]; rfl
  rw [e, ← hv]
  exact IntsAre.append h (.cons _ _ .nil)
theorem end_skip {S : Nat → Nat → Bool} {n k i : Nat} {ys : List Value} (h : IntsAre ys (endL S n k i)) (hb : ¬ ((endsN S n k).any fun f => decide (i ∈ waysN S n f)) = true) : IntsAre ys (endL S n k (i + 1)) := by
  have e : endL S n k (i + 1) = endL S n k i := by
    unfold endL
    rw [List.range_succ, List.filter_append, List.map_append, List.filter_cons_of_neg (by simpa using hb), List.filter_nil]; simp
  rw [e]; exact h
def Lt4 (L e : Nat) : Prop := L + 1 + 1 + 1 + 1 < e
structure WhJ (h₀ : Heap) (L W F : Nat) (t : Tok) (oW : Obj) (S : Nat → Nat → Bool) (n k : Nat) (m : Str → Option Value) (h : Heap) : Prop where
  hm : m = fun y => if y = Str.ofString "far" then some (.ref F) else if y = Str.ofString "size" then some (.int (n : Int) t) else none
  hlt : ∀ j < k, farN S n j < n
  hW : h.get? (L + 1 + 1) = some oW
  hE : ∃ oE e es ke, h.get? (L + 1 + 1 + 1 + 1) = some oE ∧ oE.data = .cell (some (.ref e)) ∧ h.get? e = some (PySem.W.listOf es.toArray ke) ∧ (e ≠ L ∧ e ≠ F ∧ e ≠ L + 1 + 1 + 1 + 1) ∧ h₀.get? e = none ∧ IntsAre es ((endsN S n k).map fun b => ((b : Nat) : Int))
  hF : ∃ fs kf, h.get? F = some (PySem.W.listOf fs.toArray kf) ∧ IntsAre fs ((List.range k).map fun q => ((farN S n (q + 1) : Nat) : Int))
  hL : ∃ refs kk, h.get? W = some (PySem.W.listOf refs.toArray kk) ∧ WaysIs [L, L + 1 + 1 + 1 + 1, F] S n n refs h
theorem WhJ.le {h₀ : Heap} {L W F : Nat} {t : Tok} {oW : Obj} {S : Nat → Nat → Bool} {n k : Nat} {m : Str → Option Value} {h : Heap} (J : WhJ h₀ L W F t oW S n k m h) : k ≤ n := by
  cases k with
  | zero => exact Nat.zero_le _
  | succ k =>
    have h1 := far_ge (S := S) (n := n) (k := k) fun j hj => J.hlt j (by omega)
    have h2 := J.hlt k (by omega)
    omega
theorem wh_end {h₀ h12 h20 : Heap} {L W F D e : Nat} {t tM : Tok} {oW oE oe : Obj} {S : Nat → Nat → Bool} {n k kf kk : Nat} {fs refs ys : List Value} {m m0 : Str → Option Value} (F12 : Fr h₀ L h12 m0)
    (F20 : Fr h₀ L h20 (fun y => if y = Str.ofString "far" then some (.ref F) else if y = Str.ofString "size" then some (.int (n : Int) t) else none))
    (N20 : News h₀ L h20 ((D, LCg.lst ys) :: (F, PySem.W.listOf (fs.toArray.push (.int ((maxN (endsN S n (k + 1)) : Nat) : Int) tM)) (kf + 1)) :: (e, oe) :: (L + 1 + 1 + 1 + 1, oE) :: (L + 1 + 1, oW) :: (W, PySem.W.listOf refs.toArray kk) :: restOf h₀ L [L + 1 + 1 + 1 + 1, F] h12))
    (hE : oE.data = .cell (some (.ref D))) (hF : (F ≠ L ∧ h₀.get? F = none) ∧ L + 1 + 1 + 1 + 1 < F) (hD : D ≠ F ∧ D ≠ L + 1 + 1 + 1 + 1) (hlt : ∀ j < k, farN S n j < n) (hk : maxN (endsN S n k) < n)
    (hys : IntsAre ys ((endsN S n (k + 1)).map fun b => ((b : Nat) : Int))) (hfs : IntsAre fs ((List.range k).map fun q => ((farN S n (q + 1) : Nat) : Int)))
    (jw : WaysIs [L, L + 1 + 1 + 1 + 1, F] S n n refs h12) (hm : m = fun y => if y = Str.ofString "far" then some (.ref F) else if y = Str.ofString "size" then some (.int (n : Int) t) else none := by rfl) :
    WhJ h₀ L W F t oW S n (k + 1) m h20 := by
  subst hm
  refine ⟨rfl, fun j hj => ?_, (N20 (L + 1 + 1, oW) (by k_mem)).1, ⟨oE, D, ys, ys.length, (N20 (L + 1 + 1 + 1 + 1, oE) (by k_mem)).1, hE, (N20 (D, LCg.lst ys) (.head _)).1, ⟨(N20 (D, _) (.head _)).2.1, hD.1, hD.2⟩, (N20 (D, _) (.head _)).2.2, hys⟩,
    ⟨fs ++ [.int ((maxN (endsN S n (k + 1)) : Nat) : Int) tM], kf + 1, ?_, ?_⟩, refs, kk, (N20 (W, _) (by k_mem)).1, jw.keeps fun b o hb e => ?_⟩
  · by_cases e : j = k
    · subst e; exact hk
    · exact hlt j (by omega)
  · have := (N20 (F, _) (.tail _ (.head _))).1
    simpa using this
  · rw [List.range_succ, List.map_append]
    exact IntsAre.append hfs (.cons _ _ .nil)
  · simp only [List.mem_cons, List.not_mem_nil, or_false, not_or] at hb
    exact rest_kept F12 F20 (fun p hp => N20 p (.tail _ (.tail _ (.tail _ (.tail _ (.tail _ (.tail _ hp))))))) hb.1 (by simp; exact hb.2) e
theorem name3 {P : Prop} {h₀ h : Heap} {L F e c : Addr} {x y o : Obj} {r : List (Addr × Obj)} (_ : News h₀ L h ((F, x) :: (e, y) :: (c, o) :: r)) (k : ∀ (h' : Heap) (F' e' : Addr) (o' : Obj), h' = h → F' = F → e' = e → o' = o → P) : P := k _ _ _ _ rfl rfl rfl rfl
theorem ways_bad {h₀ h9 : Heap} {L I W F : Nat} {S : Nat → Nat → Bool} {n : Nat} {refs : List Value} {h : Heap} {m m' : Str → Option Value} (F9 : Fr h₀ L h9 m) (F10 : Fr h₀ L h m') (N : News h₀ L h (restOf h₀ L [L + 1 + 1 + 1 + 1] h9))
    (hF : AllLt F (restOf h₀ L [L + 1 + 1 + 1 + 1] h9)) (hLF : h₀.objs.size ≤ L ∧ L < F) (jw : WaysIs [L, I, L + 1 + 1 + 1, W, L + 1 + 1 + 1 + 1] S n n refs h9) : WaysIs [L, L + 1 + 1 + 1 + 1, F] S n n refs h := by
  refine ⟨jw.1, fun f hf => ?_⟩
  obtain ⟨a, vs, e1, e2, ⟨o, e3, e4⟩, e5⟩ := jw.2 f hf
  simp only [List.mem_cons, List.not_mem_nil, or_false, not_or] at e2
  have hk := rest_kept F9 F10 N e2.1 (by simpa using e2.2.2.2.2) e3
  refine ⟨a, vs, e1, ?_, ⟨o, hk, e4⟩, e5⟩
  simp only [List.mem_cons, List.not_mem_nil, or_false, not_or]
  refine ⟨e2.1, e2.2.2.2.2, ?_⟩
  intro e
  cases q : h₀.get? a with
  | none =>
    have : (a, o) ∈ restOf h₀ L [L + 1 + 1 + 1 + 1] h9 := rest_mem e3 e2.1 (by simpa using e2.2.2.2.2) q
    have key : ∀ (l : List (Addr × Obj)), AllLt F l → ∀ p ∈ l, @LT.lt Nat _ p.1 F := by
      intro l
      induction l with
      | nil => intro _ p hp; cases hp
      | cons x r ih =>
        intro hl p hp
        rcases List.mem_cons.mp hp with rfl | hp
        · exact hl.1
        · exact ih hl.2 p hp
    have h5 := key _ hF _ this
    rw [e] at h5
    exact Nat.lt_irrefl _ h5
  | some o' =>
    have h5 : @LT.lt Nat _ a h₀.objs.size := Heap.lt_size q
    have h6 := hLF.1
    have h7 := hLF.2
    rw [e] at h5
    omega
local macro_rules | `(tactic| walk_at "eval ListComp") => `(tactic| ((with_reducible show wpAny _ _ (eval (.ListComp _ [⟨_, _, [], _⟩] _ _) _) _ _ _); k_dflt (refine LCg.ListComp_U (F₀ := by k_asm) (by with_unfolding_all rfl) (by decide) (by rfl) (by decide) (by rfl) ?_)))
local macro_rules | `(tactic| walk_at "eval ListComp") => `(tactic| ((with_reducible show wpAny _ _ (eval (.ListComp _ [⟨_, _, [_], _⟩] _ _) _) _ _ _); k_dflt (refine LCt.ListComp_T (F₀ := by k_asm) (by with_unfolding_all rfl) (by decide) (by rfl) (by decide) (by rfl) ?_)))
local macro_rules | `(tactic| walk_at "eval ListComp") => `(tactic| ((with_reducible show wpAny _ _ (eval (.ListComp _ [⟨_, _, [_], _⟩] _ _) _) _ _ _); k_dflt (refine ListComp_C (F₀ := by k_asm) (by with_unfolding_all rfl) (by intro c; rfl) (by intro h; rfl) (by rfl) (by decide) (by rfl) ?_)))
local macro_rules | `(tactic| walk_at "exec While Compare cons nil") => `(tactic| (k_dflt (refine While_G ?_); (try dsimp only)))
local macro_rules | `(tactic| walk_at "exec For Name Call cons nil") => `(tactic| (k_dflt (refine For_G ?_); (try dsimp only)))
local macro_rules | `(tactic| k_all) => `(tactic| exact rest_ne (by simp))
set_option maxRecDepth 100000 in
set_option maxHeartbeats 4000000 in
theorem far_ok (w : World) (l : Addr) (items : Array Value) (ks : List Str) :
    Fn w 135 20 (fun h vs => vs = [.ref l] ∧ h.IsList l items ∧ StrsAre items.toList ks ∧ ks.length ≤ 90 ∧ ∀ k ∈ ks, PyData.strOk k = true) (fun _ _ r h' => FarIs (standsB ks) ks.length r h') := by
  intro A s vs E R G hp
  obtain ⟨ha', dp', fr', gd', un'⟩ := A
  obtain rfl : ha' = none := R.hh
  have hdp' : dp' < recursionLimit := Nat.lt_of_le_of_lt (Nat.le_add_right _ _) R.dp
  have hun' : un' < cLine := Nat.lt_of_le_of_lt (Nat.le_add_right _ _) R.un
  have X := G.K
  have hK := kmark
  revert X hK
  k_fill
  intro X hK
  clear hK
  obtain ⟨loose, mean, mg, mb, T⟩ := G.T
  obtain ⟨rfl, hl, hks, hk90, hsok⟩ := hp
  have hsz : items.size = ks.length := by rw [← Array.length_toList]; exact StrsAre.length hks
  have bks := Box.mk hks
  have bl := Box.mk hl
  have bok := Box.mk hsok
  have bsz := Box.mk hsz
  generalize hn : ks.length = n at *
  clear hks hl hsok hsz
  have bn := Box.mk hn
  clear hn
  k_dflt (refine' enterC (binds := [(Str.ofString "keys", .ref l)]) R G ?ho ?hcd ?hb ?hl ?hc ?_ ?c1 ?c2 ?c3; (case ho => k_is); (case hcd => k_is); (case hb => exact BindsTo.of_eq rfl); (case hl => rfl); (case hc => decide); (case c1 => exact rfl); (case c2 => exact rfl); (case c3 => exact rfl))
  intro L h₁ tk0 env cells he R' F N Y
  subst he
  obtain ⟨o1, o2, o3, o4, rfl, d1, d2, d3, d4⟩ := CellsAre.four Y
  replace F : Fr s.heap L h₁ (fun _ => none) := F
  replace d1 : o1.data = .cell none := d1
  replace d2 : o2.data = .cell none := d2
  replace d3 : o3.data = .cell none := d3
  replace d4 : o4.data = .cell (some (.ref l)) := d4
  clear Y
  repeat (fail_if_success (with_reducible show wpAny _ _ (call (.builtin "len") _) _ _ _)); first | walk1 | (dsimp only; walk1)
  rename Fr _ _ _ _ => F2
  rename News _ _ _ _ => N2
  refine len_list (Fr.lst F2 bl.out) (by rw [bsz.out]; omega) ?_
  rw [bsz.out]
  dsimp only
  repeat (fail_if_success (with_reducible show wpAny _ _ (pyIter _) _ _ _)); first | walk1 | (dsimp only; walk1)
  rename_i h3 _ _ _ _ hr F3 N3 k3
  obtain ⟨W9, oW9, F5, N5, lW9, dW9⟩ : ∃ W oW, Fr s.heap L h3 (fun y => if y = Str.ofString "size" then some (.int (n : Int) (tk0 + 1)) else none) ∧ News s.heap L h3 [(W, PySem.W.listOf #[] 0), (L + 1 + 1 + 1 + 1, o1), (L + 1 + 1 + 1, o2), (L + 1 + 1, oW), (L + 1, o4)] ∧ L + 1 + 1 + 1 + 1 < W ∧ oW.data = .cell (some (.ref W)) :=
    ⟨_, _, F3, N3, (show _ ∧ (L + 1 + 1 + 1 < _) ∧ _ from by assumption).1, by assumption⟩
  revert F5 N5
  clear F3 N3 k3
  rename Fr _ _ _ _ => FY
  rename News _ _ _ _ => NY
  clear FY NY
  intro F3 N3
  refine wpAny_pyIter_range hr (small_one (by omega) (by omega) (by omega) (by omega)) ?_
  dsimp only
  clear hr
  have F4 := F3.push { cls := .type "range_iterator", data := .fields #[rawInt 0, rawInt (Builtin.Range.rangeSize 0 (n : Int) 1), rawInt 1] }
  have N4 := N3.push F3 { cls := .type "range_iterator", data := .fields #[rawInt 0, rawInt (Builtin.Range.rangeSize 0 (n : Int) 1), rawInt 1] }
  have NI := N4 _ (.head _)
  have hWI := natlt (Heap.lt_size (N3 (W9, _) (.head _)).1)
  dsimp only at hWI
  have nn := fun p hp => (N3 p hp).2
  have cE := (N4 (L + 1 + 1 + 1 + 1, o1) (by k_mem)).1
  have cF := (N4 (L + 1 + 1 + 1, o2) (by k_mem)).1
  have cW := (N4 (L + 1 + 1, oW9) (by k_mem)).1
  have cK := (N4 (L + 1, o4) (by k_mem)).1
  have cL := (N4 (W9, _) (by k_mem)).1
  have hrz : Builtin.Range.rangeSize 0 (n : Int) 1 = (n : Int) := by simpa using rangeSize_nat 0 (n : Int)
  have lW := natlt4 lW9
  clear lW9
  generalize hI : h3.objs.size = I at *
  refine forG (h₀ := s.heap) (WalkG.name _ _ (LCg.range_walks rfl 0 n)) ?_ [L + 1 + 1 + 1, W9] ?_ ?_
    (WayJ L W9 I (fun y => if y = Str.ofString "size" then some (.int (n : Int) (tk0 + 1)) else none) o4 oW9 o1 (standsB ks) n) ?_ ?_ F4 ?_ ?_ ?_
  · show L ∉ [I]
    simpa using NI.2.1.symm
  · exact mt_off lW hWI
  · simpa using NI.2.2
  · rintro i m h h' hns hst J hk
    have ne : ∀ a : Nat, a < I → a ∉ [I] := fun a ha => by simp; omega
    exact ⟨J.hm, hk _ _ (ne _ (by omega)) J.hK, hk _ _ (ne _ (by omega)) J.hW, hk _ _ (ne _ (by omega)) J.hE,
      (let ⟨oF, vF, e1, e2⟩ := J.hF; ⟨oF, vF, hk _ _ (ne _ (by omega)) e1, e2⟩),
      (let ⟨refs, k, e1, e2⟩ := J.hL; ⟨refs, k, hk _ _ (ne _ (by omega)) e1, e2.keeps fun b o hb e => hk b o (by simp at hb ⊢; exact hb.2.1) e⟩)⟩
  · show IsRangeIter _ _ _ _ _
    rw [hrz, ← hI]
    simpa using Heap.get?_push_size _ rfl
  · exact ⟨rfl, cK, cW, cE, ⟨o2, none, cF, d2⟩, [], 0, cL, rfl, fun f hf => absurd hf (Nat.not_lt_zero _)⟩
  · rintro i v m₂ h9 tk9 hi ⟨tv, rfl⟩ J hst9 F9 N9
    obtain ⟨rfl, jK, jW, jE, ⟨oF, vF, jF, jFd⟩, refs, kk, jL, jWays⟩ := J
    replace N9 : News s.heap L h9 ((W9, PySem.W.listOf refs.toArray kk) :: (L + 1 + 1 + 1 + 1, o1) :: (L + 1 + 1 + 1, oF) :: (L + 1 + 1, oW9) :: (L + 1, o4) :: restOf s.heap L [L + 1 + 1 + 1, W9] h9) := by
      intro p hp
      simp only [List.mem_cons] at hp
      rcases hp with rfl | rfl | rfl | rfl | rfl | hp
      · exact ⟨jL, nn (W9, PySem.W.listOf #[] 0) (.head _)⟩
      · exact ⟨jE, nn _ (by k_mem)⟩
      · exact ⟨jF, nn (_, o2) (by k_mem)⟩
      · exact ⟨jW, nn _ (by k_mem)⟩
      · exact ⟨jK, nn _ (by k_mem)⟩
      · exact N9 p hp
    replace F9 : Fr s.heap L h9 (fun y => if y = Str.ofString "size" then some (.int (n : Int) (tk0 + 1)) else none) := F9
    have F9b := Box.mk F9
    clear F4 N4 F3 N3
    repeat (fail_if_success (with_reducible show LCt.CompSrcT _ _ _ _ _ _ _ _ _ _ _ _ _ _ _)); first | walk1 | (dsimp only; walk1)
    rename_i hr5 F5 N5 k5
    revert F5 N5
    clear k5
    rename Fr _ _ _ _ => FY
    rename News _ _ _ _ => NY
    clear FY NY
    intro F5 N5
    refine LCt.CompSrcT.range (n := n + 1 - (i + 2)) rfl F5 N5 hr5 ?_ ?_ ?_ ?_
    · exact small_one (by omega) (by omega) (by omega) (by omega)
    · rw [show n + 1 - (i + 2) = ((n : Int) + 1 - (0 + (i : Int) + 2)).toNat by omega]; exact rangeSize_nat _ _
    · exact Nat.le_trans (show n + 1 - (i + 2) ≤ 100 by omega) (by decide)
    intro g
    refine compT (fun j ys => IntsAre ys (wayL (standsB ks) i j)) ?_ ?_ ?_
    · exact .nil
    · rintro j v I5 oI C oC D m₃ ys h tk E' hj ⟨tv5, rfl⟩ hInv hC hx F6 N6 off ne
      clear F5 N5
      have bInv := Box.mk hInv
      clear hInv
      k_steps
      refine useFn (stands_ok w l items ks _ _ _ _) F6 N6 (R'.less (by omega)) G ⟨rfl, Fr.lst F6 bl.out, bks.out, by omega, by omega, by omega, by rw [bn.out]; omega, by rw [bn.out]; omega, bok.out⟩ ?_
      rintro _ h7 tk7 F7 N7 k7 rfl
      clear F6 N6 k7
      rw [show (0 + (i : Int)).toNat = i by omega, show (0 + (i : Int) + 2 + (j : Int) - 1).toNat = i + 2 + j - 1 by omega]
      dsimp only
      by_cases hb : standsB ks i (i + 2 + j - 1) = true
      · rw [hb]
        have bhb := Box.mk hb
        clear hb
        k_steps
        exact LCg.CompEnd.intro F7 N7 _ (fun p hp => hp) off trivial ⟨rfl, way_snoc bInv.out bhb.out (by omega)⟩
      · have hb' : standsB ks i (i + 2 + j - 1) = false := by simpa using hb
        rw [hb']
        have bhb := Box.mk hb
        clear hb hb'
        k_steps
        exact LCg.CompEnd.intro F7 N7 _ (fun p hp => hp) off trivial ⟨rfl, way_skip bInv.out bhb.out⟩
    · intro ys hInv D h tk F6 N6 o1
      clear F5 N5
      have hlen := way_len (standsB ks) i (n + 1 - (i + 2))
      have bwl := Box.mk (way_eq (standsB ks) n i)
      generalize wayL (standsB ks) i (n + 1 - (i + 2)) = bs at hInv hlen bwl
      have hlen9 : bs.length ≤ 91 := by omega
      simp only [LCg.Off1] at o1
      dsimp only
      k_steps
      rename Fr _ _ _ _ => F8
      rename News _ _ _ _ => N8
      rename IntsAre _ (_ ++ bs) => hws
      have hrl := jWays.1
      refine append_K F8 N8 (by k_upd) ?_ (by rw [List.size_toArray, hrl]; exact Nat.le_trans (show i ≤ 100 by omega) (by decide))
      intro h10 F10 N10
      clear F8 N8
      dsimp only at N10 ⊢
      k_steps
      exact ⟨h10, _, _, rfl, F10, fun p hp => N10 p (.tail _ (.tail _ (.tail _ (.tail _ (.tail _ (.tail _ (.tail _ (.tail _ hp)))))))), way_end F9b.out F10 N10 (by assumption) (by omega) lW hWI hst9 jWays (by rw [bwl.out]; simpa using hws)⟩
  · rintro m₂ h9 tk9 F9 J
    obtain ⟨rfl, jK, jW, jE, jF, refs, kk, jL, jWays⟩ := J
    have N9 : News s.heap L h9 ((L + 1 + 1 + 1 + 1, o1) :: (L + 1 + 1, oW9) :: (W9, PySem.W.listOf refs.toArray kk) :: restOf s.heap L [L + 1 + 1 + 1 + 1] h9) := by
      intro p hp
      simp only [List.mem_cons] at hp
      rcases hp with rfl | rfl | rfl | hp
      · exact ⟨jE, nn _ (by k_mem)⟩
      · exact ⟨jW, nn _ (by k_mem)⟩
      · exact ⟨jL, nn (W9, PySem.W.listOf #[] 0) (.head _)⟩
      · exact rest_news p hp
    replace F9 : Fr s.heap L h9 (fun y => if y = Str.ofString "size" then some (.int (n : Int) (tk0 + 1)) else none) := F9
    have F9b := Box.mk F9
    clear F4 N4 F3 N3
    k_steps
    rename Fr _ _ _ _ => F11
    rename News _ _ _ _ => N11
    refine name3 N11 ?_
    intro h11 F5 e5 oE5 q1 q2 q3 q4
    subst q1 q2 q3 q4
    obtain ⟨lf1, lf2, lf3, lf4, lf5⟩ := (show _ ∧ _ ∧ _ ∧ _ ∧ AllLt F5 _ from by assumption)
    obtain ⟨le1, le2, le3, le4⟩ := (show _ ∧ _ ∧ _ ∧ AllLt e5 _ from by assumption)
    have dE5 : oE5.data = .cell (some (.ref e5)) := by assumption
    have nn2 := fun p hp => (N11 p hp).2
    have hh := fun p hp => (N11 p hp).1
    have jw11 := ways_bad F9b.out F11 (fun p hp => N11 p (.tail _ (.tail _ (.tail _ (.tail _ (.tail _ hp)))))) lf5 ⟨F11.above, by omega⟩ jWays
    refine whileG (h₀ := s.heap) n [L + 1 + 1 + 1 + 1, F5] (WhJ s.heap L W9 F5 (tk0 + 1) oW9 (standsB ks) n) (fun k m h J => J.le) F11 ?_ ?_
    · refine ⟨rfl, fun j hj => absurd hj (Nat.not_lt_zero _), hh (L + 1 + 1, oW9) (by k_mem), ⟨oE5, e5, [.int 0 tk9], 0, hh (L + 1 + 1 + 1 + 1, oE5) (by k_mem), dE5, hh (e5, _) (by k_mem), ⟨?_, ?_, ?_⟩, (nn2 (e5, _) (by k_mem)).2, .cons _ _ .nil⟩, ⟨[], 0, hh (F5, _) (.head _), .nil⟩, refs, kk, hh (W9, _) (by k_mem), jw11⟩
      · exact (nn2 (e5, _) (by k_mem)).1
      · exact Nat.ne_of_lt lf1
      · exact (Nat.ne_of_lt le1).symm
    clear jw11 jWays jK jW jE jL jF hh F11
    rename News _ _ _ _ => NN
    clear NN
    rintro k m₃ h12 tk12 J F12 N12
    obtain ⟨rfl, jlt, jW, ⟨oE, e, es, ke, jE, dE, jes, ⟨nE1, nE2, nE3⟩, jE0, hes⟩, ⟨fs, kf, jF, hfs⟩, refs2, kk2, jL, jWays⟩ := J
    replace N12 : News s.heap L h12 ((F5, PySem.W.listOf fs.toArray kf) :: (e, PySem.W.listOf es.toArray ke) :: (L + 1 + 1 + 1 + 1, oE) :: (L + 1 + 1, oW9) :: (W9, PySem.W.listOf refs2.toArray kk2) :: restOf s.heap L [L + 1 + 1 + 1 + 1, F5] h12) := by
      intro p hp
      simp only [List.mem_cons] at hp
      rcases hp with rfl | rfl | rfl | rfl | rfl | hp
      · exact ⟨jF, nn2 (F5, PySem.W.listOf #[] 0) (.head _)⟩
      · exact ⟨jes, nE1, jE0⟩
      · exact ⟨jE, nn2 (L + 1 + 1 + 1 + 1, oE5) (by k_mem)⟩
      · exact ⟨jW, nn2 (L + 1 + 1, oW9) (by k_mem)⟩
      · exact ⟨jL, nn2 (W9, PySem.W.listOf refs.toArray kk) (by k_mem)⟩
      · exact N12 p hp
    have F12b := Box.mk F12
    have bes := Box.mk hes
    have bfs := Box.mk hfs
    have bjw := Box.mk jWays
    have bjlt := Box.mk jlt
    have ene := ends_ne jlt
    clear hes hfs jWays jlt
    replace F12 : Fr s.heap L h12 (fun y => if y = Str.ofString "far" then some (.ref F5) else if y = Str.ofString "size" then some (.int (n : Int) (tk0 + 1)) else none) := F12
    repeat (fail_if_success (with_reducible show wpAny _ _ (call (.builtin "max") _) _ _ _)); first | walk1 | (dsimp only; walk1)
    refine max_list_N rfl F12 N12 ⟨_, jes, rfl, _, rfl⟩ bes.out (by rw [List.length_map]; exact List.length_pos_iff.mpr ene) ?_
    intro h13 M tM tk13 F13 N13 hM hMge
    have hMe := max_cast hM hMge
    subst hMe
    clear hM hMge F12 N12
    have hle : maxN (endsN (standsB ks) n k) ≤ n := ends_le (maxN_mem ene)
    dsimp only
    by_cases hlt : maxN (endsN (standsB ks) n k) < n
    · have hlt' : ((maxN (endsN (standsB ks) n k) : Nat) : Int) < (n : Int) := by omega
      have bhlt := Box.mk hlt
      clear hlt
      k_steps
      rename_i hr5 F14 N14 k5
      revert F14 N14
      clear k5
      rename Fr _ _ _ _ => FY
      rename News _ _ _ _ => NY
      clear FY NY
      intro F14 N14
      refine SrcC.intro (n := n + 1) rfl F14 N14 hr5 (small_one (by omega) (by omega) (by omega) (by omega)) (by rw [show n + 1 = ((n : Int) + 1 - 0).toNat by omega]; exact rangeSize_nat _ _) (Nat.le_trans (show n + 1 ≤ 100 by omega) (by decide))
        (fun i ys => IntsAre ys (endL (standsB ks) n k i)) .nil ?_ ?_
      · intro g
        rintro i ys I oI C oC c oc D m₅ h tk tv E' hi hInv hC hoc F15 N15
        clear F14 N14
        have bInv := Box.mk hInv
        clear hInv
        repeat (fail_if_success (with_reducible show LCg.CompSrc _ _ _ _ _ _ _ _ _ _ _ _ _ _)); first | walk1 | (dsimp only; walk1)
        have hez := IntsAre.length bes.out
        rw [List.length_map] at hez
        have hel := ends_len (standsB ks) n k
        refine LCg.CompSrc.ledger rfl F15 N15 (by k_mem) (by rw [List.size_toArray, hez]; exact Nat.le_trans (show _ ≤ 100 by omega) (by decide)) ?_
        intro g2
        refine compU (fun j bs => bs = (List.range j).map fun q => Value.bool (decide (i ∈ waysN (standsB ks) n ((endsN (standsB ks) n k).getD q 0)))) rfl ?_ ?_
        · rintro j v I6 oI6 C6 oC6 D6 m6 bs h6 tk6 E6 hj hv hbs hC6 hx6 F16 N16 off16 ne16
          clear F15 N15
          obtain ⟨x, tx, rfl, hxm⟩ := IntsAre.at bes.out j v (by simpa using hv)
          obtain ⟨f, hf, rfl⟩ : ∃ f, (endsN (standsB ks) n k)[j]? = some f ∧ ((f : Nat) : Int) = x := by
            rw [List.getElem?_map] at hxm
            cases q : (endsN (standsB ks) n k)[j]? with
            | none => rw [q] at hxm; cases hxm
            | some f => rw [q] at hxm; exact ⟨f, rfl, by simpa using hxm⟩
          have hfn : f < n := Nat.lt_of_le_of_lt (maxN_ge (List.mem_of_getElem? hf)) bhlt.out
          have hgd : (endsN (standsB ks) n k).getD j 0 = f := by rw [List.getD_eq_getElem?_getD, hf]; rfl
          clear hv hxm
          obtain ⟨a, vs, er, ebad, ehl, ehi⟩ := bjw.out.2 f hfn
          simp only [List.mem_cons, List.not_mem_nil, or_false, not_or] at ebad
          have ehl2 := list_rest F12b.out F16 (fun p hp => N16 p (.tail _ (.tail _ (.tail _ (.tail _ (.tail _ (.tail _ (.tail _ (.tail _ (.tail _ (.tail _ (.tail _ (.tail _ hp))))))))))))) ehl (by simp; exact ⟨ebad.2.1, ebad.2.2⟩)
          have b7 := Box.mk ehl2
          have b8 := Box.mk ehi
          have b9 := Box.mk hbs
          have b10 := Box.mk er
          clear ehl ehl2 ehi hbs er ebad
          repeat (fail_if_success (with_reducible show wpAny _ _ (subscriptTail _ _ _ _) _ _ _)); first | walk1 | (dsimp only; walk1)
          refine pick_ref (News.isList N16 (by k_mem)) b10.out (by omega) ?_
          dsimp only
          repeat (fail_if_success (with_reducible show wpAny _ _ (compareOp _ _ _) _ _ _)); first | walk1 | (dsimp only; walk1)
          refine in_list_ints (vs := vs.toList) (by simpa using b7.out) b8.out ?_
          rw [any_way]
          (try dsimp only)
          refine LCg.CompEnd.intro F16 N16 _ (fun p hp => hp) off16 (.inr ⟨_, by k_mem, rfl, _, rfl⟩) ⟨rfl, ?_⟩
          rw [b9.out, List.range_succ, List.map_append, List.map_singleton, hgd]
        · intro bs hbs D6 h6 tk6 F16 N16 o16
          clear F15 N15
          rw [List.size_toArray, hez, range_getD_map (endsN (standsB ks) n k) fun f => Value.bool (decide (i ∈ waysN (standsB ks) n f))] at hbs
          subst hbs
          dsimp only
          repeat (fail_if_success (with_reducible show wpAny _ _ (compareOp _ _ _) _ _ _)); first | walk1 | (dsimp only; walk1)
          have hD6 := News.isList N16 (.head _)
          refine in_bools (bs := (endsN (standsB ks) n k).map fun f => decide (i ∈ waysN (standsB ks) n f)) (by simpa [List.map_map, Function.comp_def] using hD6) ?_
          rw [List.any_map]
          have N17 : News s.heap L h6 ((c, oc) :: (I, oI) :: (C, oC) :: (D, LCg.lst ys) :: (F5, PySem.W.listOf fs.toArray kf) :: (e, PySem.W.listOf es.toArray ke) :: (L + 1 + 1 + 1 + 1, oE) :: (L + 1 + 1, oW9) :: (W9, PySem.W.listOf refs2.toArray kk2) :: restOf s.heap L [L + 1 + 1 + 1 + 1, F5] h12) := fun p hp => N16 p (.tail _ hp)
          clear N16 hD6
          rw [show ((endsN (standsB ks) n k).any (id ∘ fun f => decide (i ∈ waysN (standsB ks) n f))) = ((endsN (standsB ks) n k).any fun f => decide (i ∈ waysN (standsB ks) n f)) from rfl]
          by_cases hb : ((endsN (standsB ks) n k).any fun f => decide (i ∈ waysN (standsB ks) n f)) = true
          · rw [hb]
            have bhb := Box.mk hb
            clear hb
            k_steps
            exact CompEndC.intro F16 N17 (fun p hp => hp) (end_snoc bInv.out bhb.out (by omega))
          · have hb' : ((endsN (standsB ks) n k).any fun f => decide (i ∈ waysN (standsB ks) n f)) = false := by simpa using hb
            rw [hb']
            have bhb := Box.mk hb
            clear hb hb'
            k_steps
            exact CompEndC.intro F16 N17 (fun p hp => hp) (end_skip bInv.out bhb.out)
      · intro ys D h tk hInv F15 N15 o1
        clear F14 N14
        simp only [LCg.Off1] at o1
        have hInv' : IntsAre ys ((endsN (standsB ks) n (k + 1)).map fun b => ((b : Nat) : Int)) := hInv
        clear hInv
        dsimp only
        repeat (fail_if_success (with_reducible show wpAny _ _ (call (.builtin "max") _) _ _ _)); first | walk1 | (dsimp only; walk1)
        rename Fr _ _ _ _ => F17
        rename News _ _ _ _ => N17
        refine max_list_N rfl F17 N17 (News.isList N17 (by k_mem)) hInv' (by rw [List.length_map]; exact List.length_pos_iff.mpr (far_step ene bhlt.out).1) ?_
        intro h18 M tM tk18 F18 N18 hM hMge
        have hMe := max_cast hM hMge
        subst hMe
        clear hM hMge F17 N17
        dsimp only
        repeat (fail_if_success (with_reducible show wpAny _ _ (call (.builtin "list.append") _) _ _ _)); first | walk1 | (dsimp only; walk1)
        rename Fr _ _ _ _ => F19
        rename News _ _ _ _ => N19
        have hfz := IntsAre.length bfs.out
        rw [List.length_map, List.length_range] at hfz
        have hkn := far_ge bjlt.out
        have hkm := bhlt.out
        refine append_K F19 N19 (by k_upd) ?_ (by rw [List.size_toArray, hfz]; exact Nat.le_trans (show k ≤ 100 by unfold farN at hkn; omega) (by decide))
        intro h20 F20 N20
        clear F19 N19
        (try dsimp only at N20 ⊢)
        k_steps
        exact ⟨h20, _, _, rfl, F20, wh_end F12b.out F20 N20 (by assumption) ⟨nn2 (F5, PySem.W.listOf #[] 0) (.head _), lf2⟩ ⟨fun q => o1.1 q.symm, fun q => o1.2.2.1 q.symm⟩ bjlt.out bhlt.out hInv' bfs.out bjw.out⟩
    · have hlt' : ¬ ((maxN (endsN (standsB ks) n k) : Nat) : Int) < (n : Int) := by omega
      have bhlt := Box.mk hlt
      clear hlt
      k_steps
      · exact keeps_of (by assumption)
      · exact ⟨k, F5, fs.toArray, rfl, News.isList (by assumption) (by k_mem), bfs.out, Nat.le_antisymm hle (Nat.not_lt.mp bhlt.out), bjlt.out⟩
end Mine
end
section
open PySem PySem.W PyProof.Rows PySem.Spec PySem.Calls
namespace Mine
def cs (x : Str) : List Nat := x.cps.toList
def lw (c : Nat) : Nat := if 65 ≤ c ∧ c ≤ 90 then c + 32 else c
theorem land_mask (x y : Nat) (h : 4095 &&& y = y) : x &&& y = (x % 4096) &&& y := by
  have h2 : x &&& 4095 = x % 4096 := Nat.and_two_pow_sub_one_eq_mod x 12
  calc x &&& y = x &&& (4095 &&& y) := by rw [h]
    _ = (x &&& 4095) &&& y := (Nat.and_assoc ..).symm
    _ = (x % 4096) &&& y := by rw [h2]
theorem land_kind (x : Nat) (h : x < 65536) : x &&& 61440 = 4096 * (x / 4096) := by
  have h1 : (x &&& 61440) % 4096 = 0 := by
    have := Nat.and_two_pow_sub_one_eq_mod (x &&& 61440) 12
    have h2 : (x &&& 61440) &&& 4095 = 0 := by rw [Nat.and_assoc]; exact Nat.and_zero x
    have h3 : (x &&& 61440) % 2 ^ 12 = (x &&& 61440) &&& 4095 := this.symm
    rw [h2] at h3; exact h3
  have h2 : (x &&& 61440) / 4096 = x / 4096 := by
    have e1 : (x &&& 61440) >>> 12 = (x >>> 12) &&& (61440 >>> 12) := Nat.shiftRight_and_distrib
    rw [Nat.shiftRight_eq_div_pow, Nat.shiftRight_eq_div_pow] at e1
    have e2 : (x / 2 ^ 12) &&& (61440 >>> 12) = x / 2 ^ 12 % 2 ^ 4 := Nat.and_two_pow_sub_one_eq_mod _ 4
    rw [e2] at e1
    have e3 : x / 2 ^ 12 % 2 ^ 4 = x / 4096 := Nat.mod_eq_of_lt (by omega)
    rw [e3] at e1
    exact e1
  omega
theorem band (m b : Nat) : Builtin.bitAnd (m : Int) (b : Int) = ((m &&& b : Nat) : Int) := by
  unfold Builtin.bitAnd; simp
/-- a set bit -/
def tb (m b : Nat) : Bool := decide (m &&& b = b)
def ch1 (m b c : Nat) : Nat := if tb m b = true then c else 45
def ch3 (m b1 b2 b3 c : Nat) : Nat := if tb m b1 = true then c else if tb m b2 = true then c else if tb m b3 = true then 120 else 45
def chars9 (m : Nat) : List Nat := [ch1 m 256 114, ch1 m 128 119, ch3 m 2112 2048 64 115, ch1 m 32 114, ch1 m 16 119, ch3 m 1032 1024 8 115, ch1 m 4 114, ch1 m 2 119, ch3 m 513 512 1 116]
def kchar (k : Nat) : Nat := [63, 112, 99, 63, 100, 63, 98, 63, 45, 63, 108, 63, 115, 63, 63, 63].getD k 0
theorem tb_low (m b : Nat) (h : 4095 &&& b = b) : tb m b = tb (m % 4096) b := by unfold tb; rw [land_mask m b h]
theorem chars_low (m : Nat) : chars9 m = chars9 (m % 4096) := by
  have h1 := tb_low m
  unfold chars9 ch1 ch3
  rw [h1 256 (by decide), h1 128 (by decide), h1 2112 (by decide), h1 2048 (by decide), h1 64 (by decide), h1 32 (by decide), h1 16 (by decide), h1 1032 (by decide), h1 1024 (by decide), h1 8 (by decide), h1 4 (by decide), h1 2 (by decide), h1 513 (by decide), h1 512 (by decide), h1 1 (by decide)]
theorem cs_of (s : String) : cs (Str.ofString s) = s.toList.map Char.toNat := by
  unfold cs; rw [Str.ofString_eq_toList]
theorem fm1 {m i b : Nat} {c : String} (hi : i ≠ 0) : fmAt (m : Int) i [((b : Int), Str.ofString c)] = if tb m b = true then Str.ofString c else Str.ofString "-" := by
  unfold fmAt fmHit
  simp only [List.find?, if_neg hi, band]
  by_cases h : m &&& b = b
  · simp [h, tb]
  · have : ¬ (((m &&& b : Nat) : Int) = (b : Int)) := by omega
    simp [this, tb, h, hi]
theorem fm3 {m i b1 b2 b3 : Nat} {c1 c2 c3 : String} (hi : i ≠ 0) : fmAt (m : Int) i [((b1 : Int), Str.ofString c1), ((b2 : Int), Str.ofString c2), ((b3 : Int), Str.ofString c3)] =
    if tb m b1 = true then Str.ofString c1 else if tb m b2 = true then Str.ofString c2 else if tb m b3 = true then Str.ofString c3 else Str.ofString "-" := by
  unfold fmAt fmHit
  simp only [List.find?, if_neg hi, band]
  by_cases h1 : m &&& b1 = b1
  · simp [h1, tb]
  · have g1 : ¬ (((m &&& b1 : Nat) : Int) = (b1 : Int)) := by omega
    by_cases h2 : m &&& b2 = b2
    · simp [g1, h1, h2, tb]
    · have g2 : ¬ (((m &&& b2 : Nat) : Int) = (b2 : Int)) := by omega
      by_cases h3 : m &&& b3 = b3
      · simp [g1, h1, g2, h2, h3, tb]
      · have g3 : ¬ (((m &&& b3 : Nat) : Int) = (b3 : Int)) := by omega
        simp [g1, h1, g2, h2, g3, h3, tb, hi]
theorem cs_append (a b : Str) : cs (a ++ b) = cs a ++ cs b := by unfold cs; rw [Str.cps_append]; simp
theorem cs_join0 : ∀ l : List Str, cs (Str.join (Str.ofString "") l) = l.flatMap cs
  | [] => rfl
  | [x] => by simp [Str.join]
  | x :: y :: r => by
    show cs (x ++ Str.ofString "" ++ Str.join (Str.ofString "") (y :: r)) = _
    rw [cs_append, cs_append, cs_join0 (y :: r), cs_of]
    simp
theorem lw_if {c : Bool} {a b : Str} : (cs (if c = true then a else b)).map lw = if c = true then (cs a).map lw else (cs b).map lw := by cases c <;> rfl
theorem kind_at (m : Nat) (h : m < 65536) : (cs (fmAt (m : Int) 0 (fmTabs.getD 0 []))).map lw = [kchar (m / 4096)] := by
  have hk : m / 4096 < 16 := by omega
  unfold fmAt
  have e : fmHit (m : Int) 0 = fun p => decide (((4096 * (m / 4096) : Nat) : Int) = p.1) := by
    funext p
    unfold fmHit
    rw [if_pos rfl, show (61440 : Int) = ((61440 : Nat) : Int) from rfl, band, land_kind m h]
  rw [e]
  generalize m / 4096 = k at hk
  have key : ∀ k < 16, (cs (match (fmTabs.getD 0 []).find? fun p => decide (((4096 * k : Nat) : Int) = p.1) with | some p => p.2 | none => if 0 = 0 then Str.ofString "?" else Str.ofString "-")).map lw = [kchar k] := by decide +kernel
  exact key k hk
def LB (md : Int) : List Nat := (cs (FM md)).map lw
theorem LB_eq (m : Nat) (h : m < 65536) : LB (m : Int) = kchar (m / 4096) :: chars9 m := by
  unfold LB FM
  have e : Txt.join (Str.ofString "") (fmChars (m : Int)) = Str.join (Str.ofString "") (fmChars (m : Int)) := StrLaws.glued_eq_join _ _
  rw [e, cs_join0]
  unfold fmChars
  rw [show List.range 10 = [0, 1, 2, 3, 4, 5, 6, 7, 8, 9] from rfl]
  simp only [List.map_cons, List.map_nil, List.flatMap_cons, List.flatMap_nil, List.map_append, kind_at m h]
  have e1 : fmAt (m : Int) 1 (fmTabs.getD 1 []) = _ := fm1 (b := 256) (c := "r") (by decide)
  have e2 : fmAt (m : Int) 2 (fmTabs.getD 2 []) = _ := fm1 (b := 128) (c := "w") (by decide)
  have e3 : fmAt (m : Int) 3 (fmTabs.getD 3 []) = _ := fm3 (b1 := 2112) (b2 := 2048) (b3 := 64) (c1 := "s") (c2 := "S") (c3 := "x") (by decide)
  have e4 : fmAt (m : Int) 4 (fmTabs.getD 4 []) = _ := fm1 (b := 32) (c := "r") (by decide)
  have e5 : fmAt (m : Int) 5 (fmTabs.getD 5 []) = _ := fm1 (b := 16) (c := "w") (by decide)
  have e6 : fmAt (m : Int) 6 (fmTabs.getD 6 []) = _ := fm3 (b1 := 1032) (b2 := 1024) (b3 := 8) (c1 := "s") (c2 := "S") (c3 := "x") (by decide)
  have e7 : fmAt (m : Int) 7 (fmTabs.getD 7 []) = _ := fm1 (b := 4) (c := "r") (by decide)
  have e8 : fmAt (m : Int) 8 (fmTabs.getD 8 []) = _ := fm1 (b := 2) (c := "w") (by decide)
  have e9 : fmAt (m : Int) 9 (fmTabs.getD 9 []) = _ := fm3 (b1 := 513) (b2 := 512) (b3 := 1) (c1 := "t") (c2 := "T") (c3 := "x") (by decide)
  rw [e1, e2, e3, e4, e5, e6, e7, e8, e9]
  simp only [lw_if]
  rw [show (cs (Str.ofString "r")).map lw = [114] by decide +kernel, show (cs (Str.ofString "w")).map lw = [119] by decide +kernel, show (cs (Str.ofString "s")).map lw = [115] by decide +kernel, show (cs (Str.ofString "S")).map lw = [115] by decide +kernel,
    show (cs (Str.ofString "x")).map lw = [120] by decide +kernel, show (cs (Str.ofString "t")).map lw = [116] by decide +kernel, show (cs (Str.ofString "T")).map lw = [116] by decide +kernel, show (cs (Str.ofString "-")).map lw = [45] by decide +kernel]
  unfold chars9 ch1 ch3
  have l1 : ∀ (c : Bool) (a b : Nat), (if c = true then [a] else [b]) = [if c = true then a else b] := by intro c a b; cases c <;> rfl
  have l2 : ∀ (c d f : Bool) (a b e : Nat), (if c = true then [a] else if d = true then [a] else if f = true then [b] else [e]) = [if c = true then a else if d = true then a else if f = true then b else e] := by intro c d f a b e; cases c <;> cases d <;> cases f <;> rfl
  simp only [l1, l2, List.cons_append, List.nil_append, List.append_nil]
end Mine
end
section
open PySem PySem.W PyProof.Rows PySem.Spec PySem.Calls
namespace Mine
def nstep (x a r : Nat) : Nat := if x / a % 2 ≠ 0 ∧ x / r % 2 ≠ 0 then x - r else x
def normN (x : Nat) : Nat := nstep (nstep (nstep x 2048 64) 1024 8) 512 1
theorem nstep_le (x a r : Nat) : nstep x a r ≤ x := by unfold nstep; split <;> omega
theorem fd (x a : Nat) : ((x : Int).fdiv (a : Int)).fmod 2 = ((x / a % 2 : Nat) : Int) := by
  rw [Int.fdiv_eq_ediv_of_nonneg _ (Int.natCast_nonneg a), Int.fmod_eq_emod_of_nonneg _ (by decide)]
  rfl
theorem nstep_int (k x a r : Nat) (h1 : (4096 * k + x) / a % 2 = x / a % 2) (h2 : (4096 * k + x) / r % 2 = x / r % 2) (h3 : x / r % 2 ≠ 0 → r ≤ x) :
    normStep ((4096 * k + x : Nat) : Int) ((a : Int), (r : Int)) = ((4096 * k + nstep x a r : Nat) : Int) := by
  unfold normStep nstep
  dsimp only
  rw [fd, fd, h1, h2]
  by_cases c : x / a % 2 ≠ 0 ∧ x / r % 2 ≠ 0
  · have c' : ((x / a % 2 : Nat) : Int) ≠ 0 ∧ ((x / r % 2 : Nat) : Int) ≠ 0 := by omega
    rw [if_pos c', if_pos c]
    have := h3 c.2
    omega
  · have c' : ¬ (((x / a % 2 : Nat) : Int) ≠ 0 ∧ ((x / r % 2 : Nat) : Int) ≠ 0) := by omega
    rw [if_neg c', if_neg c]
theorem norm_split (k x : Nat) : norm ((4096 * k + x : Nat) : Int) = ((4096 * k + normN x : Nat) : Int) := by
  show normStep (normStep (normStep ((4096 * k + x : Nat) : Int) (((2048 : Nat) : Int), ((64 : Nat) : Int))) (((1024 : Nat) : Int), ((8 : Nat) : Int))) (((512 : Nat) : Int), ((1 : Nat) : Int)) = _
  rw [nstep_int k x 2048 64 (by omega) (by omega) (by omega)]
  rw [nstep_int k _ 1024 8 (by omega) (by omega) (by omega)]
  rw [nstep_int k _ 512 1 (by omega) (by omega) (by omega)]
  rfl
theorem key_tail (m : Nat) : (norm (m : Int)).fmod 4096 = ((normN (m % 4096) : Nat) : Int) := by
  have e : m = 4096 * (m / 4096) + m % 4096 := by omega
  have h := norm_split (m / 4096) (m % 4096)
  rw [← e] at h
  rw [h, Int.fmod_eq_emod_of_nonneg _ (by decide)]
  have h1 := nstep_le (m % 4096) 2048 64
  have h2 := nstep_le (nstep (m % 4096) 2048 64) 1024 8
  have h3 := nstep_le (nstep (nstep (m % 4096) 2048 64) 1024 8) 512 1
  have h4 : normN (m % 4096) < 4096 := by
    show nstep (nstep (nstep (m % 4096) 2048 64) 1024 8) 512 1 < 4096
    omega
  omega
theorem str_nat (n : Nat) : (toString ((n : Nat) : Int)).toList = Nat.toDigits 10 n := by
  rw [Int.toString_eq_repr, Int.repr_eq_if, if_pos (Int.natCast_nonneg n), Int.toNat_natCast, Nat.toList_repr]
theorem item_at : ∀ k < 16, cs (Txt.item (Str.ofString "?pc?d?b?-?l?s???") ((k : Nat) : Int)) = [kchar k] := by decide +kernel
theorem KEY_cs (m : Nat) (h : m < 65536) : cs (KEY (m : Int)) = kchar (m / 4096) :: (Nat.toDigits 10 (normN (m % 4096))).map Char.toNat := by
  unfold KEY
  rw [cs_append, key_tail, cs_of, str_nat]
  have e : ((m : Int).fdiv 4096).fmod 16 = ((m / 4096 : Nat) : Int) := by
    rw [Int.fdiv_eq_ediv_of_nonneg _ (by decide), Int.fmod_eq_emod_of_nonneg _ (by decide)]
    omega
  rw [e, item_at _ (by omega)]
  rfl
theorem digits_back2 : ∀ a < 64, ∀ b < 64, ((Nat.toDigits 10 (64 * a + b)).map Char.toNat).foldl (fun a d => 10 * a + (d - 48)) 0 = 64 * a + b := by decide +kernel
theorem digits_back (n : Nat) (h : n < 4096) : ((Nat.toDigits 10 n).map Char.toNat).foldl (fun a d => 10 * a + (d - 48)) 0 = n := by
  have := digits_back2 (n / 64) (by omega) (n % 64) (by omega)
  rwa [show 64 * (n / 64) + n % 64 = n by omega] at this
def dec9 : List Nat → Nat
  | [a, b, c, d, e, f, g, h, i] => (if a = 114 then 256 else 0) + (if b = 119 then 128 else 0) + (if c = 115 then 2048 else if c = 120 then 64 else 0) + (if d = 114 then 32 else 0) + (if e = 119 then 16 else 0) + (if f = 115 then 1024 else if f = 120 then 8 else 0) + (if g = 114 then 4 else 0) + (if h = 119 then 2 else 0) + (if i = 116 then 512 else if i = 120 then 1 else 0)
  | _ => 0
theorem low_back2 : ∀ a < 64, ∀ b < 64, dec9 (chars9 (64 * a + b)) = normN (64 * a + b) ∧ chars9 (normN (64 * a + b)) = chars9 (64 * a + b) ∧ normN (64 * a + b) < 4096 := by decide +kernel
theorem low_back (l : Nat) (h : l < 4096) : dec9 (chars9 l) = normN l ∧ chars9 (normN l) = chars9 l ∧ normN l < 4096 := by
  have := low_back2 (l / 64) (by omega) (l % 64) (by omega)
  rwa [show 64 * (l / 64) + l % 64 = l by omega] at this
theorem cs_inj {x y : Str} (h : cs x = cs y) : x = y := by
  unfold cs at h
  exact Str.ext' (Array.toList_inj.mp h)
theorem key_iff_nat {f g : Nat} (hf : f < 65536) (hg : g < 65536) : KEY (f : Int) = KEY (g : Int) ↔ LB (f : Int) = LB (g : Int) := by
  rw [LB_eq f hf, LB_eq g hg, chars_low f, chars_low g]
  obtain ⟨a1, a2, a3⟩ := low_back (f % 4096) (by omega)
  obtain ⟨b1, b2, b3⟩ := low_back (g % 4096) (by omega)
  constructor
  · intro h
    have h1 : cs (KEY (f : Int)) = cs (KEY (g : Int)) := by rw [h]
    rw [KEY_cs f hf, KEY_cs g hg] at h1
    obtain ⟨h2, h3⟩ := List.cons.inj h1
    have h4 := digits_back _ a3
    rw [h3, digits_back _ b3] at h4
    rw [h2, ← a2, ← b2, h4]
  · intro h
    obtain ⟨h2, h3⟩ := List.cons.inj h
    apply cs_inj
    rw [KEY_cs f hf, KEY_cs g hg, ← a1, ← b1, h2, h3]
theorem key_iff {f g : Int} (hf : 0 ≤ f ∧ f < 65536) (hg : 0 ≤ g ∧ g < 65536) : KEY f = KEY g ↔ LB f = LB g := by
  obtain ⟨a, rfl⟩ := Int.eq_ofNat_of_zero_le hf.1
  obtain ⟨b, rfl⟩ := Int.eq_ofNat_of_zero_le hg.1
  exact key_iff_nat (by omega) (by omega)
theorem key_ok_str {f : Int} (hf : 0 ≤ f ∧ f < 65536) : PyData.strOk (KEY f) = true := by
  obtain ⟨a, rfl⟩ := Int.eq_ofNat_of_zero_le hf.1
  unfold PyData.strOk
  rw [← Array.all_toList]
  show (cs (KEY (a : Int))).all _ = true
  rw [KEY_cs a (by omega), List.all_cons, Bool.and_eq_true]
  have hk : ∀ k < 16, decide (kchar k < 1114112) = true := by decide
  refine ⟨hk _ (by omega), ?_⟩
  rw [List.all_map, List.all_eq_true]
  intro c hc
  have := digit_ascii (Nat.isDigit_of_mem_toDigits (by decide) (by decide) hc)
  simp only [Function.comp_def, decide_eq_true_eq]
  omega
end Mine
end
section
open PySem PySem.W PyProof.Rows PySem.Spec PySem.Calls
namespace Mine
/-- rows as blocks, a dot ahead of each -/
def flat (bs : List (List Nat)) : List Nat := bs.flatMap fun b => 46 :: b
def Blk (b : List Nat) : Prop := b.length = 10 ∧ 46 ∉ b
theorem flat_cons (b : List Nat) (r : List (List Nat)) : flat (b :: r) = 46 :: (b ++ flat r) := by simp [flat]
theorem flat_len : ∀ {bs : List (List Nat)}, (∀ b ∈ bs, Blk b) → (flat bs).length = 11 * bs.length
  | [], _ => rfl
  | b :: r, h => by
    rw [flat_cons, List.length_cons, List.length_append, (h b (.head _)).1, flat_len (fun x hx => h x (.tail _ hx)), List.length_cons]
    omega
theorem flat_prefix : ∀ {qs ps : List (List Nat)}, (∀ b ∈ qs, Blk b) → (∀ b ∈ ps, Blk b) → (flat qs <+: flat ps ↔ qs <+: ps)
  | [], ps, _, _ => by simp [flat]
  | q :: qr, [], hq, _ => by rw [flat_cons]; simp [flat]
  | q :: qr, p :: pr, hq, hp => by
    rw [flat_cons, flat_cons, List.cons_prefix_cons, List.cons_prefix_cons]
    have h1 := (hq q (.head _)).1
    have h2 := (hp p (.head _)).1
    have ih := flat_prefix (fun b hb => hq b (.tail _ hb)) (fun b hb => hp b (.tail _ hb)) (qs := qr) (ps := pr)
    constructor
    · rintro ⟨_, t, ht⟩
      have e := List.append_inj (s₁ := q) (t₁ := flat qr ++ t) (s₂ := p) (t₂ := flat pr) (by simpa using ht) (by omega)
      exact ⟨e.1, ih.mp ⟨t, e.2⟩⟩
    · rintro ⟨rfl, h⟩
      obtain ⟨t, ht⟩ := ih.mpr h
      exact ⟨rfl, t, by rw [List.append_assoc, ht]⟩
theorem flat_find : ∀ {ps : List (List Nat)} {Y : List Nat} {i : Nat}, (∀ b ∈ ps, Blk b) → (46 :: Y) <+: (flat ps).drop i → ∃ a, i = 11 * a ∧ (46 :: Y) <+: flat (ps.drop a)
  | [], Y, i, _, h => by
    obtain ⟨t, ht⟩ := h
    simp [flat] at ht
  | p :: pr, Y, i, hp, h => by
    have h1 := hp p (.head _)
    by_cases h0 : i = 0
    · subst h0; exact ⟨0, rfl, by simpa using h⟩
    · by_cases hlt : i < 11
      · exfalso
        rw [flat_cons] at h
        obtain ⟨j, rfl⟩ : ∃ j, i = j + 1 := ⟨i - 1, by omega⟩
        rw [List.drop_succ_cons] at h
        have hj : j < p.length := by rw [h1.1]; omega
        rw [List.drop_append_of_le_length (Nat.le_of_lt hj), List.drop_eq_getElem_cons hj] at h
        obtain ⟨t, ht⟩ := h
        have e : 46 = p[j] := by simpa using (List.cons.inj ht).1
        exact h1.2 (e ▸ List.getElem_mem hj)
      · obtain ⟨j, rfl⟩ : ∃ j, i = j + 11 := ⟨i - 11, by omega⟩
        have e : (flat (p :: pr)).drop (j + 11) = (flat pr).drop j := by
          rw [flat_cons, show j + 11 = (p.length + j) + 1 by rw [h1.1]; omega, List.drop_succ_cons, List.drop_append]
          simp
        rw [e] at h
        obtain ⟨a, rfl, h3⟩ := flat_find (fun b hb => hp b (.tail _ hb)) h
        exact ⟨a + 1, by omega, by simpa using h3⟩
theorem flat_drop : ∀ {ps : List (List Nat)} {a : Nat}, (∀ b ∈ ps, Blk b) → (flat ps).drop (11 * a) = flat (ps.drop a)
  | ps, 0, _ => by simp
  | [], a + 1, _ => by simp [flat]
  | p :: pr, a + 1, hp => by
    have h1 := hp p (.head _)
    rw [flat_cons, show 11 * (a + 1) = (p.length + 11 * a) + 1 by rw [h1.1]; omega, List.drop_succ_cons, List.drop_append, List.drop_succ_cons]
    rw [← flat_drop (fun b hb => hp b (.tail _ hb))]
    simp
/-- the domain lies in the host iff the blocks lie in the blocks -/
theorem blocks {ps qs : List (List Nat)} (hp : ∀ b ∈ ps, Blk b) (hq : ∀ b ∈ qs, Blk b) (hne : qs ≠ []) :
    (∃ i, flat qs <+: (113 :: flat ps).drop i) ↔ ∃ a, qs <+: ps.drop a := by
  have hd : ∀ a, ∀ b ∈ ps.drop a, Blk b := fun a b hb => hp b (List.mem_of_mem_drop hb)
  constructor
  · rintro ⟨i, h⟩
    cases qs with
    | nil => exact absurd rfl hne
    | cons q qr =>
      cases i with
      | zero =>
        rw [flat_cons, List.drop_zero, List.cons_prefix_cons] at h
        exact absurd h.1 (by decide)
      | succ i =>
        rw [List.drop_succ_cons] at h
        have h' := h
        rw [flat_cons] at h'
        obtain ⟨a, rfl, _⟩ := flat_find hp h'
        rw [flat_drop hp] at h
        exact ⟨a, (flat_prefix hq (hd a)).mp h⟩
  · rintro ⟨a, h⟩
    refine ⟨11 * a + 1, ?_⟩
    rw [List.drop_succ_cons, flat_drop hp]
    exact (flat_prefix hq (hd a)).mpr h
end Mine
end
section
open PySem PySem.W PyProof.Rows PySem.Spec PySem.Calls
namespace Mine
def Val (f : Int) : Prop := 0 ≤ f ∧ f < 65536
theorem cs_joinD : ∀ (x : Str) (r : List Str), cs (Str.join (Str.ofString ".") (x :: r)) = cs x ++ r.flatMap fun p => 46 :: cs p
  | x, [] => by simp [Str.join]
  | x, y :: r => by
    show cs (x ++ Str.ofString "." ++ Str.join (Str.ofString ".") (y :: r)) = _
    rw [cs_append, cs_append, cs_joinD y r, show cs (Str.ofString ".") = [46] by decide +kernel]
    simp
theorem cs_host (ps : List Str) : cs (host ps) = 113 :: ps.flatMap fun p => 46 :: cs p := by
  unfold host
  have e : Txt.join (Str.ofString ".") (Str.ofString "q" :: ps) = Str.join (Str.ofString ".") (Str.ofString "q" :: ps) := StrLaws.glued_eq_join _ _
  rw [e, cs_joinD, show cs (Str.ofString "q") = [113] by decide +kernel]; rfl
theorem cs_dom (q : Str) (r : List Str) : cs (dom (q :: r)) = (q :: r).flatMap fun p => 46 :: cs p := by
  unfold dom
  have e : Txt.join (Str.ofString ".") (q :: r) = Str.join (Str.ofString ".") (q :: r) := StrLaws.glued_eq_join _ _
  rw [e, cs_append, cs_joinD, show cs (Str.ofString ".") = [46] by decide +kernel]
  simp
def OKr : List Nat := [108, 115, 45, 98, 100, 99, 112, 114, 119, 83, 120, 116, 84, 63]
def OKc : List Nat := 46 :: 113 :: OKr
theorem lower_one : ∀ c ∈ OKc, Unicode.lowerOf c = [lw c] ∧ c ≠ 0x3A3 := by decide +kernel
theorem cs_lower {x : Str} (h : ∀ c ∈ cs x, c ∈ OKc) : cs (Txt.lower x) = (cs x).map lw := by
  unfold Txt.lower placed cs at *
  dsimp only
  have e : (x.cps.mapIdx fun i c => (Unicode.lowerAt x.cps i).toArray) = x.cps.map fun c => #[lw c] := by
    apply Array.ext
    · simp
    · intro i h1 h2
      simp only [Array.getElem_mapIdx, Array.getElem_map]
      have hi : i < x.cps.size := by simpa using h1
      unfold Unicode.lowerAt
      rw [Array.getElem?_eq_getElem hi]
      dsimp only
      obtain ⟨h3, h4⟩ := lower_one x.cps[i] (h _ (by simp))
      have h5 : (x.cps[i] == 0x3A3) = false := by simpa using h4
      rw [h5, h3]
      rfl
  rw [e]
  generalize x.cps = a
  have key2 : ∀ r : List Nat, (r.map (Array.toList ∘ fun c => #[lw c])).flatten = r.map lw := by
    intro r
    induction r with
    | nil => rfl
    | cons c r ih => rw [List.map_cons, List.flatten_cons, ih]; rfl
  have key : ∀ l : List Nat, (Array.map (fun c => #[lw c]) l.toArray).flatten.toList = l.map lw := by
    intro l
    induction l with
    | nil => simp
    | cons c r ih => simp; exact key2 r
  exact key a.toList
theorem tab_ok : ∀ l ∈ fmTabs, ∀ p ∈ l, ∀ c ∈ cs p.2, c ∈ OKr := by decide +kernel
theorem fmAt_ok {md : Int} {i : Nat} : ∀ c ∈ cs (fmAt md i (fmTabs.getD i [])), c ∈ OKr := by
  unfold fmAt
  split
  · rename_i p hp
    have hm := List.mem_of_find?_eq_some hp
    by_cases hi : i < fmTabs.length
    · rw [List.getD_eq_getElem?_getD, List.getElem?_eq_getElem hi] at hm
      exact tab_ok _ (List.getElem_mem hi) p hm
    · rw [List.getD_eq_getElem?_getD, List.getElem?_eq_none (by omega)] at hm
      cases hm
  · split <;> decide +kernel
theorem FM_cs (md : Int) : cs (FM md) = (fmChars md).flatMap cs := by
  unfold FM
  have e : Txt.join (Str.ofString "") (fmChars md) = Str.join (Str.ofString "") (fmChars md) := StrLaws.glued_eq_join _ _
  rw [e, cs_join0]
theorem FM_ok (md : Int) : ∀ c ∈ cs (FM md), c ∈ OKr := by
  rw [FM_cs]
  intro c hc
  obtain ⟨x, hx, hc⟩ := List.mem_flatMap.mp hc
  unfold fmChars at hx
  obtain ⟨i, _, rfl⟩ := List.mem_map.mp hx
  exact fmAt_ok c hc
theorem FM_len {f : Int} (h : Val f) : (cs (FM f)).length = 10 := by
  obtain ⟨a, rfl⟩ := Int.eq_ofNat_of_zero_le h.1
  have := congrArg List.length (LB_eq a (by have := h.2; omega))
  unfold LB at this
  rw [List.length_map] at this
  rw [this]; rfl
theorem lw_ok : ∀ c ∈ OKr, lw c ≠ 46 ∧ ¬ (48 ≤ lw c ∧ lw c ≤ 57) := by decide
theorem LB_mem {f : Int} {c : Nat} (h : c ∈ LB f) : c ≠ 46 ∧ ¬ (48 ≤ c ∧ c ≤ 57) := by
  unfold LB at h
  obtain ⟨d, hd, rfl⟩ := List.mem_map.mp h
  exact lw_ok d (FM_ok f d hd)
theorem LB_blk {f : Int} (h : Val f) : Blk (LB f) := ⟨by unfold LB; rw [List.length_map]; exact FM_len h, fun hm => (LB_mem hm).1 rfl⟩
theorem flat_FM (l : List Int) : ((l.map FM).flatMap fun p => 46 :: cs p).map lw = flat (l.map LB) := by
  induction l with
  | nil => rfl
  | cons f r ih =>
    simp only [List.map_cons, List.flatMap_cons, List.map_append, ih]
    rw [flat_cons]
    simp [LB, lw]
theorem flat_ok (l : List Int) : ∀ c ∈ (l.map FM).flatMap fun p => 46 :: cs p, c ∈ OKc := by
  intro c hc
  obtain ⟨x, hx, hc⟩ := List.mem_flatMap.mp hc
  obtain ⟨f, _, rfl⟩ := List.mem_map.mp hx
  rcases List.mem_cons.mp hc with rfl | hc
  · exact .head _
  · exact .tail _ (.tail _ (FM_ok f c hc))
theorem host_low (l : List Int) : cs (Txt.lower (host (l.map FM))) = 113 :: flat (l.map LB) := by
  rw [cs_lower, cs_host, List.map_cons, flat_FM]; rfl
  rw [cs_host]
  intro c hc
  rcases List.mem_cons.mp hc with rfl | hc
  · exact .tail _ (.head _)
  · exact flat_ok l c hc
theorem dom_low (l : List Int) (h : l ≠ []) : cs (Txt.lower (dom (l.map FM))) = flat (l.map LB) := by
  cases l with
  | nil => exact absurd rfl h
  | cons f r =>
    have e := cs_dom (FM f) (r.map FM)
    rw [cs_lower, List.map_cons, e, ← List.map_cons, flat_FM]
    rw [List.map_cons, e, ← List.map_cons]
    exact flat_ok _
theorem rfind_iff {X Y : Str} {x y : Nat} {xs ys : List Nat} (hx : cs X = x :: xs) (hy : cs Y = y :: ys) (hne : x ≠ y) : 0 < Txt.rfind X Y ↔ ∃ i, cs Y <+: (cs X).drop i := by
  have hAt : ∀ i, StrLaws.At X Y X.length i ↔ cs Y <+: (cs X).drop i := by
    intro i
    unfold StrLaws.At
    rw [StrLaws.subAt_eq]
    have hl : Y.length = (cs Y).length := by simp [cs, Str.length]
    have hl2 : X.length = (cs X).length := by simp [cs, Str.length]
    rw [List.prefix_iff_eq_take, hl, hl2]
    constructor
    · rintro ⟨_, h⟩
      exact (eq_of_beq h).symm
    · intro h
      refine ⟨?_, by rw [beq_iff_eq]; exact h.symm⟩
      have h2 := congrArg List.length h
      rw [List.length_take, List.length_drop] at h2
      have h3 : (cs Y).length = ys.length + 1 := by rw [hy]; rfl
      omega
  have h0 : ¬ cs Y <+: (cs X).drop 0 := by
    rw [hx, hy, List.drop_zero, List.cons_prefix_cons]
    exact fun q => hne q.1.symm
  unfold Txt.rfind
  rcases StrLaws.last_spec X Y with ⟨e, h⟩ | ⟨i, e, h, _⟩
  · rw [e]
    constructor
    · intro q; exact absurd q (by decide)
    · rintro ⟨i, hi⟩; exact absurd ((hAt i).mpr hi) (h i)
  · rw [e]
    constructor
    · intro _; exact ⟨i, (hAt i).mp h⟩
    · intro _
      show (0 : Int) < (i : Int)
      have : i ≠ 0 := by rintro rfl; exact h0 ((hAt 0).mp h)
      omega
theorem hit_iff {l r : List Int} (hl : ∀ f ∈ l, Val f) (hr : ∀ f ∈ r, Val f) (hne : r ≠ []) : hit (l.map FM) (r.map FM) = true ↔ ∃ a, r.map LB <+: (l.map LB).drop a := by
  unfold hit
  rw [decide_eq_true_eq]
  cases r with
  | nil => exact absurd rfl hne
  | cons f r =>
    have e1 := host_low l
    have e2 := dom_low (f :: r) hne
    have e3 : cs (Txt.lower (dom ((f :: r).map FM))) = 46 :: (LB f ++ flat (r.map LB)) := by rw [e2, List.map_cons, flat_cons]
    rw [rfind_iff e1 e3 (by decide), e1, e2]
    refine blocks ?_ ?_ (by simp)
    · intro b hb
      obtain ⟨g, hg, rfl⟩ := List.mem_map.mp hb
      exact LB_blk (hl g hg)
    · intro b hb
      obtain ⟨g, hg, rfl⟩ := List.mem_map.mp hb
      exact LB_blk (hr g hg)
end Mine
end
section
open PySem PySem.W PyProof.Rows PySem.Spec PySem.Calls
namespace Mine
def slI {α : Type} (l : List α) (a b : Nat) : List α := (l.drop a).take (b - a)
theorem sliceS_map (fs : List Int) (a b : Nat) : sliceS (fs.map KEY) a b = (slI fs a b).map KEY := by
  unfold sliceS slI; rw [List.map_take, List.map_drop]
theorem map_iff : ∀ {l1 l2 : List Int}, (∀ f ∈ l1, Val f) → (∀ f ∈ l2, Val f) → (l1.map KEY = l2.map KEY ↔ l1.map LB = l2.map LB)
  | [], [], _, _ => by simp
  | [], _ :: _, _, _ => by simp
  | _ :: _, [], _, _ => by simp
  | a :: r, b :: q, h1, h2 => by
    simp only [List.map_cons, List.cons.injEq]
    rw [key_iff (h1 a (.head _)) (h2 b (.head _)), map_iff (fun f hf => h1 f (.tail _ hf)) (fun f hf => h2 f (.tail _ hf))]
theorem sl_val {fs : List Int} (h : ∀ f ∈ fs, Val f) (a b : Nat) : ∀ f ∈ slI fs a b, Val f := fun f hf => h f (List.mem_of_mem_drop (List.mem_of_mem_take hf))
theorem sl_len {α : Type} {fs : List α} {a b : Nat} (h : b ≤ fs.length) : (slI fs a b).length = b - a := by
  unfold slI; rw [List.length_take, List.length_drop]; omega
theorem stands_iff {fs : List Int} (hv : ∀ f ∈ fs, Val f) {f i : Nat} (hfi : f ≤ i) (hi : i < fs.length) :
    standsB (fs.map KEY) f (i + 1) = true ↔ ∃ a, (slI fs f (i + 1)).map LB <+: ((fs.take i).map LB).drop a := by
  have hsl : ∀ p, slI fs p (p + (i + 1) - f) = (fs.drop p).take (i + 1 - f) := fun p => by
    unfold slI; rw [show p + (i + 1) - f - p = i + 1 - f by omega]
  have hdr : ∀ a, ((fs.take i).map LB).drop a = ((fs.drop a).take (i - a)).map LB := fun a => by
    rw [← List.map_drop, List.drop_take]
  unfold standsB
  rw [List.any_eq_true]
  constructor
  · rintro ⟨p, hp, e⟩
    rw [List.mem_range] at hp
    have e1 := of_decide_eq_true e
    rw [sliceS_map, sliceS_map, map_iff (sl_val hv _ _) (sl_val hv _ _), hsl] at e1
    refine ⟨p, ?_⟩
    rw [← e1, hdr]
    have h1 : (fs.drop p).take (i + 1 - f) = ((fs.drop p).take (i - p)).take (i + 1 - f) := by
      rw [List.take_take, Nat.min_eq_left (by omega)]
    rw [h1]
    exact (List.take_prefix _ _).map _
  · rintro ⟨a, h⟩
    rw [hdr] at h
    have hl := h.length_le
    rw [List.length_map, List.length_map, sl_len (by omega), List.length_take, List.length_drop] at hl
    have ha : a < f := by omega
    have e := List.prefix_iff_eq_take.mp h
    rw [List.length_map, sl_len (by omega), ← List.map_take, List.take_take, Nat.min_eq_left (by omega), ← hsl] at e
    refine ⟨a, List.mem_range.mpr ha, decide_eq_true ?_⟩
    rw [sliceS_map, sliceS_map, map_iff (sl_val hv _ _) (sl_val hv _ _)]
    exact e.symm
theorem mono_stands (ks : List Str) : Mono (standsB ks) where
  pre := by
    intro f b b' h h1 h2
    unfold standsB at *
    rw [List.any_eq_true] at *
    obtain ⟨p, hp, e⟩ := h
    refine ⟨p, hp, decide_eq_true ?_⟩
    have e1 := of_decide_eq_true e
    unfold sliceS at *
    rw [show p + b - f - p = b - f by omega] at e1
    rw [show p + b' - f - p = b' - f by omega]
    have e2 := congrArg (List.take (b' - f)) e1
    rwa [List.take_take, List.take_take, Nat.min_eq_left (by omega)] at e2
  suf := by
    intro f f' b h h1 h2
    unfold standsB at *
    rw [List.any_eq_true] at *
    obtain ⟨p, hp, e⟩ := h
    rw [List.mem_range] at hp
    refine ⟨p + (f' - f), List.mem_range.mpr (by omega), decide_eq_true ?_⟩
    have e1 := of_decide_eq_true e
    unfold sliceS at *
    rw [show p + b - f - p = b - f by omega] at e1
    rw [show p + (f' - f) + b - f' - (p + (f' - f)) = b - f' by omega]
    have e2 := congrArg (List.drop (f' - f)) e1
    rw [List.drop_take, List.drop_take, List.drop_drop, List.drop_drop, show b - f - (f' - f) = b - f' by omega, show f + (f' - f) = f' by omega] at e2
    exact e2
  zero := by intro b; rfl
theorem sl_snoc {fs : List Int} {f i : Nat} {g : Int} (hfi : f ≤ i) (hg : fs[i]? = some g) : slI fs f (i + 1) = slI fs f i ++ [g] := by
  unfold slI
  rw [show i + 1 - f = i - f + 1 by omega, List.take_add_one, List.getElem?_drop, show f + (i - f) = i by omega, hg]
  rfl
theorem cut_inv {fs : List Int} (hv : ∀ f ∈ fs, Val f) : ∀ i, i ≤ fs.length → (grN (standsB (fs.map KEY)) i).1 ≤ i ∧
    cutF ((fs.map FM).take i) = ((fs.take i).map FM, (slI fs (grN (standsB (fs.map KEY)) i).1 i).map FM, (grN (standsB (fs.map KEY)) i).2.map fun b => ((b : Nat) : Int))
  | 0, _ => ⟨Nat.le_refl _, rfl⟩
  | i + 1, hi => by
    obtain ⟨h1, h2⟩ := cut_inv hv i (by omega)
    have hg : fs[i]? = some fs[i] := List.getElem?_eq_getElem (by omega)
    generalize fs[i] = g at hg
    have hx : (fs.map FM)[i]? = some (FM g) := by rw [List.getElem?_map, hg]; rfl
    have hgr : grN (standsB (fs.map KEY)) (i + 1) = if standsB (fs.map KEY) (grN (standsB (fs.map KEY)) i).1 (i + 1) = true then grN (standsB (fs.map KEY)) i else (i + 1, (grN (standsB (fs.map KEY)) i).2 ++ [i + 1]) := rfl
    rw [cutF_snoc _ _ _ hx, h2, hgr]
    generalize grN (standsB (fs.map KEY)) i = st at h1
    obtain ⟨f, c⟩ := st
    dsimp only at *
    have e1 : (slI fs f i).map FM ++ [FM g] = (slI fs f (i + 1)).map FM := by rw [sl_snoc h1 hg, List.map_append]; rfl
    have e2 : (fs.take i).map FM ++ [FM g] = (fs.take (i + 1)).map FM := by rw [List.take_add_one, hg, List.map_append]; rfl
    have hne : slI fs f (i + 1) ≠ [] := by
      intro q
      have := sl_len (fs := fs) (a := f) (b := i + 1) hi
      rw [q] at this
      simp only [List.length_nil] at this
      omega
    have hhit : hit ((fs.take i).map FM) ((slI fs f (i + 1)).map FM) = standsB (fs.map KEY) f (i + 1) := by
      rw [Bool.eq_iff_iff, hit_iff (fun x hx => hv x (List.mem_of_mem_take hx)) (sl_val hv _ _) hne, stands_iff hv h1 (by omega)]
    unfold stepF
    dsimp only
    rw [e1, e2, hhit]
    by_cases hs : standsB (fs.map KEY) f (i + 1) = true
    · rw [if_pos hs, if_pos hs, if_pos hs]
      exact ⟨by show f ≤ i + 1; omega, rfl⟩
    · rw [if_neg hs, if_neg hs, if_neg hs]
      refine ⟨Nat.le_refl _, ?_⟩
      dsimp only
      have e3 : slI fs (i + 1) (i + 1) = [] := by unfold slI; simp
      rw [e3, List.map_append, List.length_map, List.length_take, Nat.min_eq_left (by omega)]
      rfl
end Mine
end
section
open PySem PySem.W PyProof.Rows PySem.Spec PySem.Calls
namespace Mine
def farL (S : Nat → Nat → Bool) (n K : Nat) : List Int := (List.range K).map fun q => ((farN S n (q + 1) : Nat) : Int)
theorem len_cs (x : Str) : x.length = (cs x).length := by simp [cs, Str.length]
theorem getD_cs (x : Str) (k : Nat) : x.cps.getD k 0 = (cs x).getD k 0 := by
  unfold cs
  rw [List.getD_eq_getElem?_getD, Array.getElem?_toList]
  simp [Array.getD_eq_getD_getElem?]
theorem hdn_of {x : Str} {l : List Nat} (hx : cs x = l) (h1 : l.length ≤ 10000) (h2 : ∀ c ∈ l, ¬ (48 ≤ c ∧ c ≤ 57)) (h3 : 0 < l.length) (h4 : l.getD 0 0 ≠ 46) (h5 : l.getD (l.length - 1) 0 ≠ 46) : HdnOk x := by
  have hs : x.cps.size = l.length := by rw [← hx, ← len_cs]; rfl
  refine ⟨by rw [len_cs, hx]; exact h1, fun c hc => h2 c ?_, by rw [hs]; exact h3, by rw [getD_cs, hx]; exact h4, by rw [getD_cs, hs, hx]; exact h5⟩
  rw [← hx]; exact Array.mem_toList_iff.mpr hc
theorem slice1 {y : Str} (h : 1 ≤ (cs y).length) : cs (Txt.slice y (some 1) none) = (cs y).drop 1 := by
  have e : Txt.slice y (some 1) none = StrLaws.sliceText y (some ((1 : Nat) : Int)) (some ((y.length : Nat) : Int)) := by
    unfold Txt.slice StrLaws.sliceText
    rw [StrLaws.sliceIdx_none_hi]
    rfl
  rw [e, StrLaws.sliceText_nat y (by rw [len_cs]; exact h) (Nat.le_refl _)]
  unfold cs
  show (y.cps.toList.drop 1).take (y.length - 1) = _
  rw [List.take_of_length_le]
  rw [List.length_drop]; simp [Str.length]
theorem flat_mem {l : List Int} {c : Nat} (h : c ∈ flat (l.map LB)) : ¬ (48 ≤ c ∧ c ≤ 57) := by
  unfold flat at h
  obtain ⟨b, hb, hc⟩ := List.mem_flatMap.mp h
  obtain ⟨f, _, rfl⟩ := List.mem_map.mp hb
  rcases List.mem_cons.mp hc with rfl | hc
  · decide
  · exact (LB_mem hc).2
theorem last_in {X b : List Nat} (hb : b ≠ []) : (X ++ b).getD ((X ++ b).length - 1) 0 ∈ b := by
  have hp : 0 < b.length := List.length_pos_iff.mpr hb
  rw [List.length_append, List.getD_eq_getElem?_getD, List.getElem?_append_right (by omega)]
  rw [show X.length + b.length - 1 - X.length = b.length - 1 by omega, List.getElem?_eq_getElem (by omega)]
  exact List.getElem_mem _
theorem LB_ne (g : Int) (h : Val g) : LB g ≠ [] := by
  intro q
  have := (LB_blk h).1
  rw [q] at this
  cases this
theorem last_ok (P : List Nat) {l : List Int} (hv : ∀ f ∈ l, Val f) (hne : l ≠ []) : (P ++ flat (l.map LB)).getD ((P ++ flat (l.map LB)).length - 1) 0 ≠ 46 := by
  have e := List.dropLast_concat_getLast hne
  have hg := hv _ (List.getLast_mem hne)
  generalize l.getLast hne = g at e hg
  have e2 : P ++ flat (l.map LB) = (P ++ (flat (l.dropLast.map LB) ++ [46])) ++ LB g := by
    rw [← e]; unfold flat; simp
  rw [e2]
  exact (LB_mem (last_in (LB_ne g hg))).1
theorem host_ok (l : List Int) : ∀ c ∈ cs (host (l.map FM)), c ∈ OKc := by
  rw [cs_host]
  intro c hc
  rcases List.mem_cons.mp hc with rfl | hc
  · exact .tail _ (.head _)
  · exact flat_ok l c hc
theorem dom_ok {l : List Int} (h : l ≠ []) : ∀ c ∈ cs (dom (l.map FM)), c ∈ OKc := by
  cases l with
  | nil => exact absurd rfl h
  | cons f r =>
    have e := cs_dom (FM f) (r.map FM)
    rw [List.map_cons, e, ← List.map_cons]
    exact flat_ok _
theorem blk_all {l : List Int} (hv : ∀ f ∈ l, Val f) : ∀ b ∈ l.map LB, Blk b := by
  intro b hb
  obtain ⟨g, hg, rfl⟩ := List.mem_map.mp hb
  exact LB_blk (hv g hg)
theorem dm_ok {l r : List Int} (hl : ∀ f ∈ l, Val f) (hr : ∀ f ∈ r, Val f) (hne : r ≠ []) (l1 : l.length ≤ 60) (l2 : r.length ≤ 60) : DmOk (host (l.map FM)) (dom (r.map FM)) := by
  have eh := host_low l
  have ed := dom_low r hne
  have fl := flat_len (blk_all hl)
  have fr := flat_len (blk_all hr)
  rw [List.length_map] at fl fr
  have rp : 0 < r.length := List.length_pos_iff.mpr hne
  refine ⟨?_, ?_, hdn_of eh ?_ ?_ ?_ ?_ ?_, ?_, hdn_of (slice1 (by rw [ed, fr]; omega)) ?_ ?_ ?_ ?_ ?_⟩
  · rw [len_cs, ← List.length_map (f := lw), ← cs_lower (host_ok l), eh, List.length_cons, fl]; omega
  · rw [len_cs, ← List.length_map (f := lw), ← cs_lower (dom_ok hne), ed, fr]; omega
  · rw [List.length_cons, fl]; omega
  · intro c hc
    rcases List.mem_cons.mp hc with rfl | hc
    · decide
    · exact flat_mem hc
  · simp
  · show (113 : Nat) ≠ 46
    decide
  · cases l with
    | nil => decide
    | cons a q => exact last_ok [113] hl (by simp)
  · rw [getD_cs, ed]
    cases r with
    | nil => exact absurd rfl hne
    | cons a q => rw [List.map_cons, flat_cons]; rfl
  · rw [ed, List.length_drop, fr]; omega
  · rw [ed]; intro c hc; exact flat_mem (List.mem_of_mem_drop hc)
  · rw [ed, List.length_drop, fr]; omega
  · rw [ed]
    cases r with
    | nil => exact absurd rfl hne
    | cons a q =>
      rw [List.map_cons, flat_cons, List.drop_succ_cons, List.drop_zero]
      have hb := LB_blk (hr a (.head _))
      have hlt : 0 < (LB a).length := by rw [hb.1]; decide
      rw [List.getD_eq_getElem?_getD, List.getElem?_append_left hlt, List.getElem?_eq_getElem hlt]
      exact (LB_mem (List.getElem_mem hlt)).1
  · rw [ed, List.length_drop]
    have h1 := last_ok [] hr hne
    rw [List.nil_append] at h1
    rw [List.getD_eq_getElem?_getD, List.getElem?_drop, ← List.getD_eq_getElem?_getD]
    rw [show 1 + ((flat (r.map LB)).length - 1 - 1) = (flat (r.map LB)).length - 1 by rw [fr]; omega]
    exact h1
theorem sum10 : ∀ {l : List Int}, (∀ f ∈ l, Val f) → ((l.map FM).map (·.length)).sum = 10 * l.length
  | [], _ => rfl
  | f :: r, h => by
    rw [List.map_cons, List.map_cons, List.sum_cons, sum10 (fun x hx => h x (.tail _ hx)), List.length_cons, len_cs, FM_len (h f (.head _))]
    omega
theorem gr_len : ∀ (S : Nat → Nat → Bool) i, (grN S i).2.length ≤ i
  | S, 0 => Nat.le_refl _
  | S, i + 1 => by
    have ih := gr_len S i
    have hgr : grN S (i + 1) = if S (grN S i).1 (i + 1) = true then grN S i else (i + 1, (grN S i).2 ++ [i + 1]) := rfl
    rw [hgr]
    split
    · omega
    · show ((grN S i).2 ++ [i + 1]).length ≤ i + 1
      rw [List.length_append]; simp; omega
theorem rows_ok {fs : List Int} (hv : ∀ f ∈ fs, Val f) (h12 : fs.length ≤ 12) : RowsOk (fs.map FM) := by
  intro i x hx
  rw [List.getElem?_map] at hx
  cases hg : fs[i]? with
  | none => rw [hg] at hx; cases hx
  | some g =>
    rw [hg] at hx
    cases hx
    have hi : i < fs.length := (List.getElem?_eq_some_iff.mp hg).1
    obtain ⟨h1, h2⟩ := cut_inv hv i (by omega)
    rw [h2]
    have hgl := gr_len (standsB (fs.map KEY)) i
    generalize grN (standsB (fs.map KEY)) i = st at h1 hgl
    obtain ⟨f, c⟩ := st
    dsimp only at *
    have e1 : (slI fs f i).map FM ++ [FM g] = (slI fs f (i + 1)).map FM := by rw [sl_snoc h1 hg, List.map_append]; rfl
    have hl := sl_len (fs := fs) (a := f) (b := i + 1) hi
    have hl0 := sl_len (fs := fs) (a := f) (b := i) (by omega)
    have ht : (fs.take i).length = i := by rw [List.length_take]; omega
    have hvt : ∀ f ∈ fs.take i, Val f := fun x hx => hv x (List.mem_of_mem_take hx)
    rw [e1]
    refine ⟨dm_ok hvt (sl_val hv _ _) (fun q => ?_) (by omega) (by omega), ?_, ?_, ?_, ?_, ?_⟩
    · rw [q] at hl; simp only [List.length_nil] at hl; omega
    · rw [List.length_map]; omega
    · rw [List.length_map]; omega
    · rw [List.length_map]; omega
    · rw [sum10 hvt]; omega
    · rw [sum10 (sl_val hv _ _)]; omega
theorem plain_law (fs : List Int) (hb : ∀ f ∈ fs, 0 ≤ f ∧ f < 65536) (h6 : 6 ≤ fs.length) (h12 : fs.length ≤ 12) :
    RowsOk (fs.map FM) ∧ (cutF (fs.map FM)).2.1.length ≤ 1000 ∧ (∀ k ∈ fs.map KEY, PyData.strOk k = true) ∧
    ∀ K, farN (standsB (fs.map KEY)) fs.length K = fs.length → (∀ j < K, farN (standsB (fs.map KEY)) fs.length j < fs.length) → 2 ≤ K ∧
      (((cutF (fs.map FM)).2.1.length = 0 ∧ (cutF (fs.map FM)).2.2 = farL (standsB (fs.map KEY)) fs.length K ∧ standsB (fs.map KEY) (farN (standsB (fs.map KEY)) fs.length (K - 1)) fs.length = false) ∨
       ((cutF (fs.map FM)).2.1.length = fs.length - farN (standsB (fs.map KEY)) fs.length (K - 1) ∧ farN (standsB (fs.map KEY)) fs.length (K - 1) < fs.length ∧ (cutF (fs.map FM)).2.2 = (farL (standsB (fs.map KEY)) fs.length K).dropLast ∧
        standsB (fs.map KEY) (farN (standsB (fs.map KEY)) fs.length (K - 1)) fs.length = true)) := by
  obtain ⟨h1, h2⟩ := cut_inv hb fs.length (Nat.le_refl _)
  have ht : (fs.map FM).take fs.length = fs.map FM := List.take_of_length_le (by simp)
  rw [ht] at h2
  have hl := sl_len (fs := fs) (a := (grN (standsB (fs.map KEY)) fs.length).1) (b := fs.length) (Nat.le_refl _)
  refine ⟨rows_ok hb h12, ?_, ?_, ?_⟩
  · rw [h2]
    show ((slI fs _ _).map FM).length ≤ 1000
    rw [List.length_map, hl]; omega
  · intro k hk
    obtain ⟨f, hf, rfl⟩ := List.mem_map.mp hk
    exact key_ok_str (hb f hf)
  · intro K hK hlt
    obtain ⟨hK2, hc⟩ := gr_far (mono_stands (fs.map KEY)) (by omega) K hK hlt
    refine ⟨hK2, ?_⟩
    have e1 : (cutF (fs.map FM)).2.1.length = fs.length - (grN (standsB (fs.map KEY)) fs.length).1 := by
      rw [h2]
      show ((slI fs _ _).map FM).length = _
      rw [List.length_map, hl]
    have e2 : (cutF (fs.map FM)).2.2 = (grN (standsB (fs.map KEY)) fs.length).2.map fun b => ((b : Nat) : Int) := by rw [h2]
    rw [e1, e2]
    rcases hc with ⟨c1, c2, c3⟩ | ⟨c1, c2, c3, c4⟩
    · refine .inl ⟨by omega, ?_, c3⟩
      rw [c2, List.map_map]; rfl
    · refine .inr ⟨by rw [c3], by rw [← c3]; exact c1, ?_, c4⟩
      rw [c2, List.map_dropLast, List.map_map]; rfl
end Mine
end
section
open PySem PySem.W PyProof.Rows PySem.Spec PySem.Calls
namespace Mine
theorem room_caller (env : Env) : Room (callerA.deeper env) 40 := ⟨rfl, by rw [depth_deeper, depth_caller]; decide, by rw [units_deeper, units_caller, cLine_is]; decide⟩
theorem src_at {h₀ h : Heap} {L fa : Addr} {mt : List Addr} {m : Str → Option Value} {vs : Array Value} (F : Fr h₀ L h m) (hl : h.IsList fa vs) (hm : fa ∉ mt) : LCg.SrcAt h₀ fa vs (restOf h₀ L mt h) := by
  have hne := list_ne F.ns hl
  obtain ⟨o, e, hc, n, hd⟩ := hl
  cases q : h₀.get? fa with
  | none => exact .inr ⟨o, rest_mem e hne hm q, hc, n, hd⟩
  | some o' =>
    have := F.keep _ _ q
    rw [e] at this
    cases this
    exact .inl ⟨o, q, hc, n, hd⟩
theorem rest_of_F {h₀ h : Heap} {L : Addr} {m : Str → Option Value} (_ : Fr h₀ L h m) : News h₀ L h (restOf h₀ L [] h) := rest_news
theorem src_tail {h₀ : Heap} {fa : Addr} {vs : Array Value} {p : Addr × Obj} {l : List (Addr × Obj)} (S : LCg.SrcAt h₀ fa vs l) : LCg.SrcAt h₀ fa vs (p :: l) := by
  rcases S with S | ⟨o, hm, r⟩
  · exact .inl S
  · exact .inr ⟨o, .tail _ hm, r⟩
theorem CompSrc_src {prog : Program} {w : World} {A : Around} {h₀ : Heap} {L : Addr} {m : Str → Option Value} {env : Env} {elt : PySem.Expr} {x : Str} {scope : Scope} {cl : List (Str × Addr)} {Fin : Shared → List Value → List (Addr × Obj) → Prop} {ax : Addr} {its : Array Value} {news : List (Addr × Obj)} {s₁ : Shared}
    (hh : A.handled = none) (F : Fr h₀ L s₁.heap m) (N : News h₀ L s₁.heap news) (S : LCg.SrcAt h₀ ax its news) (hsz : its.size ≤ sizeLine)
    (h : ∀ g, LCg.CompRest prog w A h₀ L m env elt x scope cl { s₁ with heap := g } (LCg.SrcAt h₀ ax its) (fun i v => its[i]? = some v) (Fin { s₁ with heap := g }) its.size 0 [] news) :
    LCg.CompSrc prog w A h₀ L m env elt x scope cl Fin (.ref ax) s₁ := .inl ⟨ax, its, news, rfl, hh, F, N, S, hsz, fun _ ⟨g, e⟩ => e ▸ h g⟩
theorem farL_len (S : Nat → Nat → Bool) (n K : Nat) : (farL S n K).length = K := by simp [farL]
theorem farL_at {S : Nat → Nat → Bool} {n K : Nat} (hK : 2 ≤ K) : (farL S n K)[(farL S n K).length - 2]? = some ((farN S n (K - 1) : Nat) : Int) := by
  rw [farL_len]
  unfold farL
  rw [List.getElem?_map, List.getElem?_range (by omega)]
  rw [show K - 1 = K - 2 + 1 by omega]; rfl
theorem pick_drop (ns : List Int) (h : 1 ≤ ns.length) : pickNums ns none (some (-1)) none = ns.dropLast := by
  have e : sliceBounds none (some (-1)) none ns.length = (0, (ns.length : Int) - 1, 1) := by
    have h1 : max (0 : Int) (min (-1 + (ns.length : Int)) (ns.length : Int)) = (ns.length : Int) - 1 := by omega
    show ((0 : Int), max (0 : Int) (min (-1 + (ns.length : Int)) (ns.length : Int)), (1 : Int)) = _
    rw [h1]
  have e2 : sliceRange 0 ((ns.length : Int) - 1) 1 = (List.range (ns.length - 1)).map (fun k => 0 + k) := by
    unfold sliceRange
    rw [if_pos (by decide)]
    dsimp only
    have h2 : (if (0 : Int) < (ns.length : Int) - 1 then ((ns.length : Int) - 1 - 0 + 1 - 1) / 1 else 0).toNat = ns.length - 1 := by
      split
      · rw [Int.ediv_one]; omega
      · omega
    rw [h2]
    exact List.map_congr_left fun k _ => by omega
  unfold pickNums
  rw [e]
  dsimp only
  rw [e2, StrLaws.picks ns (ns.length - 1) 0 (by omega), List.drop_zero, List.dropLast_eq_take]
theorem good_true {cl : Str → Option Addr} {mean : ExcName → Option Value} {args : List WData} {s₁ s' : Shared} (hk : ∀ b o, s₁.heap.get? b = some o → s'.heap.get? b = some o) (hos : s'.os = s₁.os) (hg : s'.gens = #[]) :
    GoodW Challenge.rw_oy0130_01.row.claim cl mean args s₁ (.ok (.ret (.bool true))) s' := by
  refine ⟨.inl ⟨.bool true, .bool true, [], rfl, fun cls => rfl, ?_, ?_, fun _ => ⟨List.nodup_nil, by simp⟩⟩, hk, hos, hg⟩
  · exact ReadsW.bool _
  · show (WShape.has [] (.bool true) .bool && WTm.holds [] (.eq .res (.lit (.bool true))) { args := args, res := some (.bool true), after := args }) = true
    simp only [WShape.has, WTm.holds, WTm.value, Bool.and_eq_true]
    refine ⟨?_, ?_⟩
    · simp [WShape.arms]
    · simp [PySem.W.same]
theorem pick_neg2 {prog : Program} {w : World} {A : Around} {E : Value → Shared → Prop} {s : Shared} {value slice : PySem.Expr} {l : Addr} {vs : Array Value} {ns : List Int} {x : Int} {u : Tok} {Q : Value → Shared → Prop}
    (hl : s.heap.IsList l vs) (hi : IntsAre vs.toList ns) (h2 : 2 ≤ ns.length) (hx : ns[ns.length - 2]? = some x) (h : ∀ t, Q (.int x t) s)
    (hs : subscripted slice false (.ref l) (.int (-2) u) = operate [.ref l, .int (-2) u] (getItem (.ref l) (.int (-2) u)) := by with_unfolding_all rfl) :
    wpAny (model prog w) A (subscriptTail value slice (.ref l) (.int (-2) u)) Q E s := by
  have hz : vs.size = ns.length := by have := IntsAre.length hi; rwa [Array.length_toList] at this
  have hk : ns.length - 2 < vs.toList.length := by have h3 := IntsAre.length hi; omega
  obtain ⟨y, tk, e, hy⟩ := IntsAre.at hi (ns.length - 2) vs.toList[ns.length - 2] (List.getElem?_eq_getElem hk)
  rw [hx] at hy
  cases hy
  have hz1 : -(vs.size : Int) ≤ -2 := by omega
  refine tail_any hl.typeIs slot_list_getitem.lookup (wpAny_getItem_list_neg hl (by decide) hz1 (by decide) (x := .int x tk) ?_ (h tk)) hs
  rw [show ((-2 : Int) + (vs.size : Int)).toNat = ns.length - 2 by omega, ← e]
  have hk' : ns.length - 2 < vs.size := by omega
  rw [Array.getElem?_eq_getElem hk']; simp
local macro_rules | `(tactic| walk_at "eval ListComp") => `(tactic| ((with_reducible show wpAny _ _ (eval (.ListComp _ [⟨_, _, [], _⟩] _ _) _) _ _ _); k_dflt (refine LCg.ListComp_U (F₀ := by k_asm) (by with_unfolding_all rfl) (by decide) (by rfl) (by decide) (by rfl) ?_)))
local macro_rules | `(tactic| walk_at "exec Assign cons ListComp") => `(tactic| (k_dflt (refine LCg.Assign_ListComp_U (F₀ := by k_asm) (by rfl) (by with_unfolding_all rfl) (by with_unfolding_all rfl) (by decide) (by rfl) (by decide) (by rfl) (by rfl) (by rfl) ?_)))
set_option maxRecDepth 100000 in
set_option maxHeartbeats 8000000 in
theorem law_holds : PySem.Challenge.rw_oy0130_01.Holds := hd (by
  w_strict (
    k_go0
    rename Below _ _ _ _ => KB
    clear KB
    have G9 : Gd _ (ghostOf _ _) := ⟨by assumption, _, _, _, _, by assumption⟩
    repeat (fail_if_success (with_reducible show wpAny _ _ (call (.ref _) _) _ _ _)); first | walk1 | (dsimp only; walk1)
    rename CodeHd _ _ _ => CH
    rename IntsAre _ _ => hI
    rename News _ _ _ _ => N9
    rename Fr _ _ _ _ => F9
    have n113 := (N9 (113, tabObj #[]) (.head _)).2
    refine useFn (files_ok _ _ _ _) F9 N9 ((room_caller _).less (by decide)) G9 ⟨rfl, Fr.lst F9 (by assumption), hI, by omega⟩ ?_
    rintro r h2 tk2 F2 N2 k2 ⟨fa, fvs, fs, rfl, hfl, hfi, hfb, hf6, hf12⟩
    clear F9 N9 k2
    have F2b := Box.mk F2
    have hf113 : fa ∉ [113] := by
      intro e
      obtain ⟨o, e1, _, n, e2⟩ := hfl
      have e3 : fa = 113 := by simpa using e
      rw [e3, (N2 _ (.head _)).1] at e1
      cases e1
      exact absurd e2 (by intro q; cases q)
    have hS := src_tail (p := (113, tabObj #[])) (src_at F2 hfl hf113)
    have hfz := IntsAre.length hfi
    rw [Array.length_toList] at hfz
    obtain ⟨P1, P2, P3, P4⟩ := plain_law fs hfb hf6 hf12
    have bP := Box.mk P4
    have bP1 := Box.mk P1
    have bP3 := Box.mk P3
    have bfi := Box.mk hfi
    have bfb := Box.mk hfb
    have bfl := Box.mk hfl
    clear P4 P3 P1 hfi hfb hfl
    replace N2 : News _ _ h2 ((113, tabObj #[]) :: restOf _ _ [113] h2) := fun p hp => by
      rcases List.mem_cons.mp hp with rfl | hp
      · exact N2 _ (.head _)
      · exact rest_news p hp
    dsimp only
    repeat (fail_if_success (with_reducible show LCg.CompSrc _ _ _ _ _ _ _ _ _ _ _ _ _ _)); first | walk1 | (dsimp only; walk1)
    rename Fr _ _ _ _ => F3
    rename News _ _ _ _ => N3
    refine CompSrc_src rfl F3 N3 hS (by rw [hfz]; exact Nat.le_trans hf12 (by decide)) ?_
    intro g
    refine compU (fun i ys => StrsAre ys ((fs.take i).map FM)) .nil ?_ ?_
    · rintro i v I oI C oC D m₂ ys h tk E' hi hv hInv hC hx F5 N5 off ne
      clear F3 N3
      obtain ⟨f, tf, rfl, hf⟩ := IntsAre.at bfi.out i v (by simpa using hv)
      obtain ⟨hf0, hf1⟩ := bfb.out f (List.mem_of_getElem? hf)
      have bInv := Box.mk hInv
      clear hInv hv
      k_steps
      refine useFn (filemode_ok _ f tf) F5 N5 ((room_caller _).less (by decide)) G9 ⟨rfl, hf0, hf1⟩ ?_
      rintro _ h7 tk7 F7 N7 k7 ⟨tk8, rfl⟩
      clear F5 N5 k7
      refine LCg.CompEnd.intro F7 N7 _ (fun p hp => hp) off hS ⟨rfl, ?_⟩
      rw [List.take_add_one, hf, List.map_append]
      exact StrsAre.append' bInv.out (.cons _ _ .nil)
    intro ys hInv D h tk F5 N5 o1
    clear F3 N3
    rw [hfz, List.take_length] at hInv
    have bInv := Box.mk hInv
    clear hInv
    dsimp only
    repeat (fail_if_success (with_reducible show wpAny _ _ (call (.ref _) _) _ _ _)); first | walk1 | (dsimp only; walk1)
    rename Fr _ _ _ _ => F6
    rename News _ _ _ _ => N6
    refine wpAny_mono (cut_ok ((room_caller _).less (by decide)) G9 n113.2 F6.keep (N6 (113, _) (by k_mem)).1 CH (News.isList N6 (.head _)) bInv.out bP1.out P2) (fun r s' hr => ?_) (fun _ _ e => e)
    obtain ⟨⟨h8, tk8, rfl, kk⟩, hgr, ta, c, vc, left, tkl, rfl, htup, hlc, hci, hleft⟩ := hr
    have hfl6 := list_rest F2b.out F6 (fun p hp => N6 p (.tail _ (.tail _ hp))) bfl.out hf113
    have hfl8 : h8.IsList fa fvs := hfl6.at fun o e => kk fa o (by simpa using hf113) e
    have F7 : Fr (ghostOf _ _) _ h8 _ := ⟨F6.ns.at' fun o e => kk _ o n113.1.symm e, fun b o e => kk b o (by rintro rfl; rw [n113.2] at e; cases e) (F6.keep b o e), F6.above⟩
    have N7 := rest_of_F F7
    have hS8 := src_at F7 hfl8 (mt := []) (by simp)
    have F7b := Box.mk F7
    have bgr := Box.mk (show GrownAt 113 h8 from hgr)
    clear hgr
    have bci := Box.mk hci
    have blc := Box.mk (show h8.IsList c vc from hlc)
    have btup := Box.mk (show IsTup h8 ta #[.ref c, .int left tkl] from htup)
    clear F6 N6 hci hlc htup kk hfl6 hS bInv o1 hfl8
    dsimp only
    refine unpackN_ F7 N7 btup.out rfl rfl rfl ?_
    intro h9 F9 N9
    clear F7 N7
    repeat (fail_if_success (with_reducible show LCg.CompSrc _ _ _ _ _ _ _ _ _ _ _ _ _ _)); first | walk1 | (dsimp only; walk1)
    rename Fr _ _ _ _ => F10
    rename News _ _ _ _ => N10
    refine CompSrc_src rfl F10 N10 hS8 (by rw [hfz]; exact Nat.le_trans hf12 (by decide)) ?_
    intro g2
    refine compU (fun i ys => StrsAre ys ((fs.take i).map KEY)) .nil ?_ ?_
    · rintro i v I oI C oC D m₂ ys h tk E' hi hv hInv hC hx F5 N5 off ne
      clear F10 N10
      obtain ⟨f, tf, rfl, hf⟩ := IntsAre.at bfi.out i v (by simpa using hv)
      obtain ⟨hf0, hf1⟩ := bfb.out f (List.mem_of_getElem? hf)
      have bInv := Box.mk hInv
      clear hInv hv
      k_steps
      refine useFn (key_ok _ f tf) F5 N5 ((room_caller _).less (by decide)) G9 ⟨rfl, hf0, hf1⟩ ?_
      rintro _ h7 tk7 F7 N7 k7 ⟨tk8, rfl⟩
      clear F5 N5 k7
      refine LCg.CompEnd.intro F7 N7 _ (fun p hp => hp) off hS8 ⟨rfl, ?_⟩
      rw [List.take_add_one, hf, List.map_append]
      exact StrsAre.append' bInv.out (.cons _ _ .nil)
    intro ys2 hInv D2 h10 tk10 F5 N5 o1
    clear F10 N10
    rw [hfz, List.take_length] at hInv
    have hkz : ys2.length = fs.length := by rw [StrsAre.length hInv, List.length_map]
    have bInv := Box.mk hInv
    clear hInv
    dsimp only
    repeat (fail_if_success (with_reducible show wpAny _ _ (call (.builtin "len") _) _ _ _)); first | walk1 | (dsimp only; walk1)
    rename Fr _ _ _ _ => F11
    rename News _ _ _ _ => N11
    refine len_list (items := ys2.toArray) (News.isList N11 (.head _)) (by rw [List.size_toArray, hkz]; omega) ?_
    rw [show ys2.toArray.size = fs.length from by rw [List.size_toArray, hkz]]
    dsimp only
    repeat (fail_if_success (with_reducible show wpAny _ _ (call (.ref _) _) _ _ _)); first | walk1 | (dsimp only; walk1)
    rename Fr _ _ _ _ => F12
    rename News _ _ _ _ => N12
    refine useFn (far_ok _ D2 ys2.toArray (fs.map KEY)) F12 N12 ((room_caller _).less (by decide)) G9 ⟨rfl, News.isList N12 (.head _), by simpa using bInv.out, by rw [List.length_map]; omega, bP3.out⟩ ?_
    rintro r h13 tk13 F13 N13 k13 ⟨K, a, fvs2, rfl, hal, hai, hKn, hKlt⟩
    rw [List.length_map] at hai hKn hKlt
    obtain ⟨hK2, hcases⟩ := bP.out K hKn hKlt
    have hfr := hKlt (K - 1) (Nat.sub_lt (Nat.lt_of_lt_of_le (by decide) hK2) (by decide))
    have hfr1 := Int.ofNat_le.mpr (Nat.le_of_lt hfr)
    have hn100 : ((fs.length : Nat) : Int) ≤ 100 := by omega
    have hkl100 : (fs.map KEY).length ≤ 100 := by rw [List.length_map]; omega
    have hkle : ((fs.length : Nat) : Int) ≤ (((fs.map KEY).length : Nat) : Int) := by rw [List.length_map]; exact Int.le_refl _
    have hlc13 := list_rest F7b.out F13 (fun p hp => N13 p (.tail _ hp)) blc.out (by simp)
    have hgr13 : GrownAt 113 h13 := let ⟨ps, e⟩ := bgr.out; ⟨ps, rest_kept F7b.out F13 (fun p hp => N13 p (.tail _ hp)) n113.1 (by simp) e⟩
    have hl2 := News.isList N13 (.head _)
    have F13b := Box.mk F13
    have N14 := rest_of_F F13
    have bal := Box.mk hal
    have bai := Box.mk (show IntsAre fvs2.toList (farL (standsB (fs.map KEY)) fs.length K) from hai)
    have blc13 := Box.mk hlc13
    have bgr13 := Box.mk hgr13
    have bl2 := Box.mk hl2
    have bcases := Box.mk hcases
    have bleft := Box.mk hleft
    clear F12 N12 k13 N13 hai hal hlc13 hgr13 hl2 hcases hleft o1 hS8
    dsimp only
    rcases bcases.out with ⟨c1, c2, c3⟩ | ⟨c1, c2, c3, c4⟩
    · have hl0 : left = 0 := by rw [bleft.out, c1]; rfl
      have bc2 := Box.mk c2
      have bc3 := Box.mk c3
      clear c1 c2 c3
      subst hl0
      repeat (fail_if_success (with_reducible show wpAny _ _ (compareOp _ (.ref _) (.ref _)) _ _ _)); first | walk1 | (dsimp only; walk1)
      rename Fr _ _ _ _ => F15
      rename News _ _ _ _ => N15
      refine eq_intsK (vs := vc.toList) (us := fvs2.toList) (by simpa using list_rest F13b.out F15 N15 blc13.out (by simp)) bci.out (by simpa using list_rest F13b.out F15 N15 bal.out (by simp)) bai.out (Nat.lt_of_le_of_lt (Nat.add_le_add_left (by decide) _) (room_caller _).un) ?_
      rw [decide_eq_true bc2.out]
      dsimp only
      repeat (fail_if_success (with_reducible show wpAny _ _ (subscriptTail _ _ _ _) _ _ _)); first | walk1 | (dsimp only; walk1)
      refine pick_neg2 (list_rest F13b.out F15 N15 bal.out (by simp)) bai.out (by rw [farL_len]; exact hK2) (farL_at hK2) ?_
      intro t16
      dsimp only
      repeat (fail_if_success (with_reducible show wpAny _ _ (call (.ref _) _) _ _ _)); first | walk1 | (dsimp only; walk1)
      refine useFn (stands_ok _ D2 ys2.toArray (fs.map KEY) _ _ _ _) F15 N15 ((room_caller _).less (by decide)) G9 ⟨rfl, list_rest F13b.out F15 N15 bl2.out (by simp), by simpa using bInv.out, Int.natCast_nonneg _, hfr1, hn100, hkl100, hkle, bP3.out⟩ ?_
      rintro _ h17 tk17 F17 N17 k17 rfl
      clear F15 N15 k17
      rw [Int.toNat_natCast, Int.toNat_natCast, bc3.out]
      dsimp only
      repeat (fail_if_success (with_reducible show GoodW _ _ _ _ _ _ _ ∧ _)); first | walk1 | (dsimp only; walk1)
      refine ⟨good_true F17.keep rfl (by assumption), ⟨?_, trivial⟩⟩
      obtain ⟨ps, e⟩ := bgr13.out
      exact ⟨ps, rest_kept F13b.out F17 N17 n113.1 (by simp) e⟩
    · have hl0 : ¬ left = 0 := by rw [bleft.out, c1]; omega
      have hl1 : left = (fs.length : Int) - ((farN (standsB (fs.map KEY)) fs.length (K - 1) : Nat) : Int) := by rw [bleft.out, c1]; omega
      have bc3 := Box.mk c3
      have bc4 := Box.mk c4
      clear c1 c2 c3 c4
      repeat (fail_if_success (with_reducible show wpAny _ _ (compareOp _ (.ref _) (.ref _)) _ _ _)); first | walk1 | (dsimp only; walk1)
      · exact absurd (by assumption) hl0
      repeat (fail_if_success (with_reducible show wpAny _ _ (subscriptTail _ _ _ _) _ _ _)); first | walk1 | (dsimp only; walk1)
      rename Fr _ _ _ _ => F15
      rename News _ _ _ _ => N15
      have hvz : fvs2.size = K := by have h3 := IntsAre.length bai.out; rw [farL_len] at h3; simpa using h3
      refine slice_list F15 N15 (list_rest F13b.out F15 N15 bal.out (by simp)) .none (.int _ _) ?_ (hsz := by rw [hvz]; exact Nat.le_trans (show K ≤ 100 by have h3 := far_ge hKlt; rw [hKn] at h3; omega) (by decide))
      intro h16 F16 N16
      have hsl : IntsAre (slicePick fvs2 none (some (-1)) none).toList (farL (standsB (fs.map KEY)) fs.length K).dropLast := by
        have h3 := IntsAre.pick bai.out none (some (-1)) none
        rwa [pick_drop _ (by rw [farL_len]; omega)] at h3
      have bsl := Box.mk hsl
      clear F15 N15 hsl
      (try dsimp only at F16 N16 ⊢)
      repeat (fail_if_success (with_reducible show wpAny _ _ (compareOp _ (.ref _) (.ref _)) _ _ _)); first | walk1 | (dsimp only; walk1)
      refine eq_intsK (vs := vc.toList) (us := (slicePick fvs2 none (some (-1)) none).toList) (by simpa using list_rest F13b.out F16 (fun p hp => N16 p (.tail _ hp)) blc13.out (by simp)) bci.out (by simpa using News.isList N16 (.head _)) bsl.out (Nat.lt_of_le_of_lt (Nat.add_le_add_left (by decide) _) (room_caller _).un) ?_
      rw [decide_eq_true bc3.out]
      (try dsimp only)
      repeat (fail_if_success (with_reducible show wpAny _ _ (subscriptTail _ _ _ _) _ _ _)); first | walk1 | (dsimp only; walk1)
      refine pick_neg2 (list_rest F13b.out F16 (fun p hp => N16 p (.tail _ hp)) bal.out (by simp)) bai.out (by rw [farL_len]; exact hK2) (farL_at hK2) ?_
      intro t16
      (try dsimp only)
      repeat (fail_if_success (with_reducible show wpAny _ _ (compareOp _ _ _) _ _ _)); first | walk1 | (dsimp only; walk1)
      refine PyProof.Rows.eq_int ?_
      rw [show (left == (fs.length : Int) - ((farN (standsB (fs.map KEY)) fs.length (K - 1) : Nat) : Int)) = true from by rw [hl1]; exact beq_self_eq_true _]
      (try dsimp only)
      repeat (fail_if_success (with_reducible show wpAny _ _ (subscriptTail _ _ _ _) _ _ _)); first | walk1 | (dsimp only; walk1)
      refine pick_neg2 (list_rest F13b.out F16 (fun p hp => N16 p (.tail _ hp)) bal.out (by simp)) bai.out (by rw [farL_len]; exact hK2) (farL_at hK2) ?_
      intro t17
      (try dsimp only)
      repeat (fail_if_success (with_reducible show wpAny _ _ (call (.ref _) _) _ _ _)); first | walk1 | (dsimp only; walk1)
      have hk16 := list_rest F13b.out F16 (fun p hp => N16 p (.tail _ hp)) bl2.out (by simp)
      refine useFn (stands_ok _ D2 ys2.toArray (fs.map KEY) _ _ _ _) F16 N16 ((room_caller _).less (by decide)) G9 ⟨rfl, hk16, by simpa using bInv.out, Int.natCast_nonneg _, hfr1, hn100, hkl100, hkle, bP3.out⟩ ?_
      rintro _ h17 tk17 F17 N17 k17 rfl
      clear F16 k17 hk16
      rw [Int.toNat_natCast, Int.toNat_natCast, bc4.out]
      (try dsimp only)
      repeat (fail_if_success (with_reducible show GoodW _ _ _ _ _ _ _ ∧ _)); first | walk1 | (dsimp only; walk1)
      refine ⟨good_true F17.keep rfl (by assumption), ⟨?_, trivial⟩⟩
      obtain ⟨ps, e⟩ := bgr13.out
      exact ⟨ps, rest_kept F13b.out F17 (fun p hp => N17 p (.tail _ hp)) n113.1 (by simp) e⟩))
end Mine
end
set_option maxRecDepth 100000 in
theorem PySem.Challenge.cw_oy0130_01_holds : PySem.Challenge.rw_oy0130_01.Holds := by
  exact Mine.law_holds
