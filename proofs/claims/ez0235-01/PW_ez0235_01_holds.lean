import PyProof.Rows.All
import Wide.All
import OpenK.AllK
import Wide.FinOn
import KE.KWords
import PySem.Challenge.RW_ez0235_01
set_option Elab.async false
section
open PySem PySem.W PyProof.Rows
set_option Elab.async false
namespace Mine
set_option maxRecDepth 100000
set_option maxHeartbeats 8000000
local macro_rules | `(tactic| o_head ($f $k $a $e)) => `(tactic| o_head (kmHook $k $a $e [63, 116]))
open_top hd3 for PySem.Challenge.rw_ez0235_01
end Mine
end
section
open PySem PySem.F
namespace Mine.F
set_option maxRecDepth 100000
set_option Elab.async false

theorem plainAttrs_rePattern : PlainAttrs "re.Pattern" :=
  ⟨⟨"object.__getattribute__", by rw [typeLookup_type, builtinLookup_eq_fast]; kernel_rfl, by decide +kernel⟩, by rw [typeLookup_type, builtinLookup_eq_fast]; kernel_rfl⟩
theorem plainAttrs_reMatch : PlainAttrs "re.Match" :=
  ⟨⟨"object.__getattribute__", by rw [typeLookup_type, builtinLookup_eq_fast]; kernel_rfl, by decide +kernel⟩, by rw [typeLookup_type, builtinLookup_eq_fast]; kernel_rfl⟩
theorem slot_reMatch_group : Slot "re.Match" "group" "re.Match.group" :=
  .of (owner := "re.Match") (n := "group") (by rw [typeLookup_type, builtinLookup_eq_fast]; kernel_rfl) (by decide +kernel) (by decide +kernel) (by decide +kernel)
    (by first | exact .inl (by decide +kernel) | exact .inr (by decide +kernel)) (by rw [isSubtype_type]; kernel_rfl)
theorem type_reMatch_group : typeOf (.builtin "re.Match.group") = pure (.type "method_descriptor") := by show builtinType _ = _; rw [builtinType_eq_fast]; kernel_rfl
theorem entry_reMatch_group : entryFor table "re.Match.group" = some Builtin.«re.Match.group» := entryFor_of_tree (by kernel_rfl)
theorem slot_reMatch_end : Slot "re.Match" "end" "re.Match.end" :=
  .of (owner := "re.Match") (n := "end") (by rw [typeLookup_type, builtinLookup_eq_fast]; kernel_rfl) (by decide +kernel) (by decide +kernel) (by decide +kernel)
    (by first | exact .inl (by decide +kernel) | exact .inr (by decide +kernel)) (by rw [isSubtype_type]; kernel_rfl)
theorem type_reMatch_end : typeOf (.builtin "re.Match.end") = pure (.type "method_descriptor") := by show builtinType _ = _; rw [builtinType_eq_fast]; kernel_rfl
theorem entry_reMatch_end : entryFor table "re.Match.end" = some Builtin.«re.Match.end» := entryFor_of_tree (by kernel_rfl)
theorem slot_rePattern_match : Slot "re.Pattern" "match" "re.Pattern.match" :=
  .of (owner := "re.Pattern") (n := "match") (by rw [typeLookup_type, builtinLookup_eq_fast]; kernel_rfl) (by decide +kernel) (by decide +kernel) (by decide +kernel)
    (by first | exact .inl (by decide +kernel) | exact .inr (by decide +kernel)) (by rw [isSubtype_type]; kernel_rfl)
theorem type_rePattern_match : typeOf (.builtin "re.Pattern.match") = pure (.type "method_descriptor") := by show builtinType _ = _; rw [builtinType_eq_fast]; kernel_rfl
theorem entry_rePattern_match : entryFor table "re.Pattern.match" = some Builtin.«re.Pattern.match» := entryFor_of_tree (by kernel_rfl)
theorem slot_rePattern_search : Slot "re.Pattern" "search" "re.Pattern.search" :=
  .of (owner := "re.Pattern") (n := "search") (by rw [typeLookup_type, builtinLookup_eq_fast]; kernel_rfl) (by decide +kernel) (by decide +kernel) (by decide +kernel)
    (by first | exact .inl (by decide +kernel) | exact .inr (by decide +kernel)) (by rw [isSubtype_type]; kernel_rfl)
theorem type_rePattern_search : typeOf (.builtin "re.Pattern.search") = pure (.type "method_descriptor") := by show builtinType _ = _; rw [builtinType_eq_fast]; kernel_rfl
theorem entry_rePattern_search : entryFor table "re.Pattern.search" = some Builtin.«re.Pattern.search» := entryFor_of_tree (by kernel_rfl)
theorem owner_reMatch : Manifest.owners.lookup (String.ofList ['h', 'c', 't', 'a', 'M', '.', 'e', 'r'].reverse) = some Manifest.sig_re_Match := by kernel_rfl
theorem owner_rePattern : Manifest.owners.lookup (String.ofList ['n', 'r', 'e', 't', 't', 'a', 'P', '.', 'e', 'r'].reverse) = some Manifest.sig_re_Pattern := by kernel_rfl
theorem args_rePattern_match_2 (a b : Value) : argsOk "re.Pattern.match" ⟨[a, b], []⟩ := by
  unfold argsOk; rw [signature?_of (id := "re.Pattern.match") (n := ['h', 'c', 't', 'a', 'm']) (o := ['n', 'r', 'e', 't', 't', 'a', 'P', '.', 'e', 'r']) (by kernel_rfl) owner_rePattern]; kernel_rfl
theorem args_rePattern_match_3 (a b c : Value) : argsOk "re.Pattern.match" ⟨[a, b, c], []⟩ := by
  unfold argsOk; rw [signature?_of (id := "re.Pattern.match") (n := ['h', 'c', 't', 'a', 'm']) (o := ['n', 'r', 'e', 't', 't', 'a', 'P', '.', 'e', 'r']) (by kernel_rfl) owner_rePattern]; kernel_rfl
theorem args_rePattern_search_2 (a b : Value) : argsOk "re.Pattern.search" ⟨[a, b], []⟩ := by
  unfold argsOk; rw [signature?_of (id := "re.Pattern.search") (n := ['h', 'c', 'r', 'a', 'e', 's']) (o := ['n', 'r', 'e', 't', 't', 'a', 'P', '.', 'e', 'r']) (by kernel_rfl) owner_rePattern]; kernel_rfl
theorem args_reMatch_end_1 (a : Value) : argsOk "re.Match.end" ⟨[a], []⟩ := by
  unfold argsOk; rw [signature?_of (id := "re.Match.end") (n := ['d', 'n', 'e']) (o := ['h', 'c', 't', 'a', 'M', '.', 'e', 'r']) (by kernel_rfl) owner_reMatch]; kernel_rfl
theorem args_reMatch_group_3 (a b c : Value) : argsOk "re.Match.group" ⟨[a, b, c], []⟩ := by
  unfold argsOk; rw [signature?_of (id := "re.Match.group") (n := ['p', 'u', 'o', 'r', 'g']) (o := ['h', 'c', 't', 'a', 'M', '.', 'e', 'r']) (by kernel_rfl) owner_reMatch]; kernel_rfl
theorem args_reMatch_group_4 (a b c d : Value) : argsOk "re.Match.group" ⟨[a, b, c, d], []⟩ := by
  unfold argsOk; rw [signature?_of (id := "re.Match.group") (n := ['p', 'u', 'o', 'r', 'g']) (o := ['h', 'c', 't', 'a', 'M', '.', 'e', 'r']) (by kernel_rfl) owner_reMatch]; kernel_rfl
end Mine.F
end
section
open PySem PySem.Sre
set_option Elab.async false
set_option maxRecDepth 100000
set_option linter.unusedVariables false
namespace Mine

/-- a state of the machine, all but what has been seen -/
@[reducible] def rs (C T : Array Nat) (L s : Nat) (pc pos hd : Nat) (om : Bool) (mk : Array (Option Nat)) (lm li : Int) (lp : Array Loop) (inn : Option Nat) (fr : List Sre.Frame) (w : Nat) (ans : Option Bool) : M :=
  { code := C, text := T, lim := L, start := s, pc := pc, pos := pos, handed := hd, outermost := om, marks := mk, lastmark := lm, lastindex := li, loops := lp, inner := inn, frames := fr, weight := w, answer := ans }

def stepN : Nat → M → M
  | 0, m => m
  | n + 1, m => stepN n m.step

/-- within N steps the machine stands at an end that P speaks of -/
def Run (N : Nat) (c : M) (P : M → Prop) : Prop := ∀ z : Seen, ∃ j, j ≤ N ∧ ∃ c' z', P c' ∧ stepN j { c with seen := z } = { c' with seen := z' }

variable {C T : Array Nat} {L s pc pos hd : Nat} {om : Bool} {mk mk' : Array (Option Nat)} {lm li lm' li' : Int} {lp : Array Loop} {inn : Option Nat} {fr : List Sre.Frame} {w i j N : Nat} {P : M → Prop} {yes : Bool} {ans : Option Bool}

theorem Run.now {c : M} (h : P c) : Run N c P := fun z => ⟨0, by omega, c, z, h, rfl⟩
theorem Run.more {c : M} {N' : Nat} (h : Run N c P) (e : N ≤ N') : Run N' c P := fun z => by
  obtain ⟨j, hj, r⟩ := h z
  exact ⟨j, by omega, r⟩
theorem Run.step {c c' : M} (h : ∀ z, ∃ z', ({ c with seen := z } : M).step = { c' with seen := z' }) (r : Run N c' P) : Run (N + 1) c P := fun z => by
  obtain ⟨z', e⟩ := h z
  obtain ⟨j, hj, d, z'', p, e'⟩ := r z'
  exact ⟨j + 1, by omega, d, z'', p, by show stepN j _ = _; rw [e]; exact e'⟩
theorem stepN_add (a b : Nat) (m : M) : stepN (a + b) m = stepN b (stepN a m) := by
  induction a generalizing m with
  | zero => simp [stepN]
  | succ a ih => rw [Nat.succ_add]; exact ih _
theorem Run.then {c : M} {P' : M → Prop} {N' : Nat} (h : Run N c P') (k : ∀ c', P' c' → Run N' c' P) : Run (N + N') c P := fun z => by
  obtain ⟨j, hj, c', z', p, e⟩ := h z
  obtain ⟨j', hj', c'', z'', p', e'⟩ := k c' p z'
  exact ⟨j + j', by omega, c'', z'', p', by rw [stepN_add, e, e']⟩

theorem step_exec {m : M} (ho : m.outcome = none) (ha : m.answer = none) (hp : m.pc < m.code.size) : m.step = m.exec := by
  unfold M.step
  rw [if_neg (by rw [ho]; simp), ha]
  simp [hp]

theorem run_mark (hp : pc < C.size) (hw : C.getD pc 0 = 17) (hi : C.getD (pc + 1) 0 = i)
    (hm : (if (i : Int) ≤ lm + 1 then mk else (List.range i).foldl (fun (a : Array (Option Nat)) (j : Nat) => if (j : Int) > lm then a.setIfInBounds j none else a) mk).setIfInBounds i (some pos) = mk')
    (hl : max lm i = lm') (hli : (if i % 2 == 1 then (((i / 2 + 1 : Nat)) : Int) else li) = li')
    (r : Run N (rs C T L s (pc + 2) pos hd om mk' lm' li' lp inn fr w none) P) : Run (N + 1) (rs C T L s pc pos hd om mk lm li lp inn fr w none) P := by
  subst hi hm hl hli
  refine Run.step (fun z => ⟨z.add 17, ?_⟩) r
  rw [step_exec rfl rfl hp]
  have e : ({ rs C T L s pc pos hd om mk lm li lp inn fr w none with seen := z } : M).word 0 = 17 := hw
  unfold M.exec
  simp only [e]
  rfl

theorem run_jump (hp : pc < C.size) (hw : C.getD pc 0 = 15) (hi : pc + 1 + C.getD (pc + 1) 0 = i)
    (r : Run N (rs C T L s i pos hd om mk lm li lp inn fr w none) P) : Run (N + 1) (rs C T L s pc pos hd om mk lm li lp inn fr w none) P := by
  subst hi
  refine Run.step (fun z => ⟨z.add 15, ?_⟩) r
  rw [step_exec rfl rfl hp]
  have e : ({ rs C T L s pc pos hd om mk lm li lp inn fr w none with seen := z } : M).word 0 = 15 := hw
  unfold M.exec
  simp only [e]
  rfl

/-- a success: the innermost frame is told -/
theorem run_success (hp : pc < C.size) (hw : C.getD pc 0 = 1)
    (r : Run N (rs C T L s pc pos pos om mk lm li lp inn fr w (some true)) P) : Run (N + 1) (rs C T L s pc pos hd om mk lm li lp inn fr w none) P := by
  refine Run.step (fun z => ⟨z.add 1, ?_⟩) r
  rw [step_exec rfl rfl hp]
  have e : ({ rs C T L s pc pos hd om mk lm li lp inn fr w none with seen := z } : M).word 0 = 1 := hw
  unfold M.exec
  simp only [e]
  show (if (om && (false && pos != L || false && pos == s)) = true then _ else _) = _
  rw [if_neg (by simp)]
  rfl

/-- one sign is asked for -/
def isOne (C : Array Nat) (pc : Nat) : Prop := C.getD pc 0 = 16 ∨ C.getD pc 0 = 20 ∨ C.getD pc 0 = 13

theorem exec_one {m : M} (h : isOne m.code m.pc) : ∃ z, m.exec = (if m.pos ≥ m.lim then { m with seen := z }.say false else
    match accepts m.code m.pc (m.text.getD m.pos 0) z with
    | .error why => { m with seen := z }.stick why
    | .ok (false, seen) => { m with seen }.say false
    | .ok (true, seen) => { m with seen, pc := m.pc + itemWidth m.code m.pc, pos := m.pos + 1 }) := by
  refine ⟨m.seen.add (m.word 0), ?_⟩
  have e : m.code.getD m.pc 0 = m.word 0 := rfl
  rcases h with h | h | h
  all_goals (rw [e] at h; unfold M.exec; simp only [h]; rfl)

theorem run_one_yes (hp : pc < C.size) (ho : isOne C pc) (hl : pos < L) (ha : ∀ z, ∃ z', accepts C pc (T.getD pos 0) z = .ok (true, z')) (hi : pc + itemWidth C pc = i)
    (r : Run N (rs C T L s i (pos + 1) hd om mk lm li lp inn fr w none) P) : Run (N + 1) (rs C T L s pc pos hd om mk lm li lp inn fr w none) P := by
  subst hi
  refine Run.step (fun z => ?_) r
  rw [step_exec rfl rfl hp]
  obtain ⟨z1, e⟩ := exec_one (m := { rs C T L s pc pos hd om mk lm li lp inn fr w none with seen := z }) ho
  obtain ⟨z2, e2⟩ := ha z1
  refine ⟨z2, ?_⟩
  rw [e, if_neg (Nat.not_le.mpr hl)]
  show (match accepts C pc (T.getD pos 0) z1 with | .error why => _ | .ok (false, seen) => _ | .ok (true, seen) => _) = _
  rw [e2]
theorem run_one_no (hp : pc < C.size) (ho : isOne C pc) (ha : pos < L → ∀ z, ∃ z', accepts C pc (T.getD pos 0) z = .ok (false, z'))
    (r : Run N (rs C T L s pc pos hd om mk lm li lp inn fr w (some false)) P) : Run (N + 1) (rs C T L s pc pos hd om mk lm li lp inn fr w none) P := by
  refine Run.step (fun z => ?_) r
  rw [step_exec rfl rfl hp]
  obtain ⟨z1, e⟩ := exec_one (m := { rs C T L s pc pos hd om mk lm li lp inn fr w none with seen := z }) ho
  by_cases hl : pos < L
  · obtain ⟨z2, e2⟩ := ha hl z1
    refine ⟨z2, ?_⟩
    rw [e, if_neg (Nat.not_le.mpr hl)]
    show (match accepts C pc (T.getD pos 0) z1 with | .error why => _ | .ok (false, seen) => _ | .ok (true, seen) => _) = _
    rw [e2]
    rfl
  · exact ⟨z1, by rw [e, if_pos (Nat.not_lt.mp hl)]; rfl⟩

abbrev kp0 (lm li : Int) : Sre.Kept := { lastmark := lm, lastindex := li }
abbrev nbF (pc pos : Nat) (om : Bool) (lm li : Int) : Sre.Frame := { wait := .nextBranch, pc := pc, pos := pos, outermost := om, kept := kp0 lm li }
abbrev gbF (pc pos : Nat) (om : Bool) (n : Int) (lm li : Int) : Sre.Frame := { wait := .giveBack, pc := pc, pos := pos, outermost := om, count := n, kept := kp0 lm li }
abbrev tmF (pc pos : Nat) (om : Bool) (n : Int) (lm li : Int) : Sre.Frame := { wait := .takeMore, pc := pc, pos := pos, outermost := om, count := n, kept := kp0 lm li }

theorem run_branch (hp : pc < C.size) (hw : C.getD pc 0 = 7) (ha : (C.getD (pc + 1) 0 == 0) = false) (hwt : w ≤ 1000)
    (r : Run N (rs C T L s (pc + 2) pos pos om mk lm li lp none (nbF (pc + 1) pos om lm li :: fr) (w + 1) none) P) : Run (N + 1) (rs C T L s pc pos hd om mk lm li lp none fr w none) P := by
  refine Run.step (fun z => ⟨z.add 7, ?_⟩) r
  rw [step_exec rfl rfl hp]
  have e : ({ rs C T L s pc pos hd om mk lm li lp none fr w none with seen := z } : M).word 0 = 7 := hw
  unfold M.exec
  simp only [e]
  show M.alternative { rs C T L s pc pos hd om mk lm li lp none fr w none with seen := z.add 7 } (pc + 1) _ = _
  unfold M.alternative
  show (if (C.getD (pc + 1) 0 == 0) = true then _ else _) = _
  rw [ha, if_neg (by simp)]
  unfold M.attempt
  rw [if_neg (by show ¬ w + 1 + 0 > 16777216; omega)]
  rfl

theorem step_frame {m : M} {f : Sre.Frame} {rest : List Sre.Frame} (ho : m.outcome = none) (ha : m.answer = some yes) (hf : m.frames = f :: rest) :
    m.step = M.resume { m with answer := none, frames := rest, weight := m.weight - (1 + f.kept.marks.size), pc := f.pc, pos := f.pos, outermost := f.outermost } f yes := by
  unfold M.step
  rw [if_neg (by rw [ho]; simp), ha, hf]
theorem run_yes {f : Sre.Frame} (hf : f.wait = .nextBranch ∨ f.wait = .giveBack ∨ f.wait = .takeMore) (hk : f.kept.marks.size = 0)
    (r : Run N (rs C T L s f.pc f.pos hd f.outermost mk lm li lp inn fr w (some true)) P) : Run (N + 1) (rs C T L s pc pos hd om mk lm li lp inn (f :: fr) (w + 1) (some true)) P := by
  refine Run.step (fun z => ⟨z, ?_⟩) r
  rw [step_frame (yes := true) (f := f) (rest := fr) rfl rfl rfl]
  rw [hk]
  rcases hf with h | h | h
  all_goals (unfold M.resume; rw [h]; rfl)
theorem run_nb_last {a p : Nat} {o : Bool} {l k : Int} (hz : C.getD (a + C.getD a 0) 0 = 0)
    (r : Run N (rs C T L s a p hd o mk l k lp inn fr w (some false)) P) : Run (N + 1) (rs C T L s pc pos hd om mk lm li lp inn (nbF a p o l k :: fr) (w + 1) (some false)) P := by
  refine Run.step (fun z => ⟨z, ?_⟩) r
  rw [step_frame (yes := false) rfl rfl rfl]
  show M.alternative _ (a + C.getD a 0) _ = _
  unfold M.alternative
  show (if (C.getD (a + C.getD a 0) 0 == 0) = true then _ else _) = _
  rw [hz]
  rfl
theorem run_nb_next {a p : Nat} {o : Bool} {l k : Int} (hz : (C.getD (a + C.getD a 0) 0 == 0) = false) (hwt : w ≤ 1000)
    (r : Run N (rs C T L s (a + C.getD a 0 + 1) p p o mk l k lp inn (nbF (a + C.getD a 0) p o l k :: fr) (w + 1) none) P) : Run (N + 1) (rs C T L s pc pos hd om mk lm li lp inn (nbF a p o l k :: fr) (w + 1) (some false)) P := by
  refine Run.step (fun z => ⟨z, ?_⟩) r
  rw [step_frame (yes := false) rfl rfl rfl]
  show M.alternative _ (a + C.getD a 0) _ = _
  unfold M.alternative
  show (if (C.getD (a + C.getD a 0) 0 == 0) = true then _ else _) = _
  rw [hz, if_neg (by simp)]
  unfold M.attempt
  rw [if_neg (by show ¬ w + 1 - (1 + 0) + 1 + 0 > 16777216; omega)]
  rfl

/-- how many signs from p on, at most n, are of the kind q -/
def spanN (q : Nat → Bool) (T : Array Nat) : Nat → Nat → Nat
  | _, 0 => 0
  | p, n + 1 => if q (T.getD p 0) then spanN q T (p + 1) n + 1 else 0
theorem spanN_le {q : Nat → Bool} : ∀ {n p : Nat}, spanN q T p n ≤ n
  | 0, p => by simp [spanN]
  | n + 1, p => by
    unfold spanN
    have := @spanN_le q n (p + 1)
    split <;> omega
theorem run_is {q : Nat → Bool} (h : ∀ c z, ∃ z', accepts C i c z = .ok (q c, z')) : ∀ (n p f : Nat) (z : Seen), ∃ z', Sre.run C T i n p f z = .ok (f + spanN q T p n, z')
  | 0, p, f, z => ⟨z, rfl⟩
  | n + 1, p, f, z => by
    obtain ⟨z1, e⟩ := h (T.getD p 0) z
    unfold Sre.run
    rw [e]
    unfold spanN
    cases hq : q (T.getD p 0)
    · exact ⟨z1, by simp [Except.bind, bind, pure, Except.pure]⟩
    · obtain ⟨z2, e2⟩ := run_is h n (p + 1) (f + 1) z1
      refine ⟨z2, ?_⟩
      simp only [Except.bind, bind]
      simp only [if_true]
      rw [e2, show f + 1 + spanN q T (p + 1) n = f + (spanN q T (p + 1) n + 1) by omega]

theorem exec_rep {m : M} (h : m.word 0 = 24) : ∃ z z0, m.exec = (if (m.word 2 : Int) > (m.lim : Int) - m.pos then { m with seen := z }.say false else
    match Sre.run m.code m.text (m.pc + 4) (min (m.word 3) ((m.lim : Int) - m.pos).toNat) m.pos 0 z0 with
    | .error why => { m with seen := z }.stick why
    | .ok (n, seen) => if n < m.word 2 then { m with seen }.say false else { m with seen, pos := m.pos + n }.afterRun .giveBack n ({ m with seen }.keep m.inner.isSome)) := by
  refine ⟨m.seen.add (m.word 0), (m.seen.add (m.word 0)).add (m.word 4), ?_⟩
  unfold M.exec
  simp only [h]
  rfl

theorem run_rep {n : Nat} (hp : pc < C.size) (hw : C.getD pc 0 = 24) (hL : C.getD (pc + 2) 0 ≤ L - pos) (hpos : pos ≤ L)
    (hr : ∀ z, ∃ z', Sre.run C T (pc + 4) (min (C.getD (pc + 3) 0) (L - pos)) pos 0 z = .ok (n, z')) (hn : C.getD (pc + 2) 0 ≤ n) (hi : pc + 1 + C.getD (pc + 1) 0 = i) (hwt : w ≤ 1000)
    (r : Run N (rs C T L s i (pos + n) (pos + n) om mk lm li lp none (gbF pc (pos + n) om n lm li :: fr) (w + 1) none) P) : Run (N + 1) (rs C T L s pc pos hd om mk lm li lp none fr w none) P := by
  subst hi
  refine Run.step (fun z => ?_) r
  rw [step_exec rfl rfl hp]
  obtain ⟨z0, z1, e⟩ := exec_rep (m := { rs C T L s pc pos hd om mk lm li lp none fr w none with seen := z }) hw
  obtain ⟨z2, e2⟩ := hr z1
  refine ⟨z2, ?_⟩
  rw [e]
  show (if ((C.getD (pc + 2) 0 : Nat) : Int) > (L : Int) - pos then _ else match Sre.run C T (pc + 4) (min (C.getD (pc + 3) 0) ((L : Int) - pos).toNat) pos 0 z1 with | .error why => _ | .ok (n, seen) => _) = _
  rw [if_neg (by omega), show ((L : Int) - pos).toNat = L - pos by omega, e2]
  show (if n < C.getD (pc + 2) 0 then _ else _) = _
  rw [if_neg (by omega)]
  unfold M.afterRun M.attempt
  rw [if_neg (by show ¬ w + 1 + 0 > 16777216; omega)]
  rfl
theorem run_rep_no {n : Nat} (hp : pc < C.size) (hw : C.getD pc 0 = 24) (hpos : pos ≤ L)
    (hr : ∀ z, ∃ z', Sre.run C T (pc + 4) (min (C.getD (pc + 3) 0) (L - pos)) pos 0 z = .ok (n, z')) (hn : n < C.getD (pc + 2) 0)
    (r : Run N (rs C T L s pc pos hd om mk lm li lp none fr w (some false)) P) : Run (N + 1) (rs C T L s pc pos hd om mk lm li lp none fr w none) P := by
  refine Run.step (fun z => ?_) r
  rw [step_exec rfl rfl hp]
  obtain ⟨z0, z1, e⟩ := exec_rep (m := { rs C T L s pc pos hd om mk lm li lp none fr w none with seen := z }) hw
  by_cases hL : ((C.getD (pc + 2) 0 : Nat) : Int) > (L : Int) - pos
  · refine ⟨z0, ?_⟩
    rw [e]
    show (if ((C.getD (pc + 2) 0 : Nat) : Int) > (L : Int) - pos then _ else _) = _
    rw [if_pos hL]; rfl
  · obtain ⟨z2, e2⟩ := hr z1
    refine ⟨z2, ?_⟩
    rw [e]
    show (if ((C.getD (pc + 2) 0 : Nat) : Int) > (L : Int) - pos then _ else match Sre.run C T (pc + 4) (min (C.getD (pc + 3) 0) ((L : Int) - pos).toNat) pos 0 z1 with | .error why => _ | .ok (n, seen) => _) = _
    rw [if_neg hL, show ((L : Int) - pos).toNat = L - pos by omega, e2]
    show (if n < C.getD (pc + 2) 0 then _ else _) = _
    rw [if_pos hn]; rfl

/-- the run gives one sign back -/
theorem run_gb_next {a p : Nat} {n c : Int} {o : Bool} {l k : Int} (hn : (C.getD (a + 2) 0 : Int) ≤ n) (hi : a + 1 + C.getD (a + 1) 0 = i) (hwt : w ≤ 1000) (hp : p - 1 = j) (hc : c - 1 = n)
    (r : Run N (rs C T L s i j j o mk l k lp none (gbF a j o n l k :: fr) (w + 1) none) P) :
    Run (N + 1) (rs C T L s pc pos hd om mk lm li lp none (gbF a p o c l k :: fr) (w + 1) (some false)) P := by
  subst hi hp hc
  refine Run.step (fun z => ⟨z, ?_⟩) r
  rw [step_frame (yes := false) rfl rfl rfl]
  unfold M.resume
  show (if c - 1 < ((C.getD (a + 2) 0 : Nat) : Int) then _ else _) = _
  rw [if_neg (by omega)]
  unfold M.afterRun M.attempt
  rw [if_neg (by show ¬ w + 1 - (1 + 0) + 1 + 0 > 16777216; omega)]
  rfl
theorem run_gb_last {a p : Nat} {n : Int} {o : Bool} {l k : Int} (hn : n ≤ (C.getD (a + 2) 0 : Int))
    (r : Run N (rs C T L s a p hd o mk l k lp none fr w (some false)) P) :
    Run (N + 1) (rs C T L s pc pos hd om mk lm li lp none (gbF a p o n l k :: fr) (w + 1) (some false)) P := by
  refine Run.step (fun z => ⟨z, ?_⟩) r
  rw [step_frame (yes := false) rfl rfl rfl]
  unfold M.resume
  show (if n - 1 < ((C.getD (a + 2) 0 : Nat) : Int) then _ else _) = _
  rw [if_pos (by omega)]
  rfl
end Mine
end
section
open PySem PySem.Sre
set_option Elab.async false
set_option maxRecDepth 100000
set_option linter.unusedVariables false
namespace Mine

def COLC : Array Nat := #[14, 4, 0, 2, 4294967295, 7, 17, 17, 0, 24, 9, 1, 4294967295, 13, 4, 8, 14, 0, 1, 17, 1, 15, 20, 18, 16, 123, 17, 2, 24, 6, 0, 4294967295, 20, 125, 1, 17, 3, 16, 125, 15, 2, 0, 24, 9, 0, 4294967295, 13, 4, 8, 12, 0, 1, 16, 58, 1]

variable {T : Array Nat} {L s pc pos p q hd : Nat} {om : Bool} {mk mk' : Array (Option Nat)} {lm li lm' li' : Int} {lp : Array Loop} {inn : Option Nat} {fr : List Sre.Frame} {w i j k n N : Nat} {P : M → Prop} {yes : Bool} {ans : Option Bool}

theorem spanN_all {q : Nat → Bool} : ∀ {n p j : Nat}, j < spanN q T p n → q (T.getD (p + j) 0) = true
  | 0, p, j, h => by simp [spanN] at h
  | n + 1, p, j, h => by
    unfold spanN at h
    split at h
    · cases j with
      | zero => assumption
      | succ j => have := @spanN_all q n (p + 1) j (by omega); rwa [show p + 1 + j = p + (j + 1) by omega] at this
    · omega
theorem spanN_end {q : Nat → Bool} : ∀ {n p : Nat}, spanN q T p n < n → q (T.getD (p + spanN q T p n) 0) = false
  | 0, p, h => by omega
  | n + 1, p, h => by
    unfold spanN at h ⊢
    split
    · have := @spanN_end q n (p + 1) (by simp_all)
      rwa [show p + 1 + spanN q T (p + 1) n = p + (spanN q T (p + 1) n + 1) by omega] at this
    · rename_i h'
      rw [Nat.add_zero]; exact Bool.eq_false_iff.mpr h'

/-- signs of the first 128 -/
def Asc (T : Array Nat) : Prop := ∀ i, T.getD i 0 < 128
theorem sp_ne : ∀ c : Nat, c < 128 → Unicode.isSpace c = true → c ≠ 58 := by decide +kernel
theorem word_no : ∀ c : Nat, c < 128 → Sre.isWordUni c = true → Unicode.isSpace c = false ∧ c ≠ 58 ∧ c ≠ 123 ∧ c ≠ 42 ∧ c ≠ 34 ∧ c ≠ 40 ∧ c ≠ 41 := by decide +kernel

theorem accC_word (c z) : ∃ z', accepts COLC 13 c z = .ok (Sre.isWordUni c, z') := by
  cases h : Sre.isWordUni c
  · exact ⟨_, by show (do if ← category 14 c then _ else _ : Except String (Bool × Seen)) = _
                 rw [show category 14 c = .ok false by show Except.ok (Sre.isWordUni c != false) = _; rw [h]; rfl]; rfl⟩
  · exact ⟨_, by show (do if ← category 14 c then _ else _ : Except String (Bool × Seen)) = _
                 rw [show category 14 c = .ok true by show Except.ok (Sre.isWordUni c != false) = _; rw [h]; rfl]; rfl⟩
theorem accC_sp (c z) : ∃ z', accepts COLC 46 c z = .ok (Unicode.isSpace c, z') := by
  cases h : Unicode.isSpace c
  · exact ⟨_, by show (do if ← category 12 c then _ else _ : Except String (Bool × Seen)) = _
                 rw [show category 12 c = .ok false by show Except.ok (Unicode.isSpace c != false) = _; rw [h]; rfl]; rfl⟩
  · exact ⟨_, by show (do if ← category 12 c then _ else _ : Except String (Bool × Seen)) = _
                 rw [show category 12 c = .ok true by show Except.ok (Unicode.isSpace c != false) = _; rw [h]; rfl]; rfl⟩

/-- the end of the pattern: spaces, then a colon -/
theorem col_back (hA : Asc T) (hL : p + k ≤ L) (hs : ∀ j, j < k → Unicode.isSpace (T.getD (p + j) 0) = true) (he : p + k < L → T.getD (p + k) 0 ≠ 58) :
    ∀ hd, (∀ hd, Run N (rs COLC T L s 42 p hd om mk lm li lp none fr w (some false)) P) → w ≤ 1000 →
      Run (N + 2 * k + 2) (rs COLC T L s 52 (p + k) hd om mk lm li lp none (gbF 42 (p + k) om k lm li :: fr) (w + 1) none) P := by
  induction k with
  | zero =>
    intro hd r hw
    refine run_one_no (by decide) (.inl rfl) (fun h z => ⟨z, ?_⟩) (run_gb_last (by decide) (r _))
    show Except.ok (T.getD (p + 0) 0 == 58, z) = _
    have := he h
    rw [show (T.getD (p + 0) 0 == 58) = false by simpa using this]
  | succ k ih =>
    intro hd r hw
    have e : N + 2 * (k + 1) + 2 = (N + 2 * k + 2) + 1 + 1 := by omega
    rw [e]
    refine run_one_no (by decide) (.inl rfl) (fun h z => ⟨z, ?_⟩) (run_gb_next (n := k) (j := p + k) (Int.natCast_nonneg k) rfl hw (by omega) (by omega) (ih (by omega) (fun j h => hs j (by omega)) (fun _ => sp_ne _ (hA _) (hs k (by omega))) _ r hw))
    show Except.ok (T.getD (p + (k + 1)) 0 == 58, z) = _
    have := he h
    rw [show (T.getD (p + (k + 1)) 0 == 58) = false by simpa using this]

/-- how many spaces stand at p -/
def nS (T : Array Nat) (p : Nat) : Nat := spanN Unicode.isSpace T p (T.size - p)
def nW (T : Array Nat) (p : Nat) : Nat := spanN Sre.isWordUni T p (T.size - p)
def nB (T : Array Nat) (p : Nat) : Nat := spanN (· != 125) T p (T.size - p)

theorem col_tail_no (hA : Asc T) (hp : p ≤ T.size) (hz : T.size ≤ 16777216) (hw : w ≤ 1000) (he : p + nS T p < T.size → T.getD (p + nS T p) 0 ≠ 58)
    (r : ∀ hd, Run N (rs COLC T T.size s 42 p hd om mk lm li lp none fr w (some false)) P) :
    Run (N + 2 * nS T p + 3) (rs COLC T T.size s 42 p hd om mk lm li lp none fr w none) P := by
  have hk : nS T p ≤ T.size - p := spanN_le
  refine run_rep (n := nS T p) (i := 52) (by decide) rfl (Nat.zero_le _) hp (fun z => ?_) (Nat.zero_le _) rfl hw (col_back (k := nS T p) hA (by omega) (fun j h => spanN_all (n := T.size - p) h) he _ r hw)
  obtain ⟨z', e⟩ := run_is (T := T) accC_sp (T.size - p) p 0 z
  exact ⟨z', by rw [show min (COLC.getD (42 + 3) 0) (T.size - p) = T.size - p by show min 4294967295 _ = _; omega, e, Nat.zero_add]; rfl⟩
theorem col_tail_yes (hp : p + nS T p < T.size) (hz : T.size ≤ 16777216) (hw : w ≤ 1000) (he : T.getD (p + nS T p) 0 = 58)
    (r : Run N (rs COLC T T.size s 42 (p + nS T p) (p + nS T p + 1) om mk lm li lp none fr w (some true)) P) :
    Run (N + 4) (rs COLC T T.size s 42 p hd om mk lm li lp none fr w none) P := by
  refine run_rep (n := nS T p) (i := 52) (by decide) rfl (Nat.zero_le _) (by omega) (fun z => ?_) (Nat.zero_le _) rfl hw
    (run_one_yes (i := 54) (by decide) (.inl rfl) hp (fun z => ⟨z, ?_⟩) rfl (run_success (by decide) rfl (run_yes (.inr (.inl rfl)) rfl r)))
  · obtain ⟨z', e⟩ := run_is (T := T) accC_sp (T.size - p) p 0 z
    exact ⟨z', by rw [show min (COLC.getD (42 + 3) 0) (T.size - p) = T.size - p by show min 4294967295 _ = _; omega, e, Nat.zero_add]; rfl⟩
  · show Except.ok (T.getD (p + nS T p) 0 == 58, z) = _
    rw [he]; rfl

/-- a word, then spaces, then a colon -/
def colW (T : Array Nat) (p : Nat) : Prop := 0 < nW T p ∧ p + nW T p + nS T (p + nW T p) < T.size ∧ T.getD (p + nW T p + nS T (p + nW T p)) 0 = 58

/-- the part of the text that a group holds -/
def spanOf (m : M) (g : Nat) : Option (Nat × Nat) :=
  match if ((2 * g + 1 : Nat) : Int) ≤ m.lastmark then (m.marks.getD (2 * g) none, m.marks.getD (2 * g + 1) none) else (none, none) with
  | (some b, some e) => some (b, e)
  | _ => none
def Fits (s e : Nat) (sp : List (Option (Nat × Nat))) (m : M) : Prop := m.answer = some true ∧ m.frames = [] ∧ m.outcome = none ∧ m.start = s ∧ m.handed = e ∧ (List.range sp.length).map (spanOf m) = sp

def Not (m : M) : Prop := m.answer = some false ∧ m.frames = [] ∧ m.outcome = none

theorem word_run (hp : p ≤ T.size) (hz : T.size ≤ 16777216) (z : Seen) : ∃ z', Sre.run COLC T 13 (min 4294967295 (T.size - p)) p 0 z = .ok (nW T p, z') := by
  obtain ⟨z', e⟩ := run_is (T := T) accC_word (T.size - p) p 0 z
  exact ⟨z', by rw [show min 4294967295 (T.size - p) = T.size - p by omega, e, Nat.zero_add]; rfl⟩

theorem col_word (hz : T.size ≤ 16777216) (hp : p ≤ T.size) (h : colW T p) :
    Run 100 (rs COLC T T.size p 5 p p true #[none, none, none, none] (-1) (-1) #[] none [] 0 none) (Fits p (p + nW T p + nS T (p + nW T p) + 1) [some (p, p + nW T p), none]) := by
  obtain ⟨h1, h2, h3⟩ := h
  refine Run.more (N := 0 + 20) ?_ (by omega)
  refine run_branch (by decide) rfl rfl (by omega) ?_
  refine run_mark (i := 0) (by decide) rfl rfl rfl rfl rfl ?_
  refine run_rep (n := nW T p) (i := 19) (by decide) rfl (by show 1 ≤ _; omega) hp (word_run hp hz) h1 rfl (by omega) ?_
  refine run_mark (i := 1) (by decide) rfl rfl rfl rfl rfl ?_
  refine run_jump (i := 42) (by decide) rfl rfl ?_
  refine col_tail_yes h2 hz (by omega) h3 ?_
  refine run_yes (.inr (.inl rfl)) rfl ?_
  refine run_yes (.inl rfl) rfl ?_
  exact Run.now ⟨rfl, rfl, rfl, rfl, rfl, rfl⟩

theorem spanN_zero {q : Nat → Bool} {n p : Nat} (h : q (T.getD p 0) = false) : spanN q T p n = 0 := by
  cases n with
  | zero => rfl
  | succ n => unfold spanN; rw [if_neg (by rw [h]; simp)]
theorem nS_zero (h : Unicode.isSpace (T.getD p 0) = false) : nS T p = 0 := spanN_zero h

/-- each way of cutting the word short fails -/
theorem col_word_back (hA : Asc T) (hz : T.size ≤ 16777216) (hs : ∀ j, j < k + 1 → Sre.isWordUni (T.getD (p + j) 0) = true) (hp : p + (k + 1) ≤ T.size)
    (he : p + (k + 1) + nS T (p + (k + 1)) < T.size → T.getD (p + (k + 1) + nS T (p + (k + 1))) 0 ≠ 58)
    (r : ∀ hd b, Run N (rs COLC T T.size s 9 (p + 1) hd om #[some p, b, none, none] 0 (-1) #[] none fr w (some false)) P) (hw : w ≤ 999) :
    ∀ hd b, Run (N + 100 * (k + 1) + 2 * nS T (p + (k + 1))) (rs COLC T T.size s 19 (p + (k + 1)) hd om #[some p, b, none, none] 0 (-1) #[] none (gbF 9 (p + (k + 1)) om (k + 1 : Nat) 0 (-1) :: fr) (w + 1) none) P := by
  induction k with
  | zero =>
    intro hd b
    have hk : nS T (p + (0 + 1)) ≤ T.size - (p + (0 + 1)) := spanN_le
    refine Run.more (N := (N + 1 + 2 * nS T (p + (0 + 1)) + 3) + 1 + 1) ?_ (by omega)
    refine run_mark (i := 1) (by decide) rfl rfl rfl rfl rfl ?_
    refine run_jump (i := 42) (by decide) rfl rfl ?_
    refine col_tail_no hA hp hz (by omega) he fun hd => ?_
    refine run_gb_last (by decide) (r _ _)
  | succ k ih =>
    intro hd b
    have hk : nS T (p + (k + 1 + 1)) ≤ T.size - (p + (k + 1 + 1)) := spanN_le
    have h0 := word_no _ (hA _) (hs (k + 1) (by omega))
    have hn := nS_zero (T := T) h0.1
    refine Run.more (N := (N + 100 * (k + 1) + 2 * nS T (p + (k + 1)) + 1 + 2 * nS T (p + (k + 1 + 1)) + 3) + 1 + 1) ?_ (by omega)
    refine run_mark (i := 1) (by decide) rfl rfl rfl rfl rfl ?_
    refine run_jump (i := 42) (by decide) rfl rfl ?_
    refine col_tail_no hA hp hz (by omega) he fun hd => ?_
    exact run_gb_next (n := (k + 1 : Nat)) (j := p + (k + 1)) (by show (1 : Int) ≤ _; omega) rfl (by omega) (by omega) (by omega) (ih (fun j h => hs j (by omega)) (by omega) (fun _ => by rw [hn]; exact h0.2.1) _ _)

theorem col_first_no (hA : Asc T) (hz : T.size ≤ 16777216) (hp : p ≤ T.size) (h : ¬ colW T p)
    (r : ∀ hd a b, Run N (rs COLC T T.size p 24 p hd true #[a, b, none, none] (-1) (-1) #[] none [nbF 23 p true (-1) (-1)] 1 none) P) :
    Run (N + 200 * T.size + 200) (rs COLC T T.size p 5 p p true #[none, none, none, none] (-1) (-1) #[] none [] 0 none) P := by
  have hk : nW T p ≤ T.size - p := spanN_le
  have hend : ∀ q hd a b, Run (N + 1) (rs COLC T T.size p 9 q hd true #[a, b, none, none] 0 (-1) #[] none [nbF 6 p true (-1) (-1)] 1 (some false)) P := fun q hd a b =>
    run_nb_next rfl (by omega) (r _ _ _)
  by_cases h0 : nW T p = 0
  · refine Run.more (N := N + 1 + 1 + 1 + 1) ?_ (by omega)
    refine run_branch (by decide) rfl rfl (by omega) ?_
    refine run_mark (i := 0) (by decide) rfl rfl rfl rfl rfl ?_
    exact run_rep_no (n := nW T p) (by decide) rfl hp (word_run hp hz) (by rw [h0]; decide) (hend _ _ _ _)
  · obtain ⟨k, e⟩ : ∃ k, nW T p = k + 1 := ⟨nW T p - 1, by omega⟩
    have hk' : nS T (p + (k + 1)) ≤ T.size - (p + (k + 1)) := spanN_le
    refine Run.more (N := (N + 1 + 100 * (k + 1) + 2 * nS T (p + (k + 1))) + 1 + 1 + 1) ?_ (by omega)
    refine run_branch (by decide) rfl rfl (by omega) ?_
    refine run_mark (i := 0) (by decide) rfl rfl rfl rfl rfl ?_
    refine run_rep (n := k + 1) (i := 19) (by decide) rfl (by show 1 ≤ _; omega) hp (by rw [← e]; exact word_run hp hz) (by show 1 ≤ _; omega) rfl (by omega) ?_
    refine col_word_back hA hz (fun j hj => spanN_all (n := T.size - p) (show j < nW T p by omega)) (by omega) (fun h1 h2 => h ⟨by omega, by rw [e]; exact h1, by rw [e]; exact h2⟩) (fun hd b => hend _ _ _ _) (by omega) _ _

theorem accC_b (c z) : ∃ z', accepts COLC 32 c z = .ok (c != 125, z') := ⟨z, rfl⟩
theorem brace_run (hp : p ≤ T.size) (hz : T.size ≤ 16777216) (z : Seen) : ∃ z', Sre.run COLC T 32 (min 4294967295 (T.size - p)) p 0 z = .ok (nB T p, z') := by
  obtain ⟨z', e⟩ := run_is (T := T) accC_b (T.size - p) p 0 z
  exact ⟨z', by rw [show min 4294967295 (T.size - p) = T.size - p by omega, e, Nat.zero_add]; rfl⟩

/-- a name in braces, then spaces, then a colon -/
def colB (T : Array Nat) (p : Nat) : Prop := p < T.size ∧ T.getD p 0 = 123 ∧ p + 1 + nB T (p + 1) < T.size ∧
  p + 1 + nB T (p + 1) + 1 + nS T (p + 1 + nB T (p + 1) + 1) < T.size ∧ T.getD (p + 1 + nB T (p + 1) + 1 + nS T (p + 1 + nB T (p + 1) + 1)) 0 = 58

theorem nB_end (h : p + nB T p < T.size) : T.getD (p + nB T p) 0 = 125 := by
  have := spanN_end (q := (· != 125)) (T := T) (n := T.size - p) (p := p) (by show nB T p < _; omega)
  simpa [nB] using this

theorem col_brace (hz : T.size ≤ 16777216) (h : colB T p) {a b : Option Nat} (hd) :
    Run 100 (rs COLC T T.size s 24 p hd true #[a, b, none, none] (-1) (-1) #[] none [nbF 23 p true (-1) (-1)] 1 none)
      (Fits s (p + 1 + nB T (p + 1) + 1 + nS T (p + 1 + nB T (p + 1) + 1) + 1) [none, some (p + 1, p + 1 + nB T (p + 1))]) := by
  obtain ⟨h1, h2, h3, h4, h5⟩ := h
  refine Run.more (N := 0 + 20) ?_ (by omega)
  refine run_one_yes (i := 26) (by decide) (.inl rfl) h1 (fun z => ⟨z, ?_⟩) rfl ?_
  · show Except.ok (T.getD p 0 == 123, z) = _
    rw [h2]; rfl
  refine run_mark (i := 2) (by decide) rfl rfl rfl rfl rfl ?_
  refine run_rep (n := nB T (p + 1)) (i := 35) (by decide) rfl (Nat.zero_le _) (by omega) (brace_run (by omega) hz) (Nat.zero_le _) rfl (by omega) ?_
  refine run_mark (i := 3) (by decide) rfl rfl rfl rfl rfl ?_
  refine run_one_yes (i := 39) (by decide) (.inl rfl) h3 (fun z => ⟨z, ?_⟩) rfl ?_
  · show Except.ok (T.getD (p + 1 + nB T (p + 1)) 0 == 125, z) = _
    rw [nB_end h3]; rfl
  refine run_jump (i := 42) (by decide) rfl rfl ?_
  refine col_tail_yes h4 hz (by omega) h5 ?_
  refine run_yes (.inr (.inl rfl)) rfl ?_
  refine run_yes (.inl rfl) rfl ?_
  exact Run.now ⟨rfl, rfl, rfl, rfl, rfl, rfl⟩

theorem col_brace_back (hs : ∀ j, j < k → T.getD (p + j) 0 ≠ 125) (hw : w ≤ 999) {mk : Array (Option Nat)} {a : Option Nat}
    (r : ∀ hd b, Run N (rs COLC T T.size s 28 p hd om #[none, none, a, b] 2 (-1) #[] none fr w (some false)) P) :
    ∀ pc pos hd b lm li, Run (N + 10 * k + 1) (rs COLC T T.size s pc pos hd om #[none, none, a, b] lm li #[] none (gbF 28 (p + k) om (k : Nat) 2 (-1) :: fr) (w + 1) (some false)) P := by
  induction k with
  | zero =>
    intro pc pos hd b lm li
    exact run_gb_last (by decide) (r _ _)
  | succ k ih =>
    intro pc pos hd b lm li
    refine Run.more (N := (N + 10 * k + 1) + 1 + 1 + 1) ?_ (by omega)
    refine run_gb_next (i := 35) (n := k) (j := p + k) (Int.natCast_nonneg k) rfl (by omega) (by omega) (by omega) ?_
    refine run_mark (i := 3) (by decide) rfl rfl rfl rfl rfl ?_
    refine run_one_no (by decide) (.inl rfl) (fun h z => ⟨z, ?_⟩) (ih (fun j h => hs j (by omega)) _ _ _ _ _ _)
    show Except.ok (T.getD (p + k) 0 == 125, z) = _
    have := hs k (by omega)
    rw [show (T.getD (p + k) 0 == 125) = false by simpa using this]

theorem col_brace_no (hA : Asc T) (hz : T.size ≤ 16777216) (hp : p ≤ T.size) (h : ¬ colB T p) {a b : Option Nat} (hd) :
    Run (100 * T.size + 100) (rs COLC T T.size s 24 p hd true #[a, b, none, none] (-1) (-1) #[] none [nbF 23 p true (-1) (-1)] 1 none) Not := by
  have hend : ∀ pc q hd mk lm li, Run 10 (rs COLC T T.size s pc q hd true mk lm li #[] none [nbF 23 p true (-1) (-1)] 1 (some false)) Not := fun pc q hd mk lm li =>
    run_nb_last rfl (Run.now ⟨rfl, rfl, rfl⟩)
  by_cases h1 : p < T.size ∧ T.getD p 0 = 123
  · have hk : nB T (p + 1) ≤ T.size - (p + 1) := spanN_le
    have hall : ∀ j, j < nB T (p + 1) → T.getD (p + 1 + j) 0 ≠ 125 := fun j hj => by
      have := spanN_all (q := (· != 125)) (T := T) (n := T.size - (p + 1)) (p := p + 1) hj
      simpa using this
    have hbk : ∀ pc q hd b lm li, Run (10 + 10 * nB T (p + 1) + 1) (rs COLC T T.size s pc q hd true #[none, none, some (p + 1), b] lm li #[] none (gbF 28 (p + 1 + nB T (p + 1)) true (nB T (p + 1) : Nat) 2 (-1) :: [nbF 23 p true (-1) (-1)]) 2 (some false)) Not :=
      col_brace_back (p := p + 1) (N := 10) hall (by omega) (mk := #[]) fun hd b => hend _ _ _ _ _ _
    have hk2 : nS T (p + 1 + nB T (p + 1) + 1) ≤ T.size - (p + 1 + nB T (p + 1) + 1) := spanN_le
    refine Run.more (N := (10 + 10 * nB T (p + 1) + 1 + 2 * nS T (p + 1 + nB T (p + 1) + 1) + 3 + 1) + 1 + 1 + 1 + 1 + 1) ?_ (by omega)
    refine run_one_yes (i := 26) (by decide) (.inl rfl) h1.1 (fun z => ⟨z, ?_⟩) rfl ?_
    · show Except.ok (T.getD p 0 == 123, z) = _
      rw [h1.2]; rfl
    refine run_mark (i := 2) (by decide) rfl rfl rfl rfl rfl ?_
    refine run_rep (n := nB T (p + 1)) (i := 35) (by decide) rfl (Nat.zero_le _) (by omega) (brace_run (by omega) hz) (Nat.zero_le _) rfl (by omega) ?_
    refine run_mark (i := 3) (by decide) rfl rfl rfl rfl rfl ?_
    by_cases h2 : p + 1 + nB T (p + 1) < T.size
    · refine run_one_yes (i := 39) (by decide) (.inl rfl) h2 (fun z => ⟨z, ?_⟩) rfl ?_
      · show Except.ok (T.getD (p + 1 + nB T (p + 1)) 0 == 125, z) = _
        rw [nB_end h2]; rfl
      refine run_jump (i := 42) (by decide) rfl rfl ?_
      exact col_tail_no hA (by omega) hz (by omega) (fun h3 h4 => h ⟨h1.1, h1.2, h2, h3, h4⟩) fun hd => hbk _ _ _ _ _ _
    · refine run_one_no (by decide) (.inl rfl) (fun h => absurd h h2) ?_
      exact Run.more (hbk _ _ _ _ _ _) (by omega)
  · refine Run.more (N := 10 + 1) ?_ (by omega)
    refine run_one_no (by decide) (.inl rfl) (fun h z => ⟨z, ?_⟩) (hend _ _ _ _ _ _)
    show Except.ok (T.getD p 0 == 123, z) = _
    rw [show (T.getD p 0 == 123) = false by simpa using fun e => h1 ⟨h, e⟩]

/-- what the first pattern finds at p: where it ends, its groups -/
instance : Decidable (colW T p) := by unfold colW; infer_instance
instance : Decidable (colB T p) := by unfold colB; infer_instance
def colRes (T : Array Nat) (p : Nat) : Option (Nat × List (Option (Nat × Nat))) :=
  if colW T p then some (p + nW T p + nS T (p + nW T p) + 1, [some (p, p + nW T p), none])
  else if colB T p then some (p + 1 + nB T (p + 1) + 1 + nS T (p + 1 + nB T (p + 1) + 1) + 1, [none, some (p + 1, p + 1 + nB T (p + 1))])
  else none
def EndsAs (s : Nat) (r : Option (Nat × List (Option (Nat × Nat)))) (m : M) : Prop := match r with
  | some (e, sp) => Fits s e sp m
  | none => Not m

theorem col_run (hA : Asc T) (hz : T.size ≤ 16777216) (hp : p ≤ T.size) :
    Run (1000 * T.size + 1000) (rs COLC T T.size p 5 p p true #[none, none, none, none] (-1) (-1) #[] none [] 0 none) (EndsAs p (colRes T p)) := by
  unfold colRes
  by_cases h : colW T p
  · rw [if_pos h]
    exact Run.more (col_word hz hp h) (by omega)
  · rw [if_neg h]
    refine Run.more (N := (100 * T.size + 100) + 200 * T.size + 200) (col_first_no hA hz hp h fun hd a b => ?_) (by omega)
    by_cases h2 : colB T p
    · rw [if_pos h2]
      exact Run.more (col_brace hz h2 hd) (by omega)
    · rw [if_neg h2]
      exact Run.more (col_brace_no hA hz hp h2 hd) (by omega)
end Mine
end
section
open PySem PySem.Sre
set_option Elab.async false
set_option maxRecDepth 100000
set_option linter.unusedVariables false
namespace Mine

def TERMC : Array Nat := #[14, 4, 0, 1, 4294967295, 7, 23, 16, 34, 17, 0, 24, 6, 0, 4294967295, 20, 34, 1, 17, 1, 24, 6, 0, 1, 16, 34, 1, 15, 25, 23, 17, 2, 26, 15, 1, 4294967295, 13, 10, 21, 16, 34, 22, 40, 41, 8, 12, 0, 1, 17, 3, 15, 2, 0, 23, 9, 0, 1, 17, 4, 16, 42, 17, 5, 18, 4, 23, 0, 7, 13, 13, 9, 16, 34, 22, 40, 41, 8, 12, 0, 15, 7, 5, 6, 5, 15, 2, 0, 1, 1]

variable {T : Array Nat} {C : Array Nat} {L s pc pos p q e hd : Nat} {om : Bool} {mk mk' : Array (Option Nat)} {lm li lm' li' : Int} {lp : Array Loop} {inn : Option Nat} {fr : List Sre.Frame} {w i j k n N : Nat} {P : M → Prop} {yes : Bool} {ans : Option Bool}

def isSet (c : Nat) : Bool := c == 34 || (40 ≤ c && c ≤ 41) || Unicode.isSpace c
theorem inSet_tail (c : Nat) (y : Bool) (f i : Nat) (z : Seen) (h1 : TERMC.getD i 0 = 16) (h2 : TERMC.getD (i + 1) 0 = 34) (h3 : TERMC.getD (i + 2) 0 = 22) (h4 : TERMC.getD (i + 2 + 1) 0 = 40) (h5 : TERMC.getD (i + 2 + 2) 0 = 41)
    (h6 : TERMC.getD (i + 2 + 3) 0 = 8) (h7 : TERMC.getD (i + 2 + 3 + 1) 0 = 12) (h8 : TERMC.getD (i + 2 + 3 + 2) 0 = 0) : ∃ z', inSet TERMC c (f + 4) i y z = .ok (isSet c == y, z') := by
  unfold inSet
  simp only [Nat.add_zero, h1]
  simp only [show ops[16]? = some Sre.Op.LITERAL from rfl, h2]
  by_cases e1 : c = 34
  · rw [if_pos (by simpa using e1)]
    rw [show isSet c = true by unfold isSet; simp [e1]]
    cases y <;> exact ⟨_, rfl⟩
  rw [if_neg (by simpa using e1)]
  unfold inSet
  simp only [Nat.add_zero, h3]
  simp only [show ops[22]? = some Sre.Op.RANGE from rfl, h4, h5]
  by_cases e2 : 40 ≤ c ∧ c ≤ 41
  · rw [if_pos (by simpa using e2)]
    rw [show isSet c = true by unfold isSet; simp [e2]]
    cases y <;> exact ⟨_, rfl⟩
  rw [if_neg (by simpa using e2)]
  unfold inSet
  simp only [Nat.add_zero, h6]
  simp only [show ops[8]? = some Sre.Op.CATEGORY from rfl, h7]
  have hs : isSet c = Unicode.isSpace c := by
    unfold isSet
    rw [show (c == 34) = false by simpa using e1, show (decide (40 ≤ c) && decide (c ≤ 41)) = false by simpa using e2]
    simp
  rw [hs]
  cases h : Unicode.isSpace c
  · rw [show category 12 c = .ok false by show Except.ok (Unicode.isSpace c != false) = _; rw [h]; rfl]
    simp only [bind, Except.bind]
    unfold inSet
    simp only [Nat.add_zero, h8]
    cases y <;> exact ⟨_, rfl⟩
  · rw [show category 12 c = .ok true by show Except.ok (Unicode.isSpace c != false) = _; rw [h]; rfl]
    cases y <;> exact ⟨_, rfl⟩
theorem acc_set (c z) : ∃ z', accepts TERMC 69 c z = .ok (isSet c, z') := by
  obtain ⟨z', e⟩ := inSet_tail c true 85 71 z rfl rfl rfl rfl rfl rfl rfl rfl
  exact ⟨z', by show inSet TERMC c 89 71 true z = _; rw [e]; simp⟩
theorem acc_unset (c z) : ∃ z', accepts TERMC 36 c z = .ok (!isSet c, z') := by
  obtain ⟨z', e⟩ := inSet_tail c false 84 39 (z.add 21) rfl rfl rfl rfl rfl rfl rfl rfl
  exact ⟨z', by show inSet TERMC c 88 39 false (z.add 21) = _; rw [e]; simp⟩

/-- the pattern's end: a sign that parts words, or the text's end -/
def Look (T : Array Nat) (e : Nat) : Prop := T.size ≤ e ∨ isSet (T.getD e 0) = true
instance : Decidable (Look T e) := by unfold Look; infer_instance

abbrev lkF (pc pos : Nat) (om : Bool) (lm li : Int) : Sre.Frame := { wait := .look, pc := pc, pos := pos, outermost := om, kept := kp0 lm li }

theorem run_assert (hw' : w ≤ 1000) (r : Run N (rs TERMC T L s 67 e e false mk lm li lp none (lkF 64 e om lm li :: fr) (w + 1) none) P) :
    Run (N + 1) (rs TERMC T L s 64 e hd om mk lm li lp none fr w none) P := by
  refine Run.step (fun z => ⟨z.add 4, ?_⟩) r
  rw [step_exec rfl rfl (show (64 : Nat) < 89 by decide)]
  have e : ({ rs TERMC T L s 64 e hd om mk lm li lp none fr w none with seen := z } : M).word 0 = 4 := rfl
  unfold M.exec
  simp only [e]
  show (if _ < (0 : Nat) then _ else _) = _
  rw [if_neg (by omega)]
  unfold M.attempt
  rw [if_neg (by show ¬ w + 1 + 0 > 16777216; omega)]
  rfl
theorem run_look_yes {k1 k2 : Int} (r : Run N (rs TERMC T L s 88 e hd om mk lm li lp inn fr w none) P) :
    Run (N + 1) (rs TERMC T L s pc pos hd yes mk lm li lp inn (lkF 64 e om k1 k2 :: fr) (w + 1) (some true)) P := by
  refine Run.step (fun z => ⟨z, ?_⟩) r
  rw [step_frame (yes := true) rfl rfl rfl]
  rfl
theorem run_look_no {k1 k2 : Int} (r : Run N (rs TERMC T L s 64 e hd om mk lm li lp inn fr w (some false)) P) :
    Run (N + 1) (rs TERMC T L s pc pos hd yes mk lm li lp inn (lkF 64 e om k1 k2 :: fr) (w + 1) (some false)) P := by
  refine Run.step (fun z => ⟨z, ?_⟩) r
  rw [step_frame (yes := false) rfl rfl rfl]
  rfl
/-- the end of the text is asked for -/
theorem run_at (he : e ≤ L) (h : e = L ∨ (e + 1 = L ∧ T.getD e 0 = 10)) (r : Run N (rs TERMC T L s 84 e hd om mk lm li lp none fr w none) P) :
    Run (N + 1) (rs TERMC T L s 82 e hd om mk lm li lp none fr w none) P := by
  refine Run.step (fun z => ?_) r
  rw [step_exec rfl rfl (show (82 : Nat) < 89 by decide)]
  have e0 : ({ rs TERMC T L s 82 e hd om mk lm li lp none fr w none with seen := z } : M).word 0 = 6 := rfl
  unfold M.exec
  simp only [e0]
  show ∃ z', (if (e == L || (e + 1 == L && T.getD e 0 == 10)) = true then _ else _) = _
  rw [if_pos (by rcases h with h | h <;> simp [h])]
  exact ⟨_, rfl⟩
theorem run_at_no (h1 : e ≠ L) (h2 : T.getD e 0 ≠ 10) (r : Run N (rs TERMC T L s 82 e hd om mk lm li lp none fr w (some false)) P) :
    Run (N + 1) (rs TERMC T L s 82 e hd om mk lm li lp none fr w none) P := by
  refine Run.step (fun z => ?_) r
  rw [step_exec rfl rfl (show (82 : Nat) < 89 by decide)]
  have e0 : ({ rs TERMC T L s 82 e hd om mk lm li lp none fr w none with seen := z } : M).word 0 = 6 := rfl
  unfold M.exec
  simp only [e0]
  show ∃ z', (if (e == L || (e + 1 == L && T.getD e 0 == 10)) = true then _ else _) = _
  rw [show (e == L) = false by simpa using h1, show (T.getD e 0 == 10) = false by simpa using h2, Bool.and_false, if_neg (by simp)]
  exact ⟨_, rfl⟩

theorem look_yes (he : e ≤ T.size) (h : Look T e) (hw : w ≤ 900) (r : ∀ hd, Run N (rs TERMC T T.size s 88 e hd om mk lm li lp none fr w none) P) :
    Run (N + 20) (rs TERMC T T.size s 64 e hd om mk lm li lp none fr w none) P := by
  refine Run.more (N := N + 10) ?_ (by omega)
  refine run_assert (by omega) ?_
  refine run_branch (by decide) rfl rfl (by omega) ?_
  by_cases hx : T.size ≤ e
  · refine run_one_no (by decide) (.inr (.inr rfl)) (fun hl => absurd hl (by omega)) ?_
    refine run_nb_next rfl (by omega) ?_
    refine run_at (by omega) (.inl (by omega)) ?_
    refine run_jump (i := 87) (by decide) rfl rfl ?_
    refine run_success (by decide) rfl ?_
    refine run_yes (.inl rfl) rfl ?_
    exact run_look_yes (Run.more (r _) (by omega))
  · have hy : isSet (T.getD e 0) = true := by rcases h with h | h; exact absurd h hx; exact h
    refine run_one_yes (i := 79) (by decide) (.inr (.inr rfl)) (by omega) (fun z => hy ▸ acc_set _ z) rfl ?_
    refine run_jump (i := 87) (by decide) rfl rfl ?_
    refine run_success (by decide) rfl ?_
    refine run_yes (.inl rfl) rfl ?_
    exact run_look_yes (Run.more (r _) (by omega))
theorem look_no (he : e ≤ T.size) (h : ¬ Look T e) (hw : w ≤ 900) (r : ∀ hd, Run N (rs TERMC T T.size s 64 e hd om mk lm li lp none fr w (some false)) P) :
    Run (N + 20) (rs TERMC T T.size s 64 e hd om mk lm li lp none fr w none) P := by
  have hx : ¬ T.size ≤ e := fun x => h (.inl x)
  have hy : isSet (T.getD e 0) = false := by
    cases hc : isSet (T.getD e 0)
    · rfl
    · exact absurd (.inr hc) h
  refine Run.more (N := N + 10) ?_ (by omega)
  refine run_assert (by omega) ?_
  refine run_branch (by decide) rfl rfl (by omega) ?_
  refine run_one_no (by decide) (.inr (.inr rfl)) (fun _ z => hy ▸ acc_set _ z) ?_
  refine run_nb_next rfl (by omega) ?_
  refine run_at_no (by omega) (fun e10 => ?_) ?_
  · rw [e10] at hy; revert hy; decide +kernel
  refine run_nb_last rfl ?_
  exact run_look_no (Run.more (r _) (by omega))

def star (T : Array Nat) (e : Nat) : Prop := e < T.size ∧ T.getD e 0 = 42 ∧ Look T (e + 1)
instance : Decidable (star T e) := by unfold star; infer_instance

abbrev mk6 (a b c d x y : Option Nat) : Array (Option Nat) := #[a, b, c, d, x, y]
abbrev clF (e : Nat) : Sre.Frame := { wait := .closeLoop, pc := 53, pos := e, outermost := true, loop := 0 }
abbrev mmF (e : Nat) (lm li : Int) (mk : Array (Option Nat)) : Sre.Frame := { wait := .maxMore, pc := 64, pos := e, outermost := true, loop := 0, count := 0, kept := { lastmark := lm, lastindex := li, whole := true, marks := mk }, began := none }
abbrev mtF (e : Nat) (c lm li : Int) : Sre.Frame := { wait := .maxTail, pc := 64, pos := e, outermost := true, loop := 0, count := c, kept := kp0 lm li }

/-- into the loop: the star is asked for -/
theorem enter1 {a b c d x y : Option Nat} (r : Run N (rs TERMC T L s 57 e e true (mk6 a b c d x y) 1 li #[⟨53, 0, some e, none⟩] (some 0) (mmF e 1 li #[a, b] :: clF e :: fr) (4 + 3) none) P) :
    Run (N + 2) (rs TERMC T L s 53 e hd true (mk6 a b c d x y) 1 li #[] none fr 3 none) P := by
  refine Run.step (c' := rs TERMC T L s 63 e e true (mk6 a b c d x y) 1 li #[⟨53, -1, none, none⟩] (some 0) (clF e :: fr) 4 none) (fun z => ⟨z.add 23, rfl⟩) ?_
  exact Run.step (fun z => ⟨z.add 18, by kernel_rfl⟩) r
theorem enter3 {a b c d x y : Option Nat} (r : Run N (rs TERMC T L s 57 e e true (mk6 a b c d x y) 3 li #[⟨53, 0, some e, none⟩] (some 0) (mmF e 3 li #[a, b, c, d] :: clF e :: fr) (3 + 5) none) P) :
    Run (N + 2) (rs TERMC T L s 53 e hd true (mk6 a b c d x y) 3 li #[] none fr 2 none) P := by
  refine Run.step (c' := rs TERMC T L s 63 e e true (mk6 a b c d x y) 3 li #[⟨53, -1, none, none⟩] (some 0) (clF e :: fr) 3 none) (fun z => ⟨z.add 23, rfl⟩) ?_
  exact Run.step (fun z => ⟨z.add 18, by kernel_rfl⟩) r

/-- after a failed star: the loop is left at once -/
theorem leave1 (he : e ≤ T.size) {a b c d x y : Option Nat} {lm' li' : Int}
    (r1 : Look T e → Run N (rs TERMC T T.size s 53 e e true (mk6 a b none none x y) 1 li #[] none fr 3 (some true)) P)
    (r2 : ¬ Look T e → ∀ hd, Run N (rs TERMC T T.size s 53 e hd true (mk6 a b none none x y) 1 li #[] none fr 3 (some false)) P) :
    Run (N + 30) (rs TERMC T T.size s pc pos hd true (mk6 a b none none x y) lm' li' #[⟨53, 0, some e, none⟩] (some 0) (mmF e 1 li #[a, b] :: clF e :: fr) 7 (some false)) P := by
  refine Run.more (N := N + 1 + 1 + 1 + 20 + 1) ?_ (by omega)
  refine Run.step (c' := rs TERMC T T.size s 64 e e true (mk6 a b none none x y) 1 li #[⟨53, -1, none, none⟩] none (mtF e 0 1 li :: clF e :: fr) 5 none) (fun z => ⟨z, by kernel_rfl⟩) ?_
  by_cases h : Look T e
  · refine look_yes he h (by omega) fun hd => ?_
    refine run_success (by decide) rfl ?_
    refine Run.step (c' := rs TERMC T T.size s 64 e e true (mk6 a b none none x y) 1 li #[⟨53, -1, none, none⟩] (some 0) (clF e :: fr) 4 (some true)) (fun z => ⟨z, by kernel_rfl⟩) ?_
    exact Run.step (fun z => ⟨z, by kernel_rfl⟩) (r1 h)
  · refine look_no he h (by omega) fun hd => ?_
    refine Run.more (N := N + 1 + 1) ?_ (by omega)
    refine Run.step (c' := rs TERMC T T.size s 64 e hd true (mk6 a b none none x y) 1 li #[⟨53, -1, none, none⟩] (some 0) (clF e :: fr) 4 (some false)) (fun z => ⟨z, by kernel_rfl⟩) ?_
    exact Run.step (fun z => ⟨z, by kernel_rfl⟩) (r2 h hd)

/-- the star, if it is there, then the end -/
theorem opt1 (he : e ≤ T.size) {a b c d x y : Option Nat}
    (r0 : star T e → Run N (rs TERMC T T.size s 53 e (e + 1) true (mk6 a b none none (some e) (some (e + 1))) 5 3 #[] none fr 3 (some true)) P)
    (r1 : ¬ star T e → Look T e → ∀ x y, Run N (rs TERMC T T.size s 53 e e true (mk6 a b none none x y) 1 li #[] none fr 3 (some true)) P)
    (r2 : ¬ star T e → ¬ Look T e → ∀ hd x y, Run N (rs TERMC T T.size s 53 e hd true (mk6 a b none none x y) 1 li #[] none fr 3 (some false)) P) :
    Run (N + 80) (rs TERMC T T.size s 53 e hd true (mk6 a b c d x y) 1 li #[] none fr 3 none) P := by
  refine Run.more (N := (N + 30) + 1 + 20 + 1 + 1 + 1 + 1 + 2) ?_ (by omega)
  refine enter1 ?_
  refine run_mark (i := 4) (mk' := mk6 a b none none (some e) y) (lm' := 4) (li' := li) (by decide) rfl rfl rfl rfl rfl ?_
  by_cases h1 : e < T.size ∧ T.getD e 0 = 42
  · refine run_one_yes (i := 61) (by decide) (.inl rfl) h1.1 (fun z => ⟨z, ?_⟩) rfl ?_
    · show Except.ok (T.getD e 0 == 42, z) = _
      rw [h1.2]; rfl
    refine run_mark (i := 5) (mk' := mk6 a b none none (some e) (some (e + 1))) (lm' := 5) (li' := 3) (by decide) rfl rfl rfl rfl rfl ?_
    refine Run.step (c' := rs TERMC T T.size s 64 (e + 1) (e + 1) true (mk6 a b none none (some e) (some (e + 1))) 5 3 #[⟨53, 0, some e, none⟩] none (mtF (e + 1) 1 5 3 :: mmF e 1 li #[a, b] :: clF e :: fr) 8 none) (fun z => ⟨z.add 18, by kernel_rfl⟩) ?_
    by_cases h2 : Look T (e + 1)
    · refine look_yes (by omega) h2 (by omega) fun hd => ?_
      refine Run.more (N := N + 1 + 1 + 1 + 1) ?_ (by omega)
      refine run_success (by decide) rfl ?_
      refine Run.step (c' := rs TERMC T T.size s 64 (e + 1) (e + 1) true (mk6 a b none none (some e) (some (e + 1))) 5 3 #[⟨53, 0, some e, none⟩] (some 0) (mmF e 1 li #[a, b] :: clF e :: fr) 7 (some true)) (fun z => ⟨z, by kernel_rfl⟩) ?_
      refine Run.step (c' := rs TERMC T T.size s 64 e (e + 1) true (mk6 a b none none (some e) (some (e + 1))) 5 3 #[⟨53, 0, none, none⟩] (some 0) (clF e :: fr) 4 (some true)) (fun z => ⟨z, by kernel_rfl⟩) ?_
      exact Run.step (fun z => ⟨z, by kernel_rfl⟩) (r0 ⟨h1.1, h1.2, h2⟩)
    · refine look_no (by omega) h2 (by omega) fun hd => ?_
      refine Run.step (c' := rs TERMC T T.size s 64 (e + 1) hd true (mk6 a b none none (some e) (some (e + 1))) 5 3 #[⟨53, 0, some e, none⟩] (some 0) (mmF e 1 li #[a, b] :: clF e :: fr) 7 (some false)) (fun z => ⟨z, by kernel_rfl⟩) ?_
      exact leave1 (c := c) (d := d) he (fun h => r1 (fun h' => h2 h'.2.2) h _ _) (fun h hd => r2 (fun h' => h2 h'.2.2) h hd _ _)
  · refine run_one_no (by decide) (.inl rfl) (fun hl z => ⟨z, ?_⟩) ?_
    · show Except.ok (T.getD e 0 == 42, z) = _
      rw [show (T.getD e 0 == 42) = false by simpa using fun h => h1 ⟨hl, h⟩]
    exact Run.more (leave1 (c := c) (d := d) he (fun h => r1 (fun h' => h1 ⟨h'.1, h'.2.1⟩) h _ _) (fun h hd => r2 (fun h' => h1 ⟨h'.1, h'.2.1⟩) h hd _ _)) (by omega)

/-- after a failed star: the loop is left at once -/
theorem leave3 (he : e ≤ T.size) {a b c d x y : Option Nat} {lm' li' : Int}
    (r1 : Look T e → Run N (rs TERMC T T.size s 53 e e true (mk6 a b c d x y) 3 li #[] none fr 2 (some true)) P)
    (r2 : ¬ Look T e → ∀ hd, Run N (rs TERMC T T.size s 53 e hd true (mk6 a b c d x y) 3 li #[] none fr 2 (some false)) P) :
    Run (N + 30) (rs TERMC T T.size s pc pos hd true (mk6 a b c d x y) lm' li' #[⟨53, 0, some e, none⟩] (some 0) (mmF e 3 li #[a, b, c, d] :: clF e :: fr) 8 (some false)) P := by
  refine Run.more (N := N + 1 + 1 + 1 + 20 + 1) ?_ (by omega)
  refine Run.step (c' := rs TERMC T T.size s 64 e e true (mk6 a b c d x y) 3 li #[⟨53, -1, none, none⟩] none (mtF e 0 3 li :: clF e :: fr) 4 none) (fun z => ⟨z, by kernel_rfl⟩) ?_
  by_cases h : Look T e
  · refine look_yes he h (by omega) fun hd => ?_
    refine run_success (by decide) rfl ?_
    refine Run.step (c' := rs TERMC T T.size s 64 e e true (mk6 a b c d x y) 3 li #[⟨53, -1, none, none⟩] (some 0) (clF e :: fr) 3 (some true)) (fun z => ⟨z, by kernel_rfl⟩) ?_
    exact Run.step (fun z => ⟨z, by kernel_rfl⟩) (r1 h)
  · refine look_no he h (by omega) fun hd => ?_
    refine Run.more (N := N + 1 + 1) ?_ (by omega)
    refine Run.step (c' := rs TERMC T T.size s 64 e hd true (mk6 a b c d x y) 3 li #[⟨53, -1, none, none⟩] (some 0) (clF e :: fr) 3 (some false)) (fun z => ⟨z, by kernel_rfl⟩) ?_
    exact Run.step (fun z => ⟨z, by kernel_rfl⟩) (r2 h hd)

/-- the star, if it is there, then the end -/
theorem opt3 (he : e ≤ T.size) {a b c d x y : Option Nat}
    (r0 : star T e → Run N (rs TERMC T T.size s 53 e (e + 1) true (mk6 a b c d (some e) (some (e + 1))) 5 3 #[] none fr 2 (some true)) P)
    (r1 : ¬ star T e → Look T e → ∀ x y, Run N (rs TERMC T T.size s 53 e e true (mk6 a b c d x y) 3 li #[] none fr 2 (some true)) P)
    (r2 : ¬ star T e → ¬ Look T e → ∀ hd x y, Run N (rs TERMC T T.size s 53 e hd true (mk6 a b c d x y) 3 li #[] none fr 2 (some false)) P) :
    Run (N + 80) (rs TERMC T T.size s 53 e hd true (mk6 a b c d x y) 3 li #[] none fr 2 none) P := by
  refine Run.more (N := (N + 30) + 1 + 20 + 1 + 1 + 1 + 1 + 2) ?_ (by omega)
  refine enter3 ?_
  refine run_mark (i := 4) (mk' := mk6 a b c d (some e) y) (lm' := 4) (li' := li) (by decide) rfl rfl rfl rfl rfl ?_
  by_cases h1 : e < T.size ∧ T.getD e 0 = 42
  · refine run_one_yes (i := 61) (by decide) (.inl rfl) h1.1 (fun z => ⟨z, ?_⟩) rfl ?_
    · show Except.ok (T.getD e 0 == 42, z) = _
      rw [h1.2]; rfl
    refine run_mark (i := 5) (mk' := mk6 a b c d (some e) (some (e + 1))) (lm' := 5) (li' := 3) (by decide) rfl rfl rfl rfl rfl ?_
    refine Run.step (c' := rs TERMC T T.size s 64 (e + 1) (e + 1) true (mk6 a b c d (some e) (some (e + 1))) 5 3 #[⟨53, 0, some e, none⟩] none (mtF (e + 1) 1 5 3 :: mmF e 3 li #[a, b, c, d] :: clF e :: fr) 9 none) (fun z => ⟨z.add 18, by kernel_rfl⟩) ?_
    by_cases h2 : Look T (e + 1)
    · refine look_yes (by omega) h2 (by omega) fun hd => ?_
      refine Run.more (N := N + 1 + 1 + 1 + 1) ?_ (by omega)
      refine run_success (by decide) rfl ?_
      refine Run.step (c' := rs TERMC T T.size s 64 (e + 1) (e + 1) true (mk6 a b c d (some e) (some (e + 1))) 5 3 #[⟨53, 0, some e, none⟩] (some 0) (mmF e 3 li #[a, b, c, d] :: clF e :: fr) 8 (some true)) (fun z => ⟨z, by kernel_rfl⟩) ?_
      refine Run.step (c' := rs TERMC T T.size s 64 e (e + 1) true (mk6 a b c d (some e) (some (e + 1))) 5 3 #[⟨53, 0, none, none⟩] (some 0) (clF e :: fr) 3 (some true)) (fun z => ⟨z, by kernel_rfl⟩) ?_
      exact Run.step (fun z => ⟨z, by kernel_rfl⟩) (r0 ⟨h1.1, h1.2, h2⟩)
    · refine look_no (by omega) h2 (by omega) fun hd => ?_
      refine Run.step (c' := rs TERMC T T.size s 64 (e + 1) hd true (mk6 a b c d (some e) (some (e + 1))) 5 3 #[⟨53, 0, some e, none⟩] (some 0) (mmF e 3 li #[a, b, c, d] :: clF e :: fr) 8 (some false)) (fun z => ⟨z, by kernel_rfl⟩) ?_
      exact leave3 (c := c) (d := d) he (fun h => r1 (fun h' => h2 h'.2.2) h _ _) (fun h hd => r2 (fun h' => h2 h'.2.2) h hd _ _)
  · refine run_one_no (by decide) (.inl rfl) (fun hl z => ⟨z, ?_⟩) ?_
    · show Except.ok (T.getD e 0 == 42, z) = _
      rw [show (T.getD e 0 == 42) = false by simpa using fun h => h1 ⟨hl, h⟩]
    exact Run.more (leave3 (c := c) (d := d) he (fun h => r1 (fun h' => h1 ⟨h'.1, h'.2.1⟩) h _ _) (fun h hd => r2 (fun h' => h1 ⟨h'.1, h'.2.1⟩) h hd _ _)) (by omega)
end Mine
end
section
open PySem PySem.Sre
set_option Elab.async false
set_option maxRecDepth 100000
set_option linter.unusedVariables false
namespace Mine
variable {T : Array Nat} {C : Array Nat} {L s pc pos p q e hd : Nat} {om : Bool} {mk mk' : Array (Option Nat)} {lm li lm' li' : Int} {lp : Array Loop} {inn : Option Nat} {fr : List Sre.Frame} {w i j k n N : Nat} {P : M → Prop} {yes : Bool} {ans : Option Bool}

theorem exec_min {m : M} (h : m.word 0 = 26) : ∃ z z0, m.exec = (if (m.word 2 : Int) > (m.lim : Int) - m.pos then { m with seen := z }.say false else
    match Sre.run m.code m.text (m.pc + 4) (min (m.word 2) ((m.lim : Int) - m.pos).toNat) m.pos 0 z0 with
    | .error why => { m with seen := z }.stick why
    | .ok (n, seen) => if n < m.word 2 then { m with seen }.say false else { m with seen, pos := m.pos + n }.afterRun .takeMore n ({ m with seen }.keep m.inner.isSome)) := by
  refine ⟨m.seen.add (m.word 0), (m.seen.add (m.word 0)).add (m.word 4), ?_⟩
  unfold M.exec
  simp only [h]
  rfl

theorem run_min (hp : pc < C.size) (hw : C.getD pc 0 = 26) (h2 : C.getD (pc + 2) 0 = 1) (hL : pos < L)
    (ha : ∀ z, ∃ z', accepts C (pc + 4) (T.getD pos 0) z = .ok (true, z')) (hi : pc + 1 + C.getD (pc + 1) 0 = i) (hwt : w ≤ 1000)
    (r : Run N (rs C T L s i (pos + 1) (pos + 1) om mk lm li lp none (tmF pc (pos + 1) om 1 lm li :: fr) (w + 1) none) P) : Run (N + 1) (rs C T L s pc pos hd om mk lm li lp none fr w none) P := by
  subst hi
  refine Run.step (fun z => ?_) r
  rw [step_exec rfl rfl hp]
  obtain ⟨z0, z1, e⟩ := exec_min (m := { rs C T L s pc pos hd om mk lm li lp none fr w none with seen := z }) hw
  obtain ⟨z2, e2⟩ := ha z1
  refine ⟨z2, ?_⟩
  rw [e]
  show (if ((C.getD (pc + 2) 0 : Nat) : Int) > (L : Int) - pos then _ else match Sre.run C T (pc + 4) (min (C.getD (pc + 2) 0) ((L : Int) - pos).toNat) pos 0 z1 with | .error why => _ | .ok (n, seen) => _) = _
  have hrun : Sre.run C T (pc + 4) 1 pos 0 z1 = .ok (1, z2) := by
    unfold Sre.run
    rw [e2]
    rfl
  rw [h2, if_neg (by omega), show min 1 ((L : Int) - pos).toNat = 1 by omega, hrun]
  show (if 1 < C.getD (pc + 2) 0 then _ else _) = _
  rw [h2, if_neg (by omega)]
  unfold M.afterRun M.attempt
  rw [if_neg (by show ¬ w + 1 + 0 > 16777216; omega)]
  rfl

theorem run_tm_next {a p : Nat} {n c : Int} {o : Bool} {l k : Int} (h3 : C.getD (a + 3) 0 = 4294967295) (hL : p < L) (hi : a + 1 + C.getD (a + 1) 0 = i) (hwt : w ≤ 1000) (hc : c + 1 = n)
    (ha : ∀ z, ∃ z', accepts C (a + 4) (T.getD p 0) z = .ok (true, z'))
    (r : Run N (rs C T L s i (p + 1) (p + 1) o mk l k lp none (tmF a (p + 1) o n l k :: fr) (w + 1) none) P) :
    Run (N + 1) (rs C T L s pc pos hd om mk lm li lp none (tmF a p o c l k :: fr) (w + 1) (some false)) P := by
  subst hi hc
  refine Run.step (fun z => ?_) r
  rw [step_frame (yes := false) rfl rfl rfl]
  unfold M.resume
  obtain ⟨z2, e2⟩ := ha z
  refine ⟨z2, ?_⟩
  show (if (decide (c + 1 > ((C.getD (a + 3) 0 : Nat) : Int)) && (C.getD (a + 3) 0 != 4294967295)) = true then _ else if p ≥ L then _ else match accepts C (a + 4) (T.getD p 0) z with | .error why => _ | .ok (false, seen) => _ | .ok (true, seen) => _) = _
  rw [h3, if_neg (by simp), if_neg (by omega), e2]
  show M.attempt _ _ _ _ _ = _
  unfold M.attempt
  rw [if_neg (by show ¬ w + 1 - (1 + 0) + 1 + 0 > 16777216; omega)]
  rfl

def nU (T : Array Nat) (p : Nat) : Nat := spanN (fun c => !isSet c) T p (T.size - p)
def nQ (T : Array Nat) (p : Nat) : Nat := spanN (· != 34) T p (T.size - p)
theorem accT_q (c z) : ∃ z', accepts TERMC 15 c z = .ok (c != 34, z') := ⟨z, rfl⟩
theorem accT_l (c z) : ∃ z', accepts TERMC 24 c z = .ok (c == 34, z') := ⟨z, rfl⟩
theorem quote_run (hp : p ≤ T.size) (hz : T.size ≤ 16777216) (z : Seen) : ∃ z', Sre.run TERMC T 15 (min 4294967295 (T.size - p)) p 0 z = .ok (nQ T p, z') := by
  obtain ⟨z', e⟩ := run_is (T := T) accT_q (T.size - p) p 0 z
  exact ⟨z', by rw [show min 4294967295 (T.size - p) = T.size - p by omega, e, Nat.zero_add]; rfl⟩
theorem nQ_end (h : p + nQ T p < T.size) : T.getD (p + nQ T p) 0 = 34 := by
  have := spanN_end (q := (· != 34)) (T := T) (n := T.size - p) (p := p) (by show nQ T p < _; omega)
  simpa [nQ] using this

/-- a phrase: its two ends; where the match ends; whether a star is behind it -/
def phraseEnd (T : Array Nat) (q : Nat) : Nat × Bool :=
  if T.size ≤ q then (q, false) else if star T (q + 1) then (q + 2, true) else if Look T (q + 1) then (q + 1, false) else (q, false)
def starSpan (e : Nat) (b : Bool) : Option (Nat × Nat) := if b then some (e - 1, e) else none

theorem term_phrase (hz : T.size ≤ 16777216) (hp : p < T.size) (h : T.getD p 0 = 34) :
    Run 1000 (rs TERMC T T.size p 5 p p true (mk6 none none none none none none) (-1) (-1) #[] none [] 0 none)
      (Fits p (phraseEnd T (p + 1 + nQ T (p + 1))).1 [some (p + 1, p + 1 + nQ T (p + 1)), none, starSpan (phraseEnd T (p + 1 + nQ T (p + 1))).1 (phraseEnd T (p + 1 + nQ T (p + 1))).2]) := by
  have hk : nQ T (p + 1) ≤ T.size - (p + 1) := spanN_le
  generalize hq : p + 1 + nQ T (p + 1) = q
  refine Run.more (N := 300 + 1 + 1 + 1 + 1 + 1) ?_ (by omega)
  refine run_branch (by decide) rfl rfl (by omega) ?_
  refine run_one_yes (i := 9) (by decide) (.inl rfl) hp (fun z => ⟨z, ?_⟩) rfl ?_
  · show Except.ok (T.getD p 0 == 34, z) = _
    rw [h]; rfl
  refine run_mark (i := 0) (mk' := mk6 (some (p + 1)) none none none none none) (lm' := 0) (li' := -1) (by decide) rfl rfl rfl rfl rfl ?_
  refine run_rep (n := nQ T (p + 1)) (i := 18) (by decide) rfl (Nat.zero_le _) (by omega) (quote_run (by omega) hz) (Nat.zero_le _) rfl (by omega) ?_
  rw [hq]
  refine run_mark (i := 1) (mk' := mk6 (some (p + 1)) (some q) none none none none) (lm' := 1) (li' := 1) (by decide) rfl rfl rfl rfl rfl ?_
  have hpop : ∀ {e q2 hd : Nat} {n : Int} {mk lm li}, Fits p (phraseEnd T q).1 [some (p + 1, q), none, starSpan (phraseEnd T q).1 (phraseEnd T q).2] (rs TERMC T T.size p 6 p hd true mk lm li #[] none [] 0 (some true)) →
      Run 10 (rs TERMC T T.size p 53 e hd true mk lm li #[] none [gbF 20 q2 true n 1 1, gbF 11 q true (nQ T (p + 1)) 0 (-1), nbF 6 p true (-1) (-1)] 3 (some true)) (Fits p (phraseEnd T q).1 [some (p + 1, q), none, starSpan (phraseEnd T q).1 (phraseEnd T q).2]) := by
    intro e q2 hd n mk lm li h
    refine Run.more (N := 0 + 1 + 1 + 1) ?_ (by omega)
    refine run_yes (.inr (.inl rfl)) rfl ?_
    refine run_yes (.inr (.inl rfl)) rfl ?_
    exact run_yes (.inl rfl) rfl (Run.now h)
  by_cases hqL : T.size ≤ q
  · have hqe : q = T.size := by omega
    have hnl : Look T q := .inl hqL
    refine Run.more (N := 10 + 80 + 1 + 1) ?_ (by omega)
    refine run_rep (n := 0) (i := 27) (by decide) rfl (Nat.zero_le _) (by omega) (fun z => ⟨z, ?_⟩) (Nat.zero_le _) rfl (by omega) ?_
    · rw [show min (TERMC.getD (20 + 3) 0) (T.size - q) = 0 by omega]; rfl
    refine run_jump (i := 53) (by decide) rfl rfl ?_
    have hns : ¬ star T (q + 0) := fun h => by have := h.1; omega
    have hpe : phraseEnd T q = (q, false) := by unfold phraseEnd; rw [if_pos hqL]
    refine opt1 (by omega) (fun h => absurd h hns) (fun _ _ x y => hpop ?_) (fun _ h => absurd hnl h)
    rw [hpe]
    exact ⟨rfl, rfl, rfl, rfl, rfl, rfl⟩
  · have hc : T.getD q 0 = 34 := by rw [← hq]; exact nQ_end (by omega)
    refine Run.more (N := (10 + 80 + 1 + 1) + 80 + 1 + 1) ?_ (by omega)
    refine run_rep (n := 1) (i := 27) (by decide) rfl (Nat.zero_le _) (by omega) (fun z => ⟨z, ?_⟩) (Nat.zero_le _) rfl (by omega) ?_
    · rw [show min (TERMC.getD (20 + 3) 0) (T.size - q) = 1 by show min 1 _ = _; omega]
      unfold Sre.run
      rw [show accepts TERMC (20 + 4) (T.getD q 0) z = .ok (T.getD q 0 == 34, z) from rfl, hc]
      rfl
    refine run_jump (i := 53) (by decide) rfl rfl ?_
    refine opt1 (by omega) (fun h => ?_) (fun hs hl x y => ?_) (fun hs hl hd x y => ?_)
    · have hpe : phraseEnd T q = (q + 2, true) := by unfold phraseEnd; rw [if_neg hqL, if_pos h]
      refine Run.more (hpop ?_) (by omega)
      rw [hpe]
      exact ⟨rfl, rfl, rfl, rfl, rfl, rfl⟩
    · have hpe : phraseEnd T q = (q + 1, false) := by unfold phraseEnd; rw [if_neg hqL, if_neg hs, if_pos hl]
      refine Run.more (hpop ?_) (by omega)
      rw [hpe]
      exact ⟨rfl, rfl, rfl, rfl, rfl, rfl⟩
    · have hpe : phraseEnd T q = (q, false) := by unfold phraseEnd; rw [if_neg hqL, if_neg hs, if_neg hl]
      refine run_gb_next (n := 0) (j := q) (i := 27) (by decide) rfl (by omega) (by omega) (by omega) ?_
      refine run_jump (i := 53) (by decide) rfl rfl ?_
      have hns : ¬ star T q := fun h => by have := h.2.1; omega
      have hlk : Look T q := .inr (by rw [hc]; rfl)
      refine opt1 (by omega) (fun h => absurd h hns) (fun _ _ x y => hpop ?_) (fun _ h => absurd hlk h)
      rw [hpe]
      exact ⟨rfl, rfl, rfl, rfl, rfl, rfl⟩

/-- a word's end: all that parts no words; a star at its end is its own -/
def wordStar (T : Array Nat) (p : Nat) : Bool := decide (2 ≤ nU T p ∧ T.getD (p + nU T p - 1) 0 = 42)
theorem nU_end : Look T (p + nU T p) := by
  by_cases h : T.size ≤ p + nU T p
  · exact .inl h
  · have := spanN_end (q := fun c => !isSet c) (T := T) (n := T.size - p) (p := p) (by show nU T p < _; omega)
    exact .inr (by simpa [nU] using this)
theorem nU_in (h : i < nU T p) : ¬ Look T (p + i) := by
  have hk : nU T p ≤ T.size - p := spanN_le
  have := spanN_all (q := fun c => !isSet c) (T := T) (n := T.size - p) (p := p) (j := i) h
  rintro (h1 | h1)
  · omega
  · rw [h1] at this; simp at this

def wordRes (T : Array Nat) (p : Nat) : List (Option (Nat × Nat)) :=
  if wordStar T p then [none, some (p, p + nU T p - 1), some (p + nU T p - 1, p + nU T p)] else [none, some (p, p + nU T p), none]

theorem word_from (hz : T.size ≤ 16777216) (hp : p ≤ T.size) : ∀ (m n : Nat), n + m = nU T p → 1 ≤ n → (wordStar T p = true → n < nU T p) → ∀ hd c x y,
    Run (200 * m + 200) (rs TERMC T T.size p 48 (p + n) hd true (mk6 none none (some p) c x y) 2 (-1) #[] none [tmF 32 (p + n) true n 2 (-1), nbF 29 p true (-1) (-1)] 2 none)
      (Fits p (p + nU T p) (wordRes T p)) := by
  intro m
  have hk : nU T p ≤ T.size - p := spanN_le
  have hpop : ∀ {e q2 hd : Nat} {n : Int} {mk lm li}, Fits p (p + nU T p) (wordRes T p) (rs TERMC T T.size p 29 p hd true mk lm li #[] none [] 0 (some true)) →
      Run 10 (rs TERMC T T.size p 53 e hd true mk lm li #[] none [tmF 32 q2 true n 2 (-1), nbF 29 p true (-1) (-1)] 2 (some true)) (Fits p (p + nU T p) (wordRes T p)) := by
    intro e q2 hd n mk lm li h
    refine Run.more (N := 0 + 1 + 1) ?_ (by omega)
    refine run_yes (.inr (.inr rfl)) rfl ?_
    exact run_yes (.inl rfl) rfl (Run.now h)
  induction m with
  | zero =>
    intro n hn h1 hs hd c x y
    have hne : n = nU T p := by omega
    have hL : Look T (p + n) := hne ▸ nU_end
    have hws : wordStar T p = false := by
      cases h : wordStar T p
      · rfl
      · have := hs h; omega
    refine Run.more (N := 10 + 80 + 1 + 1) ?_ (by omega)
    refine run_mark (i := 3) (mk' := mk6 none none (some p) (some (p + n)) x y) (lm' := 3) (li' := 2) (by decide) rfl rfl rfl rfl rfl ?_
    refine run_jump (i := 53) (by decide) rfl rfl ?_
    have hns : ¬ star T (p + n) := fun h => by
      rcases hL with h' | h'
      · have := h.1; omega
      · rw [h.2.1] at h'; revert h'; decide +kernel
    refine opt3 (by omega) (fun h => absurd h hns) (fun _ _ x y => hpop ?_) (fun _ h => absurd hL h)
    unfold wordRes
    rw [hws, ← hne]
    exact ⟨rfl, rfl, rfl, rfl, rfl, rfl⟩
  | succ m ih =>
    intro n hn h1 hs hd c x y
    refine Run.more (N := ((200 * m + 200) + 1) + 80 + 1 + 1) ?_ (by omega)
    refine run_mark (i := 3) (mk' := mk6 none none (some p) (some (p + n)) x y) (lm' := 3) (li' := 2) (by decide) rfl rfl rfl rfl rfl ?_
    refine run_jump (i := 53) (by decide) rfl rfl ?_
    have hnl : ¬ Look T (p + n) := nU_in (by omega)
    refine opt3 (by omega) (fun h => ?_) (fun _ h x y => absurd h hnl) (fun hns _ hd x y => ?_)
    · have hr : nU T p = n + 1 := by
        rcases Nat.lt_or_ge (n + 1) (nU T p) with h' | h'
        · exact absurd h.2.2 (nU_in (p := p) (i := n + 1) h')
        · omega
      have hws : wordStar T p = true := by
        unfold wordStar
        rw [hr]
        exact decide_eq_true ⟨by omega, h.2.1⟩
      refine Run.more (hpop ?_) (by omega)
      unfold wordRes
      rw [hws, hr]
      exact ⟨rfl, rfl, rfl, rfl, rfl, rfl⟩
    · have hun : isSet (T.getD (p + n) 0) = false := by
        cases h : isSet (T.getD (p + n) 0)
        · rfl
        · exact absurd (.inr h) hnl
      refine run_tm_next (i := 48) (n := (n + 1 : Nat)) (by decide) (by omega) rfl (by omega) (by omega) (fun z => ?_) (ih (n + 1) (by omega) (by omega) (fun h => ?_) _ _ _ _)
      · obtain ⟨z', e⟩ := acc_unset (T.getD (p + n) 0) z
        exact ⟨z', by rw [hun] at e; exact e⟩
      · rcases Nat.lt_or_ge (n + 1) (nU T p) with h' | h'
        · exact h'
        · exfalso
          have h2 := of_decide_eq_true h
          have hr : nU T p = n + 1 := by omega
          rw [hr] at h2
          exact hns ⟨by omega, h2.2, by have := nU_end (T := T) (p := p); rwa [hr] at this⟩

theorem term_word (hz : T.size ≤ 16777216) (hp : p < T.size) (h : isSet (T.getD p 0) = false) :
    Run (200 * T.size + 1000) (rs TERMC T T.size p 5 p p true (mk6 none none none none none none) (-1) (-1) #[] none [] 0 none) (Fits p (p + nU T p) (wordRes T p)) := by
  have hk : nU T p ≤ T.size - p := spanN_le
  have h1 : 1 ≤ nU T p := by
    have hl : ¬ Look T (p + 0) := by rintro (h' | h'); omega; rw [Nat.add_zero, h] at h'; simp at h'
    rcases Nat.eq_zero_or_pos (nU T p) with h0 | h0
    · exact absurd (h0 ▸ nU_end (T := T) (p := p)) hl
    · exact h0
  refine Run.more (N := (200 * (nU T p - 1) + 200) + 1 + 1 + 1 + 1 + 1) ?_ (by omega)
  refine run_branch (by decide) rfl rfl (by omega) ?_
  refine run_one_no (by decide) (.inl rfl) (fun hl z => ⟨z, ?_⟩) ?_
  · show Except.ok (T.getD p 0 == 34, z) = _
    rw [show (T.getD p 0 == 34) = false by
      cases hc : (T.getD p 0 == 34)
      · rfl
      · unfold isSet at h; rw [hc] at h; simp at h]
  refine run_nb_next rfl (by omega) ?_
  refine run_mark (i := 2) (mk' := mk6 none none (some p) none none none) (lm' := 2) (li' := -1) (by decide) rfl rfl rfl rfl rfl ?_
  refine run_min (i := 48) (by decide) rfl rfl hp (fun z => ?_) rfl (by omega) ?_
  · obtain ⟨z', e⟩ := acc_unset (T.getD p 0) z
    exact ⟨z', by rw [h] at e; exact e⟩
  exact word_from hz (by omega) (nU T p - 1) 1 (by omega) (by omega) (fun h => (of_decide_eq_true h).1) _ _ _ _
end Mine
end
section
open PySem PySem.Sre
set_option Elab.async false
set_option maxRecDepth 100000
set_option linter.unusedVariables false
namespace Mine
variable {T : Array Nat} {C : Array Nat} {L s pc pos p q e hd : Nat} {w i j k n N : Nat} {P : M → Prop}

def WORDC : Array Nat := #[14, 7, 4, 1, 1, 8, 14, 0, 13, 4, 8, 14, 0, 1]

/-- the start of the first search -/
theorem match_col (T : Array Nat) (p : Nat) : ∃ z, Sre.forMatch COLC T 2 p T.size false false = ({ rs COLC T T.size p 5 p p true #[none, none, none, none] (-1) (-1) #[] none [] 0 (if p ≤ T.size ∧ T.size - p < 2 then some false else none) with seen := z } : M) := by
  refine ⟨({} : Seen).add 14, ?_⟩
  by_cases h : p ≤ T.size ∧ T.size - p < 2
  · rw [if_pos h]
    unfold Sre.forMatch
    show (if ((2 : Nat) != 0 && decide (p ≤ T.size) && decide (T.size - p < 2)) = true then _ else _) = _
    rw [if_pos (by simp [h.1, h.2])]
    rfl
  · rw [if_neg h]
    unfold Sre.forMatch
    show (if ((2 : Nat) != 0 && decide (p ≤ T.size) && decide (T.size - p < 2)) = true then _ else _) = _
    rw [if_neg (by simpa using h)]
    rfl
theorem match_term (T : Array Nat) (p : Nat) (hp : p < T.size) : ∃ z, Sre.forMatch TERMC T 3 p T.size false false = ({ rs TERMC T T.size p 5 p p true (mk6 none none none none none none) (-1) (-1) #[] none [] 0 none with seen := z } : M) := by
  refine ⟨({} : Seen).add 14, ?_⟩
  unfold Sre.forMatch
  show (if ((1 : Nat) != 0 && decide (p ≤ T.size) && decide (T.size - p < 1)) = true then _ else _) = _
  rw [if_neg (by simp; omega)]
  rfl

theorem inW (c : Nat) (z : Seen) (f : Nat) (y : Bool) : ∃ z', inSet WORDC c (f + 2) 5 y z = .ok (if Sre.isWordUni c then y else !y, z') := by
  unfold inSet
  simp only [Nat.add_zero, show WORDC.getD 5 0 = 8 from rfl, show WORDC.getD (5 + 1) 0 = 14 from rfl]
  simp only [show ops[8]? = some Sre.Op.CATEGORY from rfl]
  cases h : Sre.isWordUni c
  · rw [show category 14 c = .ok false by show Except.ok (Sre.isWordUni c != false) = _; rw [h]; rfl]
    simp only [bind, Except.bind]
    unfold inSet
    simp only [Nat.add_zero, show WORDC.getD (5 + 2) 0 = 0 from rfl]
    exact ⟨_, rfl⟩
  · rw [show category 14 c = .ok true by show Except.ok (Sre.isWordUni c != false) = _; rw [h]; rfl]
    exact ⟨_, rfl⟩

theorem adm {m : M} (hc : m.code = WORDC) : ∀ (f s : Nat) (z : Seen), (∃ z', M.admitted m f s z = .ok (none, z') ∧ ∀ i, s ≤ i → i < m.lim → i < s + f → Sre.isWordUni (m.text.getD i 0) = false) ∨
    (∃ z' i, M.admitted m f s z = .ok (some i, z') ∧ s ≤ i ∧ i < m.lim ∧ Sre.isWordUni (m.text.getD i 0) = true)
  | 0, s, z => .inl ⟨z, rfl, fun i h1 h2 h3 => by omega⟩
  | f + 1, s, z => by
    unfold M.admitted
    by_cases h : s ≥ m.lim
    · rw [if_pos h]
      exact .inl ⟨z, rfl, fun i h1 h2 h3 => by omega⟩
    rw [if_neg h]
    obtain ⟨z', e⟩ := inW (m.text.getD s 0) z 12 true
    rw [show m.code.size = 12 + 2 by rw [hc]; rfl, hc, e]
    cases hw : Sre.isWordUni (m.text.getD s 0)
    · rcases adm hc f (s + 1) z' with ⟨z2, e2, h2⟩ | ⟨z2, i, e2, h2⟩
      · refine .inl ⟨z2, e2, fun i h1 h3 h4 => ?_⟩
        by_cases hi : i = s
        · rw [hi]; exact hw
        · exact h2 i (by omega) h3 (by omega)
      · exact .inr ⟨z2, i, e2, by omega, h2.2.1, h2.2.2⟩
    · exact .inr ⟨z', s, rfl, Nat.le_refl _, by omega, hw⟩

theorem noFirst : ∀ m : M, m.code = WORDC → ¬ (!m.hasFirstSet) = true := fun m h => by unfold M.hasFirstSet; rw [h]; decide

def hasWord (T : Array Nat) : Bool := T.any Sre.isWordUni
theorem hasWord_iff : hasWord T = true ↔ ∃ i, i < T.size ∧ Sre.isWordUni (T.getD i 0) = true := by
  unfold hasWord
  rw [Array.any_eq_true]
  constructor
  · rintro ⟨i, hi, h⟩; exact ⟨i, hi, by simpa [Array.getD, hi] using h⟩
  · rintro ⟨i, hi, h⟩; exact ⟨i, hi, by simpa [Array.getD, hi] using h⟩

theorem search_word (T : Array Nat) : (hasWord T = false ∧ ∃ c : M, c.answer = some false ∧ c.frames = [] ∧ c.outcome = none ∧ Sre.forSearch WORDC T 0 0 T.size false = c) ∨
    (hasWord T = true ∧ ∃ (c : M) (i : Nat) (z : Seen), i < T.size ∧ Sre.forSearch WORDC T 0 0 T.size false = { c with seen := z } ∧ Run 10 c fun m => m.answer = some true ∧ m.frames = [] ∧ m.outcome = none ∧ m.start = i ∧ m.handed = i + 1) := by
  unfold Sre.forSearch
  by_cases h0 : T.size < 1
  · left
    refine ⟨?_, ?_⟩
    · cases h : hasWord T
      · rfl
      · obtain ⟨i, hi, _⟩ := hasWord_iff.mp h; omega
    · show ∃ c : M, c.answer = some false ∧ c.frames = [] ∧ c.outcome = none ∧ (if (decide (0 > T.size) || decide (T.size - 0 < 1)) = true then _ else _) = c
      have hc : (decide (0 > T.size) || decide (T.size - 0 < 1)) = true := by
        rw [Bool.or_eq_true]; exact .inr (decide_eq_true (by omega))
      rw [if_pos hc]
      exact ⟨_, rfl, rfl, rfl, rfl⟩
  · show (_ ∧ ∃ c : M, c.answer = some false ∧ c.frames = [] ∧ c.outcome = none ∧ (if (decide (0 > T.size) || decide (T.size - 0 < 1)) = true then _ else M.attemptFrom { rs WORDC T T.size 0 8 0 0 true #[] (-1) (-1) #[] none [] 0 none with lastStart := T.size, seen := ({} : Seen).add 14 } 0 true) = c) ∨
      (_ ∧ ∃ (c : M) (i : Nat) (z : Seen), i < T.size ∧ (if (decide (0 > T.size) || decide (T.size - 0 < 1)) = true then _ else M.attemptFrom { rs WORDC T T.size 0 8 0 0 true #[] (-1) (-1) #[] none [] 0 none with lastStart := T.size, seen := ({} : Seen).add 14 } 0 true) = { c with seen := z } ∧ _)
    have hc : ¬ (decide (0 > T.size) || decide (T.size - 0 < 1)) = true := by
      rw [Bool.or_eq_true]; rintro (h | h) <;> have := of_decide_eq_true h <;> omega
    rw [if_neg hc]
    unfold M.attemptFrom
    rw [if_neg (noFirst _ rfl)]
    rcases adm (m := { rs WORDC T T.size 0 8 0 0 true #[] (-1) (-1) #[] none [] 0 none with lastStart := T.size, seen := ({} : Seen).add 14 }) rfl (T.size + 1 - 0) 0 (({} : Seen).add 14) with ⟨z', e, h⟩ | ⟨z', i, e, h1, h2, h3⟩
    · left
      refine ⟨?_, ?_⟩
      · cases hw : hasWord T
        · rfl
        · obtain ⟨i, hi, h'⟩ := hasWord_iff.mp hw
          rw [show Sre.isWordUni (T.getD i 0) = false from h i (by omega) hi (by omega)] at h'; simp at h'
      · simp only at e ⊢
        rw [e]
        exact ⟨_, rfl, rfl, rfl, rfl⟩
    · right
      refine ⟨hasWord_iff.mpr ⟨i, h2, h3⟩, ?_⟩
      simp only at e ⊢
      rw [e]
      refine ⟨{ rs WORDC T T.size i 8 i i true #[] (-1) (-1) #[] none [{ wait := .nextStart, pc := 8, pos := i, outermost := true }] 1 none with lastStart := T.size }, i, z', h2, ?_, ?_⟩
      · show M.attempt _ _ _ _ _ = _
        unfold M.attempt
        rw [if_neg (by show ¬ (0 + 1 + 0 > 16777216); omega)]
        rfl
      · refine Run.more (N := 0 + 1 + 1 + 1) ?_ (by omega)
        refine Run.step (c' := { rs WORDC T T.size i 13 (i + 1) i true #[] (-1) (-1) #[] none [{ wait := .nextStart, pc := 8, pos := i, outermost := true }] 1 none with lastStart := T.size }) (fun z => ?_) ?_
        · rw [step_exec rfl rfl (show (8 : Nat) < 14 by decide)]
          obtain ⟨z1, e⟩ := exec_one (m := { rs WORDC T T.size i 8 i i true #[] (-1) (-1) #[] none [{ wait := .nextStart, pc := 8, pos := i, outermost := true }] 1 none with lastStart := T.size, seen := z }) (.inr (.inr rfl))
          rw [e, if_neg (Nat.not_le.mpr h2)]
          have ha : ∃ z', accepts WORDC 8 (T.getD i 0) z1 = .ok (true, z') := by
            show ∃ z', (do if ← category 14 (T.getD i 0) then _ else _ : Except String (Bool × Seen)) = _
            rw [show category 14 (T.getD i 0) = .ok true by show Except.ok (Sre.isWordUni (T.getD i 0) != false) = _; rw [show Sre.isWordUni (T.getD i 0) = true from h3]; rfl]
            exact ⟨_, rfl⟩
          obtain ⟨z2, e2⟩ := ha
          refine ⟨z2, ?_⟩
          show (match accepts WORDC 8 (T.getD i 0) z1 with | .error why => _ | .ok (false, seen) => _ | .ok (true, seen) => _) = _
          rw [e2]
          rfl
        refine Run.step (c' := { rs WORDC T T.size i 13 (i + 1) (i + 1) true #[] (-1) (-1) #[] none [{ wait := .nextStart, pc := 8, pos := i, outermost := true }] 1 (some true) with lastStart := T.size }) (fun z => ⟨z.add 1, ?_⟩) ?_
        · rw [step_exec rfl rfl (show (13 : Nat) < 14 by decide)]
          have e : ({ rs WORDC T T.size i 13 (i + 1) i true #[] (-1) (-1) #[] none [{ wait := .nextStart, pc := 8, pos := i, outermost := true }] 1 none with lastStart := T.size, seen := z } : M).word 0 = 1 := rfl
          unfold M.exec
          simp only [e]
          show (if (true && (false && _ || false && _)) = true then _ else _) = _
          rw [if_neg (by simp)]
          rfl
        refine Run.step (c' := { rs WORDC T T.size i 8 i (i + 1) true #[] (-1) (-1) #[] none [] 0 (some true) with lastStart := T.size }) (fun z => ⟨z, ?_⟩) (Run.now ⟨rfl, rfl, rfl, rfl, rfl⟩)
        rw [step_frame (yes := true) rfl rfl rfl]
        rfl
end Mine
end
section
open PySem
set_option Elab.async false
set_option linter.unusedVariables false
namespace Mine

/-- tokens -/
inductive Tk where
  | lp | rp | neg
  | col (c : List Nat)
  | op (w : List Nat)
  | term (t : List Nat)
deriving DecidableEq, Repr

/-- nodes -/
inductive Nd where
  | t (s : List Nat)
  | col (c : List Nat) (n : Nd)
  | and (l : List Nd)
  | or (l : List Nd)
  | not (n : Nd) (l : List Nd)

def cAND : List Nat := [65, 78, 68]
def cOR : List Nat := [79, 82]
def cNOT : List Nat := [78, 79, 84]

section
variable (toks : List Tk)

/-- one operand; orF: what stands in brackets -/
def atomF (orF : Nat → Option Nd × Nat) (p : Nat) : (Option Nd × Bool) × Nat :=
  let neg1 := toks[p]? == some .neg
  let p1 := if neg1 then p + 1 else p
  let cs : Option (List Nat) := match toks[p1]? with
    | some (.col c) => some c
    | _ => none
  let p2 := if cs.isSome then p1 + 1 else p1
  let neg2 := cs.isSome && toks[p2]? == some .neg
  let p3 := if neg2 then p2 + 1 else p2
  let fin (nd : Option Nd) (q : Nat) : (Option Nd × Bool) × Nat := ((match nd, cs with
    | some nd, some c => if c = [] then some nd else some (.col c nd)
    | nd, _ => nd, neg1 || neg2), q)
  match toks[p3]? with
  | some (.term t) => fin (some (.t t)) (p3 + 1)
  | some .lp =>
    let (nd, q) := orF (p3 + 1)
    fin nd (if toks[q]? == some .rp then q + 1 else q)
  | _ => ((none, false), p3)

def notLoop (orF : Nat → Option Nd × Nat) : Nat → Option Nd → Nat → Option Nd × Nat
  | 0, nd, p => (nd, p)
  | f + 1, nd, p =>
    if toks[p]? == some (.op cNOT) then
      let ((r, _), q) := atomF toks orF (p + 1)
      notLoop orF f (match nd, r with
        | some nd, some r => some (.not nd [r])
        | nd, _ => nd) q
    else (nd, p)
def notF (orF : Nat → Option Nd × Nat) (p : Nat) : (Option Nd × Bool) × Nat :=
  let ((nd, neg), q) := atomF toks orF p
  let (nd', q') := notLoop toks orF (toks.length + 1) nd q
  ((nd', neg), q')

def andLoop (orF : Nat → Option Nd × Nat) : Nat → List Nd → List Nd → Nat → (List Nd × List Nd) × Nat
  | 0, ps, ns, p => ((ps, ns), p)
  | f + 1, ps, ns, p =>
    match toks[p]? with
    | some (.op w) => if w = cOR then ((ps, ns), p) else andLoop orF f ps ns (p + 1)
    | some .rp => ((ps, ns), p)
    | none => ((ps, ns), p)
    | _ =>
      let ((nd, neg), q) := notF toks orF p
      match nd with
      | some nd => if neg then andLoop orF f ps (ns ++ [nd]) q else andLoop orF f (ps ++ [nd]) ns q
      | none => andLoop orF f ps ns q
def andF (orF : Nat → Option Nd × Nat) (p : Nat) : Option Nd × Nat :=
  let ((ps, ns), q) := andLoop toks orF (toks.length + 1) [] [] p
  (match ps with
    | [] => none
    | [x] => some (if ns = [] then x else .not x ns)
    | _ => some (if ns = [] then .and ps else .not (.and ps) ns), q)

def orLoop (orF : Nat → Option Nd × Nat) : Nat → List (Option Nd) → Nat → List (Option Nd) × Nat
  | 0, l, p => (l, p)
  | f + 1, l, p =>
    if toks[p]? == some (.op cOR) then
      let (nd, q) := andF toks orF (p + 1)
      orLoop orF f (l ++ [nd]) q
    else (l, p)
def orStep (orF : Nat → Option Nd × Nat) (p : Nat) : Option Nd × Nat :=
  let (nd, q) := andF toks orF p
  let (l, q') := orLoop toks orF (toks.length + 1) [nd] q
  (match l.filterMap id with
    | [] => none
    | [x] => some x
    | l => some (.or l), q')
def orD : Nat → Nat → Option Nd × Nat
  | 0, p => (none, p)
  | d + 1, p => orStep toks (orD d) p

def transLoop (d : Nat) : Nat → List Nd → Nat → List Nd
  | 0, l, p => l
  | f + 1, l, p =>
    if p < toks.length then
      let (nd, q) := orD toks d p
      transLoop d f (match nd with
        | some nd => l ++ [nd]
        | none => l) (if q = p then p + 1 else q)
    else l
end

def opens (toks : List Tk) : Nat := (toks.filter (· == .lp)).length

mutual
/-- a node as a text -/
def renderN (nested : Bool) : Nd → List Nat
  | .t s => s
  | .col c n => let s := c ++ 58 :: 32 :: renderN true n; if nested then 40 :: s ++ [41] else s
  | .and l => let s := renderJ [32, 65, 78, 68, 32] l; if nested then 40 :: s ++ [41] else s
  | .or l => let s := renderJ [32, 79, 82, 32] l; if nested then 40 :: s ++ [41] else s
  | .not n l => let s := renderN true n ++ [32, 78, 79, 84, 32] ++ renderJ [32, 78, 79, 84, 32] l; if nested then 40 :: s ++ [41] else s
def renderJ (sep : List Nat) : List Nd → List Nat
  | [] => []
  | [x] => renderN true x
  | x :: y :: l => renderN true x ++ sep ++ renderJ sep (y :: l)
end

/-- brackets that fit; none deeper than 32 -/
def balLoop : List Tk → Nat → Nat → List Tk
  | [], depth, _ => List.replicate depth .rp
  | .lp :: r, depth, dropped => if depth = 32 then balLoop r depth (dropped + 1) else .lp :: balLoop r (depth + 1) dropped
  | .rp :: r, depth, dropped => if dropped ≠ 0 then balLoop r depth (dropped - 1) else if depth = 0 then balLoop r depth dropped else .rp :: balLoop r (depth - 1) dropped
  | x :: r, depth, dropped => x :: balLoop r depth dropped
def balance (l : List Tk) : List Tk := balLoop l 0 0

/-- the query of the tokens -/
def transl (toks : List Tk) : List Nat :=
  match transLoop toks (opens toks + 1) toks.length [] 0 with
  | [] => [34, 34]
  | [x] => renderN false x
  | l => renderN false (.and l)

/-- the names that a column's sign gives -/
def colNames (split : List Nat → List (List Nat)) (x : List Nat) (sp : List (Option (Nat × Nat))) : List (List Nat) :=
  match sp with
  | some (b, e) :: _ => [x.extract b e]
  | [none, some (b, e)] => split (x.extract b e)
  | _ => []

/-- the second pattern at p: end, phrase, word, star -/
def termRes (x : List Nat) (p : Nat) : Nat × List (Option (Nat × Nat)) :=
  let T := x.toArray
  if T.getD p 0 = 34 then
    let q := p + 1 + nQ T (p + 1)
    ((phraseEnd T q).1, [some (p + 1, q), none, starSpan (phraseEnd T q).1 (phraseEnd T q).2])
  else (p + nU T p, wordRes T p)

/-- one sign of the text: the tokens so far, the place -/
def scanStep (split : List Nat → List (List Nat)) (esc : List Nat → List Nat) (cols : List (List Nat)) (x : List Nat) (p : Nat) (acc : List Tk) : List Tk × Nat :=
  let c := x.getD p 0
  if Unicode.isSpace c then (acc, p + 1)
  else if c = 40 then (acc ++ [.lp], p + 1)
  else if c = 41 then (acc ++ [.rp], p + 1)
  else if c = 45 ∧ p + 1 < x.length ∧ ¬ Unicode.isSpace (x.getD (p + 1) 0) then (acc ++ [.neg], p + 1)
  else
    let rest : List Tk × Nat :=
      match termRes x p with
      | (e, sp) =>
        match sp with
        | [ph, w, st] =>
          let word := match w with
            | some (b, e) => x.extract b e
            | none => []
          if ph = none ∧ st = none ∧ (word = cAND ∨ word = cOR ∨ word = cNOT) then
            ((if word = cNOT ∧ acc.getLast? = some (.op cAND) then acc.dropLast else acc) ++ [.op word], e)
          else
            let text := match ph with
              | some (b, e) => x.extract b e
              | none => word
            (if hasWord text.toArray then acc ++ [.term (34 :: text ++ 34 :: (if st.isSome then [42] else []))] else acc, e)
        | _ => (acc, p + 1)
    match colRes x.toArray p with
    | some (e, sp) =>
      let names := colNames split x sp
      if names ≠ [] ∧ names.all (cols.contains ·) then
        let quoted := names.map fun n => 34 :: esc n ++ [34]
        (acc ++ [.col (match sp with
          | some _ :: _ => quoted.headD []
          | _ => 123 :: joinL [32] quoted ++ [125])], e)
      else rest
    | none => rest
where joinL (sep : List Nat) : List (List Nat) → List Nat
  | [] => []
  | [x] => x
  | x :: rest => x ++ sep ++ joinL sep rest
def scanLoop (split : List Nat → List (List Nat)) (esc : List Nat → List Nat) (cols : List (List Nat)) (x : List Nat) : Nat → Nat → List Tk → List Tk
  | 0, _, acc => acc
  | f + 1, p, acc => if p < x.length then
      let (acc', p') := scanStep split esc cols x p acc
      scanLoop split esc cols x f p' acc'
    else acc
def scan (split : List Nat → List (List Nat)) (esc : List Nat → List Nat) (cols : List (List Nat)) (x : List Nat) : List Tk := balance (scanLoop split esc cols x x.length 0 [])
def parseS (split : List Nat → List (List Nat)) (esc : List Nat → List Nat) (cols : List (List Nat)) (x : List Nat) : List Nat := transl (scan split esc cols x)
end Mine
end
section
open PySem
set_option Elab.async false
set_option linter.unusedVariables false
namespace Mine
/-- the trees of the law -/
inductive LT where
  | t (s : List Nat)
  | w (s st : List Nat)
  | col (ns : List (List Nat)) (t : LT)
  | and (l : List LT)
  | or (l : List LT)
  | not (t : LT) (l : List LT)
def WORDS : List (List Nat) := [[97], [98, 99], [100, 45, 101], [111, 114], [105, 116, 39, 115], [120, 58, 121], [57], [110, 111, 116]]
def PHRASES : List (List Nat) := [[97, 32, 98], [79, 82], [40, 122], [45, 113], [65, 78, 68], [32, 32, 117, 32, 32, 118, 32]]
def NAMES : List (List Nat) := [[107], [108, 108], [109]]
def STARS : List (List Nat) := [[42], []]
mutual
/-- what _law_tree gives -/
def goodT : Nat → LT → Prop
  | _, .t s => ∃ p ∈ PHRASES, ∃ st ∈ STARS, s = 34 :: p ++ 34 :: st
  | _, .w s st => s ∈ WORDS ∧ st ∈ STARS
  | 0, _ => False
  | d + 1, .col ns t => (ns.length = 1 ∨ ns.length = 2) ∧ (∀ n ∈ ns, n ∈ NAMES) ∧ goodT d t
  | d + 1, .and l => (l.length = 2 ∨ l.length = 3) ∧ goodL d l
  | d + 1, .or l => (l.length = 2 ∨ l.length = 3) ∧ goodL d l
  | d + 1, .not t l => goodT d t ∧ (l.length = 1 ∨ l.length = 2) ∧ goodL d l
def goodL : Nat → List LT → Prop
  | _, [] => True
  | d, x :: l => goodT d x ∧ goodL d l
end
end Mine
end
section
open PySem PySem.W PyProof.Rows PySem.Calls
set_option Elab.async false
set_option maxRecDepth 100000
namespace Mine

inductive V where
  | none
  | bool (b : Bool)
  | int (i : Int)
  | str (s : List Nat)
  | tup (xs : List V)
  | loc (i : Nat)
  | fl (xs : List Int)
  | rng (n : Int)
  | slc (l u : Option Int)
  | mat (s : List Nat) (pat : Addr) (sp : List Int)
  | obj (a : Addr)

inductive Cell where
  | list (xs : List V)
  | dict (fs : List (Str × V))
  | inst (C : Addr) (j : Nat)
  | set (xs : List (List Nat))

/-- what stands below the call: the program, the heap at its start, the code tables that may grow, the two namespaces -/
structure Cx where
  prog : Program
  w : World
  h₀ : Heap
  T : List Addr
  mg : Str → Option Value
  mb : Str → Option Value
  K : Frag
  kin : K.In h₀
  kT : ∀ a o, K.lookup a = some o → a ∉ T
  g : h₀.Ns mainGlobals mg
  gT : mainGlobals ∉ T
  b : h₀.Ns builtinsNs mb
  bT : builtinsNs ∉ T
  nolimit : h₀.NoLimit
  sT : cStatics ∉ T

/-- what no step of ours changes -/
def frozen (o : Obj) : Bool := match o.data with
  | .seq .. => o.cls == .type "tuple"
  | .fields .. => o.cls == .type "range" || o.cls == .type "slice" || o.cls == .type "re.Match"
  | _ => false

mutual
def Den (X : Cx) (η : List Addr) (h : Heap) : V → Value → Prop
  | .none, cv => cv = .none
  | .bool b, cv => cv = .bool b
  | .int i, cv => ∃ t, cv = .int i t
  | .str s, cv => ∃ t, cv = .str ⟨s.toArray⟩ t
  | .tup xs, cv => ∃ a vs k, cv = .ref a ∧ h.get? a = some { cls := .type "tuple", data := .seq vs.toArray k } ∧ xs.length ≤ sizeLine ∧ DenL X η h xs vs
  | .loc i, cv => ∃ a, cv = .ref a ∧ η[i]? = some a
  | .fl xs, cv => ∃ a vs, cv = .ref a ∧ X.h₀.IsList a vs.toArray ∧ a ∉ X.T ∧ IntsAre vs xs
  | .rng n, cv => ∃ a t u v, cv = .ref a ∧ IsRange h a 0 n 1 t u v
  | .slc l u, cv => ∃ a l' u', cv = .ref a ∧ h.IsSlice a l' u' Option.none ∧ l'.map (·.1) = l ∧ u'.map (·.1) = u
  | .mat s pat sp, cv => ∃ a t p q l T its, cv = .ref a ∧ h.get? a = some { cls := .type "re.Match", data := .fields #[.str ⟨s.toArray⟩ t, .ref pat, p, q, l, .ref T] } ∧ h.IsTuple T its ∧ its = (sp.map rawInt).toArray
  | .obj a, cv => cv = .ref a ∧ ∃ o, X.K.lookup a = some o
def DenL (X : Cx) (η : List Addr) (h : Heap) : List V → List Value → Prop
  | [], vs => vs = []
  | x :: xs, vs => ∃ v vs', vs = v :: vs' ∧ Den X η h x v ∧ DenL X η h xs vs'
end

/-- an instance's dict, entry by entry -/
inductive FieldsAre (X : Cx) (η : List Addr) (h : Heap) : List (Str × V) → List DictEntry → Prop where
  | nil : FieldsAre X η h [] []
  | cons {x v fs e es t} : e.key = .str x t → Den X η h v e.val → FieldsAre X η h fs es → FieldsAre X η h ((x, v) :: fs) (e :: es)

def CellOk (X : Cx) (η : List Addr) (h : Heap) : Cell → Obj → Prop
  | .list xs, o => ∃ vs n, o = { cls := .type "list", data := .seq vs.toArray n } ∧ xs.length ≤ sizeLine ∧ DenL X η h xs vs
  | .dict fs, o => ∃ es n, o = dictOf es n ∧ FieldsAre X η h fs es ∧ (fs.map (·.1)).Nodup
  | .inst C j, o => ∃ d, o = instObj C d ∧ η[j]? = some d
  | .set xs, o => ∃ n, n < scanBound ∧ Obj.SetObjOf (PySem.strKind X.prog X.w) o (fun k => xs.contains k.cps.toList) n

structure Rel (X : Cx) (η : List Addr) (H : List Cell) (h : Heap) : Prop where
  low : ∀ b o, X.h₀.get? b = some o → b ∉ X.T → h.get? b = some o
  tab : ∀ b ∈ X.T, ∃ ps more, (X.h₀.get? b = some (PySem.W.X.tableObj ps) ∧ TriplesOk (ps ++ more).toList) ∧ h.get? b = some (PySem.W.X.tableObj (ps ++ more))
  len : η.length = H.length
  nd : η.Nodup
  hi : ∀ a ∈ η, X.h₀.get? a = none
  cells : ∀ (i : Nat) (c : Cell), H[i]? = some c → ∃ a o, η[i]? = some a ∧ h.get? a = some o ∧ CellOk X η h c o

abbrev Loc := List (Str × Option V)

structure EnvOk (X : Cx) (env : Env) (η : List Addr) (m : Loc) (h : Heap) : Prop where
  kind : env.scope.kind = .function
  glob : env.globals = mainGlobals
  blt : env.builtins = builtinsNs
  kinds : ∀ x ov, (x, ov) ∈ m → x ≠ "__debug__" ∧ x ≠ "__classdict__" ∧ (env.kindOf x = some .local ∨ ((env.kindOf x = some .cell ∨ env.kindOf x = some .free) ∧ ∃ c, env.cells.lookup x = some c))
  ns : ∃ mc, h.Ns env.locals mc ∧ ∀ x v, (x, some v) ∈ m → env.kindOf x = some .local → ∃ cv, mc x = some cv ∧ Den X η h v cv
  cl : ∀ x v c, (x, some v) ∈ m → env.kindOf x ≠ some .local → env.cells.lookup x = some c → ∃ cv, h.IsCell c (some cv) ∧ Den X η h v cv
  cellEx : ∀ p ∈ env.cells, ∃ ov, h.IsCell p.2 ov
  hiL : X.h₀.get? env.locals = none
  nL : env.locals ∉ η
  hiC : ∀ p ∈ env.cells, X.h₀.get? p.2 = none ∧ p.2 ∉ η ∧ p.2 ≠ env.locals
  ndC : ∀ p ∈ env.cells, ∀ q ∈ env.cells, p.2 = q.2 → p.1 = q.1
  ndm : (m.map (·.1)).Nodup

structure Adv (X : Cx) (env : Env) (η : List Addr) (s : Shared) (η' : List Addr) (s' : Shared) : Prop where
  keep : ∀ b o, s.heap.get? b = some o → b ∉ η → b ≠ env.locals → b ∉ env.cells.map (·.2) → b ∉ X.T → s'.heap.get? b = some o
  live : ∀ b o, s.heap.get? b = some o → ∃ o', s'.heap.get? b = some o'
  pre : η <+: η'
  new : ∀ a ∈ η', a ∈ η ∨ s.heap.get? a = none
  gsz : s.gens.size ≤ s'.gens.size
  gen : ∀ (i : Nat) y, s.gens[i]? = some y → s'.gens[i]? = some y
  bare : ∀ (i : Nat) y, s.gens.size ≤ i → s'.gens[i]? = some y → y.bare = true
  os : s'.os = s.os

structure Room (A : Around) (n : Nat) : Prop where
  handled : A.handled = none
  depth : A.depth + n < recursionLimit
  units : A.units + 8 * n + 16 < cLine

theorem Adv.refl (X env η s) : Adv X env η s η s :=
  ⟨fun _ _ e _ _ _ _ => e, fun _ o e => ⟨o, e⟩, List.prefix_refl _, fun _ h => .inl h, Nat.le_refl _, fun _ _ e => e,
   fun i y hi e => (by rw [Array.getElem?_eq_none hi] at e; cases e), rfl⟩

theorem Adv.trans {X env η₁ s₁ η₂ s₂ η₃ s₃} (a : Adv X env η₁ s₁ η₂ s₂) (b : Adv X env η₂ s₂ η₃ s₃) : Adv X env η₁ s₁ η₃ s₃ where
  keep := fun c o e h1 h2 h3 h4 => b.keep c o (a.keep c o e h1 h2 h3 h4) (fun hc => by
    rcases a.new c hc with h | h
    · exact h1 h
    · rw [h] at e; cases e) h2 h3 h4
  live := fun c o e => let ⟨o', e'⟩ := a.live c o e; b.live c o' e'
  pre := a.pre.trans b.pre
  new := fun c hc => by
    rcases b.new c hc with h | h
    · exact a.new c h
    · cases q : s₁.heap.get? c with
      | none => exact .inr rfl
      | some o => obtain ⟨o', e'⟩ := a.live c o q; rw [h] at e'; cases e'
  gsz := Nat.le_trans a.gsz b.gsz
  gen := fun i y e => b.gen i y (a.gen i y e)
  bare := fun i y hi e => by
    rcases Nat.lt_or_ge i s₂.gens.size with h | h
    · have h' : ∃ z, s₂.gens[i]? = some z := ⟨_, Array.getElem?_eq_getElem h⟩
      obtain ⟨z, hz⟩ := h'
      have := b.gen i z hz
      rw [e] at this; cases this
      exact a.bare i y hi hz
    · exact b.bare i y h e
  os := b.os.trans a.os

theorem isTuple_of {h : Heap} {a its k} (e : h.get? a = some { cls := .type "tuple", data := .seq its k }) : h.IsTuple a its := ⟨_, e, rfl, _, rfl⟩
theorem isTuple_frozen {h : Heap} {a its} (t : h.IsTuple a its) : ∃ o, h.get? a = some o ∧ frozen o = true := by
  obtain ⟨o, e, hc, n, hd⟩ := t
  exact ⟨o, e, by unfold frozen; rw [hd, hc]; rfl⟩

theorem CellOk.notFrozen {X η h c o} (k : CellOk X η h c o) : frozen o = false := by
  cases c with
  | list xs => obtain ⟨vs, n, rfl, _⟩ := k; rfl
  | dict fs => obtain ⟨_, _, rfl, _⟩ := k; rfl
  | inst C j => obtain ⟨_, rfl, _⟩ := k; rfl
  | set xs => obtain ⟨_, _, _, es, ep, t, hd, _⟩ := k; unfold frozen; rw [hd]

theorem Rel.at_η {X η H h} (r : Rel X η H h) {a : Addr} (ha : a ∈ η) : ∃ (i : Nat) (c : Cell) (o : Obj), H[i]? = some c ∧ η[i]? = some a ∧ h.get? a = some o ∧ CellOk X η h c o := by
  obtain ⟨i, hi, rfl⟩ := List.getElem_of_mem ha
  have hi' : i < H.length := r.len ▸ hi
  obtain ⟨a', o, e1, e2, e3⟩ := r.cells i H[i] (List.getElem?_eq_getElem hi')
  rw [List.getElem?_eq_getElem hi] at e1; cases e1
  exact ⟨i, H[i], o, List.getElem?_eq_getElem hi', List.getElem?_eq_getElem hi, e2, e3⟩

theorem Rel.notFz {X η H h} (r : Rel X η H h) {a : Addr} {o} (e : h.get? a = some o) (f : frozen o = true) : a ∉ η := fun ha => by
  obtain ⟨_, _, o', _, _, e', k⟩ := r.at_η ha
  rw [e] at e'; cases e'
  rw [k.notFrozen] at f; cases f

theorem Rel.fzT {X η H h} (r : Rel X η H h) {a : Addr} {o} (e : h.get? a = some o) (f : frozen o = true) : a ∉ X.T := fun ha => by
  obtain ⟨ps, more, _, e'⟩ := r.tab a ha
  rw [e] at e'; cases e'; cases f

theorem EnvOk.fzL {X env η m h} (r : EnvOk X env η m h) {a : Addr} {o} (e : h.get? a = some o) (f : frozen o = true) : a ≠ env.locals := fun q => by
  subst q
  obtain ⟨mc, ⟨o', es, ep, e', hd, _⟩, _⟩ := r.ns
  rw [e] at e'; cases e'
  unfold frozen at f; rw [hd] at f; cases f

theorem EnvOk.fzC {X env η m h} (r : EnvOk X env η m h) {a : Addr} {o} (e : h.get? a = some o) (f : frozen o = true) : a ∉ env.cells.map (·.2) := fun q => by
  obtain ⟨p, hp, rfl⟩ := List.mem_map.mp q
  obtain ⟨ov, o', e', hd⟩ := r.cellEx p hp
  rw [e] at e'; cases e'
  unfold frozen at f; rw [hd] at f; cases f

/-- a heap that keeps what is no list, dict, frame or table of ours -/
structure Keeps' (X : Cx) (η : List Addr) (h : Heap) (η' : List Addr) (h' : Heap) : Prop where
  fz : ∀ a o, h.get? a = some o → frozen o = true → h'.get? a = some o
  pre : η <+: η'

theorem Keeps'.tup {X η h η' h'} (k : Keeps' X η h η' h') {a its} (t : h.IsTuple a its) : h'.IsTuple a its := by
  obtain ⟨o, e, f⟩ := isTuple_frozen t
  obtain ⟨o', e', r⟩ := t
  rw [e] at e'; cases e'
  exact ⟨o, k.fz _ _ e f, r⟩

mutual
theorem Den.keeps {X η h η' h'} (k : Keeps' X η h η' h') : ∀ (v : V) {cv : Value}, Den X η h v cv → Den X η' h' v cv
  | .none, _, d => by unfold Den at d ⊢; exact d
  | .bool b, _, d => by unfold Den at d ⊢; exact d
  | .int i, _, d => by unfold Den at d ⊢; exact d
  | .str s, _, d => by unfold Den at d ⊢; exact d
  | .tup xs, _, d => by
    unfold Den at d ⊢
    obtain ⟨a, vs, j, e, t, z, l⟩ := d
    exact ⟨a, vs, j, e, k.fz _ _ t rfl, z, DenL.keeps k xs l⟩
  | .loc i, _, d => by
    unfold Den at d ⊢
    obtain ⟨a, e, hi⟩ := d
    refine ⟨a, e, ?_⟩
    obtain ⟨t, ht⟩ := k.pre
    rw [← ht, List.getElem?_append_left (List.getElem?_eq_some_iff.mp hi).1]
    exact hi
  | .fl xs, _, d => by unfold Den at d ⊢; exact d
  | .rng n, _, d => by
    unfold Den at d ⊢
    obtain ⟨a, t, u, v, e, i⟩ := d
    exact ⟨a, t, u, v, e, k.fz _ _ i rfl⟩
  | .slc l u, _, d => by
    unfold Den at d ⊢
    obtain ⟨a, l', u', e, ⟨o, ho, hc, hd⟩, el, eu⟩ := d
    exact ⟨a, l', u', e, ⟨o, k.fz _ _ ho (by unfold frozen; rw [hd, hc]; rfl), hc, hd⟩, el, eu⟩
  | .mat s pat sp, _, d => by
    unfold Den at d ⊢
    obtain ⟨a, t, p, q, l, T, its, e, g, tt, es⟩ := d
    exact ⟨a, t, p, q, l, T, its, e, k.fz _ _ g rfl, k.tup tt, es⟩
  | .obj a, _, d => by unfold Den at d ⊢; exact d
theorem DenL.keeps {X η h η' h'} (k : Keeps' X η h η' h') : ∀ (xs : List V) {vs : List Value}, DenL X η h xs vs → DenL X η' h' xs vs
  | [], _, d => by unfold DenL at d ⊢; exact d
  | x :: xs, _, d => by
    unfold DenL at d ⊢
    obtain ⟨v, vs', e, d1, d2⟩ := d
    exact ⟨v, vs', e, Den.keeps k x d1, DenL.keeps k xs d2⟩
end

theorem FieldsAre.keeps {X η h η' h'} (k : Keeps' X η h η' h') {fs es} (f : FieldsAre X η h fs es) : FieldsAre X η' h' fs es := by
  induction f with
  | nil => exact .nil
  | cons e d _ ih => exact .cons e (d.keeps k) ih

theorem CellOk.keeps {X η h η' h'} (k : Keeps' X η h η' h') {c o} (x : CellOk X η h c o) : CellOk X η' h' c o := by
  cases c with
  | list xs => obtain ⟨vs, n, e, l, d⟩ := x; exact ⟨vs, n, e, l, DenL.keeps k xs d⟩
  | dict fs => obtain ⟨es, n, e, f, nd⟩ := x; exact ⟨es, n, e, f.keeps k, nd⟩
  | inst C j =>
    obtain ⟨d, e, hi⟩ := x
    refine ⟨d, e, ?_⟩
    obtain ⟨t, ht⟩ := k.pre
    rw [← ht, List.getElem?_append_left (List.getElem?_eq_some_iff.mp hi).1]
    exact hi
  | set xs => exact x

theorem Adv.keeps' {X env η s η' s' m H} (a : Adv X env η s η' s') (r : Rel X η H s.heap) (e : EnvOk X env η m s.heap) : Keeps' X η s.heap η' s'.heap where
  fz := fun b o ho f => a.keep b o ho (r.notFz ho f) (e.fzL ho f) (e.fzC ho f) (r.fzT ho f)
  pre := a.pre

theorem Adv.den {X env η s η' s' m H v cv} (a : Adv X env η s η' s') (r : Rel X η H s.heap) (e : EnvOk X env η m s.heap) (d : Den X η s.heap v cv) : Den X η' s'.heap v cv := Den.keeps (a.keeps' r e) v d
theorem Adv.denL {X env η s η' s' m H v cv} (a : Adv X env η s η' s') (r : Rel X η H s.heap) (e : EnvOk X env η m s.heap) (d : DenL X η s.heap v cv) : DenL X η' s'.heap v cv := DenL.keeps (a.keeps' r e) v d

/-- the triple: from a state that lies as (m, H) say, t ends, and Q holds of what it gives and of the new (m, H) -/
def TriP {α β : Type} (X : Cx) (n : Nat) (env : Env) (D : List Addr → Heap → β → α → Prop) (P : List Addr → Heap → Prop) (m : Loc) (H : List Cell) (t : Sem α) (Q : β → Loc → List Cell → Prop) : Prop :=
  ∀ (A : Around) (η : List Addr) (s : Shared) (C : α → Shared → Prop) (E : Value → Shared → Prop),
    Room A n → Rel X η H s.heap → EnvOk X env η m s.heap → P η s.heap →
    (∀ b m' H' a η' s', Q b m' H' → D η' s'.heap b a → Rel X η' H' s'.heap → EnvOk X env η' m' s'.heap → Adv X env η s η' s' → C a s') →
    wpAny (model X.prog X.w) A t C E s

/-- a value -/
abbrev TE (X : Cx) (n : Nat) (env : Env) (m : Loc) (H : List Cell) (t : Sem Value) (Q : V → Loc → List Cell → Prop) : Prop :=
  TriP X n env (fun η h v cv => Den X η h v cv) (fun _ _ => True) m H t Q
/-- values -/
abbrev TL (X : Cx) (n : Nat) (env : Env) (m : Loc) (H : List Cell) (t : Sem (List Value)) (Q : List V → Loc → List Cell → Prop) : Prop :=
  TriP X n env (fun η h v cv => DenL X η h v cv) (fun _ _ => True) m H t Q
/-- a truth -/
abbrev TB (X : Cx) (n : Nat) (env : Env) (m : Loc) (H : List Cell) (t : Sem Bool) (Q : Bool → Loc → List Cell → Prop) : Prop :=
  TriP X n env (fun _ _ b a => b = a) (fun _ _ => True) m H t Q
abbrev TU (X : Cx) (n : Nat) (env : Env) (m : Loc) (H : List Cell) (t : Sem Unit) (Q : Loc → List Cell → Prop) : Prop :=
  TriP X n env (fun _ _ (_ : Unit) _ => True) (fun _ _ => True) m H t (fun _ m H => Q m H)

inductive AF where
  | next | brk | cont
  | ret (v : V)
def DenF (X : Cx) (η : List Addr) (h : Heap) : AF → Flow → Prop
  | .next, f => f = .next
  | .brk, f => f = .brk
  | .cont, f => f = .cont
  | .ret v, f => ∃ cv, f = .ret cv ∧ Den X η h v cv
/-- a statement: it ends in one of four ways -/
structure FQ where
  nx : Loc → List Cell → Prop
  bk : Loc → List Cell → Prop
  ct : Loc → List Cell → Prop
  rt : V → Loc → List Cell → Prop
def FQ.at (N B K : Loc → List Cell → Prop) (R : V → Loc → List Cell → Prop) : AF → Loc → List Cell → Prop
  | .next => N
  | .brk => B
  | .cont => K
  | .ret v => R v
abbrev TS (X : Cx) (n : Nat) (env : Env) (m : Loc) (H : List Cell) (t : Sem Flow) (N B K : Loc → List Cell → Prop) (R : V → Loc → List Cell → Prop) : Prop :=
  TriP X n env (fun η h f a => DenF X η h f a) (fun _ _ => True) m H t (FQ.at N B K R)

/-- an operation on values at hand -/
abbrev T1 (X : Cx) (n : Nat) (env : Env) (m : Loc) (H : List Cell) (f : Value → Sem Value) (v : V) (Q : V → Loc → List Cell → Prop) : Prop :=
  ∀ a, TriP X n env (fun η h v cv => Den X η h v cv) (fun η h => Den X η h v a) m H (f a) Q
abbrev T1B (X : Cx) (n : Nat) (env : Env) (m : Loc) (H : List Cell) (f : Value → Sem Bool) (v : V) (Q : Bool → Loc → List Cell → Prop) : Prop :=
  ∀ a, TriP X n env (fun _ _ b c => b = c) (fun η h => Den X η h v a) m H (f a) Q
abbrev T2 (X : Cx) (n : Nat) (env : Env) (m : Loc) (H : List Cell) (f : Value → Value → Sem Value) (v u : V) (Q : V → Loc → List Cell → Prop) : Prop :=
  ∀ a b, TriP X n env (fun η h v cv => Den X η h v cv) (fun η h => Den X η h v a ∧ Den X η h u b) m H (f a b) Q
abbrev TN (X : Cx) (n : Nat) (env : Env) (m : Loc) (H : List Cell) (f : List Value → Sem Value) (vs : List V) (Q : V → Loc → List Cell → Prop) : Prop :=
  ∀ a, TriP X n env (fun η h v cv => Den X η h v cv) (fun η h => DenL X η h vs a) m H (f a) Q
end Mine
end
section
open PySem PySem.W PyProof.Rows PySem.Calls
set_option Elab.async false
set_option maxRecDepth 100000
set_option linter.unusedVariables false
namespace Mine

theorem Keeps'.ofExt {X η h h'} (k : ∀ b o, h.get? b = some o → h'.get? b = some o) : Keeps' X η h η h' :=
  ⟨fun a o e _ => k a o e, List.prefix_refl _⟩

theorem Rel.ext {X η H h h'} (r : Rel X η H h) (k : ∀ b o, h.get? b = some o → h'.get? b = some o) : Rel X η H h' where
  low := fun b o e n => k b o (r.low b o e n)
  tab := fun b hb => let ⟨ps, more, e1, e2⟩ := r.tab b hb; ⟨ps, more, e1, k _ _ e2⟩
  len := r.len
  nd := r.nd
  hi := r.hi
  cells := fun i c e => let ⟨a, o, e1, e2, e3⟩ := r.cells i c e; ⟨a, o, e1, k _ _ e2, e3.keeps (.ofExt k)⟩

theorem isCell_keeps {h h' : Heap} {c : Addr} {v : Option Value} (x : h.IsCell c v) (hk : ∀ o, h.get? c = some o → h'.get? c = some o) : h'.IsCell c v :=
  let ⟨o, ho, hd⟩ := x; ⟨o, hk o ho, hd⟩

/-- the frame stays where its own objects stay -/
theorem EnvOk.move {X env η m h η' h'} (e : EnvOk X env η m h) (K : Keeps' X η h η' h') (kL : ∀ o, h.get? env.locals = some o → h'.get? env.locals = some o)
    (kC : ∀ p ∈ env.cells, ∀ o, h.get? p.2 = some o → h'.get? p.2 = some o) (hn : ∀ a ∈ η', a ∈ η ∨ h.get? a = none) : EnvOk X env η' m h' where
  kind := e.kind
  glob := e.glob
  blt := e.blt
  kinds := e.kinds
  ns := let ⟨mc, ns, hv⟩ := e.ns; ⟨mc, ns.at' kL, fun x v hx hl => let ⟨cv, e1, d⟩ := hv x v hx hl; ⟨cv, e1, Den.keeps K v d⟩⟩
  cl := fun x v c hx hk hc => by
    obtain ⟨cv, ic, d⟩ := e.cl x v c hx hk hc
    refine ⟨cv, isCell_keeps ic (kC (x, c) ?_), Den.keeps K v d⟩
    exact mem_of_lookup hc
  cellEx := fun p hp => let ⟨ov, ic⟩ := e.cellEx p hp; ⟨ov, isCell_keeps ic (kC p hp)⟩
  hiL := e.hiL
  nL := fun ha => by
    rcases hn _ ha with h1 | h1
    · exact e.nL h1
    · obtain ⟨mc, ⟨o, _, _, ho, _⟩, _⟩ := e.ns
      rw [h1] at ho; cases ho
  hiC := fun p hp => ⟨(e.hiC p hp).1, fun ha => by
    rcases hn _ ha with h1 | h1
    · exact (e.hiC p hp).2.1 h1
    · obtain ⟨ov, o, ho, _⟩ := e.cellEx p hp
      exact absurd (h1.symm.trans ho) (by simp), (e.hiC p hp).2.2⟩
  ndC := e.ndC
  ndm := e.ndm
where
  mem_of_lookup {x : Str} {c : Addr} : ∀ {l : List (Str × Addr)}, l.lookup x = some c → (x, c) ∈ l
  | [], h => by cases h
  | (y, d) :: l, h => by
    rw [List.lookup_cons] at h
    split at h
    · rename_i hxy; cases h; rw [eq_of_beq hxy]; exact .head _
    · exact .tail _ (mem_of_lookup h)

theorem EnvOk.ext {X env η m h h'} (e : EnvOk X env η m h) (k : ∀ b o, h.get? b = some o → h'.get? b = some o) : EnvOk X env η m h' :=
  e.move (.ofExt k) (fun o => k _ o) (fun _ _ o => k _ o) fun _ ha => .inl ha

theorem Adv.ofExt {X env η s} {h' : Heap} {tk : Nat} (k : ∀ b o, s.heap.get? b = some o → h'.get? b = some o) : Adv X env η s η { s with heap := h', toks := tk } :=
  ⟨fun b o e _ _ _ _ => k b o e, fun b o e => ⟨o, k b o e⟩, List.prefix_refl _, fun _ h => .inl h, Nat.le_refl _, fun _ _ e => e,
   fun i y hi e => (by rw [show ({ s with heap := h', toks := tk } : Shared).gens = s.gens from rfl, Array.getElem?_eq_none hi] at e; cases e), rfl⟩

section
variable {α β γ δ : Type} {X : Cx} {n : Nat} {env : Env} {m : Loc} {H : List Cell}

theorem TriP.mono {D : List Addr → Heap → β → α → Prop} {P : List Addr → Heap → Prop} {t : Sem α} {Q Q' : β → Loc → List Cell → Prop} (h : TriP X n env D P m H t Q) (q : ∀ b m H, Q b m H → Q' b m H) : TriP X n env D P m H t Q' :=
  fun A η s C E R r e p k => h A η s C E R r e p fun b m' H' a η' s' hq => k b m' H' a η' s' (q _ _ _ hq)

/-- a value at hand -/
theorem TriP.pure {D : List Addr → Heap → β → α → Prop} {P : List Addr → Heap → Prop} {a : α} {b : β} {Q : β → Loc → List Cell → Prop} (d : ∀ η h, P η h → D η h b a) (q : Q b m H) : TriP X n env D P m H (pure a) Q :=
  fun _ η s _ _ _ r e p k => wpAny_pure (k b m H a η s q (d _ _ p) r e (.refl ..))

/-- a fresh value that stands in no heap -/
theorem TriP.tok {D : List Addr → Heap → β → α → Prop} {P : List Addr → Heap → Prop} {t : Sem α} {b : β} {Q : β → Loc → List Cell → Prop}
    (h : ∀ (A : Around) (s : Shared) (C : α → Shared → Prop) E η, P η s.heap → (∀ a tk, D η s.heap b a → C a { s with toks := tk }) → wpAny (model X.prog X.w) A t C E s) (q : Q b m H) : TriP X n env D P m H t Q :=
  fun A η s C E _ r e p k => h A s C E η p fun a tk d => k b m H a η { s with toks := tk } q d r e (Adv.ofExt fun _ _ x => x)

inductive LkL : Loc → Str → V → Prop where
  | here {x v r} : LkL ((x, some v) :: r) x v
  | there {x v y w r} : LkL r x v → LkL ((y, w) :: r) x v
theorem LkL.mem {m x v} (h : LkL m x v) : (x, some v) ∈ m := by induction h with | here => exact .head _ | there _ ih => exact .tail _ ih
inductive UpdL : Loc → Str → V → Loc → Prop where
  | here {x w v r} : UpdL ((x, w) :: r) x v ((x, some v) :: r)
  | there {x v y w r r'} : UpdL r x v r' → UpdL ((y, w) :: r) x v ((y, w) :: r')
theorem UpdL.names {m x v m'} (h : UpdL m x v m') : m'.map (·.1) = m.map (·.1) := by induction h with | here => rfl | there _ ih => simp [ih]
theorem UpdL.was {m x v m'} (h : UpdL m x v m') : ∃ w, (x, w) ∈ m := by induction h with | here => exact ⟨_, .head _⟩ | there _ ih => exact ih.imp fun _ => .tail _
theorem UpdL.new {m x v m'} (h : UpdL m x v m') (nd : (m.map (·.1)).Nodup) : ∀ y w, (y, w) ∈ m' → (y = x ∧ w = some v) ∨ (y ≠ x ∧ (y, w) ∈ m) := by
  induction h with
  | @here x w v r =>
    intro y w' hm
    rw [List.map_cons, List.nodup_cons] at nd
    rcases List.mem_cons.mp hm with e | e
    · cases e; exact .inl ⟨rfl, rfl⟩
    · exact .inr ⟨fun q => nd.1 (List.mem_map.mpr ⟨_, e, q⟩), .tail _ e⟩
  | @there x v z w r r' h ih =>
    intro y w' hm
    rw [List.map_cons, List.nodup_cons] at nd
    rcases List.mem_cons.mp hm with e | e
    · cases e
      refine .inr ⟨fun q => ?_, .head _⟩
      subst q
      obtain ⟨w2, hw⟩ := h.was
      exact nd.1 (List.mem_map.mpr ⟨_, hw, rfl⟩)
    · exact (ih nd.2 y w' e).imp id fun q => ⟨q.1, .tail _ q.2⟩

/-- a local, or a cell -/
theorem tri_loadName {x v} {Q : V → Loc → List Cell → Prop} (hl : LkL m x v) (q : Q v m H) : TE X n env m H (loadName env x) Q := by
  intro A η s C E R r e _ k
  have hm := hl.mem
  obtain ⟨n1, n2, hk⟩ := e.kinds x _ hm
  rcases hk with hk | ⟨hk, c, hc⟩
  · obtain ⟨mc, ns, hv⟩ := e.ns
    obtain ⟨cv, e1, d⟩ := hv x v hm hk
    exact wpAny_loadName_local e.kind hk ns e1 (k v m H cv η s q d r e (.refl ..))
  · have hne : env.kindOf x ≠ some .local := by rcases hk with hk | hk <;> rw [hk] <;> decide
    obtain ⟨cv, ic, d⟩ := e.cl x v c hm hne hc
    rcases hk with hk | hk
    · exact wpAny_loadName_cell e.kind hk hc ic (k v m H cv η s q d r e (.refl ..))
    · exact wpAny_loadName_free e.kind hk hc ic (k v m H cv η s q d r e (.refl ..)) (beq_eq_false_iff_ne.mpr n2)
theorem tri_Name {x pos v} {Q : V → Loc → List Cell → Prop} (hl : LkL m x v) (q : Q v m H) : TE X n env m H (eval (.Name x pos) env) Q :=
  fun A η s C E R r e p k => wpAny_Name (tri_loadName hl q A η s C E R r e p k) (beq_eq_false_iff_ne.mpr (e.kinds x _ hl.mem).1)

theorem tri_int {i k pos} {Q : V → Loc → List Cell → Prop} (q : Q (.int i) m H) : TE X n env m H (eval (.Constant (.int i) k pos) env) Q :=
  TriP.tok (b := V.int i) (fun _ s C E η _ k => wpAny_Constant_int (k _ _ (by unfold Den; exact ⟨_, rfl⟩))) q
theorem den_str {η h} (x : Str) (t : Tok) : Den X η h (.str x.cps.toList) (.str x t) := by
  unfold Den; exact ⟨t, by cases x; rfl⟩
theorem tri_str {x : Str} {k pos} {Q : V → Loc → List Cell → Prop} (q : Q (.str x.cps.toList) m H) : TE X n env m H (eval (.Constant (.str x) k pos) env) Q :=
  TriP.tok (b := V.str x.cps.toList) (fun _ s C E η _ k => Constant_str (k _ _ (den_str x _))) q
theorem tri_none {k pos} {Q : V → Loc → List Cell → Prop} (q : Q .none m H) : TE X n env m H (eval (.Constant .none k pos) env) Q :=
  TriP.pure (b := V.none) (fun _ _ _ => by unfold Den; rfl) q
theorem tri_bool {b k pos} {Q : V → Loc → List Cell → Prop} (q : Q (.bool b) m H) : TE X n env m H (eval (.Constant (.bool b) k pos) env) Q :=
  TriP.pure (b := V.bool b) (fun _ _ _ => by unfold Den; rfl) q

theorem tri_BinOp {l op r pos} {Q : V → Loc → List Cell → Prop} (h : TE X n env m H (eval l env) fun v m H => TE X n env m H (eval r env) fun u m H => T2 X n env m H (binaryOp op) v u Q) :
    TE X n env m H (eval (.BinOp l op r pos) env) Q := by
  intro A η s C E R r e _ k
  refine wpAny_BinOp (h A η s _ E R r e trivial fun v m1 H1 a η1 s1 q1 d1 r1 e1 a1 => ?_)
  refine q1 A η1 s1 _ E R r1 e1 trivial fun u m2 H2 b η2 s2 q2 d2 r2 e2 a2 => ?_
  exact q2 a b A η2 s2 _ E R r2 e2 ⟨a2.den r1 e1 d1, d2⟩ fun v' m' H' c η' s' q d r' e' a' => k v' m' H' c η' s' q d r' e' (a1.trans (a2.trans a'))

theorem tri_Compare {l op r pos} {Q : V → Loc → List Cell → Prop} (h : TE X n env m H (eval l env) fun v m H => TE X n env m H (eval r env) fun u m H => T2 X n env m H (compareOp op) v u Q)
    (hm : behindInMarks op r = false := by with_unfolding_all rfl) : TE X n env m H (eval (.Compare l [op] [r] pos) env) Q := by
  intro A η s C E R r e _ k
  refine wpAny_Compare1 (h A η s _ E R r e trivial fun v m1 H1 a η1 s1 q1 d1 r1 e1 a1 => ?_) hm
  refine q1 A η1 s1 _ E R r1 e1 trivial fun u m2 H2 b η2 s2 q2 d2 r2 e2 a2 => ?_
  exact q2 a b A η2 s2 _ E R r2 e2 ⟨a2.den r1 e1 d1, d2⟩ fun v' m' H' c η' s' q d r' e' a' => k v' m' H' c η' s' q d r' e' (a1.trans (a2.trans a'))
end
end Mine
end
section
open PySem PySem.W PyProof.Rows PySem.Calls
set_option Elab.async false
set_option maxRecDepth 100000
set_option linter.unusedVariables false
namespace Mine

theorem keeps_same {X η} {h h' : Heap} {a : Addr} (hs : Heap.SameBut a h h') (nt : ∀ o, h.get? a = some o → frozen o = false) : Keeps' X η h η h' :=
  ⟨fun b o e f => (hs.2 b fun q => by subst q; rw [nt o e] at f; cases f).trans e, List.prefix_refl _⟩

theorem Rel.same {X η H} {h h' : Heap} {a : Addr} (r : Rel X η H h) (hs : Heap.SameBut a h h') (ha : X.h₀.get? a = none) (hn : a ∉ η) (nt : ∀ o, h.get? a = some o → frozen o = false) : Rel X η H h' where
  low := fun b o e n => (hs.2 b fun q => by subst q; rw [ha] at e; cases e).trans (r.low b o e n)
  tab := fun b hb => let ⟨ps, more, e1, e2⟩ := r.tab b hb; ⟨ps, more, e1, (hs.2 b fun q => by subst q; have z := e1.1; rw [ha] at z; cases z).trans e2⟩
  len := r.len
  nd := r.nd
  hi := r.hi
  cells := fun i c e => let ⟨b, o, e1, e2, e3⟩ := r.cells i c e; ⟨b, o, e1, (hs.2 b fun q => hn (q ▸ List.mem_of_getElem? e1)).trans e2, e3.keeps (keeps_same hs nt)⟩

theorem Adv.same {X env η s} {h' : Heap} {tk : Nat} {a : Addr} (hs : Heap.SameBut a s.heap h') (ha : a ∈ η ∨ a = env.locals ∨ a ∈ env.cells.map (·.2)) (hl : ∃ o, h'.get? a = some o) : Adv X env η s η { s with heap := h', toks := tk } :=
  ⟨fun b o e h1 h2 h3 _ => (hs.2 b fun q => by subst q; rcases ha with q | q | q; exact h1 q; exact h2 q; exact h3 q).trans e, (fun b o e => by
    by_cases q : b = a
    · exact q ▸ hl
    · exact ⟨o, (hs.2 b q).trans e⟩), List.prefix_refl _, fun _ h => .inl h, Nat.le_refl _, fun _ _ e => e,
   fun i y hi e => (by rw [show ({ s with heap := h', toks := tk } : Shared).gens = s.gens from rfl, Array.getElem?_eq_none hi] at e; cases e), rfl⟩

section
variable {α β : Type} {X : Cx} {n : Nat} {env : Env} {m : Loc} {H : List Cell}

theorem kind_cases {k : Option NameKind} (h : k = some .local ∨ ((k = some .cell ∨ k = some .free) ∧ P)) : (k = some .local) ∨ (k ≠ some .local ∧ (k = some .cell ∨ k = some .free) ∧ P) := by
  rcases h with h | ⟨h, p⟩
  · exact .inl h
  · exact .inr ⟨by rcases h with h | h <;> rw [h] <;> decide, h, p⟩

theorem tri_store {x v cv m'} {Q : Loc → List Cell → Prop} (hu : UpdL m x v m') (q : Q m' H) (hfree : env.kindOf x ≠ some .free := by with_unfolding_all decide) :
    TriP X n env (fun _ _ (_ : Unit) (_ : Unit) => True) (fun η h => Den X η h v cv) m H (storeName env x cv) (fun _ => Q) := by
  intro A η s C E R r e d k
  obtain ⟨w, hw⟩ := hu.was
  obtain ⟨n1, n2, hk⟩ := e.kinds x _ hw
  have hnew := hu.new e.ndm
  have nmz : (m'.map (·.1)).Nodup := hu.names ▸ e.ndm
  have kinds' : ∀ y ov, (y, ov) ∈ m' → y ≠ "__debug__" ∧ y ≠ "__classdict__" ∧ (env.kindOf y = some .local ∨ ((env.kindOf y = some .cell ∨ env.kindOf y = some .free) ∧ ∃ c, env.cells.lookup y = some c)) := fun y ov hy => by
    rcases hnew y ov hy with ⟨rfl, _⟩ | ⟨_, hy⟩
    · exact ⟨n1, n2, hk⟩
    · exact e.kinds y ov hy
  rcases hk with hk | ⟨hk, c, hc⟩
  · obtain ⟨mc, ns, hv⟩ := e.ns
    refine wpAny_storeName_local hk ns (fun h' ns' hs => ?_) (by rw [e.kind]; rfl)
    have nt : ∀ o, s.heap.get? env.locals = some o → frozen o = false := fun o ho => by
      cases f : frozen o with
      | false => rfl
      | true => exact absurd rfl (e.fzL ho f)
    have K := keeps_same (X := X) (η := η) hs nt
    refine k () m' H () η _ q trivial (r.same hs e.hiL e.nL nt) ?_ (Adv.same hs (.inr (.inl rfl)) (let ⟨o, _, _, ho, _⟩ := ns'; ⟨o, ho⟩))
    refine ⟨e.kind, e.glob, e.blt, kinds', ⟨_, ns', fun y u hy hl => ?_⟩, fun y u c' hy hl hc' => ?_, fun p hp => ?_, e.hiL, e.nL, e.hiC, e.ndC, nmz⟩
    · rcases hnew y _ hy with ⟨rfl, hu'⟩ | ⟨hne, hy⟩
      · cases hu'; exact ⟨cv, by simp, Den.keeps K v d⟩
      · obtain ⟨cu, e1, du⟩ := hv y u hy hl
        exact ⟨cu, by simp [hne, e1], Den.keeps K u du⟩
    · rcases hnew y _ hy with ⟨rfl, hu'⟩ | ⟨hne, hy⟩
      · exact absurd hk hl
      · obtain ⟨cu, ic, du⟩ := e.cl y u c' hy hl hc'
        exact ⟨cu, isCell_keeps ic fun o ho => (hs.2 _ (e.hiC _ (EnvOk.move.mem_of_lookup hc')).2.2).trans ho, Den.keeps K u du⟩
    · obtain ⟨ov, ic⟩ := e.cellEx p hp
      exact ⟨ov, isCell_keeps ic fun o ho => (hs.2 _ (e.hiC p hp).2.2).trans ho⟩
  · have hkc : env.kindOf x = some .cell := hk.resolve_right hfree
    have hm := EnvOk.move.mem_of_lookup hc
    obtain ⟨ov, ic⟩ := e.cellEx _ hm
    refine wpAny_storeName_cell e.kind hkc hc ic fun h' ic' hs => ?_
    have nt : ∀ o, s.heap.get? c = some o → frozen o = false := fun o ho => by
      cases f : frozen o with
      | false => rfl
      | true => exact absurd (List.mem_map.mpr ⟨_, hm, rfl⟩) (e.fzC ho f)
    have K := keeps_same (X := X) (η := η) hs nt
    have hi := e.hiC _ hm
    refine k () m' H () η _ q trivial (r.same hs hi.1 hi.2.1 nt) ?_ (Adv.same (tk := s.toks) hs (.inr (.inr (List.mem_map.mpr ⟨_, hm, rfl⟩))) (let ⟨o, ho, _⟩ := ic'; ⟨o, ho⟩))
    refine ⟨e.kind, e.glob, e.blt, kinds', ?_, fun y u c' hy hl hc' => ?_, fun p hp => ?_, e.hiL, e.nL, e.hiC, e.ndC, nmz⟩
    · obtain ⟨mc, ns, hv⟩ := e.ns
      refine ⟨mc, ns.at' fun o ho => (hs.2 _ (Ne.symm hi.2.2)).trans ho, fun y u hy hl => ?_⟩
      rcases hnew y _ hy with ⟨rfl, hu'⟩ | ⟨hne, hy⟩
      · rw [hkc] at hl; cases hl
      · obtain ⟨cu, e1, du⟩ := hv y u hy hl
        exact ⟨cu, e1, Den.keeps K u du⟩
    · rcases hnew y _ hy with ⟨rfl, hu'⟩ | ⟨hne, hy⟩
      · cases hu'
        rw [hc] at hc'; cases hc'
        exact ⟨cv, ic', Den.keeps K v d⟩
      · obtain ⟨cu, icu, du⟩ := e.cl y u c' hy hl hc'
        have hne' : c' ≠ c := fun q => hne (e.ndC _ (EnvOk.move.mem_of_lookup hc') _ hm q)
        exact ⟨cu, isCell_keeps icu fun o ho => (hs.2 _ hne').trans ho, Den.keeps K u du⟩
    · by_cases hpc : p.2 = c
      · exact ⟨_, hpc ▸ ic'⟩
      · obtain ⟨ov, icp⟩ := e.cellEx p hp
        exact ⟨ov, isCell_keeps icp fun o ho => (hs.2 _ hpc).trans ho⟩

/-- a value is reckoned, then used -/
theorem TriP.seq {γ δ ε : Type} {D : List Addr → Heap → β → α → Prop} {P : List Addr → Heap → Prop} {t : Sem α} {D' : List Addr → Heap → δ → γ → Prop} {f : α → Sem γ} {Q : δ → Loc → List Cell → Prop}
    (h : TriP X n env D P m H t fun b m H => ∀ a, TriP X n env D' (fun η h => D η h b a) m H (f a) Q) : TriP X n env D' P m H (t >>= f) Q := by
  intro A η s C E R r e p k
  refine wpAny_bind (h A η s _ E R r e p fun b m1 H1 a η1 s1 q1 d1 r1 e1 a1 => ?_)
  exact q1 a A η1 s1 _ E R r1 e1 d1 fun v' m' H' c η' s' q d r' e' a' => k v' m' H' c η' s' q d r' e' (a1.trans a')

theorem TriP.weaken {D : List Addr → Heap → β → α → Prop} {P P' : List Addr → Heap → Prop} {t : Sem α} {Q : β → Loc → List Cell → Prop} (h : TriP X n env D P m H t Q) (w : ∀ η h, P' η h → P η h) : TriP X n env D P' m H t Q :=
  fun A η s C E R r e p k => h A η s C E R r e (w _ _ p) k

theorem ts_nil {N B K R} (q : N m H) : TS X n env m H (execs [] env) N B K R :=
  TriP.pure (b := AF.next) (fun _ _ _ => by unfold DenF; rfl) q

theorem ts_cons {st rest N B K R} (h : TS X n env m H (exec st env) (fun m H => TS X n env m H (execs rest env) N B K R) B K R) : TS X n env m H (execs (st :: rest) env) N B K R := by
  intro A η s C E Ro r e _ k
  refine wpAny_execs_cons (h A η s _ E Ro r e trivial fun b m1 H1 a η1 s1 q1 d1 r1 e1 a1 => ?_)
  cases b with
  | next => unfold DenF at d1; subst d1; exact q1 A η1 s1 _ E Ro r1 e1 trivial fun b m' H' c η' s' q d r' e' a' => k b m' H' c η' s' q d r' e' (a1.trans a')
  | brk => unfold DenF at d1; subst d1; exact k .brk m1 H1 _ η1 s1 q1 (by unfold DenF; rfl) r1 e1 a1
  | cont => unfold DenF at d1; subst d1; exact k .cont m1 H1 _ η1 s1 q1 (by unfold DenF; rfl) r1 e1 a1
  | ret v => unfold DenF at d1; obtain ⟨cv, rfl, d⟩ := d1; exact k (.ret v) m1 H1 _ η1 s1 q1 (by unfold DenF; exact ⟨cv, rfl, d⟩) r1 e1 a1

theorem ts_Return {ex pos N B K R} (h : TE X n env m H (eval ex env) R) : TS X n env m H (exec (.Return (some ex) pos) env) N B K R := by
  intro A η s C E Ro r e _ k
  exact wpAny_Return_some (h A η s _ E Ro r e trivial fun b m1 H1 a η1 s1 q1 d1 r1 e1 a1 => k (.ret b) m1 H1 _ η1 s1 q1 (by unfold DenF; exact ⟨a, rfl, d1⟩) r1 e1 a1)
theorem ts_Break {pos N B K R} (q : B m H) : TS X n env m H (exec (.Break pos) env) N B K R := by
  intro A η s C E Ro r e _ k
  exact fun _ _ _ => k .brk m H _ η s q (by unfold DenF; rfl) r e (.refl ..)
theorem ts_Continue {pos N B K R} (q : K m H) : TS X n env m H (exec (.Continue pos) env) N B K R := by
  intro A η s C E Ro r e _ k
  exact fun _ _ _ => k .cont m H _ η s q (by unfold DenF; rfl) r e (.refl ..)

/-- two ways -/
def Br (b : Bool) (P Q : Prop) : Prop := if b = true then P else Q
theorem br_t {P Q : Prop} (h : P) : Br true P Q := h
theorem br_f {P Q : Prop} (h : Q) : Br false P Q := h
theorem br_c {b : Bool} {P Q : Prop} (h : b = true → P) (h' : b = false → Q) : Br b P Q := by
  cases b
  · exact h' rfl
  · exact h rfl
theorem br_d {p : Prop} [Decidable p] {P Q : Prop} (h : p → P) (h' : ¬ p → Q) : Br (decide p) P Q := br_c (fun e => h (of_decide_eq_true e)) fun e => h' (of_decide_eq_false e)

theorem ts_If {test body orelse pos N B K R} (h : TB X n env m H (isTrue test env (eval test env)) fun b m H => Br b (TS X n env m H (execs body env) N B K R) (TS X n env m H (execs orelse env) N B K R)) :
    TS X n env m H (exec (.If test body orelse pos) env) N B K R := by
  intro A η s C E Ro r e _ k
  refine wpAny_If (h A η s _ E Ro r e trivial fun b m1 H1 a η1 s1 q1 d1 r1 e1 a1 => ?_)
  cases d1
  cases b
  · exact (show TS X n env m1 H1 (execs orelse env) N B K R from q1) A η1 s1 _ E Ro r1 e1 trivial fun b m' H' c η' s' q d r' e' a' => k b m' H' c η' s' q d r' e' (a1.trans a')
  · exact (show TS X n env m1 H1 (execs body env) N B K R from q1) A η1 s1 _ E Ro r1 e1 trivial fun b m' H' c η' s' q d r' e' a' => k b m' H' c η' s' q d r' e' (a1.trans a')

theorem ts_Assign_Name {x pos' value pos N B K R} (h : TE X n env m H (eval value env) fun v m H => ∃ m', UpdL m x v m' ∧ N m' H)
    (hfree : env.kindOf x ≠ some .free := by with_unfolding_all decide) (hs : swapsWith value (some (.Name x pos')) pos.line env = Pure.pure false := by rfl) :
    TS X n env m H (exec (.Assign [.Name x pos'] value pos) env) N B K R := by
  intro A η s C E Ro r e _ k
  refine wpAny_Assign_Name (h A η s _ E Ro r e trivial fun v m1 H1 a η1 s1 q1 d1 r1 e1 a1 => ?_) hs
  obtain ⟨m', hu, q⟩ := q1
  exact tri_store (Q := fun m H => N m H) hu q hfree A η1 s1 _ E Ro r1 e1 d1 fun b m2 H2 c η' s' q d r' e' a' => k .next m2 H2 _ η' s' q (by unfold DenF; rfl) r' e' (a1.trans a')

theorem ts_Aug_Name {x pos' op value pos v N B K R} (hl : LkL m x v) (h : TE X n env m H (eval value env) fun u m H => T2 X n env m H (inplaceOp op) v u fun w m H => ∃ m', UpdL m x w m' ∧ N m' H)
    (hfree : env.kindOf x ≠ some .free := by with_unfolding_all decide) : TS X n env m H (exec (.AugAssign (.Name x pos') op value pos) env) N B K R := by
  intro A η s C E Ro r e _ k
  refine wpAny_AugAssign_Name ?_
  refine tri_loadName (Q := fun u m1 H1 => u = v ∧ m1 = m ∧ H1 = H) hl ⟨rfl, rfl, rfl⟩ A η s _ E Ro r e trivial fun u m1 H1 a η1 s1 q1 d1 r1 e1 a1 => ?_
  obtain ⟨rfl, rfl, rfl⟩ := q1
  refine h A η1 s1 _ E Ro r1 e1 trivial fun u2 m2 H2 b η2 s2 q2 d2 r2 e2 a2 => ?_
  refine q2 a b A η2 s2 _ E Ro r2 e2 ⟨a2.den r1 e1 d1, d2⟩ fun w m3 H3 c η3 s3 q3 d3 r3 e3 a3 => ?_
  obtain ⟨m', hu, q⟩ := q3
  exact tri_store (Q := fun m H => N m H) hu q hfree A η3 s3 _ E Ro r3 e3 d3 fun b m4 H4 c η' s' q d r' e' a' => k .next m4 H4 _ η' s' q (by unfold DenF; rfl) r' e' (a1.trans (a2.trans (a3.trans a')))
end
end Mine
end
section
open PySem PySem.W PyProof.Rows PySem.Calls
set_option Elab.async false
set_option maxRecDepth 100000
set_option linter.unusedVariables false
namespace Mine
section
variable {α β : Type} {X : Cx} {n : Nat} {env : Env} {m : Loc} {H : List Cell}

theorem tb_plain {e : Expr} {Q : Bool → Loc → List Cell → Prop} (h : TE X n env m H (eval e env) fun v m H => T1B X n env m H truthy v Q)
    (hp : isTrue e env (eval e env) = (do let v ← eval e env; standAt e.pos; holding [v] (truthy v)) := by rfl) : TB X n env m H (isTrue e env (eval e env)) Q := by
  intro A η s C E Ro r e' _ k
  rw [hp]
  refine wpAny_bind (h A η s _ E Ro r e' trivial fun v m1 H1 a η1 s1 q1 d1 r1 e1 a1 => ?_)
  refine wpAny_bind (wpAny_standAt (wpAny_holding ?_))
  exact q1 a A η1 s1 _ E Ro r1 e1 d1 fun b m' H' c η' s' q d r' e' a' => k b m' H' c η' s' q d r' e' (a1.trans a')
theorem tb_Compare {l op r pos whole} {Q : Bool → Loc → List Cell → Prop} (h : TE X n env m H (eval l env) fun v m H => TE X n env m H (eval r env) fun u m H => T2 X n env m H (compareOp op) v u fun w m H => T1B X n env m H truthy w Q)
    (hm : behindInMarks op r = false := by with_unfolding_all rfl) : TB X n env m H (isTrue (.Compare l [op] [r] pos) env whole) Q := by
  intro A η s C E R re e _ k
  refine wpAny_isTrue_Compare1 (h A η s _ E R re e trivial fun v m1 H1 a η1 s1 q1 d1 r1 e1 a1 => ?_) hm
  refine q1 A η1 s1 _ E R r1 e1 trivial fun u m2 H2 b η2 s2 q2 d2 r2 e2 a2 => ?_
  refine q2 a b A η2 s2 _ E R r2 e2 ⟨a2.den r1 e1 d1, d2⟩ fun w m3 H3 c η3 s3 q3 d3 r3 e3 a3 => ?_
  exact q3 c A η3 s3 _ E R r3 e3 d3 fun v' m' H' c η' s' q d r' e' a' => k v' m' H' c η' s' q d r' e' (a1.trans (a2.trans (a3.trans a')))
theorem tb_Not {x pos whole} {Q : Bool → Loc → List Cell → Prop} (h : TB X n env m H (isTrue x env (eval x env)) fun b m H => Q (!b) m H) : TB X n env m H (isTrue (.UnaryOp .Not x pos) env whole) Q := by
  intro A η s C E R re e _ k
  show wpAny _ A (do return !(← isTrue x env (eval x env))) C E s
  refine wpAny_bind (h A η s _ E R re e trivial fun b m1 H1 a η1 s1 q1 d1 r1 e1 a1 => ?_)
  cases d1
  exact wpAny_pure (k (!b) m1 H1 _ η1 s1 q1 rfl r1 e1 a1)
theorem tb_BoolOp {op vs pos whole} {Q : Bool → Loc → List Cell → Prop} (h : TB X n env m H (allTrue op vs env) Q) : TB X n env m H (isTrue (.BoolOp op vs pos) env whole) Q := h
theorem ta_nil_and {Q : Bool → Loc → List Cell → Prop} (q : Q true m H) : TB X n env m H (allTrue .And [] env) Q := TriP.pure (b := true) (fun _ _ _ => rfl) q
theorem ta_nil_or {Q : Bool → Loc → List Cell → Prop} (q : Q false m H) : TB X n env m H (allTrue .Or [] env) Q := TriP.pure (b := false) (fun _ _ _ => rfl) q
theorem ta_and {x rest} {Q : Bool → Loc → List Cell → Prop} (h : TB X n env m H (isTrue x env (eval x env)) fun b m H => Br b (TB X n env m H (allTrue .And rest env) Q) (Q false m H)) : TB X n env m H (allTrue .And (x :: rest) env) Q := by
  intro A η s C E R re e _ k
  show wpAny _ A (do match BoolOp.And, ← isTrue x env (eval x env) with | .And, false => pure false | .Or, true => pure true | _, _ => allTrue .And rest env) C E s
  refine wpAny_bind (h A η s _ E R re e trivial fun b m1 H1 a η1 s1 q1 d1 r1 e1 a1 => ?_)
  cases d1
  cases b
  · exact wpAny_pure (k false m1 H1 _ η1 s1 q1 rfl r1 e1 a1)
  · exact (show TB X n env m1 H1 (allTrue .And rest env) Q from q1) A η1 s1 _ E R r1 e1 trivial fun v' m' H' c η' s' q d r' e' a' => k v' m' H' c η' s' q d r' e' (a1.trans a')
theorem ta_or {x rest} {Q : Bool → Loc → List Cell → Prop} (h : TB X n env m H (isTrue x env (eval x env)) fun b m H => Br b (Q true m H) (TB X n env m H (allTrue .Or rest env) Q)) : TB X n env m H (allTrue .Or (x :: rest) env) Q := by
  intro A η s C E R re e _ k
  show wpAny _ A (do match BoolOp.Or, ← isTrue x env (eval x env) with | .And, false => pure false | .Or, true => pure true | _, _ => allTrue .Or rest env) C E s
  refine wpAny_bind (h A η s _ E R re e trivial fun b m1 H1 a η1 s1 q1 d1 r1 e1 a1 => ?_)
  cases d1
  cases b
  · exact (show TB X n env m1 H1 (allTrue .Or rest env) Q from q1) A η1 s1 _ E R r1 e1 trivial fun v' m' H' c η' s' q d r' e' a' => k v' m' H' c η' s' q d r' e' (a1.trans a')
  · exact wpAny_pure (k true m1 H1 _ η1 s1 q1 rfl r1 e1 a1)

theorem tri_IfExp {test body orelse pos} {Q : V → Loc → List Cell → Prop} (h : TB X n env m H (isTrue test env (eval test env)) fun b m H => Br b (TE X n env m H (eval body env) Q) (TE X n env m H (eval orelse env) Q)) :
    TE X n env m H (eval (.IfExp test body orelse pos) env) Q := by
  intro A η s C E R re e _ k
  show wpAny _ A (do if ← isTrue test env (eval test env) then eval body env else eval orelse env) C E s
  refine wpAny_bind (h A η s _ E R re e trivial fun b m1 H1 a η1 s1 q1 d1 r1 e1 a1 => ?_)
  cases d1
  cases b
  · exact (show TE X n env m1 H1 (eval orelse env) Q from q1) A η1 s1 _ E R r1 e1 trivial fun v' m' H' c η' s' q d r' e' a' => k v' m' H' c η' s' q d r' e' (a1.trans a')
  · exact (show TE X n env m1 H1 (eval body env) Q from q1) A η1 s1 _ E R r1 e1 trivial fun v' m' H' c η' s' q d r' e' a' => k v' m' H' c η' s' q d r' e' (a1.trans a')

/-- and, or as values -/
def TBo (X : Cx) (n : Nat) (env : Env) (m : Loc) (H : List Cell) (pos : Pos) (op : BoolOp) (l : List (Sem Value)) (Q : V → Loc → List Cell → Prop) : Prop := TE X n env m H (boolOp pos op l) Q
theorem tri_BoolOp {op vs pos} {Q : V → Loc → List Cell → Prop} (h : TBo X n env m H pos op (evalEach vs env) Q) : TE X n env m H (eval (.BoolOp op vs pos) env) Q := h
theorem tbo_one {op e pos} {Q : V → Loc → List Cell → Prop} (h : TE X n env m H (eval e env) Q) : TBo X n env m H pos op (evalEach [e] env) Q := h
theorem tbo_and {e e2 rest pos} {Q : V → Loc → List Cell → Prop} (h : TE X n env m H (eval e env) fun v m H => ∀ a, TriP X n env (fun _ _ b c => b = c) (fun η h => Den X η h v a) m H (truthy a) fun b m H => Br b (TBo X n env m H pos .And (evalEach (e2 :: rest) env) Q) (Q v m H)) : TBo X n env m H pos .And (evalEach (e :: e2 :: rest) env) Q := by
  intro A η s C E R re ev _ k
  show wpAny _ A (do let v ← eval e env; standAt pos; let t ← holding [v] (truthy v); match BoolOp.And, t with | .And, false | .Or, true => pure v | _, _ => boolOp pos .And (evalEach (e2 :: rest) env)) C E s
  refine wpAny_bind (h A η s _ E R re ev trivial fun v m1 H1 a η1 s1 q1 d1 r1 e1 a1 => ?_)
  refine wpAny_bind (wpAny_standAt (wpAny_bind (wpAny_holding ?_)))
  refine q1 a A η1 s1 _ E R r1 e1 d1 fun b m2 H2 c η2 s2 q2 d2 r2 e2 a2 => ?_
  cases d2
  cases b
  · exact wpAny_pure (k v m2 H2 a η2 s2 q2 (a2.den r1 e1 d1) r2 e2 (a1.trans a2))
  · exact (show TBo X n env m2 H2 pos .And _ Q from q2) A η2 s2 _ E R r2 e2 trivial fun v' m' H' c η' s' q d r' e' a' => k v' m' H' c η' s' q d r' e' (a1.trans (a2.trans a'))
theorem tbo_or {e e2 rest pos} {Q : V → Loc → List Cell → Prop} (h : TE X n env m H (eval e env) fun v m H => ∀ a, TriP X n env (fun _ _ b c => b = c) (fun η h => Den X η h v a) m H (truthy a) fun b m H => Br b (Q v m H) (TBo X n env m H pos .Or (evalEach (e2 :: rest) env) Q)) : TBo X n env m H pos .Or (evalEach (e :: e2 :: rest) env) Q := by
  intro A η s C E R re ev _ k
  show wpAny _ A (do let v ← eval e env; standAt pos; let t ← holding [v] (truthy v); match BoolOp.Or, t with | .And, false | .Or, true => pure v | _, _ => boolOp pos .Or (evalEach (e2 :: rest) env)) C E s
  refine wpAny_bind (h A η s _ E R re ev trivial fun v m1 H1 a η1 s1 q1 d1 r1 e1 a1 => ?_)
  refine wpAny_bind (wpAny_standAt (wpAny_bind (wpAny_holding ?_)))
  refine q1 a A η1 s1 _ E R r1 e1 d1 fun b m2 H2 c η2 s2 q2 d2 r2 e2 a2 => ?_
  cases d2
  cases b
  · exact (show TBo X n env m2 H2 pos .Or _ Q from q2) A η2 s2 _ E R r2 e2 trivial fun v' m' H' c η' s' q d r' e' a' => k v' m' H' c η' s' q d r' e' (a1.trans (a2.trans a'))
  · exact wpAny_pure (k v m2 H2 a η2 s2 q2 (a2.den r1 e1 d1) r2 e2 (a1.trans a2))

theorem wpAny_noErr {α : Type} {M : Model} {A : Around} {t : Sem α} {Q : α → Shared → Prop} {E : Value → Shared → Prop} {s : Shared} (h : wpAny M A t Q (fun _ _ => False) s) : wpAny M A t Q E s :=
  wpAny_mono h (fun _ _ x => x) fun _ _ x => x.elim

/-- a while loop about to turn -/
def TW (X : Cx) (n : Nat) (env : Env) (m : Loc) (H : List Cell) (test : Expr) (body orelse : List Stmt) (N : Loc → List Cell → Prop) (R : V → Loc → List Cell → Prop) : Prop :=
  ∀ (A : Around) (η : List Addr) (s : Shared) (C : Flow → Shared → Prop), Room A n → Rel X η H s.heap → EnvOk X env η m s.heap →
    (∀ b m' H' a η' s', FQ.at N (fun _ _ => False) (fun _ _ => False) R b m' H' → DenF X η' s'.heap b a → Rel X η' H' s'.heap → EnvOk X env η' m' s'.heap → Adv X env η s η' s' → C a s') →
    codeAny (model X.prog X.w) A (.whileLoop test body orelse env) (fun r s' => match r with | .ok f => C f s' | .error _ => False) s

theorem ts_While {test body orelse pos N B K R} (h : TW X n env m H test body orelse N R) : TS X n env m H (exec (.While test body orelse pos) env) N B K R := by
  intro A η s C E Ro r e _ k
  refine wpAny_While (codeAny_mono (h A η s C Ro r e fun b m' H' a η' s' q d => k b m' H' a η' s' ?_ d) fun rs s' x => ?_)
  · cases b with
    | next => exact q
    | brk => exact False.elim q
    | cont => exact False.elim q
    | ret v => exact q
  · cases rs with
    | ok f => exact x
    | error e => exact x.elim

theorem tw_turn {test body N R} (h : TB X n env m H (isTrue test env (eval test env)) fun b m H => Br b
      (TS X n env m H (execs body env) (fun m H => TW X n env m H test body [] N R) N (fun m H => TW X n env m H test body [] N R) R) (N m H)) : TW X n env m H test body [] N R := by
  intro A η s C Ro r e k
  refine codeAny_of_tree ?_
  show wpAny _ A ((whileTurn test body [] env).onRaise (fun x => do noteFrame x env; theTreesLotGoes x)) _ _ s
  refine wpAny_onRaise (wpAny_noErr ?_)
  simp only [whileTurn]
  refine wpAny_bind (h A η s _ _ Ro r e trivial fun b m1 H1 a η1 s1 q1 d1 r1 e1 a1 => ?_)
  cases d1
  cases b
  · simp only [Bool.false_eq_true, if_false]
    exact wpAny_bind (wpAny_execs_nil (wpAny_pure (k .next m1 H1 _ η1 s1 q1 (by unfold DenF; rfl) r1 e1 a1)))
  · simp only [if_true]
    refine wpAny_bind ((show TS X n env m1 H1 (execs body env) _ N _ R from q1) A η1 s1 _ _ Ro r1 e1 trivial fun f m2 H2 c η2 s2 q2 d2 r2 e2 a2 => ?_)
    cases f with
    | next => unfold DenF at d2; subst d2; exact wpAny_pure ⟨rfl, q2 A η2 s2 _ Ro r2 e2 fun b m' H' a η' s' q d r' e' a' => k b m' H' a η' s' q d r' e' (a1.trans (a2.trans a'))⟩
    | cont => unfold DenF at d2; subst d2; exact wpAny_pure ⟨rfl, q2 A η2 s2 _ Ro r2 e2 fun b m' H' a η' s' q d r' e' a' => k b m' H' a η' s' q d r' e' (a1.trans (a2.trans a'))⟩
    | brk => unfold DenF at d2; subst d2; exact wpAny_pure (k .next m2 H2 _ η2 s2 q2 (by unfold DenF; rfl) r2 e2 (a1.trans a2))
    | ret v => unfold DenF at d2; obtain ⟨cv, rfl, d⟩ := d2; exact wpAny_pure (k (.ret v) m2 H2 _ η2 s2 q2 (by unfold DenF; exact ⟨cv, rfl, d⟩) r2 e2 (a1.trans a2))
end
end Mine
end
section
open PySem PySem.W PyProof.Rows PySem.Calls
set_option Elab.async false
set_option maxRecDepth 100000
set_option linter.unusedVariables false
namespace Mine

/-- what an iterator has still to give -/
inductive Src where
  | lst (i k : Nat)
  | rng (x : Int) (left : Nat)

def ItAt (η : List Addr) (h : Heap) (it : Addr) : Src → Prop
  | .lst i k => ∃ a, η[i]? = some a ∧ h.IsListIter it a k
  | .rng x left => IsRangeIter h it x left 1

def nextS (H : List Cell) : Src → Option (Option (V × Src))
  | .lst i k => match H[i]? with
    | some (.list xs) => some (match xs[k]? with | some v => some (v, .lst i (k + 1)) | none => none)
    | _ => none
  | .rng x left => some (match left with | 0 => none | l + 1 => some (.int x, .rng (x + 1) l))

structure Aside (X : Cx) (env : Env) (η : List Addr) (h : Heap) (it : Addr) : Prop where
  old : X.h₀.get? it = none
  nη : it ∉ η
  nL : it ≠ env.locals
  nC : it ∉ env.cells.map (·.2)
  fz : ∀ o, h.get? it = some o → frozen o = false

theorem denL_get {X η h} : ∀ {xs : List V} {vs : List Value}, DenL X η h xs vs → ∀ k : Nat, (∀ v, xs[k]? = some v → ∃ cv, vs[k]? = some cv ∧ Den X η h v cv) ∧ (xs[k]? = none → vs[k]? = none)
  | [], vs, d => by
    unfold DenL at d; subst d
    intro k; simp
  | x :: xs, vs, d => by
    unfold DenL at d
    obtain ⟨v, vs', rfl, d1, d2⟩ := d
    intro k
    cases k with
    | zero => simp [d1]
    | succ k => simpa using denL_get d2 k
theorem denL_length {X η h} : ∀ {xs : List V} {vs : List Value}, DenL X η h xs vs → vs.length = xs.length
  | [], vs, d => by unfold DenL at d; subst d; rfl
  | x :: xs, vs, d => by
    unfold DenL at d
    obtain ⟨v, vs', rfl, d1, d2⟩ := d
    simp [denL_length d2]

theorem Rel.listO {X η H h} (r : Rel X η H h) {i : Nat} {xs : List V} {a : Addr} (e : H[i]? = some (.list xs)) (ea : η[i]? = some a) : ∃ vs k, h.get? a = some { cls := .type "list", data := .seq (List.toArray vs) k } ∧ DenL X η h xs vs ∧ xs.length ≤ sizeLine := by
  obtain ⟨a', o, e1, e2, vs, n, rfl, hl, d⟩ := r.cells i _ e
  rw [ea] at e1; cases e1
  exact ⟨vs, n, e2, d, hl⟩
theorem Rel.list {X η H h} (r : Rel X η H h) {i : Nat} {xs : List V} {a : Addr} (e : H[i]? = some (.list xs)) (ea : η[i]? = some a) : ∃ vs, h.IsList a (List.toArray vs) ∧ DenL X η h xs vs ∧ xs.length ≤ sizeLine :=
  let ⟨vs, k, e2, d, hl⟩ := r.listO e ea; ⟨vs, ⟨_, e2, rfl, k, rfl⟩, d, hl⟩

section
variable {α β : Type} {X : Cx} {n : Nat} {env : Env} {m : Loc} {H : List Cell}

theorem pyNext_ok {A : Around} {η : List Addr} {s : Shared} {C : Option Value → Shared → Prop} {E : Value → Shared → Prop} {it : Addr} {src : Src} {r : Option (V × Src)} (Ro : Room A n) (re : Rel X η H s.heap) (hr : nextS H src = some r) (hi : ItAt η s.heap it src)
    (k : ∀ ov h' tk, Heap.ExtBut it s.heap h' → (match r with
      | none => ov = none
      | some (v, src') => ∃ cv, ov = some cv ∧ Den X η s.heap v cv ∧ ItAt η h' it src' ∧ Heap.SameBut it s.heap h') → C ov { s with heap := h', toks := tk }) :
    wpAny (model X.prog X.w) A (pyNext (.ref it)) C E s := by
  cases src with
  | lst i j =>
    obtain ⟨a, ea, hit⟩ := hi
    simp only [nextS] at hr
    split at hr
    · rename_i xs e
      obtain ⟨vs, hl, d, _⟩ := re.list e ea
      have g := denL_get d j
      cases hx : xs[j]? with
      | none =>
        rw [hx] at hr; cases hr
        exact wpAny_pyNext_list_end Ro.handled hit hl (by simpa using g.2 hx) fun h' hs => k none h' s.toks hs rfl
      | some v =>
        rw [hx] at hr; cases hr
        obtain ⟨cv, e1, d1⟩ := g.1 v hx
        exact wpAny_pyNext_list_item hit hl (by simpa using e1) fun h' hit' hs => k _ h' s.toks hs.extBut ⟨cv, rfl, d1, ⟨a, ea, hit'⟩, hs⟩
    · cases hr
  | rng x left =>
    simp only [nextS] at hr
    cases left with
    | zero =>
      cases hr
      exact wpAny_pyNext_range_end Ro.handled hi (Int.le_refl _) fun h' hs => k none h' s.toks hs rfl
    | succ l =>
      cases hr
      refine wpAny_pyNext_range_item hi (by omega) fun h' hit' hs => k _ h' (s.toks + 1) hs.extBut ⟨_, rfl, by unfold Den; exact ⟨_, rfl⟩, ?_, hs⟩
      have : ((l + 1 : Nat) : Int) - 1 = (l : Int) := by omega
      rw [this] at hit'; exact hit'

theorem ItAt.fz {η h it src} (hi : ItAt η h it src) : ∀ o, h.get? it = some o → frozen o = false := by
  intro o e
  cases src with
  | lst i k => obtain ⟨a, _, o', e', hc, hd⟩ := hi; rw [e] at e'; cases e'; unfold frozen; rw [hd, hc]; rfl
  | rng x l => rw [show h.get? it = some _ from hi] at e; cases e; rfl
theorem ItAt.live {η h it src} (hi : ItAt η h it src) : ∃ o, h.get? it = some o := by
  cases src with
  | lst i k => obtain ⟨a, _, o', e', _⟩ := hi; exact ⟨o', e'⟩
  | rng x l => exact ⟨_, hi⟩
theorem ItAt.keep {η h η' h' it src} (hi : ItAt η h it src) (pre : η <+: η') (k : ∀ o, h.get? it = some o → h'.get? it = some o) : ItAt η' h' it src := by
  cases src with
  | lst i j =>
    obtain ⟨a, ea, o, e, r⟩ := hi
    obtain ⟨t, ht⟩ := pre
    exact ⟨a, by rw [← ht, List.getElem?_append_left (List.getElem?_eq_some_iff.mp ea).1]; exact ea, o, k o e, r⟩
  | rng x l => exact k _ hi

theorem Rel.noT {X η H h} (r : Rel X η H h) {a : Addr} (h0 : X.h₀.get? a = none) : a ∉ X.T := fun ha => by
  obtain ⟨ps, more, ⟨e, _⟩, _⟩ := r.tab a ha
  rw [h0] at e; cases e

theorem Aside.adv {η s η' s' it H} (x : Aside X env η s.heap it) (a : Adv X env η s η' s') (re : Rel X η H s.heap) (hl : ∃ o, s.heap.get? it = some o) : Aside X env η' s'.heap it := by
  obtain ⟨o, e⟩ := hl
  have e' := a.keep it o e x.nη x.nL x.nC (re.noT x.old)
  refine ⟨x.old, fun hh => ?_, x.nL, x.nC, fun o' q => ?_⟩
  · rcases a.new it hh with h | h
    · exact x.nη h
    · rw [e] at h; cases h
  · rw [e'] at q; cases q; exact x.fz o e

/-- the same state but for an object that stands aside -/
theorem Aside.rel {η h h' it} (x : Aside X env η h it) (re : Rel X η H h) (eo : EnvOk X env η m h) (hs : Heap.ExtBut it h h') : Rel X η H h' ∧ EnvOk X env η m h' := by
  have K : Keeps' X η h η h' := ⟨fun b o e f => hs b o (fun q => by subst q; rw [x.fz o e] at f; cases f) e, List.prefix_refl _⟩
  refine ⟨⟨fun b o e nt => hs b o (fun q => by subst q; rw [x.old] at e; cases e) (re.low b o e nt), fun b hb => ?_, re.len, re.nd, re.hi, fun i c e => ?_⟩, eo.move K (fun o e => hs _ o (Ne.symm x.nL) e) (fun p hp o e => hs _ o (fun q => x.nC (List.mem_map.mpr ⟨p, hp, q⟩)) e) fun _ h => .inl h⟩
  · obtain ⟨ps, more, e1, e2⟩ := re.tab b hb
    exact ⟨ps, more, e1, hs _ _ (fun q => by subst q; have z := e1.1; rw [x.old] at z; cases z) e2⟩
  · obtain ⟨a, o, e1, e2, e3⟩ := re.cells i c e
    exact ⟨a, o, e1, hs _ _ (fun q => by subst q; exact x.nη (List.mem_of_getElem? e1)) e2, e3.keeps K⟩
theorem Adv.aside {η₀ s₀ η s it h' tk} (a : Adv X env η₀ s₀ η s) (h0 : s₀.heap.get? it = none) (hs : Heap.ExtBut it s.heap h') : Adv X env η₀ s₀ η { s with heap := h', toks := tk } where
  keep := fun b o e h1 h2 h3 h4 => hs b o (fun q => by subst q; rw [h0] at e; cases e) (a.keep b o e h1 h2 h3 h4)
  live := fun b o e => let ⟨o', e'⟩ := a.live b o e; ⟨o', hs b o' (fun q => by subst q; rw [h0] at e; cases e) e'⟩
  pre := a.pre
  new := a.new
  gsz := a.gsz
  gen := a.gen
  bare := a.bare
  os := a.os

/-- a value goes to a target -/
abbrev TA (X : Cx) (n : Nat) (env : Env) (m : Loc) (H : List Cell) (target : Expr) (v : V) (N : Loc → List Cell → Prop) : Prop :=
  ∀ cv, TriP X n env (fun _ _ (_ : Unit) (_ : Unit) => True) (fun η h => Den X η h v cv) m H (assign target env cv) (fun _ => N)
theorem ta_Name {x pos v m'} {N : Loc → List Cell → Prop} (hu : UpdL m x v m') (q : N m' H) (hfree : env.kindOf x ≠ some .free := by with_unfolding_all decide) : TA X n env m H (.Name x pos) v N :=
  fun cv A η s C E Ro r e d k => wpAny_assign_Name (tri_store hu q hfree A η s C E Ro r e d k)

theorem letOwned {M : Model} {A : Around} {target : Expr} {η s it src v} {C : Unit → Shared → Prop} {E} (hi : ItAt η s.heap it src) (h : C () s) : wpAny M A (letOwnedTupleGo target (.ref it) v) C E s := by
  have go : ∀ a, wpAny M A (do
      let o ← load it
      match o.cls, o.data with
      | .type n, .fields vs =>
        if ["enumerate", "zip", "dict_itemiterator", "dict_reverseitemiterator", "odict_iterator", "itertools.zip_longest", "itertools.pairwise"].contains n && vs[0]? == some (rawInt a) then
          rule "for.unpacks-the-owned-tuple"
          updateField it 0 .none
      | _, _ => pure ()) C E s := fun a => by
    cases src with
    | lst i k =>
      obtain ⟨_, _, o', e', hc, hd⟩ := hi
      refine wpAny_bind (wpAny_load e' ?_)
      rw [hc, hd]
      exact wpAny_pure h
    | rng x l =>
      refine wpAny_bind (wpAny_load (show s.heap.get? it = some _ from hi) ?_)
      exact wpAny_pure h
  cases target <;> first | exact wpAny_pure h | (cases v <;> first | exact wpAny_pure h | exact go _)

/-- a for loop about to turn -/
def TF (X : Cx) (n : Nat) (env : Env) (m : Loc) (H : List Cell) (target : Expr) (body : List Stmt) (src : Src) (N : Loc → List Cell → Prop) (R : V → Loc → List Cell → Prop) : Prop :=
  ∀ (A : Around) (η : List Addr) (s : Shared) (C : Flow → Shared → Prop) (it : Addr) (η₀ : List Addr) (s₀ : Shared), Room A n → Rel X η H s.heap → EnvOk X env η m s.heap →
    ItAt η s.heap it src → Aside X env η s.heap it → Adv X env η₀ s₀ η s → s₀.heap.get? it = none →
    (∀ b m' H' a η' s', FQ.at N (fun _ _ => False) (fun _ _ => False) R b m' H' → DenF X η' s'.heap b a → Rel X η' H' s'.heap → EnvOk X env η' m' s'.heap → Adv X env η₀ s₀ η' s' → C a s') →
    codeAny (model X.prog X.w) A (.forLoop target (.ref it) body [] env) (fun r s' => match r with | .ok f => C f s' | .error _ => False) s

theorem tf_turn {target body src r N R} (hr : nextS H src = some r) (h : match r with
      | none => N m H
      | some (v, src') => TA X n env m H target v fun m H => TS X n env m H (execs body env) (fun m H => TF X n env m H target body src' N R) N (fun m H => TF X n env m H target body src' N R) R) : TF X n env m H target body src N R := by
  intro A η s C it η₀ s₀ Ro re e hi ha ad h0 k
  refine codeAny_of_tree ?_
  show wpAny _ A ((forTurn target (.ref it) body [] env).onRaise (fun x => do noteFrame x env; theTreesLotGoes x)) _ _ s
  refine wpAny_onRaise (wpAny_noErr ?_)
  simp only [forTurn]
  refine wpAny_bind (wpAny_standAt (wpAny_bind (wpAny_onRaise (wpAny_noErr (pyNext_ok Ro re hr hi fun ov h' tk hx hm => ?_)))))
  obtain ⟨re', e'⟩ := ha.rel re e hx
  have ad' := ad.aside (tk := tk) h0 hx
  cases r with
  | none =>
    cases hm
    exact wpAny_pure ⟨rfl, codeAny_block (wpAny_execs_nil (k .next m H _ η _ h (by unfold DenF; rfl) re' e' ad'))⟩
  | some p =>
    obtain ⟨v, src'⟩ := p
    obtain ⟨cv, rfl, d, hi', hs⟩ := hm
    have K : Keeps' X η s.heap η h' := ⟨fun b o e f => hx b o (fun q => by subst q; rw [ha.fz o e] at f; cases f) e, List.prefix_refl _⟩
    have ha' : Aside X env η h' it := ⟨ha.old, ha.nη, ha.nL, ha.nC, hi'.fz⟩
    refine wpAny_bind (letOwned (s := { s with heap := h', toks := tk }) hi' ?_)
    refine wpAny_bind (h cv A η _ _ _ Ro re' e' (Den.keeps K v d) fun _ m1 H1 _ η1 s1 q1 _ r1 e1 a1 => ?_)
    have live : ∃ o, h'.get? it = some o := hi'.live
    have keep1 : ∀ o, h'.get? it = some o → s1.heap.get? it = some o := fun o q => a1.keep it o q ha.nη ha.nL ha.nC (re'.noT ha.old)
    have ha1 := ha'.adv (s := { s with heap := h', toks := tk }) a1 re' live
    have hi1 := hi'.keep a1.pre keep1
    refine wpAny_bind (q1 A η1 s1 _ _ Ro r1 e1 trivial fun f m2 H2 c η2 s2 q2 d2 r2 e2 a2 => ?_)
    have keep2 : ∀ o, s1.heap.get? it = some o → s2.heap.get? it = some o := fun o q => a2.keep it o q ha1.nη ha1.nL ha1.nC (r1.noT ha1.old)
    have ha2 := ha1.adv a2 r1 hi1.live
    have hi2 := hi1.keep a2.pre keep2
    have ad2 := (ad'.trans a1).trans a2
    cases f with
    | next => unfold DenF at d2; subst d2; exact wpAny_pure ⟨rfl, q2 A η2 s2 _ it η₀ s₀ Ro r2 e2 hi2 ha2 ad2 h0 k⟩
    | cont => unfold DenF at d2; subst d2; exact wpAny_pure ⟨rfl, q2 A η2 s2 _ it η₀ s₀ Ro r2 e2 hi2 ha2 ad2 h0 k⟩
    | brk => unfold DenF at d2; subst d2; exact wpAny_pure (k .next m2 H2 _ η2 s2 q2 (by unfold DenF; rfl) r2 e2 ad2)
    | ret v => unfold DenF at d2; obtain ⟨cv, rfl, d⟩ := d2; exact wpAny_pure (k (.ret v) m2 H2 _ η2 s2 q2 (by unfold DenF; exact ⟨cv, rfl, d⟩) r2 e2 ad2)
end
end Mine
end
section
open PySem PySem.W PyProof.Rows PySem.Calls
set_option Elab.async false
set_option maxRecDepth 100000
set_option linter.unusedVariables false
namespace Mine
section
variable {α β : Type} {X : Cx} {n : Nat} {env : Env} {m : Loc} {H : List Cell}

theorem Rel.fresh {X η H h} (r : Rel X η H h) : X.h₀.get? h.objs.size = none ∧ h.objs.size ∉ η := by
  refine ⟨?_, fun ha => ?_⟩
  · cases q : X.h₀.get? h.objs.size with
    | none => rfl
    | some o =>
      by_cases ht : h.objs.size ∈ X.T
      · obtain ⟨_, _, _, e⟩ := r.tab _ ht
        exact absurd (Heap.lt_size e) (Nat.lt_irrefl _)
      · exact absurd (Heap.lt_size (r.low _ _ q ht)) (Nat.lt_irrefl _)
  · obtain ⟨_, _, o, _, _, e, _⟩ := r.at_η ha
    exact absurd (Heap.lt_size e) (Nat.lt_irrefl _)

theorem get_size_none (h : Heap) : h.get? h.objs.size = none := by
  cases q : h.get? h.objs.size with
  | none => rfl
  | some o => exact absurd (Heap.lt_size q) (Nat.lt_irrefl _)

theorem keeps_alloc {X η} {h : Heap} (o : Obj) : Keeps' X η h (η ++ [h.objs.size]) (h.push o) :=
  ⟨fun a o' e _ => Heap.get?_push_of_some _ e, ⟨[h.objs.size], rfl⟩⟩

/-- a new cell -/
theorem alloc_ok {η : List Addr} {s : Shared} {c : Cell} {o : Obj} {tk : Nat} (re : Rel X η H s.heap) (e : EnvOk X env η m s.heap) (hf : o.isFreed = false) (ok : CellOk X (η ++ [s.heap.objs.size]) (s.heap.push o) c o) :
    Rel X (η ++ [s.heap.objs.size]) (H ++ [c]) (s.heap.push o) ∧ EnvOk X env (η ++ [s.heap.objs.size]) m (s.heap.push o) ∧ Adv X env η s (η ++ [s.heap.objs.size]) { s with heap := s.heap.push o, toks := tk } := by
  have K := keeps_alloc (X := X) (η := η) (h := s.heap) o
  have ext : ∀ b o', s.heap.get? b = some o' → (s.heap.push o).get? b = some o' := fun b o' q => Heap.get?_push_of_some _ q
  have f := re.fresh
  refine ⟨⟨fun b o' q nt => ext _ _ (re.low b o' q nt), fun b hb => ?_, by simp [re.len], ?_, fun a ha => ?_, fun i c' q => ?_⟩, e.move K (fun o' q => ext _ _ q) (fun p _ o' q => ext _ _ q) (fun a ha => ?_), ⟨fun b o' q _ _ _ _ => ext _ _ q, fun b o' q => ⟨o', ext _ _ q⟩, ⟨_, rfl⟩, fun a ha => ?_, Nat.le_refl _, fun _ _ q => q, fun i y hi q => ?_, rfl⟩⟩
  · obtain ⟨ps, more, e1, e2⟩ := re.tab b hb; exact ⟨ps, more, e1, ext _ _ e2⟩
  · rw [List.nodup_append]
    exact ⟨re.nd, by simp, fun a ha b hb q => by simp at hb; subst hb; subst q; exact f.2 ha⟩
  · rcases List.mem_append.mp ha with h1 | h1
    · exact re.hi a h1
    · simp at h1; subst h1; exact f.1
  · rcases Nat.lt_or_ge i H.length with hlt | hge
    · rw [List.getElem?_append_left hlt] at q
      obtain ⟨a, o', e1, e2, e3⟩ := re.cells i c' q
      exact ⟨a, o', by rw [List.getElem?_append_left (re.len ▸ hlt)]; exact e1, ext _ _ e2, e3.keeps K⟩
    · rw [List.getElem?_append_right hge] at q
      have hi : i - H.length = 0 := by
        rcases Nat.eq_zero_or_pos (i - H.length) with h1 | h1
        · exact h1
        · rw [List.getElem?_eq_none (by simp; omega)] at q; cases q
      rw [hi] at q; simp at q; subst q
      refine ⟨s.heap.objs.size, o, ?_, Heap.get?_push_size _ hf, ok⟩
      rw [List.getElem?_append_right (by rw [re.len]; exact hge), re.len, hi]; rfl
  · rcases List.mem_append.mp ha with h1 | h1
    · exact .inl h1
    · simp at h1; subst h1; exact .inr (get_size_none _)
  · rcases List.mem_append.mp ha with h1 | h1
    · exact .inl h1
    · simp at h1; subst h1; exact .inr (get_size_none _)
  · rw [show ({ s with heap := s.heap.push o, toks := tk } : Shared).gens = s.gens from rfl, Array.getElem?_eq_none hi] at q; cases q

/-- a new object that is no cell -/
theorem push_ok {η : List Addr} {s : Shared} {o : Obj} {tk : Nat} (re : Rel X η H s.heap) (e : EnvOk X env η m s.heap) :
    Rel X η H (s.heap.push o) ∧ EnvOk X env η m (s.heap.push o) ∧ Adv X env η s η { s with heap := s.heap.push o, toks := tk } :=
  have ext : ∀ b o', s.heap.get? b = some o' → (s.heap.push o).get? b = some o' := fun b o' q => Heap.get?_push_of_some _ q
  ⟨re.ext ext, e.ext ext, Adv.ofExt ext⟩

theorem tn_newList {vs : List V} {Q : V → Loc → List Cell → Prop} (hl : vs.length ≤ sizeLine) (q : Q (.loc H.length) m (H ++ [.list vs])) : TN X n env m H newList vs Q := by
  intro cvs A η s C E Ro re e d k
  have hlen := denL_length d
  refine wpAny_newObj_type ?_ (by show cvs.toArray.size ≤ sizeLine; rw [List.size_toArray, hlen]; exact hl)
  have ok : CellOk X (η ++ [s.heap.objs.size]) (s.heap.push { cls := .type "list", data := .seq cvs.toArray }) (.list vs) { cls := .type "list", data := .seq cvs.toArray } :=
    ⟨cvs, 0, rfl, hl, DenL.keeps (keeps_alloc _) vs d⟩
  obtain ⟨re', e', ad⟩ := alloc_ok (tk := s.toks) re e rfl ok
  exact k (.loc H.length) m _ _ _ _ q (by unfold Den; exact ⟨_, rfl, by rw [← re.len, List.getElem?_append_right (Nat.le_refl _)]; simp⟩) re' e' ad

theorem tn_newTuple {vs : List V} {Q : V → Loc → List Cell → Prop} (hl : vs.length ≤ sizeLine) (q : Q (.tup vs) m H) : TN X n env m H newTuple vs Q := by
  intro cvs A η s C E Ro re e d k
  have hlen := denL_length d
  refine wpAny_newObj_type ?_ (by show cvs.toArray.size ≤ sizeLine; rw [List.size_toArray, hlen]; exact hl)
  obtain ⟨re', e', ad⟩ := push_ok (tk := s.toks) (o := { cls := .type "tuple", data := .seq cvs.toArray }) re e
  refine k (.tup vs) m _ _ _ _ q ?_ re' e' ad
  unfold Den
  exact ⟨_, cvs, 0, rfl, Heap.get?_push_size _ rfl, hl, DenL.keeps (.ofExt fun b o' q => Heap.get?_push_of_some _ q) vs d⟩

/-- arguments, items of a display -/
abbrev TX (X : Cx) (n : Nat) (env : Env) (m : Loc) (H : List Cell) (pos : Pos) (es : List Expr) (Q : List V → Loc → List Cell → Prop) : Prop := TL X n env m H (spliced (backTo pos (starEach es env))) Q
theorem tx_nil {pos} {Q : List V → Loc → List Cell → Prop} (q : Q [] m H) : TX X n env m H pos [] Q := TriP.pure (b := ([] : List V)) (fun _ _ _ => by unfold DenL; rfl) q
theorem tx_cons {pos e rest} {Q : List V → Loc → List Cell → Prop} (h : TE X n env m H (eval e env) fun v m H => TX X n env m H pos rest fun vs m H => Q (v :: vs) m H)
    (hs : backTo pos (starEach (e :: rest) env) = (false, eval e env) :: backTo pos (starEach rest env) := by rfl) : TX X n env m H pos (e :: rest) Q := by
  intro A η s C E Ro re ev _ k
  rw [hs]
  refine spliced_cons (h A η s _ E Ro re ev trivial fun v m1 H1 a η1 s1 q1 d1 r1 e1 a1 => ?_)
  refine q1 A η1 s1 _ E Ro r1 e1 trivial fun vs m2 H2 b η2 s2 q2 d2 r2 e2 a2 => ?_
  exact k (v :: vs) m2 H2 _ η2 s2 q2 (by unfold DenL; exact ⟨a, b, rfl, a2.den r1 e1 d1, d2⟩) r2 e2 (a1.trans a2)

theorem tri_List {elts pos} {Q : V → Loc → List Cell → Prop} (h : TX X n env m H pos elts fun vs m H => vs.length ≤ sizeLine ∧ Q (.loc H.length) m (H ++ [.list vs])) : TE X n env m H (eval (.List elts pos) env) Q := by
  intro A η s C E Ro re ev _ k
  refine List_ (h A η s _ E Ro re ev trivial fun vs m1 H1 b η1 s1 q1 d1 r1 e1 a1 => ?_)
  exact tn_newList q1.1 q1.2 b A η1 s1 C E Ro r1 e1 d1 fun v m' H' c η' s' q d r' e' a' => k v m' H' c η' s' q d r' e' (a1.trans a')
theorem tri_Tuple {elts kk pos} {Q : V → Loc → List Cell → Prop} (h : TX X n env m H pos elts fun vs m H => vs.length ≤ sizeLine ∧ Q (.tup vs) m H) : TE X n env m H (eval (.Tuple elts kk pos) env) Q := by
  intro A η s C E Ro re ev _ k
  refine Tuple_ (h A η s _ E Ro re ev trivial fun vs m1 H1 b η1 s1 q1 d1 r1 e1 a1 => ?_)
  exact tn_newTuple q1.1 q1.2 b A η1 s1 C E Ro r1 e1 d1 fun v m' H' c η' s' q d r' e' a' => k v m' H' c η' s' q d r' e' (a1.trans a')

theorem subscripted_is (slice : Expr) (o i : Value) : ∃ ops, subscripted slice false o i = operate ops (getItem o i) := by
  unfold subscripted
  split
  · exact ⟨_, rfl⟩
  · rename_i h; simp at h
  · exact ⟨_, rfl⟩

theorem tri_Subscript {value slice pos} {Q : V → Loc → List Cell → Prop} (h : TE X n env m H (eval value env) fun v m H => TE X n env m H (eval slice env) fun u m H => T2 X n env m H (subscriptTail value slice) v u Q) :
    TE X n env m H (eval (.Subscript value slice pos) env) Q := by
  intro A η s C E R r e _ k
  refine Subscript_ (h A η s _ E R r e trivial fun v m1 H1 a η1 s1 q1 d1 r1 e1 a1 => ?_)
  refine q1 A η1 s1 _ E R r1 e1 trivial fun u m2 H2 b η2 s2 q2 d2 r2 e2 a2 => ?_
  exact q2 a b A η2 s2 _ E R r2 e2 ⟨a2.den r1 e1 d1, d2⟩ fun v' m' H' c η' s' q d r' e' a' => k v' m' H' c η' s' q d r' e' (a1.trans (a2.trans a'))

theorem t2_item_list {value slice : Expr} {i : Nat} {xs : List V} {k : Int} {v : V} {Q : V → Loc → List Cell → Prop} (e : H[i]? = some (.list xs)) (h0 : 0 ≤ k) (hv : xs[k.toNat]? = some v) (q : Q v m H) : T2 X n env m H (subscriptTail value slice) (.loc i) (.int k) Q := by
  intro a b A η s C E Ro re ev ⟨da, db⟩ kk
  unfold Den at da db
  obtain ⟨a, rfl, ea⟩ := da
  obtain ⟨t, rfl⟩ := db
  obtain ⟨vs, hl, d, hb⟩ := re.list e ea
  obtain ⟨cv, e1, d1⟩ := (denL_get d k.toNat).1 v hv
  have hk : k.toNat < xs.length := (List.getElem?_eq_some_iff.mp hv).1
  rw [sizeLine_eq] at hb
  obtain ⟨ops, hs⟩ := subscripted_is slice (.ref a) (.int k t)
  exact tail_any hl.typeIs slot_list_getitem.lookup (wpAny_getItem_list hl h0 (by omega) (by simpa using e1) (kk v m H cv η s q d1 re ev (.refl ..))) hs

theorem t2_item_last {value slice : Expr} {i : Nat} {xs : List V} {k : Int} {v : V} {Q : V → Loc → List Cell → Prop} (e : H[i]? = some (.list xs)) (h0 : k < 0) (h1 : -(xs.length : Int) ≤ k) (hv : xs[(k + xs.length).toNat]? = some v) (q : Q v m H) : T2 X n env m H (subscriptTail value slice) (.loc i) (.int k) Q := by
  intro a b A η s C E Ro re ev ⟨da, db⟩ kk
  unfold Den at da db
  obtain ⟨a, rfl, ea⟩ := da
  obtain ⟨t, rfl⟩ := db
  obtain ⟨vs, hl, d, hb⟩ := re.list e ea
  have hlen := denL_length d
  obtain ⟨cv, e1, d1⟩ := (denL_get d (k + xs.length).toNat).1 v hv
  rw [sizeLine_eq] at hb
  obtain ⟨ops, hs⟩ := subscripted_is slice (.ref a) (.int k t)
  exact tail_any hl.typeIs slot_list_getitem.lookup (wpAny_getItem_list_neg hl h0 (by simp [hlen]; exact h1) (by omega) (by simp [hlen]; simpa using e1) (kk v m H cv η s q d1 re ev (.refl ..))) hs

theorem t2_item_tup {value slice : Expr} {xs : List V} {k : Int} {v : V} {Q : V → Loc → List Cell → Prop} (h0 : 0 ≤ k) (hv : xs[k.toNat]? = some v) (q : Q v m H) : T2 X n env m H (subscriptTail value slice) (.tup xs) (.int k) Q := by
  intro a b A η s C E Ro re ev ⟨da, db⟩ kk
  unfold Den at da db
  obtain ⟨a, vs, _, rfl, ht, hz, d⟩ := da
  have ht := isTuple_of ht
  obtain ⟨t, rfl⟩ := db
  obtain ⟨cv, e1, d1⟩ := (denL_get d k.toNat).1 v hv
  have hlen := denL_length d
  have hk' : k.toNat < xs.length := (List.getElem?_eq_some_iff.mp hv).1
  obtain ⟨ops, hs⟩ := subscripted_is slice (.ref a) (.int k t)
  exact tail_any ht.typeIs slot_tuple_getitem.lookup (getItem_tuple ht (by omega) (by rw [sizeLine_eq] at hz; omega) (j := k.toNat) (by simp [seqIndex?, hlen]; omega) (by simpa using e1) (kk v m H cv η s q d1 re ev (.refl ..))) hs

theorem t2_item_str {value slice : Expr} {xs : List Nat} {k : Int} {c : Nat} {Q : V → Loc → List Cell → Prop} (h0 : 0 ≤ k) (hk : k < 2 ^ 63) (hv : xs[k.toNat]? = some c) (q : Q (.str [c]) m H) : T2 X n env m H (subscriptTail value slice) (.str xs) (.int k) Q := by
  intro a b A η s C E Ro re ev ⟨da, db⟩ kk
  unfold Den at da db
  obtain ⟨t, rfl⟩ := da
  obtain ⟨t', rfl⟩ := db
  have hk' : k.toNat < xs.length := (List.getElem?_eq_some_iff.mp hv).1
  obtain ⟨ops, hs⟩ := subscripted_is slice (.str ⟨xs.toArray⟩ t) (.int k t')
  refine tail_any (typeIs_str _ _ _) F.slot_str_getitem.lookup (P.getItem_str (c := c) ?_ ?_ (kk (.str [c]) m H _ η _ q (by unfold Den; exact ⟨_, rfl⟩) re ev (Adv.ofExt fun _ _ x => x))) hs
  · simp; omega
  · have : seqIndex? k (PySem.Str.length ⟨xs.toArray⟩) = some k.toNat := by simp [seqIndex?, PySem.Str.length]; omega
    rw [this]; simpa using hv
end
end Mine
end
section
open PySem PySem.W PyProof.Rows PySem.Calls
set_option Elab.async false
set_option maxRecDepth 100000
set_option linter.unusedVariables false
namespace Mine

theorem Rel.kin {X η H h} (r : Rel X η H h) : X.K.In h := fun a o e => r.low a o (X.kin a o e) (X.kT a o e)
theorem Rel.g {X η H h} (r : Rel X η H h) : h.Ns mainGlobals X.mg := X.g.at' fun o e => r.low _ o e X.gT
theorem Rel.b {X η H h} (r : Rel X η H h) : h.Ns builtinsNs X.mb := X.b.at' fun o e => r.low _ o e X.bT
theorem Rel.nolimit {X η H h} (r : Rel X η H h) : h.NoLimit := let ⟨mc, ns, q⟩ := X.nolimit; ⟨mc, ns.at' fun o e => r.low _ o e X.sT, q⟩

/-- the names that a frame holds itself -/
def isLC : NameKind → Bool
  | .local => true
  | .cell => true
  | _ => false
def initL : List (Str × NameKind) → List V → Loc
  | [], _ => []
  | (x, .local) :: r, v :: vs => (x, some v) :: initL r vs
  | (x, .cell) :: r, v :: vs => (x, some v) :: initL r vs
  | (x, .local) :: r, [] => (x, none) :: initL r []
  | (x, .cell) :: r, [] => (x, none) :: initL r []
  | _ :: r, vs => initL r vs

/-- a look at a def's scope -/
def okScope (sc : Scope) (names : List Str) : Bool :=
  sc.kind == .function && !sc.isCoroutine && !sc.isGenerator && decide ((sc.names.map (·.1)).Nodup) &&
  ((sc.names.filter fun x => isLC x.2).map (·.1)).take names.length == names &&
  sc.names.all fun x => x.1 != ("__debug__" : Str) && x.1 != ("__classdict__" : Str)

theorem lookup_of_mem {α β : Type} [BEq α] [LawfulBEq α] : ∀ {l : List (α × β)}, (l.map (·.1)).Nodup → ∀ {x : α} {k : β}, (x, k) ∈ l → l.lookup x = some k
  | [], _, _, _, h => by cases h
  | (y, j) :: l, nd, x, k, h => by
    rw [List.map_cons, List.nodup_cons] at nd
    rcases List.mem_cons.mp h with e | e
    · cases e; simp
    · have : x ≠ y := fun q => nd.1 (q ▸ List.mem_map.mpr ⟨_, e, rfl⟩)
      rw [List.lookup_cons, beq_eq_false_iff_ne.mpr this]
      exact lookup_of_mem nd.2 e

theorem initL_mem : ∀ {l : List (Str × NameKind)} {vs : List V} {x : Str} {ov : Option V}, (x, ov) ∈ initL l vs → (x, .local) ∈ l ∨ (x, .cell) ∈ l
  | [], vs, x, ov, h => by unfold initL at h; cases h
  | (y, k) :: l, vs, x, ov, h => by
    cases k <;> cases vs <;> simp only [initL, List.mem_cons] at h ⊢ <;>
      first
      | (rcases h with h | h
         · cases h; simp
         · rcases initL_mem h with q | q <;> simp [q])
      | (rcases initL_mem h with q | q <;> simp [q])

theorem initL_nd : ∀ {l : List (Str × NameKind)} {vs : List V}, (l.map (·.1)).Nodup → ((initL l vs).map (·.1)).Nodup
  | [], vs, _ => by unfold initL; exact List.nodup_nil
  | (y, k) :: l, vs, nd => by
    rw [List.map_cons, List.nodup_cons] at nd
    have no : ∀ vs, y ∉ (initL l vs).map (·.1) := fun vs h => by
      obtain ⟨p, hp, e⟩ := List.mem_map.mp h
      obtain ⟨z, ov⟩ := p
      simp at e; subst e
      rcases initL_mem hp with q | q <;> exact nd.1 (List.mem_map.mpr ⟨_, q, rfl⟩)
    cases k <;> cases vs <;> simp only [initL, List.map_cons, List.nodup_cons] <;> first | exact ⟨no _, initL_nd nd.2⟩ | exact initL_nd nd.2

/-- the bound ones: the first names, with their values -/
theorem initL_some : ∀ {l : List (Str × NameKind)} {names : List Str} {vs : List V} {x : Str} {v : V}, ((l.filter fun x => isLC x.2).map (·.1)).take names.length = names → vs.length = names.length → (x, some v) ∈ initL l vs → (x, v) ∈ names.zip vs
  | [], names, vs, x, v, _, _, h => by unfold initL at h; cases h
  | (y, k) :: l, names, vs, x, v, hn, hl, h => by
    have skip : isLC k = false → initL ((y, k) :: l) vs = initL l vs := fun q => by cases k <;> cases vs <;> first | rfl | (simp [isLC] at q)
    cases hk : isLC k with
    | false =>
      rw [skip hk] at h
      rw [List.filter_cons_of_neg (by simp [hk])] at hn
      exact initL_some hn hl h
    | true =>
      rw [List.filter_cons_of_pos (by simp [hk]), List.map_cons] at hn
      cases vs with
      | nil =>
        have : initL ((y, k) :: l) [] = (y, none) :: initL l [] := by cases k <;> first | rfl | (simp [isLC] at hk)
        rw [this] at h
        rcases List.mem_cons.mp h with e | e
        · cases e
        · have hnn : names = [] := List.length_eq_zero_iff.mp (by simpa using hl.symm)
          subst hnn
          exact initL_some (names := []) (by simp) rfl e
      | cons u vs =>
        cases names with
        | nil => simp at hl
        | cons z names =>
          have : initL ((y, k) :: l) (u :: vs) = (y, some u) :: initL l vs := by cases k <;> first | rfl | (simp [isLC] at hk)
          rw [this] at h
          rw [List.length_cons, List.take_succ_cons] at hn
          injection hn with hz hn
          subst hz
          rcases List.mem_cons.mp h with e | e
          · cases e; exact .head _
          · exact .tail _ (initL_some hn (by simpa using hl) e)

theorem bindL_get {k : Str → Option NameKind} : ∀ {binds : List (Str × Value)} {m : Str → Option Value}, (binds.map (·.1)).Nodup → ∀ {x v}, (x, v) ∈ binds → k x = some .local → bindL k binds m x = some v
  | [], _, _, _, _, h, _ => by cases h
  | (y, u) :: r, m, nd, x, v, h, hk => by
    rw [List.map_cons, List.nodup_cons] at nd
    unfold bindL
    have off : ∀ (r : List (Str × Value)) (m : Str → Option Value) (x : Str), x ∉ r.map (·.1) → bindL k r m x = m x := by
      intro r
      induction r with
      | nil => intro m x _; rfl
      | cons p r ih =>
        intro m x hx
        obtain ⟨z, w⟩ := p
        simp only [List.map_cons, List.mem_cons, not_or] at hx
        unfold bindL
        rw [ih _ _ hx.2]
        split
        · simp [hx.1]
        · rfl
    rcases List.mem_cons.mp h with e | e
    · cases e
      rw [off r _ _ nd.1, if_pos hk]; simp
    · exact bindL_get nd.2 e hk
theorem bindC_get {k : Str → Option NameKind} : ∀ {binds : List (Str × Value)} {m : Str → Option Value}, (binds.map (·.1)).Nodup → ∀ {x v}, (x, v) ∈ binds → k x ≠ some .local → bindC k binds m x = some v
  | [], _, _, _, _, h, _ => by cases h
  | (y, u) :: r, m, nd, x, v, h, hk => by
    rw [List.map_cons, List.nodup_cons] at nd
    unfold bindC
    have off : ∀ (r : List (Str × Value)) (m : Str → Option Value) (x : Str), x ∉ r.map (·.1) → bindC k r m x = m x := by
      intro r
      induction r with
      | nil => intro m x _; rfl
      | cons p r ih =>
        intro m x hx
        obtain ⟨z, w⟩ := p
        simp only [List.map_cons, List.mem_cons, not_or] at hx
        unfold bindC
        rw [ih _ _ hx.2]
        split
        · rfl
        · simp [hx.1]
    rcases List.mem_cons.mp h with e | e
    · cases e
      rw [off r _ _ nd.1, if_neg hk]; simp
    · exact bindC_get nd.2 e hk

theorem cellsFrom_names : ∀ (names : List (Str × NameKind)) (n : Nat) (acc : List (Str × Addr)) (p : Str × Addr), p ∈ cellsFrom n names acc → p ∈ acc ∨ (p.1, NameKind.cell) ∈ names
  | [], _, _, _, h => .inl h
  | (y, k) :: r, n, acc, p, h => by
    unfold cellsFrom at h
    split at h
    · rename_i hk
      rcases cellsFrom_names r _ _ p h with q | q
      · rcases List.mem_cons.mp q with e | e
        · subst e; rw [eq_of_beq hk]; exact .inr (.head _)
        · exact .inl e
      · exact .inr (.tail _ q)
    · rcases cellsFrom_names r _ _ p h with q | q
      · exact .inl q
      · exact .inr (.tail _ q)
theorem cellsFrom_nd : ∀ (names : List (Str × NameKind)) (n : Nat) (acc : List (Str × Addr)), (names.map (·.1)).Nodup → (acc.map (·.1)).Nodup → (∀ x ∈ names, x.1 ∉ acc.map (·.1)) → ((cellsFrom n names acc).map (·.1)).Nodup
  | [], _, _, _, h, _ => h
  | (y, k) :: r, n, acc, nd, ha, hd => by
    rw [List.map_cons, List.nodup_cons] at nd
    unfold cellsFrom
    split
    · refine cellsFrom_nd r _ _ nd.2 ?_ fun x hx => ?_
      · rw [List.map_cons, List.nodup_cons]; exact ⟨hd _ (.head _), ha⟩
      · rw [List.map_cons, List.mem_cons, not_or]
        exact ⟨fun q => nd.1 (q ▸ List.mem_map.mpr ⟨x, hx, rfl⟩), hd x (.tail _ hx)⟩
    · exact cellsFrom_nd r _ _ nd.2 ha fun x hx => hd x (.tail _ hx)

theorem denL_zip {X η h} : ∀ {names : List Str} {vs : List V} {cvs : List Value} {x : Str} {v : V}, DenL X η h vs cvs → (x, v) ∈ names.zip vs → ∃ cv, (x, cv) ∈ names.zip cvs ∧ Den X η h v cv
  | [], _, _, _, _, _, h => by cases h
  | _ :: _, [], _, _, _, _, h => by cases h
  | y :: names, u :: vs, cvs, x, v, d, h => by
    unfold DenL at d
    obtain ⟨cu, cvs', rfl, d1, d2⟩ := d
    rcases List.mem_cons.mp h with e | e
    · cases e; exact ⟨cu, .head _, d1⟩
    · obtain ⟨cv, hm, dv⟩ := denL_zip d2 e
      exact ⟨cv, .tail _ hm, dv⟩
theorem denL_append {X η h} : ∀ {xs ys : List V} {vs ws : List Value}, DenL X η h xs vs → DenL X η h ys ws → DenL X η h (xs ++ ys) (vs ++ ws)
  | [], ys, vs, ws, d, e => by unfold DenL at d; subst d; exact e
  | x :: xs, ys, vs, ws, d, e => by
    unfold DenL at d
    obtain ⟨cu, cvs', rfl, d1, d2⟩ := d
    show DenL X η h (x :: (xs ++ ys)) (cu :: (cvs' ++ ws))
    unfold DenL
    exact ⟨cu, _, rfl, d1, denL_append d2 e⟩

section
variable {X : Cx} {n : Nat} {env : Env} {m : Loc} {H : List Cell}

/-- the code of a call -/
def CN (X : Cx) (n : Nat) (env : Env) (m : Loc) (H : List Cell) (f : Value) (vs : List V) (Q : V → Loc → List Cell → Prop) : Prop :=
  ∀ (cvs : List Value) (A : Around) (η : List Addr) (s : Shared) (C : Value → Shared → Prop), Room A n → Rel X η H s.heap → EnvOk X env η m s.heap → DenL X η s.heap vs cvs →
    (∀ b m' H' a η' s', Q b m' H' → Den X η' s'.heap b a → Rel X η' H' s'.heap → EnvOk X env η' m' s'.heap → Adv X env η s η' s' → C a s') →
    codeAny (model X.prog X.w) A (.call f ⟨cvs, []⟩) (fun r s' => match r with | .ok (.ret v) => C v s' | _ => False) s
theorem tn_of_cn {f : Value} {vs : List V} {Q : V → Loc → List Cell → Prop} (h : CN X n env m H f vs Q) : TN X n env m H (fun cvs => call f cvs) vs Q :=
  fun cvs A η s C E Ro re e d k => wpAny_call (codeAny_mono (h cvs A η s C Ro re e d k) fun r s' x => by
    rcases r with e | (_ | _ | _ | v) <;> first | exact x | exact x.elim)
/-- a call of one of the text's defs -/
theorem cn_call {f : Addr} {oc : Value} {od : Option Addr} {osl : Array (Option Value)} {fd : FuncData} {body : List Stmt} {names : List Str} {vs ws : List V} {ds : List Value} {Q : V → Loc → List Cell → Prop}
    (hK : X.K.lookup f = some ⟨oc, od, .func fd, osl⟩) (hcd : codeIn X.K fd.code fd.qualname = true) (hbody : fd.body = .stmts body) (hclo : fd.closure = []) (hg : fd.globals = mainGlobals) (hb : fd.builtins = builtinsNs)
    (hsc : okScope fd.scope names = true) (hlen : vs.length + ws.length = names.length) (hbind : ∀ (s : Shared) cvs, X.K.In s.heap → cvs.length = vs.length → BindsTo s fd ⟨cvs, []⟩ (names.zip (cvs ++ ds)))
    (hds : ∀ η h, DenL X η h ws ds)
    (h : ∀ env', env'.scope = fd.scope → env'.code = fd.code → TS X n env' (initL fd.scope.names (vs ++ ws)) H (execs body env') (fun _ H => Q .none m H) (fun _ _ => False) (fun _ _ => False) (fun v _ H => Q v m H)) :
    CN X (n + 1) env m H (.ref f) vs Q := by
  intro cvs A η s C Ro re e d k
  simp only [okScope, Bool.and_eq_true, beq_iff_eq, decide_eq_true_eq, Bool.not_eq_true'] at hsc
  obtain ⟨⟨⟨⟨⟨hk, hco⟩, hgen⟩, hnd⟩, hnames⟩, hall⟩ := hsc
  have hcl := denL_length d
  have hdl : ds.length = ws.length := denL_length (hds η s.heap)
  have hall' : ∀ x ∈ fd.scope.names, x.1 ≠ "__debug__" ∧ x.1 ≠ "__classdict__" := fun x hx => by
    have := List.all_eq_true.mp hall x hx
    simpa using this
  have dall : DenL X η s.heap (vs ++ ws) (cvs ++ ds) := denL_append d (hds _ _)
  have hln : (cvs ++ ds).length = names.length := by rw [List.length_append, hcl, hdl, hlen]
  have hzn : (names.zip (cvs ++ ds)).map (·.1) = names := List.map_fst_zip (by rw [hln]; exact Nat.le_refl _)
  have hsub : ∀ x ∈ names, (x, NameKind.local) ∈ fd.scope.names ∨ (x, NameKind.cell) ∈ fd.scope.names := fun x hx => by
    rw [← hnames] at hx
    obtain ⟨p, hp, rfl⟩ := List.mem_map.mp (List.mem_of_mem_take hx)
    obtain ⟨hp, hl⟩ := List.mem_filter.mp hp
    obtain ⟨x, kd⟩ := p
    cases kd <;> first | exact .inl hp | exact .inr hp | (simp [isLC] at hl)
  have hnn : names.Nodup := by
    rw [← hnames]
    refine List.Nodup.sublist (List.take_sublist _ _) (List.Nodup.sublist ?_ hnd)
    exact List.Sublist.map _ List.filter_sublist
  have lk : ∀ {x kd}, (x, kd) ∈ fd.scope.names → fd.scope.names.lookup x = some kd := fun hx => lookup_of_mem hnd hx
  refine codeAny_call_function (A := A) (by have := Ro.depth; omega) (re.kin _ _ hK) rfl hco hgen hbody (codeRec_of re.kin hcd) ?_
  refine hbind s cvs re.kin hcl _ _ _ _ ?_
  rw [hclo, hg, hb]
  refine wpAny_newFunctionEnv_cells hk (fun x hx => ?_) fun env' he s₁ ic => ?_
  · have hx1 : x.1 ∈ names := by rw [← hzn]; exact List.mem_map.mpr ⟨x, hx, rfl⟩
    rcases hsub _ hx1 with q | q
    · exact .inl (lk q)
    · exact .inr ⟨lk q, cellsFrom_some _ _ _ (.inl (lk q))⟩
  · have hsc' : env'.scope = fd.scope := by rw [he]; rfl
    have hLL : env'.locals = s.heap.objs.size := by rw [he]; rfl
    have hcells : env'.cells = cellsFrom (s.heap.objs.size + 1) fd.scope.names [] := by rw [he]; rfl
    have kof : ∀ x, env'.kindOf x = fd.scope.names.lookup x := fun x => by show env'.scope.names.lookup x = _; rw [hsc']
    have kp : ∀ b o, s.heap.get? b = some o → s₁.heap.get? b = some o := ic.toInCall.keep
    obtain ⟨h₁, tk, hs₁⟩ := ic.toInCall.same
    refine ⟨re.nolimit.keeps kp, codeAny_func (wpAny_noErr ?_)⟩
    have re1 : Rel X η H s₁.heap := re.ext kp
    have cnd : (env'.cells.map (·.1)).Nodup := by rw [hcells]; exact cellsFrom_nd _ _ _ hnd List.nodup_nil (fun _ _ q => by cases q)
    have cabove : ∀ p ∈ env'.cells, s.heap.objs.size < p.2 := fun p hp => hLL ▸ ic.above p.1 p.2 hp
    have none0 : ∀ a, s.heap.objs.size ≤ a → s.heap.get? a = none := fun a ha => by
      cases q : s.heap.get? a with
      | none => rfl
      | some o => exact absurd (Heap.lt_size q) (Nat.not_lt.mpr ha)
    have old0 : ∀ a, s.heap.objs.size ≤ a → X.h₀.get? a = none := fun a ha => by
      cases q : X.h₀.get? a with
      | none => rfl
      | some o =>
        by_cases ht : a ∈ X.T
        · obtain ⟨_, _, _, z⟩ := re.tab a ht; rw [none0 a ha] at z; cases z
        · have := re.low a o q ht; rw [none0 a ha] at this; cases this
    have noη : ∀ a, s.heap.objs.size ≤ a → a ∉ η := fun a ha hm => by
      obtain ⟨_, _, o, _, _, z, _⟩ := re.at_η hm
      rw [none0 a ha] at z; cases z
    have K1 : Keeps' X η s.heap η s₁.heap := .ofExt kp
    have e1 : EnvOk X env' η (initL fd.scope.names (vs ++ ws)) s₁.heap := by
      refine ⟨by rw [hsc']; exact hk, by rw [he]; rfl, by rw [he]; rfl, fun x ov hx => ?_, ⟨_, ic.toInCall.ns, fun x v hx hl => ?_⟩, fun x v c hx hl hc => ?_, fun p hp => ?_, by rw [hLL]; exact old0 _ (Nat.le_refl _), by rw [hLL]; exact noη _ (Nat.le_refl _), fun p hp => ?_, fun p hp q hq hpq => ?_, initL_nd hnd⟩
      · rcases initL_mem hx with q | q
        · exact ⟨(hall' _ q).1, (hall' _ q).2, .inl (by rw [kof]; exact lk q)⟩
        · refine ⟨(hall' _ q).1, (hall' _ q).2, .inr ⟨.inl (by rw [kof]; exact lk q), ?_⟩⟩
          rw [hcells]
          exact Option.isSome_iff_exists.mp (cellsFrom_some _ _ _ (.inl (lk q)))
      · obtain ⟨cv, hm, dv⟩ := denL_zip dall (initL_some hnames (by rw [List.length_append, hlen]) hx)
        exact ⟨cv, bindL_get (by rw [hzn]; exact hnn) hm hl, Den.keeps K1 v dv⟩
      · obtain ⟨cv, hm, dv⟩ := denL_zip dall (initL_some hnames (by rw [List.length_append, hlen]) hx)
        refine ⟨cv, ?_, Den.keeps K1 v dv⟩
        have := ic.cell x c hc
        rw [bindC_get (by rw [hzn]; exact hnn) hm hl] at this
        exact this
      · exact ⟨_, ic.cell p.1 p.2 (lookup_of_mem cnd hp)⟩
      · have := cabove p hp
        exact ⟨old0 _ (Nat.le_of_lt this), noη _ (Nat.le_of_lt this), by rw [hLL]; exact Nat.ne_of_gt this⟩
      · exact name_of_addr ic.apart hp (by rw [hpq]; exact hq)
    have Ro' : Room (A.deeper env') n := ⟨Ro.handled, by have := Ro.depth; show A.depth + 1 + n < _; omega, by have := Ro.units; show A.units + 3 + 8 * n + 16 < _; omega⟩
    have fin : ∀ (η' : List Addr) (H' : List Cell) (m' : Loc) (s' : Shared), Rel X η' H' s'.heap → EnvOk X env' η' m' s'.heap → Adv X env' η s₁ η' s' → EnvOk X env η' m s'.heap ∧ Adv X env η s η' s' := fun η' H' m' s' r' e' a' => by
      have K2 := a'.keeps' re1 e1
      have kk : ∀ b o, s.heap.get? b = some o → b ∉ η → b ∉ X.T → s'.heap.get? b = some o := fun b o q h1 h4 => by
        have hlt := Heap.lt_size q
        refine a'.keep b o (kp b o q) h1 (by rw [hLL]; exact Nat.ne_of_lt hlt) (fun hc => ?_) h4
        obtain ⟨p, hp, rfl⟩ := List.mem_map.mp hc
        exact absurd hlt (Nat.lt_asymm (cabove p hp))
      have nw : ∀ a ∈ η', a ∈ η ∨ s.heap.get? a = none := fun a ha => by
        rcases a'.new a ha with q | q
        · exact .inl q
        · cases z : s.heap.get? a with
          | none => exact .inr rfl
          | some o => rw [kp a o z] at q; cases q
      refine ⟨e.move ⟨fun b o q f => K2.fz b o (kp b o q) f, K2.pre⟩ (fun o q => kk _ o q e.nL (re.noT e.hiL)) (fun p hp o q => kk _ o q (e.hiC p hp).2.1 (re.noT (e.hiC p hp).1)) nw, ?_⟩
      refine ⟨fun b o q h1 _ _ h4 => kk b o q h1 h4, fun b o q => a'.live b o (kp b o q), a'.pre, nw, ?_, ?_, ?_, ?_⟩
      · have := a'.gsz; rw [hs₁] at this; exact this
      · have := a'.gen; rw [hs₁] at this; exact this
      · have := a'.bare; rw [hs₁] at this; exact this
      · have := a'.os; rw [hs₁] at this; exact this
    refine h env' hsc' (by rw [he]; rfl) (A.deeper env') η s₁ _ _ Ro' re1 e1 trivial fun b m' H' a η' s' q d' r' e' a' => ?_
    obtain ⟨e2, a2⟩ := fin η' H' m' s' r' e' a'
    cases b with
    | next => unfold DenF at d'; subst d'; exact k .none m H' .none η' s' q (by unfold Den; rfl) r' e2 a2
    | brk => exact False.elim q
    | cont => exact False.elim q
    | ret v => unfold DenF at d'; obtain ⟨cv, rfl, dv⟩ := d'; exact k v m H' cv η' s' q dv r' e2 a2
end
end Mine
end
section
open PySem PySem.W PyProof.Rows PySem.Calls
set_option Elab.async false
set_option maxRecDepth 100000
set_option linter.unusedVariables false
namespace Mine

/-- a callee whose keeper is known -/
def Kn (X : Cx) (f : Value) : Prop := ∀ (M : Model) h, X.K.In h → ∃ k, (k = Keeper.frame ∨ k = Keeper.machine ∨ k = Keeper.boundFrame) ∧ Looks M h (keeperOf f) k
theorem kn_builtin {X id} : Kn X (.builtin id) := fun M h _ => ⟨.machine, .inr (.inl rfl), Looks.of_pure rfl⟩
theorem kn_type {X T} : Kn X (.type T) := fun M h _ => ⟨.machine, .inr (.inl rfl), Looks.of_pure rfl⟩
theorem kn_K {X : Cx} {f} (h : keepIn X.K f = true) : Kn X f := fun M hp x => keeps_K h hp x

theorem evalArgs_any {M : Model} {A : Around} {E : Value → Shared → Prop} {s : Shared} {f : Value} {args : List (Bool × Sem Value)} {Q : Args → Shared → Prop} (hp : args.any (·.1) = false)
    (h : wpAny M A (spliced args) (fun vs s' => Q ⟨vs, []⟩ s') E s) : wpAny M A (evalArgs f true args []) Q E s := by
  cases args with
  | nil =>
    exact fun Γ p hΓ => evalArgs_nil3 (show Q ⟨[], []⟩ s from h Γ p hΓ) Γ p hΓ
  | cons p rest =>
    obtain ⟨b, t⟩ := p
    have hb : b = false := by simp at hp; exact hp.1
    subst hb
    exact evalArgs_plain h

section
variable {X : Cx} {n : Nat} {env : Env} {m : Loc} {H : List Cell}

theorem tc_callWith {pos : Pos} {f : Value} {fs : List V} {args : List Expr} {Q : V → Loc → List Cell → Prop} (hk : Kn X f)
    (h : TX X n env m H pos args fun vs m H => TN X n env m H (fun cvs => call f cvs) (fs ++ vs) Q) (hp : (backTo pos (starEach args env)).any (·.1) = false := by rfl) :
    ∀ first, TriP X n env (fun η h v cv => Den X η h v cv) (fun η h => DenL X η h fs first) m H (callWith pos f first (backTo pos (starEach args env)) []) Q := by
  intro first A η s C E Ro re e d k
  refine callWith_of (P := fun h => X.K.In h) (by rw [hp]; rfl) (hk _) (evalArgs_any hp (h A η s _ E Ro re e trivial fun vs m1 H1 b η1 s1 q1 d1 r1 e1 a1 => ⟨r1.kin, ?_⟩))
  exact q1 (first ++ b) A η1 s1 C E Ro r1 e1 (denL_append (a1.denL re e d) d1) fun v m' H' c η' s' q d r' e' a' => k v m' H' c η' s' q d r' e' (a1.trans a')

theorem loadGlob {x : Str} {pos : Pos} {v : Value} {A : Around} {η : List Addr} {s : Shared} {C : Value → Shared → Prop} {E : Value → Shared → Prop} (re : Rel X η H s.heap) (e : EnvOk X env η m s.heap) (hx : env.kindOf x = some .globalImplicit)
    (hv : X.mg x = some v ∨ (X.mg x = none ∧ X.mb x = some v)) (hd : (x == ("__debug__" : Str)) = false) (h : C v s) : wpAny (model X.prog X.w) A (eval (.Name x pos) env) C E s := by
  refine Name_function_global e.kind hx ?_ hd
  rcases hv with hv | ⟨h1, h2⟩
  · exact loadGlobal_global (e.glob ▸ re.g) hv h
  · exact loadGlobal_builtin (e.glob ▸ re.g) h1 (e.blt ▸ re.b) h2 h

/-- a global's value, or a builtin's -/
theorem tri_glob {x : Str} {pos : Pos} {v : Value} {u : V} {Q : V → Loc → List Cell → Prop} (hx : env.kindOf x = some .globalImplicit) (hv : X.mg x = some v) (hden : ∀ η h, Rel X η H h → Den X η h u v) (q : Q u m H) (hd : (x == ("__debug__" : Str)) = false := by decide) :
    TE X n env m H (eval (.Name x pos) env) Q :=
  fun A η s C E Ro re e _ k => loadGlob re e hx (.inl hv) hd (k u m H v η s q (hden _ _ re) re e (.refl ..))

/-- f(args) by a global's or a builtin's name -/
theorem tri_CallN {x : Str} {p pos : Pos} {f : Value} {args : List Expr} {Q : V → Loc → List Cell → Prop} (hx : env.kindOf x = some .globalImplicit) (hv : X.mg x = some f ∨ (X.mg x = none ∧ X.mb x = some f)) (hk : Kn X f)
    (h : TX X n env m H pos args fun vs m H => TN X n env m H (fun cvs => call f cvs) vs Q) (hd : (x == ("__debug__" : Str)) = false := by decide) (hp : (backTo pos (starEach args env)).any (·.1) = false := by rfl) :
    TE X n env m H (eval (.Call (.Name x p) args [] pos) env) Q := by
  intro A η s C E Ro re e _ k
  have ar : eval (.Call (.Name x p) args [] pos) env = (do callWith pos (← eval (.Name x p) env) [] (backTo pos (starEach args env)) []) := rfl
  rw [ar]
  refine wpAny_bind (loadGlob re e hx hv hd ?_)
  exact tc_callWith (fs := []) hk h hp [] A η s C E Ro re e (by unfold DenL; rfl) k

/-- what a method's name on a value is -/
def TM (X : Cx) (n : Nat) (env : Env) (m : Loc) (H : List Cell) (name : Str) (v : V) (Q : Value → List V → Prop) : Prop :=
  ∀ (A : Around) (η : List Addr) (s : Shared) (pl : Sem Bool) (C : Value × List Value → Shared → Prop) (E : Value → Shared → Prop) (ov : Value), Room A n → Rel X η H s.heap → EnvOk X env η m s.heap → Den X η s.heap v ov →
    (∀ f fs first tk, Q f fs → DenL X η s.heap fs first → C (f, first) { s with toks := tk }) → wpAny (model X.prog X.w) A (getMethod ov name pl) C E s

theorem tri_CallM {o : Expr} {name : Str} {apos pos : Pos} {args : List Expr} {Q : V → Loc → List Cell → Prop} (h : TE X n env m H (eval o env) fun v m H => TM X n env m H name v fun f fs => Kn X f ∧
      TX X n env m H pos args fun vs m H => TN X n env m H (fun cvs => call f cvs) (fs ++ vs) Q)
    (hbase : attributeBase o name env (eval o env) = eval o env := by rfl) (hform : methodCallForm (args.length + 0) (backTo pos (starEach args env)) [] = true := by rfl) (hline : (apos.endLine == pos.line) = true := by rfl) :
    TE X n env m H (eval (.Call (.Attribute o name apos) args [] pos) env) Q := by
  intro A η s C E Ro re e _ k
  have hp : (backTo pos (starEach args env)).any (·.1) = false := by
    simp only [methodCallForm, Bool.and_eq_true] at hform
    have := hform.1.1
    rw [List.any_eq_false]
    intro x hx
    have := List.all_eq_true.mp this x hx
    simpa using this
  rw [arm_eval_Call, hbase]
  refine wpAny_bind (h A η s _ E Ro re e trivial fun v m1 H1 a η1 s1 q1 d1 r1 e1 a1 => ?_)
  refine wpAny_bind (wpAny_standAt ?_)
  show wpAny _ A (methodCall o name apos pos env a (args.length + 0) (backTo pos (starEach args env)) []) C E s1
  have hpos : methodCallPos true o env apos pos = pure pos := by unfold methodCallPos; simp [hline]
  unfold methodCall
  rw [hform]
  refine wpAny_bind (wpAny_holding ?_)
  show wpAny _ A (getMethod a name _) _ E s1
  refine q1 A η1 s1 _ _ E a Ro r1 e1 d1 fun f fs first tk hq dl => ?_
  refine wpAny_bind (wpAny_of_eq hpos ?_)
  exact tc_callWith hq.1 hq.2 hp first A η1 { s1 with toks := tk } C E Ro r1 e1 dl fun v m' H' c η' s' q d r' e' a' => k v m' H' c η' s' q d r' e' ((a1.trans (Adv.ofExt fun _ _ x => x)).trans a')

/-- a method of a built-in type -/
theorem tm_builtin {name : Str} {v : V} {T id : String} {Q : Value → List V → Prop} (pa : PlainAttrs T) (slot : Slot T name id) (hty : typeOf (.builtin id) = pure (.type "method_descriptor"))
    (ht : ∀ η (s : Shared) ov, Rel X η H s.heap → Den X η s.heap v ov → s.TypeIs ov T ∧ ∀ a, ov = .ref a → ∃ o, s.heap.get? a = some o ∧ o.dict = none) (q : Q (.builtin id) [v]) : TM X n env m H name v Q := by
  intro A η s pl C E ov Ro re e d k
  obtain ⟨h1, h2⟩ := ht η s ov re d
  exact getMethod_builtin h1 pa slot hty h2 (k _ [v] [ov] s.toks q (by unfold DenL; exact ⟨ov, [], rfl, d, by unfold DenL; rfl⟩))

theorem ty_str {η : List Addr} {s : Shared} {x : List Nat} {ov : Value} (d : Den X η s.heap (.str x) ov) : s.TypeIs ov "str" ∧ ∀ a, ov = .ref a → ∃ o, s.heap.get? a = some o ∧ o.dict = none := by
  unfold Den at d
  obtain ⟨t, rfl⟩ := d
  exact ⟨typeIs_str _ _ _, fun a q => by cases q⟩
end
end Mine
end
section
open PySem PySem.W PyProof.Rows PySem.Calls
set_option Elab.async false
set_option maxRecDepth 100000
set_option linter.unusedVariables false
namespace Mine

theorem den_int {X η h i cv} : Den X η h (.int i) cv ↔ ∃ t, cv = .int i t := by unfold Den; exact Iff.rfl
theorem den_str' {X η h s cv} : Den X η h (.str s) cv ↔ ∃ t, cv = .str ⟨s.toArray⟩ t := by unfold Den; exact Iff.rfl
theorem den_none {X η h cv} : Den X η h .none cv ↔ cv = .none := by unfold Den; exact Iff.rfl
theorem den_bool {X η h b cv} : Den X η h (.bool b) cv ↔ cv = .bool b := by unfold Den; exact Iff.rfl
theorem den_loc {X η h i cv} : Den X η h (.loc i) cv ↔ ∃ a, cv = .ref a ∧ η[i]? = some a := by unfold Den; exact Iff.rfl
theorem den_tup {X η h xs cv} : Den X η h (.tup xs) cv ↔ ∃ a vs k, cv = .ref a ∧ h.get? a = some { cls := .type "tuple", data := .seq vs.toArray k } ∧ xs.length ≤ sizeLine ∧ DenL X η h xs vs := by unfold Den; exact Iff.rfl
theorem denL_one {X η h v cvs} : DenL X η h [v] cvs ↔ ∃ a, cvs = [a] ∧ Den X η h v a := by
  unfold DenL
  constructor
  · rintro ⟨a, r, rfl, d, e⟩
    unfold DenL at e; subst e; exact ⟨a, rfl, d⟩
  · rintro ⟨a, rfl, d⟩
    exact ⟨a, [], rfl, d, by unfold DenL; rfl⟩
theorem denL_two {X η h v u cvs} : DenL X η h [v, u] cvs ↔ ∃ a b, cvs = [a, b] ∧ Den X η h v a ∧ Den X η h u b := by
  rw [show DenL X η h [v, u] cvs = ∃ a r, cvs = a :: r ∧ Den X η h v a ∧ DenL X η h [u] r from by conv => lhs; unfold DenL]
  constructor
  · rintro ⟨a, r, rfl, d, e⟩
    obtain ⟨b, rfl, d2⟩ := denL_one.mp e
    exact ⟨a, b, rfl, d, d2⟩
  · rintro ⟨a, b, rfl, d, d2⟩
    exact ⟨a, [b], rfl, d, denL_one.mpr ⟨b, rfl, d2⟩⟩

section
variable {X : Cx} {n : Nat} {env : Env} {m : Loc} {H : List Cell} {Q : V → Loc → List Cell → Prop} {QB : Bool → Loc → List Cell → Prop}

/-- an operation that leaves the heap as it is -/
theorem T2.quiet {f : Value → Value → Sem Value} {v u w : V} (h : ∀ (A : Around) (s : Shared) (C : Value → Shared → Prop) E η a b, Room A n → Rel X η H s.heap → Den X η s.heap v a → Den X η s.heap u b → (∀ c tk, Den X η s.heap w c → C c { s with toks := tk }) → wpAny (model X.prog X.w) A (f a b) C E s)
    (q : Q w m H) : T2 X n env m H f v u Q :=
  fun a b A η s C E Ro re e d k => h A s C E η a b Ro re d.1 d.2 fun c tk dc => k w m H c η { s with toks := tk } q dc re e (Adv.ofExt fun _ _ x => x)
theorem T1.quiet {f : Value → Sem Value} {v w : V} (h : ∀ (A : Around) (s : Shared) (C : Value → Shared → Prop) E η a, Room A n → Rel X η H s.heap → Den X η s.heap v a → (∀ c tk, Den X η s.heap w c → C c { s with toks := tk }) → wpAny (model X.prog X.w) A (f a) C E s)
    (q : Q w m H) : T1 X n env m H f v Q :=
  fun a A η s C E Ro re e d k => h A s C E η a Ro re d fun c tk dc => k w m H c η { s with toks := tk } q dc re e (Adv.ofExt fun _ _ x => x)
theorem T1B.quiet {f : Value → Sem Bool} {v : V} {w : Bool} (h : ∀ (A : Around) (s : Shared) (C : Bool → Shared → Prop) E η a, Room A n → Rel X η H s.heap → Den X η s.heap v a → (∀ tk, C w { s with toks := tk }) → wpAny (model X.prog X.w) A (f a) C E s)
    (q : QB w m H) : T1B X n env m H f v QB :=
  fun a A η s C E Ro re e d k => h A s C E η a Ro re d fun tk => k w m H w η { s with toks := tk } q rfl re e (Adv.ofExt fun _ _ x => x)
theorem TN.quiet {f : List Value → Sem Value} {vs : List V} {w : V} (h : ∀ (A : Around) (s : Shared) (C : Value → Shared → Prop) E η a, Room A n → Rel X η H s.heap → DenL X η s.heap vs a → (∀ c tk, Den X η s.heap w c → C c { s with toks := tk }) → wpAny (model X.prog X.w) A (f a) C E s)
    (q : Q w m H) : TN X n env m H f vs Q :=
  fun a A η s C E Ro re e d k => h A s C E η a Ro re d fun c tk dc => k w m H c η { s with toks := tk } q dc re e (Adv.ofExt fun _ _ x => x)

-- ints
theorem add_i {i j : Int} (q : Q (.int (i + j)) m H) : T2 X n env m H (binaryOp .Add) (.int i) (.int j) Q :=
  T2.quiet (w := .int (i + j)) (fun A s C E η a b _ _ da db k => by obtain ⟨t, rfl⟩ := den_int.mp da; obtain ⟨u, rfl⟩ := den_int.mp db; exact P.add_int (k _ _ (den_int.mpr ⟨_, rfl⟩))) q
theorem iadd_i {i j : Int} (q : Q (.int (i + j)) m H) : T2 X n env m H (inplaceOp .Add) (.int i) (.int j) Q :=
  T2.quiet (w := .int (i + j)) (fun A s C E η a b _ _ da db k => by obtain ⟨t, rfl⟩ := den_int.mp da; obtain ⟨u, rfl⟩ := den_int.mp db; exact P.iadd_int (k _ _ (den_int.mpr ⟨_, rfl⟩))) q
theorem sub_i {i j : Int} (q : Q (.int (i - j)) m H) : T2 X n env m H (binaryOp .Sub) (.int i) (.int j) Q :=
  T2.quiet (w := .int (i - j)) (fun A s C E η a b _ _ da db k => by obtain ⟨t, rfl⟩ := den_int.mp da; obtain ⟨u, rfl⟩ := den_int.mp db; exact P.sub_int (k _ _ (den_int.mpr ⟨_, rfl⟩))) q
theorem isub_i {i j : Int} (q : Q (.int (i - j)) m H) : T2 X n env m H (inplaceOp .Sub) (.int i) (.int j) Q :=
  T2.quiet (w := .int (i - j)) (fun A s C E η a b _ _ da db k => by obtain ⟨t, rfl⟩ := den_int.mp da; obtain ⟨u, rfl⟩ := den_int.mp db; exact P.isub_int (k _ _ (den_int.mpr ⟨_, rfl⟩))) q
theorem mul_i {i j : Int} (h1 : -(2 ^ 64) < i) (h2 : i < 2 ^ 64) (q : Q (.int (i * j)) m H) : T2 X n env m H (binaryOp .Mult) (.int i) (.int j) Q :=
  T2.quiet (w := .int (i * j)) (fun A s C E η a b _ _ da db k => by obtain ⟨t, rfl⟩ := den_int.mp da; obtain ⟨u, rfl⟩ := den_int.mp db; exact P.mul_int (k _ _ (den_int.mpr ⟨_, rfl⟩)) (IntMulOk.of_left (intBits_le_64 h1 h2))) q
theorem mod_i {i j : Int} (hj : 0 < j) (q : Q (.int (i % j)) m H) : T2 X n env m H (binaryOp .Mod) (.int i) (.int j) Q :=
  T2.quiet (w := .int (i % j)) (fun A s C E η a b _ _ da db k => by obtain ⟨t, rfl⟩ := den_int.mp da; obtain ⟨u, rfl⟩ := den_int.mp db; exact mod_int' (by omega) (by rw [Int.fmod_eq_emod_of_nonneg _ (by omega)]; exact k _ _ (den_int.mpr ⟨_, rfl⟩))) q
theorem eq_i {i j : Int} (q : Q (.bool (decide (i = j))) m H) : T2 X n env m H (compareOp .Eq) (.int i) (.int j) Q :=
  T2.quiet (w := .bool (decide (i = j))) (fun A s C E η a b _ _ da db k => by obtain ⟨t, rfl⟩ := den_int.mp da; obtain ⟨u, rfl⟩ := den_int.mp db; exact P.eq_int (k (.bool (i == j)) s.toks (den_bool.mpr (by rw [Bool.beq_eq_decide_eq])))) q
theorem lt_i {i j : Int} (q : Q (.bool (decide (i < j))) m H) : T2 X n env m H (compareOp .Lt) (.int i) (.int j) Q :=
  T2.quiet (w := .bool (decide (i < j))) (fun A s C E η a b _ _ da db k => by obtain ⟨t, rfl⟩ := den_int.mp da; obtain ⟨u, rfl⟩ := den_int.mp db; exact P.lt_int (k _ s.toks (den_bool.mpr rfl))) q
theorem gt_i {i j : Int} (q : Q (.bool (decide (i > j))) m H) : T2 X n env m H (compareOp .Gt) (.int i) (.int j) Q :=
  T2.quiet (w := .bool (decide (i > j))) (fun A s C E η a b _ _ da db k => by obtain ⟨t, rfl⟩ := den_int.mp da; obtain ⟨u, rfl⟩ := den_int.mp db; exact P.gt_int (k _ s.toks (den_bool.mpr rfl))) q
theorem neg_i {i : Int} (q : Q (.int (-i)) m H) : T1 X n env m H (unaryOp .USub) (.int i) Q :=
  T1.quiet (w := .int (-i)) (fun A s C E η a _ _ da k => by obtain ⟨t, rfl⟩ := den_int.mp da; exact P.neg_int (k _ _ (den_int.mpr ⟨_, rfl⟩))) q

-- strs
theorem eq_s {x y : List Nat} (q : Q (.bool (decide (x = y))) m H) : T2 X n env m H (compareOp .Eq) (.str x) (.str y) Q :=
  T2.quiet (w := .bool (decide (x = y))) (fun A s C E η a b _ _ da db k => by obtain ⟨t, rfl⟩ := den_str'.mp da; obtain ⟨u, rfl⟩ := den_str'.mp db; exact P.eq_str (k _ s.toks (den_bool.mpr (by simp [Bool.beq_eq_decide_eq])))) q
theorem ne_s {x y : List Nat} (q : Q (.bool (decide (x ≠ y))) m H) : T2 X n env m H (compareOp .NotEq) (.str x) (.str y) Q :=
  T2.quiet (w := .bool (decide (x ≠ y))) (fun A s C E η a b _ _ da db k => by obtain ⟨t, rfl⟩ := den_str'.mp da; obtain ⟨u, rfl⟩ := den_str'.mp db; exact P.ne_str (k _ s.toks (den_bool.mpr (by simp [bne, Bool.beq_eq_decide_eq])))) q
theorem eq_sn {x : List Nat} (q : Q (.bool false) m H) : T2 X n env m H (compareOp .Eq) (.str x) .none Q :=
  T2.quiet (w := .bool false) (fun A s C E η a b _ _ da db k => by obtain ⟨t, rfl⟩ := den_str'.mp da; cases den_none.mp db; exact EqNone.eq_str_none (k _ s.toks (den_bool.mpr rfl))) q
theorem eq_ns {x : List Nat} (q : Q (.bool false) m H) : T2 X n env m H (compareOp .Eq) .none (.str x) Q :=
  T2.quiet (w := .bool false) (fun A s C E η a b _ _ da db k => by obtain ⟨t, rfl⟩ := den_str'.mp db; cases den_none.mp da; exact EqNone.eq_none_str (k _ s.toks (den_bool.mpr rfl))) q
theorem add_s {x y : List Nat} (hl : x.length + y.length ≤ sizeLine) (q : Q (.str (x ++ y)) m H) : T2 X n env m H (binaryOp .Add) (.str x) (.str y) Q :=
  T2.quiet (w := .str (x ++ y)) (fun A s C E η a b _ _ da db k => by
    obtain ⟨t, rfl⟩ := den_str'.mp da; obtain ⟨u, rfl⟩ := den_str'.mp db
    refine P.add_str ?_
    cases x with
    | nil => exact k _ s.toks (den_str'.mpr ⟨u, rfl⟩)
    | cons c x =>
      cases y with
      | nil => exact k _ s.toks (den_str'.mpr ⟨t, by simp⟩)
      | cons d y =>
        refine ⟨?_, k (.str ⟨(c :: x).toArray ++ (d :: y).toArray⟩ s.toks) (s.toks + 1) (den_str'.mpr ⟨s.toks, by simp⟩)⟩
        show ((c :: x).toArray ++ (d :: y).toArray).size ≤ sizeLine
        simp at hl ⊢; omega) q

-- is None
def isNoneV : V → Bool
  | .none => true
  | _ => false
theorem is_none {v : V} (q : Q (.bool (isNoneV v)) m H) : T2 X n env m H (compareOp .Is) v .none Q :=
  T2.quiet (w := .bool (isNoneV v)) (fun A s C E η a b _ _ da db k => by
    cases den_none.mp db
    cases v <;> unfold Den at da <;> first | (obtain ⟨rfl, _⟩ := da; exact wpAny_is_plain (by rfl) (k _ s.toks (den_bool.mpr rfl))) | (subst da; exact wpAny_is_plain (by rfl) (k _ s.toks (den_bool.mpr rfl))) | (obtain ⟨_, rfl⟩ := da; exact wpAny_is_plain (by rfl) (k _ s.toks (den_bool.mpr rfl))) | (obtain ⟨_, _, _, rfl, _⟩ := da; exact wpAny_is_plain (by rfl) (k _ s.toks (den_bool.mpr rfl))) | (obtain ⟨_, rfl, _⟩ := da; exact wpAny_is_plain (by rfl) (k _ s.toks (den_bool.mpr rfl))) | (obtain ⟨_, _, rfl, _⟩ := da; exact wpAny_is_plain (by rfl) (k _ s.toks (den_bool.mpr rfl))) | (obtain ⟨_, _, _, _, rfl, _⟩ := da; exact wpAny_is_plain (by rfl) (k _ s.toks (den_bool.mpr rfl))) | (obtain ⟨_, _, _, _, _, _, _, rfl, _⟩ := da; exact wpAny_is_plain (by rfl) (k _ s.toks (den_bool.mpr rfl)))) q
theorem isnot_none {v : V} (q : Q (.bool (!isNoneV v)) m H) : T2 X n env m H (compareOp .IsNot) v .none Q :=
  T2.quiet (w := .bool (!isNoneV v)) (fun A s C E η a b _ _ da db k => by
    cases den_none.mp db
    cases v <;> unfold Den at da <;> first | (obtain ⟨rfl, _⟩ := da; exact wpAny_isNot_plain (by rfl) (k _ s.toks (den_bool.mpr rfl))) | (subst da; exact wpAny_isNot_plain (by rfl) (k _ s.toks (den_bool.mpr rfl))) | (obtain ⟨_, rfl⟩ := da; exact wpAny_isNot_plain (by rfl) (k _ s.toks (den_bool.mpr rfl))) | (obtain ⟨_, _, _, rfl, _⟩ := da; exact wpAny_isNot_plain (by rfl) (k _ s.toks (den_bool.mpr rfl))) | (obtain ⟨_, rfl, _⟩ := da; exact wpAny_isNot_plain (by rfl) (k _ s.toks (den_bool.mpr rfl))) | (obtain ⟨_, _, rfl, _⟩ := da; exact wpAny_isNot_plain (by rfl) (k _ s.toks (den_bool.mpr rfl))) | (obtain ⟨_, _, _, _, rfl, _⟩ := da; exact wpAny_isNot_plain (by rfl) (k _ s.toks (den_bool.mpr rfl))) | (obtain ⟨_, _, _, _, _, _, _, rfl, _⟩ := da; exact wpAny_isNot_plain (by rfl) (k _ s.toks (den_bool.mpr rfl)))) q

-- truth
theorem tr_b {b : Bool} (q : QB b m H) : T1B X n env m H truthy (.bool b) QB :=
  T1B.quiet (w := b) (fun A s C E η a _ _ da k => by cases den_bool.mp da; exact wpAny_truthy_bool (k s.toks)) q
theorem tr_n (q : QB false m H) : T1B X n env m H truthy .none QB :=
  T1B.quiet (w := false) (fun A s C E η a _ _ da k => by cases den_none.mp da; exact wpAny_pure (k s.toks)) q
theorem tr_i {i : Int} (q : QB (decide (i ≠ 0)) m H) : T1B X n env m H truthy (.int i) QB :=
  T1B.quiet (w := decide (i ≠ 0)) (fun A s C E η a _ _ da k => by obtain ⟨t, rfl⟩ := den_int.mp da; exact P.truthy_int (by have := k s.toks; simpa [bne, Bool.beq_eq_decide_eq] using this)) q
theorem tr_s {x : List Nat} (hl : x.length ≤ sizeLine) (q : QB (decide (x ≠ [])) m H) : T1B X n env m H truthy (.str x) QB :=
  T1B.quiet (w := decide (x ≠ [])) (fun A s C E η a _ _ da k => by
    obtain ⟨t, rfl⟩ := den_str'.mp da
    rw [sizeLine_eq] at hl
    refine P.truthy_str (by show ¬ (x.toArray.size : Int) ≥ 2 ^ 63; simp; omega) ?_
    have e : (((⟨x.toArray⟩ : PySem.Str).length : Int) != 0) = decide (x ≠ []) := by
      cases x with
      | nil => rfl
      | cons c x => simp [PySem.Str.length]; omega
    rw [e]; exact k _) q
theorem tr_t {xs : List V} (q : QB (decide (xs.length ≠ 0)) m H) : T1B X n env m H truthy (.tup xs) QB :=
  T1B.quiet (w := decide (xs.length ≠ 0)) (fun A s C E η a _ _ da k => by
    obtain ⟨a, vs, j, rfl, ht, hl, d⟩ := den_tup.mp da
    rw [sizeLine_eq] at hl
    have := denL_length d
    refine ktl_truthy ht (by simp [this]; omega) ?_
    have e : (!vs.toArray.isEmpty) = decide (xs.length ≠ 0) := by rw [← this]; cases vs <;> simp
    rw [e]; exact k _) q
theorem tr_l {i : Nat} {xs : List V} (hi : H[i]? = some (.list xs)) (q : QB (decide (xs.length ≠ 0)) m H) : T1B X n env m H truthy (.loc i) QB :=
  T1B.quiet (w := decide (xs.length ≠ 0)) (fun A s C E η a _ re da k => by
    obtain ⟨a, rfl, ea⟩ := den_loc.mp da
    obtain ⟨vs, hl, d, hb⟩ := re.list hi ea
    rw [sizeLine_eq] at hb
    have := denL_length d
    refine wpAny_truthy_list hl (by simp [this]; omega) ?_
    have e : (!vs.toArray.isEmpty) = decide (xs.length ≠ 0) := by rw [← this]; cases vs <;> simp
    rw [e]; exact k _) q
end
end Mine
end
section
open PySem PySem.W PyProof.Rows PySem.Calls
set_option Elab.async false
set_option maxRecDepth 100000
set_option linter.unusedVariables false
namespace Mine

theorem denL_of {X η h} : ∀ {xs : List V} {vs : List Value}, vs.length = xs.length → (∀ (k : Nat) v, xs[k]? = some v → ∃ cv, vs[k]? = some cv ∧ Den X η h v cv) → DenL X η h xs vs
  | [], vs, hl, _ => by unfold DenL; exact List.length_eq_zero_iff.mp (by simpa using hl)
  | x :: xs, [], hl, _ => by simp at hl
  | x :: xs, v :: vs, hl, g => by
    unfold DenL
    obtain ⟨cv, e, d⟩ := g 0 x rfl
    simp at e; subst e
    exact ⟨v, vs, rfl, d, denL_of (by simpa using hl) fun k u hu => by simpa using g (k + 1) u (by simpa using hu)⟩
theorem denL_snoc {X η h xs vs v cv} (d : DenL X η h xs vs) (dv : Den X η h v cv) : DenL X η h (xs ++ [v]) (vs ++ [cv]) :=
  denL_append d (denL_one.mpr ⟨cv, rfl, dv⟩)
theorem denL_set {X η h} : ∀ {xs : List V} {vs : List Value} {k : Nat} {v cv}, DenL X η h xs vs → Den X η h v cv → DenL X η h (xs.set k v) (vs.set k cv)
  | [], vs, k, v, cv, d, _ => by unfold DenL at d; subst d; unfold DenL; rfl
  | x :: xs, vs, k, v, cv, d, dv => by
    unfold DenL at d
    obtain ⟨a, vs', rfl, d1, d2⟩ := d
    cases k with
    | zero => unfold DenL; exact ⟨cv, vs', rfl, dv, d2⟩
    | succ k => unfold DenL; exact ⟨a, _, rfl, d1, denL_set d2 dv⟩
theorem denL_drop {X η h} : ∀ {xs : List V} {vs : List Value} (k : Nat), DenL X η h xs vs → DenL X η h (xs.drop k) (vs.drop k)
  | xs, vs, 0, d => d
  | [], vs, k + 1, d => by unfold DenL at d; subst d; unfold DenL; rfl
  | x :: xs, vs, k + 1, d => by
    unfold DenL at d
    obtain ⟨a, vs', rfl, d1, d2⟩ := d
    exact denL_drop k d2
theorem denL_take {X η h} : ∀ {xs : List V} {vs : List Value} (k : Nat), DenL X η h xs vs → DenL X η h (xs.take k) (vs.take k)
  | xs, vs, 0, d => by simp; unfold DenL; rfl
  | [], vs, k + 1, d => by unfold DenL at d; subst d; unfold DenL; rfl
  | x :: xs, vs, k + 1, d => by
    unfold DenL at d
    obtain ⟨a, vs', rfl, d1, d2⟩ := d
    show DenL X η h (x :: xs.take k) (a :: vs'.take k)
    unfold DenL
    exact ⟨a, _, rfl, d1, denL_take k d2⟩
theorem nodup_get {α : Type} : ∀ {l : List α} {i j : Nat} {a : α}, l.Nodup → l[i]? = some a → l[j]? = some a → i = j
  | [], i, _, _, _, h, _ => by simp at h
  | x :: l, 0, 0, _, _, _, _ => rfl
  | x :: l, 0, j + 1, a, nd, h, h' => by
    rw [List.nodup_cons] at nd
    simp at h h'; subst h
    exact absurd (List.mem_of_getElem? h') nd.1
  | x :: l, i + 1, 0, a, nd, h, h' => by
    rw [List.nodup_cons] at nd
    simp at h h'; subst h'
    exact absurd (List.mem_of_getElem? h) nd.1
  | x :: l, i + 1, j + 1, a, nd, h, h' => by
    rw [List.nodup_cons] at nd
    simp at h h'
    rw [nodup_get nd.2 h h']
theorem denL_flat {X η h xs vs} (d : DenL X η h xs vs) : ∀ k : Nat, DenL X η h (List.replicate k xs).flatten (List.replicate k vs).flatten
  | 0 => by unfold DenL; rfl
  | k + 1 => by simp only [List.replicate_succ, List.flatten_cons]; exact denL_append d (denL_flat d k)

section
variable {X : Cx} {n : Nat} {env : Env} {m : Loc} {H : List Cell} {Q : V → Loc → List Cell → Prop} {QB : Bool → Loc → List Cell → Prop}

theorem EnvOk.notFz {η h} (e : EnvOk X env η m h) : True := trivial

/-- a cell turns -/
theorem upd_ok {η : List Addr} {s : Shared} {i : Nat} {a : Addr} {c' : Cell} {o' : Obj} {h' : Heap} {tk : Nat} (re : Rel X η H s.heap) (e : EnvOk X env η m s.heap) (ea : η[i]? = some a) (hs : Heap.SameBut a s.heap h') (ho : h'.get? a = some o') (ok : CellOk X η h' c' o') :
    Rel X η (H.set i c') h' ∧ EnvOk X env η m h' ∧ Adv X env η s η { s with heap := h', toks := tk } := by
  have hm : a ∈ η := List.mem_of_getElem? ea
  have nt : ∀ o, s.heap.get? a = some o → frozen o = false := fun o q => by
    obtain ⟨_, _, o2, _, _, e2, k⟩ := re.at_η hm
    rw [q] at e2; cases e2; exact k.notFrozen
  have K := keeps_same (X := X) (η := η) hs nt
  have ne0 : ∀ b o, X.h₀.get? b = some o → b ≠ a := fun b o q z => by subst z; rw [re.hi _ hm] at q; cases q
  refine ⟨⟨fun b o q nT => (hs.2 b (ne0 b o q)).trans (re.low b o q nT), fun b hb => ?_, by simp [re.len], re.nd, re.hi, fun j c q => ?_⟩, e.move K (fun o q => (hs.2 _ fun (z : env.locals = a) => e.nL (by rw [z]; exact hm)).trans q) (fun p hp o q => (hs.2 _ fun (z : p.2 = a) => (e.hiC p hp).2.1 (by rw [z]; exact hm)).trans q) (fun _ h => .inl h), Adv.same hs (.inl hm) ⟨o', ho⟩⟩
  · obtain ⟨ps, more, e1, e2⟩ := re.tab b hb
    exact ⟨ps, more, e1, (hs.2 b (ne0 b _ e1.1)).trans e2⟩
  · by_cases hji : j = i
    · subst hji
      have hlt : j < H.length := re.len ▸ (List.getElem?_eq_some_iff.mp ea).1
      rw [List.getElem?_set_self hlt] at q; cases q
      exact ⟨a, o', ea, ho, ok⟩
    · rw [List.getElem?_set_ne (Ne.symm hji)] at q
      obtain ⟨b, o, e1, e2, e3⟩ := re.cells j c q
      refine ⟨b, o, e1, (hs.2 b fun z => ?_).trans e2, e3.keeps K⟩
      subst z
      exact hji (nodup_get re.nd e1 ea)

theorem ty_list {η : List Addr} {s : Shared} {i : Nat} {xs : List V} {ov : Value} (re : Rel X η H s.heap) (hi : H[i]? = some (.list xs)) (d : Den X η s.heap (.loc i) ov) : s.TypeIs ov "list" := by
  obtain ⟨a, rfl, ea⟩ := den_loc.mp d
  obtain ⟨vs, hl, _⟩ := re.list hi ea
  exact hl.typeIs

theorem list_append {i : Nat} {xs : List V} {v : V} (hi : H[i]? = some (.list xs)) (hl : xs.length < sizeLine) (q : Q .none m (H.set i (.list (xs ++ [v])))) : TN X n env m H (fun cvs => call (.builtin "list.append") cvs) [.loc i, v] Q := by
  intro cvs A η s C E Ro re e d k
  obtain ⟨a, b, rfl, da, db⟩ := denL_two.mp d
  obtain ⟨a, rfl, ea⟩ := den_loc.mp da
  obtain ⟨vs, j, ho, dL, _⟩ := re.listO hi ea
  have hlen := denL_length dL
  have hT : s.TypeIs (.ref a) "list" := ⟨_, ho, rfl⟩
  refine wpAny_call_entry slot_list_append hT entry_list_append ?_ (args_list_append _ _)
  show wpAny _ _ (updateSeq a (·.push b) >>= fun _ => ret .none) _ _ s
  refine wpAny_bind (wpAny_updateSeq ho rfl (wpAny_pure ⟨.none, rfl, ?_⟩) (by simp [hlen]; omega) (by simp [hlen]; omega))
  have ho' : (s.heap.update a (Obj.mapSeq (·.push b))).get? a = some { cls := .type "list", data := .seq (vs ++ [b]).toArray (j + 1) } := by
    rw [Heap.get?_update_self _ ho rfl]
    simp [Obj.mapSeq]
  have hs : Heap.SameBut a s.heap (s.heap.update a (Obj.mapSeq (·.push b))) := Heap.SameBut.update ..
  have nt : ∀ o, s.heap.get? a = some o → frozen o = false := fun o q => by rw [ho] at q; cases q; rfl
  have K := keeps_same (X := X) (η := η) hs nt
  obtain ⟨r', e', ad⟩ := upd_ok (c' := .list (xs ++ [v])) (tk := s.toks) re e ea hs ho' ⟨vs ++ [b], j + 1, rfl, by simp; omega, DenL.keeps K _ (denL_snoc dL db)⟩
  exact k .none m _ .none η _ q (den_none.mpr rfl) r' e' ad

/-- xs[k] = v -/
theorem list_set {i : Nat} {xs : List V} {k : Int} {v : V} {N : Loc → List Cell → Prop} (hi : H[i]? = some (.list xs)) (j : Nat) (hj : j < xs.length) (hk : k = j ∨ k = (j : Int) - xs.length) (q : N m (H.set i (.list (xs.set j v)))) :
    ∀ a b c, TriP X n env (fun _ _ (_ : Unit) (_ : Unit) => True) (fun η h => Den X η h (.loc i) a ∧ Den X η h (.int k) b ∧ Den X η h v c) m H (setItem a b c) (fun _ => N) := by
  intro a b c A η s C E Ro re e ⟨da, db, dc⟩ kk
  obtain ⟨a, rfl, ea⟩ := den_loc.mp da
  obtain ⟨t, rfl⟩ := den_int.mp db
  obtain ⟨vs, n', ho, dL, hz⟩ := re.listO hi ea
  have hlen := denL_length dL
  rw [sizeLine_eq] at hz
  have hT : s.TypeIs (.ref a) "list" := ⟨_, ho, rfl⟩
  unfold setItem
  try with_reducible refine wpAny_holding ?_
  first | refine wpAny_bind (wpAny_pure ?_) | skip
  refine wpAny_bind (wpAny_sequenceKey hT (by decide) ?_)
  refine wpAny_bind (wpAny_callSpecial?_slot (name := Str.ofString "__setitem__") hT slot_list_setitem
    (wpAny_call_entry slot_list_setitem hT entry_list_setitem ?_ (args_list_setitem _ _ _)))
  show wpAny _ _ (Builtin.List.listSubscript? (.int k t) >>= _) _ _ s
  refine wpAny_bind (wpAny_listSubscript_int (by unfold Builtin.List.listFitsIndex; simp only [Bool.and_eq_true, decide_eq_true_eq]; omega) ?_)
  have hjv : j < vs.length := by omega
  have hget : vs.toArray[j]? = some vs[j] := by simp [hjv]
  have ho' : (s.heap.update a (Obj.mapSeq (·.setIfInBounds j c))).get? a = some { cls := .type "list", data := .seq (vs.set j c).toArray n' } := by
    rw [Heap.get?_update_self _ ho rfl]
    simp [Obj.mapSeq]
  have hs : Heap.SameBut a s.heap (s.heap.update a (Obj.mapSeq (·.setIfInBounds j c))) := Heap.SameBut.update ..
  have nt : ∀ o, s.heap.get? a = some o → frozen o = false := fun o q => by rw [ho] at q; cases q; rfl
  have K := keeps_same (X := X) (η := η) hs nt
  obtain ⟨r', e', ad⟩ := upd_ok (c' := .list (xs.set j v)) (tk := s.toks) re e ea hs ho' ⟨vs.set j c, n', rfl, by simp; rw [sizeLine_eq]; omega, DenL.keeps K _ (denL_set dL dc)⟩
  have fin : wpAny (model X.prog X.w) A.in1 (setSeqItemAt a j c) (fun _ s' => C () s') E s := wpAny_setSeqItemAt ho rfl (kk () m _ () η _ q trivial r' e' ad)
  rcases Int.lt_or_le k 0 with hneg | hpos
  · have hidx : seqIndex? k vs.toArray.size = some j := by
      have hk' : k = (j : Int) - xs.length := hk.resolve_left (by omega)
      simp only [seqIndex?, List.size_toArray]
      rw [if_pos hneg, hlen]
      have e1 : k + (xs.length : Int) = j := by omega
      rw [e1]
      simp; omega
    obtain ⟨i', rfl⟩ : ∃ i' : Nat, k = Int.negSucc i' := by
      cases k with
      | ofNat n => exact absurd hneg (Int.not_lt.mpr (Int.natCast_nonneg n))
      | negSucc n => exact ⟨n, rfl⟩
    show wpAny _ _ ((Builtin.List.listItems (.ref a) >>= fun xs => pure ((seqIndex? (Int.negSucc i') xs.size).bind fun i => xs[i]?.map (i, ·))) >>= _) _ _ s
    refine wpAny_bind (wpAny_bind ?_)
    show wpAny _ _ (seqItems? (.ref a) >>= _) _ _ s
    refine wpAny_bind (wpAny_seqItems ho rfl (wpAny_pure (wpAny_pure ?_)))
    rw [hidx]
    simp only [Option.bind_some, hget, Option.map_some]
    first
      | exact wpAny_bind (wpAny_mono fin (fun _ s' h => wpAny_bind (wpAny_pure (wpAny_pure ⟨.none, rfl, wpAny_pure h⟩))) fun _ _ h => h)
      | exact wpAny_bind (wpAny_mono fin (fun _ s' h => wpAny_pure ⟨.none, rfl, wpAny_pure h⟩) fun _ _ h => h)
  · have hk' : k = (j : Int) := hk.resolve_right (by omega)
    subst hk'
    show wpAny _ _ ((seqItemAt a j >>= fun r => pure (r.map (j, ·))) >>= _) _ _ s
    refine wpAny_bind (wpAny_bind (wpAny_seqItemAt ho rfl (wpAny_pure ?_)))
    rw [hget]
    first
      | exact wpAny_bind (wpAny_mono fin (fun _ s' h => wpAny_bind (wpAny_pure (wpAny_pure ⟨.none, rfl, wpAny_pure h⟩))) fun _ _ h => h)
      | exact wpAny_bind (wpAny_mono fin (fun _ s' h => wpAny_pure ⟨.none, rfl, wpAny_pure h⟩) fun _ _ h => h)

theorem ts_Assign_Sub {o i pos' value pos N B K R} (h : TE X n env m H (eval value env) fun v m H => TE X n env m H (eval o env) fun ov m H => TE X n env m H (eval i env) fun iv m H =>
      ∀ a b c, TriP X n env (fun _ _ (_ : Unit) (_ : Unit) => True) (fun η h => Den X η h ov a ∧ Den X η h iv b ∧ Den X η h v c) m H (setItem a b c) (fun _ => N))
    (hs : swapsWith value (some (.Subscript o i pos')) pos.line env = Pure.pure false := by rfl) : TS X n env m H (exec (.Assign [.Subscript o i pos'] value pos) env) N B K R := by
  intro A η s C E Ro r e _ k
  refine wpAny_Assign_Subscript (h A η s _ E Ro r e trivial fun v m1 H1 a η1 s1 q1 d1 r1 e1 a1 => ?_) hs
  refine q1 A η1 s1 _ E Ro r1 e1 trivial fun u m2 H2 b η2 s2 q2 d2 r2 e2 a2 => ?_
  refine q2 A η2 s2 _ E Ro r2 e2 trivial fun w m3 H3 c η3 s3 q3 d3 r3 e3 a3 => ?_
  refine q3 b c a A η3 s3 _ E Ro r3 e3 ⟨a3.den r2 e2 d2, d3, (a2.trans a3).den r1 e1 d1⟩ fun _ m' H' _ η' s' q _ r' e' a' => k .next m' H' _ η' s' q (by unfold DenF; rfl) r' e' (a1.trans (a2.trans (a3.trans a')))

theorem new_list {η : List Addr} {s : Shared} {xs : List V} {vs : List Value} {tk : Nat} {C : Value → Shared → Prop} (re : Rel X η H s.heap) (e : EnvOk X env η m s.heap) (d : DenL X η s.heap xs vs) (hl : xs.length ≤ sizeLine) (q : Q (.loc H.length) m (H ++ [.list xs]))
    (k : ∀ b m' H' a η' s', Q b m' H' → Den X η' s'.heap b a → Rel X η' H' s'.heap → EnvOk X env η' m' s'.heap → Adv X env η s η' s' → C a s') :
    C (.ref s.heap.objs.size) { s with heap := s.heap.push { cls := .type "list", data := .seq vs.toArray }, toks := tk } := by
  obtain ⟨r', e', ad⟩ := alloc_ok (tk := tk) (c := .list xs) (o := { cls := .type "list", data := .seq vs.toArray }) re e rfl ⟨vs, 0, rfl, hl, DenL.keeps (keeps_alloc _) xs d⟩
  exact k _ _ _ _ _ _ q (den_loc.mpr ⟨_, rfl, by rw [← re.len, List.getElem?_append_right (Nat.le_refl _)]; simp⟩) r' e' ad

theorem add_l {i j : Nat} {xs ys : List V} (hi : H[i]? = some (.list xs)) (hj : H[j]? = some (.list ys)) (hl : xs.length + ys.length ≤ sizeLine) (q : Q (.loc H.length) m (H ++ [.list (xs ++ ys)])) : T2 X n env m H (binaryOp .Add) (.loc i) (.loc j) Q := by
  intro a b A η s C E Ro re e ⟨da, db⟩ k
  obtain ⟨a, rfl, ea⟩ := den_loc.mp da
  obtain ⟨b, rfl, eb⟩ := den_loc.mp db
  obtain ⟨vs, hL, dL, _⟩ := re.list hi ea
  obtain ⟨ws, hM, dM, _⟩ := re.list hj eb
  obtain ⟨⟨cls, dd, data, sl⟩, ho, hc, n, hd⟩ := id hL
  obtain ⟨⟨cls2, dd2, data2, sl2⟩, ho2, hc2, n2, hd2⟩ := id hM
  simp only at hc hd hc2 hd2
  subst hc hd hc2 hd2
  have e1 : vs.toArray ++ ws.toArray = (vs ++ ws).toArray := by simp
  refine concat_meets ⟨_, ho, rfl⟩ ⟨_, ho2, rfl⟩ noFill_list_add seq_list_add PySem.F.slot_list_add PySem.F.entry_list_add (PySem.F.args_list_add_2 _ _) (list_addW a b vs.toArray ws.toArray n n2 dd dd2 sl sl2 (by simp [denL_length dL, denL_length dM]; exact hl)) ⟨ho, ho2, ?_⟩
  rw [e1]
  exact new_list (tk := s.toks) re e (denL_append dL dM) (by simp; exact hl) q k

theorem mul_l {i : Nat} {xs : List V} {x : Int} (hi : H[i]? = some (.list xs)) (h0 : 0 ≤ x) (hx : x ≤ 1000) (hz : xs.length ≤ 1000) (q : Q (.loc H.length) m (H ++ [.list (List.replicate x.toNat xs).flatten])) : T2 X n env m H (binaryOp .Mult) (.loc i) (.int x) Q := by
  intro a b A η s C E Ro re e ⟨da, db⟩ k
  obtain ⟨l, rfl, ea⟩ := den_loc.mp da
  obtain ⟨u, rfl⟩ := den_int.mp db
  obtain ⟨vs, hL, dL, _⟩ := re.list hi ea
  have hlen := denL_length dL
  obtain ⟨⟨cls, d, data, sl⟩, ho, hcl, k', hd⟩ := id hL
  simp only at hcl hd
  subst hcl hd
  have hx' : x.toNat ≤ 1000 := by omega
  have hb : vs.length * x.toNat ≤ 1000000 := Nat.mul_le_mul (by omega : vs.length ≤ 1000) hx'
  have hsz' : vs.toArray.size * x.toNat ≤ 1000000 := by simpa using hb
  have fin : ∀ ws : List Value, (List.replicate x.toNat vs).flatten = ws → C (.ref s.heap.objs.size) { s with heap := s.heap.push { cls := .type "list", data := .seq ws.toArray }, toks := s.toks } := fun ws hws => by
    subst hws
    refine new_list (tk := s.toks) re e (denL_flat dL _) ?_ q k
    rw [sizeLine_eq]
    simp only [List.length_flatten, List.map_replicate, List.sum_replicate_nat]
    rw [hlen] at hb
    have : xs.length * x.toNat = x.toNat * xs.length := Nat.mul_comm _ _
    omega
  refine wpAny_binaryOp_repeat_ref (T := "list") (U := "int") (by decide) ⟨_, ho, rfl⟩ (fun s' => typeIs_int s' x u) noFill_list_mul F.fills_int_mul F.slot_int_rmul repeat_list F.slot_int_index.lookup
    (call_meets F.slot_int_rmul (typeIs_int s x u) F.entry_int_rmul (F.args_int_rmul_2 _ _) (lm_int_rmul_list_any x u l vs.toArray k' d sl)
      ⟨ho, rfl, ⟨_, ho, rfl⟩, call_meets F.slot_list_mul ⟨_, ho, rfl⟩ F.entry_list_mul (F.args_list_mul_2 _ _)
        (lm_list_mul_any l vs.toArray k' d sl x u (by simp [Builtin.List.listFitsIndex]; omega) (by omega) (by simp [Builtin.List.listTooLong, sizeLine]; omega))
        ⟨ho, ?_⟩⟩)
  rw [listMul_foldl_if]
  exact fin _ rfl

theorem len_s {x : List Nat} (hl : x.length ≤ sizeLine) (q : Q (.int x.length) m H) : TN X n env m H (fun cvs => call (.builtin "len") cvs) [.str x] Q :=
  TN.quiet (w := .int x.length) (fun A s C E η a _ _ da k => by
    obtain ⟨a, rfl, d⟩ := denL_one.mp da
    obtain ⟨t, rfl⟩ := den_str'.mp d
    rw [sizeLine_eq] at hl
    exact P.len_str (by show ¬ (x.toArray.size : Int) ≥ 2 ^ 63; simp; omega) (k _ _ (den_int.mpr ⟨_, by simp [PySem.Str.length]; rfl⟩))) q
theorem len_l {i : Nat} {xs : List V} (hi : H[i]? = some (.list xs)) (q : Q (.int xs.length) m H) : TN X n env m H (fun cvs => call (.builtin "len") cvs) [.loc i] Q :=
  TN.quiet (w := .int xs.length) (fun A s C E η a _ re da k => by
    obtain ⟨a, rfl, d⟩ := denL_one.mp da
    obtain ⟨a, rfl, ea⟩ := den_loc.mp d
    obtain ⟨vs, hL, dL, hz⟩ := re.list hi ea
    have := denL_length dL
    rw [sizeLine_eq] at hz
    exact call_len_list hL (by simp [this]; omega) (k _ _ (den_int.mpr ⟨_, by simp [this]; rfl⟩))) q
end
end Mine
end
section
open PySem PySem.W PyProof.Rows PySem.Calls
set_option Elab.async false
set_option maxRecDepth 100000
set_option linter.unusedVariables false
namespace Mine

theorem isStr_str (x : Str) (t : Tok) (y : Str) : (Value.str x t).isStr y = decide (x = y) := by
  show (x == y) = decide (x = y)
  rw [Bool.beq_eq_decide_eq]

theorem fields_noRef {X η h fs es} (f : FieldsAre X η h fs es) : es.any (·.refKey) = false := by
  induction f with
  | nil => rfl
  | @cons x v fs e es t hk d _ ih =>
    rw [List.any_cons, ih, Bool.or_false]
    unfold DictEntry.refKey; rw [hk]
theorem fields_get {X η h fs es} (f : FieldsAre X η h fs es) : (fs.map (·.1)).Nodup → ∀ {x v}, (x, v) ∈ fs → ∃ cv, getL x es = some (some cv) ∧ Den X η h v cv := by
  induction f with
  | nil => intro _ x v hm; cases hm
  | @cons x v fs e es t hk d f ih =>
    intro nd y w hm
    rw [List.map_cons, List.nodup_cons] at nd
    unfold getL
    rw [List.find?_cons, hk, isStr_str]
    rcases List.mem_cons.mp hm with q | q
    · cases q; simp only [decide_true]; exact ⟨e.val, rfl, d⟩
    · have hne : x ≠ y := fun z => nd.1 (z ▸ List.mem_map.mpr ⟨_, q, rfl⟩)
      simp only [hne, decide_false]
      obtain ⟨cv, e1, d1⟩ := ih nd.2 q
      refine ⟨cv, ?_, d1⟩
      unfold getL at e1
      rw [List.any_cons, show e.refKey = false from by unfold DictEntry.refKey; rw [hk], Bool.false_or]
      exact e1
theorem fields_miss {X η h fs es} (f : FieldsAre X η h fs es) : ∀ {x}, x ∉ fs.map (·.1) → getL x es = some none := by
  induction f with
  | nil => intro x _; rfl
  | @cons x v fs e es t hk d f ih =>
    intro y hm
    simp only [List.map_cons, List.mem_cons, not_or] at hm
    unfold getL
    rw [List.find?_cons, hk, isStr_str]
    simp only [Ne.symm hm.1, decide_false]
    have := ih hm.2
    unfold getL at this
    rw [List.any_cons, show e.refKey = false from by unfold DictEntry.refKey; rw [hk], Bool.false_or]
    exact this

inductive UpdF : List (Str × V) → Str → V → List (Str × V) → Prop where
  | new {x v} : UpdF [] x v [(x, v)]
  | here {x w v r} : UpdF ((x, w) :: r) x v ((x, v) :: r)
  | there {x v y w r r'} : y ≠ x → UpdF r x v r' → UpdF ((y, w) :: r) x v ((y, w) :: r')
theorem UpdF.names {fs x v fs'} (u : UpdF fs x v fs') : ∀ y, y ∈ fs'.map (·.1) → y = x ∨ y ∈ fs.map (·.1) := by
  induction u with
  | new => intro y hy; simpa using hy
  | here => intro y hy; exact .inr hy
  | there hne _ ih =>
    intro y hy
    simp only [List.map_cons, List.mem_cons] at hy ⊢
    rcases hy with q | q
    · exact .inr (.inl q)
    · rcases ih y q with z | z
      · exact .inl z
      · exact .inr (.inr z)
theorem UpdF.nd {fs x v fs'} (u : UpdF fs x v fs') : (fs.map (·.1)).Nodup → (fs'.map (·.1)).Nodup := by
  induction u with
  | new => intro _; simp
  | here => intro h; exact h
  | there hne u ih =>
    intro h
    simp only [List.map_cons, List.nodup_cons] at h ⊢
    refine ⟨fun hm => ?_, ih h.2⟩
    rcases u.names _ hm with z | z
    · exact hne z
    · exact h.1 z
theorem UpdF.put {X η h fs x v fs' es} (u : UpdF fs x v fs') (f : FieldsAre X η h fs es) {hsh : Int} {t : Tok} {cv : Value} (d : Den X η h v cv) : FieldsAre X η h fs' (putL x hsh (.str x t) cv es) := by
  induction u generalizing es with
  | new => cases f; exact .cons rfl d .nil
  | here =>
    cases f with
    | cons hk d0 f =>
      unfold putL; rw [hk, isStr_str]
      simp only [decide_true, if_true]
      exact .cons rfl d f
  | there hne u ih =>
    cases f with
    | cons hk d0 f =>
      unfold putL; rw [hk, isStr_str]
      simp only [hne, decide_false, Bool.false_eq_true, if_false]
      exact .cons hk d0 (ih f d)
theorem fields_length {X η h fs es} (f : FieldsAre X η h fs es) : es.length = fs.length := by induction f with | nil => rfl | cons _ _ _ ih => simp [ih]

section
variable {X : Cx} {n : Nat} {env : Env} {m : Loc} {H : List Cell} {Q : V → Loc → List Cell → Prop}

/-- cell i is an instance of class C, its dict cell j -/
structure IsInst (H : List Cell) (i j : Nat) (C : Addr) (fs : List (Str × V)) : Prop where
  inst : H[i]? = some (.inst C j)
  dict : H[j]? = some (.dict fs)

theorem Rel.instAt {η h} (re : Rel X η H h) {i j C fs a} (I : IsInst H i j C fs) (ea : η[i]? = some a) : ∃ d es n, η[j]? = some d ∧ h.get? a = some (instObj C d) ∧ h.get? d = some (dictOf es n) ∧ FieldsAre X η h fs es ∧ (fs.map (·.1)).Nodup ∧ InstAt h a (instObj C d) C (some (dictOf es n)) := by
  obtain ⟨a', o, e1, e2, d, rfl, ed⟩ := re.cells i _ I.inst
  rw [ea] at e1; cases e1
  obtain ⟨d', o', e3, e4, es, n, rfl, f, nd⟩ := re.cells j _ I.dict
  rw [ed] at e3; cases e3
  exact ⟨d, es, n, ed, e2, e4, f, nd, ⟨e2, rfl, rfl, e4⟩⟩

theorem tri_Attr {value attr pos} (h : TE X n env m H (eval value env) fun v m H => T1 X n env m H (fun o => getAttr o attr true) v Q) (hbase : attributeBase value attr env (eval value env) = eval value env := by rfl) :
    TE X n env m H (eval (.Attribute value attr pos) env) Q := by
  intro A η s C E Ro re e _ k
  have ar : eval (.Attribute value attr pos) env = (do
    let o ← attributeBase value attr env (eval value env)
    standAt pos.atName
    let r ← holding [o] (getAttr o attr true)
    letTemporaryGo value o r
    pure r) := rfl
  rw [ar, hbase]
  refine wpAny_bind (h A η s _ E Ro re e trivial fun v m1 H1 a η1 s1 q1 d1 r1 e1 a1 => ?_)
  refine wpAny_bind (wpAny_standAt (wpAny_bind (wpAny_holding ?_)))
  refine q1 a A η1 s1 _ E Ro r1 e1 d1 fun v' m' H' c η' s' q d r' e' a' => ?_
  exact wpAny_bind (wpAny_letTemporaryGo (wpAny_pure (k v' m' H' c η' s' q d r' e' (a1.trans a'))))

theorem den_handed {η h} : ∀ {v : V} {cv : Value}, Den X η h v cv → handedIn cv = true := by
  intro v cv d
  cases v <;> unfold Den at d <;> first | (obtain ⟨rfl, _⟩ := d; rfl) | (subst d; rfl) | (obtain ⟨_, rfl⟩ := d; rfl) | (obtain ⟨_, _, _, rfl, _⟩ := d; rfl) | (obtain ⟨_, rfl, _⟩ := d; rfl) | (obtain ⟨_, _, rfl, _⟩ := d; rfl) | (obtain ⟨_, _, _, _, rfl, _⟩ := d; rfl) | (obtain ⟨_, _, _, _, _, _, _, rfl, _⟩ := d; rfl)

/-- looks at a class: plain attributes, a dict -/
structure ClsOk (K : Frag) (C : Addr) : Prop where
  ga : findIn K (.ref C) "__getattribute__" = some (some (.builtin "object.__getattribute__"))
  na : findIn K (.ref C) "__getattr__" = some none
  hd : hasDictIn K C = true
  sa : findIn K (.ref C) "__setattr__" = some (some (.builtin "object.__setattr__"))
  po : plainOver K C = true

theorem get_field {i j C fs x v} (I : IsInst H i j C fs) (ok : ClsOk X.K C) (hn : findIn X.K (.ref C) x = some none) (hm : (x, v) ∈ fs) (q : Q v m H) : T1 X n env m H (fun o => getAttr o x true) (.loc i) Q :=
  T1.quiet (w := v) (fun A s C' E η a _ re da k => by
    obtain ⟨a, rfl, ea⟩ := den_loc.mp da
    obtain ⟨d, es, n', ed, e1, e2, f, nd, IA⟩ := re.instAt I ea
    obtain ⟨cv, gl, dv⟩ := fields_get f nd hm
    exact get_value re.kin IA ok.ga (findObj_own ok.hd hn rfl (by rw [lookIn_dict]; exact gl)) (den_handed dv) (k cv _ dv)) q

/-- self.x = v -/
theorem set_field {i j C fs fs' x v} {N : Loc → List Cell → Prop} (I : IsInst H i j C fs) (ok : ClsOk X.K C) (ht : takerIn X.K C x = some none) (hu : UpdF fs x v fs') (hz : fs.length ≤ 900) (hx : x ∈ fs.map (·.1) ∨ x ∉ fs.map (·.1)) (q : N m (H.set j (.dict fs'))) :
    ∀ a b, TriP X n env (fun _ _ (_ : Unit) (_ : Unit) => True) (fun η h => Den X η h (.loc i) a ∧ Den X η h v b) m H (setAttr a x b) (fun _ => N) := by
  intro a b A η s C' E Ro re e ⟨da, db⟩ kk
  obtain ⟨a, rfl, ea⟩ := den_loc.mp da
  obtain ⟨dx, es, n', ed, e1, e2, f, nd, IA⟩ := re.instAt I ea
  have isS : (getL x es).isSome = true := by
    rcases hx with h | h
    · obtain ⟨p, hp, rfl⟩ := List.mem_map.mp h
      obtain ⟨cv, gl, _⟩ := fields_get f nd (show (p.1, p.2) ∈ fs from hp)
      rw [gl]; rfl
    · rw [fields_miss f h]; rfl
  have hl : (lookIn x (dictOf es n')).isSome = true := by rw [lookIn_dict]; exact isS
  refine set_plain re.kin IA ok.sa ?_
  refine osa_open (s := { s with toks := s.toks + 1 }) re.kin IA ok.po ht fun bb => ?_
  obtain ⟨cd, hc, hd'⟩ := any_some ok.hd
  refine wpAny_bind (wpAny_pure (wpAny_bind (wpAny_bind (wpAny_loadPart e1 (wpAny_bind (Looks.here (s := { s with toks := s.toks + 1 }) (looks_clsIn re.kin hc) ?_))))))
  rw [hd']
  refine wpAny_pure (a := some dx) (wpAny_bind (wpAny_pure (wpAny_bind ?_)))
  unfold nsSet
  refine wpAny_bind (wpAny_bind (wpAny_askSetting (wpAny_pure (wpAny_bind (wpAny_mkText (wpAny_bind (wpAny_loadPart e2 ?_)))))))
  have c : (!es.toArray.any (·.key.isStr x) && es.toArray.any (·.refKey)) = false := by
    rw [show es.toArray.any (·.refKey) = false from by rw [List.any_toArray]; exact fields_noRef f, Bool.and_false]
  dsimp only
  rw [aRefKeyMayBeTheName_at, c]
  refine wpAny_updatePart e2 ?_
  have hput : ∀ t, Obj.putName x (PyData.keyHash X.w.params x) (.str x t) b (dictOf es n') = dictOf (putL x (PyData.keyHash X.w.params x) (.str x t) b es) (putN x es n') := fun t => putName_dict ..
  have D' : (s.heap.update dx (Obj.putName x (PyData.keyHash X.w.params x) (.str x (s.toks + 1)) b)).get? dx = some (dictOf (putL x (PyData.keyHash X.w.params x) (.str x (s.toks + 1)) b es) (putN x es n')) := by
    have := Heap.get?_update_self (Obj.putName x (PyData.keyHash X.w.params x) (.str x (s.toks + 1)) b) e2 (by rw [hput]; rfl)
    rw [this, hput]
  have hlen : (putL x (PyData.keyHash X.w.params x) (.str x (s.toks + 1)) b es).length ≤ 1000 := by
    have F1 := hu.put (hsh := PyData.keyHash X.w.params x) (t := s.toks + 1) f db
    rw [fields_length F1]
    have : ∀ {fs x v fs'}, UpdF fs x v fs' → fs'.length ≤ fs.length + 1 := by
      intro fs x v fs' u
      induction u with
      | new => simp
      | here => simp
      | there _ _ ih => simp; omega
    have := this hu; omega
  refine wpAny_bind (wpAny_lookBehind D' (pastItsLine_dict (by rw [List.size_toArray, sizeLine_eq]; omega)) ?_)
  refine wpAny_pure ?_
  have hs : Heap.SameBut dx s.heap (s.heap.update dx (Obj.putName x (PyData.keyHash X.w.params x) (.str x (s.toks + 1)) b)) := Heap.SameBut.update ..
  have nt : ∀ o, s.heap.get? dx = some o → frozen o = false := fun o q => by rw [e2] at q; cases q; rfl
  have K := keeps_same (X := X) (η := η) hs nt
  obtain ⟨r', e', ad⟩ := upd_ok (c' := .dict fs') (tk := s.toks + 1 + 1) re e ed hs D' ⟨_, _, rfl, (hu.put f db).keeps K, hu.nd nd⟩
  exact kk () m _ () η _ q trivial r' e' ad

theorem ts_Assign_Attr {o attr pos' value pos N B K R} (h : TE X n env m H (eval value env) fun v m H => TE X n env m H (eval o env) fun ov m H =>
      ∀ a b, TriP X n env (fun _ _ (_ : Unit) (_ : Unit) => True) (fun η h => Den X η h ov a ∧ Den X η h v b) m H (setAttr a attr b) (fun _ => N))
    (hs : swapsWith value (some (.Attribute o attr pos')) pos.line env = Pure.pure false := by rfl) : TS X n env m H (exec (.Assign [.Attribute o attr pos'] value pos) env) N B K R := by
  intro A η s C E Ro r e _ k
  refine plainObj_wpAny_Assign_Attribute (h A η s _ E Ro r e trivial fun v m1 H1 a η1 s1 q1 d1 r1 e1 a1 => ?_) hs
  refine q1 A η1 s1 _ E Ro r1 e1 trivial fun u m2 H2 b η2 s2 q2 d2 r2 e2 a2 => ?_
  exact q2 b a A η2 s2 _ E Ro r2 e2 ⟨d2, a2.den r1 e1 d1⟩ fun _ m' H' _ η' s' q _ r' e' a' => k .next m' H' _ η' s' q (by unfold DenF; rfl) r' e' (a1.trans (a2.trans a'))

theorem ts_Aug_Attr {o attr tpos op value pos N B K R} (h : TE X n env m H (eval o env) fun ov m H => ∀ oa, TriP X n env (fun η h v cv => Den X η h v cv) (fun η h => Den X η h ov oa) m H (getAttr oa attr true) fun old m H =>
      TE X n env m H (eval value env) fun v m H => T2 X n env m H (inplaceOp op) old v fun w m H =>
      ∀ a b, TriP X n env (fun _ _ (_ : Unit) (_ : Unit) => True) (fun η h => Den X η h ov a ∧ Den X η h w b) m H (setAttr a attr b) (fun _ => N)) : TS X n env m H (exec (.AugAssign (.Attribute o attr tpos) op value pos) env) N B K R := by
  intro A η s C E Ro r e _ k
  refine wpAny_AugAssign_AttributeAny (h A η s _ E Ro r e trivial fun ov m1 H1 a η1 s1 q1 d1 r1 e1 a1 => ?_)
  refine q1 a A η1 s1 _ E Ro r1 e1 d1 fun old m2 H2 b η2 s2 q2 d2 r2 e2 a2 => ?_
  refine q2 A η2 s2 _ E Ro r2 e2 trivial fun v m3 H3 c η3 s3 q3 d3 r3 e3 a3 => ?_
  refine q3 b c A η3 s3 _ E Ro r3 e3 ⟨a3.den r2 e2 d2, d3⟩ fun w m4 H4 c4 η4 s4 q4 d4 r4 e4 a4 => ?_
  exact q4 a c4 A η4 s4 _ E Ro r4 e4 ⟨(a2.trans (a3.trans a4)).den r1 e1 d1, d4⟩ fun _ m' H' _ η' s' q _ r' e' a' => k .next m' H' _ η' s' q (by unfold DenF; rfl) r' e' (a1.trans (a2.trans (a3.trans (a4.trans a'))))

/-- self.f as a method -/
theorem tm_method {i j C fs name f} {Qm : Value → List V → Prop} (I : IsInst H i j C fs) (ok : ClsOk X.K C) (hf : findIn X.K (.ref C) name = some (some (.ref f))) (ht : typeIn X.K (.ref f) = some (.type "function")) (hn : name ∉ fs.map (·.1)) (q : Qm (.ref f) [.loc i]) : TM X n env m H name (.loc i) Qm := by
  intro A η s pl C' E ov Ro re e d k
  obtain ⟨a, rfl, ea⟩ := den_loc.mp d
  obtain ⟨dx, es, n', ed, e1, e2, ff, nd, IA⟩ := re.instAt I ea
  refine method_fn re.kin IA ok.ga ok.na hf ht (by show (lookIn name (dictOf es n')).map _ = _; rw [lookIn_dict, fields_miss ff hn]; rfl) ?_
  exact k (.ref f) [.loc i] [.ref a] s.toks q (denL_one.mpr ⟨_, rfl, d⟩)
end
end Mine
end
section
open PySem PySem.W PyProof.Rows PySem.Calls
set_option Elab.async false
set_option maxRecDepth 100000
set_option linter.unusedVariables false
namespace Mine
section
variable {X : Cx} {n : Nat} {env : Env} {m : Loc} {H : List Cell} {Q : V → Loc → List Cell → Prop}

theorem cn_make {C fI : Addr} {vs : List V} (hm : makesIn X.K C = true) (hi : findIn X.K (.ref C) "__init__" = some (some (.ref fI))) (hf : typeIn X.K (.ref fI) = some (.type "function"))
    (h : CN X n env m (H ++ [.dict []] ++ [.inst C H.length]) (.ref fI) (.loc (H.length + 1) :: vs) (fun r m' H' => r = .none ∧ Q (.loc (H.length + 1)) m' H')) : CN X (n + 2) env m H (.ref C) vs Q := by
  intro cvs A η s C' Ro re e d k
  obtain ⟨hh, g, dr, t, os⟩ := s
  obtain ⟨r1, e1, a1⟩ := alloc_ok (tk := t) (s := ⟨hh, g, dr, t, os⟩) (c := .dict []) (o := emptyDict) re e rfl ⟨[], 0, rfl, .nil, List.nodup_nil⟩
  have sz : (hh.push emptyDict).objs.size = hh.objs.size + 1 := Heap.size_push ..
  obtain ⟨r2, e2, a2⟩ := alloc_ok (tk := t) (s := ⟨hh.push emptyDict, g, dr, t, os⟩) (c := .inst C H.length) (o := instObj C hh.objs.size) r1 e1 rfl ⟨hh.objs.size, rfl, by
    rw [List.getElem?_append_left (by simp [re.len])]
    rw [← re.len, List.getElem?_append_right (Nat.le_refl _)]; simp⟩
  have a12 := a1.trans a2
  refine make_core (makes_of re.kin hm) (looks_findIn re.kin hi) (fun self => bind_fn re.kin self hf) (.inl rfl) ?_
  have Ro' : Room (A.under (.builtin "type.__call__" ⟨.ref C :: cvs, []⟩)) n := ⟨Ro.handled, by
      have := Ro.depth
      have w : (Code.builtin "type.__call__" ⟨.ref C :: cvs, []⟩).weight ≤ 1 := by
        simp [Code.weight, Code.frames, Code.isCreation, Code.isGuard, Code.isCaller, guardIds, Code.isFrame]
      show A.depth + (Code.builtin "type.__call__" ⟨.ref C :: cvs, []⟩).weight + n < _
      omega, by
      have := Ro.units
      have w : (Code.builtin "type.__call__" ⟨.ref C :: cvs, []⟩).cUnits ≤ 8 := by
        simp [Code.cUnits, Code.frames, Code.isFrame]
      show A.units + (Code.builtin "type.__call__" ⟨.ref C :: cvs, []⟩).cUnits + 8 * n + 16 < _
      omega⟩
  have dx : Den X (η ++ [hh.objs.size] ++ [(hh.push emptyDict).objs.size]) ((hh.push emptyDict).push (instObj C hh.objs.size)) (.loc (H.length + 1)) (.ref (hh.objs.size + 1)) :=
    den_loc.mpr ⟨_, rfl, by rw [sz, ← re.len]; simp⟩
  refine codeAny_mono (h (.ref (hh.objs.size + 1) :: cvs) _ _ _ (fun v s' => v = .none ∧ C' (.ref (hh.objs.size + 1)) s') Ro' r2 e2 (by unfold DenL; exact ⟨_, _, rfl, dx, a12.denL re e d⟩) fun b m' H' a η' s' q db r' e' a' => ?_) fun r s' x => ?_
  · obtain ⟨rfl, q⟩ := q
    exact ⟨den_none.mp db, k _ m' H' _ η' s' q (Den.keeps (a'.keeps' r2 e2) _ dx) r' e' (a12.trans a')⟩
  · rcases r with z | (_ | _ | _ | v) <;> first | exact x | exact x.elim
end
end Mine
end
section
open PySem PySem.W PyProof.Rows PySem.Calls
set_option Elab.async false
set_option maxRecDepth 100000
set_option linter.unusedVariables false
namespace Mine
section
variable {X : Cx} {n : Nat} {env : Env} {m : Loc} {H : List Cell} {Q : V → Loc → List Cell → Prop}

theorem ts_Expr {ex pos N B K R} (h : TE X n env m H (eval ex env) fun _ m H => N m H) (hi : interactive env = false := by rfl) (hs : swapsWith ex none pos.line env = Pure.pure false := by rfl) : TS X n env m H (exec (.Expr ex pos) env) N B K R := by
  intro A η s C E Ro r e _ k
  exact wpAny_Expr_any (h A η s _ E Ro r e trivial fun v m1 H1 a η1 s1 q1 d1 r1 e1 a1 => k .next m1 H1 _ η1 s1 q1 (by unfold DenF; rfl) r1 e1 a1) hi hs

/-- an object that stands aside, fresh -/
theorem aside_push {η : List Addr} {s : Shared} {o : Obj} (re : Rel X η H s.heap) (e : EnvOk X env η m s.heap) (f : frozen o = false) (hf : o.isFreed = false) : Aside X env η (s.heap.push o) s.heap.objs.size where
  old := re.fresh.1
  nη := re.fresh.2
  nL := fun q => by
    obtain ⟨mc, ⟨o', _, _, ho, _⟩, _⟩ := e.ns
    rw [← q, get_size_none] at ho; cases ho
  nC := fun q => by
    obtain ⟨p, hp, z⟩ := List.mem_map.mp q
    obtain ⟨ov, o', ho, _⟩ := e.cellEx p hp
    rw [z, get_size_none] at ho; cases ho
  fz := fun o' q => by rw [Heap.get?_push_size _ hf] at q; cases q; exact f

/-- an iterator over a value -/
def iterOf (H : List Cell) : V → Option Src
  | .loc i => some (.lst i 0)
  | .rng n => some (.rng 0 n.toNat)
  | _ => none
theorem pyIter_ok {A : Around} {η : List Addr} {s : Shared} {C : Value → Shared → Prop} {E : Value → Shared → Prop} {v : V} {cv : Value} {src : Src} (Ro : Room A n) (re : Rel X η H s.heap) (e : EnvOk X env η m s.heap) (d : Den X η s.heap v cv) (hs : iterOf H v = some src) (hl : ∀ i, v = .loc i → ∃ xs, H[i]? = some (.list xs)) (hn : ∀ k, v = .rng k → 0 ≤ k ∧ k ≤ 2 ^ 62)
    (k : ∀ it h', ItAt η h' it src → Aside X env η h' it → Rel X η H h' → EnvOk X env η m h' → Adv X env η s η { s with heap := h' } → s.heap.get? it = none → C (.ref it) { s with heap := h' }) : wpAny (model X.prog X.w) A (pyIter cv) C E s := by
  cases v with
  | loc i =>
    cases hs
    obtain ⟨xs, hi⟩ := hl i rfl
    obtain ⟨a, rfl, ea⟩ := den_loc.mp d
    obtain ⟨vs, hL, _⟩ := re.list hi ea
    refine wpAny_pyIter_list hL ?_
    obtain ⟨r', e', ad⟩ := push_ok (tk := s.toks) (o := { cls := .type "list_iterator", data := .fields #[.ref a, .int 0 0] }) re e
    exact k _ _ ⟨a, ea, _, Heap.get?_push_size _ rfl, rfl, rfl⟩ (aside_push re e rfl rfl) r' e' ad (get_size_none _)
  | rng x =>
    cases hs
    unfold Den at d
    obtain ⟨a, t, u, w, rfl, hr⟩ := d
    have hx := hn x rfl
    have hsz : Builtin.Range.rangeSize 0 x 1 = (x.toNat : Int) := by
      unfold Builtin.Range.rangeSize
      rw [if_pos (by decide)]
      split
      · rw [Int.ediv_one]; omega
      · omega
    refine wpAny_pyIter_range hr (by
      unfold Builtin.Range.small
      rw [hsz]
      simp only [Builtin.Range.rangeFitsLong, Bool.and_eq_true, Bool.or_eq_true, decide_eq_true_eq, beq_iff_eq]
      refine ⟨⟨⟨⟨?_, ?_⟩, ?_⟩, ?_⟩, .inr ?_⟩
      all_goals (try rw [if_pos (by decide)])
      all_goals (try simp only [decide_eq_true_eq, Bool.and_eq_true])
      all_goals omega) ?_
    rw [hsz]
    obtain ⟨r', e', ad⟩ := push_ok (tk := s.toks) (o := { cls := .type "range_iterator", data := .fields #[rawInt 0, rawInt (x.toNat : Int), rawInt 1] }) re e
    exact k _ _ (Heap.get?_push_size _ rfl) (aside_push re e rfl rfl) r' e' ad (get_size_none _)
  | _ => cases hs

theorem ts_For {target iter body pos N B K R} (h : TE X n env m H (eval iter env) fun v m H => ∃ src, iterOf H v = some src ∧ (∀ i, v = .loc i → ∃ xs, H[i]? = some (.list xs)) ∧ (∀ k, v = .rng k → 0 ≤ k ∧ k ≤ 2 ^ 62) ∧ TF X n env m H target body src N R)
    (hs : ∀ x, foldedSetIterable iter env x = pure x := by intro _; rfl) : TS X n env m H (exec (.For target iter body [] pos) env) N B K R := by
  intro A η s C E Ro re e _ k
  refine wpAny_For (h A η s _ E Ro re e trivial fun v m1 H1 cv η1 s1 q1 d1 r1 e1 a1 => ?_) hs
  obtain ⟨src, hi, hl, hn, q⟩ := q1
  refine pyIter_ok Ro r1 e1 d1 hi hl hn fun it h' hit ha r2 e2 a2 h0 => ?_
  refine codeAny_mono (q A η1 { s1 with heap := h' } C it η1 s1 Ro r2 e2 hit ha a2 h0 fun b m' H' a η' s' qq d' r' e' a' => k b m' H' a η' s' ?_ d' r' e' (a1.trans a')) fun rs s' x => ?_
  · cases b with
    | next => exact qq
    | brk => exact False.elim qq
    | cont => exact False.elim qq
    | ret v => exact qq
  · cases rs with
    | ok f => exact x
    | error e => exact x.elim

theorem range_i {x : Int} (hx : x ≤ 2 ^ 62) (q : Q (.rng x) m H) : TN X n env m H (fun cvs => call (.type "range") cvs) [.int x] Q := by
  intro cvs A η s C E Ro re e d k
  obtain ⟨a, rfl, d1⟩ := denL_one.mp d
  obtain ⟨t, rfl⟩ := den_int.mp d1
  refine call_range_1 ?_
  obtain ⟨r', e', ad⟩ := push_ok (tk := s.toks + 1 + 1) (o := { cls := .type "range", data := .fields #[.int 0 s.toks, .int x t, .int 1 (s.toks + 1)] }) re e
  exact k (.rng x) m _ _ _ _ q (by unfold Den; exact ⟨_, _, _, _, rfl, Heap.get?_push_size _ rfl⟩) r' e' ad

/-- a slice's bound -/
def clipI (v : Option Int) (dflt n : Nat) : Nat := match v with
  | none => dflt
  | some i => min (if i < 0 then i + n else i).toNat n
def cutL {α : Type} (xs : List α) (lo hi : Option Int) : List α := (xs.drop (clipI lo 0 xs.length)).take (clipI hi xs.length xs.length - clipI lo 0 xs.length)

theorem clip_eq (v : Option Int) (dflt n : Nat) : (match v with
    | none => (dflt : Int)
    | some i => max 0 (min (if i < 0 then i + n else i) (n : Int))) = (clipI v dflt n : Int) := by
  unfold clipI
  cases v with
  | none => rfl
  | some i => dsimp only; split <;> omega

theorem sliceRange_one (a b : Nat) : sliceRange a b 1 = (List.range (b - a)).map fun k => a + k := by
  unfold sliceRange
  have e : (if (1 : Int) > 0 then (if (a : Int) < b then ((b : Int) - a + 1 - 1) / 1 else 0) else (if (a : Int) > b then ((a : Int) - b - 1 - 1) / (-1) else 0)).toNat = b - a := by
    rw [if_pos (by decide)]
    split
    · rw [Int.ediv_one]; omega
    · omega
  dsimp only
  rw [e]
  refine List.map_congr_left fun k _ => ?_
  omega
theorem pick_run {α : Type} (xs : List α) : ∀ (c a : Nat), a + c ≤ xs.length → ((List.range c).map fun k => a + k).filterMap (xs[·]?) = (xs.drop a).take c := by
  intro c
  induction c with
  | zero => intro a _; simp
  | succ c ih =>
    intro a h
    rw [List.range_succ, List.map_append, List.filterMap_append, ih a (by omega)]
    have hlt : a + c < xs.length := by omega
    rw [List.take_add_one]
    simp [List.getElem?_eq_getElem hlt, List.getElem?_drop]
theorem pick_cut {α : Type} (xs : List α) (lo hi : Option Int) : ((List.range (clipI hi xs.length xs.length - clipI lo 0 xs.length)).map fun k => clipI lo 0 xs.length + k).filterMap (xs[·]?) = cutL xs lo hi := by
  unfold cutL
  have hb : clipI hi xs.length xs.length ≤ xs.length := by unfold clipI; split <;> omega
  have ha : clipI lo 0 xs.length ≤ xs.length := by unfold clipI; split <;> omega
  exact pick_run xs _ _ (by omega)
theorem cutL_le {α : Type} (xs : List α) (lo hi) : (cutL xs lo hi).length ≤ xs.length := by unfold cutL; simp; omega

theorem denL_cut {η h xs vs} (lo hi) (d : DenL X η h xs vs) : DenL X η h (cutL xs lo hi) (cutL vs lo hi) := by
  unfold cutL; rw [denL_length d]; exact denL_take _ (denL_drop _ d)

theorem tri_Slice {lower upper : Option Expr} {pos} {e1 e2 : Env → Sem Value} (h : TE X n env m H (valueOrNone (evalOpt lower env)) fun l m H => TE X n env m H (valueOrNone (evalOpt upper env)) fun u m H => ∃ lo hi, (l = .none ∧ lo = none ∨ ∃ i, l = .int i ∧ lo = some i) ∧ (u = .none ∧ hi = none ∨ ∃ i, u = .int i ∧ hi = some i) ∧ Q (.slc lo hi) m H) :
    TE X n env m H (eval (.Slice lower upper none pos) env) Q := by
  intro A η s C E Ro re e _ k
  rw [arm_eval_Slice]
  refine wpAny_bind (h A η s _ E Ro re e trivial fun l m1 H1 cl η1 s1 q1 d1 r1 e1 a1 => ?_)
  refine wpAny_bind (wpAny_holding (q1 A η1 s1 _ E Ro r1 e1 trivial fun u m2 H2 cu η2 s2 q2 d2 r2 e2 a2 => ?_))
  obtain ⟨lo, hi, hlo, hhi, q⟩ := q2
  show wpAny _ A (holding [cl, cu] (pure Value.none) >>= fun st => newFields "slice" [cl, cu, st]) C E s2
  refine wpAny_bind (wpAny_holding (wpAny_pure ?_))
  have d1' := a2.den r1 e1 d1
  have part : ∀ {v : V} {o : Option Int} {cv : Value} {η h}, (v = .none ∧ o = none ∨ ∃ i, v = .int i ∧ o = some i) → Den X η h v cv → ∃ p : Option (Int × Tok), cv = partValue p ∧ p.map (·.1) = o := by
    intro v o cv η h hv d
    rcases hv with ⟨rfl, rfl⟩ | ⟨i, rfl, rfl⟩
    · exact ⟨none, den_none.mp d, rfl⟩
    · obtain ⟨t, rfl⟩ := den_int.mp d
      exact ⟨some (i, t), rfl, rfl⟩
  obtain ⟨p1, rfl, hp1⟩ := part hlo d1'
  obtain ⟨p2, rfl, hp2⟩ := part hhi d2
  refine wpAny_newObj_type ?_ (by show 3 ≤ sizeLine + 2; rw [sizeLine_eq]; decide)
  obtain ⟨r', e', ad⟩ := push_ok (tk := s2.toks) (o := { cls := .type "slice", data := .fields #[partValue p1, partValue p2, .none] }) r2 e2
  exact k (.slc lo hi) m2 _ _ _ _ q (by unfold Den; exact ⟨_, p1, p2, rfl, ⟨_, Heap.get?_push_size _ rfl, rfl, rfl⟩, hp1, hp2⟩) r' e' (a1.trans (a2.trans ad))

theorem tvn_none {Q : V → Loc → List Cell → Prop} (q : Q .none m H) : TE X n env m H (valueOrNone (evalOpt none env)) Q := TriP.pure (b := V.none) (fun _ _ _ => den_none.mpr rfl) q
theorem tvn_some {ex} {Q : V → Loc → List Cell → Prop} (h : TE X n env m H (eval ex env) Q) : TE X n env m H (valueOrNone (evalOpt (some ex) env)) Q := h

theorem t2_cut_str {value slice : Expr} {xs : List Nat} {lo hi : Option Int} (hz : xs.length ≤ sizeLine) (q : Q (.str (cutL xs lo hi)) m H) : T2 X n env m H (subscriptTail value slice) (.str xs) (.slc lo hi) Q := by
  intro a b A η s C E Ro re ev ⟨da, db⟩ kk
  obtain ⟨t, rfl⟩ := den_str'.mp da
  unfold Den at db
  obtain ⟨b, p1, p2, rfl, hs, h1, h2⟩ := db
  obtain ⟨ops, hsub⟩ := subscripted_is slice (.str ⟨xs.toArray⟩ t) (.ref b)
  refine tail_any (typeIs_str _ _ _) F.slot_str_getitem.lookup (wpAny_getItem_str_slice hs (by rfl) ?_) hsub
  have pick : slicePicked ⟨xs.toArray⟩ p1 p2 none = (List.range (clipI hi xs.length xs.length - clipI lo 0 xs.length)).map fun k => clipI lo 0 xs.length + k := by
    unfold slicePicked Builtin.Str.strSliceIndices
    rw [h1, h2]
    have hl : PySem.Str.length ⟨xs.toArray⟩ = xs.length := by simp [PySem.Str.length]
    rw [hl]
    show sliceRange _ _ 1 = _
    rw [← sliceRange_one]
    congr 1
    · exact clip_eq lo 0 xs.length
    · exact clip_eq hi xs.length xs.length
  have e2 : ((slicePicked ⟨xs.toArray⟩ p1 p2 none).filterMap ((⟨xs.toArray⟩ : PySem.Str).cps[·]?)) = cutL xs lo hi := by
    rw [pick, ← pick_cut]; simp
  unfold sliceMade
  split
  · rename_i hc
    have hlen : (slicePicked ⟨xs.toArray⟩ p1 p2 none).length = xs.length := by
      simp at hc; simpa [PySem.Str.length] using hc
    have : cutL xs lo hi = xs := by
      rw [pick] at hlen
      simp at hlen
      unfold cutL
      have hb : clipI hi xs.length xs.length ≤ xs.length := by unfold clipI; split <;> omega
      rcases Nat.eq_zero_or_pos xs.length with hz | hz
      · rw [List.length_eq_zero_iff.mp hz]; simp
      · have h0 : clipI lo 0 xs.length = 0 := by omega
        have h1 : clipI hi xs.length xs.length = xs.length := by omega
        rw [h0, h1]; simp
    exact kk (.str (cutL xs lo hi)) m H _ η s q (den_str'.mpr ⟨t, by rw [this]⟩) re ev (.refl ..)
  · refine ⟨?_, kk (.str (cutL xs lo hi)) m H _ η _ q (den_str'.mpr ⟨s.toks, by rw [e2]⟩) re ev (Adv.ofExt (tk := s.toks + 1) fun _ _ x => x)⟩
    show ((slicePicked ⟨xs.toArray⟩ p1 p2 none).filterMap ((⟨xs.toArray⟩ : PySem.Str).cps[·]?)).toArray.size ≤ sizeLine
    rw [e2]; simp
    exact Nat.le_trans (cutL_le ..) hz

theorem t2_cut_list {value slice : Expr} {i : Nat} {xs : List V} {lo hi : Option Int} (hi' : H[i]? = some (.list xs)) (q : Q (.loc H.length) m (H ++ [.list (cutL xs lo hi)])) : T2 X n env m H (subscriptTail value slice) (.loc i) (.slc lo hi) Q := by
  intro a b A η s C E Ro re ev ⟨da, db⟩ kk
  obtain ⟨a, rfl, ea⟩ := den_loc.mp da
  obtain ⟨vs, hL, dL, hz⟩ := re.list hi' ea
  unfold Den at db
  obtain ⟨b, p1, p2, rfl, ⟨o, ho, hc, hd⟩, h1, h2⟩ := db
  have hlen := denL_length dL
  obtain ⟨ops, hsub⟩ := subscripted_is slice (.ref a) (.ref b)
  have ip : ∀ p : Option (Int × Tok), IsPart (partValue p) (p.map (·.1)) := fun p => by
    cases p with
    | none => exact .none
    | some q => exact .int q.1 q.2
  refine tail_any hL.typeIs slot_list_getitem.lookup (wpAny_getItem_list_slice hL ⟨o, ho, hc, hd⟩ (ip p1) (ip p2) (ip none) (by intro e; cases e) ?_ (by simp [hlen]; exact hz)) hsub
  have pick : slicePick vs.toArray (p1.map (·.1)) (p2.map (·.1)) none = (cutL vs lo hi).toArray := by
    unfold slicePick sliceBounds
    rw [h1, h2]
    congr 1
    rw [← pick_cut]
    simp only [List.size_toArray, List.getElem?_toArray]
    congr 1
    rw [← sliceRange_one]
    show sliceRange _ _ 1 = _
    congr 1
    · exact clip_eq lo 0 vs.length
    · exact clip_eq hi vs.length vs.length
  rw [show (Option.map (fun x : Int × Tok => x.1) none) = none from rfl, pick]
  exact new_list (tk := s.toks) re ev (denL_cut lo hi dL) (Nat.le_trans (cutL_le ..) hz) q kk
end
end Mine
end
section
open PySem PySem.W PyProof.Rows PySem.Calls
set_option Elab.async false
set_option maxRecDepth 100000
set_option linter.unusedVariables false
namespace Mine

/-- data without lists -/
def asciiL (s : List Nat) : Bool := s.all (· < 128)
mutual
def toPy : V → Option PyData
  | .none => some .none
  | .bool b => some (.bool b)
  | .int i => some (.int i)
  | .str s => some (.str ⟨s.toArray⟩)
  | .tup xs => (toPyL xs).map .tuple
  | _ => none
def toPyL : List V → Option (List PyData)
  | [] => some []
  | x :: xs => match toPy x, toPyL xs with
    | some d, some ds => some (d :: ds)
    | _, _ => none
end
mutual
theorem den_reads {X η h} : ∀ (v : V) {d cv}, toPy v = some d → Den X η h v cv → ∃ as, Reads h cv d as
  | .none, d, cv, e, dn => by unfold toPy at e; cases e; cases den_none.mp dn; exact ⟨_, .none⟩
  | .bool b, d, cv, e, dn => by unfold toPy at e; cases e; cases den_bool.mp dn; exact ⟨_, .bool b⟩
  | .int i, d, cv, e, dn => by unfold toPy at e; cases e; obtain ⟨t, rfl⟩ := den_int.mp dn; exact ⟨_, .int i t⟩
  | .str s, d, cv, e, dn => by unfold toPy at e; cases e; obtain ⟨t, rfl⟩ := den_str'.mp dn; exact ⟨_, .str _ t⟩
  | .tup xs, d, cv, e, dn => by
    unfold toPy at e
    obtain ⟨ds, hd, rfl⟩ := Option.map_eq_some_iff.mp e
    obtain ⟨a, vs, k, rfl, ho, _, dl⟩ := den_tup.mp dn
    obtain ⟨as, r⟩ := denL_reads xs hd dl
    exact ⟨as, .tuple ho rfl rfl (by simpa using r)⟩
  | .loc _, d, cv, e, _ => by unfold toPy at e; cases e
  | .fl _, d, cv, e, _ => by unfold toPy at e; cases e
  | .rng _, d, cv, e, _ => by unfold toPy at e; cases e
  | .slc _ _, d, cv, e, _ => by unfold toPy at e; cases e
  | .mat _ _ _, d, cv, e, _ => by unfold toPy at e; cases e
  | .obj _, d, cv, e, _ => by unfold toPy at e; cases e
theorem denL_reads {X η h} : ∀ (xs : List V) {ds vs}, toPyL xs = some ds → DenL X η h xs vs → ∃ as, ReadsAll h vs ds as
  | [], ds, vs, e, dn => by unfold toPyL at e; cases e; unfold DenL at dn; subst dn; exact ⟨_, .nil⟩
  | x :: xs, ds, vs, e, dn => by
    unfold toPyL at e
    unfold DenL at dn
    obtain ⟨v, vs', rfl, d1, d2⟩ := dn
    split at e
    · rename_i d ds' h1 h2
      cases e
      obtain ⟨as, r⟩ := den_reads x h1 d1
      obtain ⟨bs, rs⟩ := denL_reads xs h2 d2
      exact ⟨_, .cons r rs⟩
    · cases e
end

section
variable {X : Cx} {n : Nat} {env : Env} {m : Loc} {H : List Cell} {Q : V → Loc → List Cell → Prop}

theorem eq_data {v u : V} {d f : PyData} (hd : toPy v = some d) (hf : toPy u = some f) (h1 : d.canLay0 = true) (h2 : f.canLay0 = true) (h3 : d.depth ≤ 8) (q : Q (.bool (PyData.eqv d f)) m H) : T2 X n env m H (compareOp .Eq) v u Q :=
  T2.quiet (w := .bool (PyData.eqv d f)) (fun A s C E η a b Ro _ da db k => by
    obtain ⟨as, ra⟩ := den_reads v hd da
    obtain ⟨bs, rb⟩ := den_reads u hf db
    exact cmp_ofEq (SeqAt.rcAt_reads ra rb h1 h2 (by have := Ro.units; omega) X.prog X.w E C (k _ s.toks (den_bool.mpr rfl)))) q
theorem in_data {v : V} {xs : List V} {d : PyData} {ds : List PyData} (hd : toPy v = some d) (hf : toPyL xs = some ds) (h1 : d.canLay0 = true) (h2 : PyData.canLayAll0 ds = true) (h3 : d.depth ≤ 8) (q : Q (.bool (ds.any fun y => PyData.eqv y d)) m H) : T2 X n env m H (compareOp .In) v (.tup xs) Q :=
  T2.quiet (w := .bool (ds.any fun y => PyData.eqv y d)) (fun A s C E η a b Ro _ da db k => by
    obtain ⟨as, ra⟩ := den_reads v hd da
    obtain ⟨bs, rb⟩ := den_reads (.tup xs) (show toPy (.tup xs) = some (.tuple ds) by unfold toPy; rw [hf]; rfl) db
    exact SeqAt.in_tuple_reads rb ra h2 h1 (by have := Ro.units; omega) (k _ s.toks (den_bool.mpr rfl))) q
end
end Mine
end
section
open PySem PySem.W PyProof.Rows PySem.Calls
set_option Elab.async false
set_option maxRecDepth 100000
set_option linter.unusedVariables false
namespace Mine

theorem strsAre_den {X η h} : ∀ {xs : List (List Nat)} {vs : List Value}, DenL X η h (xs.map V.str) vs → StrsAre vs (xs.map fun x => (⟨x.toArray⟩ : PySem.Str))
  | [], vs, d => by simp at d; unfold DenL at d; subst d; exact .nil
  | x :: xs, vs, d => by
    simp only [List.map_cons] at d ⊢
    unfold DenL at d
    obtain ⟨v, vs', rfl, d1, d2⟩ := d
    obtain ⟨t, rfl⟩ := den_str'.mp d1
    exact .cons _ _ (strsAre_den d2)

/-- texts glued -/
def joinL (sep : List Nat) : List (List Nat) → List Nat
  | [] => []
  | [x] => x
  | x :: rest => x ++ sep ++ joinL sep rest
theorem join_is (sep : List Nat) : ∀ xs : List (List Nat), Txt.join ⟨sep.toArray⟩ (xs.map fun x => (⟨x.toArray⟩ : PySem.Str)) = ⟨(joinL sep xs).toArray⟩ := by
  intro xs
  show Builtin.Str.glued _ _ = _
  rw [StrLaws.glued_eq_join]
  induction xs with
  | nil => rfl
  | cons x xs ih =>
    cases xs with
    | nil => rfl
    | cons y ys =>
      show (⟨x.toArray⟩ : PySem.Str) ++ ⟨sep.toArray⟩ ++ Str.join ⟨sep.toArray⟩ (List.map (fun x => (⟨x.toArray⟩ : PySem.Str)) (y :: ys)) = _
      rw [ih]
      show (⟨x.toArray ++ sep.toArray ++ (joinL sep (y :: ys)).toArray⟩ : PySem.Str) = ⟨(x ++ sep ++ joinL sep (y :: ys)).toArray⟩
      simp

section
variable {X : Cx} {n : Nat} {env : Env} {m : Loc} {H : List Cell} {Q : V → Loc → List Cell → Prop} {Qm : Value → List V → Prop}

theorem in_s {x y : List Nat} (q : Q (.bool (Txt.contains ⟨x.toArray⟩ ⟨y.toArray⟩)) m H) : T2 X n env m H (compareOp .In) (.str y) (.str x) Q :=
  T2.quiet (w := .bool (Txt.contains ⟨x.toArray⟩ ⟨y.toArray⟩)) (fun A s C E η a b _ _ da db k => by obtain ⟨t, rfl⟩ := den_str'.mp da; obtain ⟨u, rfl⟩ := den_str'.mp db; exact P.in_str (k _ s.toks (den_bool.mpr rfl))) q
theorem notin_s {x y : List Nat} (q : Q (.bool (!Txt.contains ⟨x.toArray⟩ ⟨y.toArray⟩)) m H) : T2 X n env m H (compareOp .NotIn) (.str y) (.str x) Q :=
  T2.quiet (w := .bool (!Txt.contains ⟨x.toArray⟩ ⟨y.toArray⟩)) (fun A s C E η a b _ _ da db k => by obtain ⟨t, rfl⟩ := den_str'.mp da; obtain ⟨u, rfl⟩ := den_str'.mp db; exact P.notIn_str (k _ s.toks (den_bool.mpr rfl))) q

theorem int_b {b : Bool} (q : Q (.int (if b then 1 else 0)) m H) : TN X n env m H (fun cvs => call (.type "int") cvs) [.bool b] Q :=
  TN.quiet (w := .int (if b then 1 else 0)) (fun A s C E η a _ _ da k => by
    obtain ⟨a, rfl, d⟩ := denL_one.mp da
    cases den_bool.mp d
    exact call_int_bool (k _ _ (den_int.mpr ⟨_, rfl⟩))) q
theorem abs_i {i : Int} (q : Q (.int i.natAbs) m H) : TN X n env m H (fun cvs => call (.builtin "abs") cvs) [.int i] Q :=
  TN.quiet (w := .int i.natAbs) (fun A s C E η a _ _ da k => by
    obtain ⟨a, rfl, d⟩ := denL_one.mp da
    obtain ⟨t, rfl⟩ := den_int.mp d
    refine call_abs_int fun u tk => k _ _ (den_int.mpr ⟨u, ?_⟩)
    congr 1; split <;> omega) q
theorem floordiv_i {i j : Int} (hj : 0 < j) (hj' : j < 1000000000) (q : Q (.int (i / j)) m H) : T2 X n env m H (binaryOp .FloorDiv) (.int i) (.int j) Q :=
  T2.quiet (w := .int (i / j)) (fun A s C E η a b _ _ da db k => by
    obtain ⟨t, rfl⟩ := den_int.mp da; obtain ⟨u, rfl⟩ := den_int.mp db
    exact floordiv_int (by omega) (by rw [Int.fdiv_eq_ediv_of_nonneg _ (by omega)]; exact k _ _ (den_int.mpr ⟨_, rfl⟩)) (.inl (PyProof.noPylong_small (by omega)))) q
theorem isi_ss {x : List Nat} (q : Q (.bool true) m H) : ∀ a b, b = Value.type "str" → TriP X n env (fun η h v cv => Den X η h v cv) (fun η h => Den X η h (.str x) a) m H (call (.builtin "isinstance") [a, b]) Q := by
  intro a b hb A η s C E Ro re e d k
  subst hb
  obtain ⟨t, rfl⟩ := den_str'.mp d
  exact PySem.IsiPair.str_str (k (.bool true) m H _ η s q (den_bool.mpr rfl) re e (.refl ..))

theorem tm_str {name : Str} {id : String} {x : List Nat} (slot : Slot "str" name id) (hty : typeOf (.builtin id) = pure (.type "method_descriptor")) (q : Qm (.builtin id) [.str x]) : TM X n env m H name (.str x) Qm :=
  tm_builtin F.plainAttrs_str slot hty (fun η s ov _ d => ty_str d) q
theorem tm_list {name : Str} {id : String} {i : Nat} {xs : List V} (hi : H[i]? = some (.list xs)) (slot : Slot "list" name id) (hty : typeOf (.builtin id) = pure (.type "method_descriptor")) (q : Qm (.builtin id) [.loc i]) : TM X n env m H name (.loc i) Qm :=
  tm_builtin F.plainAttrs_list slot hty (fun η s ov re d => by
    obtain ⟨a, rfl, ea⟩ := den_loc.mp d
    obtain ⟨vs, k, ho, _⟩ := re.listO hi ea
    exact ⟨⟨_, ho, rfl⟩, fun b q => by cases q; exact ⟨_, ho, rfl⟩⟩) q

theorem isspace_s {x : List Nat} (q : Q (.bool (Txt.isspace ⟨x.toArray⟩)) m H) : TN X n env m H (fun cvs => call (.builtin "str.isspace") cvs) [.str x] Q :=
  TN.quiet (w := .bool (Txt.isspace ⟨x.toArray⟩)) (fun A s C E η a _ _ da k => by
    obtain ⟨a, rfl, d⟩ := denL_one.mp da
    obtain ⟨t, rfl⟩ := den_str'.mp d
    exact SC.isspace (k _ s.toks (den_bool.mpr rfl))) q
theorem isalnum_s {x : List Nat} (q : Q (.bool (Txt.isalnum ⟨x.toArray⟩)) m H) : TN X n env m H (fun cvs => call (.builtin "str.isalnum") cvs) [.str x] Q :=
  TN.quiet (w := .bool (Txt.isalnum ⟨x.toArray⟩)) (fun A s C E η a _ _ da k => by
    obtain ⟨a, rfl, d⟩ := denL_one.mp da
    obtain ⟨t, rfl⟩ := den_str'.mp d
    exact SC.isalnum (k _ s.toks (den_bool.mpr rfl))) q
theorem strip_s {x : List Nat} (hz : x.length ≤ sizeLine) (q : Q (.str (Txt.strip ⟨x.toArray⟩).cps.toList) m H) : TN X n env m H (fun cvs => call (.builtin "str.strip") cvs) [.str x] Q :=
  TN.quiet (w := .str (Txt.strip ⟨x.toArray⟩).cps.toList) (fun A s C E η a _ _ da k => by
    obtain ⟨a, rfl, d⟩ := denL_one.mp da
    obtain ⟨t, rfl⟩ := den_str'.mp d
    exact SC.strip (fun t' tk => k _ tk (den_str _ _)) (by show x.toArray.size ≤ sizeLine; simp; exact hz)) q
theorem join_l {sep : List Nat} {i : Nat} {xs : List (List Nat)} (hi : H[i]? = some (.list (xs.map V.str))) (hz : (xs.map (·.length)).sum + xs.length * sep.length ≤ 16777216) (q : Q (.str (joinL sep xs)) m H) : TN X n env m H (fun cvs => call (.builtin "str.join") cvs) [.str sep, .loc i] Q :=
  TN.quiet (w := .str (joinL sep xs)) (fun A s C E η a _ re da k => by
    obtain ⟨a, b, rfl, d1, d2⟩ := denL_two.mp da
    obtain ⟨t, rfl⟩ := den_str'.mp d1
    obtain ⟨l, rfl, ea⟩ := den_loc.mp d2
    obtain ⟨vs, hL, dL, _⟩ := re.list hi ea
    refine join_list hL (strsAre_den (by simpa using dL)) ?_ fun t' tk => k _ tk (den_str'.mpr ⟨t', by rw [join_is]⟩)
    simpa [PySem.Str.length, Function.comp_def] using hz) q
end
end Mine
end
section
open PySem
set_option Elab.async false
set_option linter.unusedVariables false
namespace Mine
/-- the functions that write a tree -/
inductive KT where
  | atom | asked | bare | any | group | part
def columnsT (ns : List (List Nat)) : List Nat := if ns.length = 1 then ns.headD [] else 123 :: joinL [32] ns ++ [125]
def SEPC : List (List Nat) := [[58], [58, 32], [32, 58]]
def SEPJ : List (List Nat) := [[32], [32, 65, 78, 68, 32], [32, 32]]
def PARC : List (List Nat) := [[41], [32, 41]]
def tNOT : List Nat := [32, 78, 79, 84, 32]
def isCol : LT → Bool
  | .col .. => true
  | _ => false
def isOrT : LT → Bool
  | .or .. => true
  | _ => false
def isLeaf : LT → Bool
  | .t .. => true
  | .w .. => true
  | _ => false
/-- texts one behind the other -/
inductive Jn : List (List Nat) → List Nat → Prop where
  | one {x} : Jn [x] x
  | snoc {xs t sep p} : Jn xs t → sep ∈ SEPJ → Jn (xs ++ [p]) (t ++ sep ++ p)
/-- what is asked for and what is not, mixed -/
inductive Mix : List (List Nat) → List (List Nat) → List (List Nat) → Prop where
  | nil : Mix [] [] []
  | pos {x xs ys zs} : Mix xs ys zs → Mix (x :: xs) ys (x :: zs)
  | neg {y xs ys zs} : Mix xs ys zs → Mix xs (y :: ys) ((45 :: y) :: zs)
mutual
inductive TXT : KT → LT → List Nat → Prop where
  | t {s} : TXT .atom (.t s) s
  | w {s st} : TXT .atom (.w s st) (s ++ st)
  | wq {s st} : TXT .atom (.w s st) (34 :: s ++ 34 :: st)
  | acol {ns t x} : TXT .asked (.col ns t) x → TXT .atom (.col ns t) x
  | par {t x c} : isLeaf t = false → c ∈ PARC → TXT .any t x → TXT .atom t (40 :: x ++ c)
  | asked {ns t x sep} : sep ∈ SEPC → TXT .bare t x → TXT .asked (.col ns t) (columnsT ns ++ sep ++ x)
  | bcol {ns t x} : TXT .asked (.col ns t) x → TXT .bare (.col ns t) (40 :: x ++ [41])
  | batom {t x} : isCol t = false → TXT .atom t x → TXT .bare t x
  | anyOr {l xs} : TXTs .group l xs → TXT .any (.or l) (joinL [32, 79, 82, 32] xs)
  | anyG {t x} : isOrT t = false → TXT .group t x → TXT .any t x
  | gAnd {l xs x} : TXTs .part l xs → Jn xs x → TXT .group (.and l) x
  | gCol {ns t x} : TXT .asked (.col ns t) x → TXT .group (.col ns t) x
  | gLeaf {t x} : isLeaf t = true → TXT .atom t x → TXT .group t x
  | gOr {l xs c} : TXTs .group l xs → c ∈ PARC → TXT .group (.or l) (40 :: joinL [32, 79, 82, 32] xs ++ c)
  | gNot1 {t n x y} : TXT .bare t x → TXT .bare n y → TXT .group (.not t [n]) (x ++ tNOT ++ y)
  | gNotA {l' l xs ys zs x} : TXTs .part l' xs → TXTs .atom l ys → Mix xs ys zs → Jn zs x → TXT .group (.not (.and l') l) x
  | gNotP {t l x0 ys zs x} : TXT .atom t x0 → TXTs .atom l ys → Mix [x0] ys zs → Jn zs x → TXT .group (.not t l) x
  | pNot {t n x y} : TXT .bare t x → TXT .bare n y → TXT .part (.not t [n]) (x ++ tNOT ++ y)
  | pAtom {t x} : TXT .atom t x → TXT .part t x
inductive TXTs : KT → List LT → List (List Nat) → Prop where
  | nil {k} : TXTs k [] []
  | cons {k t x l xs} : TXT k t x → TXTs k l xs → TXTs k (t :: l) (x :: xs)
end
/-- what stands for an or among operands -/
theorem atom_or {l : List LT} {x : List Nat} (h : TXT .atom (.or l) x) : TXT .group (.or l) x := by
  cases h with
  | par h1 h2 h3 =>
    cases h3 with
    | anyOr h4 => exact .gOr h4 h2
    | anyG h4 _ => cases h4
theorem TXTs.snoc {k} : ∀ {l xs t x}, TXTs k l xs → TXT k t x → TXTs k (l ++ [t]) (xs ++ [x])
  | _, _, _, _, .nil, h => .cons h .nil
  | _, _, _, _, .cons a b, h => .cons a (TXTs.snoc b h)
theorem TXTs.len {k} : ∀ {l xs}, TXTs k l xs → xs.length = l.length
  | _, _, .nil => rfl
  | _, _, .cons _ b => by simp [TXTs.len b]
theorem Mix.snoc {y : List Nat} : ∀ {xs ys zs a}, Mix xs ys zs → Mix (xs ++ a) (ys ++ [y]) (zs ++ a ++ [45 :: y])
  | _, _, _, [], .nil => .neg .nil
  | _, _, _, x :: a, .nil => .pos (by have := Mix.snoc (y := y) (a := a) .nil; simpa using this)
  | _, _, _, _, .pos h => .pos (Mix.snoc h)
  | _, _, _, _, .neg h => .neg (Mix.snoc h)
theorem Mix.rest : ∀ {xs ys zs a}, Mix xs ys zs → Mix (xs ++ a) ys (zs ++ a)
  | _, _, _, [], .nil => .nil
  | _, _, _, x :: a, .nil => .pos (by have := Mix.rest (a := a) .nil; simpa using this)
  | _, _, _, _, .pos h => .pos (Mix.rest h)
  | _, _, _, _, .neg h => .neg (Mix.rest h)
/-- how long a text can get -/
def maxL : Nat → Nat
  | 0 => 20
  | d + 1 => 47 + 5 * maxL d
def costX : Nat → Nat
  | 0 => 4
  | d + 1 => 30 + 8 * costX d
/-- the query of a tree, as the law writes it -/
def quo (n : List Nat) : List Nat := 34 :: n ++ [34]
mutual
def qText (nested : Bool) : LT → List Nat
  | .t s => s
  | .w s st => 34 :: s ++ 34 :: st
  | .col ns t => let x := columnsT (ns.map quo) ++ 58 :: 32 :: qText true t; if nested then 40 :: x ++ [41] else x
  | .and l => let x := joinL [32, 65, 78, 68, 32] (qTexts l); if nested then 40 :: x ++ [41] else x
  | .or l => let x := joinL [32, 79, 82, 32] (qTexts l); if nested then 40 :: x ++ [41] else x
  | .not t l => let x := joinL [32, 78, 79, 84, 32] (qText true t :: qTexts l); if nested then 40 :: x ++ [41] else x
def qTexts : List LT → List (List Nat)
  | [] => []
  | x :: l => qText true x :: qTexts l
end
end Mine
end
section
open PySem
set_option Elab.async false
set_option linter.unusedVariables false
namespace Mine
/-- how long what a function writes can get -/
def bnd : KT → Nat → Nat
  | _, 0 => 20
  | .group, d + 1 => 5 * maxL d + 40
  | .any, d + 1 => 5 * maxL d + 41
  | .atom, d + 1 => 5 * maxL d + 45
  | .asked, d + 1 => maxL d + 20
  | .bare, d + 1 => 5 * maxL d + 47
  | .part, d + 1 => 5 * maxL d + 46
theorem bnd_le (k : KT) : ∀ d, bnd k d ≤ maxL d
  | 0 => by cases k <;> decide
  | d + 1 => by cases k <;> simp only [bnd, maxL] <;> omega
theorem maxL_mono (d : Nat) : maxL d ≤ maxL (d + 1) := by simp only [maxL]; omega
theorem PH_len : ∀ p ∈ PHRASES, p.length ≤ 7 := by decide
theorem WO_len : ∀ p ∈ WORDS, p.length ≤ 4 := by decide
theorem ST_len : ∀ p ∈ STARS, p.length ≤ 1 := by decide
theorem NA_len : ∀ p ∈ NAMES, p.length ≤ 2 := by decide
theorem SC_len : ∀ p ∈ SEPC, p.length ≤ 2 := by decide
theorem SJ_len : ∀ p ∈ SEPJ, p.length ≤ 5 := by decide
theorem PC_len : ∀ p ∈ PARC, p.length ≤ 2 := by decide
theorem columns_len {ns : List (List Nat)} (h : ns.length = 1 ∨ ns.length = 2) (hn : ∀ n ∈ ns, n ∈ NAMES) : (columnsT ns).length ≤ 10 := by
  unfold columnsT
  rcases ns with _ | ⟨a, _ | ⟨b, _ | ⟨c, r⟩⟩⟩
  · simp [joinL]
  · have := NA_len a (hn a (.head _)); simp; omega
  · have h1 := NA_len a (hn a (.head _))
    have h2 := NA_len b (hn b (.tail _ (.head _)))
    simp [joinL]; omega
  · simp at h
theorem jn_len {M : Nat} : ∀ {xs : List (List Nat)} {x : List Nat}, Jn xs x → (∀ y ∈ xs, y.length ≤ M) → x.length ≤ xs.length * (M + 5)
  | _, _, .one, h => by have := h _ (.head _); simp; omega
  | _, _, @Jn.snoc xs t sep p hj hs, h => by
    have h1 := jn_len hj fun y hy => h y (List.mem_append_left _ hy)
    have h2 := h p (by simp)
    have h3 := SJ_len _ hs
    simp only [List.length_append, List.length_cons, List.length_nil]
    have e : (xs.length + (0 + 1)) * (M + 5) = xs.length * (M + 5) + (M + 5) := by rw [Nat.zero_add, Nat.succ_mul]
    rw [e]; omega
theorem mix_len {M : Nat} : ∀ {xs ys zs : List (List Nat)}, Mix xs ys zs → (∀ y ∈ xs, y.length ≤ M) → (∀ y ∈ ys, y.length ≤ M) → zs.length = xs.length + ys.length ∧ ∀ z ∈ zs, z.length ≤ M + 1
  | _, _, _, .nil, _, _ => ⟨rfl, fun z hz => by cases hz⟩
  | _, _, _, .pos h, hx, hy => by
    obtain ⟨h1, h2⟩ := mix_len h (fun y q => hx y (.tail _ q)) hy
    refine ⟨by simp; omega, fun z hz => ?_⟩
    rcases List.mem_cons.mp hz with rfl | hz
    · have := hx _ (.head _); omega
    · exact h2 z hz
  | _, _, _, .neg h, hx, hy => by
    obtain ⟨h1, h2⟩ := mix_len h hx (fun y q => hy y (.tail _ q))
    refine ⟨by simp; omega, fun z hz => ?_⟩
    rcases List.mem_cons.mp hz with rfl | hz
    · have := hy _ (.head _); simp; omega
    · exact h2 z hz
theorem join_len {M : Nat} : ∀ {xs : List (List Nat)}, (∀ y ∈ xs, y.length ≤ M) → (joinL [32, 79, 82, 32] xs).length ≤ xs.length * (M + 4)
  | [], _ => by simp [joinL]
  | [x], h => by have := h x (.head _); simp [joinL]; omega
  | x :: y :: l, h => by
    have h1 := h x (.head _)
    have h2 := join_len (xs := y :: l) fun z hz => h z (.tail _ hz)
    simp only [joinL, List.length_append, List.length_cons, List.length_nil] at h2 ⊢
    rw [Nat.succ_mul (l.length + 1)]
    omega
theorem nonleaf_pos {d : Nat} {t : LT} (h : goodT d t) (hl : isLeaf t = false) : ∃ d', d = d' + 1 := by
  cases d with
  | zero => cases t <;> first | (simp [isLeaf] at hl; done) | (simp [goodT] at h; done)
  | succ d => exact ⟨d, rfl⟩
theorem leaf_zero {d : Nat} {t : LT} (h : goodT (d + 1) t) (hl : isLeaf t = true) : goodT 0 t := by
  cases t <;> first | exact h | (simp [isLeaf] at hl)
theorem leaf_len {t : LT} {x : List Nat} {d : Nat} (hx : TXT .atom t x) (hl : isLeaf t = true) (h : goodT d t) : x.length ≤ 20 := by
  cases hx with
  | t =>
    have : ∃ p ∈ PHRASES, ∃ st ∈ STARS, x = 34 :: p ++ 34 :: st := by cases d <;> exact h
    obtain ⟨p, hp, st, hs, rfl⟩ := this
    have := PH_len p hp
    have := ST_len st hs
    simp; omega
  | @w s st =>
    have : s ∈ WORDS ∧ st ∈ STARS := by cases d <;> exact h
    have := WO_len _ this.1
    have := ST_len st (by cases d <;> exact h.2)
    simp; omega
  | @wq s st =>
    have : s ∈ WORDS ∧ st ∈ STARS := by cases d <;> exact h
    have := WO_len _ this.1
    have := ST_len st (by cases d <;> exact h.2)
    simp; omega
  | acol _ => simp [isLeaf] at hl
  | par h1 _ _ => rw [hl] at h1; cases h1
def rankK : KT → Nat
  | .asked => 0
  | .group => 1
  | .any => 2
  | .atom => 3
  | .bare => 4
  | .part => 5
mutual
theorem tx_len : ∀ {k : KT} {t : LT} {x : List Nat} {d : Nat}, TXT k t x → goodT d t → x.length ≤ bnd k d
  | _, _, _, d, @TXT.t s, h => by
    have : ∃ p ∈ PHRASES, ∃ st ∈ STARS, s = 34 :: p ++ 34 :: st := by cases d <;> exact h
    obtain ⟨p, hp, st, hs, rfl⟩ := this
    have := PH_len p hp
    have := ST_len st hs
    cases d <;> simp [bnd] <;> omega
  | _, _, _, d, @TXT.w s st, h => by
    have : s ∈ WORDS ∧ st ∈ STARS := by cases d <;> exact h
    have := WO_len _ this.1
    have := ST_len st (by cases d <;> exact h.2)
    cases d <;> simp [bnd] <;> omega
  | _, _, _, d, @TXT.wq s st, h => by
    have : s ∈ WORDS ∧ st ∈ STARS := by cases d <;> exact h
    have := WO_len _ this.1
    have := ST_len st (by cases d <;> exact h.2)
    cases d <;> simp [bnd] <;> omega
  | _, _, _, d, .acol hx, h => by
    obtain ⟨d', rfl⟩ := nonleaf_pos h rfl
    have := tx_len hx h
    simp only [bnd] at this ⊢; omega
  | _, _, _, d, .par hl hc hx, h => by
    obtain ⟨d', rfl⟩ := nonleaf_pos h hl
    have := tx_len hx h
    have := PC_len _ hc
    simp only [bnd, List.length_append, List.length_cons] at *; omega
  | _, _, _, d, .asked hs hx, h => by
    obtain ⟨d', rfl⟩ := nonleaf_pos h rfl
    obtain ⟨h1, h2, h3⟩ := h
    have := tx_len hx h3
    have := bnd_le .bare d'
    have := columns_len h1 h2
    have := SC_len _ hs
    simp only [bnd, List.length_append] at *; omega
  | _, _, _, d, .bcol hx, h => by
    obtain ⟨d', rfl⟩ := nonleaf_pos h rfl
    have := tx_len hx h
    simp only [bnd, List.length_append, List.length_cons, List.length_nil] at *; omega
  | _, _, _, d, .batom hn hx, h => by
    have := tx_len hx h
    cases d <;> simp only [bnd] at this ⊢ <;> omega
  | _, _, _, d, .anyOr hx, h => by
    obtain ⟨d', rfl⟩ := nonleaf_pos h rfl
    obtain ⟨h1, h2⟩ := h
    have h3 := txs_len hx h2
    have h4 := bnd_le .group d'
    have h5 := join_len (M := maxL d') fun y hy => Nat.le_trans (h3 y hy) h4
    have h6 := hx.len
    have h7 : (_ : List (List Nat)).length * (maxL d' + 4) ≤ 3 * (maxL d' + 4) := Nat.mul_le_mul_right _ (show _ ≤ 3 by rw [h6]; omega)
    simp only [bnd]; omega
  | _, _, _, d, .anyG hn hx, h => by
    have := tx_len hx h
    cases d <;> simp only [bnd] at this ⊢ <;> omega
  | _, _, _, d, .gAnd hx hj, h => by
    obtain ⟨d', rfl⟩ := nonleaf_pos h rfl
    obtain ⟨h1, h2⟩ := h
    have h3 := txs_len hx h2
    have h4 := bnd_le .part d'
    have h5 := jn_len (M := maxL d') hj fun y hy => Nat.le_trans (h3 y hy) h4
    have h6 := hx.len
    have h7 : (_ : List (List Nat)).length * (maxL d' + 5) ≤ 3 * (maxL d' + 5) := Nat.mul_le_mul_right _ (show _ ≤ 3 by rw [h6]; omega)
    simp only [bnd]; omega
  | _, _, _, d, .gCol hx, h => by
    obtain ⟨d', rfl⟩ := nonleaf_pos h rfl
    have := tx_len hx h
    simp only [bnd] at this ⊢; omega
  | _, _, _, d, .gLeaf hn hx, h => by
    have := leaf_len hx hn h
    cases d <;> simp only [bnd] at this ⊢ <;> omega
  | _, _, _, d, .gOr hx hc, h => by
    obtain ⟨d', rfl⟩ := nonleaf_pos h rfl
    obtain ⟨h1, h2⟩ := h
    have h3 := txs_len hx h2
    have h4 := bnd_le .group d'
    have h5 := join_len (M := maxL d') fun y hy => Nat.le_trans (h3 y hy) h4
    have h6 := hx.len
    have h7 : (_ : List (List Nat)).length * (maxL d' + 4) ≤ 3 * (maxL d' + 4) := Nat.mul_le_mul_right _ (show _ ≤ 3 by rw [h6]; omega)
    have := PC_len _ hc
    simp only [bnd, List.length_append, List.length_cons]; omega
  | _, _, _, d, .gNot1 hx hy, h => by
    obtain ⟨d', rfl⟩ := nonleaf_pos h rfl
    obtain ⟨h1, h2, h3, _⟩ := h
    have := tx_len hx h1
    have := tx_len hy h3
    have := bnd_le .bare d'
    have : tNOT.length = 5 := rfl
    simp only [bnd, List.length_append]; omega
  | _, _, _, d, .gNotA hx hy hm hj, h => by
    obtain ⟨d', rfl⟩ := nonleaf_pos h rfl
    obtain ⟨h1, h2, h3⟩ := h
    obtain ⟨d'', rfl⟩ := nonleaf_pos h1 rfl
    obtain ⟨g1, g2⟩ := h1
    have a1 := txs_len hx g2
    have a2 := txs_len hy h3
    have b1 := bnd_le .part d''
    have b2 := bnd_le .atom (d'' + 1)
    have b3 := maxL_mono d''
    obtain ⟨m1, m2⟩ := mix_len (M := maxL (d'' + 1)) hm (fun y hy => by have := a1 y hy; omega) (fun y hy => by have := a2 y hy; omega)
    have j := jn_len hj m2
    have l1 := hx.len
    have l2 := hy.len
    have h7 : (_ : List (List Nat)).length * (maxL (d'' + 1) + 1 + 5) ≤ 5 * (maxL (d'' + 1) + 1 + 5) := Nat.mul_le_mul_right _ (show _ ≤ 5 by rw [m1]; omega)
    simp only [bnd]; omega
  | _, _, _, d, .gNotP hx hy hm hj, h => by
    obtain ⟨d', rfl⟩ := nonleaf_pos h rfl
    obtain ⟨h1, h2, h3⟩ := h
    have a1 := tx_len hx h1
    have a2 := txs_len hy h3
    have b2 := bnd_le .atom d'
    obtain ⟨m1, m2⟩ := mix_len (M := maxL d') hm (fun y hy => by rcases List.mem_cons.mp hy with rfl | hy; omega; cases hy) (fun y hy => by have := a2 y hy; omega)
    have j := jn_len hj m2
    have l2 := hy.len
    have h7 : (_ : List (List Nat)).length * (maxL d' + 1 + 5) ≤ 3 * (maxL d' + 1 + 5) := Nat.mul_le_mul_right _ (show _ ≤ 3 by rw [m1]; simp; omega)
    simp only [bnd]; omega
  | _, _, _, d, .pNot hx hy, h => by
    obtain ⟨d', rfl⟩ := nonleaf_pos h rfl
    obtain ⟨h1, h2, h3, _⟩ := h
    have := tx_len hx h1
    have := tx_len hy h3
    have := bnd_le .bare d'
    have : tNOT.length = 5 := rfl
    simp only [bnd, List.length_append]; omega
  | _, _, _, d, .pAtom hx, h => by
    have := tx_len hx h
    cases d <;> simp only [bnd] at this ⊢ <;> omega
termination_by k t _ _ _ _ => (sizeOf t, rankK k)
decreasing_by all_goals (simp_wf; first | (apply Prod.Lex.left; omega) | (apply Prod.Lex.right; decide) | (apply Prod.Lex.left; simp only [LT.or.sizeOf_spec, LT.and.sizeOf_spec, LT.not.sizeOf_spec, LT.col.sizeOf_spec, List.cons.sizeOf_spec] ; omega) | skip)
theorem txs_len : ∀ {k : KT} {l : List LT} {xs : List (List Nat)} {d : Nat}, TXTs k l xs → goodL d l → ∀ x ∈ xs, x.length ≤ bnd k d
  | _, _, _, _, .nil, _, x, hx => by cases hx
  | _, _, _, _, .cons a b, h, x, hx => by
    rcases List.mem_cons.mp hx with rfl | hx
    · exact tx_len a h.1
    · exact txs_len b h.2 x hx
termination_by _ l _ _ _ _ _ _ => (sizeOf l, 0)
decreasing_by all_goals (simp_wf; first | (apply Prod.Lex.left; omega) | (apply Prod.Lex.left; simp only [List.cons.sizeOf_spec] ; omega) | skip)
end
end Mine
end
section
open PySem PySem.W PyProof.Rows PySem.Calls
open PySem.Sre (M Seen)
set_option Elab.async false
set_option maxRecDepth 100000
set_option linter.unusedVariables false
namespace Mine

theorem step_done {m : M} (h : m.outcome.isSome = true) : m.step = m := by unfold Sre.M.step; rw [if_pos h]
theorem stepN_done {m : M} (h : m.outcome.isSome = true) : ∀ n, stepN n m = m
  | 0 => rfl
  | n + 1 => by unfold stepN; rw [step_done h]; exact stepN_done h n
theorem runFor_is : ∀ (n : Nat) (m : M), m.runFor n = stepN n m
  | 0, m => rfl
  | n + 1, m => by
    unfold Sre.M.runFor
    by_cases h : m.outcome.isSome = true
    · rw [if_pos h, stepN_done h]
    · rw [if_neg h]; exact runFor_is n _

section
variable {prog : Program} {w : World} {A : Around} {E : Value → Shared → Prop} {s : Shared}

theorem wp_drive {Q : M → Shared → Prop} : ∀ (t : Nat) (m : M) (j : Nat), j ≤ 4 * t → 0 < t → (stepN j m).outcome.isSome = true → Q (stepN j m) s → wpAny (model prog w) A (Builtin.Re.reDrive t m) Q E s
  | 0, m, j, h1, h2, h3, q => by omega
  | t + 1, m, j, h1, h2, h3, q => by
    unfold Builtin.Re.reDrive
    show wpAny _ _ (if (m.runFor 4).outcome.isSome = true then pure (m.runFor 4) else (rule "sre.turn" >>= fun _ => Builtin.Re.reDrive t (m.runFor 4))) _ _ _
    rw [runFor_is]
    by_cases hj : j ≤ 4
    · have e : stepN 4 m = stepN j m := by
        rw [show 4 = j + (4 - j) by omega, stepN_add, stepN_done h3]
      rw [e, if_pos h3]
      exact wpAny_pure q
    · have e : stepN j m = stepN (j - 4) (stepN 4 m) := by
        rw [← stepN_add, show 4 + (j - 4) = j by omega]
      by_cases hd : (stepN 4 m).outcome.isSome = true
      · rw [if_pos hd]
        rw [e, stepN_done hd] at q
        exact wpAny_pure q
      · rw [if_neg hd]
        refine wpAny_bind (wpAny_rule ?_)
        rw [e] at h3 q
        exact wp_drive t _ _ (by omega) (by omega) h3 q

/-- the machine, ended -/
def ended (m : M) (z : Sre.Seen) : M := { m with seen := z, outcome := some (if m.answer = some true then .matched else .failed) }

theorem wp_run {N : Nat} {c : M} {P : M → Prop} {z : Sre.Seen} {Q : Option M → Shared → Prop} (hr : Run N c P) (hP : ∀ m, P m → m.frames = [] ∧ m.outcome = none ∧ ∃ b, m.answer = some b) (hN : N ≤ 1000000000000)
    (q : ∀ m z, P m → Q (if m.answer = some true then some (ended m z) else none) s) : wpAny (model prog w) A (Builtin.Re.reRunToEnd { c with seen := z }) Q E s := by
  obtain ⟨j, hj, c', z', hp, e⟩ := hr z
  obtain ⟨h1, h2, b, h3⟩ := hP c' hp
  have he : stepN (j + 1) { c with seen := z } = ended c' z' := by
    rw [stepN_add, e]
    show Sre.M.step _ = _
    unfold Sre.M.step
    rw [if_neg (by show ¬ c'.outcome.isSome = true; rw [h2]; simp)]
    show (match c'.answer, c'.frames with | some yes, [] => _ | some yes, f :: rest => _ | none, _ => _) = _
    unfold ended
    rw [h3, h1]
    cases b <;> rfl
  unfold Builtin.Re.reRunToEnd
  refine wpAny_bind (wp_drive _ _ (j + 1) (by omega) (by decide) (by rw [he]; rfl) ?_)
  rw [he]
  refine wpAny_bind (wpAny_forIn_list _ (fun _ _ s' => s' = s) (fun _ s' => wpAny (model prog w) A (match (ended c' z').outcome with
    | some .matched => pure (some (ended c' z'))
    | some .failed => pure none
    | some (.stuck why) => unsupported s!"_sre:{why}"
    | none => unsupported "internal:sre:no-outcome") Q E s') (fun x rest u s' hs => ?_) (fun u s' hs => ?_) _ _ rfl)
  · subst hs
    split
    · exact wpAny_bind (wpAny_rule (wpAny_pure rfl))
    · exact wpAny_pure rfl
  · subst hs
    have := q c' z' hp
    unfold ended at this ⊢
    rw [h3] at this ⊢
    cases b
    · exact wpAny_pure this
    · exact wpAny_pure this

def spl (sp : List (Option (Nat × Nat))) : List Int := sp.flatMap fun | some (b, e) => [(b : Int), (e : Int)] | none => [-1, -1]

theorem spans_is (m : M) (G : Nat) : ((List.range G).flatMap fun g =>
    match if ((2 * g + 1 : Nat) : Int) ≤ m.lastmark then (m.marks.getD (2 * g) none, m.marks.getD (2 * g + 1) none) else (none, none) with
    | (some b, some e) => [rawInt b, rawInt e]
    | _ => [rawInt (-1), rawInt (-1)]) = (spl ((List.range G).map (spanOf m))).map rawInt := by
  unfold spl
  rw [List.flatMap_map, List.map_flatMap]
  congr 1
  funext g
  unfold spanOf
  generalize (if ((2 * g + 1 : Nat) : Int) ≤ m.lastmark then (m.marks.getD (2 * g) none, m.marks.getD (2 * g + 1) none) else (none, none)) = x
  rcases x with ⟨_ | b, _ | e⟩ <;> rfl

theorem wp_newMatch {p : Value} {str : Value} {G pos lim : Nat} {m : M} {Q : Value → Shared → Prop} (hv : ∀ g < G, ∀ b e, spanOf m g = some (b, e) → b ≤ e) (hG : G ≤ 100)
    (q : ∀ h : Heap, h = s.heap.push { cls := .type "tuple", data := .seq (((m.start : Int) :: (m.handed : Int) :: spl ((List.range G).map (spanOf m))).map rawInt).toArray } →
      Q (.ref h.objs.size) { s with heap := h.push { cls := .type "re.Match", data := .fields #[str, p, rawInt pos, rawInt lim, rawInt m.lastindex, .ref s.heap.objs.size] } }) :
    wpAny (model prog w) A (Builtin.Re.reNewMatch p str G pos lim m) Q E s := by
  have hany : ((List.range G).any fun g => match m.marks.getD (2 * g) none, m.marks.getD (2 * g + 1) none with | some b, some e => decide (((2 * g + 1 : Nat) : Int) ≤ m.lastmark) && decide (e < b) | _, _ => false) = false := by
    rw [List.any_eq_false]
    intro g hg
    have hg' := List.mem_range.mp hg
    cases h1 : m.marks.getD (2 * g) none with
    | none => simp
    | some b =>
      cases h2 : m.marks.getD (2 * g + 1) none with
      | none => simp
      | some e =>
        by_cases h3 : ((2 * g + 1 : Nat) : Int) ≤ m.lastmark
        · have := hv g hg' b e (by unfold spanOf; rw [if_pos h3, h1, h2])
          simp; omega
        · simp; omega
  have hlen : (spl ((List.range G).map (spanOf m))).length ≤ 2 * G := by
    unfold spl
    rw [List.length_flatMap]
    have : ∀ l : List (Option (Nat × Nat)), (l.map fun x => (match x with | some (b, e) => [(b : Int), (e : Int)] | none => [-1, -1]).length).sum = 2 * l.length := by
      intro l
      induction l with
      | nil => rfl
      | cons x l ih => rw [List.map_cons, List.sum_cons, ih, List.length_cons]; rcases x with _ | ⟨b, e⟩ <;> (simp; omega)
    rw [this]; simp
  have hfin : wpAny (model prog w) A (newTuple (rawInt m.start :: rawInt m.handed :: (spl ((List.range G).map (spanOf m))).map rawInt) >>= fun t => newFields "re.Match" [str, p, rawInt pos, rawInt lim, rawInt m.lastindex, t]) Q E s := by
    refine wpAny_bind (wpAny_newObj_type ?_ ?_)
    · exact wpAny_newObj_type (q _ rfl) (by show (6 : Nat) ≤ sizeLine + 2; decide)
    · show (rawInt m.start :: rawInt m.handed :: (spl ((List.range G).map (spanOf m))).map rawInt).toArray.size ≤ sizeLine
      rw [List.size_toArray, List.length_cons, List.length_cons, List.length_map]
      have : sizeLine = 16777216 := rfl
      omega
  rw [← spans_is] at hfin
  have hno : ¬ ((List.range G).any fun g => match m.marks.getD (2 * g) none, m.marks.getD (2 * g + 1) none with | some b, some e => decide (((2 * g + 1 : Nat) : Int) ≤ m.lastmark) && decide (e < b) | _, _ => false) = true := by rw [hany]; simp
  unfold Builtin.Re.reNewMatch
  dsimp only
  refine wpAny_ite ?_
  split
  · rename_i h; exact absurd h hno
  · exact hfin

/-- a pattern of the text -/
structure PatAt (h : Heap) (p : Addr) (C : Array Nat) (G : Nat) : Prop where
  is : ∃ o src fl gi ig ct u v, h.get? p = some o ∧ o.cls = .type "re.Pattern" ∧ o.data = .fields #[src, fl, .int G u, gi, ig, .ref ct, .int 0 v] ∧ ∃ oc items k, h.get? ct = some oc ∧ oc.data = .seq items k ∧ (items.map Builtin.Re.reRawOf).map (·.toNat) = C

theorem PatAt.typeIs {h : Heap} {p C G} (P : PatAt h p C G) (e : s.heap = h) : s.TypeIs (.ref p) "re.Pattern" := by
  obtain ⟨o, src, fl, gi, ig, ct, u, v, ho, hc, _⟩ := P.is
  subst e
  exact ⟨o, ho, hc⟩

theorem wp_target {p C G x t i u} (P : PatAt s.heap p C G) (hi : (i : Nat) < 2 ^ 63) (hx : (x : PySem.Str).cps.size < 2 ^ 62) {Q : Builtin.Re.ReTarget → Shared → Prop}
    (q : Q { pattern := .ref p, string := .str x t, code := C, text := x.cps, kind := 0, groups := G, pos := min i x.cps.size, lim := x.cps.size } s) :
    wpAny (model prog w) A (Builtin.Re.reTarget "re.Pattern.match" "match" ⟨[.ref p, .str x t, .int i u], []⟩) Q E s := by
  obtain ⟨o, src, fl, gi, ig, ct, u', v, ho, hc, hd, oc, items, k, hoc, hdc, hC⟩ := P.is
  unfold Builtin.Re.reTarget
  show wpAny _ _ (Builtin.Re.reSsize (.int i u) >>= _) _ _ _
  refine wpAny_bind ?_
  unfold Builtin.Re.reSsize
  show wpAny _ _ (if (decide ((i : Int) < -(2 ^ 63)) || decide ((i : Int) ≥ 2 ^ 63)) = true then _ else pure (i : Int)) _ _ _
  have hno : (decide ((i : Int) < -(2 ^ 63)) || decide ((i : Int) ≥ 2 ^ 63)) = false := by
    rw [Bool.or_eq_false_iff]
    exact ⟨decide_eq_false (by omega), decide_eq_false (by omega)⟩
  rw [hno]
  refine wpAny_pure ?_
  refine wpAny_bind (wpAny_pure ?_)
  refine wpAny_bind (wpAny_fieldsOf ho hd ?_)
  refine wpAny_bind (wpAny_pure ?_)
  show wpAny _ _ (Builtin.Re.reRawItems (.ref ct) >>= _) _ _ _
  unfold Builtin.Re.reRawItems
  refine wpAny_bind (wpAny_bind (wpAny_seqItems hoc hdc (wpAny_pure ?_)))
  refine wpAny_pure ?_
  have e1 : min ((i : Int)).toNat x.cps.size = min i x.cps.size := by rw [Int.toNat_natCast]
  have e2 : min ((2 : Int) ^ 63 - 1).toNat x.cps.size = x.cps.size := by
    have e : ((2 : Int) ^ 63 - 1).toNat = 9223372036854775807 := by decide
    rw [e]; omega
  have e3 : ({ pattern := .ref p, string := .str x t, code := (items.map Builtin.Re.reRawOf).map (·.toNat), text := x.cps, kind := 0, groups := G, pos := min ((i : Int)).toNat x.cps.size, lim := min ((2 : Int) ^ 63 - 1).toNat x.cps.size } : Builtin.Re.ReTarget) = { pattern := .ref p, string := .str x t, code := C, text := x.cps, kind := 0, groups := G, pos := min i x.cps.size, lim := x.cps.size } := by
    rw [e1, e2, hC]
  show Q ({ pattern := .ref p, string := .str x t, code := (items.map Builtin.Re.reRawOf).map (·.toNat), text := x.cps, kind := 0, groups := G, pos := min ((i : Int)).toNat x.cps.size, lim := min ((2 : Int) ^ 63 - 1).toNat x.cps.size } : Builtin.Re.ReTarget) s
  rw [e3]
  exact q

theorem wp_match {p C G x t i u} {N : Nat} {P : M → Prop} {c : M} {z : Sre.Seen} (Pt : PatAt s.heap p C G) (hi : i ≤ (x : PySem.Str).cps.size) (hx : x.cps.size ≤ sizeLine) (hG : G ≤ 100)
    (hf : Sre.forMatch C x.cps G i x.cps.size false false = { c with seen := z }) (hr : Run N c P) (hP : ∀ m, P m → m.frames = [] ∧ m.outcome = none ∧ ∃ b, m.answer = some b) (hN : N ≤ 1000000000000)
    {Q : Value → Shared → Prop} (qn : ∀ m, P m → m.answer = some false → Q .none s)
    (qs : ∀ m, P m → m.answer = some true → (∀ g < G, ∀ b e, spanOf m g = some (b, e) → b ≤ e) ∧ ∀ h : Heap, h = s.heap.push { cls := .type "tuple", data := .seq (((m.start : Int) :: (m.handed : Int) :: spl ((List.range G).map (spanOf m))).map rawInt).toArray } →
      Q (.ref h.objs.size) { s with heap := h.push { cls := .type "re.Match", data := .fields #[.str x t, .ref p, rawInt i, rawInt x.cps.size, rawInt m.lastindex, .ref s.heap.objs.size] } }) :
    wpAny (model prog w) A (call (.builtin "re.Pattern.match") [.ref p, .str x t, .int i u]) Q E s := by
  have hsl : sizeLine = 16777216 := rfl
  refine wpAny_call_entry F.slot_rePattern_match (Pt.typeIs rfl) F.entry_rePattern_match ?_ (F.args_rePattern_match_3 _ _ _)
  unfold Builtin.«re.Pattern.match»
  refine wpAny_bind (wp_target Pt (by omega) (by omega) ?_)
  unfold Builtin.Re.reAnswer
  rw [show min i x.cps.size = i by omega, hf]
  refine wpAny_bind (wp_run hr hP hN fun m z hp => ?_)
  obtain ⟨_, _, b, hb⟩ := hP m hp
  cases b
  · rw [if_neg (by rw [hb]; simp)]
    exact wpAny_pure ⟨_, rfl, qn m hp hb⟩
  · rw [if_pos hb]
    obtain ⟨h1, h2⟩ := qs m hp hb
    refine wpAny_bind (wp_newMatch (m := ended m z) h1 hG fun h hh => ?_)
    exact wpAny_pure ⟨_, rfl, h2 h hh⟩
end
end Mine
end
section
open PySem PySem.W PyProof.Rows PySem.Calls
open PySem.Sre (M Seen)
set_option Elab.async false
set_option maxRecDepth 100000
set_option linter.unusedVariables false
namespace Mine

def lo (o : Option (Nat × Nat)) : Int := match o with
  | some (b, _) => (b : Int)
  | none => -1
def up (o : Option (Nat × Nat)) : Int := match o with
  | some (_, e) => (e : Int)
  | none => -1
def gcp (o : Option (Nat × Nat)) (x : List Nat) (v : Value) : Prop := match o with
  | none => v = .none
  | some (b, e) => ∃ t, v = .str ⟨(x.extract b e).toArray⟩ t
def gval (o : Option (Nat × Nat)) (x : List Nat) : V := match o with
  | none => .none
  | some (b, e) => .str (x.extract b e)
theorem gval_den {X : Cx} {η h o x v} (g : gcp o x v) : Den X η h (gval o x) v := by
  cases o with
  | none => exact den_none.mpr g
  | some p => obtain ⟨t, e⟩ := g; exact den_str'.mpr ⟨t, e⟩

theorem spl_get : ∀ (sp : List (Option (Nat × Nat))) (g : Nat) (o), sp[g]? = some o → (spl sp)[2 * g]? = some (lo o) ∧ (spl sp)[2 * g + 1]? = some (up o)
  | [], g, o, h => by simp at h
  | a :: sp, 0, o, h => by
    simp at h; subst h
    unfold spl
    rcases a with _ | ⟨b, e⟩ <;> exact ⟨rfl, rfl⟩
  | a :: sp, g + 1, o, h => by
    obtain ⟨h1, h2⟩ := spl_get sp g o (by simpa using h)
    have e : ∃ u v, spl (a :: sp) = u :: v :: spl sp := by
      unfold spl
      rcases a with _ | ⟨b, e⟩ <;> exact ⟨_, _, rfl⟩
    obtain ⟨u, v, e⟩ := e
    rw [e]
    exact ⟨by rw [show 2 * (g + 1) = 2 * g + 1 + 1 by omega]; exact h1, by rw [show 2 * (g + 1) + 1 = (2 * g + 1) + 1 + 1 by omega]; exact h2⟩

section
variable {prog : Program} {w : World} {A : Around} {E : Value → Shared → Prop} {s : Shared}

theorem wp_reSlice {x : List Nat} {b e : Nat} {Q : Value → Shared → Prop} (hx : x.length ≤ sizeLine) (q : ∀ t, Q (.str ⟨(x.extract b e).toArray⟩ t) { s with toks := s.toks + 1 }) :
    wpAny (model prog w) A (Builtin.Re.reSlice x.toArray 0 b e) Q E s := by
  unfold Builtin.Re.reSlice
  rw [if_pos (by decide)]
  refine wpAny_mkStr ?_ ?_
  · rw [List.extract_toArray]; exact q _
  · show (x.toArray.extract b e).size ≤ sizeLine
    rw [Array.size_extract, List.size_toArray]; omega

theorem wp_groupText {r : Builtin.Re.ReFound} {x : List Nat} {t : Tok} {g : Nat} {o : Option (Nat × Nat)} {Q : Value → Shared → Prop} (hf : r.fields.getD 0 .none = .str ⟨x.toArray⟩ t)
    (hb : r.spans.getD (2 * g) (-1) = lo o) (he : r.spans.getD (2 * g + 1) (-1) = up o) (hx : x.length ≤ sizeLine)
    (q : ∀ v t, gcp o x v → Q v { s with toks := t }) : wpAny (model prog w) A (Builtin.Re.reGroupText r g .none) Q E s := by
  unfold Builtin.Re.reGroupText
  dsimp only
  rw [hb, he]
  rcases o with _ | ⟨b, e⟩
  · rw [if_pos (by decide)]
    exact wpAny_pure (q _ s.toks rfl)
  · rw [if_neg (by rw [Bool.or_eq_true]; rintro (h | h) <;> (have := of_decide_eq_true h; simp only [lo, up] at this; omega)), hf]
    refine wpAny_bind (wpAny_pure ?_)
    show wpAny _ _ (Builtin.Re.reSlice x.toArray 0 b e) _ _ _
    exact wp_reSlice hx fun t => q _ _ ⟨t, rfl⟩

/-- a match object as it lies -/
structure MatAt (h : Heap) (mt : Addr) (x : List Nat) (p : Addr) (its : List Int) : Prop where
  is : ∃ t q1 q2 q3 T k, h.get? mt = some { cls := .type "re.Match", data := .fields #[.str ⟨x.toArray⟩ t, .ref p, q1, q2, q3, .ref T] } ∧ (∃ o, h.get? T = some o ∧ o.data = .seq (its.map rawInt).toArray k)

theorem wp_found {mt x p its} (hm : MatAt s.heap mt x p its) {Q : Builtin.Re.ReFound → Shared → Prop} (q : ∀ r : Builtin.Re.ReFound, (∃ t, r.fields.getD 0 .none = .str ⟨x.toArray⟩ t) → r.fields.getD 1 .none = .ref p → r.spans = its.toArray → Q r s) :
    wpAny (model prog w) A (Builtin.Re.reFound (.ref mt)) Q E s := by
  obtain ⟨t, q1, q2, q3, T, k, ho, o, hT, hd⟩ := hm.is
  unfold Builtin.Re.reFound
  refine wpAny_bind (wpAny_fieldsOf ho rfl ?_)
  show wpAny _ _ (Builtin.Re.reRawItems (.ref T) >>= _) _ _ _
  unfold Builtin.Re.reRawItems
  refine wpAny_bind (wpAny_bind (wpAny_seqItems hT hd (wpAny_pure ?_)))
  refine wpAny_pure (q _ ⟨t, rfl⟩ rfl ?_)
  show (its.map rawInt).toArray.map Builtin.Re.reRawOf = its.toArray
  rw [List.map_toArray, List.map_map]
  congr 1
  exact (List.map_congr_left fun i _ => rfl).trans its.map_id

theorem wp_groupNumber_int {r : Builtin.Re.ReFound} {i : Nat} {t : Tok} {Q : Nat → Shared → Prop} (hi : 2 * i < r.spans.size) (q : Q i s) : wpAny (model prog w) A (Builtin.Re.reGroupNumber r (.int i t)) Q E s := by
  unfold Builtin.Re.reGroupNumber
  show wpAny _ _ (if (decide ((i : Int) < 0) || decide (2 * (i : Int) ≥ (r.spans.size : Int))) = true then _ else pure (i : Int).toNat) _ _ _
  rw [if_neg (by simp; omega)]
  exact wpAny_pure (by rw [Int.toNat_natCast]; exact q)

theorem noIndex_str : typeLookup (.type "str") "__index__" = pure none := by rw [typeLookup_type, builtinLookup_eq_fast]; kernel_rfl

theorem wp_groupNumber_str {r : Builtin.Re.ReFound} {k : PySem.Str} {p d : Addr} {i : Nat} {t : Tok} {Q : Nat → Shared → Prop} {f : PySem.Str → Option Value} (hp : r.fields.getD 1 .none = .ref p)
    (hd : ∃ o fs, s.heap.get? p = some o ∧ o.data = .fields fs ∧ fs.getD 3 .none = .ref d) (hm : s.heap.MapOf (PySem.strKind prog w) d f) (hf : ∃ u, f k = some (.int i u)) (hi : 2 * i < r.spans.size)
    (q : ∀ t, Q i { s with toks := t }) : wpAny (model prog w) A (Builtin.Re.reGroupNumber r (.str k t)) Q E s := by
  obtain ⟨o, fs, ho, hdd, h3⟩ := hd
  obtain ⟨u, hu⟩ := hf
  unfold Builtin.Re.reGroupNumber
  have e0 : asInt? (.str k t) = pure none := rfl
  rw [e0]
  refine wpAny_bind (wpAny_pure ?_)
  rw [if_neg (by simp)]
  refine wpAny_bind (wpAny_specialOf_val (T := "str") rfl noIndex_str ?_)
  rw [if_neg (by simp), hp]
  refine wpAny_bind (wpAny_fieldsOf ho hdd ?_)
  rw [h3]
  show wpAny _ _ (dictGet d (.str k t) >>= _) _ _ _
  refine wpAny_bind (wpAny_dictGet_of (knd := PySem.strKind prog w) (k := k) ?_ hm ?_)
  · show Value.isStrOf k (.str k t) = true
    simp [Value.isStrOf, Value.isStr]
  rw [hu]
  show wpAny _ _ (if (decide ((i : Int) < 0) || decide (2 * (i : Int) ≥ (r.spans.size : Int))) = true then _ else pure (i : Int).toNat) _ _ _
  rw [if_neg (by simp; omega)]
  exact wpAny_pure (by rw [Int.toNat_natCast]; exact q _)

theorem MatAt.typeIs {h : Heap} {mt x p its} (P : MatAt h mt x p its) (e : s.heap = h) : s.TypeIs (.ref mt) "re.Match" := by
  obtain ⟨t, q1, q2, q3, T, k, ho, _⟩ := P.is
  subst e
  exact ⟨_, ho, rfl⟩

/-- a group is asked for by one of its names or its number -/
structure GArg (prog : Program) (w : World) (h : Heap) (p : Addr) (v : Value) (g : Nat) : Prop where
  is : (∃ t, v = .int g t) ∨ ∃ k t d f u, v = .str k t ∧ (∃ o fs, h.get? p = some o ∧ o.data = .fields fs ∧ fs.getD 3 .none = .ref d) ∧ h.MapOf (PySem.strKind prog w) d f ∧ f k = some (.int g u)

theorem wp_groupNumber {r : Builtin.Re.ReFound} {p : Addr} {i : Nat} {v : Value} {Q : Nat → Shared → Prop} (hp : r.fields.getD 1 .none = .ref p) (hg : GArg prog w s.heap p v i) (hi : 2 * i < r.spans.size)
    (q : ∀ t, Q i { s with toks := t }) : wpAny (model prog w) A (Builtin.Re.reGroupNumber r v) Q E s := by
  rcases hg.is with ⟨t, rfl⟩ | ⟨k, t, d, f, u, rfl, hd, hm, hf⟩
  · exact wp_groupNumber_int hi (q s.toks)
  · exact wp_groupNumber_str hp hd hm ⟨u, hf⟩ hi q

theorem GArg.toks {h p v g} (x : GArg prog w h p v g) : GArg prog w h p v g := x

/-- the groups that are asked for, one by one -/
inductive GArgs (prog : Program) (w : World) (h : Heap) (p : Addr) (sp : List (Option (Nat × Nat))) : List Value → List (Option (Nat × Nat)) → Prop where
  | nil : GArgs prog w h p sp [] []
  | cons {v g o vs os} : GArg prog w h p v (g + 1) → sp[g]? = some o → GArgs prog w h p sp vs os → GArgs prog w h p sp (v :: vs) (o :: os)

inductive Gcps (x : List Nat) : List (Option (Nat × Nat)) → List Value → Prop where
  | nil : Gcps x [] []
  | cons {o v os vs} : gcp o x v → Gcps x os vs → Gcps x (o :: os) (v :: vs)
theorem Gcps.snoc {x os vs o v} (h : Gcps x os vs) (g : gcp o x v) : Gcps x (os ++ [o]) (vs ++ [v]) := by
  induction h with
  | nil => exact .cons g .nil
  | cons a _ ih => exact .cons a ih

theorem spl_len : ∀ sp : List (Option (Nat × Nat)), (spl sp).length = 2 * sp.length
  | [] => rfl
  | a :: sp => by
    have e : ∃ u v, spl (a :: sp) = u :: v :: spl sp := by
      unfold spl
      rcases a with _ | ⟨b, e⟩ <;> exact ⟨_, _, rfl⟩
    obtain ⟨u, v, e⟩ := e
    rw [e]; simp [spl_len sp]; omega

theorem wp_groupLoop {r : Builtin.Re.ReFound} {x : List Nat} {t : Tok} {p : Addr} {i e : Int} {sp : List (Option (Nat × Nat))} (hf : r.fields.getD 0 .none = .str ⟨x.toArray⟩ t) (hp : r.fields.getD 1 .none = .ref p)
    (hs : r.spans = (i :: e :: spl sp).toArray) (hx : x.length ≤ sizeLine) {Q : Array Value → Shared → Prop} : ∀ (vs : List Value) (os : List (Option (Nat × Nat))) (s : Shared) (out : Array Value) (os0 : List (Option (Nat × Nat))), GArgs prog w s.heap p sp vs os → Gcps x os0 out.toList →
      (∀ (out' : Array Value) (t : Tok), Gcps x (os0 ++ os) out'.toList → Q out' { s with toks := t }) →
      wpAny (model prog w) A (forIn vs out fun g (out : Array Value) => do
        let out := out.push (← holding out.toList (do Builtin.Re.reGroupText r (← Builtin.Re.reGroupNumber r g) .none))
        pure (ForInStep.yield out)) Q E s
  | [], _, s, out, os0, .nil, ho, q => by
    rw [List.forIn_nil]
    exact wpAny_pure (q out s.toks (by simpa using ho))
  | _ :: vs, _, s, out, os0, .cons (g := g) (o := o) hg hsp rest, ho, q => by
    rw [List.forIn_cons]
    obtain ⟨g1, g2⟩ := spl_get sp g o hsp
    have hlt : g < sp.length := (List.getElem?_eq_some_iff.mp hsp).1
    have gd1 : r.spans.getD (2 * (g + 1)) (-1) = lo o := by
      rw [hs, show 2 * (g + 1) = 2 * g + 1 + 1 by omega, Array.getD_eq_getD_getElem?, List.getElem?_toArray]
      show ((spl sp)[2 * g]?).getD (-1) = _
      rw [g1]; rfl
    have gd2 : r.spans.getD (2 * (g + 1) + 1) (-1) = up o := by
      rw [hs, show 2 * (g + 1) + 1 = (2 * g + 1) + 1 + 1 by omega, Array.getD_eq_getD_getElem?, List.getElem?_toArray]
      show ((spl sp)[2 * g + 1]?).getD (-1) = _
      rw [g2]; rfl
    have hsz : r.spans.size = 2 * sp.length + 2 := by rw [hs]; simp [spl_len]
    refine wpAny_bind (wpAny_bind (wpAny_holding (wpAny_bind (wp_groupNumber hp hg (by omega) fun t1 => ?_))))
    refine wp_groupText hf gd1 gd2 hx fun v t2 gv => ?_
    refine wpAny_pure ?_
    refine wp_groupLoop hf hp hs hx vs _ _ (out.push v) (os0 ++ [o]) rest ?_ fun out' t' h' => ?_
    · rw [Array.toList_push]; exact ho.snoc gv
    · rw [List.append_assoc] at h'
      exact q out' t' h'

theorem wp_group {mt x p sp} {i e : Int} (hm : MatAt s.heap mt x p (i :: e :: spl sp)) {v1 v2 : Value} {vs : List Value} {os : List (Option (Nat × Nat))} (ha : GArgs prog w s.heap p sp (v1 :: v2 :: vs) os) (hx : x.length ≤ sizeLine)
    (hk : argsOk "re.Match.group" ⟨.ref mt :: v1 :: v2 :: vs, []⟩) (hl : vs.length ≤ 100) {Q : Value → Shared → Prop}
    (q : ∀ (out : List Value) (t : Tok), Gcps x os out → Q (.ref s.heap.objs.size) { s with heap := s.heap.push { cls := .type "tuple", data := .seq out.toArray }, toks := t }) :
    wpAny (model prog w) A (call (.builtin "re.Match.group") (.ref mt :: v1 :: v2 :: vs)) Q E s := by
  refine wpAny_call_entry F.slot_reMatch_group (hm.typeIs rfl) F.entry_reMatch_group ?_ hk
  unfold Builtin.«re.Match.group»
  refine wpAny_bind (wpAny_pure ?_)
  refine wpAny_bind (wp_found hm fun r ⟨t, hf⟩ hp hs => ?_)
  refine wpAny_bind (wp_groupLoop hf hp hs hx (v1 :: v2 :: vs) os s #[] [] ha .nil fun out t hg => ?_)
  have hlen : ∀ {os vs}, Gcps x os vs → ∀ {ws}, GArgs prog w s.heap p sp ws os → vs.length = ws.length := by
    intro os vs h
    induction h with
    | nil => intro ws h; cases h; rfl
    | cons _ _ ih => intro ws h; cases h with | cons _ _ h' => simp [ih h']
  have := hlen hg ha
  refine wpAny_bind (wpAny_newObj_type ?_ (by show out.toList.toArray.size ≤ sizeLine; rw [List.size_toArray, this]; simp; have : sizeLine = 16777216 := rfl; omega))
  exact wpAny_pure ⟨_, rfl, q out.toList t hg⟩

theorem wp_end {mt x p its} {i e : Int} (hm : MatAt s.heap mt x p (i :: e :: its)) {Q : Value → Shared → Prop} (q : ∀ t, Q (.int e t) { s with toks := s.toks + 1 }) :
    wpAny (model prog w) A (call (.builtin "re.Match.end") [.ref mt]) Q E s := by
  refine wpAny_call_entry F.slot_reMatch_end (hm.typeIs rfl) F.entry_reMatch_end ?_ (F.args_reMatch_end_1 _)
  unfold Builtin.«re.Match.end» Builtin.Re.reOneGroup
  refine wpAny_bind (wpAny_bind (wpAny_pure ?_))
  refine wpAny_bind (wp_found hm fun r ⟨t, hf⟩ hp hs => ?_)
  refine wpAny_bind (wpAny_pure ?_)
  refine wpAny_pure ?_
  dsimp only
  rw [hs]
  exact wpAny_bind (wpAny_mkInt (wpAny_pure ⟨_, rfl, q s.toks⟩))

theorem wp_targetS {p C G x t} (P : PatAt s.heap p C G) (hx : (x : PySem.Str).cps.size < 2 ^ 62) {Q : Builtin.Re.ReTarget → Shared → Prop}
    (q : Q { pattern := .ref p, string := .str x t, code := C, text := x.cps, kind := 0, groups := G, pos := 0, lim := x.cps.size } s) :
    wpAny (model prog w) A (Builtin.Re.reTarget "re.Pattern.search" "search" ⟨[.ref p, .str x t], []⟩) Q E s := by
  obtain ⟨o, src, fl, gi, ig, ct, u', v, ho, hc, hd, oc, items, k, hoc, hdc, hC⟩ := P.is
  unfold Builtin.Re.reTarget
  refine wpAny_bind (wpAny_pure ?_)
  refine wpAny_bind (wpAny_pure ?_)
  refine wpAny_bind (wpAny_pure ?_)
  refine wpAny_bind (wpAny_fieldsOf ho hd ?_)
  refine wpAny_bind (wpAny_pure ?_)
  show wpAny _ _ (Builtin.Re.reRawItems (.ref ct) >>= _) _ _ _
  unfold Builtin.Re.reRawItems
  refine wpAny_bind (wpAny_bind (wpAny_seqItems hoc hdc (wpAny_pure ?_)))
  refine wpAny_pure ?_
  have e1 : min ((0 : Int)).toNat x.cps.size = 0 := by rw [show ((0 : Int)).toNat = 0 from rfl]; omega
  have e2 : min ((2 : Int) ^ 63 - 1).toNat x.cps.size = x.cps.size := by
    have e : ((2 : Int) ^ 63 - 1).toNat = 9223372036854775807 := by decide
    rw [e]; omega
  have e3 : ({ pattern := .ref p, string := .str x t, code := (items.map Builtin.Re.reRawOf).map (·.toNat), text := x.cps, kind := 0, groups := G, pos := min ((0 : Int)).toNat x.cps.size, lim := min ((2 : Int) ^ 63 - 1).toNat x.cps.size } : Builtin.Re.ReTarget) = { pattern := .ref p, string := .str x t, code := C, text := x.cps, kind := 0, groups := G, pos := 0, lim := x.cps.size } := by
    rw [e1, e2, hC]
  show Q ({ pattern := .ref p, string := .str x t, code := (items.map Builtin.Re.reRawOf).map (·.toNat), text := x.cps, kind := 0, groups := G, pos := min ((0 : Int)).toNat x.cps.size, lim := min ((2 : Int) ^ 63 - 1).toNat x.cps.size } : Builtin.Re.ReTarget) s
  rw [e3]
  exact q

/-- is there a sign of a word in the text? -/
theorem wp_search {p x t} (Pt : PatAt s.heap p WORDC 0) (hx : (x : PySem.Str).cps.size ≤ sizeLine) {Q : Value → Shared → Prop} (qn : hasWord x.cps = false → Q .none s)
    (qs : hasWord x.cps = true → ∀ (i e : Int) (q1 q2 q3 : Value) (h : Heap), h = s.heap.push { cls := .type "tuple", data := .seq ([i, e].map rawInt).toArray } →
      Q (.ref h.objs.size) { s with heap := h.push { cls := .type "re.Match", data := .fields #[.str x t, .ref p, q1, q2, q3, .ref s.heap.objs.size] } }) :
    wpAny (model prog w) A (call (.builtin "re.Pattern.search") [.ref p, .str x t]) Q E s := by
  have hsl : sizeLine = 16777216 := rfl
  refine wpAny_call_entry F.slot_rePattern_search (Pt.typeIs rfl) F.entry_rePattern_search ?_ (F.args_rePattern_search_2 _ _)
  unfold Builtin.«re.Pattern.search»
  refine wpAny_bind (wp_targetS Pt (by omega) ?_)
  unfold Builtin.Re.reAnswer
  rcases search_word x.cps with ⟨h, c, h1, h2, h3, hc⟩ | ⟨h, c, i, z, hi, hc, hr⟩
  · have hc' : Sre.forSearch WORDC x.cps 0 0 x.cps.size false = ({ c with seen := c.seen } : M) := hc
    rw [hc']
    refine wpAny_bind (wp_run (N := 0) (P := fun m => m.answer = some false ∧ m.frames = [] ∧ m.outcome = none) (Run.now ⟨h1, h2, h3⟩) (fun m hm => ⟨hm.2.1, hm.2.2, _, hm.1⟩) (by omega) fun m z hp => ?_)
    rw [if_neg (by rw [hp.1]; simp)]
    exact wpAny_pure ⟨_, rfl, qn h⟩
  · rw [hc]
    refine wpAny_bind (wp_run hr (fun m hm => ⟨hm.2.1, hm.2.2.1, _, hm.1⟩) (by omega) fun m z hp => ?_)
    rw [if_pos hp.1]
    refine wpAny_bind (wp_newMatch (G := 0) (m := ended m z) (fun g hg => by omega) (by omega) fun h' hh => ?_)
    exact wpAny_pure ⟨_, rfl, qs h _ _ _ _ _ h' hh⟩
end
end Mine
end
section
open PySem PySem.W PyProof.Rows PySem.Calls
open PySem.Sre (M Seen)
set_option Elab.async false
set_option maxRecDepth 100000
set_option linter.unusedVariables false
namespace Mine

theorem den_obj {X η h a cv} : Den X η h (.obj a) cv ↔ cv = .ref a ∧ ∃ o, X.K.lookup a = some o := by unfold Den; exact Iff.rfl
theorem den_mat {X η h x p sp cv} : Den X η h (.mat x p sp) cv ↔ ∃ a t q1 q2 l T its, cv = .ref a ∧ h.get? a = some { cls := .type "re.Match", data := .fields #[.str ⟨x.toArray⟩ t, .ref p, q1, q2, l, .ref T] } ∧ h.IsTuple T its ∧ its = (sp.map rawInt).toArray := by unfold Den; exact Iff.rfl

/-- a pattern among what is written -/
structure KPat (X : Cx) (p : Addr) (C : Array Nat) (G : Nat) : Prop where
  is : ∃ o src fl gi ig ct u v, X.K.lookup p = some o ∧ o.cls = .type "re.Pattern" ∧ o.dict = none ∧ o.data = .fields #[src, fl, .int G u, gi, ig, .ref ct, .int 0 v] ∧ ∃ oc items k, X.K.lookup ct = some oc ∧ oc.data = .seq items k ∧ (items.map Builtin.Re.reRawOf).map (·.toNat) = C

section
variable {X : Cx} {n : Nat} {env : Env} {m : Loc} {H : List Cell} {Q : V → Loc → List Cell → Prop} {Qm : Value → List V → Prop} {QB : Bool → Loc → List Cell → Prop}

theorem KPat.at {p C G η h} (P : KPat X p C G) (re : Rel X η H h) : PatAt h p C G := by
  obtain ⟨o, src, fl, gi, ig, ct, u, v, ho, hc, _, hd, oc, items, k, hoc, hdc, hC⟩ := P.is
  exact ⟨o, src, fl, gi, ig, ct, u, v, re.kin _ _ ho, hc, hd, oc, items, k, re.kin _ _ hoc, hdc, hC⟩

theorem tm_obj {name : Str} {id T : String} {p : Addr} {o : Obj} (ho : X.K.lookup p = some o) (hc : o.cls = .type T) (hn : o.dict = none) (pa : PlainAttrs T) (slot : Slot T name id) (hty : typeOf (.builtin id) = pure (.type "method_descriptor")) (q : Qm (.builtin id) [.obj p]) : TM X n env m H name (.obj p) Qm :=
  tm_builtin pa slot hty (fun η s ov re d => by
    obtain ⟨rfl, _⟩ := den_obj.mp d
    have := re.kin _ _ ho
    exact ⟨⟨_, this, hc⟩, fun b q => by cases q; exact ⟨_, this, hn⟩⟩) q
theorem tm_mat {name : Str} {id : String} {x p sp} (slot : Slot "re.Match" name id) (hty : typeOf (.builtin id) = pure (.type "method_descriptor")) (q : Qm (.builtin id) [.mat x p sp]) : TM X n env m H name (.mat x p sp) Qm :=
  tm_builtin F.plainAttrs_reMatch slot hty (fun η s ov re d => by
    obtain ⟨a, t, q1, q2, l, T, its, rfl, ho, _⟩ := den_mat.mp d
    exact ⟨⟨_, ho, rfl⟩, fun b q => by cases q; exact ⟨_, ho, rfl⟩⟩) q

/-- what a pattern finds at a place -/
def ResP (i : Nat) (r : Option (Nat × List (Option (Nat × Nat)))) : M → Prop := EndsAs i r
structure MatchIs (C : Array Nat) (G : Nat) (x : List Nat) (i : Nat) (r : Option (Nat × List (Option (Nat × Nat)))) : Prop where
  is : ∃ c z N, Sre.forMatch C x.toArray G i x.toArray.size false false = ({ c with seen := z } : M) ∧ N ≤ 1000000000000 ∧ Run N c (EndsAs i r)
  ok : ∀ e sp, r = some (e, sp) → sp.length = G ∧ ∀ a b, some (a, b) ∈ sp → a ≤ b

def matV (x : List Nat) (p : Addr) (i : Nat) : Option (Nat × List (Option (Nat × Nat))) → V
  | none => .none
  | some (e, sp) => .mat x p ((i : Int) :: (e : Int) :: spl sp)

theorem MatchIs.spans {C G x i e sp m} (M : MatchIs C G x i (some (e, sp))) (f : Fits i e sp m) : (List.range G).map (spanOf m) = sp ∧ ∀ g < G, ∀ b e, spanOf m g = some (b, e) → b ≤ e := by
  obtain ⟨hl, hv⟩ := M.ok e sp rfl
  have h := f.2.2.2.2.2
  rw [hl] at h
  refine ⟨h, fun g hg b e he => hv b e ?_⟩
  rw [← h]
  exact List.mem_map.mpr ⟨g, List.mem_range.mpr hg, he⟩

theorem re_match {p C G x} {i : Nat} {r} (P : KPat X p C G) (hG : G ≤ 100) (hx : x.length ≤ sizeLine) (hi : i ≤ x.length) (hm : MatchIs C G x i r) (q : Q (matV x p i r) m H) :
    TN X n env m H (fun cvs => call (.builtin "re.Pattern.match") cvs) [.obj p, .str x, .int i] Q := by
  intro cvs A η s Ck E Ro re e d k
  unfold DenL at d
  obtain ⟨a, rest, rfl, d1, d'⟩ := d
  obtain ⟨b, c, rfl, d2, d3⟩ := denL_two.mp d'
  obtain ⟨rfl, _⟩ := den_obj.mp d1
  obtain ⟨t, rfl⟩ := den_str'.mp d2
  obtain ⟨u, rfl⟩ := den_int.mp d3
  obtain ⟨c, z, N, hf, hN, hr⟩ := hm.is
  refine wp_match (P.at re) (by simpa using hi) (by simpa using hx) hG hf hr ?_ hN (fun mm hp ha => ?_) (fun mm hp ha => ?_)
  · intro mm hp
    unfold EndsAs at hp
    rcases r with _ | ⟨e, sp⟩
    · exact ⟨hp.2.1, hp.2.2, _, hp.1⟩
    · exact ⟨hp.2.1, hp.2.2.1, _, hp.1⟩
  · unfold EndsAs at hp
    rcases r with _ | ⟨e', sp⟩
    · exact k .none m H _ η s q (den_none.mpr rfl) re e (.refl ..)
    · rw [hp.1] at ha; cases ha
  · unfold EndsAs at hp
    rcases r with _ | ⟨e', sp⟩
    · rw [hp.1] at ha; cases ha
    · obtain ⟨h1, h2⟩ := hm.spans hp
      refine ⟨h2, fun h hh => ?_⟩
      rw [h1, hp.2.2.2.1, hp.2.2.2.2.1] at hh
      obtain ⟨r1, e1, a1⟩ := push_ok (tk := s.toks) (o := { cls := .type "tuple", data := .seq (((i : Int) :: (e' : Int) :: spl sp).map rawInt).toArray }) re e
      rw [← hh] at r1 e1 a1
      obtain ⟨r2, e2, a2⟩ := push_ok (tk := s.toks) (s := { s with heap := h }) (o := { cls := .type "re.Match", data := .fields #[.str ⟨x.toArray⟩ t, .ref _, rawInt i, rawInt x.toArray.size, rawInt mm.lastindex, .ref s.heap.objs.size] }) r1 e1
      refine k (matV x _ i (some (e', sp))) m H _ η _ q ?_ r2 e2 (a1.trans a2)
      refine den_mat.mpr ⟨_, t, _, _, _, s.heap.objs.size, _, rfl, Heap.get?_push_size _ rfl, ⟨_, Heap.get?_push_of_some _ (by rw [hh]; exact Heap.get?_push_size _ rfl), rfl, _, rfl⟩, rfl⟩

theorem MatAt.of {η h a x p sp} (d : Den X η h (.mat x p sp) (.ref a)) : MatAt h a x p sp := by
  obtain ⟨a', t, q1, q2, l, T, its, e, ho, ⟨o, hT, hc, k, hd⟩, rfl⟩ := den_mat.mp d
  cases e
  exact ⟨t, q1, q2, l, T, k, ho, o, hT, hd⟩

/-- a group's name or number -/
structure GV (X : Cx) (p : Addr) (v : V) (g : Nat) : Prop where
  is : v = .int g ∨ ∃ k d f u o fs, v = .str k ∧ X.K.lookup p = some o ∧ o.data = .fields fs ∧ fs.getD 3 .none = .ref d ∧ (∀ h, X.K.In h → h.MapOf (PySem.strKind X.prog X.w) d f) ∧ f ⟨k.toArray⟩ = some (.int g u)
theorem GV.at {p v g η h H cv} (x : GV X p v g) (re : Rel X η H h) (d : Den X η h v cv) : GArg X.prog X.w h p cv g := by
  rcases x.is with rfl | ⟨k, d', f, u, o, fs, rfl, ho, hd, h3, hm, hf⟩
  · obtain ⟨t, rfl⟩ := den_int.mp d
    exact ⟨.inl ⟨t, rfl⟩⟩
  · obtain ⟨t, rfl⟩ := den_str'.mp d
    exact ⟨.inr ⟨_, t, d', f, u, rfl, ⟨o, fs, re.kin _ _ ho, hd, h3⟩, hm h re.kin, hf⟩⟩
inductive GVs (X : Cx) (p : Addr) (sp : List (Option (Nat × Nat))) : List V → List (Option (Nat × Nat)) → Prop where
  | nil : GVs X p sp [] []
  | cons {v g o vs os} : GV X p v (g + 1) → sp[g]? = some o → GVs X p sp vs os → GVs X p sp (v :: vs) (o :: os)
theorem GVs.at {p sp vs os η h H cvs} (x : GVs X p sp vs os) (re : Rel X η H h) (d : DenL X η h vs cvs) : GArgs X.prog X.w h p sp cvs os := by
  induction x generalizing cvs with
  | nil => unfold DenL at d; subst d; exact .nil
  | cons g e _ ih =>
    unfold DenL at d
    obtain ⟨a, rest, rfl, d1, d2⟩ := d
    exact .cons (g.at re d1) e (ih d2)
theorem gcps_den {η h x os out} (g : Gcps x os out) : DenL X η h (os.map fun o => gval o x) out := by
  induction g with
  | nil => unfold DenL; rfl
  | cons g _ ih => rw [List.map_cons]; unfold DenL; exact ⟨_, _, rfl, gval_den g, ih⟩

theorem re_group {p x sp} {i e : Int} {v1 v2 : V} {vs : List V} {os} (hg : GVs X p sp (v1 :: v2 :: vs) os) (hx : x.length ≤ sizeLine) (hl : vs.length ≤ 1) (hos : os.length ≤ 100) (q : Q (.tup (os.map fun o => gval o x)) m H) :
    TN X n env m H (fun cvs => call (.builtin "re.Match.group") cvs) (.mat x p (i :: e :: spl sp) :: v1 :: v2 :: vs) Q := by
  intro cvs A η s Ck E Ro re ev d k
  unfold DenL at d
  obtain ⟨a, rest, rfl, d1, d'⟩ := d
  obtain ⟨ma, t, q1, q2, l, T, its, rfl, hh⟩ := den_mat.mp d1
  have hga := hg.at re d'
  have hlen := denL_length d'
  have hsl : sizeLine = 16777216 := rfl
  cases rest with
  | nil => simp at hlen
  | cons c1 rest =>
    cases rest with
    | nil => simp at hlen
    | cons c2 rest =>
      have hk : argsOk "re.Match.group" ⟨.ref ma :: c1 :: c2 :: rest, []⟩ := by
        cases rest with
        | nil => exact F.args_reMatch_group_3 _ _ _
        | cons c3 rest =>
          cases rest with
          | nil => exact F.args_reMatch_group_4 _ _ _ _
          | cons _ _ => simp at hlen; omega
      refine wp_group (.of d1) hga hx hk (by simp at hlen; omega) fun out t g => ?_
      obtain ⟨r1, e1, a1⟩ := push_ok (tk := t) (o := { cls := .type "tuple", data := .seq out.toArray }) re ev
      refine k _ m H _ η _ q (den_tup.mpr ⟨_, out, 0, rfl, Heap.get?_push_size _ rfl, by simp; omega, gcps_den g⟩) r1 e1 a1

theorem re_end {p x} {i e : Int} {its : List Int} (q : Q (.int e) m H) : TN X n env m H (fun cvs => call (.builtin "re.Match.end") cvs) [.mat x p (i :: e :: its)] Q :=
  TN.quiet (w := .int e) (fun A s C E η a _ re da k => by
    obtain ⟨a, rfl, d⟩ := denL_one.mp da
    obtain ⟨ma, t, q1, q2, l, T, its, rfl, hh⟩ := den_mat.mp d
    exact wp_end (.of d) fun t => k _ _ (den_int.mpr ⟨_, rfl⟩)) q

theorem noBool_match : typeLookup (.type "re.Match") "__bool__" = pure none := by rw [typeLookup_type, builtinLookup_eq_fast]; kernel_rfl
theorem noLen_match : typeLookup (.type "re.Match") "__len__" = pure none := by rw [typeLookup_type, builtinLookup_eq_fast]; kernel_rfl
theorem tr_mat {x p its} (q : QB true m H) : T1B X n env m H truthy (.mat x p its) QB :=
  T1B.quiet (w := true) (fun A s C E η a _ re da k => by
    obtain ⟨ma, t, q1, q2, l, T, its, rfl, ho, _⟩ := den_mat.mp da
    have hT : s.TypeIs (.ref ma) "re.Match" := ⟨_, ho, rfl⟩
    unfold truthy
    refine wpAny_bind (wpAny_callSpecial?_none (name := Str.ofString "__bool__") hT noBool_match ?_)
    refine wpAny_bind (wpAny_specialOf (name := Str.ofString "__len__") hT noLen_match ?_)
    exact wpAny_pure (k s.toks)) q

theorem re_search {p x} (P : KPat X p WORDC 0) (hx : x.length ≤ sizeLine) (qn : hasWord x.toArray = false → Q .none m H) (qs : hasWord x.toArray = true → ∀ its, Q (.mat x p its) m H) :
    TN X n env m H (fun cvs => call (.builtin "re.Pattern.search") cvs) [.obj p, .str x] Q := by
  intro cvs A η s Ck E Ro re e d k
  obtain ⟨a, b, rfl, d1, d2⟩ := denL_two.mp d
  obtain ⟨rfl, _⟩ := den_obj.mp d1
  obtain ⟨t, rfl⟩ := den_str'.mp d2
  refine wp_search (P.at re) (by simpa using hx) (fun h => k .none m H _ η s (qn h) (den_none.mpr rfl) re e (.refl ..)) fun hw i e' p1 p2 p3 h hh => ?_
  obtain ⟨r1, e1, a1⟩ := push_ok (tk := s.toks) (o := { cls := .type "tuple", data := .seq ([i, e'].map rawInt).toArray }) re e
  rw [← hh] at r1 e1 a1
  obtain ⟨r2, e2, a2⟩ := push_ok (tk := s.toks) (s := { s with heap := h }) (o := { cls := .type "re.Match", data := .fields #[.str ⟨x.toArray⟩ t, .ref _, p1, p2, p3, .ref s.heap.objs.size] }) r1 e1
  refine k (.mat x _ [i, e']) m H _ η _ (qs hw _) ?_ r2 e2 (a1.trans a2)
  refine den_mat.mpr ⟨_, t, _, _, _, s.heap.objs.size, _, rfl, Heap.get?_push_size _ rfl, ⟨_, Heap.get?_push_of_some _ (by rw [hh]; exact Heap.get?_push_size _ rfl), rfl, _, rfl⟩, rfl⟩
end
end Mine
end
section
open PySem PySem.W PyProof.Rows PySem.Calls
set_option Elab.async false
set_option maxRecDepth 100000
set_option linter.unusedVariables false
namespace Mine
section
variable {X : Cx} {n : Nat} {env cenv : Env} {m mi : Loc} {H : List Cell}

/-- the same frame, with one object more that may change -/
def wit (env : Env) (it : Addr) : Env := { env with cells := ("", it) :: env.cells }
theorem Adv.wit {η s η' s'} (a : Adv X env η s η' s') (it : Addr) : Adv X (wit env it) η s η' s' :=
  ⟨fun b o e h1 h2 h3 h4 => a.keep b o e h1 h2 (fun q => h3 (List.mem_cons_of_mem _ q)) h4, a.live, a.pre, a.new, a.gsz, a.gen, a.bare, a.os⟩
theorem Adv.witSet {η s it h' tk} (hs : Heap.ExtBut it s.heap h') (hl : ∃ o, h'.get? it = some o) : Adv X (Mine.wit env it) η s η { s with heap := h', toks := tk } where
  keep := fun b o e h1 h2 h3 h4 => hs b o (fun q => h3 (q ▸ .head _)) e
  live := fun b o e => by
    by_cases q : b = it
    · rw [q]; exact hl
    · exact ⟨o, hs b o q e⟩
  pre := List.prefix_refl _
  new := fun _ h => .inl h
  gsz := Nat.le_refl _
  gen := fun _ _ e => e
  bare := fun i y hi e => by
    rw [show ({ s with heap := h', toks := tk } : Shared).gens = s.gens from rfl, Array.getElem?_eq_none hi] at e; cases e
  os := rfl

/-- out of an inner frame: what the outer one may change covers it -/
theorem Adv.back {η₀ s₀ η₁ s₁ η₂ s₂} (a : Adv X env η₀ s₀ η₁ s₁) (b : Adv X cenv η₁ s₁ η₂ s₂) (hC : s₀.heap.get? cenv.locals = none) (hcs : ∀ p ∈ cenv.cells, p ∈ env.cells ∨ s₀.heap.get? p.2 = none) : Adv X env η₀ s₀ η₂ s₂ where
  keep := fun c o e h1 h2 h3 h4 => b.keep c o (a.keep c o e h1 h2 h3 h4) (fun hc => by
    rcases a.new c hc with h | h
    · exact h1 h
    · rw [h] at e; cases e) (fun q => by subst q; rw [hC] at e; cases e) (fun q => by
      obtain ⟨p, hp, rfl⟩ := List.mem_map.mp q
      rcases hcs p hp with w | w
      · exact h3 (List.mem_map.mpr ⟨p, w, rfl⟩)
      · rw [w] at e; cases e) h4
  live := fun c o e => let ⟨o', e'⟩ := a.live c o e; b.live c o' e'
  pre := a.pre.trans b.pre
  new := fun c hc => by
    rcases b.new c hc with h | h
    · exact a.new c h
    · cases q : s₀.heap.get? c with
      | none => exact .inr rfl
      | some o => obtain ⟨o', e'⟩ := a.live c o q; rw [h] at e'; cases e'
  gsz := Nat.le_trans a.gsz b.gsz
  gen := fun i y e => b.gen i y (a.gen i y e)
  bare := fun i y hi e => by
    rcases Nat.lt_or_ge i s₁.gens.size with h | h
    · have h' : s₁.gens[i]? = some s₁.gens[i] := Array.getElem?_eq_getElem h
      have := b.gen i _ h'
      rw [this] at e; cases e
      exact a.bare i _ hi h'
    · exact b.bare i y h e
  os := b.os.trans a.os

/-- an inner frame whose free names are cells of the outer one -/
structure Inner (env cenv : Env) (m mi : Loc) : Prop where
  kind : cenv.scope.kind = .function
  glob : cenv.globals = mainGlobals
  blt : cenv.builtins = builtinsNs
  kinds : ∀ x ov, (x, ov) ∈ mi → x ≠ "__debug__" ∧ x ≠ "__classdict__" ∧ (cenv.kindOf x = some .local ∨ ((cenv.kindOf x = some .cell ∨ cenv.kindOf x = some .free) ∧ ∃ c, cenv.cells.lookup x = some c))
  bnd : ∀ x v, (x, some v) ∈ mi → cenv.kindOf x ≠ some .local ∧ (x, some v) ∈ m ∧ env.kindOf x ≠ some .local
  look : ∀ x c, cenv.cells.lookup x = some c → env.cells.lookup x = some c
  cells : ∀ p ∈ cenv.cells, p ∈ env.cells
  ndm : (mi.map (·.1)).Nodup

theorem EnvOk.inner {η h h'} (e : EnvOk X env η m h) (I : Inner env cenv m mi) (ext : ∀ b o, h.get? b = some o → h'.get? b = some o) {mc} (hn : h'.Ns cenv.locals mc) (h0 : X.h₀.get? cenv.locals = none) (hη : cenv.locals ∉ η)
    (hL : h.get? cenv.locals = none) : EnvOk X cenv η mi h' where
  kind := I.kind
  glob := I.glob
  blt := I.blt
  kinds := I.kinds
  ns := ⟨mc, hn, fun x v hx hl => absurd hl (I.bnd x v hx).1⟩
  cl := fun x v c hx hk hc => by
    obtain ⟨_, h2, h3⟩ := I.bnd x v hx
    obtain ⟨cv, ic, d⟩ := (e.ext ext).cl x v c h2 h3 (I.look x c hc)
    exact ⟨cv, ic, d⟩
  cellEx := fun p hp => (e.ext ext).cellEx p (I.cells p hp)
  hiL := h0
  nL := hη
  hiC := fun p hp => ⟨(e.hiC p (I.cells p hp)).1, (e.hiC p (I.cells p hp)).2.1, fun q => by
    obtain ⟨ov, o, ho, _⟩ := e.cellEx p (I.cells p hp)
    rw [q, hL] at ho; cases ho⟩
  ndC := fun p hp q hq => e.ndC p (I.cells p hp) q (I.cells q hq)
  ndm := I.ndm

/-- back in the outer frame -/
theorem EnvOk.back {η η' s s' mo it} (e : EnvOk X env η m s.heap) (re : Rel X η H s.heap) (i : EnvOk X cenv η' mo s'.heap) (b : Adv X (wit cenv it) η s η' s') (ha : Aside X env η s.heap it) (hne : env.locals ≠ cenv.locals) (hCc : cenv.locals ∉ env.cells.map (·.2)) (hcs : ∀ p ∈ cenv.cells, p ∈ env.cells)
    (fz : ∀ o, s.heap.get? cenv.locals = some o → frozen o = false)
    (sh : ∀ x v c, (x, some v) ∈ m → env.kindOf x ≠ some .local → env.cells.lookup x = some c → c ∈ cenv.cells.map (·.2) → (x, some v) ∈ mo ∧ cenv.kindOf x ≠ some .local ∧ cenv.cells.lookup x = some c) : EnvOk X env η' m s'.heap := by
  have kL : ∀ o, s.heap.get? env.locals = some o → s'.heap.get? env.locals = some o := fun o ho => b.keep _ o ho e.nL hne (fun q => by
    obtain ⟨p, hp, z⟩ := List.mem_map.mp q
    rcases List.mem_cons.mp hp with w | w
    · subst w; exact ha.nL z
    · exact (e.hiC p (hcs p w)).2.2 z) (re.noT e.hiL)
  have fzC : ∀ {a : Addr} {o}, s.heap.get? a = some o → frozen o = true → a ∉ (wit cenv it).cells.map (·.2) := fun ho f q => by
    obtain ⟨p, hp, rfl⟩ := List.mem_map.mp q
    rcases List.mem_cons.mp hp with w | w
    · subst w; rw [ha.fz _ ho] at f; cases f
    · exact e.fzC ho f (List.mem_map.mpr ⟨p, hcs p w, rfl⟩)
  have K : Keeps' X η s.heap η' s'.heap := ⟨fun c o ho f => b.keep c o ho (re.notFz ho f) (fun q => by subst q; rw [fz o ho] at f; cases f) (fzC ho f) (re.fzT ho f), b.pre⟩
  have cells : ∀ p ∈ env.cells, p.2 ∉ cenv.cells.map (·.2) → ∀ o, s.heap.get? p.2 = some o → s'.heap.get? p.2 = some o := fun p hp hc o ho =>
    b.keep _ o ho (e.hiC p hp).2.1 (fun q => hCc (q ▸ List.mem_map.mpr ⟨p, hp, rfl⟩)) (fun q => by
      rcases List.mem_cons.mp q with w | w
      · exact ha.nC ((show p.2 = it from w) ▸ List.mem_map.mpr ⟨p, hp, rfl⟩)
      · exact hc w) (re.noT (e.hiC p hp).1)
  exact {
    kind := e.kind
    glob := e.glob
    blt := e.blt
    kinds := e.kinds
    ns := let ⟨mc, ns, hv⟩ := e.ns; ⟨mc, ns.at' kL, fun x v hx hl => let ⟨cv, e1, d⟩ := hv x v hx hl; ⟨cv, e1, Den.keeps K v d⟩⟩
    cl := fun x v c hx hk hc => by
      by_cases hin : c ∈ cenv.cells.map (·.2)
      · obtain ⟨h1, h2, h3⟩ := sh x v c hx hk hc hin
        exact i.cl x v c h1 h2 h3
      · obtain ⟨cv, ic, d⟩ := e.cl x v c hx hk hc
        exact ⟨cv, isCell_keeps ic (cells (x, c) (EnvOk.move.mem_of_lookup hc) hin), Den.keeps K v d⟩
    cellEx := fun p hp => by
      by_cases hin : p.2 ∈ cenv.cells.map (·.2)
      · obtain ⟨q, hq, z⟩ := List.mem_map.mp hin
        obtain ⟨ov, ic⟩ := i.cellEx q hq
        exact ⟨ov, z ▸ ic⟩
      · obtain ⟨ov, ic⟩ := e.cellEx p hp
        exact ⟨ov, isCell_keeps ic (cells p hp hin)⟩
    hiL := e.hiL
    nL := fun ha => by
      rcases b.new _ ha with h1 | h1
      · exact e.nL h1
      · obtain ⟨mc, ⟨o, _, _, ho, _⟩, _⟩ := e.ns
        rw [h1] at ho; cases ho
    hiC := fun p hp => ⟨(e.hiC p hp).1, fun ha => by
      rcases b.new _ ha with h1 | h1
      · exact (e.hiC p hp).2.1 h1
      · obtain ⟨ov, o, ho, _⟩ := e.cellEx p hp
        exact absurd (h1.symm.trans ho) (by simp), (e.hiC p hp).2.2⟩
    ndC := e.ndC
    ndm := e.ndm }
end
end Mine
end
section
open PySem PySem.W PyProof.Rows PySem.Calls
set_option Elab.async false
set_option maxRecDepth 100000
set_option linter.unusedVariables false
namespace Mine

theorem compTurn_list (elt target iter : Expr) (ifs : List Expr) (scope : Scope) (pos : Pos) (it acc : Value) (env : Env) :
    compTurn (.ListComp elt [⟨target, iter, ifs, 0⟩] scope pos) 0 it acc env = (do
      standAt iter.pos
      match ← pyNext it with
      | none => pure (.done .next)
      | some v =>
        letOwnedTupleGo target it v
        assign target env v
        let mut ok := true
        for c in ifs do
          if ok then ok ← isTrue c env (eval c env)
        if ok then
          (do let _ ← call (.builtin "list.append") [acc, ← eval elt env])
        again (.compLoop (.ListComp elt [⟨target, iter, ifs, 0⟩] scope pos) 0 it acc env)) := by rfl

section
variable {X : Cx} {n : Nat} {env cenv : Env} {m mi : Loc} {H : List Cell}

/-- the conditions of a comprehension -/
abbrev tests (ifs : List Expr) (env : Env) : Sem Bool := forIn ifs true fun c r => if r = true then do let ok ← isTrue c env (eval c env); pure (ForInStep.yield ok) else pure (ForInStep.yield r)
theorem tt_nil {Q : Bool → Loc → List Cell → Prop} (q : Q true m H) : TB X n env m H (tests [] env) Q :=
  TriP.pure (b := true) (fun _ _ _ => rfl) q
theorem tt_one {c : Expr} {Q : Bool → Loc → List Cell → Prop} (h : TB X n env m H (isTrue c env (eval c env)) Q) : TB X n env m H (tests [c] env) Q := by
  intro A η s C E Ro re e _ k
  unfold tests
  rw [List.forIn_cons]
  refine wpAny_bind (wpAny_bind (h A η s _ E Ro re e trivial fun b m1 H1 a η1 s1 q1 d1 r1 e1 a1 => wpAny_pure ?_))
  exact wpAny_pure (k b m1 H1 a η1 s1 q1 d1 r1 e1 a1)

/-- a comprehension about to turn; the list lies at acc -/
def TC (X : Cx) (n : Nat) (cenv : Env) (mi : Loc) (H : List Cell) (elt target iter : Expr) (ifs : List Expr) (scope : Scope) (pos : Pos) (src : Src) (acc : Nat) (Q : Loc → List Cell → Prop) : Prop :=
  ∀ (A : Around) (η : List Addr) (s : Shared) (C : Shared → Prop) (it av : Addr) (η₀ : List Addr) (s₀ : Shared), Room A n → Rel X η H s.heap → EnvOk X cenv η mi s.heap →
    ItAt η s.heap it src → Aside X cenv η s.heap it → Adv X (wit cenv it) η₀ s₀ η s → η[acc]? = some av →
    (∀ m' H' η' s₁ h' tk, Q m' H' → Rel X η' H' s₁.heap → EnvOk X cenv η' m' s₁.heap → Aside X cenv η' s₁.heap it → Adv X (wit cenv it) η₀ s₀ η' s₁ → Heap.ExtBut it s₁.heap h' → C { s₁ with heap := h', toks := tk }) →
    codeAny (model X.prog X.w) A (.compLoop (.ListComp elt [⟨target, iter, ifs, 0⟩] scope pos) 0 (.ref it) (.ref av) cenv) (fun r s' => match r with | .ok _ => C s' | .error _ => False) s

theorem tc_turn {elt target iter ifs scope pos src r acc} {Q : Loc → List Cell → Prop} (hr : nextS H src = some r) (h : match r with
      | none => Q mi H
      | some (v, src') => TA X n cenv mi H target v fun m H => TB X n cenv m H (tests ifs cenv) fun b m H => Br b
          (TE X n cenv m H (eval elt cenv) fun y m H => TN X n cenv m H (fun cvs => call (.builtin "list.append") cvs) [.loc acc, y] fun _ m H => TC X n cenv m H elt target iter ifs scope pos src' acc Q)
          (TC X n cenv m H elt target iter ifs scope pos src' acc Q)) : TC X n cenv mi H elt target iter ifs scope pos src acc Q := by
  intro A η s C it av η₀ s₀ Ro re e hi ha ad hav k
  refine codeAny_of_tree ?_
  show wpAny _ A ((compTurn (.ListComp elt [⟨target, iter, ifs, 0⟩] scope pos) 0 (.ref it) (.ref av) cenv).onRaise (fun x => do noteFrame x cenv; theTreesLotGoes x)) _ _ s
  refine wpAny_onRaise (wpAny_noErr ?_)
  rw [compTurn_list]
  refine wpAny_bind (wpAny_standAt (wpAny_bind (pyNext_ok Ro re hr hi fun ov h' tk hx hm => ?_)))
  obtain ⟨re', e'⟩ := ha.rel re e hx
  cases r with
  | none =>
    cases hm
    exact wpAny_pure (k mi H η s h' tk h re e ha ad hx)
  | some p =>
    obtain ⟨v, src'⟩ := p
    obtain ⟨cv, rfl, d, hi', hs⟩ := hm
    have ad' := ad.trans (Adv.witSet (tk := tk) hx hi'.live)
    have K : Keeps' X η s.heap η h' := ⟨fun b o e f => hx b o (fun q => by subst q; rw [ha.fz o e] at f; cases f) e, List.prefix_refl _⟩
    have ha' : Aside X cenv η h' it := ⟨ha.old, ha.nη, ha.nL, ha.nC, hi'.fz⟩
    refine wpAny_bind (letOwned (s := { s with heap := h', toks := tk }) hi' ?_)
    refine wpAny_bind (h cv A η _ _ _ Ro re' e' (Den.keeps K v d) fun _ m1 H1 _ η1 s1 q1 _ r1 e1 a1 => ?_)
    have keep1 : ∀ o, h'.get? it = some o → s1.heap.get? it = some o := fun o q => a1.keep it o q ha.nη ha.nL ha.nC (re'.noT ha.old)
    have ha1 := ha'.adv (s := { s with heap := h', toks := tk }) a1 re' hi'.live
    have hi1 := hi'.keep a1.pre keep1
    have hp1 : ∀ {η' : List Addr}, η <+: η' → η'[acc]? = some av := fun ⟨t, ht⟩ => by
      rw [← ht, List.getElem?_append_left (List.getElem?_eq_some_iff.mp hav).1]; exact hav
    refine wpAny_bind (q1 A η1 s1 _ _ Ro r1 e1 trivial fun b m2 H2 c η2 s2 q2 d2 r2 e2 a2 => ?_)
    subst d2
    have keep2 : ∀ o, s1.heap.get? it = some o → s2.heap.get? it = some o := fun o q => a2.keep it o q ha1.nη ha1.nL ha1.nC (r1.noT ha1.old)
    have ha2 := ha1.adv a2 r1 hi1.live
    have hi2 := hi1.keep a2.pre keep2
    have ad2 := (ad'.trans (a1.wit it)).trans (a2.wit it)
    cases b with
    | false =>
      exact wpAny_pure ⟨rfl, q2 A η2 s2 C it av η₀ s₀ Ro r2 e2 hi2 ha2 ad2 (hp1 (a1.pre.trans a2.pre)) k⟩
    | true =>
      refine wpAny_bind (wpAny_bind (q2 A η2 s2 _ _ Ro r2 e2 trivial fun y m3 H3 yv η3 s3 q3 d3 r3 e3 a3 => ?_))
      have keep3 : ∀ o, s2.heap.get? it = some o → s3.heap.get? it = some o := fun o q => a3.keep it o q ha2.nη ha2.nL ha2.nC (r2.noT ha2.old)
      have ha3 := ha2.adv a3 r2 hi2.live
      have hi3 := hi2.keep a3.pre keep3
      have hav3 := hp1 ((a1.pre.trans a2.pre).trans a3.pre)
      refine wpAny_bind (q3 [.ref av, yv] A η3 s3 _ _ Ro r3 e3 (denL_two.mpr ⟨_, _, rfl, den_loc.mpr ⟨_, rfl, hav3⟩, d3⟩) fun _ m4 H4 _ η4 s4 q4 _ r4 e4 a4 => ?_)
      have keep4 : ∀ o, s3.heap.get? it = some o → s4.heap.get? it = some o := fun o q => a4.keep it o q ha3.nη ha3.nL ha3.nC (r3.noT ha3.old)
      have ha4 := ha3.adv a4 r3 hi3.live
      have hi4 := hi3.keep a4.pre keep4
      exact wpAny_pure (wpAny_pure ⟨rfl, q4 A η4 s4 C it av η₀ s₀ Ro r4 e4 hi4 ha4 ((ad2.trans (a3.wit it)).trans (a4.wit it)) (hp1 (((a1.pre.trans a2.pre).trans a3.pre).trans a4.pre)) k⟩)

theorem closureFor_ok {scope : Scope} (h : ∀ x, (x, NameKind.free) ∈ scope.names → ∃ c, env.cells.lookup x = some c) : ∃ cl, closureFor scope env = pure cl ∧ (∀ p ∈ cl, env.cells.lookup p.1 = some p.2 ∧ (p.1, NameKind.free) ∈ scope.names) ∧
    ∀ x, (x, NameKind.free) ∈ scope.names → ∃ c, (x, c) ∈ cl := by
  have key : ∀ (l : List (Str × NameKind)) (cs : List (Str × Addr)), (∀ p ∈ l, p ∈ scope.names) → (∀ p ∈ cs, env.cells.lookup p.1 = some p.2 ∧ (p.1, NameKind.free) ∈ scope.names) →
      ∃ cl, (forIn l cs fun (x : Str × NameKind) (cs : List (Str × Addr)) => if (x.2 == NameKind.free) = true then (do let c ← cellOf env x.1; pure (ForInStep.yield ((x.1, c) :: cs))) else pure (ForInStep.yield cs) : Sem (List (Str × Addr))) = pure cl ∧
        (∀ p ∈ cl, env.cells.lookup p.1 = some p.2 ∧ (p.1, NameKind.free) ∈ scope.names) ∧ (∀ p ∈ cs, p ∈ cl) ∧ ∀ x, (x, NameKind.free) ∈ l → ∃ c, (x, c) ∈ cl := by
    intro l
    induction l with
    | nil => intro cs _ hcs; exact ⟨cs, by rw [List.forIn_nil], hcs, fun _ h => h, fun x hx => by cases hx⟩
    | cons p l ih =>
      intro cs hl hcs
      obtain ⟨y, k⟩ := p
      rw [List.forIn_cons]
      by_cases hk : k = .free
      · subst hk
        obtain ⟨c, hc⟩ := h y (hl _ (.head _))
        have e : cellOf env y = pure c := by unfold cellOf; rw [hc]
        obtain ⟨cl, e2, h1, h2, h3⟩ := ih ((y, c) :: cs) (fun p hp => hl p (.tail _ hp)) (fun p hp => by
          rcases List.mem_cons.mp hp with q | q
          · subst q; exact ⟨hc, hl _ (.head _)⟩
          · exact hcs p q)
        refine ⟨cl, ?_, h1, fun p hp => h2 p (.tail _ hp), fun x hx => ?_⟩
        · rw [if_pos (by rfl), e]
          simpa using e2
        · rcases List.mem_cons.mp hx with q | q
          · cases q; exact ⟨c, h2 _ (.head _)⟩
          · exact h3 x q
      · obtain ⟨cl, e2, h1, h2, h3⟩ := ih cs (fun p hp => hl p (.tail _ hp)) hcs
        refine ⟨cl, ?_, h1, h2, fun x hx => ?_⟩
        · rw [if_neg (by simpa using hk)]
          simpa using e2
        · rcases List.mem_cons.mp hx with q | q
          · cases q; exact absurd rfl hk
          · exact h3 x q
  obtain ⟨cl, e, h1, _, h3⟩ := key scope.names [] (fun _ h => h) (fun p hp => by cases hp)
  exact ⟨cl, by unfold closureFor; exact (congrArg (fun m => m >>= fun cs => pure cs) e).trans rfl, h1, h3⟩

/-- the free names of an inner frame, with what they hold -/
structure Frees (env : Env) (m : Loc) (scope : Scope) (k : Str → Option NameKind) (fv : List (Str × V)) : Prop where
  mem : ∀ p ∈ fv, (p.1, some p.2) ∈ m ∧ env.kindOf p.1 ≠ some .local ∧ (p.1, NameKind.free) ∈ scope.names ∧ (k p.1 = some .cell ∨ k p.1 = some .free) ∧ p.1 ≠ "__debug__" ∧ p.1 ≠ "__classdict__"
  all : ∀ x, (x, NameKind.free) ∈ scope.names → ∃ v, (x, v) ∈ fv
  nd : (fv.map (·.1)).Nodup

def fvL (fv : List (Str × V)) : Loc := fv.map fun p => (p.1, some p.2)

theorem lookup_unique {l : List (Str × Addr)} {x : Str} {c : Addr} (h : (x, c) ∈ l) (u : ∀ p ∈ l, p.1 = x → p.2 = c) : l.lookup x = some c := by
  induction l with
  | nil => cases h
  | cons p l ih =>
    obtain ⟨y, d⟩ := p
    rw [List.lookup_cons]
    by_cases q : x = y
    · subst q
      have : d = c := u (x, d) (.head _) rfl
      simp [this]
    · rw [show (x == y) = false by simpa using q]
      rcases List.mem_cons.mp h with z | z
      · cases z; exact absurd rfl q
      · exact ih z fun p hp => u p (.tail _ hp)

theorem inner_of {η h} {scope : Scope} {fv : List (Str × V)} {cl : List (Str × Addr)} {xs : List Str} (e : EnvOk X env η m h) (F : Frees env m scope cenv.kindOf fv) (hk : cenv.scope.kind = .function) (hg : cenv.globals = env.globals) (hb : cenv.builtins = env.builtins) (hc : cenv.cells = cl)
    (h1 : ∀ p ∈ cl, env.cells.lookup p.1 = some p.2 ∧ (p.1, NameKind.free) ∈ scope.names) (h2 : ∀ x, (x, NameKind.free) ∈ scope.names → ∃ c, (x, c) ∈ cl)
    (hx : ∀ x ∈ xs, cenv.kindOf x = some .local ∧ x ≠ "__debug__" ∧ x ≠ "__classdict__") (hnd : xs.Nodup) :
    Inner env cenv m (xs.map (fun x => (x, (none : Option V))) ++ fvL fv) where
  kind := hk
  glob := hg.trans e.glob
  blt := hb.trans e.blt
  kinds := fun x ov hm => by
    rcases List.mem_append.mp hm with q | q
    · obtain ⟨y, hy, z⟩ := List.mem_map.mp q
      cases z
      exact ⟨(hx x hy).2.1, (hx x hy).2.2, .inl (hx x hy).1⟩
    · obtain ⟨p, hp, z⟩ := List.mem_map.mp q
      cases z
      obtain ⟨a1, a2, a3, a4, a5, a6⟩ := F.mem p hp
      obtain ⟨c, hc'⟩ := h2 p.1 a3
      refine ⟨a5, a6, .inr ⟨a4, c, ?_⟩⟩
      rw [hc]
      exact lookup_unique hc' fun q hq z => by
        have := (h1 q hq).1; rw [z, (h1 _ hc').1] at this; cases this; rfl
  bnd := fun x v hm => by
    rcases List.mem_append.mp hm with q | q
    · obtain ⟨y, hy, z⟩ := List.mem_map.mp q
      cases z
    · obtain ⟨p, hp, z⟩ := List.mem_map.mp q
      cases z
      obtain ⟨a1, a2, a3, a4, a5, a6⟩ := F.mem p hp
      exact ⟨fun z => by rcases a4 with w | w <;> (rw [w] at z; cases z), a1, a2⟩
  look := fun x c hl => by
    rw [hc] at hl
    exact (h1 (x, c) (EnvOk.move.mem_of_lookup hl)).1
  cells := fun p hp => by
    rw [hc] at hp
    exact EnvOk.move.mem_of_lookup (h1 p hp).1
  ndm := by
    have hdis : ∀ x ∈ xs, x ∉ fv.map (·.1) := fun x hm q => by
      obtain ⟨p, hp, rfl⟩ := List.mem_map.mp q
      rcases (F.mem p hp).2.2.2.1 with w | w <;> (rw [(hx _ hm).1] at w; cases w)
    rw [List.map_append, List.nodup_append]
    refine ⟨?_, ?_, fun a ha b hb q => ?_⟩
    · rw [List.map_map]; simpa [Function.comp_def] using hnd
    · unfold fvL; rw [List.map_map]; simpa [Function.comp_def] using F.nd
    · subst q
      rw [List.map_map] at ha
      unfold fvL at hb
      rw [List.map_map] at hb
      exact hdis a (by simpa [Function.comp_def] using ha) (by simpa [Function.comp_def] using hb)

theorem pyIter_self {A : Around} {E : Value → Shared → Prop} {η : List Addr} {s : Shared} {it : Addr} {src : Src} {C : Value → Shared → Prop} (hi : ItAt η s.heap it src) (h : C (.ref it) s) : wpAny (model X.prog X.w) A (pyIter (.ref it)) C E s := by
  cases src with
  | lst i k => obtain ⟨a, _, hl⟩ := hi; exact wpAny_pyIter_listiter hl h
  | rng x l => exact wpAny_pyIter_rangeiter hi h

theorem tri_ListComp {elt iter x px ifs scope pos} {Q : V → Loc → List Cell → Prop} (fv : List (Str × V)) (F : Frees env m scope (fun y => (relabel scope env).names.lookup y) fv) (hsc : scope.kind = .function) (hcell : ∀ y ∈ scope.names, y.2 ≠ .cell) (hloc : ∀ y ∈ scope.names, y.2 = .local → scope.names.lookup y.1 = some .local)
    (hx : (relabel scope env).names.lookup x = some .local ∧ x ≠ "__debug__" ∧ x ≠ "__classdict__")
    (h : TE X n env m H (eval iter env) fun v m1 H => m1 = m ∧ ∃ src, iterOf H v = some src ∧ (∀ i, v = .loc i → ∃ xs, H[i]? = some (.list xs)) ∧ (∀ k, v = .rng k → 0 ≤ k ∧ k ≤ 2 ^ 62) ∧
      ∀ cl C, TC X n (compEnvC scope cl C env) ((x, none) :: fvL fv) (H ++ [.list []]) elt (.Name x px) iter ifs scope pos src H.length fun mi H' => (∀ p ∈ fv, (p.1, some p.2) ∈ mi) ∧ Q (.loc H.length) m H')
    (hs : ∀ x, foldedSetIterable iter env x = pure x := by intro _; rfl) : TE X n env m H (eval (.ListComp elt [⟨.Name x px, iter, ifs, 0⟩] scope pos) env) Q := by
  intro A η s Ck E Ro re e _ k
  have hfre : ∀ y, (y, NameKind.free) ∈ scope.names → ∃ c, env.cells.lookup y = some c := fun y hy => by
    obtain ⟨v, hv⟩ := F.all y hy
    obtain ⟨a1, a2, _⟩ := F.mem _ hv
    rcases (e.kinds _ _ a1).2.2 with w | ⟨_, w⟩
    · exact absurd w a2
    · exact w
  obtain ⟨cl, hcl, h1, h2⟩ := closureFor_ok hfre
  rw [eval_ListComp]
  refine wpAny_comprehension_free (g := ⟨.Name x px, iter, ifs, 0⟩) (gs := []) (cl := cl) rfl hs hcl hsc hloc ?_
  show wpAny _ A (eval iter env) _ _ _
  refine h A η s _ E Ro re e trivial fun v m1 H1 cv η1 s1 q1 d1 r1 e1 a1 => ?_
  obtain ⟨rfl, src, hi, hl, hn, q⟩ := q1
  refine pyIter_ok Ro r1 e1 d1 hi hl hn fun it h' hit ha r2 e2 a2 h0 => ?_
  refine wpAny_newObj_type ?_ (by show (0 : Nat) ≤ sizeLine; omega)
  have ok : CellOk X (η1 ++ [h'.objs.size]) (h'.push { cls := .type "list", data := .seq (([] : List Value)).toArray }) (.list []) { cls := .type "list", data := .seq (([] : List Value)).toArray } :=
    ⟨[], 0, rfl, by simp, by unfold DenL; rfl⟩
  obtain ⟨r3, e3, a3⟩ := alloc_ok (s := { s1 with heap := h' }) (tk := s1.toks) r2 e2 rfl ok
  have f3 := r3.fresh
  have hacc : (η1 ++ [h'.objs.size])[H1.length]? = some h'.objs.size := by
    rw [← r2.len, List.getElem?_append_right (Nat.le_refl _)]; simp
  have hit3 : ItAt (η1 ++ [h'.objs.size]) (h'.push { cls := .type "list", data := .seq (([] : List Value)).toArray }) it src := hit.keep ⟨_, rfl⟩ fun o q => Heap.get?_push_of_some _ q
  have ha3 := ha.adv (s := { s1 with heap := h' }) a3 r2 hit.live
  generalize hH2 : h'.push { cls := .type "list", data := .seq (([] : List Value)).toArray } = H2 at r3 e3 a3 f3 hit3 ha3 ⊢
  refine wpAny_newFunctionEnv hcell (by intro y hy; simp at hy) (fun h4 hns4 hsb4 => ?_) hsc
  have ext4 : ∀ b o, H2.get? b = some o → h4.get? b = some o := fun b o ho => hsb4.extBut b o (fun q => by subst q; rw [get_size_none] at ho; cases ho) (Heap.get?_push_of_some _ ho)
  obtain ⟨I⟩ : Nonempty (Inner env (compEnvC scope cl H2.objs.size env) m1 ([x].map (fun x => (x, (none : Option V))) ++ fvL fv)) :=
    ⟨inner_of (cenv := compEnvC scope cl H2.objs.size env) e F (by simp [compEnvC, relabel, hsc]) rfl rfl rfl h1 h2 (fun y hy => by rcases List.mem_cons.mp hy with w | w; (subst w; exact hx); cases w) (by simp)⟩
  have e4 : EnvOk X (compEnvC scope cl H2.objs.size env) (η1 ++ [h'.objs.size]) ((x, none) :: fvL fv) h4 := e3.inner I ext4 hns4 f3.1 f3.2 (get_size_none _)
  have r4 := r3.ext ext4
  have live3 : ∃ o, H2.get? it = some o := hit3.live
  have ha4 : Aside X (compEnvC scope cl H2.objs.size env) (η1 ++ [h'.objs.size]) h4 it := by
    obtain ⟨o, ho⟩ := live3
    refine ⟨ha3.old, ha3.nη, fun q => ?_, fun q => ?_, fun o' ho' => ?_⟩
    · rw [show it = H2.objs.size from q, get_size_none] at ho; cases ho
    · obtain ⟨p, hp, z⟩ := List.mem_map.mp q
      exact ha3.nC (z ▸ List.mem_map.mpr ⟨p, I.cells p hp, rfl⟩)
    · rw [ext4 _ _ ho] at ho'; cases ho'; exact ha3.fz o ho
  have hit4 := hit3.keep (List.prefix_refl _) (fun o q => ext4 it o q)
  have loop : ∀ s4 : Shared, s4.heap = h4 → s4.gens = s1.gens → s4.os = s1.os → codeAny (model X.prog X.w) A (.compLoop (.ListComp elt [⟨.Name x px, iter, ifs, 0⟩] scope pos) 0 (.ref it) (.ref h'.objs.size) (compEnvC scope cl H2.objs.size env))
      (compPost (model X.prog X.w) A E none Ck (.ref h'.objs.size) H2.objs.size) s4 := by
    intro s4 hh hg ho
    subst hh
    have hd : ∀ {s' : Shared}, Adv X env η s η1 s1 → Adv X env η1 s1 (η1 ++ [h'.objs.size]) { s1 with heap := s4.heap } → Adv X env η s (η1 ++ [h'.objs.size]) s4 := fun a b =>
      have c := a.trans b
      ⟨c.keep, c.live, c.pre, c.new, by rw [hg]; exact c.gsz, fun i y q => by rw [hg]; exact c.gen i y q, fun i y q z => by rw [hg] at z; exact c.bare i y q z, ho.trans c.os⟩
    have ad4 : Adv X env η s (η1 ++ [h'.objs.size]) s4 := hd (s' := s1) a1 ((a2.trans a3).trans (Adv.ofExt (s := { s1 with heap := H2 }) (tk := s1.toks) ext4))
    refine codeAny_mono (q cl H2.objs.size A _ s4 (fun s' => compPost (model X.prog X.w) A E none Ck (.ref h'.objs.size) H2.objs.size (.ok .next) s') it _ _ s4 Ro r4 e4 hit4 ha4 (.refl ..) hacc fun mi' H' η' s₁ h5 tk qq r5 e5 ha5 a5 hx5 => ?_) fun r s' z => ?_
    · have hsit : s.heap.get? it = none := by
        cases q : s.heap.get? it with
        | none => rfl
        | some o => obtain ⟨o', w⟩ := a1.live it o q; rw [h0] at w; cases w
      have hsC : s.heap.get? H2.objs.size = none := by
        cases q : s.heap.get? H2.objs.size with
        | none => rfl
        | some o =>
          obtain ⟨o1, w1⟩ := a1.live _ o q
          obtain ⟨o2, w2⟩ := a2.live _ o1 w1
          obtain ⟨o3, w3⟩ := a3.live _ o2 w2
          rw [show ({ s1 with heap := H2, toks := s1.toks } : Shared).heap = H2 from rfl, get_size_none] at w3; cases w3
      have hne : env.locals ≠ H2.objs.size := fun q => by
        obtain ⟨mc, ⟨o, _, _, ho, _⟩, _⟩ := e3.ns
        rw [q, get_size_none] at ho; cases ho
      have hCc : H2.objs.size ∉ env.cells.map (·.2) := fun q => by
        obtain ⟨p, hp, z⟩ := List.mem_map.mp q
        obtain ⟨ov, o, ho, _⟩ := e3.cellEx p hp
        rw [z, get_size_none] at ho; cases ho
      have haE : Aside X env (η1 ++ [h'.objs.size]) s4.heap it := ⟨ha3.old, ha3.nη, ha3.nL, ha3.nC, ha4.fz⟩
      have fzNs : ∀ {h : Heap} {mm}, h.Ns H2.objs.size mm → ∀ o, h.get? H2.objs.size = some o → frozen o = false := fun hn o ho => by
        obtain ⟨o', es, ep, ho', hd, _⟩ := hn
        rw [ho] at ho'; cases ho'
        unfold frozen; rw [hd]
      have eo5 : EnvOk X env η' m1 s₁.heap := EnvOk.back (cenv := compEnvC scope cl H2.objs.size env) (e3.ext ext4) r4 e5 a5 haE hne hCc I.cells (fzNs hns4) fun y v c hy hk hl hin => by
        obtain ⟨p, hp, z⟩ := List.mem_map.mp hin
        have hp' := h1 p hp
        have hpy : p.1 = y := e.ndC p (EnvOk.move.mem_of_lookup hp'.1) (y, c) (EnvOk.move.mem_of_lookup hl) z
        obtain ⟨v', hv'⟩ := F.all p.1 hp'.2
        have hm := F.mem _ hv'
        have hvv : v' = v := by
          have key : ∀ (l : Loc), (l.map (·.1)).Nodup → (y, some v) ∈ l → (y, some v') ∈ l → v' = v := by
            intro l
            induction l with
            | nil => intro _ h _; cases h
            | cons q l ih =>
              intro nd h h'
              rw [List.map_cons, List.nodup_cons] at nd
              rcases List.mem_cons.mp h with w | w <;> rcases List.mem_cons.mp h' with w' | w'
              · rw [← w] at w'; cases w'; rfl
              · rw [← w] at nd; exact absurd (List.mem_map.mpr ⟨_, w', rfl⟩) nd.1
              · rw [← w'] at nd; exact absurd (List.mem_map.mpr ⟨_, w, rfl⟩) nd.1
              · exact ih nd.2 w w'
          exact key m1 e.ndm hy (hpy ▸ hm.1)
        subst hvv
        rw [hpy] at hv' hm
        refine ⟨qq.1 _ hv', fun w => ?_, lookup_unique (by rw [← hpy, ← z]; exact hp) fun q hq w => ?_⟩
        · rcases hm.2.2.2.1 with u | u <;> (rw [show (relabel scope env).names.lookup y = some .local from w] at u; cases u)
        · have := (h1 q hq).1; rw [w, hl] at this; cases this; rfl
      have ad5 : Adv X env η s η' s₁ := ad4.back a5 hsC fun p hp => by
        rcases List.mem_cons.mp hp with w | w
        · subst w; exact .inr hsit
        · exact .inl (I.cells p w)
      have haE5 : Aside X env η' s₁.heap it := ⟨ha5.old, ha5.nη, ha3.nL, ha3.nC, ha5.fz⟩
      obtain ⟨r6, e6⟩ := haE5.rel r5 eo5 hx5
      obtain ⟨mc5, ns5, _⟩ := e5.ns
      have ns6 : h5.Ns H2.objs.size mc5 := ns5.at' fun o q => hx5 _ o (fun w => ha5.nL w.symm) q
      refine ⟨mc5, ns6, fun h6 hs6 => ?_⟩
      have haC : Aside X env η' h5 H2.objs.size := ⟨f3.1, e5.nL, Ne.symm hne, hCc, fzNs ns6⟩
      obtain ⟨r7, e7⟩ := haC.rel r6 e6 hs6.extBut
      obtain ⟨t, ht⟩ := a5.pre
      exact k (.loc H1.length) m1 H' _ η' _ qq.2 (den_loc.mpr ⟨_, rfl, by rw [← ht, List.getElem?_append_left (List.getElem?_eq_some_iff.mp hacc).1]; exact hacc⟩) r7 e7 ((ad5.aside (tk := tk) hsit hx5).aside (tk := tk) hsC hs6.extBut)
    · cases r with
      | ok f => exact z
      | error x => exact z.elim
  exact codeAny_compStart_list (loop _ rfl rfl rfl) (pyIter_self (s := { s1 with heap := h4, toks := _ }) hit4 (loop _ rfl rfl rfl))
end
end Mine
end
section
open PySem PySem.W PyProof.Rows PySem.Calls
set_option Elab.async false
set_option maxRecDepth 100000
set_option linter.unusedVariables false
namespace Mine

/-- a generator expression at work: what stays -/
structure GS (X : Cx) (env : Env) (m : Loc) (cenv : Env) (x : Str) (fv : List (Str × V)) (it S a : Addr) (g : Nat) (s₀ : Shared) : Prop where
  hx : cenv.kindOf x = some .local
  hk : cenv.scope.kind = .function
  hco : cenv.scope.isCoroutine = false
  cells : ∀ p ∈ cenv.cells, p ∈ env.cells
  hne : env.locals ≠ cenv.locals
  hCc : cenv.locals ∉ env.cells.map (·.2)
  sh : ∀ y v c, (y, some v) ∈ m → env.kindOf y ≠ some .local → env.cells.lookup y = some c → c ∈ cenv.cells.map (·.2) → (y, v) ∈ fv ∧ cenv.kindOf y ≠ some .local ∧ cenv.cells.lookup y = some c
  nC : s₀.heap.get? cenv.locals = none
  nit : s₀.heap.get? it = none
  nS : s₀.heap.get? S = none
  sC : S ≠ cenv.locals
  aC : a ≠ cenv.locals
  sit : S ≠ it
  ait : a ≠ it
  gs : s₀.gens.size ≤ g

structure Core (X : Cx) (H : List Cell) (env : Env) (m : Loc) (cenv : Env) (x : Str) (fv : List (Str × V)) (it S a : Addr) (g : Nat) (η₀ : List Addr) (s₀ : Shared) (η : List Addr) (ov : Option V) (s : Shared) : Prop where
  re : Rel X η H s.heap
  ec : EnvOk X cenv η ((x, ov) :: fvL fv) s.heap
  eo : EnvOk X env η m s.heap
  ad : Adv X env η₀ s₀ η s
  ai : Aside X cenv η s.heap it
  aie : Aside X env η s.heap it
  asd : Aside X env η s.heap S
  aa : Aside X env η s.heap a
  sl : ∃ o, s.heap.get? S = some o
  isg : s.heap.IsGen a g
  glt : g < s.gens.size

section
variable {X : Cx} {n : Nat} {env cenv : Env} {m : Loc} {H : List Cell} {x : Str} {fv : List (Str × V)} {it S a : Addr} {g : Nat} {η₀ : List Addr} {s₀ : Shared} {η η' : List Addr} {ov ov' : Option V} {s s' : Shared}

theorem adv_at {b : Addr} {o : Obj} (x : Aside X env η s.heap b) (ad : Adv X cenv η s η' s') (hC : b ≠ cenv.locals) (hcs : ∀ p ∈ cenv.cells, p ∈ env.cells) (re : Rel X η H s.heap) (e : s.heap.get? b = some o) : s'.heap.get? b = some o :=
  ad.keep b o e x.nη hC (fun q => by
    obtain ⟨p, hp, z⟩ := List.mem_map.mp q
    exact x.nC (List.mem_map.mpr ⟨p, hcs p hp, z⟩)) (re.noT x.old)
theorem Aside.adv2 {b : Addr} (x : Aside X env η s.heap b) (ad : Adv X cenv η s η' s') (hC : b ≠ cenv.locals) (hcs : ∀ p ∈ cenv.cells, p ∈ env.cells) (re : Rel X η H s.heap) (hl : ∃ o, s.heap.get? b = some o) : Aside X env η' s'.heap b := by
  obtain ⟨o, e⟩ := hl
  have e' := adv_at x ad hC hcs re e
  refine ⟨x.old, fun hh => ?_, x.nL, x.nC, fun o' q => ?_⟩
  · rcases ad.new b hh with h | h
    · exact x.nη h
    · rw [e] at h; cases h
  · rw [e'] at q; cases q; exact x.fz o e

/-- a step in the inner frame -/
theorem Core.move (G : GS X env m cenv x fv it S a g s₀) (C : Core X H env m cenv x fv it S a g η₀ s₀ η ov s) (hl : ∃ o, s.heap.get? it = some o) (ad : Adv X cenv η s η' s') (re' : Rel X η' H s'.heap) (ec' : EnvOk X cenv η' ((x, ov') :: fvL fv) s'.heap) :
    Core X H env m cenv x fv it S a g η₀ s₀ η' ov' s' where
  re := re'
  ec := ec'
  eo := EnvOk.back (mo := (x, ov') :: fvL fv) C.eo C.re ec' (ad.wit it) C.aie G.hne G.hCc G.cells (fun o ho => by
      obtain ⟨mc, ⟨o', es, ep, ho', hd, _⟩, _⟩ := C.ec.ns
      rw [ho] at ho'; cases ho'
      unfold frozen; rw [hd]) fun y v c hy hk hlk hin => by
    obtain ⟨h1, h2, h3⟩ := G.sh y v c hy hk hlk hin
    exact ⟨.tail _ (List.mem_map.mpr ⟨(y, v), h1, rfl⟩), h2, h3⟩
  ad := C.ad.back ad G.nC fun p hp => .inl (G.cells p hp)
  ai := C.ai.adv ad C.re hl
  aie := by
    obtain ⟨o, e⟩ := hl
    exact C.aie.adv2 ad C.ai.nL G.cells C.re ⟨o, e⟩
  asd := C.asd.adv2 ad G.sC G.cells C.re C.sl
  aa := C.aa.adv2 ad G.aC G.cells C.re (let ⟨o, _, _, ho, _⟩ := C.isg; ⟨o, ho⟩)
  sl := let ⟨o, ho⟩ := C.sl; ⟨o, adv_at C.asd ad G.sC G.cells C.re ho⟩
  isg := let ⟨o, nm, qn, ho, r⟩ := C.isg; ⟨o, nm, qn, adv_at C.aa ad G.aC G.cells C.re ho, r⟩
  glt := Nat.lt_of_lt_of_le C.glt ad.gsz

/-- an aside object is turned -/
theorem Core.side {b : Addr} (C : Core X H env m cenv x fv it S a g η₀ s₀ η ov s) {h' : Heap} {tk : Nat} (hb : Aside X env η s.heap b) (hbC : Aside X cenv η s.heap b) (n0 : s₀.heap.get? b = none) (hx : Heap.ExtBut b s.heap h') (hab : a ≠ b)
    (fb : ∃ o, h'.get? b = some o ∧ frozen o = false) (li : ∃ o, s.heap.get? it = some o) : Core X H env m cenv x fv it S a g η₀ s₀ η ov { s with heap := h', toks := tk } := by
  obtain ⟨r1, e1⟩ := hb.rel C.re C.eo hx
  obtain ⟨_, e2⟩ := hbC.rel C.re C.ec hx
  obtain ⟨ob, hob, fob⟩ := fb
  have asd : ∀ {env : Env} {c : Addr}, Aside X env η s.heap c → (∃ o, s.heap.get? c = some o) → Aside X env η h' c := fun {env} {c} y ⟨o, e⟩ => ⟨y.old, y.nη, y.nL, y.nC, fun o' q => by
    by_cases w : c = b
    · subst w; rw [hob] at q; cases q; exact fob
    · rw [hx c o w e] at q; cases q; exact y.fz o e⟩
  have lit : ∀ {c : Addr}, (∃ o, s.heap.get? c = some o) → ∃ o, h'.get? c = some o := fun {c} ⟨o, e⟩ => by
    by_cases w : c = b
    · exact ⟨ob, w ▸ hob⟩
    · exact ⟨o, hx c o w e⟩
  exact ⟨r1, e2, e1, C.ad.aside (tk := tk) n0 hx, asd C.ai li, asd C.aie li, asd C.asd C.sl, asd C.aa (let ⟨o, _, _, ho, _⟩ := C.isg; ⟨o, ho⟩), lit C.sl,
    (let ⟨o, nm, qn, ho, r⟩ := C.isg; ⟨o, nm, qn, hx a o hab ho, r⟩), C.glt⟩

/-- the items that an iterator still has -/
inductive Items (H : List Cell) : Src → List V → Prop where
  | nil {src} : nextS H src = some none → Items H src []
  | cons {src v src' l} : nextS H src = some (some (v, src')) → Items H src' l → Items H src (v :: l)

/-- what stands when the items l are still to come -/
def At (X : Cx) (H : List Cell) (env : Env) (m : Loc) (cenv : Env) (x : Str) (fv : List (Str × V)) (it S a : Addr) (g : Nat) (η₀ : List Addr) (s₀ : Shared) (l : List V) (s : Shared) : Prop :=
  ∃ η ov src, Items H src l ∧ ItAt η s.heap it src ∧ Core X H env m cenv x fv it S a g η₀ s₀ η ov s
/-- the end -/
structure Fin' (X : Cx) (H : List Cell) (env : Env) (m : Loc) (S : Addr) (η₀ : List Addr) (s₀ : Shared) (η : List Addr) (s : Shared) : Prop where
  re : Rel X η H s.heap
  eo : EnvOk X env η m s.heap
  ad : Adv X env η₀ s₀ η s
  asd : Aside X env η s.heap S
  sl : ∃ o, s.heap.get? S = some o

/-- S stays, no generator is lost -/
def Kept (S : Addr) (s s' : Shared) : Prop := (∀ o, s.heap.get? S = some o → s'.heap.get? S = some o) ∧ s.gens.size ≤ s'.gens.size
theorem Kept.refl {S s} : Kept S s s := ⟨fun _ e => e, Nat.le_refl _⟩
theorem Kept.trans {S s s' s''} (a : Kept S s s') (b : Kept S s' s'') : Kept S s s'' := ⟨fun o e => b.1 o (a.1 o e), Nat.le_trans a.2 b.2⟩

/-- the protocol: L are all the items -/
def GY (X : Cx) (H : List Cell) (env : Env) (m : Loc) (cenv : Env) (x : Str) (fv : List (Str × V)) (it S a : Addr) (g : Nat) (η₀ : List Addr) (s₀ : Shared) (VAL : V → Value → Prop) (L : List V) : Protocol := fun k s v s' kap =>
  ∃ pre y l, L = pre ++ y :: l ∧ k = l.length ∧ VAL y v ∧ Kept S s s' ∧ At X H env m cenv x fv it S a g η₀ s₀ l s' ∧ ∀ s'', At X H env m cenv x fv it S a g η₀ s₀ l s'' → kap (.send .none) s''
def GR (X : Cx) (H : List Cell) (env : Env) (m : Loc) (S : Addr) (η₀ : List Addr) (s₀ : Shared) : Nat → Shared → Shared → Prop := fun k s s' => k = 0 ∧ Kept S s s' ∧ ∃ η, Fin' X H env m S η₀ s₀ η s'
abbrev genCode (elt iter : Expr) (x : Str) (px : Pos) (scope : Scope) (pos : Pos) (it : Addr) (cenv : Env) : Code := .compLoop (.GeneratorExp elt [⟨.Name x px, iter, [], 0⟩] scope pos) 0 (.ref it) .none cenv

theorem seg_gen (G : GS X env m cenv x fv it S a g s₀) {A : Around} {elt iter : Expr} {px pos : Pos} {scope : Scope} {VAL : V → Value → Prop} {L : List V}
    (Ro : Room (A.over (genCode elt iter x px scope pos it cenv) []) n)
    (hE : ∀ v ∈ L, TE X n cenv ((x, some v) :: fvL fv) H (eval elt cenv) fun y mi' H' => mi' = (x, some v) :: fvL fv ∧ H' = H ∧ ∀ η h cv, Den X η h y cv → VAL v cv) :
    ∀ (l : List V) (pre : List V) (s₁ s : Shared), L = pre ++ l → At X H env m cenv x fv it S a g η₀ s₀ l s → Kept S s₁ s →
      Seg (model X.prog X.w) A (fun k s₀' r s' => r = .ok .next ∧ GR X H env m S η₀ s₀ k s₀' s') (GY X H env m cenv x fv it S a g η₀ s₀ VAL L) l.length s₁ (genCode elt iter x px scope pos it cenv)
        ((model X.prog X.w).den (genCode elt iter x px scope pos it cenv)) [] s := by
  intro l
  induction l with
  | nil =>
    intro pre s₁ s hL hat hk
    obtain ⟨η, ov, src, hi, hit, C⟩ := hat
    cases hi with
    | nil hn =>
      show Seg _ A _ _ _ s₁ _ ((compTurn (.GeneratorExp elt [⟨.Name x px, iter, [], 0⟩] scope pos) 0 (.ref it) .none cenv).onRaise (leaving cenv)) [] s
      rw [compTurn_gen, Sem.onRaise_eq_wrap]
      refine seg_bind_wrap (wpAny_standAt ?_)
      refine seg_bind_wrap (pyNext_ok Ro C.re hn hit fun ov' h' tk hx hm => ?_)
      cases hm
      obtain ⟨r1, e1⟩ := C.aie.rel C.re C.eo hx
      refine seg_end (.ok .next) ⟨rfl, rfl, hk.trans ⟨fun o e => hx S o G.sit e, Nat.le_refl _⟩, η, r1, e1, C.ad.aside (tk := tk) G.nit hx, ?_, ?_⟩
      · exact ⟨C.asd.old, C.asd.nη, C.asd.nL, C.asd.nC, fun o q => by
          obtain ⟨o', e⟩ := C.sl
          rw [hx S o' G.sit e] at q; cases q; exact C.asd.fz o e⟩
      · obtain ⟨o', e⟩ := C.sl
        exact ⟨o', hx S o' G.sit e⟩
  | cons v l ih =>
    intro pre s₁ s hL hat hk
    obtain ⟨η, ov, src, hi, hit, C⟩ := hat
    cases hi with
    | cons hn hrest =>
      show Seg _ A _ _ _ s₁ _ ((compTurn (.GeneratorExp elt [⟨.Name x px, iter, [], 0⟩] scope pos) 0 (.ref it) .none cenv).onRaise (leaving cenv)) [] s
      rw [compTurn_gen, Sem.onRaise_eq_wrap]
      refine seg_bind_wrap (wpAny_standAt ?_)
      refine seg_bind_wrap (pyNext_ok Ro C.re hn hit fun ov' h' tk hx hm => ?_)
      obtain ⟨cv, rfl, d, hi', hs⟩ := hm
      have C1 : Core X H env m cenv x fv it S a g η₀ s₀ η ov { s with heap := h', toks := tk } := C.side C.aie C.ai G.nit hx G.ait (let ⟨o, e⟩ := hi'.live; ⟨o, e, hi'.fz o e⟩) hit.live
      have K : Keeps' X η s.heap η h' := ⟨fun b o e f => hx b o (fun q => by subst q; rw [C.ai.fz o e] at f; cases f) e, List.prefix_refl _⟩
      refine seg_bind_wrap (wpAny_of_eq (rfl : letOwnedTupleGo (.Name x px) (.ref it) cv = pure ()) ?_)
      have hst : TA X n cenv ((x, ov) :: fvL fv) H (.Name x px) v fun m' H' => m' = (x, some v) :: fvL fv ∧ H' = H := by
        refine ta_Name ?_ ⟨rfl, rfl⟩ (by rw [G.hx]; simp)
        exact UpdL.here
      refine seg_bind_wrap (hst cv _ η _ _ _ Ro C1.re C1.ec (Den.keeps K v d) fun _ m1 H1 _ η1 s1 q1 _ r1 e1 a1 => ?_)
      obtain ⟨rfl, rfl⟩ := q1
      have C2 := C1.move G hi'.live a1 r1 e1
      have keep1 : ∀ o, h'.get? it = some o → s1.heap.get? it = some o := fun o q => a1.keep it o q C1.ai.nη C1.ai.nL C1.ai.nC (C1.re.noT C1.ai.old)
      have hi1 := hi'.keep a1.pre keep1
      refine seg_bind_wrap (m := forIn [] true _) (wpAny_pure ?_)
      simp only [if_true]
      have hy : ∀ v, yieldOut cenv v = yieldValue v := fun v => by simp only [yieldOut, G.hco, Bool.false_eq_true, if_false]
      simp only [hy]
      rw [Sem.bind_eq_wrap', Sem.bind_eq_wrap', Sem.wrap_wrap, Sem.wrap_wrap]
      refine seg_wrap (hE v (by rw [hL]; simp) _ η1 s1 _ _ Ro C2.re C2.ec trivial fun y m2 H2 yv η2 s2 q2 d2 r2 e2 a2 => ?_)
      obtain ⟨rfl, rfl, hv⟩ := q2
      have C3 := C2.move G hi1.live a2 r2 e2
      have keep2 : ∀ o, s1.heap.get? it = some o → s2.heap.get? it = some o := fun o q => a2.keep it o q C2.ai.nη C2.ai.nL C2.ai.nC (C2.re.noT C2.ai.old)
      have hi2 := hi1.keep a2.pre keep2
      have hk3 : Kept S s₁ s2 := hk.trans ⟨fun o e => adv_at C2.asd a2 G.sC G.cells C2.re (adv_at C1.asd a1 G.sC G.cells C1.re (hx S o G.sit e)), Nat.le_trans a1.gsz a2.gsz⟩
      refine seg_at (seg_yield rfl rfl rfl ⟨pre, v, l, hL, rfl, hv _ _ _ d2, hk3, ⟨η2, _, _, hrest, hi2, C3⟩, fun s'' hat' => ?_⟩)
      exact seg_again rfl (ih (pre ++ [v]) s'' s'' (by rw [hL]; simp) hat' .refl)
end
end Mine
end
section
open PySem PySem.W PyProof.Rows PySem.Calls
set_option Elab.async false
set_option maxRecDepth 100000
set_option linter.unusedVariables false
namespace Mine
section
variable {X : Cx} {n : Nat} {env cenv : Env} {m : Loc} {H : List Cell} {x : Str} {fv : List (Str × V)} {it S a : Addr} {g : Nat} {η₀ : List Addr} {s₀ : Shared} {η η' : List Addr} {ov ov' : Option V} {s s' : Shared}
  {A : Around} {elt iter : Expr} {px pos : Pos} {scope : Scope} {VAL : V → Value → Prop} {L : List V}

abbrev genStart (elt iter : Expr) (x : Str) (px : Pos) (scope : Scope) (pos : Pos) (it : Addr) (cenv : Env) : Code := .compStart (.GeneratorExp elt [⟨.Name x px, iter, [], 0⟩] scope pos) 0 (.ref it) .none cenv

theorem seg_start (G : GS X env m cenv x fv it S a g s₀)
    (Ro : Room (A.over (genCode elt iter x px scope pos it cenv) []) n)
    (hE : ∀ v ∈ L, TE X n cenv ((x, some v) :: fvL fv) H (eval elt cenv) fun y mi' H' => mi' = (x, some v) :: fvL fv ∧ H' = H ∧ ∀ η h cv, Den X η h y cv → VAL v cv)
    (s₁ s : Shared) (hat : At X H env m cenv x fv it S a g η₀ s₀ L s) (hk : Kept S s₁ s) :
      Seg (model X.prog X.w) A (fun k s₀' r s' => r = .ok .next ∧ GR X H env m S η₀ s₀ k s₀' s') (GY X H env m cenv x fv it S a g η₀ s₀ VAL L) L.length s₁ (genStart elt iter x px scope pos it cenv)
        ((model X.prog X.w).den (genStart elt iter x px scope pos it cenv)) [] s := by
  have loop := seg_gen (elt := elt) (iter := iter) (px := px) (pos := pos) (scope := scope) G Ro hE L [] s₁ s rfl hat hk
  obtain ⟨η, ov, src, hi, hit, C⟩ := hat
  show Seg _ A _ _ _ s₁ _ ((compStart (.GeneratorExp elt [⟨.Name x px, iter, [], 0⟩] scope pos) 0 (.ref it) .none cenv).onRaise (leaving cenv)) [] s
  unfold compStart
  rw [Sem.onRaise_eq_wrap]
  show Seg _ A _ _ _ s₁ _ ((ask >>= _).wrap _ _ _ _) [] s
  refine seg_bind_wrap (wpAny_askSetting ?_)
  split
  · exact seg_again rfl loop
  · first
      | exact seg_bind_wrap (wpAny_rule (seg_bind_wrap (wpAny_standAt (seg_bind_wrap (pyIter_self hit (seg_again rfl loop))))))
      | (refine seg_bind_wrap (wpAny_rule ?_); show Seg _ A _ _ _ s₁ _ ((standAt iter.pos >>= _).wrap _ _ _ _) [] s; exact seg_bind_wrap (wpAny_standAt (seg_bind_wrap (pyIter_self hit (seg_again rfl loop)))))

theorem adv_setGen (ad : Adv X env η₀ s₀ η s) (hg : s₀.gens.size ≤ g) {y : GenState} (hb : y.bare = true) : Adv X env η₀ s₀ η (s.setGen g y) where
  keep := ad.keep
  live := ad.live
  pre := ad.pre
  new := ad.new
  gsz := by simpa [Shared.setGen] using ad.gsz
  gen := fun i z e => by
    have hi : i < s₀.gens.size := by
      rcases Nat.lt_or_ge i s₀.gens.size with h | h
      · exact h
      · rw [Array.getElem?_eq_none h] at e; cases e
    have : g ≠ i := by omega
    simpa [Shared.setGen, this] using ad.gen i z e
  bare := fun i z hi e => by
    by_cases q : g = i
    · subst q
      rcases Nat.lt_or_ge g s.gens.size with h | h
      · have : some y = some z := by rw [← e]; simp [Shared.setGen, h]
        cases this; exact hb
      · rw [Array.getElem?_eq_none (by simpa [Shared.setGen] using h)] at e; cases e
    · exact ad.bare i z hi (by simpa [Shared.setGen, q] using e)
  os := ad.os
theorem Core.setGen (C : Core X H env m cenv x fv it S a g η₀ s₀ η ov s) (hg : s₀.gens.size ≤ g) {y : GenState} (hb : y.bare = true) : Core X H env m cenv x fv it S a g η₀ s₀ η ov (s.setGen g y) :=
  ⟨C.re, C.ec, C.eo, adv_setGen C.ad hg hb, C.ai, C.aie, C.asd, C.aa, C.sl, C.isg, by simpa [Shared.setGen] using C.glt⟩
theorem At.setGen {l : List V} (h : At X H env m cenv x fv it S a g η₀ s₀ l s) (hg : s₀.gens.size ≤ g) {y : GenState} (hb : y.bare = true) : At X H env m cenv x fv it S a g η₀ s₀ l (s.setGen g y) := by
  obtain ⟨η, ov, src, hi, hit, C⟩ := h
  exact ⟨η, ov, src, hi, hit, C.setGen hg hb⟩

/-- a generator with the items l still to come -/
def GInv (X : Cx) (H : List Cell) (env : Env) (m : Loc) (cenv : Env) (x : Str) (fv : List (Str × V)) (it S a : Addr) (g : Nat) (η₀ : List Addr) (s₀ : Shared) (VAL : V → Value → Prop) (L : List V) (A : Around) (l : List V) (s : Shared) : Prop :=
  At X H env m cenv x fv it S a g η₀ s₀ l s ∧ (∃ pre, L = pre ++ l) ∧ ∃ gs, s.gens[g]? = some gs ∧ ∀ s'', At X H env m cenv x fv it S a g η₀ s₀ l s'' →
    gs.Goes (model X.prog X.w) A.in1 (fun k s₀' r s' => r = .ok .next ∧ GR X H env m S η₀ s₀ k s₀' s') (GY X H env m cenv x fv it S a g η₀ s₀ VAL L) l.length (.send .none) s''

theorem kept_setGen {y : GenState} : Kept S s (s.setGen g y) := ⟨fun _ e => e, by simp [Shared.setGen]⟩
theorem kept_setGen' {y z : GenState} {s₁ : Shared} (h : Kept S (s.setGen g y) s₁) : Kept S s (s₁.setGen g z) := ⟨h.1, by have := h.2; simpa [Shared.setGen] using this⟩

theorem gen_item (G : GS X env m cenv x fv it S a g s₀) (Ro : Room A n) {v : V} {l : List V} {Q : Option Value → Shared → Prop} {E : Value → Shared → Prop} (inv : GInv X H env m cenv x fv it S a g η₀ s₀ VAL L A (v :: l) s)
    (k : ∀ cv s', VAL v cv → GInv X H env m cenv x fv it S a g η₀ s₀ VAL L A l s' → Kept S s s' → Q (some cv) s') : wpAny (model X.prog X.w) A (pyNext (.ref a)) Q E s := by
  obtain ⟨hat, ⟨pre, hL⟩, gs, hgs, hgo⟩ := inv
  obtain ⟨η, ov, src, hi, hit, C⟩ := id hat
  refine wpAny_pyNext_genexpQ (n := (v :: l).length) (P := GR X H env m S η₀ s₀) Ro.handled C.re.nolimit (by have := Ro.depth; omega) C.isg hgs (hgo _ (hat.setGen G.gs rfl)) (fun cv s₁ gs' hb hy => ?_) (fun s₁ hp h' hx => ?_)
  · obtain ⟨pre', y, l', hL', hlen, hv, hk, hat', hkap⟩ := hy
    have e := List.append_inj' (hL'.symm.trans hL) (by simp at hlen ⊢; omega)
    obtain ⟨rfl, e2⟩ := e
    injection e2 with e3 e4
    subst e3 e4
    refine k cv _ hv ⟨hat'.setGen G.gs hb, ⟨pre' ++ [y], by rw [hL']; simp⟩, gs', setGen_self (gs := s₁.gens[g]'(by obtain ⟨_, _, _, _, _, C'⟩ := hat'; exact C'.glt)) (Array.getElem?_eq_getElem _), fun s'' h'' => hkap s'' h''⟩ (kept_setGen' hk)
  · have := hp.1
    simp at this
theorem gen_done (G : GS X env m cenv x fv it S a g s₀) (Ro : Room A n) {Q : Option Value → Shared → Prop} {E : Value → Shared → Prop} (inv : GInv X H env m cenv x fv it S a g η₀ s₀ VAL L A [] s)
    (k : ∀ η s', Fin' X H env m S η₀ s₀ η s' → Kept S s s' → Q none s') : wpAny (model X.prog X.w) A (pyNext (.ref a)) Q E s := by
  obtain ⟨hat, ⟨pre, hL⟩, gs, hgs, hgo⟩ := inv
  obtain ⟨η, ov, src, hi, hit, C⟩ := id hat
  refine wpAny_pyNext_genexpQ (n := 0) (P := GR X H env m S η₀ s₀) Ro.handled C.re.nolimit (by have := Ro.depth; omega) C.isg hgs (hgo _ (hat.setGen G.gs rfl)) (fun cv s₁ gs' hb hy => ?_) (fun s₁ hp h' hx => ?_)
  · obtain ⟨pre', y, l', hL', hlen, hv, hk, hat', hkap⟩ := hy
    exact (hkap _ hat').elim
  · obtain ⟨_, hk, η', F⟩ := hp
    refine k η' _ ⟨F.re.ext hx, F.eo.ext hx, (adv_setGen (y := .finished) F.ad G.gs rfl).trans (Adv.ofExt (s := s₁.setGen g .finished) (tk := s₁.toks) hx), ?_, ?_⟩ ?_
    · obtain ⟨o', e⟩ := F.sl
      exact ⟨F.asd.old, F.asd.nη, F.asd.nL, F.asd.nC, fun o q => by rw [hx S o' e] at q; cases q; exact F.asd.fz _ e⟩
    · obtain ⟨o', e⟩ := F.sl
      exact ⟨o', hx S o' e⟩
    · exact ⟨fun o'' e => hx S o'' (hk.1 o'' e), by have := hk.2; simpa [Shared.setGen] using this⟩

/-- the consumer's own object turns -/
theorem GInv.side (G : GS X env m cenv x fv it S a g s₀) {l : List V} {h' : Heap} {tk : Nat} (inv : GInv X H env m cenv x fv it S a g η₀ s₀ VAL L A l s) (haS : a ≠ S) (hx : Heap.ExtBut S s.heap h') (fb : ∃ o, h'.get? S = some o ∧ frozen o = false) :
    GInv X H env m cenv x fv it S a g η₀ s₀ VAL L A l { s with heap := h', toks := tk } := by
  obtain ⟨⟨η, ov, src, hi, hit, C⟩, hp, gs, hgs, hgo⟩ := inv
  have aSC : Aside X cenv η s.heap S := ⟨C.asd.old, C.asd.nη, G.sC, fun q => by
    obtain ⟨p, hp, z⟩ := List.mem_map.mp q
    exact C.asd.nC (List.mem_map.mpr ⟨p, G.cells p hp, z⟩), C.asd.fz⟩
  exact ⟨⟨η, ov, src, hi, hit.keep (List.prefix_refl _) (fun o q => hx it o (Ne.symm G.sit) q), C.side C.asd aSC G.nS hx haS fb hit.live⟩, hp, gs, hgs, hgo⟩

theorem gen_fresh (G : GS X env m cenv x fv it S a g s₀) (Ro : Room (A.in1.over (genCode elt iter x px scope pos it cenv) []) n)
    (hE : ∀ v ∈ L, TE X n cenv ((x, some v) :: fvL fv) H (eval elt cenv) fun y mi' H' => mi' = (x, some v) :: fvL fv ∧ H' = H ∧ ∀ η h cv, Den X η h y cv → VAL v cv)
    (hat : At X H env m cenv x fv it S a g η₀ s₀ L s) (hgs : s.gens[g]? = some (.fresh (genStart elt iter x px scope pos it cenv))) : GInv X H env m cenv x fv it S a g η₀ s₀ VAL L A L s :=
  ⟨hat, ⟨[], rfl⟩, _, hgs, fun s'' hat' => ⟨rfl, seg_start G Ro hE s'' s'' hat' .refl⟩⟩

/-- what is gathered -/
def Got (VAL : V → Value → Prop) : List V → List Value → Prop
  | [], vs => vs = []
  | x :: xs, vs => ∃ v vs', vs = v :: vs' ∧ VAL x v ∧ Got VAL xs vs'
theorem Got.snoc : ∀ {xs : List V} {vs : List Value} {y v}, Got VAL xs vs → VAL y v → Got VAL (xs ++ [y]) (vs ++ [v])
  | [], vs, y, v, h, hv => by unfold Got at h; subst h; exact ⟨v, [], rfl, hv, rfl⟩
  | x :: xs, vs, y, v, h, hv => by
    unfold Got at h
    obtain ⟨u, us, rfl, h1, h2⟩ := h
    exact ⟨u, us ++ [v], rfl, h1, h2.snoc hv⟩
theorem Got.len : ∀ {xs : List V} {vs : List Value}, Got VAL xs vs → vs.length = xs.length
  | [], vs, h => by unfold Got at h; subst h; rfl
  | x :: xs, vs, h => by
    unfold Got at h
    obtain ⟨u, us, rfl, h1, h2⟩ := h
    simp [h2.len]

theorem extend_gen (G : GS X env m cenv x fv it S a g s₀) (haS : a ≠ S) {Ag : Around} (Ro : Room Ag.in1 n) (hsz : L.length ≤ sizeLine) (res : Value) {R : Result → Shared → Prop} : ∀ (l pre : List V) (s : Shared) (acc : List Value) (c : Nat), L = pre ++ l → Got VAL pre acc →
    GInv X H env m cenv x fv it S a g η₀ s₀ VAL L Ag.in1 l s → s.heap.get? S = some { cls := .type "list", dict := none, data := .seq acc.toArray c, slots := #[] } →
    (∀ η s' acc' c', Fin' X H env m S η₀ s₀ η s' → s'.heap.get? S = some { cls := .type "list", dict := none, data := .seq (List.toArray acc') c', slots := #[] } → Got VAL L acc' → R (.ok (.ret res)) s') →
    codeAny (model X.prog X.w) Ag (.builtin "list.extend.loop" ⟨[.ref S, .ref a, res], []⟩) R s := by
  intro l
  induction l with
  | nil =>
    intro pre s acc c hL hg inv hS k
    refine codeAny_builtin F.entry_extend_loop ?_
    rw [Around.under_plainId F.plain_extend_loop _]
    show wpAny _ Ag.in1 (pyNext (.ref a) >>= _) _ _ s
    refine wpAny_bind (gen_done G Ro inv fun η s' F hk => ?_)
    rw [List.append_nil] at hL
    subst hL
    exact wpAny_pure (k η s' acc c F (hk.1 _ hS) hg)
  | cons v l ih =>
    intro pre s acc c hL hg inv hS k
    refine codeAny_builtin F.entry_extend_loop ?_
    rw [Around.under_plainId F.plain_extend_loop _]
    show wpAny _ Ag.in1 (pyNext (.ref a) >>= _) _ _ s
    refine wpAny_bind (gen_item G Ro inv fun cv s' hv inv' hk => ?_)
    have hS' := hk.1 _ hS
    have hlen := hg.len
    have hLl : L.length = pre.length + (l.length + 1) := by rw [hL]; simp
    show wpAny _ Ag.in1 (updateSeq S (·.push cv) >>= _) _ _ _
    refine wpAny_bind ?_
    have hself := Heap.get?_update_self (Obj.mapSeq (·.push cv)) hS' rfl
    refine wpAny_updateSeq hS' rfl (wpAny_pure ⟨plainId_quiet F.plain_extend_loop _, ih (pre ++ [v]) _ (acc ++ [cv]) (c + 1) (by rw [hL]; simp) (hg.snoc hv) (inv'.side (tk := s'.toks) G haS (fun b o hb e => (Heap.get?_update_other _ _ (Ne.symm hb)).trans e) ⟨_, hself, by rw [Obj.mapSeq_push_plain]; rfl⟩) (by rw [hself, Obj.mapSeq_push_plain]; simp) k⟩) (by simp; omega) (by simp; omega)
end
end Mine
end
section
open PySem PySem.W PyProof.Rows PySem.Calls
set_option Elab.async false
set_option maxRecDepth 100000
set_option linter.unusedVariables false
namespace Mine
section
variable {X : Cx} {n : Nat} {env cenv : Env} {m : Loc} {H : List Cell} {x : Str} {fv : List (Str × V)} {it S a : Addr} {g : Nat} {η₀ : List Addr} {s₀ : Shared} {η η' : List Addr} {ov ov' : Option V} {s s' : Shared}
  {A : Around} {elt iter : Expr} {px pos : Pos} {scope : Scope} {VAL : V → Value → Prop} {L : List V}

/-- a generator that has not begun -/
structure Fresh (X : Cx) (H : List Cell) (env : Env) (m : Loc) (cenv : Env) (x : Str) (fv : List (Str × V)) (it a : Addr) (g : Nat) (η₀ : List Addr) (s₀ : Shared) (L : List V) (c : Code) (s : Shared) : Prop where
  gs : GS X env m cenv x fv it a a g s₀
  at' : At X H env m cenv x fv it a a g η₀ s₀ L s
  code : s.gens[g]? = some (.fresh c)

theorem Fresh.withS {c : Code} (F : Fresh X H env m cenv x fv it a g η₀ s₀ L c s) {o : Obj} (f : frozen o = false) (hf : o.isFreed = false) :
    GS X env m cenv x fv it s.heap.objs.size a g s₀ ∧ At X H env m cenv x fv it s.heap.objs.size a g η₀ s₀ L { s with heap := s.heap.push o } ∧ a ≠ s.heap.objs.size := by
  obtain ⟨η, ov, src, hi, hit, C⟩ := F.at'
  have ext : ∀ b o', s.heap.get? b = some o' → (s.heap.push o).get? b = some o' := fun b o' q => Heap.get?_push_of_some _ q
  have ne : ∀ {b : Addr}, (∃ o', s.heap.get? b = some o') → s.heap.objs.size ≠ b := fun {b} ⟨o', e⟩ q => by rw [← q, get_size_none] at e; cases e
  have la : ∃ o', s.heap.get? a = some o' := let ⟨o', _, _, ho, _⟩ := C.isg; ⟨o', ho⟩
  have lc : ∃ o', s.heap.get? cenv.locals = some o' := let ⟨_, ⟨o', _, _, ho, _⟩, _⟩ := C.ec.ns; ⟨o', ho⟩
  have nS : s₀.heap.get? s.heap.objs.size = none := by
    cases q : s₀.heap.get? s.heap.objs.size with
    | none => rfl
    | some o' => obtain ⟨o2, e2⟩ := C.ad.live _ o' q; rw [get_size_none] at e2; cases e2
  have mv : ∀ {env : Env} {b : Addr}, Aside X env η s.heap b → (∃ o', s.heap.get? b = some o') → Aside X env η (s.heap.push o) b := fun {env} {b} y ⟨o', e⟩ => ⟨y.old, y.nη, y.nL, y.nC, fun o2 q => by rw [ext b o' e] at q; cases q; exact y.fz _ e⟩
  refine ⟨{ F.gs with nS := nS, sC := ne lc, sit := ne hit.live }, ⟨η, ov, src, hi, hit.keep (List.prefix_refl _) (fun o' q => ext _ _ q), C.re.ext ext, C.ec.ext ext, C.eo.ext ext, C.ad.trans (Adv.ofExt (tk := s.toks) ext), mv C.ai hit.live, mv C.aie hit.live, aside_push C.re C.eo f hf, mv C.aa la,
    ⟨o, Heap.get?_push_size _ hf⟩, (let ⟨o', nm, qn, ho, r⟩ := C.isg; ⟨o', nm, qn, ext _ _ ho, r⟩), C.glt⟩, Ne.symm (ne la)⟩

theorem At.side (G : GS X env m cenv x fv it S a g s₀) {l : List V} {h' : Heap} {tk : Nat} (inv : At X H env m cenv x fv it S a g η₀ s₀ l s) (haS : a ≠ S) (hx : Heap.ExtBut S s.heap h') (fb : ∃ o, h'.get? S = some o ∧ frozen o = false) :
    At X H env m cenv x fv it S a g η₀ s₀ l { s with heap := h', toks := tk } := by
  obtain ⟨η, ov, src, hi, hit, C⟩ := inv
  have aSC : Aside X cenv η s.heap S := ⟨C.asd.old, C.asd.nη, G.sC, fun q => by
    obtain ⟨p, hp, z⟩ := List.mem_map.mp q
    exact C.asd.nC (List.mem_map.mpr ⟨p, G.cells p hp, z⟩), C.asd.fz⟩
  exact ⟨η, ov, src, hi, hit.keep (List.prefix_refl _) (fun o q => hx it o (Ne.symm G.sit) q), C.side C.asd aSC G.nS hx haS fb hit.live⟩

theorem At.typeIs {l : List V} (h : At X H env m cenv x fv it S a g η₀ s₀ l s) : s.TypeIs (.ref a) "generator" := by
  obtain ⟨η, ov, src, hi, hit, C⟩ := h
  exact C.isg.typeIs

theorem collect_gen (W : Fresh X H env m cenv x fv it a g η₀ s₀ L (genStart elt iter x px scope pos it cenv) s) (Ro : Room (A.in1.in1.over (genCode elt iter x px scope pos it cenv) []) n) (Ro' : Room A.in1 n) (hsz : L.length ≤ sizeLine)
    (hE : ∀ v ∈ L, TE X n cenv ((x, some v) :: fvL fv) H (eval elt cenv) fun y mi' H' => mi' = (x, some v) :: fvL fv ∧ H' = H ∧ ∀ η h cv, Den X η h y cv → VAL v cv) {Q : List Value → Shared → Prop} {E : Value → Shared → Prop}
    (k : ∀ η s' acc, Rel X η H s'.heap → EnvOk X env η m s'.heap → Adv X env η₀ s₀ η s' → Got VAL L acc → Q acc s') : wpAny (model X.prog X.w) A (collect (.ref a)) Q E s := by
  obtain ⟨G, hat, haS⟩ := W.withS (o := { cls := .type "list", data := .seq ([] : List Value).toArray }) rfl rfl
  unfold collect
  refine wpAny_bind (wpAny_runValue (codeAny_builtin F.entry_proto_collect ?_))
  rw [Around.under_plainId F.plain_proto_collect _]
  show wpAny _ A.in1 (newList [] >>= fun l => again (.builtin "list.__iadd__" ⟨[l, .ref a], []⟩)) _ _ s
  refine wpAny_bind (wpAny_newObj_type ?_)
  refine wpAny_pure ⟨plainId_quiet F.plain_list_iadd _, codeAny_builtin F.entry_list_iadd ?_⟩
  rw [Around.under_plainId F.plain_list_iadd _]
  show wpAny _ A.in1 (Builtin.List.listExtendWith (.ref s.heap.objs.size) (.ref a) (.ref s.heap.objs.size)) _ _ _
  unfold Builtin.List.listExtendWith
  refine wpAny_bind (wpAny_typeOf hat.typeIs ?_)
  have h1 : Builtin.List.listSameRef (.ref s.heap.objs.size) (.ref a) = false := by simp [Builtin.List.listSameRef, Ne.symm haS]
  have h2 : (Value.type "generator" == Value.type "list") = false := by decide
  have h3 : (Value.type "generator" == Value.type "tuple") = false := by decide
  simp only [h1, h2, h3, Bool.or_false, Bool.false_eq_true, if_false]
  refine wpAny_bind (wpAny_pyIter_gen (let ⟨_, _, _, _, _, C⟩ := hat; C.isg) ?_)
  refine wpAny_bind (wpAny_holding ?_)
  unfold Builtin.List.listLengthHint
  refine wpAny_bind (wpAny_specialOf hat.typeIs F.gen_no_len ?_)
  show wpAny _ A.in1 (specialOf (Value.ref a) (Str.ofString "__length_hint__") >>= _) _ _ _
  refine wpAny_bind (wpAny_specialOf hat.typeIs F.gen_no_hint ?_)
  refine wpAny_pure ?_
  show wpAny _ A.in1 (rule "list.extend.makes-room" >>= fun _ => Builtin.List.listTouch (.ref s.heap.objs.size) >>= fun _ =>
    again (.builtin "list.extend.loop" ⟨[.ref s.heap.objs.size, .ref a, .ref s.heap.objs.size], []⟩)) _ _ _
  refine wpAny_bind (wpAny_rule ?_)
  have hS₁ : (s.heap.push { cls := .type "list", data := .seq ([] : List Value).toArray }).get? s.heap.objs.size = some { cls := .type "list", data := .seq ([] : List Value).toArray } := Heap.get?_push_size _ rfl
  refine wpAny_bind ?_
  show wpAny _ A.in1 (updateSeq s.heap.objs.size (·.push .none) >>= fun _ => updateSeq s.heap.objs.size (·.pop)) _ _ _
  refine wpAny_bind (wpAny_updateSeq hS₁ rfl ?_)
  have hS₂ := Heap.get?_update_self (Obj.mapSeq (·.push Value.none)) hS₁ rfl
  refine wpAny_updateSeq hS₂ rfl ?_
  have hS₃ := Heap.get?_update_self (Obj.mapSeq (·.pop)) hS₂ rfl
  have oth : ∀ b o, b ≠ s.heap.objs.size → (s.heap.push { cls := .type "list", data := .seq ([] : List Value).toArray }).get? b = some o →
      (((s.heap.push { cls := .type "list", data := .seq ([] : List Value).toArray }).update s.heap.objs.size (Obj.mapSeq (·.push Value.none))).update s.heap.objs.size (Obj.mapSeq (·.pop))).get? b = some o :=
    fun b o hb e => (Heap.get?_update_other _ _ (Ne.symm hb)).trans ((Heap.get?_update_other _ _ (Ne.symm hb)).trans e)
  have hat3 := hat.side (tk := s.toks) G haS oth ⟨_, hS₃, rfl⟩
  have inv := gen_fresh (A := A.in1) (elt := elt) (iter := iter) (px := px) (pos := pos) (scope := scope) G Ro hE hat3 W.code
  refine wpAny_pure ⟨plainId_quiet F.plain_extend_loop _, extend_gen G haS Ro' hsz _ L [] _ [] _ rfl rfl inv hS₃ fun η' s' acc' c' F' hS' hg => ?_⟩
  show wpAny _ A (load s.heap.objs.size >>= _) _ _ s'
  refine wpAny_bind (wpAny_load hS' ?_)
  refine wpAny_pure (k η' s' _ F'.re F'.eo F'.ad (by simpa using hg))
end
end Mine
end
section
open PySem PySem.W PyProof.Rows PySem.Calls
open Builtin Builtin.Str Builtin.Int
set_option Elab.async false
set_option maxRecDepth 100000
set_option linter.unusedVariables false
namespace Mine
section
variable {X : Cx} {n : Nat} {env cenv : Env} {m : Loc} {H : List Cell} {x : PySem.Str} {fv : List (PySem.Str × V)} {it S a : Addr} {g : Nat} {η₀ : List Addr} {s₀ : Shared} {η η' : List Addr} {ov ov' : Option V} {s s' : Shared}
  {A : Around} {elt iter : Expr} {px pos : Pos} {scope : Scope} {VAL : V → Value → Prop} {L : List V}

theorem got_strs {f : V → List Nat} : ∀ {L : List V} {vs : List Value}, Got (fun y cv => ∃ t, cv = .str ⟨(f y).toArray⟩ t) L vs → ∃ l : List (PySem.Str × Tok), strValues l = vs ∧ l.map (·.1) = L.map fun y => (⟨(f y).toArray⟩ : PySem.Str)
  | [], vs, h => by unfold Got at h; subst h; exact ⟨[], rfl, rfl⟩
  | y :: L, vs, h => by
    unfold Got at h
    obtain ⟨v, vs', rfl, ⟨t, rfl⟩, h'⟩ := h
    obtain ⟨l, e1, e2⟩ := got_strs h'
    exact ⟨(⟨(f y).toArray⟩, t) :: l, by rw [← e1]; rfl, by simp [e2]⟩

theorem join_gen {f : V → List Nat} {sep : List Nat} {t : Tok} (W : Fresh X H env m cenv x fv it a g η₀ s₀ L (genStart elt iter x px scope pos it cenv) s) (Ro : Room (A.in1.in1.in1.over (genCode elt iter x px scope pos it cenv) []) n) (Ro' : Room A.in1.in1 n) (hsz : L.length ≤ sizeLine)
    (hE : ∀ v ∈ L, TE X n cenv ((x, some v) :: fvL fv) H (eval elt cenv) fun y mi' H' => mi' = (x, some v) :: fvL fv ∧ H' = H ∧ y = .str (f v)) (hz : (L.map fun y => (f y).length).sum + L.length * sep.length ≤ 16777216) {Q : Value → Shared → Prop} {E : Value → Shared → Prop}
    (k : ∀ η s' t, Rel X η H s'.heap → EnvOk X env η m s'.heap → Adv X env η₀ s₀ η s' → Q (.str ⟨(joinL sep (L.map f)).toArray⟩ t) s') : wpAny (model X.prog X.w) A (call (.builtin "str.join") [.str ⟨sep.toArray⟩ t, .ref a]) Q E s := by
  refine wpAny_call (codeAny_call_builtin F.slot_str_join.plain F.entry_str_join (F.slot_str_join.check _ _ _ _ _ _ _ _ (typeIs_str _ _ _) (F.args_str_join_2 _ _) ?_))
  rw [join_tree_other]
  refine wpAny_bind (wpAny_typeOf W.at'.typeIs ?_)
  show wpAny _ A.in1 ((pyIter (.ref a)).tryCatch _ >>= fun it => collect it >>= fun items => joinTail ⟨sep.toArray⟩ items) _ _ s
  refine wpAny_bind (wpAny_tryCatch (wpAny_pyIter_gen (let ⟨_, _, _, _, _, C⟩ := W.at'; C.isg) ?_))
  refine wpAny_bind (collect_gen (VAL := fun y cv => ∃ t, cv = .str ⟨(f y).toArray⟩ t) W Ro Ro' hsz (fun v hv => ?_) fun η' s' acc r' e' a' hg => ?_)
  · intro A η s C E Ro re e d k
    exact hE v hv A η s C E Ro re e d fun b m' H' av η' s' q d r e a => k b m' H' av η' s' ⟨q.1, q.2.1, fun η h cv dd => by rw [q.2.2] at dd; exact den_str'.mp dd⟩ d r e a
  · obtain ⟨l, rfl, hl⟩ := got_strs hg
    have hok : JoinOk ⟨sep.toArray⟩ (l.map (·.1)) = true := by
      rw [hl]
      refine joinOk_of ?_
      simpa [PySem.Str.length, Function.comp_def] using hz
    have hok' := hok
    unfold JoinOk at hok'
    rw [Bool.not_eq_true'] at hok'
    have g : Gives (joinTail ⟨sep.toArray⟩ (strValues l)) (joinMade ⟨sep.toArray⟩ l) := by
      have g0 := gives_joinTail ⟨sep.toArray⟩ l hok'
      cases l with
      | nil => exact g0
      | cons p r => cases r with
        | nil => exact g0
        | cons q r' => exact g0
    refine g X.prog X.w A (wants Q E) s' (post_join l ⟨joinFit_length hok', fun t' k' => ?_⟩)
    have ej : Txt.join ⟨sep.toArray⟩ (l.map (·.1)) = ⟨(joinL sep (L.map f)).toArray⟩ := by
      rw [hl, ← join_is, List.map_map]; rfl
    rw [ej]
    exact k η' _ t' r' e' (a'.trans (Adv.ofExt fun _ _ q => q))

theorem all_loop {f : V → Bool} (G : GS X env m cenv x fv it a a g s₀) (Ro : Room A.in1 n) {R : Result → Shared → Prop} : ∀ (l : List V) (s : Shared),
    GInv X H env m cenv x fv it a a g η₀ s₀ (fun y cv => cv = .bool (f y)) L A.in1 l s →
    (∀ η s', Rel X η H s'.heap → EnvOk X env η m s'.heap → Adv X env η₀ s₀ η s' → R (.ok (.ret (.bool (l.all f)))) s') →
    codeAny (model X.prog X.w) A (.builtin "all.loop" ⟨[.ref a], []⟩) R s := by
  intro l
  induction l with
  | nil =>
    intro s inv k
    refine codeAny_builtin F.entry_all_loop ?_
    rw [Around.under_plainId F.plain_all_loop _]
    show wpAny _ A.in1 (pyNext (.ref a) >>= _) _ _ s
    refine wpAny_bind (gen_done G Ro inv fun η s' F' hk => ?_)
    exact wpAny_bind (wpAny_rule (wpAny_pure (k η s' F'.re F'.eo F'.ad)))
  | cons v l ih =>
    intro s inv k
    refine codeAny_builtin F.entry_all_loop ?_
    rw [Around.under_plainId F.plain_all_loop _]
    show wpAny _ A.in1 (pyNext (.ref a) >>= _) _ _ s
    refine wpAny_bind (gen_item G Ro inv fun cv s' hv inv' hk => ?_)
    subst hv
    show wpAny _ A.in1 (holding [Value.bool (f v)] (truthy (Value.bool (f v))) >>= _) _ _ s'
    refine wpAny_bind (wpAny_holding (wpAny_pure ?_))
    refine wpAny_bind (wpAny_letGo ?_)
    cases hf : f v with
    | true =>
      rw [if_pos rfl]
      exact wpAny_pure ⟨plainId_quiet F.plain_all_loop _, ih s' inv' fun η s'' r e ad => by have := k η s'' r e ad; simpa [hf] using this⟩
    | false =>
      rw [if_neg (by simp)]
      obtain ⟨⟨η, ov, src, hi, hit, C⟩, _⟩ := inv'
      exact wpAny_bind (wpAny_rule (wpAny_pure (by have := k η s' C.re C.eo C.ad; simpa [hf] using this)))

theorem all_gen {f : V → Bool} (W : Fresh X H env m cenv x fv it a g η₀ s₀ L (genStart elt iter x px scope pos it cenv) s) (Ro : Room (A.in1.in1.over (genCode elt iter x px scope pos it cenv) []) n) (Ro' : Room A.in1 n)
    (hE : ∀ v ∈ L, TE X n cenv ((x, some v) :: fvL fv) H (eval elt cenv) fun y mi' H' => mi' = (x, some v) :: fvL fv ∧ H' = H ∧ y = .bool (f v)) {Q : Value → Shared → Prop} {E : Value → Shared → Prop}
    (k : ∀ η s', Rel X η H s'.heap → EnvOk X env η m s'.heap → Adv X env η₀ s₀ η s' → Q (.bool (L.all f)) s') : wpAny (model X.prog X.w) A (call (.builtin "all") [.ref a]) Q E s := by
  refine call_function_tree F.kind_all F.plain_all F.entry_all (F.args_all1 _) ?_
  unfold Builtin.«all»
  refine wpAny_bind (m := oneArg "all" _) (wpAny_pure ?_)
  refine wpAny_bind (wpAny_pyIter_gen (let ⟨_, _, _, _, _, C⟩ := W.at'; C.isg) ?_)
  have inv := gen_fresh (A := A.in1) (VAL := fun y cv => cv = .bool (f y)) (elt := elt) (iter := iter) (px := px) (pos := pos) (scope := scope) W.gs Ro (fun v hv => by
    intro A η s C E Ro re e d k
    exact hE v hv A η s C E Ro re e d fun b m' H' av η' s' q d r e a => k b m' H' av η' s' ⟨q.1, q.2.1, fun η h cv dd => by rw [q.2.2] at dd; exact den_bool.mp dd⟩ d r e a) W.at' W.code
  exact wpAny_pure ⟨plainId_quiet F.plain_all_loop _, all_loop W.gs Ro' L s inv fun η s' r e ad => k η s' r e ad⟩
end
end Mine
end
section
open PySem PySem.W PyProof.Rows PySem.Calls
set_option Elab.async false
set_option maxRecDepth 100000
set_option linter.unusedVariables false
namespace Mine

structure GenCode (X : Cx) (c P : Addr) : Prop where
  is : ∃ o vs file tf flags tg inF text tt, X.K.lookup c = some o ∧ o.data = .fields vs ∧ vs.getD 11 .none = .ref P ∧ vs.getD 18 .none = .str file tf ∧ vs.getD 7 .none = .int flags tg ∧ vs.getD 9 .none = .bool inF ∧ vs.getD 10 .none = .int text tt
  mem : P ∈ X.T

section
variable {X : Cx} {n : Nat} {env cenv : Env} {m : Loc} {H : List Cell} {η : List Addr} {s : Shared} {A : Around} {C : Value → Shared → Prop} {E : Value → Shared → Prop}

theorem mapFields_table (f : Array Value → Array Value) (vs : Array Value) : Obj.mapFields f (PySem.W.X.tableObj vs) = PySem.W.X.tableObj (f vs) := by rfl

theorem genexprCode_ok {c P : Addr} {pos : Pos} {qualname : Str} {scope : Scope} (GC : GenCode X c P) (hc : env.code = .ref c) (re : Rel X η H s.heap) (e : EnvOk X env η m s.heap)
    (k : ∀ code h' tk, Rel X η H h' → EnvOk X env η m h' → Adv X env η s η { s with heap := h', toks := tk } → Heap.ExtBut P s.heap h' → C code { s with heap := h', toks := tk }) :
    wpAny (model X.prog X.w) A (genexprCode env pos qualname scope) C E s := by
  obtain ⟨o, vs, file, tf, flags, tg, inF, text, tt, hK, hd, h11, h2, h7, h9, h10⟩ := GC.is
  have ho := re.kin _ _ hK
  obtain ⟨ps, more, ⟨h0, htr⟩, hP⟩ := re.tab P GC.mem
  have hne : c ≠ P := fun q => X.kT _ _ hK (q ▸ GC.mem)
  unfold genexprCode codeAt
  rw [hc, if_neg (show ¬ ((Value.ref c == Value.none) = true) from Bool.false_ne_true)]
  refine wpAny_bind (wpAny_fieldsOf ho hd ?_)
  rw [h11]
  refine wpAny_bind (wpAny_fieldsOf hP rfl ?_)
  cases hnf : codeAmong pos (ps ++ more).toList with
  | some cv => exact wpAny_pure (k cv s.heap s.toks re e (.refl ..) (Heap.ExtBut.refl _ _))
  | none =>
    rw [h2, h7, h9, h10]
    refine wpAny_bind (wpAny_newCode fun c' P' h' tk hk hc' hP' hcode' hrec' => ?_)
    have hP2 := hk _ _ hP
    refine wpAny_bind (wpAny_updateFieldsOfTheText hP2 rfl ?_)
    have hget := Heap.get?_update_self (h := h') (fun o => Obj.mapFields (fun vs => if (codeAmong pos vs.toList).isSome = true then vs else
      vs ++ #[rawInt pos.line, rawInt pos.col, .ref c']) o) hP2 rfl
    have hnew : Obj.mapFields (fun vs => if (codeAmong pos vs.toList).isSome = true then vs else vs ++ #[rawInt pos.line, rawInt pos.col, .ref c']) (PySem.W.X.tableObj (ps ++ more)) = PySem.W.X.tableObj (ps ++ more ++ #[rawInt pos.line, rawInt pos.col, .ref c']) := by
      rw [mapFields_table, hnf]; rfl
    rw [hnew] at hget
    refine wpAny_bind (wpAny_fieldsOf hget rfl ?_)
    have hl : (ps ++ more ++ #[rawInt pos.line, rawInt pos.col, Value.ref c']).toList = (ps ++ more).toList ++ [rawInt pos.line, rawInt pos.col, .ref c'] := by simp
    rw [hl, codeAmong_snoc _ htr hnf]
    generalize hh2 : h'.update P (fun o => Obj.mapFields (fun vs => if (codeAmong pos vs.toList).isSome = true then vs else vs ++ #[rawInt pos.line, rawInt pos.col, .ref c']) o) = h2 at hget
    have ext : ∀ b o, b ≠ P → s.heap.get? b = some o → h2.get? b = some o := fun b o hb q => by
      rw [← hh2]; exact (Heap.get?_update_other _ _ (Ne.symm hb)).trans (hk _ _ q)
    have nP : ∀ {b : Addr}, X.h₀.get? b = none → b ≠ P := fun q w => by rw [w, h0] at q; cases q
    have K : Keeps' X η s.heap η h2 := ⟨fun b o q f => ext b o (fun w => by subst w; rw [hP] at q; cases q; cases f) q, List.prefix_refl _⟩
    have htr2 : TriplesOk (ps ++ (more ++ #[rawInt pos.line, rawInt pos.col, Value.ref c'])).toList := by
      rw [← Array.append_assoc, hl]; exact TriplesOk_snoc _ _ _ _ htr
    have r2 : Rel X η H h2 := {
      low := fun b o q nt => ext b o (fun w => nt (w ▸ GC.mem)) (re.low b o q nt)
      tab := fun b hb => by
        by_cases w : b = P
        · subst w
          exact ⟨ps, more ++ #[rawInt pos.line, rawInt pos.col, Value.ref c'], ⟨h0, htr2⟩, by rw [hget, Array.append_assoc]⟩
        · obtain ⟨ps', more', e1, e2⟩ := re.tab b hb
          exact ⟨ps', more', e1, ext b _ w e2⟩
      len := re.len
      nd := re.nd
      hi := re.hi
      cells := fun i c q => by
        obtain ⟨a, o, e1, e2, e3⟩ := re.cells i c q
        exact ⟨a, o, e1, ext a o (nP (re.hi a (List.mem_of_getElem? e1))) e2, e3.keeps K⟩ }
    have e2 : EnvOk X env η m h2 := e.move K (fun o q => ext _ o (nP e.hiL) q) (fun p hp o q => ext _ o (nP (e.hiC p hp).1) q) fun _ h => .inl h
    have ad : Adv X env η s η { s with heap := h2, toks := tk } := {
      keep := fun b o q _ _ _ nt => ext b o (fun w => nt (w ▸ GC.mem)) q
      live := fun b o q => by
        by_cases w : b = P
        · exact ⟨_, w ▸ hget⟩
        · exact ⟨o, ext b o w q⟩
      pre := List.prefix_refl _
      new := fun _ h => .inl h
      gsz := Nat.le_refl _
      gen := fun _ _ q => q
      bare := fun i y hi q => by rw [show ({ s with heap := h2, toks := tk } : Shared).gens = s.gens from rfl, Array.getElem?_eq_none hi] at q; cases q
      os := rfl }
    exact wpAny_pure (k _ h2 tk r2 e2 ad fun b o hb q => ext b o hb q)
end
end Mine
end
section
open PySem PySem.W PyProof.Rows PySem.Calls
set_option Elab.async false
set_option maxRecDepth 100000
set_option linter.unusedVariables false
namespace Mine

structure BuiltinsOk (X : Cx) : Prop where
  is : ∃ bm o, X.mg "__builtins__" = some (.ref bm) ∧ bm ≠ builtinsNs ∧ bm ∉ X.T ∧ X.h₀.get? bm = some o ∧ o.cls = .type "module" ∧ o.dict = some builtinsNs ∧ o.data = .plain

section
variable {X : Cx} {n : Nat} {env cenv : Env} {m : Loc} {H : List Cell} {η η₀ : List Addr} {s s₀ : Shared} {A : Around} {C : Value → Shared → Prop} {E : Value → Shared → Prop}

theorem adv_newGen (ad : Adv X env η₀ s₀ η s) {y : GenState} (hb : y.bare = true) : Adv X env η₀ s₀ η { s with gens := s.gens.push y } where
  keep := ad.keep
  live := ad.live
  pre := ad.pre
  new := ad.new
  gsz := by simpa using Nat.le_succ_of_le ad.gsz
  gen := fun i z e => by
    have := ad.gen i z e
    rw [show ({ s with gens := s.gens.push y } : Shared).gens = s.gens.push y from rfl, Array.getElem?_push]
    have hi : i < s.gens.size := (Array.getElem?_eq_some_iff.mp this).1
    rw [if_neg (by omega)]; exact this
  bare := fun i z hi e => by
    rw [show ({ s with gens := s.gens.push y } : Shared).gens = s.gens.push y from rfl, Array.getElem?_push] at e
    split at e
    · cases e; exact hb
    · exact ad.bare i z hi e
  os := ad.os

theorem frees_sh {scope : Scope} {fv : List (Str × V)} {cl : List (Str × Addr)} {kk : Str → Option NameKind} {h : Heap} (e : EnvOk X env η m h) (F : Frees env m scope kk fv) (h1 : ∀ p ∈ cl, env.cells.lookup p.1 = some p.2 ∧ (p.1, NameKind.free) ∈ scope.names) :
    ∀ y v c, (y, some v) ∈ m → env.kindOf y ≠ some .local → env.cells.lookup y = some c → c ∈ cl.map (·.2) → (y, v) ∈ fv ∧ kk y ≠ some .local ∧ cl.lookup y = some c := by
  intro y v c hy hk hl hin
  obtain ⟨p, hp, z⟩ := List.mem_map.mp hin
  have hp' := h1 p hp
  have hpy : p.1 = y := e.ndC p (EnvOk.move.mem_of_lookup hp'.1) (y, c) (EnvOk.move.mem_of_lookup hl) z
  obtain ⟨v', hv'⟩ := F.all p.1 hp'.2
  have hm := F.mem _ hv'
  have hvv : v' = v := by
    have key : ∀ (l : Loc), (l.map (·.1)).Nodup → (y, some v) ∈ l → (y, some v') ∈ l → v' = v := by
      intro l
      induction l with
      | nil => intro _ h _; cases h
      | cons q l ih =>
        intro nd h h'
        rw [List.map_cons, List.nodup_cons] at nd
        rcases List.mem_cons.mp h with w | w <;> rcases List.mem_cons.mp h' with w' | w'
        · rw [← w] at w'; cases w'; rfl
        · rw [← w] at nd; exact absurd (List.mem_map.mpr ⟨_, w', rfl⟩) nd.1
        · rw [← w'] at nd; exact absurd (List.mem_map.mpr ⟨_, w, rfl⟩) nd.1
        · exact ih nd.2 w w'
    exact key m e.ndm hy (hpy ▸ hm.1)
  subst hvv
  rw [hpy] at hv' hm
  refine ⟨hv', fun w => ?_, lookup_unique (by rw [← hpy, ← z]; exact hp) fun q hq w => ?_⟩
  · rcases hm.2.2.2.1 with u | u <;> (rw [w] at u; cases u)
  · have := (h1 q hq).1; rw [w, hl] at this; cases this; rfl

theorem gen_make {elt iter : Expr} {x : Str} {px pos : Pos} {scope : Scope} {L : List V} {c P : Addr} (fv : List (Str × V)) (F : Frees env m scope (fun y => scope.names.lookup y) fv) (GC : GenCode X c P) (hc : env.code = .ref c) (hB : BuiltinsOk X)
    (hsc : scope.kind = .function) (hcell : ∀ y ∈ scope.names, y.2 ≠ .cell) (h00 : scope.names.lookup (".0" : Str) = some .local) (hx : scope.names.lookup x = some .local ∧ x ≠ "__debug__" ∧ x ≠ "__classdict__") (hco : scope.isCoroutine = false)
    (Ro : Room A n) (re : Rel X η H s.heap) (e : EnvOk X env η m s.heap)
    (h : TE X n env m H (eval iter env) fun v m1 H1 => m1 = m ∧ H1 = H ∧ ∃ src, iterOf H v = some src ∧ (∀ i, v = .loc i → ∃ xs, H[i]? = some (.list xs)) ∧ (∀ k, v = .rng k → 0 ≤ k ∧ k ≤ 2 ^ 62) ∧ Items H src L)
    (k : ∀ a g it cl C' code s', Fresh X H env m (genEnv scope cl C' code builtinsNs env) x fv it a g η s L (genStart elt iter x px scope pos it (genEnv scope cl C' code builtinsNs env)) s' → C (.ref a) s')
    (hs : ∀ x, genFold iter env x = pure x := by intro _; rfl) : wpAny (model X.prog X.w) A (eval (.GeneratorExp elt [⟨.Name x px, iter, [], 0⟩] scope pos) env) C E s := by
  have hfre : ∀ y, (y, NameKind.free) ∈ scope.names → ∃ c, env.cells.lookup y = some c := fun y hy => by
    obtain ⟨v, hv⟩ := F.all y hy
    obtain ⟨a1, a2, _⟩ := F.mem _ hv
    rcases (e.kinds _ _ a1).2.2 with w | ⟨_, w⟩
    · exact absurd w a2
    · exact w
  obtain ⟨cl, hcl, h1, h2⟩ := closureFor_ok hfre
  refine wpAny_GeneratorExp_make hco hcl hcell h00 hsc (by have := Ro.depth; omega) ?_ hs
  refine h A η s _ E Ro re e trivial fun v m1 H1 cv η1 s1 q1 d1 r1 e1 a1 => ?_
  obtain ⟨rfl, rfl, src, hi, hl, hn, hit0⟩ := q1
  refine pyIter_ok Ro r1 e1 d1 hi hl hn fun it hp2 hit ha r2 e2 a2 h0 => ⟨r2.nolimit, ?_⟩
  refine genexprCode_ok (s := { s1 with heap := hp2 }) GC hc r2 e2 fun code h3 tk3 r3 e3 a3 hx3 => ?_
  obtain ⟨bm, ob, b1, b2, b3, b4, b5, b6, b7⟩ := hB.is
  rw [show builtinsFor env.globals env.builtins = builtinsFor mainGlobals builtinsNs by rw [e.glob, e.blt]]
  refine wpAny_builtinsFor (r3.g) b1 b2 (r3.low _ _ b4 b3) b5 b6 b7 ?_
  intro h4 hns4 hsb4
  have ext4 : ∀ b o, h3.get? b = some o → h4.get? b = some o := fun b o ho => hsb4.extBut b o (fun q => by rw [show b = h3.objs.size from q, get_size_none] at ho; cases ho) (Heap.get?_push_of_some _ ho)
  have hit2P : ∀ {b : Addr}, X.h₀.get? b = none → b ≠ P := fun q w => by
    obtain ⟨_, _, ⟨z, _⟩, _⟩ := re.tab P GC.mem
    rw [w, z] at q; cases q
  have hit3 : ItAt η1 h3 it src := hit.keep (List.prefix_refl _) fun o q => hx3 it o (hit2P ha.old) q
  have ha3 : Aside X env η1 h3 it := ha.adv (s := { s1 with heap := hp2 }) a3 r2 hit.live
  have dead : ∀ {b : Addr}, h3.get? b = none → s.heap.get? b = none := fun {b} q => by
    cases z : s.heap.get? b with
    | none => rfl
    | some o =>
      obtain ⟨o1, w1⟩ := a1.live _ o z
      obtain ⟨o2, w2⟩ := a2.live _ o1 w1
      obtain ⟨o3, w3⟩ := a3.live _ o2 w2
      rw [show ({ s1 with heap := h3, toks := tk3 } : Shared).heap = h3 from rfl, q] at w3; cases w3
  have none3 : ∀ {b : Addr}, h4.get? b = none → h3.get? b = none := fun {b} q => by
    cases z : h3.get? b with
    | none => rfl
    | some o => rw [ext4 _ _ z] at q; cases q
  have f3 := r3.fresh
  have r4 := r3.ext ext4
  have f4 := r4.fresh
  have hne : env.locals ≠ h3.objs.size := fun q => by
    obtain ⟨mc, ⟨o, _, _, ho, _⟩, _⟩ := e3.ns
    rw [q, get_size_none] at ho; cases ho
  have hCc : h3.objs.size ∉ env.cells.map (·.2) := fun q => by
    obtain ⟨p, hp, z⟩ := List.mem_map.mp q
    obtain ⟨ov, o, ho, _⟩ := e3.cellEx p hp
    rw [z, get_size_none] at ho; cases ho
  have hC4 : ∃ o, h4.get? h3.objs.size = some o := let ⟨o, _, _, ho, _⟩ := hns4; ⟨o, ho⟩
  have aC : h4.objs.size ≠ h3.objs.size := fun q => by obtain ⟨o, ho⟩ := hC4; rw [← q, get_size_none] at ho; cases ho
  have hit4 : ItAt η1 h4 it src := hit3.keep (List.prefix_refl _) fun o q => ext4 _ _ q
  have ait : h4.objs.size ≠ it := fun q => by obtain ⟨o, ho⟩ := hit4.live; rw [← q, get_size_none] at ho; cases ho
  have I : Inner env (genEnv scope cl h3.objs.size code builtinsNs env) m1 ([x].map (fun x => (x, (none : Option V))) ++ fvL fv) :=
    inner_of (cenv := genEnv scope cl h3.objs.size code builtinsNs env) e F hsc rfl (by rw [e.blt]; rfl) rfl h1 h2 (fun y hy => by rcases List.mem_cons.mp hy with w | w; (subst w; exact hx); cases w) (by simp)
  have e4 : EnvOk X env η1 m1 h4 := e3.ext ext4
  have ec4 : EnvOk X (genEnv scope cl h3.objs.size code builtinsNs env) η1 ((x, none) :: fvL fv) h4 := e3.inner I ext4 hns4 f3.1 f3.2 (get_size_none _)
  have live3 := hit3.live
  have fz4 : ∀ o, h4.get? it = some o → frozen o = false := hit4.fz
  have ai4 : Aside X (genEnv scope cl h3.objs.size code builtinsNs env) η1 h4 it := ⟨ha3.old, ha3.nη, (fun q => by
    obtain ⟨o, ho⟩ := live3
    rw [show it = h3.objs.size from q, get_size_none] at ho; cases ho), (fun q => by
    obtain ⟨p, hp, z⟩ := List.mem_map.mp q
    exact ha3.nC (z ▸ List.mem_map.mpr ⟨p, I.cells p hp, rfl⟩)), fz4⟩
  have aie4 : Aside X env η1 h4 it := ⟨ha3.old, ha3.nη, ha3.nL, ha3.nC, fz4⟩
  refine k h4.objs.size s1.gens.size it cl h3.objs.size code _ ⟨{
    hx := hx.1, hk := hsc, hco := hco, cells := fun p hp => EnvOk.move.mem_of_lookup (h1 p hp).1, hne := hne, hCc := hCc
    sh := frees_sh e F h1
    nC := dead (get_size_none _)
    nit := ?_
    nS := dead (none3 (get_size_none _))
    sC := aC, aC := aC, sit := ait, ait := ait, gs := a1.gsz }, ⟨η1, none, src, hit0, ?_, ?_⟩, ?_⟩
  · cases z : s.heap.get? it with
    | none => rfl
    | some o => obtain ⟨o', w⟩ := a1.live it o z; rw [h0] at w; cases w
  · exact hit4.keep (List.prefix_refl _) fun o q => Heap.get?_push_of_some _ q
  · have ext5 : ∀ (o' : Obj) b o, h4.get? b = some o → (h4.push o').get? b = some o := fun o' b o q => Heap.get?_push_of_some _ q
    have lit4 := hit4.live
    have mv : ∀ {env : Env} {o' : Obj}, Aside X env η1 h4 it → Aside X env η1 (h4.push o') it := fun {env} {o'} y => ⟨y.old, y.nη, y.nL, y.nC, fun o2 q => by
      obtain ⟨o, e⟩ := lit4
      rw [ext5 o' it o e] at q; cases q; exact y.fz _ e⟩
    exact {
      re := r4.ext (ext5 _)
      ec := ec4.ext (ext5 _)
      eo := e4.ext (ext5 _)
      ad := adv_newGen (s := { s1 with heap := h4.push _, toks := _ }) ((a1.trans a2).trans (a3.trans (Adv.ofExt (s := { s1 with heap := h3, toks := tk3 }) (fun b o q => ext5 _ b o (ext4 b o q))))) rfl
      ai := mv ai4
      aie := mv aie4
      asd := aside_push (s := { s1 with heap := h4 }) r4 e4 rfl rfl
      aa := aside_push (s := { s1 with heap := h4 }) r4 e4 rfl rfl
      sl := ⟨_, Heap.get?_push_size _ rfl⟩
      isg := ⟨_, _, _, Heap.get?_push_size _ rfl, rfl, rfl, rfl⟩
      glt := by show s1.gens.size < (s1.gens.push _).size; simp }
  · show (s1.gens.push _)[s1.gens.size]? = _
    exact Array.getElem?_push_size ..
end
end Mine
end
section
open PySem PySem.W PyProof.Rows PySem.Calls
set_option Elab.async false
set_option maxRecDepth 100000
set_option linter.unusedVariables false
namespace Mine
section
variable {X : Cx} {n : Nat} {env cenv : Env} {m : Loc} {H : List Cell}

abbrev TCW (X : Cx) (n : Nat) (env : Env) (m : Loc) (H : List Cell) (pos : Pos) (f : Value) (fs : List V) (args : List Expr) (Q : V → Loc → List Cell → Prop) : Prop :=
  ∀ first, TriP X n env (fun η h v cv => Den X η h v cv) (fun η h => DenL X η h fs first) m H (callWith pos f first (backTo pos (starEach args env)) []) Q

theorem tri_CallM2 {o : Expr} {name : Str} {apos pos : Pos} {args : List Expr} {Q : V → Loc → List Cell → Prop} (h : TE X n env m H (eval o env) fun v m H => TM X n env m H name v fun f fs => TCW X n env m H pos f fs args Q)
    (hbase : attributeBase o name env (eval o env) = eval o env := by rfl) (hform : methodCallForm (args.length + 0) (backTo pos (starEach args env)) [] = true := by rfl) (hline : (apos.endLine == pos.line) = true := by rfl) :
    TE X n env m H (eval (.Call (.Attribute o name apos) args [] pos) env) Q := by
  intro A η s C E Ro re e _ k
  rw [arm_eval_Call, hbase]
  refine wpAny_bind (h A η s _ E Ro re e trivial fun v m1 H1 a η1 s1 q1 d1 r1 e1 a1 => ?_)
  refine wpAny_bind (wpAny_standAt ?_)
  show wpAny _ A (methodCall o name apos pos env a (args.length + 0) (backTo pos (starEach args env)) []) C E s1
  have hpos : methodCallPos true o env apos pos = pure pos := by unfold methodCallPos; simp [hline]
  unfold methodCall
  rw [hform]
  refine wpAny_bind (wpAny_holding ?_)
  show wpAny _ A (getMethod a name _) _ E s1
  refine q1 A η1 s1 _ _ E a Ro r1 e1 d1 fun f fs first tk hq dl => ?_
  refine wpAny_bind (wpAny_of_eq hpos ?_)
  exact hq first A η1 { s1 with toks := tk } C E Ro r1 e1 dl fun v m' H' c η' s' q d r' e' a' => k v m' H' c η' s' q d r' e' ((a1.trans (Adv.ofExt fun _ _ x => x)).trans a')
theorem tri_CallN2 {x : Str} {p pos : Pos} {f : Value} {args : List Expr} {Q : V → Loc → List Cell → Prop} (hx : env.kindOf x = some .globalImplicit) (hv : X.mg x = some f ∨ (X.mg x = none ∧ X.mb x = some f))
    (h : TCW X n env m H pos f [] args Q) (hd : (x == ("__debug__" : Str)) = false := by decide) :
    TE X n env m H (eval (.Call (.Name x p) args [] pos) env) Q := by
  intro A η s C E Ro re e _ k
  have ar : eval (.Call (.Name x p) args [] pos) env = (do callWith pos (← eval (.Name x p) env) [] (backTo pos (starEach args env)) []) := rfl
  rw [ar]
  refine wpAny_bind (loadGlob re e hx hv hd ?_)
  exact h [] A η s C E Ro re e (by unfold DenL; rfl) k

theorem room_gen {A : Around} {elt iter : Expr} {x : Str} {px pos : Pos} {scope : Scope} {it : Addr} (Ro : Room A (n + 1)) : Room (A.in1.in1.in1.over (genCode elt iter x px scope pos it cenv) []) n := by
  refine ⟨Ro.handled, ?_, ?_⟩
  · have := Ro.depth
    show A.depth + 0 + 1 + n < recursionLimit
    omega
  · have := Ro.units
    show A.units + 1 + 1 + 1 + 0 + 3 + 8 * n + 16 < cLine
    omega
theorem room_gen2 {A : Around} {elt iter : Expr} {x : Str} {px pos : Pos} {scope : Scope} {it : Addr} (Ro : Room A (n + 1)) : Room (A.in1.in1.over (genCode elt iter x px scope pos it cenv) []) n := by
  refine ⟨Ro.handled, ?_, ?_⟩
  · have := Ro.depth
    show A.depth + 0 + 1 + n < recursionLimit
    omega
  · have := Ro.units
    show A.units + 1 + 1 + 0 + 3 + 8 * n + 16 < cLine
    omega

/-- what a generator expression asks for -/
structure GenAsk (X : Cx) (n : Nat) (env : Env) (m : Loc) (H : List Cell) (elt iter : Expr) (x : Str) (scope : Scope) (fv : List (Str × V)) (L : List V) : Prop where
  F : Frees env m scope (fun y => scope.names.lookup y) fv
  code : ∃ c P, GenCode X c P ∧ env.code = .ref c
  hB : BuiltinsOk X
  hsc : scope.kind = .function
  hcell : ∀ y ∈ scope.names, y.2 ≠ .cell
  h00 : scope.names.lookup (".0" : Str) = some .local
  hx : scope.names.lookup x = some .local ∧ x ≠ "__debug__" ∧ x ≠ "__classdict__"
  hco : scope.isCoroutine = false
  hs : ∀ x, genFold iter env x = pure x
  it : TE X (n + 1) env m H (eval iter env) fun v m1 H1 => m1 = m ∧ H1 = H ∧ ∃ src, iterOf H v = some src ∧ (∀ i, v = .loc i → ∃ xs, H[i]? = some (.list xs)) ∧ (∀ k, v = .rng k → 0 ≤ k ∧ k ≤ 2 ^ 62) ∧ Items H src L

theorem tc_join {elt iter : Expr} {x : Str} {px pos gpos : Pos} {scope : Scope} {fv : List (Str × V)} {L : List V} {f : V → List Nat} {sep : List Nat} {Q : V → Loc → List Cell → Prop} (G : GenAsk X n env m H elt iter x scope fv L) (hsz : L.length ≤ sizeLine)
    (hE : ∀ cl C code, ∀ v ∈ L, TE X n (genEnv scope cl C code builtinsNs env) ((x, some v) :: fvL fv) H (eval elt (genEnv scope cl C code builtinsNs env)) fun y mi' H' => mi' = (x, some v) :: fvL fv ∧ H' = H ∧ y = .str (f v))
    (hz : (L.map fun y => (f y).length).sum + L.length * sep.length ≤ 16777216) (q : Q (.str (joinL sep (L.map f))) m H) : TCW X (n + 1) env m H pos (.builtin "str.join") [.str sep] [.GeneratorExp elt [⟨.Name x px, iter, [], 0⟩] scope gpos] Q := by
  intro first A η s C E Ro re e d k
  obtain ⟨b0, rfl, d0⟩ := denL_one.mp d
  obtain ⟨t, rfl⟩ := den_str'.mp d0
  obtain ⟨c, P, GC, hc⟩ := G.code
  refine callWith_of (P := fun h => X.K.In h) (by rfl) (kn_builtin _) (evalArgs_any (by rfl) ?_)
  have hs : backTo pos (starEach [.GeneratorExp elt [⟨.Name x px, iter, [], 0⟩] scope gpos] env) = [(false, eval (.GeneratorExp elt [⟨.Name x px, iter, [], 0⟩] scope gpos) env)] := by rfl
  rw [hs]
  refine spliced_cons (gen_make fv G.F GC hc G.hB G.hsc G.hcell G.h00 G.hx G.hco Ro re e G.it (fun a g it cl C' code s' W => ?_) G.hs)
  refine wpAny_pure ⟨(let ⟨_, _, _, _, _, Co⟩ := W.at'; Co.re.kin), ?_⟩
  exact join_gen W (room_gen Ro) ⟨Ro.handled, by have := Ro.depth; show A.depth + n < recursionLimit; omega, by have := Ro.units; show A.units + 1 + 1 + 8 * n + 16 < cLine; omega⟩ hsz (hE cl C' code) hz fun η' s'' t r' e' a' => k _ m H _ η' s'' q (den_str _ _) r' e' a'

theorem tc_all {elt iter : Expr} {x : Str} {px pos gpos : Pos} {scope : Scope} {fv : List (Str × V)} {L : List V} {f : V → Bool} {Q : V → Loc → List Cell → Prop} (G : GenAsk X n env m H elt iter x scope fv L)
    (hE : ∀ cl C code, ∀ v ∈ L, TE X n (genEnv scope cl C code builtinsNs env) ((x, some v) :: fvL fv) H (eval elt (genEnv scope cl C code builtinsNs env)) fun y mi' H' => mi' = (x, some v) :: fvL fv ∧ H' = H ∧ y = .bool (f v))
    (q : Q (.bool (L.all f)) m H) : TCW X (n + 1) env m H pos (.builtin "all") [] [.GeneratorExp elt [⟨.Name x px, iter, [], 0⟩] scope gpos] Q := by
  intro first A η s C E Ro re e d k
  unfold DenL at d
  subst d
  obtain ⟨c, P, GC, hc⟩ := G.code
  refine callWith_of (P := fun h => X.K.In h) (by rfl) (kn_builtin _) (evalArgs_any (by rfl) ?_)
  have hs : backTo pos (starEach [.GeneratorExp elt [⟨.Name x px, iter, [], 0⟩] scope gpos] env) = [(false, eval (.GeneratorExp elt [⟨.Name x px, iter, [], 0⟩] scope gpos) env)] := by rfl
  rw [hs]
  refine spliced_cons (gen_make fv G.F GC hc G.hB G.hsc G.hcell G.h00 G.hx G.hco Ro re e G.it (fun a g it cl C' code s' W => ?_) G.hs)
  refine wpAny_pure ⟨(let ⟨_, _, _, _, _, Co⟩ := W.at'; Co.re.kin), ?_⟩
  exact all_gen W (room_gen2 Ro) ⟨Ro.handled, by have := Ro.depth; show A.depth + n < recursionLimit; omega, by have := Ro.units; show A.units + 1 + 8 * n + 16 < cLine; omega⟩ (hE cl C' code) fun η' s'' r' e' a' => k _ m H _ η' s'' q (den_bool.mpr rfl) r' e' a'
end
end Mine
end
section
open PySem PySem.W PyProof.Rows PySem.Calls
set_option Elab.async false
set_option maxRecDepth 100000
set_option linter.unusedVariables false
namespace Mine
section
variable {X : Cx} {n : Nat} {env cenv : Env} {m m1 m2 m3 : Loc} {H : List Cell} {N B K : Loc → List Cell → Prop} {R : V → Loc → List Cell → Prop}

theorem ext_of_but {h h' : Heap} (x : Heap.ExtBut h.objs.size h h') : ∀ b o, h.get? b = some o → h'.get? b = some o := fun b o e => x b o (fun q => by rw [q, get_size_none] at e; cases e) e

theorem den_tup2 {η h u v cv} (d : Den X η h (.tup [u, v]) cv) : ∃ a c1 c2, cv = .ref a ∧ h.IsTuple a #[c1, c2] ∧ Den X η h u c1 ∧ Den X η h v c2 := by
  obtain ⟨a, vs, k, rfl, ho, _, dl⟩ := den_tup.mp d
  obtain ⟨c1, c2, rfl, d1, d2⟩ := denL_two.mp dl
  exact ⟨a, c1, c2, rfl, ⟨_, ho, rfl, k, rfl⟩, d1, d2⟩
theorem den_tup3 {η h u v w cv} (d : Den X η h (.tup [u, v, w]) cv) : ∃ a c1 c2 c3, cv = .ref a ∧ h.IsTuple a #[c1, c2, c3] ∧ Den X η h u c1 ∧ Den X η h v c2 ∧ Den X η h w c3 := by
  obtain ⟨a, vs, k, rfl, ho, _, dl⟩ := den_tup.mp d
  unfold DenL at dl
  obtain ⟨c1, r, rfl, d1, dl⟩ := dl
  obtain ⟨c2, c3, rfl, d2, d3⟩ := denL_two.mp dl
  exact ⟨a, c1, c2, c3, rfl, ⟨_, ho, rfl, k, rfl⟩, d1, d2, d3⟩

theorem ta_Tuple2 {x y px py kk tpos u v} (h1 : UpdL m x u m1) (h2 : UpdL m1 y v m2) (q : N m2 H) (f1 : env.kindOf x ≠ some .free := by with_unfolding_all decide) (f2 : env.kindOf y ≠ some .free := by with_unfolding_all decide) :
    TA X n env m H (.Tuple [.Name x px, .Name y py] kk tpos) (.tup [u, v]) N := by
  intro cv A η s C E Ro re e d k
  obtain ⟨a, c1, c2, rfl, ht, d1, d2⟩ := den_tup2 d
  refine wpAny_assign_Tuple Ro.handled ht rfl (by rfl) fun h' hx => ?_
  have ext := ext_of_but hx
  have K : Keeps' X η s.heap η h' := .ofExt ext
  refine wpAny_assignInOrder_more (wpAny_assign_Name (tri_store (Q := fun m H' => m = m1 ∧ H' = H) h1 ⟨rfl, rfl⟩ f1 A η { s with heap := h' } _ E Ro (re.ext ext) (e.ext ext) (Den.keeps K _ d1) fun _ m' H' _ η1 s1 q1 _ r1 e1 a1 => ?_))
  obtain ⟨rfl, rfl⟩ := q1
  refine wpAny_assignInOrder_more (wpAny_assign_Name (tri_store (Q := N) h2 q f2 A η1 s1 _ E Ro r1 e1 (a1.den (re.ext ext) (e.ext ext) (Den.keeps K _ d2)) fun _ m' H' _ η2 s2 q2 _ r2 e2 a2 => ?_))
  exact wpAny_assignInOrder_none (k () m' H' () η2 s2 q2 trivial r2 e2 ((Adv.ofExt (tk := s.toks) ext).trans (a1.trans a2)))

theorem ta_Tuple3 {x y z px py pz kk tpos u v w} (h1 : UpdL m x u m1) (h2 : UpdL m1 y v m2) (h3 : UpdL m2 z w m3) (q : N m3 H) (f1 : env.kindOf x ≠ some .free := by with_unfolding_all decide) (f2 : env.kindOf y ≠ some .free := by with_unfolding_all decide)
    (f3 : env.kindOf z ≠ some .free := by with_unfolding_all decide) : TA X n env m H (.Tuple [.Name x px, .Name y py, .Name z pz] kk tpos) (.tup [u, v, w]) N := by
  intro cv A η s C E Ro re e d k
  obtain ⟨a, c1, c2, c3, rfl, ht, d1, d2, d3⟩ := den_tup3 d
  refine wpAny_assign_Tuple Ro.handled ht rfl (by rfl) fun h' hx => ?_
  have ext := ext_of_but hx
  have K : Keeps' X η s.heap η h' := .ofExt ext
  refine wpAny_assignInOrder_more (wpAny_assign_Name (tri_store (Q := fun m H' => m = m1 ∧ H' = H) h1 ⟨rfl, rfl⟩ f1 A η { s with heap := h' } _ E Ro (re.ext ext) (e.ext ext) (Den.keeps K _ d1) fun _ m' Ha _ η1 s1 q1 _ r1 e1 a1 => ?_))
  obtain ⟨rfl, rfl⟩ := q1
  refine wpAny_assignInOrder_more (wpAny_assign_Name (tri_store (Q := fun m Hx => m = m2 ∧ Hx = Ha) h2 ⟨rfl, rfl⟩ f2 A η1 s1 _ E Ro r1 e1 (a1.den (re.ext ext) (e.ext ext) (Den.keeps K _ d2)) fun _ m' H' _ η2 s2 q2 _ r2 e2 a2 => ?_))
  obtain ⟨rfl, rfl⟩ := q2
  refine wpAny_assignInOrder_more (wpAny_assign_Name (tri_store (Q := N) h3 q f3 A η2 s2 _ E Ro r2 e2 (a2.den r1 e1 (a1.den (re.ext ext) (e.ext ext) (Den.keeps K _ d3))) fun _ m' H' _ η3 s3 q3 _ r3 e3 a3 => ?_))
  exact wpAny_assignInOrder_none (k () m' H' () η3 s3 q3 trivial r3 e3 ((Adv.ofExt (tk := s.toks) ext).trans (a1.trans (a2.trans a3))))

theorem ts_Assign_Tuple {elts kk tpos value pos} (h : TE X n env m H (eval value env) fun v m H => TA X n env m H (.Tuple elts kk tpos) v N)
    (hs : swapsWithSole [.Tuple elts kk tpos] value pos.line env = Pure.pure false := by rfl)
    (hw : swappedStores [.Tuple elts kk tpos] value env = Pure.pure none := by rfl) : TS X n env m H (exec (.Assign [.Tuple elts kk tpos] value pos) env) N B K R := by
  intro A η s C E Ro re e _ k
  refine Assign_Tuple (h A η s _ E Ro re e trivial fun v m1 H1 a η1 s1 q1 d1 r1 e1 a1 => ?_) hs hw
  exact q1 a A η1 s1 _ E Ro r1 e1 d1 fun _ m2 H2 _ η2 s2 q2 _ r2 e2 a2 => k .next m2 H2 _ η2 s2 q2 (by unfold DenF; rfl) r2 e2 (a1.trans a2)

theorem ts_Assign_swap2 {elts kk tpos value pos x y} (h : TE X n env m H (eval value env) fun w m H => ∃ u v m1 m2, w = .tup [u, v] ∧ UpdL m y v m1 ∧ UpdL m1 x u m2 ∧ N m2 H)
    (f1 : env.kindOf x ≠ some .free := by with_unfolding_all decide) (f2 : env.kindOf y ≠ some .free := by with_unfolding_all decide)
    (hs : swapsWithSole [.Tuple elts kk tpos] value pos.line env = Pure.pure false := by rfl)
    (hw : swappedStores [.Tuple elts kk tpos] value env = Pure.pure (some [x, y]) := by rfl) : TS X n env m H (exec (.Assign [.Tuple elts kk tpos] value pos) env) N B K R := by
  intro A η s C E Ro re e _ k
  refine Assign_Tuple_swapped (h A η s _ E Ro re e trivial fun w m' H1 a η1 s1 q1 d1 r1 e1 a1 => ?_) hs hw
  obtain ⟨u, v, m1, m2, rfl, h1, h2, q⟩ := q1
  obtain ⟨a, c1, c2, rfl, ht, d1', d2'⟩ := den_tup2 d1
  refine unpackItems_tuple (items := #[c1, c2]) Ro.handled ht fun h' hx => ?_
  have ext := ext_of_but hx
  have K' : Keeps' X η1 s1.heap η1 h' := .ofExt ext
  show wpAny _ A (assignInOrder [fun v => bindName env y v, fun v => bindName env x v] [c2, c1]) _ E _
  refine wpAny_assignInOrder_more (wpAny_bindName (tri_store (Q := fun m H' => m = m1 ∧ H' = H1) h1 ⟨rfl, rfl⟩ f2 A η1 { s1 with heap := h' } _ E Ro (r1.ext ext) (e1.ext ext) (Den.keeps K' _ d2') fun _ m3 H3 _ η2 s2 q2 _ r2 e2 a2 => ?_))
  obtain ⟨rfl, rfl⟩ := q2
  refine wpAny_assignInOrder_more (wpAny_bindName (tri_store (Q := N) h2 q f1 A η2 s2 _ E Ro r2 e2 (a2.den (r1.ext ext) (e1.ext ext) (Den.keeps K' _ d1')) fun _ m3 H3 _ η3 s3 q3 _ r3 e3 a3 => ?_))
  exact wpAny_assignInOrder_none (k .next m3 H3 _ η3 s3 q3 (by unfold DenF; rfl) r3 e3 (a1.trans ((Adv.ofExt (tk := s1.toks) ext).trans (a2.trans a3))))

theorem ts_Assign_two {x y px py value pos} (h : TE X n env m H (eval value env) fun v m H => ∃ m1 m2, UpdL m x v m1 ∧ UpdL m1 y v m2 ∧ N m2 H) (f1 : env.kindOf x ≠ some .free := by with_unfolding_all decide) (f2 : env.kindOf y ≠ some .free := by with_unfolding_all decide)
    (he : (assignEach [.Name x px, .Name y py] env).map (·.2) = [assign (.Name x px) env, assign (.Name y py) env] := by rfl) (hw : swappedStores [.Name x px, .Name y py] value env = Pure.pure none := by rfl) :
    TS X n env m H (exec (.Assign [.Name x px, .Name y py] value pos) env) N B K R := by
  intro A η s C E Ro re e _ k
  refine wpAny_Assign_two (h A η s _ E Ro re e trivial fun v m' H1 a η1 s1 q1 d1 r1 e1 a1 => ?_) he hw
  obtain ⟨m1, m2, h1, h2, q⟩ := q1
  refine wpAny_assign_Name (tri_store (Q := fun m H' => m = m1 ∧ H' = H1) h1 ⟨rfl, rfl⟩ f1 A η1 s1 _ E Ro r1 e1 d1 fun _ m3 H3 _ η2 s2 q2 _ r2 e2 a2 => ?_)
  obtain ⟨rfl, rfl⟩ := q2
  refine wpAny_assign_Name (tri_store (Q := N) h2 q f2 A η2 s2 _ E Ro r2 e2 (a2.den r1 e1 d1) fun _ m3 H3 _ η3 s3 q3 _ r3 e3 a3 => ?_)
  exact k .next m3 H3 _ η3 s3 q3 (by unfold DenF; rfl) r3 e3 (a1.trans (a2.trans a3))
end
end Mine
end
section
open Lean Elab Tactic Meta PySem PySem.W PySem.Calls PyProof.Rows
open Builtin Builtin.Str
set_option Elab.async false
set_option maxRecDepth 100000
set_option linter.unusedVariables false
namespace Mine

theorem fmt_q (z : PySem.Str) (hz : z.length ≤ 1000000) (t u : Tok) : Meets («str.__mod__» ⟨[.str ⟨#[34, 37, 115, 34]⟩ t, .str z u], []⟩) (fun _ R s => ∀ t' k, R (.ok (.ret (.str (PySem.Str.ofString "\"" ++ z ++ PySem.Str.ofString "\"") t'))) { s with toks := k }) := by
  kpc_run_s
theorem fmt_p (z : PySem.Str) (hz : z.length ≤ 1000000) (t u : Tok) : Meets («str.__mod__» ⟨[.str ⟨#[40, 37, 115, 41]⟩ t, .str z u], []⟩) (fun _ R s => ∀ t' k, R (.ok (.ret (.str (PySem.Str.ofString "(" ++ z ++ PySem.Str.ofString ")") t'))) { s with toks := k }) := by
  kpc_run_s
theorem fmt_b (z : PySem.Str) (hz : z.length ≤ 1000000) (t u : Tok) : Meets («str.__mod__» ⟨[.str ⟨#[123, 37, 115, 125]⟩ t, .str z u], []⟩) (fun _ R s => ∀ t' k, R (.ok (.ret (.str (PySem.Str.ofString "{" ++ z ++ PySem.Str.ofString "}") t'))) { s with toks := k }) := by
  kpc_run_s
end Mine
end
section
open PySem PySem.W PyProof.Rows PySem.Calls
set_option Elab.async false
set_option maxRecDepth 100000
set_option linter.unusedVariables false
namespace Mine
section
variable {X : Cx} {n : Nat} {env cenv : Env} {m m1 m2 m3 : Loc} {H : List Cell} {N B K : Loc → List Cell → Prop} {R : V → Loc → List Cell → Prop} {Q : V → Loc → List Cell → Prop} {QB : Bool → Loc → List Cell → Prop}

/-- -e, not e -/
theorem tri_UnaryOp {op e pos} (h : TE X n env m H (eval e env) fun v m H => T1 X n env m H (unaryOp op) v Q) : TE X n env m H (eval (.UnaryOp op e pos) env) Q := by
  intro A η s C E Ro re ev _ k
  refine UnaryOp_ (h A η s _ E Ro re ev trivial fun v m1 H1 a η1 s1 q1 d1 r1 e1 a1 => ?_)
  exact q1 a A η1 s1 C E Ro r1 e1 d1 fun v m' H' c η' s' q d r' e' a' => k v m' H' c η' s' q d r' e' (a1.trans a')
theorem mapSeq_ne {f : Array Value → Array Value} {ys zs : Array Value} {k : Nat} (h : f ys = zs) (hs : zs.size ≠ ys.size) : Obj.mapSeq f ({ cls := .type "list", data := .seq ys k } : Obj) = { cls := .type "list", data := .seq zs (k + 1) } := by
  subst h
  simp [Obj.mapSeq, hs]

/-- the last item goes -/
theorem list_pop {i : Nat} {xs : List V} {v : V} (hi : H[i]? = some (.list (xs ++ [v]))) (q : Q v m (H.set i (.list xs))) : TN X n env m H (fun cvs => call (.builtin "list.pop") cvs) [.loc i] Q := by
  intro cvs A η s C E Ro re e d k
  obtain ⟨a, rfl, d1⟩ := denL_one.mp d
  obtain ⟨b, rfl, ea⟩ := den_loc.mp d1
  obtain ⟨vs, kk, ho, dL, hl⟩ := re.listO hi ea
  have hlen := denL_length dL
  have hsl := sizeLine_eq
  obtain ⟨vs', cv, rfl, dL', dv⟩ : ∃ vs' cv, vs = vs' ++ [cv] ∧ DenL X η s.heap xs vs' ∧ Den X η s.heap v cv := by
    have key : ∀ (xs : List V) (vs : List Value), DenL X η s.heap (xs ++ [v]) vs → ∃ vs' cv, vs = vs' ++ [cv] ∧ DenL X η s.heap xs vs' ∧ Den X η s.heap v cv := by
      intro xs
      induction xs with
      | nil => intro vs d; obtain ⟨c, rfl, d'⟩ := denL_one.mp (show DenL X η s.heap [v] vs from d); exact ⟨[], c, rfl, by unfold DenL; rfl, d'⟩
      | cons y xs ih =>
        intro vs d
        rw [List.cons_append] at d
        unfold DenL at d
        obtain ⟨c, r, rfl, d1, d2⟩ := d
        obtain ⟨vs', cv, rfl, d3, d4⟩ := ih r d2
        exact ⟨c :: vs', cv, rfl, by unfold DenL; exact ⟨c, vs', rfl, d1, d3⟩, d4⟩
    exact key xs vs dL
  have hlen' := denL_length dL'
  have hT : s.TypeIs (.ref b) "list" := ⟨_, ho, rfl⟩
  refine wpAny_call_entry F.slot_list_pop hT F.entry_list_pop ?_ (F.args_list_pop_1 _)
  unfold Builtin.«list.pop»
  refine wpAny_bind (wpAny_pure ?_)
  refine wpAny_bind (wpAny_pure ?_)
  refine wpAny_ite ?_
  rw [if_neg (by decide)]
  refine wpAny_bind (wpAny_listItems ho rfl ?_)
  refine wpAny_ite ?_
  rw [if_neg (by simp)]
  have hsq : (seqIndex? (-1) (vs' ++ [cv]).toArray.size).bind (fun k => (vs' ++ [cv]).toArray[k]?.map (k, ·)) = some (vs'.length, cv) := by
    have : seqIndex? (-1) (vs' ++ [cv]).toArray.size = some vs'.length := by
      unfold seqIndex?
      simp
      omega
    rw [this]
    simp
  rw [hsq]
  have l1 : (vs' ++ [cv]).length = xs.length + 1 := by simp [hlen']
  have l2 : xs.length + 1 ≤ sizeLine := by simpa using hl
  have he : (vs' ++ [cv]).toArray.eraseIdxIfInBounds vs'.length = vs'.toArray := by
    unfold Array.eraseIdxIfInBounds
    rw [dif_pos (by simp)]
    simp [List.eraseIdx_append_of_length_le]
  refine wpAny_bind (wpAny_updateSeq ho rfl (wpAny_pure ⟨cv, rfl, ?_⟩) (by rw [List.size_toArray, l1]; exact l2) (by show (Array.eraseIdxIfInBounds _ _).size ≤ _; rw [he, List.size_toArray]; omega))
  have ho' : (s.heap.update b (Obj.mapSeq fun ys => ys.eraseIdxIfInBounds vs'.length)).get? b = some { cls := .type "list", data := .seq vs'.toArray (kk + 1) } := by
    rw [Heap.get?_update_self _ ho rfl]
    show some (Obj.mapSeq (fun ys => ys.eraseIdxIfInBounds vs'.length) { cls := .type "list", data := .seq (vs' ++ [cv]).toArray kk }) = _
    rw [mapSeq_ne he (by simp)]
  have hs : Heap.SameBut b s.heap (s.heap.update b (Obj.mapSeq fun ys => ys.eraseIdxIfInBounds vs'.length)) := Heap.SameBut.update ..
  have nt : ∀ o, s.heap.get? b = some o → frozen o = false := fun o q => by rw [ho] at q; cases q; rfl
  have K := keeps_same (X := X) (η := η) hs nt
  obtain ⟨r', e', ad⟩ := upd_ok (c' := .list xs) (tk := s.toks) re e ea hs ho' ⟨vs', kk + 1, rfl, by simp at hl; omega, DenL.keeps K _ dL'⟩
  exact k v m _ cv η _ q (Den.keeps K _ dv) r' e' ad
end
end Mine
end
section
open PySem PySem.W PyProof.Rows PySem.Calls
set_option Elab.async false
set_option maxRecDepth 100000
set_option linter.unusedVariables false
namespace Mine
theorem sub_tuple_set : isSubtype (.type "tuple") (.type "set") = pure false := by rw [isSubtype_type]; kernel_rfl
theorem sub_tuple_frozenset : isSubtype (.type "tuple") (.type "frozenset") = pure false := by rw [isSubtype_type]; kernel_rfl

abbrev skn (X : Cx) := PySem.strKind X.prog X.w
/-- the texts of a set -/
def inL (xs : List (List Nat)) (k : PySem.Str) : Bool := xs.contains k.cps.toList

section
variable {X : Cx} {A : Around} {E : Value → Shared → Prop} {s : Shared}

theorem set_loop {it S t : Addr} {items : Array Value} {xs : List (List Nat)} (hlen : items.size = xs.length) (hv : ∀ (i : Nat) x, xs[i]? = some x → ∃ u, items[i]? = some (.str ⟨x.toArray⟩ u)) (hb : xs.length + 1 < scanBound) (hh : A.handled = none) (h1 : S ≠ it) (h2 : S ≠ t) (h3 : it ≠ t) {R : Result → Shared → Prop} :
    ∀ (k i : Nat) (s : Shared) (n : Nat), xs.length - i = k → i ≤ xs.length → n ≤ i → s.heap.IsTupleIter it t i → s.heap.IsTuple t items → s.heap.SetOf (skn X) S (inL (xs.take i)) n →
      (∀ h' tk n', n' ≤ xs.length → h'.SetOf (skn X) S (inL xs) n' → (∀ b o, b ≠ S → b ≠ it → s.heap.get? b = some o → h'.get? b = some o) → R (.ok (.ret .none)) { s with heap := h', toks := tk }) →
      codeAny (model X.prog X.w) A (.builtin "set.update.loop" ⟨[.ref S, .ref it], []⟩) R s := by
  intro k
  induction k with
  | zero =>
    intro i s n hk hi hn hit ht hS hR
    have hin : i = xs.length := by omega
    subst hin
    refine codeAny_builtin PyProof.Rows.F.entry_set_update_loop ?_
    rw [Around.under_plainId PyProof.Rows.F.plain_set_update_loop _]
    show wpAny _ A.in1 (pyNext (.ref it) >>= _) _ _ s
    refine wpAny_bind (wpAny_pyNext_tuple_end hh hit ht (Array.getElem?_eq_none (by omega)) fun h' hx => ?_)
    show wpAny _ A.in1 (ret Value.none) _ _ _
    refine wpAny_pure (hR h' s.toks n (by omega) ?_ fun b o _ hb e => hx b o hb e)
    rw [List.take_length] at hS
    obtain ⟨o, es, ep, tb, ho, rest⟩ := hS
    exact ⟨o, es, ep, tb, hx S o h1 ho, rest⟩
  | succ k ih =>
    intro i s n hk hi hn hit ht hS hR
    have hlt : i < xs.length := by omega
    obtain ⟨u, hu⟩ := hv i xs[i] (List.getElem?_eq_getElem hlt)
    refine codeAny_builtin PyProof.Rows.F.entry_set_update_loop ?_
    rw [Around.under_plainId PyProof.Rows.F.plain_set_update_loop _]
    show wpAny _ A.in1 (pyNext (.ref it) >>= _) _ _ s
    refine wpAny_bind (wpAny_pyNext_tuple_item hit ht hu fun h' hit' hsb => ?_)
    have hS' : h'.SetOf (skn X) S (inL (xs.take i)) n := by
      obtain ⟨o, es, ep, tb, ho, rest⟩ := hS
      exact ⟨o, es, ep, tb, hsb.extBut S o h1 ho, rest⟩
    have ht' : h'.IsTuple t items := by
      obtain ⟨o, ho, r⟩ := ht
      exact ⟨o, hsb.extBut t o (Ne.symm h3) ho, r⟩
    show wpAny _ A.in1 (holding [Value.str ⟨xs[i].toArray⟩ u] (setAdd S (.str ⟨xs[i].toArray⟩ u)) >>= _) _ _ _
    refine wpAny_bind (wpAny_holding ?_)
    unfold setAdd
    refine wpAny_holding ?_
    have hkey := strKind_is X.prog X.w ⟨xs[i].toArray⟩ u
    refine wpAny_bind ((skn X).pyHash (k := ⟨xs[i].toArray⟩) hkey ?_)
    refine wpAny_setAddHashed_of (knd := skn X) (s := { s with heap := h', toks := s.toks + 1 }) hkey rfl hS' (by omega) fun h'' hsb2 hS2 => ?_
    have hS3 : h''.SetOf (skn X) S (inL (xs.take (i + 1))) (if inL (xs.take i) ⟨xs[i].toArray⟩ then n else n + 1) := by
      refine SetOf_congr hS2 (fun k' => ?_) rfl
      unfold inL
      rw [List.take_add_one, List.getElem?_eq_getElem hlt]
      have e : decide (k' = (⟨xs[i].toArray⟩ : PySem.Str)) = (k'.cps.toList == xs[i]) := by
        rw [Bool.eq_iff_iff, decide_eq_true_iff, beq_iff_eq]
        constructor
        · rintro rfl; rfl
        · intro h; rw [← h]
      rw [e]
      have e2 : ∀ (l : List (List Nat)) (z y : List Nat), (l ++ [y]).contains z = (l.contains z || (z == y)) := by
        intro l z y
        rw [Bool.eq_iff_iff]; simp
      rw [show (some xs[i]).toList = [xs[i]] from rfl, e2]
    refine wpAny_pure ⟨plainId_quiet PyProof.Rows.F.plain_set_update_loop _, ih (i + 1) _ _ (by omega) hlt (by split <;> omega) ?_ ?_ hS3 fun h3' tk n' hn' hS' hx => ?_⟩
    · obtain ⟨o, ho, r⟩ := hit'
      exact ⟨o, hsb2.extBut it o (Ne.symm h1) ho, r⟩
    · obtain ⟨o, ho, r⟩ := ht'
      exact ⟨o, hsb2.extBut t o (Ne.symm h2) ho, r⟩
    · exact hR h3' tk n' hn' hS' fun b o hb1 hb2 e => hx b o hb1 hb2 (hsb2.extBut b o hb1 (hsb.extBut b o hb2 e))

set_option maxHeartbeats 3200000 in
theorem call_set_tup {l : Addr} {items : Array Value} {xs : List (List Nat)} {nl : Nat} {Q : Value → Shared → Prop}
    (hh : A.handled = none) (hol : s.heap.get? l = some { cls := .type "tuple", data := .seq items nl }) (hlen : items.size = xs.length) (hv : ∀ (i : Nat) x, xs[i]? = some x → ∃ u, items[i]? = some (.str ⟨x.toArray⟩ u)) (hb : xs.length + 1 < scanBound)
    (h : ∀ (h' : Heap) (tk n' : Nat), n' ≤ xs.length → h'.SetOf (skn X) s.heap.objs.size (inL xs) n' →
      (∀ b o, b < s.heap.objs.size → s.heap.get? b = some o → h'.get? b = some o) → Q (.ref s.heap.objs.size) { s with heap := h', toks := tk }) :
    wpAny (model X.prog X.w) A (call (.type "set") [.ref l]) Q E s := by
  obtain ⟨c, tl, hmro⟩ := F.called_set.mro
  have hmade := F.called_set.made
  have hsub := F.called_set.sub
  refine wpAny_call (codeAny_of_tree ?_)
  show wpAny _ _ (callAny (.type "set") _) _ _ _
  refine wpAny_pure ⟨Code.quiet_builtin _ (by decide +kernel), codeAny_builtin F.entry_type_call ?_⟩
  rw [Around.under_plain (weight_type_call_type "set" [.ref l] []) rfl]
  have h1 := F.called_set.notType
  have h2 := F.called_set.canCreate
  have hct := F.typeCall_set_1 (.ref l)
  repeat (any_goals (first | assumption | wp_step))

  refine codeAny_mono (code_set_new_1 (.ref l) (E := E) (Q₁ := fun obj s₁ => ∃ led : Bool, obj = .ref s.heap.objs.size ∧ s₁ = { s with heap := s.heap.push { cls := .type "set", dict := none, data := .set #[] 0 (.fresh 0 0 led) } }) fun led => ⟨led, rfl, rfl⟩) fun r s₁ hr => ?_
  cases r with
  | error e => exact hr
  | ok fl =>
    cases fl with
    | ret obj =>
      obtain ⟨led, rfl, rfl⟩ := hr
      have hS : (s.heap.push { cls := .type "set", dict := none, data := .set #[] 0 (.fresh 0 0 led) }).get? s.heap.objs.size = some { cls := .type "set", dict := none, data := .set #[] 0 (.fresh 0 0 led) } := Heap.get?_push_size _ rfl
      have hT : Shared.TypeIs { s with heap := s.heap.push { cls := .type "set", dict := none, data := .set #[] 0 (.fresh 0 0 led) } } (.ref s.heap.objs.size) "set" := ⟨_, hS, rfl⟩
      have hli := F.called_set.init.lookup
      have hbi := F.called_set.init.bind (.ref s.heap.objs.size)
      repeat (any_goals (first | assumption | wp_step))

      refine codeAny_mono (codeAny_call_builtin (R := wants (fun r s₂ => r = .none ∧ ∃ h' tk n', s₂ = { s with heap := h', toks := tk } ∧ n' ≤ xs.length ∧
          h'.SetOf (skn X) s.heap.objs.size (inL xs) n' ∧
          (∀ b o, b < s.heap.objs.size → s.heap.get? b = some o → h'.get? b = some o)) E) F.called_set.init.plain F.entry_set_init (check_set_init_1 hT ?_)) fun r₂ s₂ hr₂ => ?_
      · have hol' : (s.heap.push { cls := .type "set", dict := none, data := .set #[] 0 (.fresh 0 0 led) }).get? l = some { cls := .type "tuple", data := .seq items nl } := Heap.get?_push_of_some _ hol
        have hsls := sub_tuple_set
        have hslf := sub_tuple_frozenset
        have hne : (Value.type "tuple" == Value.type "dict") = false := by decide
        have hl1 : (s.heap.push { cls := .type "set", dict := none, data := .set #[] 0 (.fresh 0 0 led) }).IsTuple l items := ⟨_, hol', rfl, nl, rfl⟩
        unfold Builtin.«set.__init__» noKeywords Builtin.Frozenset.updateFrom
        generalize hPI : pyIter = PI
        wp_walk
        subst hPI

        refine wpAny_pyIter_tuple hl1 ?_
        refine wpAny_bind (wpAny_runValue ?_)
        have hlS : l < s.heap.objs.size := Heap.lt_size hol
        have hh3 : A.in1.in1.in1.handled = none := by simp [hh]
        have hneI : l ≠ (s.heap.push { cls := .type "set", dict := none, data := .set #[] 0 (.fresh 0 0 led) }).objs.size := by
          rw [Heap.size_push]; exact Nat.ne_of_lt (Nat.lt_succ_of_lt hlS)
        have hSI : s.heap.objs.size ≠ (s.heap.push { cls := .type "set", dict := none, data := .set #[] 0 (.fresh 0 0 led) }).objs.size := by
          rw [Heap.size_push]; exact Nat.ne_of_lt (Nat.lt_succ_self _)
        have hget : ((s.heap.push { cls := .type "set", dict := none, data := .set #[] 0 (.fresh 0 0 led) }).push { cls := .type "tuple_iterator", data := .fields #[.ref l, .int 0 0] }).get? s.heap.objs.size
              = some { cls := .type "set", dict := none, data := .set #[] 0 (.fresh 0 0 led) } := Heap.get?_push_of_some _ hS
        refine set_loop (X := X) (A := A.in1.in1) (t := l) hlen hv hb hh hSI (Ne.symm (Nat.ne_of_lt hlS)).symm.symm (Ne.symm hneI) (xs.length - 0) 0 _ 0 rfl (Nat.zero_le _) (Nat.le_refl _) ?ti ?tp ?hS0 fun h' tk' n' hn' hS' hx => ?_
        case ti => exact ⟨_, Heap.get?_push_size _ rfl, rfl, rfl⟩
        case tp => exact ⟨_, Heap.get?_push_of_some _ hol', rfl, nl, rfl⟩
        case hS0 => exact SetOf_congr ((setObjOf_fresh (knd := skn X) led).setOf hget (by unfold scanBound; omega)) (fun _ => rfl) rfl
        show wpAny _ _ _ _ _ _
        refine wpAny_pure ?_
        show wpAny _ _ (ret Value.none) _ _ _
        refine wpAny_pure ⟨rfl, h', tk', n', rfl, hn', hS', fun b o hb e => ?_⟩
        have hb1 : b ≠ s.heap.objs.size := Nat.ne_of_lt hb
        have hb2 : b ≠ (s.heap.push { cls := .type "set", dict := none, data := .set #[] 0 (.fresh 0 0 led) }).objs.size := by
          rw [Heap.size_push]; exact Nat.ne_of_lt (Nat.lt_succ_of_lt hb)
        exact hx b o hb1 hb2 (Heap.get?_push_of_some _ (Heap.get?_push_of_some _ e))

      · cases r₂ with
        | error e => exact hr₂
        | ok fl₂ =>
          cases fl₂ with
          | ret r =>
            obtain ⟨rfl, h', tk, n', rfl, hn', hS', hk'⟩ := hr₂
            repeat (any_goals (first | assumption | wp_step))
            exact h _ _ _ hn' hS' hk'
          | _ => exact hr₂.elim
    | _ => exact hr.elim
end
end Mine
end
section
open PySem PySem.W PyProof.Rows PySem.Calls
set_option Elab.async false
set_option maxRecDepth 100000
set_option linter.unusedVariables false
namespace Mine
section
variable {X : Cx} {n : Nat} {env cenv : Env} {m m1 m2 m3 : Loc} {H : List Cell} {Q : V → Loc → List Cell → Prop}

theorem ofs (a : PySem.Str) (x : List Nat) (h : a.cps.toList = x) : a = ⟨x.toArray⟩ := by cases a; simp only at h; subst h; rfl

theorem pct_str {F : List Nat} {z r : List Nat} (hz : z.length ≤ 1000000) {T : PySem.Str → PySem.Str} (hT : T ⟨z.toArray⟩ = ⟨r.toArray⟩)
    (hm : ∀ (z : PySem.Str), z.length ≤ 1000000 → ∀ (t u : Tok), Meets (Builtin.«str.__mod__» ⟨[.str ⟨F.toArray⟩ t, .str z u], []⟩) (fun _ R s => ∀ t' k, R (.ok (.ret (.str (T z) t'))) { s with toks := k }))
    (q : Q (.str r) m H) : T2 X n env m H (binaryOp .Mod) (.str F) (.str z) Q :=
  T2.quiet (w := .str r) (fun A s C E η a b _ _ da db k => by
    obtain ⟨t, rfl⟩ := den_str'.mp da; obtain ⟨u, rfl⟩ := den_str'.mp db
    exact KPc.mod_str rfl (by show z.toArray.size ≤ _; simpa using hz) (fun z' h' => hm z' h' t u) fun t' tk => k _ tk (by rw [hT]; exact den_str _ _)) q

theorem pct_q {z : List Nat} (hz : z.length ≤ 1000000) (q : Q (.str (34 :: z ++ [34])) m H) : T2 X n env m H (binaryOp .Mod) (.str [34, 37, 115, 34]) (.str z) Q :=
  pct_str hz (T := fun z => PySem.Str.ofString "\"" ++ z ++ PySem.Str.ofString "\"") (ofs _ _ (by show (#[34] ++ z.toArray ++ #[34]).toList = _; simp)) (fun z h t u => fmt_q z h t u) q
theorem pct_p {z : List Nat} (hz : z.length ≤ 1000000) (q : Q (.str (40 :: z ++ [41])) m H) : T2 X n env m H (binaryOp .Mod) (.str [40, 37, 115, 41]) (.str z) Q :=
  pct_str hz (T := fun z => PySem.Str.ofString "(" ++ z ++ PySem.Str.ofString ")") (ofs _ _ (by show (#[40] ++ z.toArray ++ #[41]).toList = _; simp)) (fun z h t u => fmt_p z h t u) q
theorem pct_b {z : List Nat} (hz : z.length ≤ 1000000) (q : Q (.str (123 :: z ++ [125])) m H) : T2 X n env m H (binaryOp .Mod) (.str [123, 37, 115, 125]) (.str z) Q :=
  pct_str hz (T := fun z => PySem.Str.ofString "{" ++ z ++ PySem.Str.ofString "}") (ofs _ _ (by show (#[123] ++ z.toArray ++ #[125]).toList = _; simp)) (fun z h t u => fmt_b z h t u) q
end
end Mine
end
section
open PySem PySem.W PyProof.Rows PySem.Calls
set_option Elab.async false
set_option maxRecDepth 100000
set_option linter.unusedVariables false
namespace Mine
noncomputable abbrev KK (P : Params) : Frag := hd3.heap_39 P

def kindOf' : Tk → List Nat
  | .lp => [40]
  | .rp => [41]
  | .neg => [110, 101, 103]
  | .col _ => [99, 111, 108]
  | .op _ => [111, 112]
  | .term _ => [116, 101, 114, 109]
def txtOf : Tk → V
  | .col c => .str c
  | .op w => .str w
  | .term t => .str t
  | _ => .none
def tkV (t : Tk) : V := .tup [.str (kindOf' t), txtOf t]
def peekV (toks : List Tk) (p : Nat) : V := match toks[p]? with
  | some t => .str (kindOf' t)
  | none => .none

/-- the names that the text looks up -/
structure Names (X : Cx) : Prop where
  len : X.mg "len" = none ∧ X.mb "len" = some (.builtin "len")
  all : X.mg "all" = none ∧ X.mb "all" = some (.builtin "all")
  set : X.mg "set" = none ∧ X.mb "set" = some (.type "set")
  col : X.mg "COLSPEC_RE" = some (.ref 36)
  term : X.mg "TERM_RE" = some (.ref 41)
  word : X.mg "WORD_RE" = some (.ref 46)
  ops : X.mg "OPERATORS" = some (.ref 47)
  deep : ∃ t, X.mg "MAX_DEPTH" = some (.int 32 t)
  parser : X.mg "_Parser" = some (.ref 131)

/-- the parser's object -/
structure PS (H : List Cell) (i j k : Nat) (cv : V) (toks : List Tk) (p : Nat) : Prop where
  inst : IsInst H i j 131 [("columns", cv), ("tokens", .loc k), ("pos", .int p)]
  lst : H[k]? = some (.list (toks.map tkV))
  small : toks.length ≤ 100000 ∧ ∀ c, Tk.col c ∈ toks → c.length ≤ 100000

section
variable {P : Params} {X : Cx} (hK : X.K = KK P) (NX : Names X) {n : Nat} {env : Env} {m : Loc} {H : List Cell} {i j k p : Nat} {cv : V} {toks : List Tk} {Q : V → Loc → List Cell → Prop}
include hK NX

omit NX in
theorem clsOk : ClsOk X.K 131 := by
  rw [hK]
  exact ⟨by rfl, by rfl, by rfl, by rfl, by rfl⟩

theorem peek_ok (S : PS H i j k cv toks p) (q : Q (peekV toks p) m H) : CN X (n + 1) env m H (.ref 80) [.loc i] Q := by
  refine cn_call (names := ["self"]) (ws := []) (ds := []) (by rw [hK]; rfl) (by rw [hK]; rfl) rfl rfl rfl rfl (by decide +kernel) rfl (fun s cvs hin hl => ?_) (fun _ _ => by unfold DenL; rfl) ?_
  · obtain ⟨c, rfl⟩ : ∃ c, cvs = [c] := by
      cases cvs with
      | nil => simp at hl
      | cons c r => cases r with
        | nil => exact ⟨c, rfl⟩
        | cons _ _ => simp at hl
    exact BindsTo.of_eq rfl
  · intro env' hsc hcode
    obtain ⟨sc, lo, gl, ce, qu, fu, co, fr, bi⟩ := env'
    simp only at hsc hcode
    subst hsc hcode
    have hl : (toks.map tkV).length = toks.length := by simp
    have ok := clsOk (X := X) hK
    have fpos : ∀ {Q : V → Loc → List Cell → Prop} {m env} (q : Q (.int p) m H), T1 X n env m H (fun o => getAttr o "pos" true) (.loc i) Q := fun q => get_field S.inst ok (by rw [hK]; rfl) (.tail _ (.tail _ (.head _))) q
    have ftok : ∀ {Q : V → Loc → List Cell → Prop} {m env} (q : Q (.loc k) m H), T1 X n env m H (fun o => getAttr o "tokens" true) (.loc i) Q := fun q => get_field S.inst ok (by rw [hK]; rfl) (.tail _ (.head _)) q
    refine ts_cons (ts_Return (tri_IfExp (tb_Compare (hm := by with_unfolding_all rfl) (tri_Attr (tri_Name .here (fpos ?_))))))
    refine tri_CallN (f := .builtin "len") rfl (.inr NX.len) kn_builtin (tx_cons (tri_Attr (tri_Name .here (ftok (tx_nil (len_l S.lst ?_))))))
    refine lt_i (tr_b ?_)
    rw [List.length_map]
    refine br_c (fun hb => ?_) (fun hb => ?_)
    · have hlt : p < toks.length := by have := of_decide_eq_true hb; omega
      refine tri_Subscript (tri_Subscript (tri_Attr (tri_Name .here (ftok (tri_Attr (tri_Name .here (fpos ?_)))))))
      refine t2_item_list S.lst (by omega) (v := tkV toks[p]) (by simp [hlt]) ?_
      refine tri_int (t2_item_tup (by decide) (v := .str (kindOf' toks[p])) rfl ?_)
      rw [show peekV toks p = .str (kindOf' toks[p]) by unfold peekV; rw [List.getElem?_eq_getElem hlt]] at q
      exact q
    · have hge : toks.length ≤ p := by have := of_decide_eq_false hb; omega
      refine tri_none ?_
      rw [show peekV toks p = .none by unfold peekV; rw [List.getElem?_eq_none hge]] at q
      exact q

theorem hfun {f : Addr} (h : keepIn (KK P) (.ref f) = true) : Kn X (.ref f) := kn_K (by rw [hK]; exact h)

/-- a method of the parser -/
theorem e_meth {nm : Str} {f : Addr} {a b c : Pos} {args : List Expr} {fs : List (Str × V)} (hf : findIn (KK P) (.ref 131) nm = some (some (.ref f))) (ht : typeIn (KK P) (.ref f) = some (.type "function")) (hk : keepIn (KK P) (.ref f) = true)
    (hl : LkL m "self" (.loc i)) (I : IsInst H i j 131 fs) (hn : nm ∉ fs.map (·.1))
    (h : TX X n env m H c args fun vs m H => CN X n env m H (.ref f) (.loc i :: vs) Q)
    (hform : methodCallForm (args.length + 0) (backTo c (starEach args env)) [] = true := by rfl) (hline : (b.endLine == c.line) = true := by rfl) :
    TE X n env m H (eval (.Call (.Attribute (.Name "self" a) nm b) args [] c) env) Q := by
  refine tri_CallM (tri_Name hl (tm_method I (clsOk hK) (by rw [hK]; exact hf) (by rw [hK]; exact ht) hn ⟨hfun hK NX hk, ?_⟩)) rfl hform hline
  exact TriP.mono h fun vs m H q => tn_of_cn q

theorem e_peek {a b c : Pos} (hl : LkL m "self" (.loc i)) (S : PS H i j k cv toks p) (q : Q (peekV toks p) m H) (hline : (b.endLine == c.line) = true := by rfl) :
    TE X (n + 1) env m H (eval (.Call (.Attribute (.Name "self" a) "_peek" b) [] [] c) env) Q :=
  e_meth hK NX rfl rfl rfl hl S.inst (show ("_peek" : Str) ∉ (["columns", "tokens", "pos"] : List Str) by decide) (tx_nil (peek_ok hK NX S q)) rfl hline

theorem is_op_ok {w : List Nat} (S : PS H i j k cv toks p) (q : Q (.bool (toks[p]? == some (.op w))) m H) : CN X (n + 2) env m H (.ref 87) [.loc i, .str w] Q := by
  refine cn_call (names := ["self", "op"]) (ws := []) (ds := []) (by rw [hK]; rfl) (by rw [hK]; rfl) rfl rfl rfl rfl (by decide +kernel) rfl (fun s cvs hin hl => ?_) (fun _ _ => by unfold DenL; rfl) ?_
  · obtain ⟨c, d, rfl⟩ : ∃ c d, cvs = [c, d] := by
      match cvs, hl with
      | [c, d], _ => exact ⟨c, d, rfl⟩
    exact BindsTo.of_eq rfl
  · intro env' hsc hcode
    obtain ⟨sc, lo, gl, ce, qu, fu, co, fr, bi⟩ := env'
    simp only at hsc hcode
    subst hsc hcode
    have ok := clsOk (X := X) hK
    have fpos : ∀ {Q : V → Loc → List Cell → Prop} {m env} (q : Q (.int p) m H), T1 X (n + 1) env m H (fun o => getAttr o "pos" true) (.loc i) Q := fun q => get_field S.inst ok (by rw [hK]; rfl) (.tail _ (.tail _ (.head _))) q
    have ftok : ∀ {Q : V → Loc → List Cell → Prop} {m env} (q : Q (.loc k) m H), T1 X (n + 1) env m H (fun o => getAttr o "tokens" true) (.loc i) Q := fun q => get_field S.inst ok (by rw [hK]; rfl) (.tail _ (.head _)) q
    refine ts_cons (ts_Return (tri_BoolOp (tbo_and (tri_Compare (hm := by with_unfolding_all rfl) (e_peek hK NX .here S (tri_str ?_))))))
    by_cases ho : ∃ v, toks[p]? = some (.op v)
    · obtain ⟨v, hv⟩ := ho
      have hlt : p < toks.length := (List.getElem?_eq_some_iff.mp hv).1
      have e1 : peekV toks p = .str [111, 112] := by unfold peekV; rw [hv]; rfl
      rw [e1]
      refine eq_s (tr_b ?_)
      refine br_t ?_
      refine tbo_one (tri_Compare (hm := by with_unfolding_all rfl) (tri_Subscript (tri_Subscript (tri_Attr (tri_Name .here (ftok (tri_Attr (tri_Name .here (fpos ?_)))))))))
      refine t2_item_list S.lst (by omega) (v := tkV (.op v)) (by simp [hv]) ?_
      refine tri_int (t2_item_tup (by decide) (v := .str v) rfl ?_)
      refine tri_Name (.there .here) (eq_s ?_)
      rw [show (toks[p]? == some (Tk.op w)) = decide (v = w) by rw [hv]; simp [Bool.beq_eq_decide_eq]] at q
      exact q
    · have e2 : (toks[p]? == some (Tk.op w)) = false := by
        cases hb : (toks[p]? == some (Tk.op w))
        · rfl
        · exact absurd ⟨w, by simpa using hb⟩ ho
      rw [e2] at q
      cases hp : toks[p]? with
      | none =>
        rw [show peekV toks p = .none by unfold peekV; rw [hp]]
        exact eq_ns (tr_b (br_f q))
      | some t =>
        rw [show peekV toks p = .str (kindOf' t) by unfold peekV; rw [hp]]
        refine eq_s (tr_b ?_)
        rw [show decide (kindOf' t = (Str.ofString "op").cps.toList) = false by
          rw [show (Str.ofString "op").cps.toList = [111, 112] by decide +kernel]
          cases t with
          | op v => exact absurd ⟨v, hp⟩ ho
          | _ => simp [kindOf']]
        exact br_f q
end
end Mine
end
section
open PySem PySem.W PyProof.Rows PySem.Calls
set_option Elab.async false
set_option maxRecDepth 100000
set_option linter.unusedVariables false
set_option linter.unusedSectionVars false
namespace Mine

def fieldsOf' (cv : V) (k p : Nat) : List (Str × V) := [("columns", cv), ("tokens", .loc k), ("pos", .int p)]

/-- nothing but the parser's fields is changed -/
structure Gr (j : Nat) (H H' : List Cell) : Prop where
  len : H.length ≤ H'.length
  keep : ∀ x, x < H.length → x ≠ j → H'[x]? = H[x]?
theorem Gr.refl {j H} : Gr j H H := ⟨Nat.le_refl _, fun _ _ _ => rfl⟩
theorem Gr.trans {j H H' H''} (a : Gr j H H') (b : Gr j H' H'') : Gr j H H'' := ⟨Nat.le_trans a.len b.len, fun x h1 h2 => (b.keep x (Nat.lt_of_lt_of_le h1 a.len) h2).trans (a.keep x h1 h2)⟩
theorem Gr.get {j H H' x c} (g : Gr j H H') (h : H[x]? = some c) (hj : x ≠ j) : H'[x]? = some c := (g.keep x (List.getElem?_eq_some_iff.mp h).1 hj).trans h
theorem Gr.set {j H c} : Gr j H (H.set j c) := ⟨by simp, fun x _ h => by rw [List.getElem?_set_ne (Ne.symm h)]⟩
theorem Gr.snoc {j H c} : Gr j H (H ++ [c]) := ⟨by simp, fun x h _ => by rw [List.getElem?_append_left h]⟩

mutual
inductive NodeAt (H : List Cell) (lo : Nat) : Nd → V → Prop where
  | t {s} : NodeAt H lo (.t s) (.tup [.str [116], .str s])
  | col {c nd v} : NodeAt H lo nd v → NodeAt H lo (.col c nd) (.tup [.str [99, 111, 108], .str c, v])
  | and {l x vs} : lo ≤ x → H[x]? = some (.list vs) → NodesAt H lo l vs → NodeAt H lo (.and l) (.tup [.str [97, 110, 100], .loc x])
  | or {l x vs} : lo ≤ x → H[x]? = some (.list vs) → NodesAt H lo l vs → NodeAt H lo (.or l) (.tup [.str [111, 114], .loc x])
  | not {nd v l x vs} : NodeAt H lo nd v → lo ≤ x → H[x]? = some (.list vs) → NodesAt H lo l vs → NodeAt H lo (.not nd l) (.tup [.str [110, 111, 116], v, .loc x])
inductive NodesAt (H : List Cell) (lo : Nat) : List Nd → List V → Prop where
  | nil : NodesAt H lo [] []
  | cons {nd v l vs} : NodeAt H lo nd v → NodesAt H lo l vs → NodesAt H lo (nd :: l) (v :: vs)
end

mutual
/-- the lists that a node uses stay -/
theorem NodeAt.move {H H' : List Cell} {lo lo' : Nat} (hl : lo' ≤ lo) (g : ∀ x vs, lo ≤ x → H[x]? = some (.list vs) → H'[x]? = some (.list vs)) : ∀ {nd v}, NodeAt H lo nd v → NodeAt H' lo' nd v
  | _, _, .t => .t
  | _, _, .col h => .col (NodeAt.move hl g h)
  | _, _, .and hx he h => .and (Nat.le_trans hl hx) (g _ _ hx he) (NodesAt.move hl g h)
  | _, _, .or hx he h => .or (Nat.le_trans hl hx) (g _ _ hx he) (NodesAt.move hl g h)
  | _, _, .not h0 hx he h => .not (NodeAt.move hl g h0) (Nat.le_trans hl hx) (g _ _ hx he) (NodesAt.move hl g h)
theorem NodesAt.move {H H' : List Cell} {lo lo' : Nat} (hl : lo' ≤ lo) (g : ∀ x vs, lo ≤ x → H[x]? = some (.list vs) → H'[x]? = some (.list vs)) : ∀ {l vs}, NodesAt H lo l vs → NodesAt H' lo' l vs
  | _, _, .nil => .nil
  | _, _, .cons h t => .cons (NodeAt.move hl g h) (NodesAt.move hl g t)
end
theorem Gr.lists {j H H'} (g : Gr j H H') (hd : ∃ fs, H[j]? = some (.dict fs)) {lo : Nat} : ∀ x vs, lo ≤ x → H[x]? = some (.list vs) → H'[x]? = some (.list vs) := fun x vs _ h => g.get h fun q => by
  subst q; obtain ⟨fs, e⟩ := hd; rw [e] at h; cases h
theorem NodeAt.grow {j lo : Nat} {H H' : List Cell} (g : Gr j H H') (hd : ∃ fs, H[j]? = some (.dict fs)) {nd v} (h : NodeAt H lo nd v) : NodeAt H' lo nd v := NodeAt.move (Nat.le_refl _) (g.lists hd) h
theorem NodesAt.grow {j lo : Nat} {H H' : List Cell} (g : Gr j H H') (hd : ∃ fs, H[j]? = some (.dict fs)) {nd v} (h : NodesAt H lo nd v) : NodesAt H' lo nd v := NodesAt.move (Nat.le_refl _) (g.lists hd) h
def OptAt (H : List Cell) (lo : Nat) : Option Nd → V → Prop
  | none, v => v = .none
  | some nd, v => NodeAt H lo nd v
theorem OptAt.move {H H' : List Cell} {lo lo' : Nat} (hl : lo' ≤ lo) (g : ∀ x vs, lo ≤ x → H[x]? = some (.list vs) → H'[x]? = some (.list vs)) {o v} (h : OptAt H lo o v) : OptAt H' lo' o v := by
  cases o with
  | none => exact h
  | some nd => exact NodeAt.move hl g h
theorem OptAt.grow {j lo : Nat} {H H' : List Cell} (g : Gr j H H') (hd : ∃ fs, H[j]? = some (.dict fs)) {o v} (h : OptAt H lo o v) : OptAt H' lo o v := OptAt.move (Nat.le_refl _) (g.lists hd) h
theorem OptAt.down {H : List Cell} {lo lo' : Nat} (hl : lo' ≤ lo) {o v} (h : OptAt H lo o v) : OptAt H lo' o v := OptAt.move hl (fun _ _ _ e => e) h
theorem NodeAt.tup {H lo nd v} (h : NodeAt H lo nd v) : ∃ xs, v = .tup xs ∧ xs.length ≠ 0 := by
  cases h <;> exact ⟨_, rfl, by simp⟩

section
variable {P : Params} {X : Cx} (hK : X.K = KK P) (NX : Names X) {n : Nat} {env : Env} {m : Loc} {H : List Cell} {i j k p : Nat} {cv : V} {toks : List Tk} {Q : V → Loc → List Cell → Prop} {QB : Bool → Loc → List Cell → Prop} {N B K : Loc → List Cell → Prop} {R : V → Loc → List Cell → Prop}

theorem PS.setPos (S : PS H i j k cv toks p) (q : Nat) : PS (H.set j (.dict (fieldsOf' cv k q))) i j k cv toks q := by
  have hij : i ≠ j := fun e => by have := S.inst.inst; rw [e, S.inst.dict] at this; cases this
  have hkj : k ≠ j := fun e => by have := S.lst; rw [e, S.inst.dict] at this; cases this
  have hj : j < H.length := (List.getElem?_eq_some_iff.mp S.inst.dict).1
  exact ⟨⟨by rw [List.getElem?_set_ne (Ne.symm hij)]; exact S.inst.inst, by rw [List.getElem?_set_self hj]; rfl⟩, by rw [List.getElem?_set_ne (Ne.symm hkj)]; exact S.lst, S.small⟩
theorem PS.snoc (S : PS H i j k cv toks p) (c : Cell) : PS (H ++ [c]) i j k cv toks p := by
  have g : ∀ {x d}, H[x]? = some d → (H ++ [c])[x]? = some d := fun h => by rw [List.getElem?_append_left (List.getElem?_eq_some_iff.mp h).1]; exact h
  exact ⟨⟨g S.inst.inst, g S.inst.dict⟩, g S.lst, S.small⟩

include hK NX
theorem fpos (S : PS H i j k cv toks p) (q : Q (.int p) m H) : T1 X n env m H (fun o => getAttr o "pos" true) (.loc i) Q := get_field S.inst (clsOk hK) (by rw [hK]; rfl) (.tail _ (.tail _ (.head _))) q
theorem ftok (S : PS H i j k cv toks p) (q : Q (.loc k) m H) : T1 X n env m H (fun o => getAttr o "tokens" true) (.loc i) Q := get_field S.inst (clsOk hK) (by rw [hK]; rfl) (.tail _ (.head _)) q
theorem spos (S : PS H i j k cv toks p) (q' : Nat) (q : N m (H.set j (.dict (fieldsOf' cv k q')))) : ∀ a b, TriP X n env (fun _ _ (_ : Unit) (_ : Unit) => True) (fun η h => Den X η h (.loc i) a ∧ Den X η h (.int q') b) m H (setAttr a "pos" b) (fun _ => N) :=
  set_field S.inst (clsOk hK) (by rw [hK]; rfl) (.there (by decide) (.there (by decide) .here)) (by show 3 ≤ 900; omega) (.inl (by simp)) q

/-- self.pos += 1 -/
theorem ts_pos {a b c : Pos} {d : Pos} {kk} (hl : LkL m "self" (.loc i)) (S : PS H i j k cv toks p) (q : N m (H.set j (.dict (fieldsOf' cv k (p + 1))))) :
    TS X n env m H (exec (.AugAssign (.Attribute (.Name "self" a) "pos" b) .Add (.Constant (.int 1) kk c) d) env) N B K R := by
  refine ts_Aug_Attr (tri_Name hl fun oa => fpos hK NX S (tri_int (iadd_i fun x y => ?_)) oa)
  have e : ((p : Int) + 1) = ((p + 1 : Nat) : Int) := by omega
  rw [e]
  exact spos hK NX S (p + 1) q x y

/-- self._peek() == w -/
theorem eq_peek {w : List Nat} (q : Q (.bool (toks[p]?.map kindOf' == some w)) m H) : T2 X n env m H (compareOp .Eq) (peekV toks p) (.str w) Q := by
  unfold peekV
  cases h : toks[p]? with
  | none => rw [h] at q; exact eq_ns q
  | some t => rw [h] at q; exact eq_s (by simpa [Bool.beq_eq_decide_eq] using q)

/-- self.tokens[self.pos][1] -/
theorem e_text {a a2 b c d e f : Pos} {kk t} (hl : LkL m "self" (.loc i)) (S : PS H i j k cv toks p) (ht : toks[p]? = some t) (q : Q (txtOf t) m H) :
    TE X n env m H (eval (.Subscript (.Subscript (.Attribute (.Name "self" a) "tokens" b) (.Attribute (.Name "self" a2) "pos" c) d) (.Constant (.int 1) kk e) f) env) Q := by
  have hlt : p < toks.length := (List.getElem?_eq_some_iff.mp ht).1
  refine tri_Subscript (tri_Subscript (tri_Attr (tri_Name hl (ftok hK NX S (tri_Attr (tri_Name hl (fpos hK NX S ?_)))))))
  refine t2_item_list S.lst (by omega) (v := tkV t) (by simp [ht]) ?_
  exact tri_int (t2_item_tup (by decide) (v := txtOf t) rfl q)
end
end Mine
end
section
open PySem PySem.W PyProof.Rows PySem.Calls
set_option Elab.async false
set_option maxRecDepth 100000
set_option linter.unusedVariables false
set_option linter.unusedSectionVars false
namespace Mine
theorem nofree : (some NameKind.local) ≠ some NameKind.free := by decide
section
variable {X : Cx} {n : Nat} {env : Env} {m : Loc} {H : List Cell} {N B K J : Loc → List Cell → Prop} {R : V → Loc → List Cell → Prop}
/-- a statement whose ways meet again -/
theorem ts_cut {st rest} (J : Loc → List Cell → Prop) (h : TS X n env m H (exec st env) J B K R) (k : ∀ m H, J m H → TS X n env m H (execs rest env) N B K R) : TS X n env m H (execs (st :: rest) env) N B K R :=
  ts_cons (TriP.mono h fun a m H q => by
    cases a with
    | next => exact k m H q
    | _ => exact q)
end
section
variable {P : Params} {X : Cx} (hK : X.K = KK P) (NX : Names X) {n d : Nat} {env : Env} {m : Loc} {H : List Cell} {i j k p : Nat} {cv : V} {toks : List Tk} {Q : V → Loc → List Cell → Prop} {QB : Bool → Loc → List Cell → Prop} {N B K : Loc → List Cell → Prop} {R : V → Loc → List Cell → Prop}

def csV : Option (List Nat) → V
  | some c => .str c
  | none => .none
/-- what is left of an operand when its signs are read -/
def atomTail (toks : List Tk) (orF : Nat → Option Nd × Nat) (cs : Option (List Nat)) (neg : Bool) (p : Nat) : (Option Nd × Bool) × Nat :=
  let fin (nd : Option Nd) (q : Nat) : (Option Nd × Bool) × Nat := ((match nd, cs with
    | some nd, some c => if c = [] then some nd else some (.col c nd)
    | nd, _ => nd, neg), q)
  match toks[p]? with
  | some (.term t) => fin (some (.t t)) (p + 1)
  | some .lp => fin (orF (p + 1)).1 (if toks[(orF (p + 1)).2]? == some .rp then (orF (p + 1)).2 + 1 else (orF (p + 1)).2)
  | _ => ((none, false), p)
theorem atom_none {toks orF p neg1 p1} (h1 : (toks[p]? == some Tk.neg) = neg1) (h2 : (if neg1 then p + 1 else p) = p1) (h3 : ∀ c, toks[p1]? ≠ some (.col c)) : atomF toks orF p = atomTail toks orF none neg1 p1 := by
  unfold atomF atomTail
  simp only [h1, h2]
  cases h : toks[p1]? with
  | none => simp [h]
  | some t => cases t <;> first | (exact absurd h (h3 _)) | simp [h]
theorem atom_some {toks orF p neg1 p1 c neg2 p3} (h1 : (toks[p]? == some Tk.neg) = neg1) (h2 : (if neg1 then p + 1 else p) = p1) (h3 : toks[p1]? = some (.col c)) (h4 : (toks[p1 + 1]? == some Tk.neg) = neg2) (h5 : (if neg2 then p1 + 1 + 1 else p1 + 1) = p3) :
    atomF toks orF p = atomTail toks orF (some c) (neg1 || neg2) p3 := by
  unfold atomF atomTail
  simp only [h1, h2, h3, Option.isSome_some, if_true, h4, Bool.true_and, h5]
  all_goals (rcases h : toks[p3]? with _ | t)
  all_goals (first | rfl | (cases t <;> rfl))
theorem opens_lp {toks : List Tk} {a : Nat} (h : toks[a]? = some .lp) : opens (toks.drop a) = opens (toks.drop (a + 1)) + 1 := by
  have hlt := (List.getElem?_eq_some_iff.mp h).1
  rw [List.drop_eq_getElem_cons hlt, (List.getElem?_eq_some_iff.mp h).2]
  unfold opens
  rw [List.filter_cons_of_pos (by rfl)]; simp
theorem opens_drop {toks : List Tk} {a b : Nat} (h : a ≤ b) : opens (toks.drop b) ≤ opens (toks.drop a) := by
  unfold opens
  obtain ⟨c, rfl⟩ := Nat.le.dest h
  rw [← List.drop_drop]
  exact List.Sublist.length_le ((List.drop_sublist _ _).filter _)

def colNd (cs : Option (List Nat)) (nd : Option Nd) : Option Nd := match nd, cs with
  | some nd, some c => if c = [] then some nd else some (.col c nd)
  | nd, _ => nd

/-- the locals of _parse_atom -/
abbrev aL (i : Nat) (a b c d : Option V) : Loc := [("self", some (.loc i)), ("negate", a), ("colspec", b), ("token", c), ("node", d)]

/-- a call of _parse_or -/
def OrOk (X : Cx) (n : Nat) (i j k : Nat) (cv : V) (toks : List Tk) (d : Nat) : Prop :=
  ∀ {env m H p Q}, PS H i j k cv toks p → opens (toks.drop p) < d → (∀ H' v, PS H' i j k cv toks (orD toks d p).2 → Gr j H H' → OptAt H' H.length (orD toks d p).1 v → Q v m H') → CN X n env m H (.ref 92) [.loc i] Q

set_option maxHeartbeats 4000000
include hK NX
theorem atom_ok (O : OrOk X (n + 1) i j k cv toks d) (S : PS H i j k cv toks p) (ho : opens (toks.drop p) < d + 1)
    (q : ∀ H' v, PS H' i j k cv toks (atomF toks (orD toks d) p).2 → Gr j H H' → OptAt H' H.length (atomF toks (orD toks d) p).1.1 v → Q (.tup [v, .bool (atomF toks (orD toks d) p).1.2]) m H') : CN X (n + 2) env m H (.ref 113) [.loc i] Q := by
  refine cn_call (names := ["self"]) (ws := []) (ds := []) (by rw [hK]; rfl) (by rw [hK]; rfl) rfl rfl rfl rfl (by decide +kernel) rfl (fun s cvs hin hl => ?_) (fun _ _ => by unfold DenL; rfl) ?_
  · obtain ⟨c, rfl⟩ : ∃ c, cvs = [c] := by
      match cvs, hl with
      | [c], _ => exact ⟨c, rfl⟩
    exact BindsTo.of_eq rfl
  · intro env' hsc hcode
    obtain ⟨sc, lo, gl, ce, qu, fu, co, fr, bi⟩ := env'
    simp only at hsc hcode
    subst hsc hcode
    show TS X (n + 1) _ [("self", some (.loc i)), ("negate", none), ("colspec", none), ("token", none), ("node", none)] H (execs _ _) _ _ _ _
    have hd : ∀ {H' q}, PS H' i j k cv toks q → ∃ fs, H'[j]? = some (.dict fs) := fun S => ⟨_, S.inst.dict⟩
    refine ts_cons (ts_Assign_Name (hfree := nofree) (tri_Compare (hm := by with_unfolding_all rfl) (e_peek hK NX .here S (tri_str (eq_peek hK NX ⟨_, .there .here, ?_⟩)))))
    have hp0 : (toks[p]?.map kindOf' == some (Str.ofString "neg").cps.toList) = (toks[p]? == some Tk.neg) := by
      rw [show (Str.ofString "neg").cps.toList = [110, 101, 103] by decide +kernel]
      cases toks[p]? with
      | none => rfl
      | some t => cases t <;> simp [kindOf'] <;> rfl
    rw [hp0]
    generalize hn1 : (toks[p]? == some Tk.neg) = neg1
    generalize hp1 : (if neg1 then p + 1 else p) = p1
    refine ts_cut (fun m' H' => m' = aL i (some (.bool neg1)) none none none ∧ PS H' i j k cv toks p1 ∧ Gr j H H') (ts_If (tb_plain (tri_Name (.there .here) (tr_b ?_)))) ?_
    · refine br_c (fun hb => ?_) (fun hb => ?_)
      · rw [hb] at hp1
        refine ts_cons (ts_pos hK NX .here S (ts_nil ⟨by rw [hb], ?_, Gr.set⟩))
        rw [← hp1]
        exact S.setPos (p + 1)
      · rw [hb] at hp1
        refine ts_nil ⟨by rw [hb], ?_, Gr.refl⟩
        rw [← hp1]
        exact S
    rintro _ H1 ⟨rfl, S1, G1⟩
    refine ts_cons (ts_Assign_Name (hfree := nofree) (tri_none ⟨_, .there (.there .here), ?_⟩))
    have hpp1 : p ≤ p1 := by rw [← hp1]; split <;> omega
    refine ts_cut (fun m' H' => ∃ cs neg p3, m' = aL i (some (.bool neg)) (some (csV cs)) none none ∧ PS H' i j k cv toks p3 ∧ Gr j H H' ∧ p ≤ p3 ∧ (∀ c, cs = some c → c.length ≤ 100000) ∧ ∀ orF, atomF toks orF p = atomTail toks orF cs neg p3) ?_ ?_
    · refine ts_If (tb_Compare (hm := by with_unfolding_all rfl) (e_peek hK NX .here S1 ?_))
      refine tri_str (eq_peek hK NX (tr_b ?_))
      rw [show (Str.ofString "col").cps.toList = [99, 111, 108] by decide +kernel]
      by_cases hcol : ∃ c, toks[p1]? = some (.col c)
      · obtain ⟨c, hc⟩ := hcol
        rw [hc]
        refine br_t ?_
        refine ts_cons (ts_Assign_Name (hfree := nofree) (e_text hK NX .here S1 hc ?_))
        refine ⟨_, .there (.there .here), ?_⟩
        refine ts_cons (ts_pos hK NX .here S1 ?_)
        have S2 := S1.setPos (p1 + 1)
        have G2 : Gr j H _ := G1.trans (Gr.set (c := .dict (fieldsOf' cv k (p1 + 1))))
        refine ts_cons (ts_If (tb_Compare (hm := by with_unfolding_all rfl) (e_peek hK NX .here S2 (tri_str (eq_peek hK NX (tr_b ?_))))))
        have hp2 : (toks[p1 + 1]?.map kindOf' == some (Str.ofString "neg").cps.toList) = (toks[p1 + 1]? == some Tk.neg) := by
          rw [show (Str.ofString "neg").cps.toList = [110, 101, 103] by decide +kernel]
          cases toks[p1 + 1]? with
          | none => rfl
          | some t => cases t <;> simp [kindOf'] <;> rfl
        rw [hp2]
        generalize hn2 : (toks[p1 + 1]? == some Tk.neg) = neg2
        refine br_c (fun hb => ?_) (fun hb => ?_)
        · subst hb
          refine ts_cons (ts_Assign_Name (hfree := nofree) (tri_bool ⟨_, .there .here, ?_⟩))
          refine ts_cons (ts_pos hK NX .here S2 (ts_nil (ts_nil ⟨some c, true, p1 + 1 + 1, rfl, S2.setPos _, G2.trans Gr.set, by omega, (fun c' e => by cases e; exact S.small.2 c (List.mem_of_getElem? hc)), fun orF => ?_⟩)))
          have := atom_some (orF := orF) hn1 hp1 hc hn2 rfl
          simpa using this
        · subst hb
          refine ts_nil (ts_nil ⟨some c, neg1, p1 + 1, rfl, S2, G2, by omega, (fun c' e => by cases e; exact S.small.2 c (List.mem_of_getElem? hc)), fun orF => ?_⟩)
          have := atom_some (orF := orF) hn1 hp1 hc hn2 rfl
          simpa using this
      · have e : (toks[p1]?.map kindOf' == some [99, 111, 108]) = false := by
          cases h : toks[p1]? with
          | none => rfl
          | some t => cases t with
            | col c => exact absurd ⟨c, h⟩ hcol
            | _ => simp [kindOf']
        rw [e]
        exact br_f (ts_nil ⟨none, neg1, p1, rfl, S1, G1, hpp1, (fun c e => by cases e), fun orF => atom_none hn1 hp1 fun c h => hcol ⟨c, h⟩⟩)
    rintro _ H2 ⟨cs, neg, p3, rfl, S3, G3, hp3, hcs, hat⟩
    refine ts_cons (ts_Assign_Name (hfree := nofree) (e_peek hK NX .here S3 ⟨_, .there (.there (.there .here)), ?_⟩))
    refine ts_cut (fun m' H' => ∃ tv nd v q, m' = aL i (some (.bool neg)) (some (csV cs)) (some tv) (some v) ∧ PS H' i j k cv toks q ∧ Gr j H H' ∧ OptAt H' H.length nd v ∧ atomF toks (orD toks d) p = ((colNd cs nd, neg), q)) ?_ ?_
    · refine ts_If (tb_Compare (hm := by with_unfolding_all rfl) (tri_Name (.there (.there (.there .here))) ?_))
      refine tri_str (eq_peek hK NX (tr_b ?_))
      rw [show (Str.ofString "term").cps.toList = [116, 101, 114, 109] by decide +kernel]
      by_cases hterm : ∃ t, toks[p3]? = some (.term t)
      · obtain ⟨t, ht⟩ := hterm
        rw [ht]
        refine br_t ?_
        refine ts_cons (ts_Assign_Name (hfree := nofree) (tri_Tuple (tx_cons (tri_str (tx_cons (e_text hK NX .here S3 ht (tx_nil ?_)))))))
        refine ⟨by show 2 ≤ sizeLine; decide, _, .there (.there (.there (.there .here))), ?_⟩
        refine ts_cons (ts_pos hK NX .here S3 (ts_nil ⟨_, some (.t t), _, p3 + 1, rfl, S3.setPos _, G3.trans Gr.set, .t, ?_⟩))
        rw [hat]
        unfold atomTail colNd
        rw [ht]
      · have e : (toks[p3]?.map kindOf' == some [116, 101, 114, 109]) = false := by
          cases h : toks[p3]? with
          | none => rfl
          | some t => cases t with
            | term t => exact absurd ⟨t, h⟩ hterm
            | _ => simp [kindOf']
        rw [e]
        refine br_f (ts_cons (ts_If (tb_Compare (hm := by with_unfolding_all rfl) (tri_Name (.there (.there (.there .here))) ?_))))
        refine tri_str (eq_peek hK NX (tr_b ?_))
        rw [show (Str.ofString "(").cps.toList = [40] by decide +kernel]
        by_cases hlp : toks[p3]? = some .lp
        · rw [hlp]
          refine br_t ?_
          refine ts_cons (ts_pos hK NX .here S3 ?_)
          have S5 := S3.setPos (p3 + 1)
          have G5 : Gr j H _ := G3.trans (Gr.set (c := .dict (fieldsOf' cv k (p3 + 1))))
          have hop : opens (toks.drop (p3 + 1)) < d := by
            have h1 := opens_lp hlp
            have h2 := opens_drop (toks := toks) hp3
            omega
          refine ts_cons (ts_Assign_Name (hfree := nofree) (e_meth hK NX rfl rfl rfl .here S5.inst (show ("_parse_or" : Str) ∉ (["columns", "tokens", "pos"] : List Str) by decide) (tx_nil (O S5 hop fun H6 v6 S6 G6 hv6 => ?_))))
          refine ⟨_, .there (.there (.there (.there .here))), ?_⟩
          refine ts_cons (ts_If (tb_Compare (hm := by with_unfolding_all rfl) (e_peek hK NX .here S6 ?_)))
          refine tri_str (eq_peek hK NX (tr_b ?_))
          have hrp : (toks[(orD toks d (p3 + 1)).2]?.map kindOf' == some (Str.ofString ")").cps.toList) = (toks[(orD toks d (p3 + 1)).2]? == some Tk.rp) := by
            rw [show (Str.ofString ")").cps.toList = [41] by decide +kernel]
            cases toks[(orD toks d (p3 + 1)).2]? with
            | none => rfl
            | some t => cases t <;> simp [kindOf'] <;> rfl
          rw [hrp]
          have hfin : ∀ b, (toks[(orD toks d (p3 + 1)).2]? == some Tk.rp) = b → atomF toks (orD toks d) p = ((colNd cs (orD toks d (p3 + 1)).1, neg), if b then (orD toks d (p3 + 1)).2 + 1 else (orD toks d (p3 + 1)).2) := fun b hb => by
            rw [hat]
            unfold atomTail colNd
            rw [hlp, ← hb]
          refine br_c (fun hb => ?_) (fun hb => ?_)
          · refine ts_cons (ts_pos hK NX .here S6 (ts_nil (ts_nil (ts_nil ⟨_, (orD toks d (p3 + 1)).1, v6, _, rfl, S6.setPos _, G5.trans (G6.trans Gr.set), OptAt.down G5.len (OptAt.grow Gr.set (hd S6) hv6), hfin true hb⟩))))
          · exact ts_nil (ts_nil (ts_nil ⟨_, (orD toks d (p3 + 1)).1, v6, _, rfl, S6, G5.trans G6, OptAt.down G5.len hv6, hfin false hb⟩))
        · have e : (toks[p3]?.map kindOf' == some [40]) = false := by
            cases h : toks[p3]? with
            | none => rfl
            | some t => cases t with
              | lp => exact absurd h hlp
              | _ => simp [kindOf']
          rw [e]
          refine br_f (ts_cons (ts_Return (tri_Tuple (tx_cons (tri_none (tx_cons (tri_bool (tx_nil ?_))))))))
          refine ⟨by show 2 ≤ sizeLine; decide, ?_⟩
          have he : atomF toks (orD toks d) p = ((none, false), p3) := by
            rw [hat]
            unfold atomTail
            cases h : toks[p3]? with
            | none => rfl
            | some t => cases t with
              | lp => exact absurd h hlp
              | term t => exact absurd ⟨t, h⟩ hterm
              | _ => rfl
          rw [he] at q
          exact q _ .none S3 G3 rfl
    · rintro _ H4 ⟨tv, nd, v, q4, rfl, S4, G4, hv, he⟩
      rw [he] at q
      have fin : ∀ {w}, OptAt H4 H.length (colNd cs nd) w → Q (.tup [w, .bool neg]) m H4 := fun hw => q _ _ S4 G4 hw
      refine ts_cons (ts_Return (tri_Tuple (tx_cons (tri_IfExp (tb_BoolOp (ta_and (tb_plain (tri_Name (.there (.there (.there (.there .here)))) ?_))))))))
      have fin2 : ∀ {w}, OptAt H4 H.length (colNd cs nd) w → [w, V.bool neg].length ≤ sizeLine ∧ Q (.tup [w, .bool neg]) m H4 := fun hw => ⟨by show 2 ≤ sizeLine; decide, fin hw⟩
      cases nd with
      | none =>
        have hv' : v = .none := hv
        subst hv'
        refine tr_n (br_f (br_f (tri_Name (.there (.there (.there (.there .here)))) (tx_cons (tri_Name (.there .here) (tx_nil (fin2 ?_)))))))
        cases cs <;> rfl
      | some nd =>
        obtain ⟨xs, rfl, hxs⟩ := NodeAt.tup hv
        refine tr_t ?_
        rw [decide_eq_true hxs]
        refine br_t (ta_and (tb_plain (tri_Name (.there (.there .here)) ?_)))
        cases cs with
        | none =>
          refine tr_n (br_f (br_f (tri_Name (.there (.there (.there (.there .here)))) (tx_cons (tri_Name (.there .here) (tx_nil (fin2 hv)))))))
        | some c =>
          refine tr_s ?_ ?_
          · have := hcs c rfl; have : sizeLine = 16777216 := rfl; omega
          by_cases hc : c = []
          · rw [show decide (c ≠ []) = false by simp [hc]]
            refine br_f (br_f (tri_Name (.there (.there (.there (.there .here)))) (tx_cons (tri_Name (.there .here) (tx_nil (fin2 ?_))))))
            show OptAt H4 H.length (if c = [] then some nd else some (.col c nd)) _
            rw [if_pos hc]; exact hv
          · rw [show decide (c ≠ []) = true by simp [hc]]
            refine br_t (ta_nil_and (br_t (tri_Tuple (tx_cons (tri_str (tx_cons (tri_Name (.there (.there .here)) (tx_cons (tri_Name (.there (.there (.there (.there .here)))) (tx_nil ?_)))))))))) 
            refine ⟨by show 3 ≤ sizeLine; decide, tx_cons (tri_Name (.there .here) (tx_nil (fin2 ?_)))⟩
            show OptAt H4 H.length (if c = [] then some nd else some (.col c nd)) _
            rw [if_neg hc]
            exact .col hv
end
end Mine
end
section
open PySem
set_option Elab.async false
set_option linter.unusedVariables false
namespace Mine
section
variable {toks : List Tk} {orF : Nat → Option Nd × Nat} (ho : ∀ p, p ≤ (orF p).2)
include ho
theorem atomTail_ge {cs neg p} : p ≤ (atomTail toks orF cs neg p).2 := by
  unfold atomTail
  cases h : toks[p]? with
  | none => exact Nat.le_refl _
  | some t =>
    cases t with
    | term t => exact Nat.le_succ _
    | lp =>
      have := ho (p + 1)
      show p ≤ if _ then _ else _
      split
      · exact Nat.le_succ_of_le (Nat.le_of_succ_le this)
      · exact Nat.le_of_succ_le this
    | _ => exact Nat.le_refl _
theorem atomF_ge {p} : p ≤ (atomF toks orF p).2 := by
  generalize hn1 : (toks[p]? == some Tk.neg) = neg1
  generalize hp1 : (if neg1 then p + 1 else p) = p1
  have h1 : p ≤ p1 := by rw [← hp1]; split <;> omega
  by_cases hcol : ∃ c, toks[p1]? = some (.col c)
  · obtain ⟨c, hc⟩ := hcol
    generalize hn2 : (toks[p1 + 1]? == some Tk.neg) = neg2
    generalize hp3 : (if neg2 then p1 + 1 + 1 else p1 + 1) = p3
    have h3 : p1 ≤ p3 := by rw [← hp3]; split <;> omega
    rw [atom_some hn1 hp1 hc hn2 hp3]
    exact Nat.le_trans (Nat.le_trans h1 h3) (atomTail_ge ho)
  · rw [atom_none hn1 hp1 fun c h => hcol ⟨c, h⟩]
    exact Nat.le_trans h1 (atomTail_ge ho)
theorem notLoop_ge : ∀ {f nd p}, p ≤ (notLoop toks orF f nd p).2
  | 0, nd, p => Nat.le_refl _
  | f + 1, nd, p => by
    unfold notLoop
    split
    · have h1 := atomF_ge (toks := toks) ho (p := p + 1)
      exact Nat.le_trans (by omega) (Nat.le_trans h1 notLoop_ge)
    · exact Nat.le_refl _
theorem notF_ge {p} : p ≤ (notF toks orF p).2 := by
  unfold notF
  exact Nat.le_trans (atomF_ge ho) (notLoop_ge ho)
theorem andLoop_ge : ∀ {f ps ns p}, p ≤ (andLoop toks orF f ps ns p).2
  | 0, ps, ns, p => Nat.le_refl _
  | f + 1, ps, ns, p => by
    have step : ∀ {q}, p ≤ q → ∀ {ps ns}, p ≤ (andLoop toks orF f ps ns q).2 := fun h => Nat.le_trans h andLoop_ge
    have hn := notF_ge (toks := toks) ho (p := p)
    unfold andLoop
    split
    · split
      · exact Nat.le_refl _
      · exact step (Nat.le_succ _)
    · exact Nat.le_refl _
    · exact Nat.le_refl _
    · dsimp only
      split
      · split
        · exact step hn
        · exact step hn
      · exact step hn
theorem andF_ge {p} : p ≤ (andF toks orF p).2 := by
  unfold andF
  exact andLoop_ge ho
theorem orLoop_ge : ∀ {f l p}, p ≤ (orLoop toks orF f l p).2
  | 0, l, p => Nat.le_refl _
  | f + 1, l, p => by
    unfold orLoop
    split
    · have h1 := andF_ge (toks := toks) ho (p := p + 1)
      exact Nat.le_trans (by omega) (Nat.le_trans h1 orLoop_ge)
    · exact Nat.le_refl _
theorem orStep_ge {p} : p ≤ (orStep toks orF p).2 := by
  unfold orStep
  exact Nat.le_trans (andF_ge ho) (orLoop_ge ho)
end
section
variable {toks : List Tk} {orF : Nat → Option Nd × Nat} (ho : ∀ p, p ≤ (orF p).2)
include ho
/-- an operand takes at least one token -/
theorem atomF_gt {p t} (h : toks[p]? = some t) (h1 : t ≠ .rp) (h2 : ∀ w, t ≠ .op w) : p < (atomF toks orF p).2 := by
  cases t with
  | rp => exact absurd rfl h1
  | op w => exact absurd rfl (h2 w)
  | neg =>
    have hn : (toks[p]? == some Tk.neg) = true := by rw [h]; rfl
    by_cases hcol : ∃ c, toks[p + 1]? = some (.col c)
    · obtain ⟨c, hc⟩ := hcol
      rw [atom_some hn rfl (by simpa using hc) rfl rfl]
      exact Nat.lt_of_lt_of_le (by simp only [if_true]; split <;> omega) (atomTail_ge ho)
    · rw [atom_none hn rfl fun c hh => hcol ⟨c, by simpa using hh⟩]
      exact Nat.lt_of_lt_of_le (by simp) (atomTail_ge ho)
  | col c =>
    have hn : (toks[p]? == some Tk.neg) = false := by rw [h]; rfl
    rw [atom_some hn rfl (by simpa using h) rfl rfl]
    exact Nat.lt_of_lt_of_le (by simp only [Bool.false_eq_true, if_false]; split <;> omega) (atomTail_ge ho)
  | term t =>
    have hn : (toks[p]? == some Tk.neg) = false := by rw [h]; rfl
    rw [atom_none hn rfl fun c hh => by simp [h] at hh]
    unfold atomTail
    simp [h]
  | lp =>
    have hn : (toks[p]? == some Tk.neg) = false := by rw [h]; rfl
    rw [atom_none hn rfl fun c hh => by simp [h] at hh]
    unfold atomTail
    simp only [Bool.false_eq_true, if_false, h]
    have := ho (p + 1)
    split
    · exact Nat.lt_succ_of_le (Nat.le_of_succ_le this)
    · exact this
theorem notF_gt {p t} (h : toks[p]? = some t) (h1 : t ≠ .rp) (h2 : ∀ w, t ≠ .op w) : p < (notF toks orF p).2 := by
  unfold notF
  exact Nat.lt_of_lt_of_le (atomF_gt ho h h1 h2) (notLoop_ge ho)
end
theorem orD_ge {toks} : ∀ {d p}, p ≤ (orD toks d p).2
  | 0, p => Nat.le_refl _
  | d + 1, p => orStep_ge fun p => orD_ge
end Mine
end
section
open PySem PySem.W PyProof.Rows PySem.Calls
set_option Elab.async false
set_option maxRecDepth 100000
set_option linter.unusedVariables false
set_option linter.unusedSectionVars false
namespace Mine
section
variable {P : Params} {X : Cx} (hK : X.K = KK P) (NX : Names X) {n d : Nat} {env : Env} {m : Loc} {H : List Cell} {i j k p : Nat} {cv : V} {toks : List Tk} {Q : V → Loc → List Cell → Prop} {QB : Bool → Loc → List Cell → Prop} {N B K : Loc → List Cell → Prop} {R : V → Loc → List Cell → Prop}

/-- a while loop by an invariant and a measure -/
theorem tw_ind {ι : Type} (I : ι → Loc → List Cell → Prop) (μ : ι → Nat) {test : Expr} {body : List Stmt} (step : ∀ x m H, I x m H → (∀ y m' H', μ y < μ x → I y m' H' → TW X n env m' H' test body [] N R) → TW X n env m H test body [] N R) :
    ∀ x m H, I x m H → TW X n env m H test body [] N R := by
  intro x
  generalize hk : μ x = k
  induction k using Nat.strongRecOn generalizing x with
  | ind k ih =>
    intro m H hI
    exact step x m H hI fun y m' H' hlt hI' => ih (μ y) (hk ▸ hlt) y rfl m' H' hI'

/-- the locals of _parse_not -/
abbrev nL (i : Nat) (a b c d : Option V) : Loc := [("self", some (.loc i)), ("node", a), ("negate", b), ("right", c), ("_", d)]

set_option maxHeartbeats 4000000
include hK NX
/-- self._is_op(w) -/
theorem e_is_op {a b c e : Pos} {kk} {w : Str} (hl : LkL m "self" (.loc i)) (S : PS H i j k cv toks p) (q : Q (.bool (toks[p]? == some (.op w.cps.toList))) m H) (hline : (b.endLine == c.line) = true := by rfl) :
    TE X (n + 2) env m H (eval (.Call (.Attribute (.Name "self" a) "_is_op" b) [.Constant (.str w) kk e] [] c) env) Q :=
  e_meth hK NX rfl rfl rfl hl S.inst (show ("_is_op" : Str) ∉ (["columns", "tokens", "pos"] : List Str) by decide) (tx_cons (tri_str (tx_nil (is_op_ok hK NX S q)))) rfl hline

/-- self._parse_atom() -/
theorem e_atom {a b c : Pos} (O : OrOk X (n + 1) i j k cv toks d) (hl : LkL m "self" (.loc i)) (S : PS H i j k cv toks p) (ho : opens (toks.drop p) < d + 1)
    (q : ∀ H' v, PS H' i j k cv toks (atomF toks (orD toks d) p).2 → Gr j H H' → OptAt H' H.length (atomF toks (orD toks d) p).1.1 v → Q (.tup [v, .bool (atomF toks (orD toks d) p).1.2]) m H') (hline : (b.endLine == c.line) = true := by rfl) :
    TE X (n + 2) env m H (eval (.Call (.Attribute (.Name "self" a) "_parse_atom" b) [] [] c) env) Q :=
  e_meth hK NX rfl rfl rfl hl S.inst (show ("_parse_atom" : Str) ∉ (["columns", "tokens", "pos"] : List Str) by decide) (tx_nil (atom_ok hK NX O S ho q)) rfl hline

theorem not_ok (O : OrOk X (n + 1) i j k cv toks d) (S : PS H i j k cv toks p) (ho : opens (toks.drop p) < d + 1)
    (q : ∀ H' v, PS H' i j k cv toks (notF toks (orD toks d) p).2 → Gr j H H' → OptAt H' H.length (notF toks (orD toks d) p).1.1 v → Q (.tup [v, .bool (notF toks (orD toks d) p).1.2]) m H') : CN X (n + 3) env m H (.ref 106) [.loc i] Q := by
  refine cn_call (names := ["self"]) (ws := []) (ds := []) (by rw [hK]; rfl) (by rw [hK]; rfl) rfl rfl rfl rfl (by decide +kernel) rfl (fun s cvs hin hl => ?_) (fun _ _ => by unfold DenL; rfl) ?_
  · obtain ⟨c, rfl⟩ : ∃ c, cvs = [c] := by
      match cvs, hl with
      | [c], _ => exact ⟨c, rfl⟩
    exact BindsTo.of_eq rfl
  · intro env' hsc hcode
    obtain ⟨sc, lo, gl, ce, qu, fu, co, fr, bi⟩ := env'
    simp only at hsc hcode
    subst hsc hcode
    show TS X (n + 2) _ (nL i none none none none) H (execs _ _) _ _ _ _
    have hd : ∀ {H' q}, PS H' i j k cv toks q → ∃ fs, H'[j]? = some (.dict fs) := fun S => ⟨_, S.inst.dict⟩
    refine ts_cons (ts_Assign_Tuple (e_atom hK NX O .here S ho fun H1 v1 S1 G1 hv1 => ?_))
    refine ta_Tuple2 (.there .here) (.there (.there .here)) ?_ nofree nofree
    have hge : p ≤ (atomF toks (orD toks d) p).2 := atomF_ge (fun p => orD_ge)
    have hnf : notF toks (orD toks d) p = ((
        (notLoop toks (orD toks d) (toks.length + 1) (atomF toks (orD toks d) p).1.1 (atomF toks (orD toks d) p).2).1, (atomF toks (orD toks d) p).1.2), (notLoop toks (orD toks d) (toks.length + 1) (atomF toks (orD toks d) p).1.1 (atomF toks (orD toks d) p).2).2) := rfl
    rw [hnf] at q
    generalize atomF toks (orD toks d) p = at1 at *
    obtain ⟨⟨nd1, neg⟩, p1⟩ := at1
    dsimp only at *
    generalize hres : notLoop toks (orD toks d) (toks.length + 1) nd1 p1 = res at *
    refine ts_cut (fun m' H' => ∃ a b v, m' = nL i (some v) (some (.bool neg)) a b ∧ PS H' i j k cv toks res.2 ∧ Gr j H H' ∧ OptAt H' H.length res.1 v) (ts_While ?_) ?_
    · refine tw_ind (fun (x : Nat × Option Nd × Nat) m' H' => ∃ a b v, m' = nL i (some v) (some (.bool neg)) a b ∧ PS H' i j k cv toks x.2.2 ∧ Gr j H H' ∧ OptAt H' H.length x.2.1 v ∧ toks.length < x.1 + x.2.2 ∧ notLoop toks (orD toks d) x.1 x.2.1 x.2.2 = res ∧ p ≤ x.2.2) (fun x => x.1) ?_ (toks.length + 1, nd1, p1) _ _ ⟨none, none, v1, rfl, S1, G1, hv1, by omega, hres, hge⟩
      rintro ⟨f, nd, pp⟩ _ H2 ⟨a, b, v, rfl, S2, G2, hv2, hf, hr, hpp⟩ ih
      dsimp only at *
      refine tw_turn (tb_plain (e_is_op hK NX .here S2 (tr_b ?_)))
      rw [show (Str.ofString "NOT").cps.toList = cNOT by decide +kernel]
      cases hb : (toks[pp]? == some (Tk.op cNOT)) with
      | false =>
        have e : notLoop toks (orD toks d) f nd pp = (nd, pp) := by
          cases f with
          | zero => rfl
          | succ f => unfold notLoop; rw [hb]; rfl
        rw [e] at hr
        subst hr
        exact br_f ⟨a, b, v, rfl, S2, G2, hv2⟩
      | true =>
        have hlt : pp < toks.length := by
          have : toks[pp]? = some (Tk.op cNOT) := by simpa using hb
          exact (List.getElem?_eq_some_iff.mp this).1
        obtain ⟨f', rfl⟩ : ∃ f', f = f' + 1 := ⟨f - 1, by omega⟩
        unfold notLoop at hr
        rw [hb] at hr
        have S3 := S2.setPos (pp + 1)
        have G3 : Gr j H _ := G2.trans (Gr.set (c := .dict (fieldsOf' cv k (pp + 1))))
        have hv3 := OptAt.grow (Gr.set (c := .dict (fieldsOf' cv k (pp + 1)))) (hd S2) hv2
        have hge2 : pp + 1 ≤ (atomF toks (orD toks d) (pp + 1)).2 := atomF_ge (fun p => orD_ge)
        have hop := opens_drop (toks := toks) (show p ≤ pp + 1 by omega)
        refine br_t (ts_cons (ts_pos hK NX .here S2 ?_))
        refine ts_cons (ts_Assign_Tuple (e_atom hK NX O .here S3 (by omega) fun H4 v4 S4 G4 hv4 => ?_))
        refine ta_Tuple2 (.there (.there (.there .here))) (.there (.there (.there (.there .here)))) ?_ nofree nofree
        have hv5 := OptAt.grow G4 (hd S3) hv3
        have GG3 := G3.len
        generalize atomF toks (orD toks d) (pp + 1) = at2 at *
        obtain ⟨⟨nr, ng⟩, p4⟩ := at2
        dsimp only at *
        simp only [if_true] at hr
        have GG := G3.trans G4
        refine ts_cons (ts_If (tb_BoolOp (ta_and (tb_plain (tri_Name (.there .here) ?_)))))
        cases nd with
        | none =>
          have hv' : v = .none := hv5
          subst hv'
          exact tr_n (br_f (br_f (ts_nil (ts_nil (ih (f', none, p4) _ _ (by dsimp only; omega) ⟨_, _, _, rfl, S4, GG, hv5, by dsimp only; omega, hr, by dsimp only; omega⟩)))))
        | some nd =>
          obtain ⟨xs, rfl, hxs⟩ := NodeAt.tup hv5
          refine tr_t ?_
          rw [decide_eq_true hxs]
          refine br_t (ta_and (tb_plain (tri_Name (.there (.there (.there .here))) ?_)))
          cases nr with
          | none =>
            have hv' : v4 = .none := hv4
            subst hv'
            exact tr_n (br_f (br_f (ts_nil (ts_nil (ih (f', some nd, p4) _ _ (by dsimp only; omega) ⟨_, _, _, rfl, S4, GG, hv5, by dsimp only; omega, hr, by dsimp only; omega⟩)))))
          | some nr =>
            have hv4 := OptAt.down GG3 hv4
            obtain ⟨ys, rfl, hys⟩ := NodeAt.tup hv4
            refine tr_t ?_
            rw [decide_eq_true hys]
            refine br_t (ta_nil_and (br_t (ts_cons (ts_Assign_Name (hfree := nofree) (tri_Tuple (tx_cons (tri_str (tx_cons (tri_Name (.there .here) (tx_cons (tri_List (tx_cons (tri_Name (.there (.there (.there .here))) (tx_nil ⟨by show 1 ≤ sizeLine; decide, tx_nil ⟨by show 3 ≤ sizeLine; decide, ?_⟩⟩))))))))))))))
            refine ⟨_, .there .here, ts_nil (ts_nil (ih (f', some (.not nd [nr]), p4) _ _ (by dsimp only; omega) ⟨_, _, _, rfl, S4.snoc _, GG.trans Gr.snoc, ?_, by dsimp only; omega, hr, by dsimp only; omega⟩))⟩
            exact .not (NodeAt.grow Gr.snoc (hd S4) hv5) (G3.trans G4).len (by rw [List.getElem?_append_right (Nat.le_refl _)]; simp) (.cons (NodeAt.grow Gr.snoc (hd S4) hv4) .nil)
    · rintro _ H2 ⟨a, b, v, rfl, S2, G2, hv2⟩
      refine ts_cons (ts_Return (tri_Tuple (tx_cons (tri_Name (.there .here) (tx_cons (tri_Name (.there (.there .here)) (tx_nil ⟨by show 2 ≤ sizeLine; decide, q _ _ S2 G2 hv2⟩)))))))
end
end Mine
end
section
open PySem PySem.W PyProof.Rows PySem.Calls
set_option Elab.async false
set_option maxRecDepth 100000
set_option linter.unusedVariables false
set_option linter.unusedSectionVars false
namespace Mine
section
variable {P : Params} {X : Cx} (hK : X.K = KK P) (NX : Names X) {n d : Nat} {env : Env} {m : Loc} {H : List Cell} {i j k p : Nat} {cv : V} {toks : List Tk} {Q : V → Loc → List Cell → Prop} {QB : Bool → Loc → List Cell → Prop} {N B K : Loc → List Cell → Prop} {R : V → Loc → List Cell → Prop}

/-- the locals of _parse_and -/
abbrev dL (i : Nat) (a b c d e : Option V) : Loc := [("self", some (.loc i)), ("positive", a), ("negative", b), ("token", c), ("node", d), ("negate", e)]

theorem PS.other (S : PS H i j k cv toks p) {b : Nat} {c : Cell} (h1 : b ≠ i) (h2 : b ≠ j) (h3 : b ≠ k) : PS (H.set b c) i j k cv toks p :=
  ⟨⟨by rw [List.getElem?_set_ne h1]; exact S.inst.inst, by rw [List.getElem?_set_ne h2]; exact S.inst.dict⟩, by rw [List.getElem?_set_ne h3]; exact S.lst, S.small⟩
theorem Gr.setHi {H H' : List Cell} {b : Nat} {c : Cell} (g : Gr j H H') (hb : H.length ≤ b) : Gr j H (H'.set b c) :=
  ⟨by rw [List.length_set]; exact g.len, fun x h1 h2 => by rw [List.getElem?_set_ne (by omega)]; exact g.keep x h1 h2⟩
theorem NodesAt.setLo {H : List Cell} {b lo : Nat} {c : Cell} {l vs} (h : NodesAt H lo l vs) (hb : b < lo) : NodesAt (H.set b c) lo l vs :=
  NodesAt.move (Nat.le_refl _) (fun x vs hx e => by rw [List.getElem?_set_ne (by omega)]; exact e) h
theorem NodeAt.setLo {H : List Cell} {b lo : Nat} {c : Cell} {nd v} (h : NodeAt H lo nd v) (hb : b < lo) : NodeAt (H.set b c) lo nd v :=
  NodeAt.move (Nat.le_refl _) (fun x vs hx e => by rw [List.getElem?_set_ne (by omega)]; exact e) h
theorem NodesAt.snoc {H lo} : ∀ {l vs nd v}, NodesAt H lo l vs → NodeAt H lo nd v → NodesAt H lo (l ++ [nd]) (vs ++ [v])
  | _, _, _, _, .nil, h => .cons h .nil
  | _, _, _, _, .cons a t, h => .cons a (NodesAt.snoc t h)

set_option maxHeartbeats 4000000
include hK NX
/-- self._parse_not() -/
theorem e_not {a b c : Pos} (O : OrOk X (n + 1) i j k cv toks d) (hl : LkL m "self" (.loc i)) (S : PS H i j k cv toks p) (ho : opens (toks.drop p) < d + 1)
    (q : ∀ H' v, PS H' i j k cv toks (notF toks (orD toks d) p).2 → Gr j H H' → OptAt H' H.length (notF toks (orD toks d) p).1.1 v → Q (.tup [v, .bool (notF toks (orD toks d) p).1.2]) m H') (hline : (b.endLine == c.line) = true := by rfl) :
    TE X (n + 3) env m H (eval (.Call (.Attribute (.Name "self" a) "_parse_not" b) [] [] c) env) Q :=
  e_meth hK NX rfl rfl rfl hl S.inst (show ("_parse_not" : Str) ∉ (["columns", "tokens", "pos"] : List Str) by decide) (tx_nil (not_ok hK NX O S ho q)) rfl hline

theorem and_ok (O : OrOk X (n + 1) i j k cv toks d) (S : PS H i j k cv toks p) (ho : opens (toks.drop p) < d + 1)
    (q : ∀ H' v, PS H' i j k cv toks (andF toks (orD toks d) p).2 → Gr j H H' → OptAt H' H.length (andF toks (orD toks d) p).1 v → Q v m H') : CN X (n + 4) env m H (.ref 99) [.loc i] Q := by
  refine cn_call (names := ["self"]) (ws := []) (ds := []) (by rw [hK]; rfl) (by rw [hK]; rfl) rfl rfl rfl rfl (by decide +kernel) rfl (fun s cvs hin hl => ?_) (fun _ _ => by unfold DenL; rfl) ?_
  · obtain ⟨c, rfl⟩ : ∃ c, cvs = [c] := by
      match cvs, hl with
      | [c], _ => exact ⟨c, rfl⟩
    exact BindsTo.of_eq rfl
  · intro env' hsc hcode
    obtain ⟨sc, lo, gl, ce, qu, fu, co, fr, bi⟩ := env'
    simp only at hsc hcode
    subst hsc hcode
    have hd : ∀ {H' q}, PS H' i j k cv toks q → ∃ fs, H'[j]? = some (.dict fs) := fun S => ⟨_, S.inst.dict⟩
    show TS X (n + 3) _ (dL i none none none none none) H (execs _ _) _ _ _ _
    refine ts_cons (ts_Assign_swap2 (x := "positive") (y := "negative") (tri_Tuple (tx_cons (tri_List (tx_nil ⟨by show 0 ≤ sizeLine; decide, tx_cons (tri_List (tx_nil ⟨by show 0 ≤ sizeLine; decide, tx_nil ⟨by show 2 ≤ sizeLine; decide, ?_⟩⟩))⟩)))) nofree nofree)
    refine ⟨_, _, _, _, rfl, .there (.there .here), .there .here, ?_⟩
    rw [show (H ++ [Cell.list []]).length = H.length + 1 by simp]
    have hjl : j < H.length := (List.getElem?_eq_some_iff.mp S.inst.dict).1
    have S1 := (S.snoc (.list [])).snoc (.list [])
    have G1 : Gr j H ((H ++ [Cell.list []]) ++ [Cell.list []]) := Gr.snoc.trans Gr.snoc
    have haf : andF toks (orD toks d) p = (match (andLoop toks (orD toks d) (toks.length + 1) [] [] p).1 with
      | ([], ns) => none
      | ([x], ns) => some (if ns = [] then x else .not x ns)
      | (ps, ns) => some (if ns = [] then .and ps else .not (.and ps) ns), (andLoop toks (orD toks d) (toks.length + 1) [] [] p).2) := by
      unfold andF
      rcases andLoop toks (orD toks d) (toks.length + 1) [] [] p with ⟨⟨ps, ns⟩, q⟩
      rcases ps with _ | ⟨x, _ | ⟨y, r⟩⟩ <;> rfl
    rw [haf] at q
    generalize hres : andLoop toks (orD toks d) (toks.length + 1) [] [] p = res at *
    refine ts_cut (fun m' H' => ∃ tk nd ng pv nv, m' = dL i (some (.loc H.length)) (some (.loc (H.length + 1))) tk nd ng ∧ PS H' i j k cv toks res.2 ∧ Gr j H H' ∧ H'[H.length]? = some (.list pv) ∧ H'[H.length + 1]? = some (.list nv) ∧ NodesAt H' (H.length + 2) res.1.1 pv ∧ NodesAt H' (H.length + 2) res.1.2 nv) (ts_While ?_) ?_
    · refine tw_ind (fun (x : Nat × List Nd × List Nd × Nat) m' H' => ∃ tk nd ng pv nv, m' = dL i (some (.loc H.length)) (some (.loc (H.length + 1))) tk nd ng ∧ PS H' i j k cv toks x.2.2.2 ∧ Gr j H H' ∧ H'[H.length]? = some (.list pv) ∧ H'[H.length + 1]? = some (.list nv) ∧
        NodesAt H' (H.length + 2) x.2.1 pv ∧ NodesAt H' (H.length + 2) x.2.2.1 nv ∧ toks.length < x.1 + x.2.2.2 ∧ andLoop toks (orD toks d) x.1 x.2.1 x.2.2.1 x.2.2.2 = res ∧ p ≤ x.2.2.2 ∧ pv.length + nv.length + x.1 ≤ toks.length + 1) (fun x => x.1) ?_ (toks.length + 1, [], [], p) _ _
        ⟨none, none, none, [], [], rfl, S1, G1, by simp, by simp, .nil, .nil, by dsimp only; omega, hres, Nat.le_refl _, by simp⟩
      rintro ⟨f, ps, ns, pp⟩ _ H2 ⟨tk, nd, ng, pv, nv, rfl, S2, G2, hp, hn, np, nn, hf, hr, hpp, hsz⟩ ih
      dsimp only at *
      refine tw_turn (tb_plain (tri_bool (tr_b (br_t ?_))))
      refine ts_cons (ts_Assign_Name (hfree := nofree) (e_peek hK NX .here S2 ⟨_, .there (.there (.there .here)), ?_⟩))
      refine ts_cons (ts_If (tb_Compare (hm := by with_unfolding_all rfl) (tri_Name (.there (.there (.there .here))) ?_)))
      refine tri_str (eq_peek hK NX (tr_b ?_))
      rw [show (Str.ofString "op").cps.toList = [111, 112] by decide +kernel]
      by_cases hop : ∃ w, toks[pp]? = some (.op w)
      · obtain ⟨w, hw⟩ := hop
        have hlt : pp < toks.length := (List.getElem?_eq_some_iff.mp hw).1
        obtain ⟨f', rfl⟩ : ∃ f', f = f' + 1 := ⟨f - 1, by omega⟩
        unfold andLoop at hr
        rw [hw] at hr ⊢
        dsimp only at hr
        refine br_t (ts_cons (ts_If (tb_plain (e_is_op hK NX .here S2 (tr_b ?_)))))
        rw [show (Str.ofString "OR").cps.toList = cOR by decide +kernel, hw]
        by_cases hor : w = cOR
        · rw [if_pos hor] at hr
          subst hor hr
          refine br_c (fun _ => ?_) (fun h => by simp at h)
          exact ts_cons (ts_Break ⟨_, _, _, pv, nv, rfl, S2, G2, hp, hn, np, nn⟩)
        · rw [if_neg hor] at hr
          refine br_c (fun h => absurd (by simpa using h) hor) (fun _ => ?_)
          have gs : Gr j H2 (H2.set j (.dict (fieldsOf' cv k (pp + 1)))) := Gr.set
          refine ts_nil (ts_cons (ts_pos hK NX .here S2 (ts_cons (ts_Continue (ih (f', ps, ns, pp + 1) _ _ (by dsimp only; omega) ⟨_, _, _, pv, nv, rfl, S2.setPos _, G2.trans gs, gs.get hp (by omega), gs.get hn (by omega), NodesAt.grow gs (hd S2) np, NodesAt.grow gs (hd S2) nn, by dsimp only; omega, hr, by dsimp only; omega, by dsimp only; omega⟩)))))
      · have e : (toks[pp]?.map kindOf' == some [111, 112]) = false := by
          cases h : toks[pp]? with
          | none => rfl
          | some t => cases t with
            | op w => exact absurd ⟨w, h⟩ hop
            | _ => simp [kindOf']
        rw [e]
        refine br_f (ts_nil (ts_cons (ts_If (tb_Compare (hm := by with_unfolding_all rfl) (tri_Name (.there (.there (.there .here))) (tri_Tuple (tx_cons (tri_str (tx_cons (tri_none (tx_nil ?_)))))))))))
        refine ⟨by show 2 ≤ sizeLine; decide, ?_⟩
        rw [show (Str.ofString ")").cps.toList = [41] by decide +kernel]
        have hin : ∀ {QQ : V → Loc → List Cell → Prop} {mm HH} {ee}, QQ (.bool (toks[pp]? == none || toks[pp]? == some Tk.rp)) mm HH → T2 X (n + 3) ee mm HH (compareOp .In) (peekV toks pp) (.tup [.str [41], .none]) QQ := fun {QQ mm HH ee} qq => by
          unfold peekV
          cases h : toks[pp]? with
          | none => exact in_data (d := .none) (ds := [.str ⟨#[41]⟩, .none]) rfl rfl (by decide +kernel) (by decide +kernel) (by decide) (by rw [h] at qq; exact qq)
          | some t =>
            rw [h] at qq
            cases t with
            | lp => exact in_data (d := .str ⟨#[40]⟩) (ds := [.str ⟨#[41]⟩, .none]) rfl rfl (by decide +kernel) (by decide +kernel) (by decide +kernel) qq
            | rp => exact in_data (d := .str ⟨#[41]⟩) (ds := [.str ⟨#[41]⟩, .none]) rfl rfl (by decide +kernel) (by decide +kernel) (by decide +kernel) qq
            | neg => exact in_data (d := .str ⟨#[110, 101, 103]⟩) (ds := [.str ⟨#[41]⟩, .none]) rfl rfl (by decide +kernel) (by decide +kernel) (by decide +kernel) qq
            | col c => exact in_data (d := .str ⟨#[99, 111, 108]⟩) (ds := [.str ⟨#[41]⟩, .none]) rfl rfl (by decide +kernel) (by decide +kernel) (by decide +kernel) qq
            | op c => exact in_data (d := .str ⟨#[111, 112]⟩) (ds := [.str ⟨#[41]⟩, .none]) rfl rfl (by decide +kernel) (by decide +kernel) (by decide +kernel) qq
            | term c => exact in_data (d := .str ⟨#[116, 101, 114, 109]⟩) (ds := [.str ⟨#[41]⟩, .none]) rfl rfl (by decide +kernel) (by decide +kernel) (by decide +kernel) qq
        refine hin (tr_b ?_)
        by_cases hstop : toks[pp]? = none ∨ toks[pp]? = some .rp
        · have e2 : (toks[pp]? == none || toks[pp]? == some Tk.rp) = true := by rcases hstop with h | h <;> rw [h] <;> rfl
          have e3 : andLoop toks (orD toks d) f ps ns pp = ((ps, ns), pp) := by
            cases f with
            | zero => rfl
            | succ f => unfold andLoop; rcases hstop with h | h <;> rw [h]
          rw [e3] at hr
          subst hr
          rw [e2]
          exact br_t (ts_cons (ts_Break ⟨_, _, _, pv, nv, rfl, S2, G2, hp, hn, np, nn⟩))
        · have e2 : (toks[pp]? == none || toks[pp]? == some Tk.rp) = false := by
            cases h : toks[pp]? with
            | none => exact absurd (.inl h) hstop
            | some t => cases t with
              | rp => exact absurd (.inr h) hstop
              | _ => rfl
          rw [e2]
          have hlt : pp < toks.length := by
            rcases Nat.lt_or_ge pp toks.length with h | h
            · exact h
            · exact absurd (.inl (List.getElem?_eq_none h)) hstop
          obtain ⟨f', rfl⟩ : ∃ f', f = f' + 1 := ⟨f - 1, by omega⟩
          refine br_f (ts_nil ?_)
          have hal : andLoop toks (orD toks d) (f' + 1) ps ns pp = (match (notF toks (orD toks d) pp).1.1 with
              | some nd => if (notF toks (orD toks d) pp).1.2 then andLoop toks (orD toks d) f' ps (ns ++ [nd]) (notF toks (orD toks d) pp).2 else andLoop toks (orD toks d) f' (ps ++ [nd]) ns (notF toks (orD toks d) pp).2
              | none => andLoop toks (orD toks d) f' ps ns (notF toks (orD toks d) pp).2) := by
            rw [andLoop]
            cases h : toks[pp]? with
            | none => exact absurd (.inl h) hstop
            | some t => cases t with
              | rp => exact absurd (.inr h) hstop
              | op w => exact absurd ⟨w, h⟩ hop
              | _ => rfl
          rw [hal] at hr
          have hop2 := opens_drop (toks := toks) hpp
          refine ts_cons (ts_Assign_Tuple (e_not hK NX O .here S2 (by omega) fun H4 v4 S4 G4 hv4 => ?_))
          refine ta_Tuple2 (.there (.there (.there (.there .here)))) (.there (.there (.there (.there (.there .here))))) ?_ nofree nofree
          have hge : pp < (notF toks (orD toks d) pp).2 := by
            cases h : toks[pp]? with
            | none => exact absurd (.inl h) hstop
            | some t => exact notF_gt (fun p => orD_ge) h (fun e => hstop (.inr (e ▸ h))) (fun w e => hop ⟨w, e ▸ h⟩)
          have hl2 : H.length + 2 ≤ H2.length := (List.getElem?_eq_some_iff.mp hn).1
          have np4 := NodesAt.grow G4 (hd S2) np
          have nn4 := NodesAt.grow G4 (hd S2) nn
          have hp4 := G4.get hp (by omega)
          have hn4 := G4.get hn (by omega)
          have hv4 := OptAt.down hl2 hv4
          generalize notF toks (orD toks d) pp = r at *
          obtain ⟨⟨nd, neg⟩, p4⟩ := r
          dsimp only at *
          refine ts_cons (ts_If (tb_plain (tri_Name (.there (.there (.there (.there .here)))) ?_)))
          cases nd with
          | none =>
            have hv' : v4 = .none := hv4
            subst hv'
            exact tr_n (br_f (ts_nil (ts_nil (ih (f', ps, ns, p4) _ _ (by dsimp only; omega) ⟨_, _, _, pv, nv, rfl, S4, G2.trans G4, hp4, hn4, np4, nn4, by dsimp only; omega, hr, by dsimp only; omega, by dsimp only; omega⟩))))
          | some nd =>
            obtain ⟨xs, rfl, hxs⟩ := NodeAt.tup hv4
            refine tr_t ?_
            rw [decide_eq_true hxs]
            refine br_t (ts_cons (ts_Expr (tri_CallM (tri_IfExp (tb_plain (tri_Name (.there (.there (.there (.there (.there .here))))) (tr_b ?_)))))))
            have hil : i < H.length := (List.getElem?_eq_some_iff.mp S.inst.inst).1
            have hkl : k < H.length := (List.getElem?_eq_some_iff.mp S.lst).1
            have hl4 : H2.length ≤ H4.length := G4.len
            have hsm := S.small.1
            have hsl : sizeLine = 16777216 := rfl
            refine br_c (fun hb => ?_) (fun hb => ?_)
            · subst hb
              refine tri_Name (.there (.there .here)) (tm_list hn4 F.slot_list_append F.type_list_append ⟨kn_builtin, tx_cons (tri_Name (.there (.there (.there (.there .here)))) (tx_nil (list_append hn4 (by omega) ?_)))⟩)
              exact ts_nil (ts_nil (ih (f', ps, ns ++ [nd], p4) _ _ (by dsimp only; omega) ⟨_, _, _, pv, nv ++ [.tup xs], rfl, S4.other (by omega) (by omega) (by omega), (G2.trans G4).setHi (by omega), by rw [List.getElem?_set_ne (by omega)]; exact hp4, by rw [List.getElem?_set_self (by omega)],
                np4.setLo (by omega), (nn4.setLo (by omega)).snoc (NodeAt.setLo (show NodeAt H4 (H.length + 2) nd (.tup xs) from hv4) (by omega)), by dsimp only; omega, hr, by dsimp only; omega, by simp; omega⟩))
            · subst hb
              refine tri_Name (.there .here) (tm_list hp4 F.slot_list_append F.type_list_append ⟨kn_builtin, tx_cons (tri_Name (.there (.there (.there (.there .here)))) (tx_nil (list_append hp4 (by omega) ?_)))⟩)
              exact ts_nil (ts_nil (ih (f', ps ++ [nd], ns, p4) _ _ (by dsimp only; omega) ⟨_, _, _, pv ++ [.tup xs], nv, rfl, S4.other (by omega) (by omega) (by omega), (G2.trans G4).setHi (by omega), by rw [List.getElem?_set_self (by omega)], by rw [List.getElem?_set_ne (by omega)]; exact hn4,
                (np4.setLo (by omega)).snoc (NodeAt.setLo (show NodeAt H4 (H.length + 2) nd (.tup xs) from hv4) (by omega)), nn4.setLo (by omega), by dsimp only; omega, hr, by dsimp only; omega, by simp; omega⟩))
    · rintro _ H2 ⟨tk, nd, ng, pv, nv, rfl, S2, G2, hp, hn, np, nn⟩
      obtain ⟨⟨ps, ns⟩, q4⟩ := res
      dsimp only at *
      refine ts_cons (ts_If (tb_Not (tb_plain (tri_Name (.there .here) (tr_l hp ?_)))))
      cases np with
      | nil => exact br_t (ts_cons (ts_Return (tri_none (q H2 .none S2 G2 rfl))))
      | @cons x v l vs hx hl =>
        refine br_f (ts_nil ?_)
        refine ts_cut (fun m' H' => ∃ nd0 w, m' = dL i (some (.loc H.length)) (some (.loc (H.length + 1))) tk (some w) ng ∧ H' = H2 ∧ NodeAt H2 H.length nd0 w ∧ (∀ H' w, PS H' i j k cv toks q4 → Gr j H H' → OptAt H' H.length (some (if ns = [] then nd0 else .not nd0 ns)) w → Q w m H')) (ts_Assign_Name (hfree := nofree) (tri_IfExp (tb_Compare (hm := by with_unfolding_all rfl) (tri_CallN (f := .builtin "len") rfl (.inr NX.len) kn_builtin (tx_cons (tri_Name (.there .here) (tx_nil (len_l hp ?_)))))))) ?_
        · refine tri_int (eq_i (tr_b ?_))
          cases hl with
          | nil =>
            refine br_t (tri_Subscript (tri_Name (.there .here) (tri_int (t2_item_list hp (by decide) (v := v) rfl ?_))))
            exact ⟨_, .there (.there (.there (.there .here))), x, v, rfl, rfl, NodeAt.move (by omega) (fun _ _ _ e => e) hx, q⟩
          | @cons y u l vs hy hl =>
            refine br_c (fun h => absurd (of_decide_eq_true h) (by simp; omega)) (fun _ => ?_)
            refine tri_Tuple (tx_cons (tri_str (tx_cons (tri_Name (.there .here) (tx_nil ⟨by show 2 ≤ sizeLine; decide, ?_⟩)))))
            exact ⟨_, .there (.there (.there (.there .here))), .and (x :: y :: l), _, rfl, rfl, .and (Nat.le_refl _) hp (NodesAt.move (by omega) (fun _ _ _ e => e) (.cons hx (.cons hy hl))), q⟩
        · rintro _ H3 ⟨nd0, w, rfl, rfl, hw, q2⟩
          refine ts_cons (ts_Return (tri_IfExp (tb_plain (tri_Name (.there (.there .here)) (tr_l hn ?_)))))
          cases nn with
          | nil => exact br_f (tri_Name (.there (.there (.there (.there .here)))) (q2 _ _ S2 G2 hw))
          | cons ha hb =>
            refine br_t (tri_Tuple (tx_cons (tri_str (tx_cons (tri_Name (.there (.there (.there (.there .here)))) (tx_cons (tri_Name (.there (.there .here)) (tx_nil ⟨by show 3 ≤ sizeLine; decide, ?_⟩))))))))
            exact q2 _ _ S2 G2 (.not hw (by omega) hn (NodesAt.move (by omega) (fun _ _ _ e => e) (.cons ha hb)))
end
end Mine
end
section
open PySem PySem.W PyProof.Rows PySem.Calls
set_option Elab.async false
set_option maxRecDepth 100000
set_option linter.unusedVariables false
namespace Mine
section
variable {X : Cx} {n : Nat} {env cenv : Env} {m mi : Loc} {H : List Cell}
theorem ts_Assign_Comp {elt iter x px ifs scope pos y py spos} {N B K : Loc → List Cell → Prop} {R : V → Loc → List Cell → Prop} (fv : List (Str × V)) (F : Frees env m scope (fun y => (relabel scope env).names.lookup y) fv) (hsc : scope.kind = .function) (hcell : ∀ y ∈ scope.names, y.2 ≠ .cell) (hloc : ∀ y ∈ scope.names, y.2 = .local → scope.names.lookup y.1 = some .local)
    (hx : (relabel scope env).names.lookup x = some .local ∧ x ≠ "__debug__" ∧ x ≠ "__classdict__")
    (h : TE X n env m H (eval iter env) fun v m1 H => m1 = m ∧ ∃ src, iterOf H v = some src ∧ (∀ i, v = .loc i → ∃ xs, H[i]? = some (.list xs)) ∧ (∀ k, v = .rng k → 0 ≤ k ∧ k ≤ 2 ^ 62) ∧
      ∀ cl C, TC X n (compEnvC scope cl C env) ((x, none) :: fvL fv) (H ++ [.list []]) elt (.Name x px) iter ifs scope pos src H.length fun mi H' => (∀ p ∈ fv, (p.1, some p.2) ∈ mi) ∧ ∃ m2, UpdL m y (.loc H.length) m2 ∧ N m2 H')
    (hfr : env.kindOf y ≠ some .free) (hsw : swapsWith (.ListComp elt [⟨.Name x px, iter, ifs, 0⟩] scope pos) (some (.Name y py)) spos.line env = pure true := by rfl)
    (hs : ∀ x, foldedSetIterable iter env x = pure x := by intro _; rfl) : TS X n env m H (exec (.Assign [.Name y py] (.ListComp elt [⟨.Name x px, iter, ifs, 0⟩] scope pos) spos) env) N B K R := by
  intro A η s Ck E Ro re e _ k
  have hfre : ∀ y, (y, NameKind.free) ∈ scope.names → ∃ c, env.cells.lookup y = some c := fun y hy => by
    obtain ⟨v, hv⟩ := F.all y hy
    obtain ⟨a1, a2, _⟩ := F.mem _ hv
    rcases (e.kinds _ _ a1).2.2 with w | ⟨_, w⟩
    · exact absurd w a2
    · exact w
  obtain ⟨cl, hcl, h1, h2⟩ := closureFor_ok hfre
  rw [exec_Assign_Name_used _ _ _ _ hsw]
  refine wpAny_bind (wpAny_standAt (wpAny_bind ?_))
  show wpAny _ A (do let _ ← comprehension (.ListComp elt [⟨.Name x px, iter, ifs, 0⟩] scope pos) scope env _ (newList []) false (eval iter env) (some (assign (.Name y py) env))) _ _ s
  refine wpAny_bind (wpAny_mono (wpAny_comprehension_free (Q := fun _ s' => Ck .next s') (use := some (assign (.Name y py) env)) (g := ⟨.Name x px, iter, ifs, 0⟩) (gs := []) (cl := cl) rfl hs hcl hsc hloc ?_) (fun _ s' hq => wpAny_pure (wpAny_pure hq)) fun _ _ e => e)
  show wpAny _ A (eval iter env) _ _ _
  refine h A η s _ E Ro re e trivial fun v m1 H1 cv η1 s1 q1 d1 r1 e1 a1 => ?_
  obtain ⟨rfl, src, hi, hl, hn, q⟩ := q1
  refine pyIter_ok Ro r1 e1 d1 hi hl hn fun it h' hit ha r2 e2 a2 h0 => ?_
  refine wpAny_newObj_type ?_ (by show (0 : Nat) ≤ sizeLine; omega)
  have ok : CellOk X (η1 ++ [h'.objs.size]) (h'.push { cls := .type "list", data := .seq (([] : List Value)).toArray }) (.list []) { cls := .type "list", data := .seq (([] : List Value)).toArray } :=
    ⟨[], 0, rfl, by simp, by unfold DenL; rfl⟩
  obtain ⟨r3, e3, a3⟩ := alloc_ok (s := { s1 with heap := h' }) (tk := s1.toks) r2 e2 rfl ok
  have f3 := r3.fresh
  have hacc : (η1 ++ [h'.objs.size])[H1.length]? = some h'.objs.size := by
    rw [← r2.len, List.getElem?_append_right (Nat.le_refl _)]; simp
  have hit3 : ItAt (η1 ++ [h'.objs.size]) (h'.push { cls := .type "list", data := .seq (([] : List Value)).toArray }) it src := hit.keep ⟨_, rfl⟩ fun o q => Heap.get?_push_of_some _ q
  have ha3 := ha.adv (s := { s1 with heap := h' }) a3 r2 hit.live
  generalize hH2 : h'.push { cls := .type "list", data := .seq (([] : List Value)).toArray } = H2 at r3 e3 a3 f3 hit3 ha3 ⊢
  refine wpAny_newFunctionEnv hcell (by intro y hy; simp at hy) (fun h4 hns4 hsb4 => ?_) hsc
  have ext4 : ∀ b o, H2.get? b = some o → h4.get? b = some o := fun b o ho => hsb4.extBut b o (fun q => by subst q; rw [get_size_none] at ho; cases ho) (Heap.get?_push_of_some _ ho)
  obtain ⟨I⟩ : Nonempty (Inner env (compEnvC scope cl H2.objs.size env) m1 ([x].map (fun x => (x, (none : Option V))) ++ fvL fv)) :=
    ⟨inner_of (cenv := compEnvC scope cl H2.objs.size env) e F (by simp [compEnvC, relabel, hsc]) rfl rfl rfl h1 h2 (fun y hy => by rcases List.mem_cons.mp hy with w | w; (subst w; exact hx); cases w) (by simp)⟩
  have e4 : EnvOk X (compEnvC scope cl H2.objs.size env) (η1 ++ [h'.objs.size]) ((x, none) :: fvL fv) h4 := e3.inner I ext4 hns4 f3.1 f3.2 (get_size_none _)
  have r4 := r3.ext ext4
  have live3 : ∃ o, H2.get? it = some o := hit3.live
  have ha4 : Aside X (compEnvC scope cl H2.objs.size env) (η1 ++ [h'.objs.size]) h4 it := by
    obtain ⟨o, ho⟩ := live3
    refine ⟨ha3.old, ha3.nη, fun q => ?_, fun q => ?_, fun o' ho' => ?_⟩
    · rw [show it = H2.objs.size from q, get_size_none] at ho; cases ho
    · obtain ⟨p, hp, z⟩ := List.mem_map.mp q
      exact ha3.nC (z ▸ List.mem_map.mpr ⟨p, I.cells p hp, rfl⟩)
    · rw [ext4 _ _ ho] at ho'; cases ho'; exact ha3.fz o ho
  have hit4 := hit3.keep (List.prefix_refl _) (fun o q => ext4 it o q)
  have loop : ∀ s4 : Shared, s4.heap = h4 → s4.gens = s1.gens → s4.os = s1.os → codeAny (model X.prog X.w) A (.compLoop (.ListComp elt [⟨.Name x px, iter, ifs, 0⟩] scope pos) 0 (.ref it) (.ref h'.objs.size) (compEnvC scope cl H2.objs.size env))
      (compPost (model X.prog X.w) A E (some (assign (.Name y py) env)) (fun _ s' => Ck .next s') (.ref h'.objs.size) H2.objs.size) s4 := by
    intro s4 hh hg ho
    subst hh
    have hd : ∀ {s' : Shared}, Adv X env η s η1 s1 → Adv X env η1 s1 (η1 ++ [h'.objs.size]) { s1 with heap := s4.heap } → Adv X env η s (η1 ++ [h'.objs.size]) s4 := fun a b =>
      have c := a.trans b
      ⟨c.keep, c.live, c.pre, c.new, by rw [hg]; exact c.gsz, fun i y q => by rw [hg]; exact c.gen i y q, fun i y q z => by rw [hg] at z; exact c.bare i y q z, ho.trans c.os⟩
    have ad4 : Adv X env η s (η1 ++ [h'.objs.size]) s4 := hd (s' := s1) a1 ((a2.trans a3).trans (Adv.ofExt (s := { s1 with heap := H2 }) (tk := s1.toks) ext4))
    refine codeAny_mono (q cl H2.objs.size A _ s4 (fun s' => compPost (model X.prog X.w) A E (some (assign (.Name y py) env)) (fun _ s' => Ck .next s') (.ref h'.objs.size) H2.objs.size (.ok .next) s') it _ _ s4 Ro r4 e4 hit4 ha4 (.refl ..) hacc fun mi' H' η' s₁ h5 tk qq r5 e5 ha5 a5 hx5 => ?_) fun r s' z => ?_
    · have hsit : s.heap.get? it = none := by
        cases q : s.heap.get? it with
        | none => rfl
        | some o => obtain ⟨o', w⟩ := a1.live it o q; rw [h0] at w; cases w
      have hsC : s.heap.get? H2.objs.size = none := by
        cases q : s.heap.get? H2.objs.size with
        | none => rfl
        | some o =>
          obtain ⟨o1, w1⟩ := a1.live _ o q
          obtain ⟨o2, w2⟩ := a2.live _ o1 w1
          obtain ⟨o3, w3⟩ := a3.live _ o2 w2
          rw [show ({ s1 with heap := H2, toks := s1.toks } : Shared).heap = H2 from rfl, get_size_none] at w3; cases w3
      have hne : env.locals ≠ H2.objs.size := fun q => by
        obtain ⟨mc, ⟨o, _, _, ho, _⟩, _⟩ := e3.ns
        rw [q, get_size_none] at ho; cases ho
      have hCc : H2.objs.size ∉ env.cells.map (·.2) := fun q => by
        obtain ⟨p, hp, z⟩ := List.mem_map.mp q
        obtain ⟨ov, o, ho, _⟩ := e3.cellEx p hp
        rw [z, get_size_none] at ho; cases ho
      have haE : Aside X env (η1 ++ [h'.objs.size]) s4.heap it := ⟨ha3.old, ha3.nη, ha3.nL, ha3.nC, ha4.fz⟩
      have fzNs : ∀ {h : Heap} {mm}, h.Ns H2.objs.size mm → ∀ o, h.get? H2.objs.size = some o → frozen o = false := fun hn o ho => by
        obtain ⟨o', es, ep, ho', hd, _⟩ := hn
        rw [ho] at ho'; cases ho'
        unfold frozen; rw [hd]
      have eo5 : EnvOk X env η' m1 s₁.heap := EnvOk.back (cenv := compEnvC scope cl H2.objs.size env) (e3.ext ext4) r4 e5 a5 haE hne hCc I.cells (fzNs hns4) fun y v c hy hk hl hin => by
        obtain ⟨p, hp, z⟩ := List.mem_map.mp hin
        have hp' := h1 p hp
        have hpy : p.1 = y := e.ndC p (EnvOk.move.mem_of_lookup hp'.1) (y, c) (EnvOk.move.mem_of_lookup hl) z
        obtain ⟨v', hv'⟩ := F.all p.1 hp'.2
        have hm := F.mem _ hv'
        have hvv : v' = v := by
          have key : ∀ (l : Loc), (l.map (·.1)).Nodup → (y, some v) ∈ l → (y, some v') ∈ l → v' = v := by
            intro l
            induction l with
            | nil => intro _ h _; cases h
            | cons q l ih =>
              intro nd h h'
              rw [List.map_cons, List.nodup_cons] at nd
              rcases List.mem_cons.mp h with w | w <;> rcases List.mem_cons.mp h' with w' | w'
              · rw [← w] at w'; cases w'; rfl
              · rw [← w] at nd; exact absurd (List.mem_map.mpr ⟨_, w', rfl⟩) nd.1
              · rw [← w'] at nd; exact absurd (List.mem_map.mpr ⟨_, w, rfl⟩) nd.1
              · exact ih nd.2 w w'
          exact key m1 e.ndm hy (hpy ▸ hm.1)
        subst hvv
        rw [hpy] at hv' hm
        refine ⟨qq.1 _ hv', fun w => ?_, lookup_unique (by rw [← hpy, ← z]; exact hp) fun q hq w => ?_⟩
        · rcases hm.2.2.2.1 with u | u <;> (rw [show (relabel scope env).names.lookup y = some .local from w] at u; cases u)
        · have := (h1 q hq).1; rw [w, hl] at this; cases this; rfl
      have ad5 : Adv X env η s η' s₁ := ad4.back a5 hsC fun p hp => by
        rcases List.mem_cons.mp hp with w | w
        · subst w; exact .inr hsit
        · exact .inl (I.cells p w)
      have haE5 : Aside X env η' s₁.heap it := ⟨ha5.old, ha5.nη, ha3.nL, ha3.nC, ha5.fz⟩
      obtain ⟨r6, e6⟩ := haE5.rel r5 eo5 hx5
      obtain ⟨mc5, ns5, _⟩ := e5.ns
      have ns6 : h5.Ns H2.objs.size mc5 := ns5.at' fun o q => hx5 _ o (fun w => ha5.nL w.symm) q
      have haC : Aside X env η' h5 H2.objs.size := ⟨f3.1, e5.nL, Ne.symm hne, hCc, fzNs ns6⟩
      obtain ⟨t, ht⟩ := a5.pre
      have hacc' : η'[H1.length]? = some h'.objs.size := by rw [← ht, List.getElem?_append_left (List.getElem?_eq_some_iff.mp hacc).1]; exact hacc
      obtain ⟨m2, hu, hN⟩ := qq.2
      show wpAny _ A (assign (.Name y py) env (.ref h'.objs.size)) _ E _
      have ad6 := ad5.aside (tk := tk) hsit hx5
      refine wpAny_assign_Name (tri_store (Q := N) hu hN hfr A η' { s₁ with heap := h5, toks := tk } _ E Ro r6 e6 (den_loc.mpr ⟨_, rfl, hacc'⟩) fun _ m7 H7 _ η7 s7 q7 _ r7 e7 a7 => ?_)
      have haC7 := haC.adv (s := { s₁ with heap := h5, toks := tk }) a7 r6 (let ⟨o, _, _, ho, _⟩ := ns6; ⟨o, ho⟩)
      have ns7 : s7.heap.Ns H2.objs.size mc5 := ns6.at' fun o q => a7.keep _ o q haC.nη haC.nL haC.nC (r6.noT haC.old)
      refine ⟨mc5, ns7, fun h8 hs8 => ?_⟩
      obtain ⟨r8, e8⟩ := haC7.rel r7 e7 hs8.extBut
      exact k .next m7 H7 _ η7 _ q7 (by unfold DenF; rfl) r8 e8 ((ad6.trans a7).aside (tk := s7.toks) hsC hs8.extBut)
    · cases r with
      | ok f => exact z
      | error x => exact z.elim
  exact codeAny_compStart_list (loop _ rfl rfl rfl) (pyIter_self (s := { s1 with heap := h4, toks := _ }) hit4 (loop _ rfl rfl rfl))
end
end Mine
end
section
open PySem PySem.W PyProof.Rows PySem.Calls
set_option Elab.async false
set_option maxRecDepth 100000
set_option linter.unusedVariables false
set_option linter.unusedSectionVars false
namespace Mine
/-- nodes or none, with what stands for them -/
inductive OptsAt (H : List Cell) (lo : Nat) : List (Option Nd) → List V → Prop where
  | nil : OptsAt H lo [] []
  | cons {o v l vs} : OptAt H lo o v → OptsAt H lo l vs → OptsAt H lo (o :: l) (v :: vs)
theorem OptsAt.move {H H' : List Cell} {lo lo' : Nat} (hl : lo' ≤ lo) (g : ∀ x vs, lo ≤ x → H[x]? = some (.list vs) → H'[x]? = some (.list vs)) {l vs} (h : OptsAt H lo l vs) : OptsAt H' lo' l vs := by
  induction h with
  | nil => exact .nil
  | cons a _ ih => exact .cons (OptAt.move hl g a) ih
theorem OptsAt.snoc {H lo l vs o v} (h : OptsAt H lo l vs) (a : OptAt H lo o v) : OptsAt H lo (l ++ [o]) (vs ++ [v]) := by
  induction h with
  | nil => exact .cons a .nil
  | cons b _ ih => exact .cons b ih
theorem OptsAt.len {H lo l vs} (h : OptsAt H lo l vs) : vs.length = l.length := by
  induction h with
  | nil => rfl
  | cons _ _ ih => simp [ih]
/-- a cell blanked -/
abbrev blank (H : List Cell) (a : Nat) : List Cell := H.set a (.dict [])
theorem blank_list {H : List Cell} {a x vs} (h : (blank H a)[x]? = some (.list vs)) : x ≠ a ∧ H[x]? = some (.list vs) := by
  by_cases q : a = x
  · subst q
    rw [List.getElem?_set] at h
    split at h
    · split at h <;> cases h
    · exact absurd rfl ‹_›
  · rw [List.getElem?_set_ne q] at h; exact ⟨Ne.symm q, h⟩
theorem list_blank {H : List Cell} {a x vs} (h : H[x]? = some (.list vs)) (q : x ≠ a) : (blank H a)[x]? = some (.list vs) := by
  rw [List.getElem?_set_ne (Ne.symm q)]; exact h
theorem tc_nodes {X : Cx} {n : Nat} {cenv : Env} {iter : Expr} {p1 p2 p3 pos : Pos} {scope : Scope} {a acc lo : Nat} {HH : List Cell} {vs : List V} {Q : Loc → List Cell → Prop} (hfree : cenv.kindOf "node" ≠ some .free) (haa : a ≠ acc) (hsz : vs.length < sizeLine) :
    ∀ (l : List (Option Nd)) (rest : List V), OptsAt HH lo l rest → ∀ (k : Nat) (w : Option V) (done : List V) (H : List Cell), vs.drop k = rest → H[a]? = some (.list vs) → H[acc]? = some (.list done) → done.length ≤ k →
    (∀ w' ds, NodesAt HH lo (l.filterMap id) ds → Q [("node", w')] (H.set acc (.list (done ++ ds)))) →
    TC X n cenv [("node", w)] H (.Name "node" p1) (.Name "node" p2) iter [.Name "node" p3] scope pos (.lst a k) acc Q := by
  intro l
  induction l with
  | nil =>
    intro rest hr k w done H hd ha hacc hk q
    cases hr
    have hk2 : vs[k]? = none := by
      rw [List.getElem?_eq_none_iff]
      have := congrArg List.length hd
      simp at this; omega
    refine tc_turn (r := none) (by simp only [nextS, ha, hk2]) ?_
    have := q w [] .nil
    rw [List.append_nil, show H.set acc (.list done) = H from by
      obtain ⟨h1, h2⟩ := List.getElem?_eq_some_iff.mp hacc
      rw [← h2]; exact List.set_getElem_self h1] at this
    exact this
  | cons o l ih =>
    intro rest hr k w done H hd ha hacc hk q
    cases hr with
    | @cons _ v _ rest ho hr =>
      have hlt : k < vs.length := by
        rcases Nat.lt_or_ge k vs.length with h | h
        · exact h
        · rw [List.drop_eq_nil_of_le h] at hd; cases hd
      rw [List.drop_eq_getElem_cons hlt] at hd
      injection hd with hv hd
      refine tc_turn (r := some (v, .lst a (k + 1))) (by simp only [nextS, ha, List.getElem?_eq_getElem hlt, hv]) ?_
      refine ta_Name .here ?_ hfree
      refine tt_one (tb_plain (tri_Name .here ?_))
      cases o with
      | none =>
        have hv' : v = .none := ho
        subst hv'
        exact tr_n (br_f (ih rest hr (k + 1) _ done H hd ha hacc (by omega) q))
      | some nd =>
        obtain ⟨xs, rfl, hxs⟩ := NodeAt.tup ho
        refine tr_t ?_
        rw [decide_eq_true hxs]
        refine br_t (tri_Name .here (list_append hacc (by omega) ?_))
        have hal : acc < H.length := (List.getElem?_eq_some_iff.mp hacc).1
        refine ih rest hr (k + 1) _ (done ++ [.tup xs]) _ hd (by rw [List.getElem?_set_ne haa.symm]; exact ha) (by rw [List.getElem?_set_self hal]) (by simp; omega) fun w' ds hds => ?_
        rw [List.set_set, List.append_assoc]
        exact q w' (.tup xs :: ds) (.cons ho hds)

/-- the locals of _parse_or -/
abbrev oL (i : Nat) (a : Option V) : Loc := [("self", some (.loc i)), ("nodes", a)]

section
variable {P : Params} {X : Cx} (hK : X.K = KK P) (NX : Names X) {n d : Nat} {env : Env} {m : Loc} {H : List Cell} {i j k p : Nat} {cv : V} {toks : List Tk} {Q : V → Loc → List Cell → Prop} {QB : Bool → Loc → List Cell → Prop} {N B K : Loc → List Cell → Prop} {R : V → Loc → List Cell → Prop}
set_option maxHeartbeats 4000000
include hK NX
/-- self._parse_and() -/
theorem e_and {a b c : Pos} (O : OrOk X (n + 1) i j k cv toks d) (hl : LkL m "self" (.loc i)) (S : PS H i j k cv toks p) (ho : opens (toks.drop p) < d + 1)
    (q : ∀ H' v, PS H' i j k cv toks (andF toks (orD toks d) p).2 → Gr j H H' → OptAt H' H.length (andF toks (orD toks d) p).1 v → Q v m H') (hline : (b.endLine == c.line) = true := by rfl) :
    TE X (n + 4) env m H (eval (.Call (.Attribute (.Name "self" a) "_parse_and" b) [] [] c) env) Q :=
  e_meth hK NX rfl rfl rfl hl S.inst (show ("_parse_and" : Str) ∉ (["columns", "tokens", "pos"] : List Str) by decide) (tx_nil (and_ok hK NX O S ho q)) rfl hline

theorem or_ok (O : OrOk X (n + 1) i j k cv toks d) : OrOk X (n + 5) i j k cv toks (d + 1) := by
  intro env m H p Q S ho q
  refine cn_call (names := ["self"]) (ws := []) (ds := []) (by rw [hK]; rfl) (by rw [hK]; rfl) rfl rfl rfl rfl (by decide +kernel) rfl (fun s cvs hin hl => ?_) (fun _ _ => by unfold DenL; rfl) ?_
  · obtain ⟨c, rfl⟩ : ∃ c, cvs = [c] := by
      match cvs, hl with
      | [c], _ => exact ⟨c, rfl⟩
    exact BindsTo.of_eq rfl
  · intro env' hsc hcode
    obtain ⟨sc, lo, gl, ce, qu, fu, co, fr, bi⟩ := env'
    simp only at hsc hcode
    subst hsc hcode
    have hd : ∀ {H' q}, PS H' i j k cv toks q → ∃ fs, H'[j]? = some (.dict fs) := fun S => ⟨_, S.inst.dict⟩
    show TS X (n + 4) _ [("self", some (.loc i)), ("nodes", none)] H (execs _ _) _ _ _ _
    refine ts_cons (ts_Assign_Name (hfree := nofree) (tri_List (tx_cons (e_and hK NX O .here S (by omega) fun H1 v1 S1 G1 hv1 => tx_nil ⟨by show 1 ≤ sizeLine; decide, ?_⟩))))
    refine ⟨_, .there .here, ?_⟩
    have hos : orD toks (d + 1) p = (match ((orLoop toks (orD toks d) (toks.length + 1) [(andF toks (orD toks d) p).1] (andF toks (orD toks d) p).2).1).filterMap id with
      | [] => none
      | [x] => some x
      | l => some (.or l), (orLoop toks (orD toks d) (toks.length + 1) [(andF toks (orD toks d) p).1] (andF toks (orD toks d) p).2).2) := rfl
    rw [hos] at q
    have hge : p ≤ (andF toks (orD toks d) p).2 := andF_ge fun p => orD_ge
    generalize andF toks (orD toks d) p = r at *
    obtain ⟨nd1, p1⟩ := r
    dsimp only at *
    generalize hres : orLoop toks (orD toks d) (toks.length + 1) [nd1] p1 = res at *
    have hjl : j < H.length := (List.getElem?_eq_some_iff.mp S.inst.dict).1
    have hil : i < H.length := (List.getElem?_eq_some_iff.mp S.inst.inst).1
    have hkl : k < H.length := (List.getElem?_eq_some_iff.mp S.lst).1
    have hl1 := G1.len
    have hsm := S.small.1
    have hsl : sizeLine = 16777216 := rfl
    refine ts_cut (fun m' H' => ∃ vs, m' = oL i (some (.loc H1.length)) ∧ PS H' i j k cv toks res.2 ∧ Gr j H H' ∧ H'[H1.length]? = some (.list vs) ∧ OptsAt (blank H' H1.length) H.length res.1 vs ∧ vs.length ≤ toks.length + 2) (ts_While ?_) ?_
    · refine tw_ind (fun (x : Nat × List (Option Nd) × Nat) m' H' => ∃ vs, m' = oL i (some (.loc H1.length)) ∧ PS H' i j k cv toks x.2.2 ∧ Gr j H H' ∧ H'[H1.length]? = some (.list vs) ∧ OptsAt (blank H' H1.length) H.length x.2.1 vs ∧
        toks.length < x.1 + x.2.2 ∧ orLoop toks (orD toks d) x.1 x.2.1 x.2.2 = res ∧ p ≤ x.2.2 ∧ x.2.1.length + x.1 ≤ toks.length + 2) (fun x => x.1) ?_ (toks.length + 1, [nd1], p1) _ _
        ⟨[v1], rfl, S1.snoc _, G1.trans Gr.snoc, by simp, .cons (OptAt.move (Nat.le_refl _) (fun x vs _ h => list_blank (by rw [List.getElem?_append_left (List.getElem?_eq_some_iff.mp h).1]; exact h) (Nat.ne_of_lt (List.getElem?_eq_some_iff.mp h).1)) hv1) .nil, by dsimp only; omega, hres, hge, by simp; omega⟩
      rintro ⟨f, l, pp⟩ _ H2 ⟨vs, rfl, S2, G2, hn, hvs, hf, hr, hpp, hsz⟩ ih
      dsimp only at *
      refine tw_turn (tb_plain (e_is_op hK NX .here S2 (tr_b ?_)))
      rw [show (Str.ofString "OR").cps.toList = cOR by decide +kernel]
      cases hb : (toks[pp]? == some (Tk.op cOR)) with
      | false =>
        have e : orLoop toks (orD toks d) f l pp = (l, pp) := by
          cases f with
          | zero => rfl
          | succ f => unfold orLoop; rw [hb]; rfl
        rw [e] at hr
        subst hr
        exact br_f ⟨vs, rfl, S2, G2, hn, hvs, by rw [hvs.len]; omega⟩
      | true =>
        have hlt : pp < toks.length := by
          have : toks[pp]? = some (Tk.op cOR) := by simpa using hb
          exact (List.getElem?_eq_some_iff.mp this).1
        obtain ⟨f', rfl⟩ : ∃ f', f = f' + 1 := ⟨f - 1, by omega⟩
        unfold orLoop at hr
        rw [hb] at hr
        simp only [if_true] at hr
        have S3 := S2.setPos (pp + 1)
        have g3 : Gr j H2 (H2.set j (.dict (fieldsOf' cv k (pp + 1)))) := Gr.set
        have hge2 : pp + 1 ≤ (andF toks (orD toks d) (pp + 1)).2 := andF_ge (fun p => orD_ge)
        have hop := opens_drop (toks := toks) (show p ≤ pp + 1 by omega)
        have hn3 := g3.get hn (by omega)
        have hal : H1.length < H2.length := (List.getElem?_eq_some_iff.mp hn).1
        refine br_t (ts_cons (ts_pos hK NX .here S2 ?_))
        refine ts_cons (ts_Expr (tri_CallM (tri_Name (.there .here) (tm_list hn3 F.slot_list_append F.type_list_append ⟨kn_builtin, tx_cons (e_and hK NX O .here S3 (by omega) fun H4 v4 S4 G4 hv4 => tx_nil (list_append (G4.get hn3 (by omega)) ?_ ?_))⟩))))
        · have := hvs.len; omega
        have GG := g3.trans G4
        have hn4 := GG.get hn (by omega)
        have hl3 : H2.length ≤ H4.length := GG.len
        have hv5 : OptsAt (blank H4 H1.length) H.length l vs := hvs.move (Nat.le_refl _) fun x ws hx h => by
          obtain ⟨h1, h2⟩ := blank_list h
          exact list_blank (GG.lists (hd S2) (lo := 0) x ws (Nat.zero_le _) h2) h1
        have hv6 : OptAt (blank H4 H1.length) H.length (andF toks (orD toks d) (pp + 1)).1 v4 := OptAt.move (lo := (H2.set j (.dict (fieldsOf' cv k (pp + 1)))).length) (by rw [List.length_set]; omega) (fun x ws hx h => list_blank h (by rw [List.length_set] at hx; omega)) hv4
        have hbl : blank (H4.set H1.length (.list (vs ++ [v4]))) H1.length = blank H4 H1.length := by unfold blank; rw [List.set_set]
        generalize andF toks (orD toks d) (pp + 1) = r2 at *
        obtain ⟨nd2, p4⟩ := r2
        dsimp only at *
        exact ts_nil (ih (f', l ++ [nd2], p4) _ _ (by dsimp only; omega) ⟨vs ++ [v4], rfl, S4.other (by omega) (by omega) (by omega), (G2.trans GG).setHi (by omega), by rw [List.getElem?_set_self (by omega)], by rw [hbl]; exact hv5.snoc hv6, by dsimp only; omega, hr, by dsimp only; omega, by simp; omega⟩)
    · rintro _ H2 ⟨vs, rfl, S2, G2, hn, hvs, hvn⟩
      obtain ⟨nds, q4⟩ := res
      dsimp only at *
      have hal : H1.length < H2.length := (List.getElem?_eq_some_iff.mp hn).1
      have hlen := hvs.len
      have hvl : vs.length < sizeLine := by omega
      have hlen2 : H.length ≤ H2.length := G2.len
      refine ts_cut (fun m' H' => ∃ b ds, m' = oL i (some (.loc b)) ∧ PS H' i j k cv toks q4 ∧ Gr j H H' ∧ H.length ≤ b ∧ H'[b]? = some (.list ds) ∧ NodesAt H' H.length (nds.filterMap id) ds) (ts_Assign_Comp [] ⟨by simp, by simp, by simp⟩ rfl (by decide) (by decide) ⟨rfl, by decide, by decide⟩ (tri_Name (.there .here) ⟨rfl, .lst H1.length 0, rfl, fun i e => ⟨vs, by cases e; exact hn⟩, fun k e => (by cases e), fun cl C => ?_⟩) nofree) ?_
      · refine tc_nodes (HH := blank H2 H1.length) (lo := H.length) (by exact nofree) (by omega) hvl nds vs hvs 0 none [] _ rfl (by rw [List.getElem?_append_left hal]; exact hn) (by simp) (by simp) fun w' ds hds => ⟨by simp, _, .there .here, H2.length, ds, rfl, ?_, ?_, by omega, ?_, ?_⟩
        · exact (S2.snoc _).other (by omega) (by omega) (by omega)
        · exact (G2.trans Gr.snoc).setHi (by omega)
        · rw [List.nil_append, List.getElem?_set_self (by simp)]
        · refine hds.move (Nat.le_refl _) fun x ws hx h => ?_
          obtain ⟨h1, h2⟩ := blank_list h
          have := (List.getElem?_eq_some_iff.mp h2).1
          rw [List.getElem?_set_ne (by omega), List.getElem?_append_left this]; exact h2
      · rintro _ H5 ⟨b, ds, rfl, S5, G5, hb, hn5, hds⟩
        refine ts_cons (ts_If (tb_Not (tb_plain (tri_Name (.there .here) (tr_l hn5 ?_)))))
        generalize nds.filterMap id = L at *
        cases hds with
        | nil => exact br_t (ts_cons (ts_Return (tri_none (q H5 .none S5 G5 rfl))))
        | @cons x v l vs hx hl =>
          refine br_f (ts_nil (ts_cons (ts_Return (tri_IfExp (tb_Compare (hm := by with_unfolding_all rfl) (tri_CallN (f := .builtin "len") rfl (.inr NX.len) kn_builtin (tx_cons (tri_Name (.there .here) (tx_nil (len_l hn5 ?_))))))))))
          refine tri_int (eq_i (tr_b ?_))
          cases hl with
          | nil =>
            exact br_t (tri_Subscript (tri_Name (.there .here) (tri_int (t2_item_list hn5 (by decide) (v := v) rfl (q _ _ S5 G5 hx)))))
          | @cons y u l vs hy hl =>
            refine br_c (fun h => absurd (of_decide_eq_true h) (by simp; omega)) (fun _ => ?_)
            refine tri_Tuple (tx_cons (tri_str (tx_cons (tri_Name (.there .here) (tx_nil ⟨by show 2 ≤ sizeLine; decide, ?_⟩)))))
            exact q _ _ S5 G5 (.or hb hn5 (.cons hx (.cons hy hl)))
end
end Mine
end
section
open PySem PySem.W PyProof.Rows PySem.Calls
set_option Elab.async false
set_option linter.unusedVariables false
namespace Mine
mutual
/-- how deep a node goes -/
def dep : Nd → Nat
  | .t _ => 0
  | .col _ n => dep n + 1
  | .and l => depL l + 1
  | .or l => depL l + 1
  | .not n l => max (dep n) (depL l) + 1
def depL : List Nd → Nat
  | [] => 0
  | x :: l => max (dep x) (depL l)
end
theorem depL_mem {x : Nd} : ∀ {l : List Nd}, x ∈ l → dep x ≤ depL l
  | y :: l, h => by
    unfold depL
    rcases List.mem_cons.mp h with rfl | h
    · exact Nat.le_max_left ..
    · exact Nat.le_trans (depL_mem h) (Nat.le_max_right ..)
theorem renderJ_is (sep : List Nat) : ∀ l : List Nd, renderJ sep l = joinL sep (l.map (renderN true))
  | [] => by simp [renderJ, joinL]
  | [x] => by simp [renderJ, joinL]
  | x :: y :: l => by
    unfold renderJ
    rw [renderJ_is sep (y :: l)]
    simp [joinL]
theorem joinL_length (sep : List Nat) : ∀ l : List (List Nat), (l.map List.length).sum + l.length * sep.length ≤ (joinL sep l).length + sep.length
  | [] => by simp [joinL]
  | [x] => by simp [joinL]
  | x :: y :: l => by
    have := joinL_length sep (y :: l)
    simp only [joinL, List.map_cons, List.sum_cons, List.length_cons, List.length_append] at this ⊢
    have e1 : (l.length + 1) * sep.length = l.length * sep.length + sep.length := Nat.succ_mul ..
    have e2 : (l.length + 1 + 1) * sep.length = l.length * sep.length + sep.length + sep.length := by rw [Nat.succ_mul, e1]
    rw [e1] at this
    rw [e2]
    omega
theorem mem_joinL (sep : List Nat) {x : List Nat} : ∀ {l : List (List Nat)}, x ∈ l → x.length ≤ (joinL sep l).length
  | [y], h => by
    rcases List.mem_cons.mp h with rfl | h
    · simp [joinL]
    · cases h
  | y :: z :: l, h => by
    simp only [joinL, List.length_append]
    rcases List.mem_cons.mp h with rfl | h
    · omega
    · have := mem_joinL sep (l := z :: l) h
      omega
theorem mem_renderJ (sep : List Nat) {x : Nd} {l : List Nd} (h : x ∈ l) : (renderN true x).length ≤ (renderJ sep l).length := by
  rw [renderJ_is]; exact mem_joinL sep (List.mem_map.mpr ⟨x, h, rfl⟩)

mutual
theorem NodeAt.uniq {H : List Cell} {lo : Nat} : ∀ {nd v}, NodeAt H lo nd v → ∀ {nd'}, NodeAt H lo nd' v → nd = nd'
  | _, _, .t, _, h => by cases h; rfl
  | _, _, .col h0, _, h => by
    cases h with
    | col h1 => rw [NodeAt.uniq h0 h1]
  | _, _, .and _ e h0, _, h => by
    cases h with
    | and _ e' h1 => rw [e] at e'; cases e'; rw [NodesAt.uniq h0 h1]
  | _, _, .or _ e h0, _, h => by
    cases h with
    | or _ e' h1 => rw [e] at e'; cases e'; rw [NodesAt.uniq h0 h1]
  | _, _, .not hn _ e h0, _, h => by
    cases h with
    | not hn' _ e' h1 => rw [e] at e'; cases e'; rw [NodesAt.uniq h0 h1, NodeAt.uniq hn hn']
theorem NodesAt.uniq {H : List Cell} {lo : Nat} : ∀ {l vs}, NodesAt H lo l vs → ∀ {l'}, NodesAt H lo l' vs → l = l'
  | _, _, .nil, _, h => by cases h; rfl
  | _, _, .cons a b, _, h => by
    cases h with
    | cons a' b' => rw [NodeAt.uniq a a', NodesAt.uniq b b']
end
open Classical in
/-- the text of what stands for a node -/
noncomputable def txt (H : List Cell) (lo : Nat) (v : V) : List Nat := if h : ∃ nd, NodeAt H lo nd v then renderN true h.choose else []
theorem txt_is {H lo nd v} (h : NodeAt H lo nd v) : txt H lo v = renderN true nd := by
  have e : ∃ nd, NodeAt H lo nd v := ⟨nd, h⟩
  unfold txt
  rw [dif_pos e, NodeAt.uniq e.choose_spec h]
theorem txts_are {H lo} : ∀ {l vs}, NodesAt H lo l vs → vs.map (txt H lo) = l.map (renderN true)
  | _, _, .nil => rfl
  | _, _, .cons a b => by rw [List.map_cons, List.map_cons, txt_is a, txts_are b]
theorem NodesAt.of_mem {H lo v} : ∀ {l vs}, NodesAt H lo l vs → v ∈ vs → ∃ nd ∈ l, NodeAt H lo nd v
  | _, _, .cons a b, h => by
    rcases List.mem_cons.mp h with rfl | h
    · exact ⟨_, .head _, a⟩
    · obtain ⟨nd, h1, h2⟩ := NodesAt.of_mem b h
      exact ⟨nd, .tail _ h1, h2⟩
theorem NodesAt.len {H lo} : ∀ {l vs}, NodesAt H lo l vs → vs.length = l.length
  | _, _, .nil => rfl
  | _, _, .cons _ b => by simp [NodesAt.len b]
theorem items_list {H : List Cell} {a : Nat} {vs : List V} (h : H[a]? = some (.list vs)) : ∀ (rest : List V) (k : Nat), vs.drop k = rest → Items H (.lst a k) rest
  | [], k, hd => .nil (by
    have : vs[k]? = none := by
      rw [List.getElem?_eq_none_iff]
      have := congrArg List.length hd
      simp at this; omega
    simp only [nextS, h, this])
  | v :: rest, k, hd => by
    have hlt : k < vs.length := by
      rcases Nat.lt_or_ge k vs.length with h | h
      · exact h
      · rw [List.drop_eq_nil_of_le h] at hd; cases hd
    rw [List.drop_eq_getElem_cons hlt] at hd
    injection hd with hv hd
    exact .cons (by simp only [nextS, h, List.getElem?_eq_getElem hlt, hv]) (items_list h rest (k + 1) hd)
/-- the free names of a scope, one of them -/
theorem frees_self {env : Env} {m : Loc} {scope : Scope} {k : Str → Option NameKind} {v : V} {x : Str} (h1 : (x, some v) ∈ m) (h2 : env.kindOf x ≠ some .local) (h3 : (x, NameKind.free) ∈ scope.names) (h4 : k x = some .free) (h5 : x ≠ "__debug__" ∧ x ≠ "__classdict__")
    (h6 : ∀ y, (y, NameKind.free) ∈ scope.names → y = x) : Frees env m scope k [(x, v)] where
  mem := fun p hp => by
    rcases List.mem_cons.mp hp with rfl | hp
    · exact ⟨h1, h2, h3, .inr h4, h5.1, h5.2⟩
    · cases hp
  all := fun y hy => ⟨v, by rw [h6 y hy]; exact .head _⟩
  nd := by simp
end Mine
end
section
open PySem PySem.W PyProof.Rows PySem.Calls
set_option Elab.async false
set_option maxRecDepth 100000
set_option linter.unusedVariables false
namespace Mine
section
variable {X : Cx} {n : Nat} {env : Env} {m : Loc} {H : List Cell} {Q : V → Loc → List Cell → Prop}

/-- parts of an f-string behind what is there -/
abbrev TJ (X : Cx) (n : Nat) (env : Env) (m : Loc) (H : List Cell) (out : List Nat) (es : List Expr) (Q : V → Loc → List Cell → Prop) : Prop := TE X n env m H (joinParts ⟨out.toArray⟩ (evalEach es env)) Q
theorem tj_nil {out : List Nat} (hz : out.length ≤ sizeLine) (q : Q (.str out) m H) : TJ X n env m H out [] Q :=
  TriP.tok (b := V.str out) (fun _ s C E η _ k => joinParts_nil (k _ _ (den_str'.mpr ⟨_, rfl⟩)) (by show out.toArray.size ≤ _; simpa using hz)) q
theorem tj_cons {out : List Nat} {e : Expr} {es : List Expr} (h : TE X n env m H (eval e env) fun v m H => ∃ y, v = .str y ∧ (out ++ y).length ≤ sizeLine ∧ TJ X n env m H (out ++ y) es Q) : TJ X n env m H out (e :: es) Q := by
  intro A η s C E R r ev _ k
  refine joinParts_cons (h A η s _ E R r ev trivial fun v m1 H1 a η1 s1 q1 d1 r1 e1 a1 => ?_)
  obtain ⟨y, rfl, hz, q⟩ := q1
  obtain ⟨t, rfl⟩ := den_str'.mp d1
  have hh : (⟨out.toArray⟩ : PySem.Str) ++ ⟨y.toArray⟩ = ⟨(out ++ y).toArray⟩ := by
    show PySem.Str.mk (out.toArray ++ y.toArray) = _
    simp
  refine ⟨by rw [hh]; show (out ++ y).toArray.size ≤ _; simpa using hz, ?_⟩
  rw [hh]
  exact q A η1 s1 C E R r1 e1 trivial fun v' m' H' c η' s' q d r' e' a' => k v' m' H' c η' s' q d r' e' (a1.trans a')
theorem tri_Joined {e1 e2 : Expr} {es : List Expr} {pos : Pos} (h : TJ X n env m H [] (e1 :: e2 :: es) Q) : TE X n env m H (eval (.JoinedStr (e1 :: e2 :: es) pos) env) Q := h
/-- a text in an f-string -/
theorem tri_Fmt {value : Expr} {pos : Pos} (h : TE X n env m H (eval value env) fun v m H => ∃ y, v = .str y ∧ y.length ≤ sizeLine ∧ Q (.str y) m H) : TE X n env m H (eval (.FormattedValue value 115 none pos) env) Q := by
  intro A η s C E R r ev _ k
  show wpAny _ A (do let v ← eval value env; standAt pos; formatted pos (← holding [v] (converted 115 v)) none) C E s
  refine wpAny_bind (h A η s _ E R r ev trivial fun v m1 H1 a η1 s1 q1 d1 r1 e1 a1 => ?_)
  obtain ⟨y, rfl, hz, q⟩ := q1
  obtain ⟨t, rfl⟩ := den_str'.mp d1
  have hz' : (⟨y.toArray⟩ : PySem.Str).length ≤ sizeLine := by show y.toArray.size ≤ _; simpa using hz
  refine wpAny_bind (wpAny_standAt ?_)
  refine wpAny_bind (wpAny_holding (habitSame_str (fun t' tk => ?_) hz'))
  refine formatField_str (fun t2 tk2 => ?_) hz'
  exact k _ m1 H1 _ η1 { s1 with toks := tk2 } q (den_str'.mpr ⟨_, rfl⟩) r1 e1 (a1.trans (Adv.ofExt fun _ _ x => x))
end
end Mine
end
section
open PySem PySem.W PyProof.Rows PySem.Calls
set_option Elab.async false
set_option maxRecDepth 100000
set_option linter.unusedVariables false
set_option linter.unusedSectionVars false
namespace Mine
/-- the locals of _render -/
abbrev rL (i : Nat) (v : V) (nested : Bool) (a b : Option V) : Loc := [("self", some (.loc i)), ("node", some v), ("nested", some (.bool nested)), ("kind", a), ("sql", b)]
section
variable {P : Params} {X : Cx} (hK : X.K = KK P) (NX : Names X) (hB : BuiltinsOk X) {PT : Addr} (hG : GenCode X 120 PT) {n d : Nat} {env : Env} {m : Loc} {H : List Cell} {i j lo : Nat} {fs : List (Str × V)}
  {Q : V → Loc → List Cell → Prop} {N B K : Loc → List Cell → Prop} {R : V → Loc → List Cell → Prop}

/-- what calls of _render on smaller nodes give -/
def RenOk (X : Cx) (n : Nat) (H : List Cell) (i lo D : Nat) : Prop :=
  ∀ {env m nd v Q}, dep nd < D → (renderN true nd).length ≤ 900000 → NodeAt H lo nd v → Q (.str (renderN true nd)) m H → CN X n env m H (.ref 121) [.loc i, v, .bool true] Q

theorem cn_mono {X : Cx} {n : Nat} {env : Env} {m : Loc} {H : List Cell} {f : Value} {vs : List V} {Q : V → Loc → List Cell → Prop} (h : CN X n env m H f vs Q) : CN X (n + 1) env m H f vs Q :=
  fun cvs A η s C Ro => h cvs A η s C ⟨Ro.handled, by have := Ro.depth; omega, by have := Ro.units; omega⟩

set_option maxHeartbeats 4000000
include hK NX
theorem e_render {a b c : Pos} {args : List Expr} {fs : List (Str × V)} (hl : LkL m "self" (.loc i)) (I : IsInst H i j 131 fs) (hn : ("_render" : Str) ∉ fs.map (·.1))
    (h : TX X n env m H c args fun vs m H => CN X n env m H (.ref 121) (.loc i :: vs) Q)
    (hform : methodCallForm (args.length + 0) (backTo c (starEach args env)) [] = true := by rfl) (hline : (b.endLine == c.line) = true := by rfl) :
    TE X n env m H (eval (.Call (.Attribute (.Name "self" a) "_render" b) args [] c) env) Q :=
  e_meth hK NX rfl rfl rfl hl I hn h hform hline

include hB hG
/-- sep.join(self._render(n, True) for n in node[k]) -/
theorem e_join {D : Nat} {sep : Str} {a b c e f g h p2 p3 p4 p5 p6 p7 : Pos} {k : Int} {k1 k2 k3 : Nat} {scope : Scope} {v : V} {nested : Bool} {ka kb : Option V} {x : Nat} {l : List Nd} {vs : List V} {xs : List V}
    (hcode : env.code = .ref 120) (henv : env.kindOf "self" ≠ some .local)
    (O : RenOk X n H i lo D) (I : IsInst H i j 131 fs) (hn : ("_render" : Str) ∉ fs.map (·.1)) (h0 : 0 ≤ k) (hv : xs[k.toNat]? = some (.loc x)) (hx : H[x]? = some (.list vs)) (hvs : NodesAt H lo l vs) (hd : depL l < D) (hz : (renderJ sep.cps.toList l).length ≤ 900000) (hsep : sep.cps.toList.length ≤ 100)
    (hsp : 1 ≤ sep.cps.toList.length)
    (hsc : scope = { kind := .function, names := [(".0", .local), ("n", .local), ("self", .free)], isGenerator := true, isCoroutine := false, more := [] })
    (q : Q (.str (renderJ sep.cps.toList l)) (rL i (.tup xs) nested ka kb) H) (l1 : (p2.endLine == p3.line) = true) (l2 : (b.endLine == c.line) = true) :
    TE X (n + 1) env (rL i (.tup xs) nested ka kb) H (eval (.Call (.Attribute (.Constant (.str sep) k1 p4) "join" p2) [.GeneratorExp (.Call (.Attribute (.Name "self" a) "_render" b) [.Name "n" e, .Constant (.bool true) k2 f] [] c)
      [⟨.Name "n" g, .Subscript (.Name "node" h) (.Constant (.int k) k3 p5) p6, [], 0⟩] scope p7] [] p3) env) Q := by
  subst hsc
  have hsl : vs.length ≤ sizeLine := by
    have e2 := joinL_length sep.cps.toList (vs.map (txt H lo))
    rw [List.length_map, txts_are hvs, ← renderJ_is] at e2
    have e3 : vs.length * 1 ≤ vs.length * sep.cps.toList.length := Nat.mul_le_mul_left _ hsp
    have : sizeLine = 16777216 := rfl
    omega
  refine tri_CallM2 (tri_str (tm_str F.slot_str_join F.type_str_join ?_)) rfl rfl l1
  refine tc_join (fv := [("self", .loc i)]) (L := vs) (f := txt H lo) (X := X) ⟨frees_self (.head _) henv (by decide) (by decide) (by decide) (by simp), ⟨120, PT, hG, hcode⟩, hB, rfl, by decide, by decide, by decide, rfl, fun _ => rfl, ?_⟩ hsl ?_ ?_ ?_
  · exact tri_Subscript (tri_Name (.there .here) (tri_int (t2_item_tup h0 hv ⟨rfl, rfl, .lst x 0, rfl, fun i e => ⟨vs, by cases e; exact hx⟩, fun k e => (by cases e), items_list hx vs 0 rfl⟩)))
  · intro cl C code v hv
    obtain ⟨nd, h1, h2⟩ := hvs.of_mem hv
    refine e_render hK NX (.there .here) I hn (tx_cons (tri_Name .here (tx_cons (tri_bool (tx_nil ?_))))) rfl l2
    refine O (Nat.lt_of_le_of_lt (depL_mem h1) hd) (Nat.le_trans (mem_renderJ _ h1) hz) h2 ⟨rfl, rfl, ?_⟩
    rw [txt_is h2]
  · have e1 : (vs.map fun y => (txt H lo y).length) = ((vs.map (txt H lo)).map List.length) := by simp
    have e2 := joinL_length sep.cps.toList (vs.map (txt H lo))
    rw [e1]
    rw [List.length_map] at e2
    rw [txts_are hvs, ← renderJ_is] at e2
    rw [txts_are hvs]
    omega
  · rw [txts_are hvs, ← renderJ_is]; exact q
omit hK NX hB hG in
/-- '(%s)' % sql if nested else sql -/
theorem e_ret {p1 p2 p3 p4 p5 p6 : Pos} {k1 : Nat} {v : V} {nested : Bool} {ka : Option V} {z : List Nat} (hz : z.length ≤ 900000) (q : Q (.str (if nested then 40 :: z ++ [41] else z)) (rL i v nested ka (some (.str z))) H) :
    TE X n env (rL i v nested ka (some (.str z))) H (eval (.IfExp (.Name "nested" p1) (.BinOp (.Constant (.str "(%s)") k1 p2) .Mod (.Name "sql" p3) p4) (.Name "sql" p5) p6) env) Q := by
  refine tri_IfExp (tb_plain (tri_Name (.there (.there .here)) (tr_b ?_)))
  refine br_c (fun h => ?_) (fun h => ?_)
  · subst h
    refine tri_BinOp (tri_str (tri_Name (.there (.there (.there (.there .here)))) ?_))
    rw [show (Str.ofString "(%s)").cps.toList = [40, 37, 115, 41] by decide +kernel]
    exact pct_p (by omega) q
  · subst h
    exact tri_Name (.there (.there (.there (.there .here)))) q

theorem render_cn {D : Nat} {nd : Nd} {v : V} {nested : Bool} {vs ws : List V} {ds : List Value} (hcase : (vs = [.loc i, v, .bool nested] ∧ ws = [] ∧ ds = []) ∨ (vs = [.loc i, v] ∧ ws = [.bool false] ∧ ds = [Value.bool false] ∧ nested = false))
    (O : RenOk X n H i lo D) (I : IsInst H i j 131 fs) (hn : ("_render" : Str) ∉ fs.map (·.1)) (hd : dep nd ≤ D) (hz : (renderN true nd).length ≤ 900000) (hN : NodeAt H lo nd v)
    (q : Q (.str (renderN nested nd)) m H) : CN X (n + 2) env m H (.ref 121) vs Q := by
  have hvw : vs ++ ws = [.loc i, v, .bool nested] := by
    rcases hcase with ⟨rfl, rfl, _⟩ | ⟨rfl, rfl, _, rfl⟩ <;> rfl
  refine cn_call (names := ["self", "node", "nested"]) (ws := ws) (ds := ds) (by rw [hK]; rfl) (by rw [hK]; rfl) rfl rfl rfl rfl (by decide +kernel) ?_ (fun s cvs hin hl => ?_) (fun _ _ => ?_) ?_
  · have := congrArg List.length hvw; simpa using this
  · rcases hcase with ⟨rfl, rfl, rfl⟩ | ⟨rfl, rfl, rfl, rfl⟩
    · obtain ⟨c, c2, c3, rfl⟩ : ∃ c c2 c3, cvs = [c, c2, c3] := by
        match cvs, hl with
        | [c, c2, c3], _ => exact ⟨c, c2, c3, rfl⟩
      exact binds_K hin rfl (by rw [hK]; rfl) rfl rfl rfl
    · obtain ⟨c, c2, rfl⟩ : ∃ c c2, cvs = [c, c2] := by
        match cvs, hl with
        | [c, c2], _ => exact ⟨c, c2, rfl⟩
      exact binds_K hin rfl (by rw [hK]; rfl) rfl rfl rfl
  · rcases hcase with ⟨_, rfl, rfl⟩ | ⟨_, rfl, rfl, _⟩
    · unfold DenL; rfl
    · unfold DenL; exact ⟨_, _, rfl, den_bool.mpr rfl, by unfold DenL; rfl⟩
  · intro env' hsc hcode
    rw [hvw]
    obtain ⟨sc, lo', gl, ce, qu, fu, co, fr, bi⟩ := env'
    simp only at hsc hcode
    subst hsc hcode
    show TS X (n + 1) _ (rL i v nested none none) H (execs _ _) _ _ _ _
    have up : ∀ {a b w}, UpdL (rL i v nested a b) "kind" w (rL i v nested (some w) b) := .there (.there (.there .here))
    have us : ∀ {a b w}, UpdL (rL i v nested a b) "sql" w (rL i v nested a (some w)) := .there (.there (.there (.there .here)))
    have lk : ∀ {a b}, LkL (rL i v nested (some a) b) "kind" a := .there (.there (.there .here))
    cases hN with
    | @t s =>
      refine ts_cons (ts_Assign_Name (hfree := nofree) (tri_Subscript (tri_Name (.there .here) (tri_int (t2_item_tup (by decide) (v := .str [116]) rfl ⟨_, up, ?_⟩)))))
      refine ts_cons (ts_If (tb_Compare (hm := by with_unfolding_all rfl) (tri_Name lk (tri_str (eq_s (tr_b (br_c (fun h => ?_) (fun h => absurd (of_decide_eq_false h) (by decide +kernel)))))))))
      exact ts_cons (ts_Return (tri_Subscript (tri_Name (.there .here) (tri_int (t2_item_tup (by decide) (v := .str s) rfl q)))))
    | @col c nd w h0 =>
      have hr : renderN nested (.col c nd) = if nested then 40 :: (c ++ 58 :: 32 :: renderN true nd) ++ [41] else c ++ 58 :: 32 :: renderN true nd := by cases nested <;> rfl
      have hz1 : (c ++ 58 :: 32 :: renderN true nd).length ≤ 900000 := by simp only [renderN, if_true, List.length_append, List.length_cons] at hz ⊢; omega
      have hsl : sizeLine = 16777216 := rfl
      simp only [List.length_append, List.length_cons] at hz1
      refine ts_cons (ts_Assign_Name (hfree := nofree) (tri_Subscript (tri_Name (.there .here) (tri_int (t2_item_tup (by decide) (v := .str [99, 111, 108]) rfl ⟨_, up, ?_⟩)))))
      refine ts_cons (ts_If (tb_Compare (hm := by with_unfolding_all rfl) (tri_Name lk (tri_str (eq_s (tr_b (br_c (fun h => absurd (of_decide_eq_true h) (by decide +kernel)) (fun h => ?_))))))))
      refine ts_nil (ts_cons (ts_If (tb_Compare (hm := by with_unfolding_all rfl) (tri_Name lk (tri_str (eq_s (tr_b (br_c (fun h => ?_) (fun h => absurd (of_decide_eq_false h) (by decide +kernel))))))))))
      refine ts_cons (ts_Assign_Name (hfree := nofree) (tri_Joined (tj_cons (tri_Fmt (tri_Subscript (tri_Name (.there .here) (tri_int (t2_item_tup (by decide) (v := .str c) rfl ⟨c, rfl, by omega, c, rfl, by rw [List.nil_append]; omega, tj_cons (tri_str ⟨_, rfl, ?_, ?_⟩)⟩))))))))
      · rw [show (Str.ofString ": ").cps.toList = [58, 32] by decide +kernel]; simp; omega
      rw [show (Str.ofString ": ").cps.toList = [58, 32] by decide +kernel]
      refine tj_cons (tri_Fmt (e_render hK NX .here I hn (tx_cons (tri_Subscript (tri_Name (.there .here) (tri_int (t2_item_tup (by decide) (v := w) rfl (tx_cons (tri_bool (tx_nil ?_)))))))) rfl rfl))
      refine cn_mono (O (by unfold dep at hd; omega) (by omega) h0 ⟨_, rfl, by omega, _, rfl, by simp; omega, tj_nil (by simp; omega) ⟨_, us, ?_⟩⟩)
      refine ts_cons (ts_Return (e_ret (by simp; omega) ?_))
      rw [hr] at q
      simpa using q
    | @and l x vs' hx hl hs =>
      have hr : renderN nested (.and l) = if nested then 40 :: (renderJ [32, 65, 78, 68, 32] l) ++ [41] else renderJ [32, 65, 78, 68, 32] l := by cases nested <;> rfl
      have hz1 : (renderJ [32, 65, 78, 68, 32] l).length ≤ 900000 := by simp only [renderN, if_true, List.length_append, List.length_cons] at hz ⊢; omega
      have hsep : (Str.ofString " AND ").cps.toList = [32, 65, 78, 68, 32] := by decide +kernel
      refine ts_cons (ts_Assign_Name (hfree := nofree) (tri_Subscript (tri_Name (.there .here) (tri_int (t2_item_tup (by decide) (v := .str [97, 110, 100]) rfl ⟨_, up, ?_⟩)))))
      refine ts_cons (ts_If (tb_Compare (hm := by with_unfolding_all rfl) (tri_Name lk (tri_str (eq_s (tr_b (br_c (fun h => absurd (of_decide_eq_true h) (by decide +kernel)) (fun h => ?_))))))))
      refine ts_nil (ts_cons (ts_If (tb_Compare (hm := by with_unfolding_all rfl) (tri_Name lk (tri_str (eq_s (tr_b (br_c (fun h => absurd (of_decide_eq_true h) (by decide +kernel)) (fun h => ?_)))))))))
      refine ts_nil (ts_cons (ts_If (tb_Compare (hm := by with_unfolding_all rfl) (tri_Name lk (tri_str (eq_s (tr_b (br_c (fun h => ?_) (fun h => absurd (of_decide_eq_false h) (by decide +kernel))))))))))
      refine ts_cons (ts_Assign_Name (hfree := nofree) (e_join hK NX hB hG (sep := " AND ") (v := .none) rfl (show some NameKind.cell ≠ some NameKind.local by decide) O I hn (by decide) rfl hl hs (by unfold dep at hd; omega) (by rw [hsep]; exact hz1) (by rw [hsep]; decide) (by rw [hsep]; decide) rfl ⟨_, us, ?_⟩ rfl rfl))
      rw [hsep]
      refine ts_nil ?_
      refine ts_cons (ts_Return (e_ret hz1 ?_))
      rw [hr] at q
      exact q
    | @or l x vs' hx hl hs =>
      have hr : renderN nested (.or l) = if nested then 40 :: (renderJ [32, 79, 82, 32] l) ++ [41] else renderJ [32, 79, 82, 32] l := by cases nested <;> rfl
      have hz1 : (renderJ [32, 79, 82, 32] l).length ≤ 900000 := by simp only [renderN, if_true, List.length_append, List.length_cons] at hz ⊢; omega
      have hsep : (Str.ofString " OR ").cps.toList = [32, 79, 82, 32] := by decide +kernel
      refine ts_cons (ts_Assign_Name (hfree := nofree) (tri_Subscript (tri_Name (.there .here) (tri_int (t2_item_tup (by decide) (v := .str [111, 114]) rfl ⟨_, up, ?_⟩)))))
      refine ts_cons (ts_If (tb_Compare (hm := by with_unfolding_all rfl) (tri_Name lk (tri_str (eq_s (tr_b (br_c (fun h => absurd (of_decide_eq_true h) (by decide +kernel)) (fun h => ?_))))))))
      refine ts_nil (ts_cons (ts_If (tb_Compare (hm := by with_unfolding_all rfl) (tri_Name lk (tri_str (eq_s (tr_b (br_c (fun h => absurd (of_decide_eq_true h) (by decide +kernel)) (fun h => ?_)))))))))
      refine ts_nil (ts_cons (ts_If (tb_Compare (hm := by with_unfolding_all rfl) (tri_Name lk (tri_str (eq_s (tr_b (br_c (fun h => absurd (of_decide_eq_true h) (by decide +kernel)) (fun h => ?_)))))))))
      refine ts_cons (ts_If (tb_Compare (hm := by with_unfolding_all rfl) (tri_Name lk (tri_str (eq_s (tr_b (br_c (fun h => ?_) (fun h => absurd (of_decide_eq_false h) (by decide +kernel)))))))))
      refine ts_cons (ts_Assign_Name (hfree := nofree) (e_join hK NX hB hG (sep := " OR ") (v := .none) rfl (show some NameKind.cell ≠ some NameKind.local by decide) O I hn (by decide) rfl hl hs (by unfold dep at hd; omega) (by rw [hsep]; exact hz1) (by rw [hsep]; decide) (by rw [hsep]; decide) rfl ⟨_, us, ?_⟩ rfl rfl))
      rw [hsep]
      refine ts_nil (ts_nil ?_)
      refine ts_cons (ts_Return (e_ret hz1 ?_))
      rw [hr] at q
      exact q
    | @not nd w l x vs' hw hx hl hs =>
      have hr : renderN nested (.not nd l) = if nested then 40 :: (renderN true nd ++ [32, 78, 79, 84, 32] ++ renderJ [32, 78, 79, 84, 32] l) ++ [41] else renderN true nd ++ [32, 78, 79, 84, 32] ++ renderJ [32, 78, 79, 84, 32] l := by cases nested <;> rfl
      have hz1 : (renderN true nd ++ [32, 78, 79, 84, 32] ++ renderJ [32, 78, 79, 84, 32] l).length ≤ 900000 := by simp only [renderN, if_true, List.length_append, List.length_cons] at hz ⊢; omega
      have hsl : sizeLine = 16777216 := rfl
      have hz2 := hz1
      simp only [List.length_append, List.length_cons] at hz2
      have hsep : (Str.ofString " NOT ").cps.toList = [32, 78, 79, 84, 32] := by decide +kernel
      unfold dep at hd
      refine ts_cons (ts_Assign_Name (hfree := nofree) (tri_Subscript (tri_Name (.there .here) (tri_int (t2_item_tup (by decide) (v := .str [110, 111, 116]) rfl ⟨_, up, ?_⟩)))))
      refine ts_cons (ts_If (tb_Compare (hm := by with_unfolding_all rfl) (tri_Name lk (tri_str (eq_s (tr_b (br_c (fun h => absurd (of_decide_eq_true h) (by decide +kernel)) (fun h => ?_))))))))
      refine ts_nil (ts_cons (ts_If (tb_Compare (hm := by with_unfolding_all rfl) (tri_Name lk (tri_str (eq_s (tr_b (br_c (fun h => absurd (of_decide_eq_true h) (by decide +kernel)) (fun h => ?_)))))))))
      refine ts_nil (ts_cons (ts_If (tb_Compare (hm := by with_unfolding_all rfl) (tri_Name lk (tri_str (eq_s (tr_b (br_c (fun h => absurd (of_decide_eq_true h) (by decide +kernel)) (fun h => ?_)))))))))
      refine ts_cons (ts_If (tb_Compare (hm := by with_unfolding_all rfl) (tri_Name lk (tri_str (eq_s (tr_b (br_c (fun h => absurd (of_decide_eq_true h) (by decide +kernel)) (fun h => ?_))))))))
      refine ts_cons (ts_Assign_Name (hfree := nofree) (tri_Joined (tj_cons (tri_Fmt (e_render hK NX .here I hn (tx_cons (tri_Subscript (tri_Name (.there .here) (tri_int (t2_item_tup (by decide) (v := w) rfl (tx_cons (tri_bool (tx_nil ?_)))))))) rfl rfl)))))
      refine cn_mono (O (by omega) (by omega) hw ⟨_, rfl, by omega, _, rfl, by rw [List.nil_append]; omega, tj_cons (tri_str ⟨_, rfl, ?_, ?_⟩)⟩)
      · rw [hsep]; simp; omega
      rw [hsep]
      refine tj_cons (tri_Fmt (e_join hK NX hB hG (sep := " NOT ") (v := .none) rfl (show some NameKind.cell ≠ some NameKind.local by decide) O I hn (by decide) rfl hl hs (by omega) (by rw [hsep]; omega) (by rw [hsep]; decide) (by rw [hsep]; decide) rfl ⟨_, rfl, by rw [hsep]; omega, _, rfl, ?_, tj_nil ?_ ⟨_, us, ?_⟩⟩ rfl rfl))
      · rw [hsep]; simp; omega
      · rw [hsep]; simp; omega
      rw [hsep]
      refine ts_nil (ts_nil ?_)
      refine ts_cons (ts_Return (e_ret (by simp; omega) ?_))
      rw [hr] at q
      simpa using q

theorem renOk_all {D : Nat} (I : IsInst H i j 131 fs) (hn : ("_render" : Str) ∉ fs.map (·.1)) : RenOk X (n + 2 * D) H i lo D := by
  induction D with
  | zero => intro env m nd v Q h; exact absurd h (Nat.not_lt_zero _)
  | succ D ih =>
    intro env m nd v Q hd hz hN q
    exact render_cn hK NX hB hG (.inl ⟨rfl, rfl, rfl⟩) ih I hn (Nat.le_of_lt_succ hd) hz hN q
theorem render_ok {D : Nat} {nd : Nd} {v : V} (I : IsInst H i j 131 fs) (hn : ("_render" : Str) ∉ fs.map (·.1)) (hd : dep nd ≤ D) (hz : (renderN true nd).length ≤ 900000) (hN : NodeAt H lo nd v) (q : Q (.str (renderN false nd)) m H) : CN X (n + 2 * D + 2) env m H (.ref 121) [.loc i, v] Q :=
  render_cn hK NX hB hG (.inr ⟨rfl, rfl, rfl, rfl⟩) (renOk_all hK NX hB hG I hn) I hn hd hz hN q
end
end Mine
end
section
open PySem PySem.W PyProof.Rows PySem.Calls
set_option Elab.async false
set_option maxRecDepth 100000
set_option linter.unusedVariables false
set_option linter.unusedSectionVars false
namespace Mine
/-- the locals of translate -/
abbrev tL (i : Nat) (a b c : Option V) : Loc := [("self", some (.loc i)), ("nodes", a), ("pos", b), ("node", c)]
def pushNd (ps : List Nd) : Option Nd → List Nd
  | some nd => ps ++ [nd]
  | none => ps
theorem transLoop_step {toks : List Tk} {d f : Nat} {l : List Nd} {p : Nat} (h : p < toks.length) : transLoop toks d (f + 1) l p = transLoop toks d f (pushNd l (orD toks d p).1) (if (orD toks d p).2 = p then p + 1 else (orD toks d p).2) := by
  rw [transLoop, if_pos h]
  rcases orD toks d p with ⟨_ | nd, q⟩ <;> rfl
/-- the tree of the tokens -/
def treeOf (toks : List Tk) : Option Nd := match transLoop toks (opens toks + 1) toks.length [] 0 with
  | [] => none
  | [x] => some x
  | l => some (.and l)
theorem transl_is (toks : List Tk) : transl toks = match treeOf toks with | none => [34, 34] | some nd => renderN false nd := by
  unfold transl treeOf
  rcases transLoop toks (opens toks + 1) toks.length [] 0 with _ | ⟨x, _ | ⟨y, r⟩⟩ <;> rfl
section
variable {P : Params} {X : Cx} (hK : X.K = KK P) (NX : Names X) (hB : BuiltinsOk X) {PT : Addr} (hG : GenCode X 120 PT) {n d : Nat} {env : Env} {m : Loc} {H : List Cell} {i j k lo : Nat} {cv : V} {toks : List Tk}
  {Q : V → Loc → List Cell → Prop} {N B K : Loc → List Cell → Prop} {R : V → Loc → List Cell → Prop}
set_option maxHeartbeats 4000000
include hK NX
theorem or_all : ∀ d, OrOk X (n + 4 * d + 1) i j k cv toks d
  | 0 => fun S h => absurd h (Nat.not_lt_zero _)
  | d + 1 => or_ok hK NX (or_all d)
theorem cn_monos {f : Value} {vs : List V} (h : CN X n env m H f vs Q) : ∀ k, CN X (n + k) env m H f vs Q
  | 0 => h
  | k + 1 => cn_mono (cn_monos h k)

include hB hG
theorem translate_ok {D e : Nat} (he : opens toks + 1 ≤ e) (S : PS H i j k cv toks 0) (hd : ∀ nd, treeOf toks = some nd → dep nd ≤ D ∧ (renderN true nd).length ≤ 900000)
    (q : ∀ H', (∀ x, x < H.length → x ≠ j → H'[x]? = H[x]?) → H.length ≤ H'.length → Q (.str (transl toks)) m H') : CN X (n + 4 * e + 2 * D + 3) env m H (.ref 128) [.loc i] Q := by
  refine cn_call (names := ["self"]) (ws := []) (ds := []) (by rw [hK]; rfl) (by rw [hK]; rfl) rfl rfl rfl rfl (by decide +kernel) rfl (fun s cvs hin hl => ?_) (fun _ _ => by unfold DenL; rfl) ?_
  · obtain ⟨c, rfl⟩ : ∃ c, cvs = [c] := by
      match cvs, hl with
      | [c], _ => exact ⟨c, rfl⟩
    exact BindsTo.of_eq rfl
  · intro env' hsc hcode
    obtain ⟨sc, lo', gl, ce, qu, fu, co, fr, bi⟩ := env'
    simp only at hsc hcode
    subst hsc hcode
    have hdd : ∀ {H' q}, PS H' i j k cv toks q → ∃ fs, H'[j]? = some (.dict fs) := fun S => ⟨_, S.inst.dict⟩
    show TS X (n + 4 * e + 2 * D + 2) _ (tL i none none none) H (execs _ _) _ _ _ _
    refine ts_cons (ts_Assign_Name (hfree := nofree) (tri_List (tx_nil ⟨by show 0 ≤ sizeLine; decide, _, .there .here, ?_⟩)))
    have hjl : j < H.length := (List.getElem?_eq_some_iff.mp S.inst.dict).1
    have hil : i < H.length := (List.getElem?_eq_some_iff.mp S.inst.inst).1
    have hkl : k < H.length := (List.getElem?_eq_some_iff.mp S.lst).1
    have hsm := S.small.1
    have hsl : sizeLine = 16777216 := rfl
    have O : OrOk X (n + 4 * e + 2 * D + 2) i j k cv toks (opens toks + 1) := by
      intro env' m' H' p' Q' S' ho q'
      have := cn_monos hK NX (or_all (env := env') (n := n) hK NX (opens toks + 1) S' ho q') (4 * (e - (opens toks + 1)) + 2 * D + 1)
      rwa [show n + 4 * (opens toks + 1) + 1 + (4 * (e - (opens toks + 1)) + 2 * D + 1) = n + 4 * e + 2 * D + 2 by omega] at this
    rw [transl_is] at q
    unfold treeOf at q hd
    generalize hres : transLoop toks (opens toks + 1) toks.length [] 0 = res at *
    have S1 := S.snoc (.list [])
    have G1 : Gr j H (H ++ [Cell.list []]) := Gr.snoc
    refine ts_cut (fun m' H' => ∃ b c pv pp, m' = tL i (some (.loc H.length)) b c ∧ PS H' i j k cv toks pp ∧ Gr j H H' ∧ H'[H.length]? = some (.list pv) ∧ NodesAt H' (H.length + 1) res pv) (ts_While ?_) ?_
    · refine tw_ind (fun (x : Nat × List Nd × Nat) m' H' => ∃ b c pv, m' = tL i (some (.loc H.length)) b c ∧ PS H' i j k cv toks x.2.2 ∧ Gr j H H' ∧ H'[H.length]? = some (.list pv) ∧ NodesAt H' (H.length + 1) x.2.1 pv ∧
        toks.length ≤ x.1 + x.2.2 ∧ transLoop toks (opens toks + 1) x.1 x.2.1 x.2.2 = res ∧ pv.length + x.1 ≤ toks.length) (fun x => x.1) ?_ (toks.length, [], 0) _ _
        ⟨none, none, [], rfl, S1, G1, by simp, .nil, by simp, hres, by simp⟩
      rintro ⟨f, ps, pp⟩ _ H2 ⟨b, c, pv, rfl, S2, G2, hp, np, hf, hr, hsz⟩ ih
      dsimp only at *
      have hpos : ∀ {Q : V → Loc → List Cell → Prop} {env : Env} {m n} (q : Q (.int pp) m H2), T1 X n env m H2 (fun o => getAttr o "pos" true) (.loc i) Q := fun q => fpos hK NX S2 q
      refine tw_turn (tb_Compare (hm := by with_unfolding_all rfl) (tri_Attr (tri_Name .here (fpos hK NX S2 (tri_CallN (f := .builtin "len") rfl (.inr NX.len) kn_builtin (tx_cons (tri_Attr (tri_Name .here (ftok hK NX S2 (tx_nil (len_l S2.lst (lt_i (tr_b ?_)))))))))))))
      rw [List.length_map]
      refine br_c (fun hb => ?_) (fun hb => ?_)
      · have hlt : pp < toks.length := by have := of_decide_eq_true hb; omega
        obtain ⟨f', rfl⟩ : ∃ f', f = f' + 1 := ⟨f - 1, by omega⟩
        rw [transLoop_step hlt] at hr
        refine ts_cons (ts_Assign_Name (hfree := nofree) (tri_Attr (tri_Name .here (fpos hK NX S2 ⟨_, .there (.there .here), ?_⟩))))
        have hop := opens_drop (toks := toks) (Nat.zero_le pp)
        rw [List.drop_zero] at hop
        refine ts_cons (ts_Assign_Name (hfree := nofree) (e_meth hK NX rfl rfl rfl .here S2.inst (show ("_parse_or" : Str) ∉ (["columns", "tokens", "pos"] : List Str) by decide) (tx_nil (O S2 (by omega) fun H4 v4 S4 G4 hv4 => ⟨_, .there (.there (.there .here)), ?_⟩)) rfl rfl))
        have hge : pp ≤ (orD toks (opens toks + 1) pp).2 := orD_ge
        have hl2 : H.length + 1 ≤ H2.length := (List.getElem?_eq_some_iff.mp hp).1
        have hl4 : H2.length ≤ H4.length := G4.len
        have np4 := NodesAt.grow G4 (hdd S2) np
        have hp4 := G4.get hp (by omega)
        have hv4 := OptAt.down hl2 hv4
        generalize orD toks (opens toks + 1) pp = r at *
        obtain ⟨nd, p4⟩ := r
        dsimp only at *
        refine ts_cut (fun m' H' => ∃ pv', m' = tL i (some (.loc H.length)) (some (.int pp)) (some v4) ∧ PS H' i j k cv toks p4 ∧ Gr j H H' ∧ H'[H.length]? = some (.list pv') ∧ NodesAt H' (H.length + 1) (pushNd ps nd) pv' ∧ pv'.length ≤ pv.length + 1) (ts_If (tb_plain (tri_Name (.there (.there (.there .here))) ?_))) ?_
        · cases nd with
          | none =>
            have hv' : v4 = .none := hv4
            subst hv'
            exact tr_n (br_f (ts_nil ⟨pv, rfl, S4, G2.trans G4, hp4, np4, by omega⟩))
          | some nd =>
            obtain ⟨xs, rfl, hxs⟩ := NodeAt.tup hv4
            refine tr_t ?_
            rw [decide_eq_true hxs]
            refine br_t (ts_cons (ts_Expr (tri_CallM (tri_Name (.there .here) (tm_list hp4 F.slot_list_append F.type_list_append ⟨kn_builtin, tx_cons (tri_Name (.there (.there (.there .here))) (tx_nil (list_append hp4 (by omega) ?_)))⟩)))))
            exact ts_nil ⟨pv ++ [.tup xs], rfl, S4.other (by omega) (by omega) (by omega), (G2.trans G4).setHi (by omega), by rw [List.getElem?_set_self (by omega)], (np4.setLo (by omega)).snoc (NodeAt.setLo (show NodeAt H4 (H.length + 1) nd (.tup xs) from hv4) (by omega)), by simp⟩
        · rintro _ H5 ⟨pv', rfl, S5, G5, hp5, np5, hsz5⟩
          refine ts_cons (ts_If (tb_Compare (hm := by with_unfolding_all rfl) (tri_Attr (tri_Name .here (fpos hK NX S5 (tri_Name (.there (.there .here)) (eq_i (tr_b ?_))))))))
          refine br_c (fun hb => ?_) (fun hb => ?_)
          · have e5 : p4 = pp := by have := of_decide_eq_true hb; omega
            subst e5
            rw [if_pos rfl] at hr
            have gs : Gr j H5 (H5.set j (.dict (fieldsOf' cv k (p4 + 1)))) := Gr.set
            exact ts_cons (ts_pos hK NX .here S5 (ts_nil (ts_nil (ih (f', _, p4 + 1) _ _ (by dsimp only; omega) ⟨_, _, pv', rfl, S5.setPos _, G5.trans gs, gs.get hp5 (by omega), NodesAt.grow gs (hdd S5) np5, by dsimp only; omega, hr, by dsimp only; omega⟩))))
          · have e5 : p4 ≠ pp := by have := of_decide_eq_false hb; omega
            rw [if_neg e5] at hr
            exact ts_nil (ts_nil (ih (f', _, p4) _ _ (by dsimp only; omega) ⟨_, _, pv', rfl, S5, G5, hp5, np5, by dsimp only; omega, hr, by dsimp only; omega⟩))
      · have hge : ¬ pp < toks.length := by have := of_decide_eq_false hb; omega
        have e : transLoop toks (opens toks + 1) f ps pp = ps := by
          cases f with
          | zero => rfl
          | succ f => unfold transLoop; rw [if_neg hge]
        rw [e] at hr
        subst hr
        exact ⟨b, c, pv, pp, rfl, S2, G2, hp, np⟩
    · rintro _ H2 ⟨b, c, pv, pp, rfl, S2, G2, hp, np⟩
      refine ts_cons (ts_If (tb_Not (tb_plain (tri_Name (.there .here) (tr_l hp ?_)))))
      cases np with
      | nil =>
        refine br_t (ts_cons (ts_Return (tri_str ?_)))
        rw [show (Str.ofString "\"\"").cps.toList = [34, 34] by decide +kernel]
        exact q H2 G2.keep G2.len
      | @cons x v l vs hx hl =>
        refine br_f (ts_nil ?_)
        refine ts_cut (fun m' H' => ∃ nd0 w, m' = tL i (some (.loc H.length)) b (some w) ∧ H' = H2 ∧ NodeAt H2 H.length nd0 w ∧ dep nd0 ≤ D ∧ (renderN true nd0).length ≤ 900000 ∧ Q (.str (renderN false nd0)) m H2) (ts_Assign_Name (hfree := nofree) (tri_IfExp (tb_Compare (hm := by with_unfolding_all rfl) (tri_CallN (f := .builtin "len") rfl (.inr NX.len) kn_builtin (tx_cons (tri_Name (.there .here) (tx_nil (len_l hp ?_)))))))) ?_
        · refine tri_int (eq_i (tr_b ?_))
          cases hl with
          | nil =>
            refine br_t (tri_Subscript (tri_Name (.there .here) (tri_int (t2_item_list hp (by decide) (v := v) rfl ?_))))
            exact ⟨_, .there (.there (.there .here)), x, v, rfl, rfl, NodeAt.move (by omega) (fun _ _ _ e => e) hx, (hd x rfl).1, (hd x rfl).2, q H2 G2.keep G2.len⟩
          | @cons y u l vs hy hl =>
            refine br_c (fun h => absurd (of_decide_eq_true h) (by simp; omega)) (fun _ => ?_)
            refine tri_Tuple (tx_cons (tri_str (tx_cons (tri_Name (.there .here) (tx_nil ⟨by show 2 ≤ sizeLine; decide, ?_⟩)))))
            exact ⟨_, .there (.there (.there .here)), .and (x :: y :: l), _, rfl, rfl, .and (Nat.le_refl _) hp (NodesAt.move (by omega) (fun _ _ _ e => e) (.cons hx (.cons hy hl))), (hd _ rfl).1, (hd _ rfl).2, q H2 G2.keep G2.len⟩
        · rintro _ H3 ⟨nd0, w, rfl, rfl, hw, h1, h2, q3⟩
          refine ts_cons (ts_Return (e_render hK NX .here S2.inst (by show ("_render" : Str) ∉ (["columns", "tokens", "pos"] : List Str); decide) (tx_cons (tri_Name (.there (.there (.there .here))) (tx_nil ?_))) rfl rfl))
          exact render_ok (n := n + 4 * e) hK NX hB hG S2.inst (by show ("_render" : Str) ∉ (["columns", "tokens", "pos"] : List Str); decide) h1 h2 hw q3
end
end Mine
end
section
open PySem PySem.W PyProof.Rows PySem.Calls
set_option Elab.async false
set_option maxRecDepth 100000
set_option linter.unusedVariables false
set_option linter.unusedSectionVars false
namespace Mine
section
variable {X : Cx} {n : Nat} {env : Env} {N B K : Loc → List Cell → Prop} {R : V → Loc → List Cell → Prop}
/-- a for loop by an invariant and a measure -/
theorem tf_ind {ι : Type} {target : Expr} {body : List Stmt} (I : ι → Src → Loc → List Cell → Prop) (μ : ι → Nat) (step : ∀ x src m H, I x src m H → (∀ y src' m' H', μ y < μ x → I y src' m' H' → TF X n env m' H' target body src' N R) → TF X n env m H target body src N R) :
    ∀ x src m H, I x src m H → TF X n env m H target body src N R := by
  intro x
  generalize hk : μ x = k
  induction k using Nat.strongRecOn generalizing x with
  | ind k ih =>
    intro src m H hI
    exact step x src m H hI fun y src' m' H' hlt hI' => ih (μ y) (hk ▸ hlt) y rfl src' m' H' hI'
theorem next_cons {H : List Cell} {a : Nat} {vs : List V} {k : Nat} {v : V} (h : H[a]? = some (.list vs)) (hv : vs[k]? = some v) : nextS H (.lst a k) = some (some (v, .lst a (k + 1))) := by simp only [nextS, h, hv]
theorem next_nil {H : List Cell} {a : Nat} {vs : List V} {k : Nat} (h : H[a]? = some (.list vs)) (hv : vs[k]? = none) : nextS H (.lst a k) = some none := by simp only [nextS, h, hv]
theorem drop_cons {α : Type} {l r : List α} {k : Nat} {x : α} (h : l.drop k = x :: r) : l[k]? = some x ∧ l.drop (k + 1) = r := by
  have hlt : k < l.length := by
    rcases Nat.lt_or_ge k l.length with h' | h'
    · exact h'
    · rw [List.drop_eq_nil_of_le h'] at h; cases h
  rw [List.drop_eq_getElem_cons hlt] at h
  injection h with h1 h2
  exact ⟨by rw [List.getElem?_eq_getElem hlt, h1], h2⟩
theorem drop_nil {α : Type} {l : List α} {k : Nat} (h : l.drop k = []) : l[k]? = none := by
  rw [List.getElem?_eq_none_iff]
  have := congrArg List.length h
  simp at this; omega
theorem map_get {α β : Type} {f : α → β} {l : List α} {k : Nat} {x : α} (h : l[k]? = some x) : (l.map f)[k]? = some (f x) := by simp [h]
theorem map_get_none {α β : Type} {f : α → β} {l : List α} {k : Nat} (h : l[k]? = none) : (l.map f)[k]? = none := by
  rw [List.getElem?_eq_none_iff] at h ⊢; simpa using h
theorem set_last {H : List Cell} {c d : Cell} : (H ++ [c]).set H.length d = H ++ [d] := by simp
end
/-- the locals of _balance -/
abbrev bL (i k : Nat) (a b c d : Option V) : Loc := [("self", some (.loc i)), ("tokens", some (.loc k)), ("depth", a), ("dropped", b), ("accum", c), ("token", d)]
section
variable {P : Params} {X : Cx} (hK : X.K = KK P) (NX : Names X) {n d : Nat} {env : Env} {m : Loc} {H : List Cell} {i j k lo : Nat} {cv : V} {toks : List Tk}
  {Q : V → Loc → List Cell → Prop} {N B K : Loc → List Cell → Prop} {R : V → Loc → List Cell → Prop}
set_option maxHeartbeats 4000000
include hK NX
theorem balance_ok (hk : H[k]? = some (.list (toks.map tkV))) (hsm : toks.length ≤ 100000)
    (q : ∀ H' k', (∀ x, x < H.length → H'[x]? = H[x]?) → H.length ≤ H'.length → H.length ≤ k' → H'[k']? = some (.list ((balance toks).map tkV)) → Q (.loc k') m H') : CN X (n + 1) env m H (.ref 73) [.loc i, .loc k] Q := by
  refine cn_call (names := ["self", "tokens"]) (ws := []) (ds := []) (by rw [hK]; rfl) (by rw [hK]; rfl) rfl rfl rfl rfl (by decide +kernel) rfl (fun s cvs hin hl => ?_) (fun _ _ => by unfold DenL; rfl) ?_
  · obtain ⟨c, d, rfl⟩ : ∃ c d, cvs = [c, d] := by
      match cvs, hl with
      | [c, d], _ => exact ⟨c, d, rfl⟩
    exact BindsTo.of_eq rfl
  · intro env' hsc hcode
    obtain ⟨sc, lo', gl, ce, qu, fu, co, fr, bi⟩ := env'
    simp only at hsc hcode
    subst hsc hcode
    have hkl : k < H.length := (List.getElem?_eq_some_iff.mp hk).1
    have hsl : sizeLine = 16777216 := rfl
    show TS X n _ (bL i k none none none none) H (execs _ _) _ _ _ _
    refine ts_cons (ts_Assign_two (tri_int ⟨_, _, .there (.there .here), .there (.there (.there .here)), ?_⟩) nofree nofree)
    refine ts_cons (ts_Assign_Name (hfree := nofree) (tri_List (tx_nil ⟨by show 0 ≤ sizeLine; decide, _, .there (.there (.there (.there .here))), ?_⟩)))
    have hk1 : ∀ {c}, (H ++ [c])[k]? = some (.list (toks.map tkV)) := by intro c; rw [List.getElem?_append_left hkl]; exact hk
    refine ts_cut (fun m' H' => ∃ (depth dropped : Nat) (acc : List Tk) (w : Option V), m' = bL i k (some (.int depth)) (some (.int dropped)) (some (.loc H.length)) w ∧ H' = H ++ [.list (acc.map tkV)] ∧ depth ≤ 32 ∧ acc.length ≤ toks.length ∧ balance toks = acc ++ List.replicate depth .rp) (ts_For (tri_Name (.there .here) ⟨.lst k 0, rfl, fun i e => ⟨_, by cases e; exact hk1⟩, fun k e => (by cases e), ?_⟩)) ?_
    · refine tf_ind (fun (x : List Tk × Nat × Nat × Nat × List Tk) src m' H' => ∃ w, src = .lst k x.2.1 ∧ m' = bL i k (some (.int x.2.2.1)) (some (.int x.2.2.2.1)) (some (.loc H.length)) w ∧ H' = H ++ [.list (x.2.2.2.2.map tkV)] ∧ toks.drop x.2.1 = x.1 ∧ x.2.2.1 ≤ 32 ∧ balance toks = x.2.2.2.2 ++ balLoop x.1 x.2.2.1 x.2.2.2.1 ∧ x.2.2.2.2.length + x.1.length ≤ toks.length) (fun x => x.1.length) ?_ (toks, 0, 0, 0, []) _ _ _ ⟨none, rfl, rfl, rfl, rfl, by dsimp only; omega, rfl, by simp⟩
      rintro ⟨rest, idx, depth, dropped, acc⟩ _ _ _ ⟨w, rfl, rfl, rfl, hdrop, hdep, hbal, hlen⟩ ih
      dsimp only at *
      cases rest with
      | nil => exact tf_turn (next_nil hk1 (map_get_none (drop_nil hdrop))) ⟨depth, dropped, acc, w, rfl, rfl, hdep, by simpa using hlen, hbal⟩
      | cons t rest =>
        obtain ⟨ht, hdrop'⟩ := drop_cons hdrop
        simp only [List.length_cons] at hlen ih
        refine tf_turn (next_cons hk1 (map_get ht)) ?_
        refine ta_Name (.there (.there (.there (.there (.there .here))))) ?_ nofree
        have hkind : ∀ {QQ : V → Loc → List Cell → Prop} {mm : Loc} {HH : List Cell} {ee : Env} {a b : Expr}, QQ (.str (kindOf' t)) mm HH → T2 X n ee mm HH (subscriptTail a b) (tkV t) (.int 0) QQ := fun qq => t2_item_tup (by decide) (v := .str (kindOf' t)) rfl qq
        have skip : ∀ (d' dr' : Nat), d' ≤ 32 → balance toks = acc ++ balLoop rest d' dr' → TF X n _ (bL i k (some (.int d')) (some (.int dr')) (some (.loc H.length)) (some (tkV t))) (H ++ [.list (acc.map tkV)]) _ _ (.lst k (idx + 1)) _ _ := fun d' dr' h1 h2 => ih (rest, idx + 1, d', dr', acc) _ _ _ (by dsimp only; omega) ⟨_, rfl, rfl, rfl, hdrop', h1, h2, by dsimp only; omega⟩
        refine ts_cut (fun m' H' => ∃ d' dr' : Nat, m' = bL i k (some (.int d')) (some (.int dr')) (some (.loc H.length)) (some (tkV t)) ∧ H' = H ++ [.list (acc.map tkV)] ∧ d' ≤ 32 ∧ balance toks = (acc ++ [t]) ++ balLoop rest d' dr') (ts_If (tb_Compare (hm := by with_unfolding_all rfl) (tri_Subscript (tri_Name (.there (.there (.there (.there (.there .here))))) (tri_int (hkind (tri_str (eq_s (tr_b ?_))))))))) ?_
        · rw [show (Str.ofString "(").cps.toList = [40] by decide +kernel]
          by_cases hlp : t = .lp
          · subst hlp
            refine br_t (ts_cut (fun m' H' => m' = bL i k (some (.int depth)) (some (.int dropped)) (some (.loc H.length)) (some (tkV Tk.lp)) ∧ H' = H ++ [.list (acc.map tkV)] ∧ depth ≠ 32) (ts_If (tb_Compare (hm := by with_unfolding_all rfl) (tri_Name (.there (.there .here)) (tri_glob rfl NX.deep.choose_spec (fun _ _ _ => den_int.mpr ⟨_, rfl⟩) (eq_i (tr_b ?_)))))) ?_)
            · refine br_c (fun h => ?_) (fun h => ?_)
              · have e : depth = 32 := by have := of_decide_eq_true h; omega
                rw [balLoop, if_pos e] at hbal
                refine ts_cons (ts_Aug_Name (hfree := nofree) (.there (.there (.there .here))) (tri_int (iadd_i ⟨_, .there (.there (.there .here)), ?_⟩)))
                exact ts_cons (ts_Continue (skip depth (dropped + 1) hdep hbal))
              · exact ts_nil ⟨rfl, rfl, by have := of_decide_eq_false h; omega⟩
            · rintro _ _ ⟨rfl, rfl, hne⟩
              rw [balLoop, if_neg hne] at hbal
              refine ts_cons (ts_Aug_Name (hfree := nofree) (.there (.there .here)) (tri_int (iadd_i ⟨_, .there (.there .here), ?_⟩)))
              exact ts_nil ⟨depth + 1, dropped, rfl, rfl, by omega, by rw [List.append_assoc]; exact hbal⟩
          · rw [show decide (kindOf' t = [40]) = false by cases t <;> first | exact absurd rfl hlp | simp [kindOf']]
            refine br_f (ts_cons (ts_If (tb_Compare (hm := by with_unfolding_all rfl) (tri_Subscript (tri_Name (.there (.there (.there (.there (.there .here))))) (tri_int (hkind (tri_str (eq_s (tr_b ?_))))))))))
            rw [show (Str.ofString ")").cps.toList = [41] by decide +kernel]
            by_cases hrp : t = .rp
            · subst hrp
              refine br_t (ts_cons (ts_If (tb_plain (tri_Name (.there (.there (.there .here))) (tr_i (br_c (fun h => ?_) (fun h => ?_)))))))
              · have e : dropped ≠ 0 := by have := of_decide_eq_true h; omega
                rw [balLoop, if_pos e] at hbal
                refine ts_cons (ts_Aug_Name (hfree := nofree) (.there (.there (.there .here))) (tri_int (isub_i ⟨_, .there (.there (.there .here)), ?_⟩)))
                have e2 : ((dropped : Int) - 1) = ((dropped - 1 : Nat) : Int) := by omega
                rw [e2]
                exact ts_cons (ts_Continue (skip depth (dropped - 1) hdep hbal))
              · have e : ¬ dropped ≠ 0 := by have := of_decide_eq_false h; omega
                rw [balLoop, if_neg e] at hbal
                refine ts_nil (ts_cons (ts_If (tb_Not (tb_plain (tri_Name (.there (.there .here)) (tr_i ?_))))))
                by_cases hd0 : depth = 0
                · rw [if_pos hd0] at hbal
                  subst hd0
                  exact br_t (ts_cons (ts_Continue (skip 0 dropped hdep hbal)))
                · rw [if_neg hd0] at hbal
                  rw [show (!decide ((depth : Int) ≠ 0)) = false by simp; omega]
                  refine br_f (ts_nil (ts_cons (ts_Aug_Name (hfree := nofree) (.there (.there .here)) (tri_int (isub_i ⟨_, .there (.there .here), ?_⟩)))))
                  have e2 : ((depth : Int) - 1) = ((depth - 1 : Nat) : Int) := by omega
                  rw [e2]
                  exact ts_nil (ts_nil ⟨depth - 1, dropped, rfl, rfl, by omega, by rw [List.append_assoc]; exact hbal⟩)
            · rw [show decide (kindOf' t = [41]) = false by cases t <;> first | exact absurd rfl hrp | simp [kindOf']]
              refine br_f (ts_nil (ts_nil ⟨depth, dropped, rfl, rfl, hdep, ?_⟩))
              rw [List.append_assoc, hbal]
              cases t <;> first | exact absurd rfl hlp | exact absurd rfl hrp | simp [balLoop]
        · rintro _ _ ⟨d', dr', rfl, rfl, h1, h2⟩
          refine ts_cons (ts_Expr (tri_CallM (tri_Name (.there (.there (.there (.there .here)))) (tm_list (xs := acc.map tkV) (by simp) F.slot_list_append F.type_list_append ⟨kn_builtin, tx_cons (tri_Name (.there (.there (.there (.there (.there .here))))) (tx_nil (list_append (xs := acc.map tkV) (by simp) (by simp; omega) ?_)))⟩))))
          rw [set_last]
          exact ts_nil (ih (rest, idx + 1, d', dr', acc ++ [t]) _ _ _ (by dsimp only; omega) ⟨_, rfl, rfl, by simp, hdrop', h1, h2, by simp; omega⟩)
    · rintro _ _ ⟨depth, dropped, acc, w, rfl, rfl, hdep, hlen, hbal⟩
      refine ts_cons (ts_Return (tri_BinOp (tri_Name (.there (.there (.there (.there .here)))) (tri_BinOp (tri_List (tx_cons (tri_Tuple (tx_cons (tri_str (tx_cons (tri_none (tx_nil ⟨by show 2 ≤ sizeLine; decide, tx_nil ⟨by show 1 ≤ sizeLine; decide, ?_⟩⟩))))))))))))
      refine tri_Name (.there (.there .here)) (mul_l (xs := [tkV .rp]) ?_ (by omega) (by omega) (by simp) ?_)
      · rw [show (Str.ofString ")").cps.toList = [41] by decide +kernel]; simp [tkV, kindOf', txtOf]
      have hfl : (List.replicate (depth : Int).toNat [tkV .rp]).flatten = (List.replicate depth Tk.rp).map tkV := by simp
      rw [hfl]
      refine add_l (xs := acc.map tkV) (ys := (List.replicate depth Tk.rp).map tkV) (by simp) (by simp) (by simp; omega) ?_
      refine q _ _ (fun x hx => ?_) (by simp) (by simp) (by rw [hbal]; simp)
      rw [List.append_assoc, List.append_assoc, List.append_assoc, List.getElem?_append_left hx]
end
end Mine
end
section
open PySem PySem.W PyProof.Rows PySem.Calls
set_option Elab.async false
set_option maxRecDepth 100000
set_option linter.unusedVariables false
namespace Mine
/-- texts of signs below 128 -/
def AscL (x : List Nat) : Prop := ∀ c ∈ x, c < 128
theorem AscL.get {x : List Nat} (h : AscL x) {p c : Nat} (e : x[p]? = some c) : c < 128 := h c (List.mem_of_getElem? e)
theorem AscL.asc {x : List Nat} (h : AscL x) : Asc x.toArray := fun i => by
  rw [Array.getD_eq_getD_getElem?]
  simp only [List.getElem?_toArray]
  cases e : x[i]? with
  | none => decide
  | some c => exact h.get e
theorem AscL.extract {x : List Nat} (h : AscL x) (b e : Nat) : AscL (x.extract b e) := fun c hc => h c (by
  rw [List.extract_eq_drop_take] at hc
  exact List.mem_of_mem_drop (List.mem_of_mem_take hc))
theorem getD_arr (x : List Nat) (p : Nat) : x.toArray.getD p 0 = x.getD p 0 := by
  rw [Array.getD_eq_getD_getElem?]; simp
theorem extract_len (x : List Nat) (b e : Nat) : (x.extract b e).length ≤ x.length := by
  rw [List.extract_eq_drop_take]; simp; omega
theorem strOk_asc {x : List Nat} (h : AscL x) : PyData.strOk ⟨x.toArray⟩ = true := by
  unfold PyData.strOk
  simp only [List.all_toArray, List.all_eq_true, decide_eq_true_eq]
  intro c hc
  have := h c hc
  omega

theorem isspace_one : ∀ c < 128, Txt.isspace ⟨#[c]⟩ = Unicode.isSpace c := by decide +kernel
theorem paren_one : ∀ c < 128, Txt.contains ⟨#[40, 41]⟩ ⟨#[c]⟩ = (c == 40 || c == 41) := by decide +kernel
theorem strip_one : ∀ c < 128, (Txt.strip ⟨#[c]⟩).cps.toList = if Unicode.isSpace c then [] else [c] := by decide +kernel
theorem strip_none : (Txt.strip ⟨#[]⟩).cps.toList = [] := by decide +kernel
theorem cut_one (x : List Nat) (p : Nat) : cutL x (some ((p : Int) + 1)) (some ((p : Int) + 2)) = match x[p + 1]? with | some c => [c] | none => [] := by
  have h1 : clipI (some ((p : Int) + 1)) 0 x.length = min (p + 1) x.length := by unfold clipI; simp only; omega
  have h2 : clipI (some ((p : Int) + 2)) x.length x.length = min (p + 2) x.length := by unfold clipI; simp only; omega
  unfold cutL
  rw [h1, h2]
  by_cases h : p + 1 < x.length
  · rw [show min (p + 1) x.length = p + 1 by omega, show min (p + 2) x.length - (p + 1) = 1 by omega, List.getElem?_eq_getElem h, List.drop_eq_getElem_cons h]
    rfl
  · rw [List.getElem?_eq_none (by omega), List.drop_eq_nil_of_le (by omega)]; simp
/-- the signs behind '-' are no space -/
theorem strip_next {x : List Nat} (hA : AscL x) (p : Nat) : (decide ((Txt.strip ⟨(cutL x (some ((p : Int) + 1)) (some ((p : Int) + 2))).toArray⟩).cps.toList ≠ [])) = decide (p + 1 < x.length ∧ ¬ Unicode.isSpace (x.getD (p + 1) 0) = true) := by
  rw [cut_one]
  cases e : x[p + 1]? with
  | none =>
    have : ¬ p + 1 < x.length := by rw [List.getElem?_eq_none_iff] at e; omega
    dsimp only
    rw [strip_none]
    simp [this]
  | some c =>
    have h1 : p + 1 < x.length := (List.getElem?_eq_some_iff.mp e).1
    have h2 : x.getD (p + 1) 0 = c := by rw [List.getD_eq_getElem?_getD, e]; rfl
    dsimp only
    rw [strip_one c (hA.get e), h2]
    cases Unicode.isSpace c <;> simp [h1]

theorem isSet_is (c : Nat) : isSet c = (c == 34 || (c == 40 || c == 41) || Unicode.isSpace c) := by
  unfold isSet
  congr 1; congr 1
  rw [Bool.eq_iff_iff]
  simp; omega

section
variable {x : List Nat} {p : Nat}
theorem termRes_ph (h : x.getD p 0 = 34) : termRes x p = ((phraseEnd x.toArray (p + 1 + nQ x.toArray (p + 1))).1, [some (p + 1, p + 1 + nQ x.toArray (p + 1)), none, starSpan (phraseEnd x.toArray (p + 1 + nQ x.toArray (p + 1))).1 (phraseEnd x.toArray (p + 1 + nQ x.toArray (p + 1))).2]) := by
  unfold termRes
  dsimp only
  rw [if_pos (by rw [getD_arr]; exact h)]
theorem termRes_wo (h : x.getD p 0 ≠ 34) : termRes x p = (p + nU x.toArray p, wordRes x.toArray p) := by
  unfold termRes
  dsimp only
  rw [if_neg (by rw [getD_arr]; exact h)]
theorem termRes_three (x : List Nat) (p : Nat) : ∃ ph w st, (termRes x p).2 = [ph, w, st] ∧ (ph = none ↔ x.getD p 0 ≠ 34) ∧ (ph = none → ∃ b e, w = some (b, e)) ∧ (∀ s, st = some s → ∃ b, s = (b, b + 1) ∧ x.getD b 0 = 42 ∧ b < x.length) := by
  by_cases h : x.getD p 0 = 34
  · rw [termRes_ph h]
    refine ⟨_, _, _, rfl, ⟨fun e => (by cases e), fun e => absurd h e⟩, fun e => (by cases e), fun s hs => ?_⟩
    unfold starSpan at hs
    split at hs
    · rename_i hb
      cases hs
      unfold phraseEnd at hb ⊢
      split at hb
      · simp at hb
      · split at hb
        · rename_i h1 h2
          rw [if_neg h1, if_pos h2]
          exact ⟨_, rfl, by rw [← getD_arr]; exact h2.2.1, by have := h2.1; simpa using this⟩
        · split at hb <;> simp at hb
    · cases hs
  · rw [termRes_wo h]
    unfold wordRes
    split
    · rename_i hw
      have hw := of_decide_eq_true (show decide _ = true from hw)
      have hk : nU x.toArray p ≤ x.toArray.size - p := spanN_le
      have hs : x.toArray.size = x.length := by simp
      refine ⟨_, _, _, rfl, ⟨fun _ => h, fun _ => rfl⟩, fun _ => ⟨_, _, rfl⟩, fun s hs => ?_⟩
      cases hs
      exact ⟨p + nU x.toArray p - 1, by rw [show p + nU x.toArray p - 1 + 1 = p + nU x.toArray p by omega], by rw [← getD_arr]; exact hw.2, by omega⟩
    · exact ⟨_, _, _, rfl, ⟨fun _ => h, fun _ => rfl⟩, fun _ => ⟨_, _, rfl⟩, fun s hs => by cases hs⟩

theorem termRes_end (hp : p < x.length) (h : isSet (x.getD p 0) = false ∨ x.getD p 0 = 34) : p < (termRes x p).1 := by
  by_cases h34 : x.getD p 0 = 34
  · rw [termRes_ph h34]
    unfold phraseEnd
    split
    · show p < p + 1 + _; omega
    · split
      · show p < p + 1 + _ + 2; omega
      · split
        · show p < p + 1 + _ + 1; omega
        · show p < p + 1 + _; omega
  · rw [termRes_wo h34]
    have h := h.resolve_right h34
    have hl : ¬ Look x.toArray (p + 0) := by
      rintro (h' | h')
      · simp at h'; omega
      · rw [Nat.add_zero, getD_arr, h] at h'; simp at h'
    show p < p + nU x.toArray p
    rcases Nat.eq_zero_or_pos (nU x.toArray p) with h0 | h0
    · exact absurd (h0 ▸ nU_end (T := x.toArray) (p := p)) hl
    · omega

theorem term_match (hA : AscL x) (hz : x.length ≤ 16777216) (hp : p < x.length) (h : isSet (x.getD p 0) = false ∨ x.getD p 0 = 34) : MatchIs TERMC 3 x p (some (termRes x p)) := by
  have hsz : x.toArray.size = x.length := by simp
  obtain ⟨z, hz'⟩ := match_term x.toArray p (by omega)
  refine ⟨⟨_, z, 200 * x.length + 1000, hz', by omega, ?_⟩, fun e sp he => ?_⟩
  · by_cases h34 : x.getD p 0 = 34
    · rw [termRes_ph h34]
      exact Run.more (term_phrase (by omega) (by omega) (by rw [getD_arr]; exact h34)) (by omega)
    · rw [termRes_wo h34]
      exact Run.more (term_word (by omega) (by omega) (by rw [getD_arr]; exact h.resolve_right h34)) (by omega)
  · have he := Option.some.inj he
    by_cases h34 : x.getD p 0 = 34
    · rw [termRes_ph h34] at he
      cases he
      refine ⟨rfl, fun a b hm => ?_⟩
      simp only [List.mem_cons, List.not_mem_nil, or_false] at hm
      rcases hm with hm | hm | hm
      · cases hm; omega
      · cases hm
      · unfold starSpan at hm
        split at hm
        · cases hm; omega
        · cases hm
    · rw [termRes_wo h34] at he
      cases he
      unfold wordRes
      split
      · refine ⟨rfl, fun a b hm => ?_⟩
        simp only [List.mem_cons, List.not_mem_nil, or_false] at hm
        rename_i hw
        have hw := of_decide_eq_true (show decide _ = true from hw)
        rcases hm with hm | hm | hm
        · cases hm
        · cases hm; omega
        · cases hm; omega
      · refine ⟨rfl, fun a b hm => ?_⟩
        simp only [List.mem_cons, List.not_mem_nil, or_false] at hm
        rcases hm with hm | hm | hm
        · cases hm
        · cases hm; omega
        · cases hm
theorem col_match (hA : AscL x) (hz : x.length ≤ 16777216) (hp : p < x.length) : MatchIs COLC 2 x p (colRes x.toArray p) := by
  have hsz : x.toArray.size = x.length := by simp
  obtain ⟨z, hz'⟩ := match_col x.toArray p
  refine ⟨⟨_, z, 1000 * x.length + 1000, hz', by omega, ?_⟩, fun e sp he => ?_⟩
  · by_cases h : p ≤ x.toArray.size ∧ x.toArray.size - p < 2
    · rw [if_pos h]
      have hw : ¬ colW x.toArray p := fun c => by have := c.1; have h2 := c.2.1; omega
      have hb : ¬ colB x.toArray p := fun c => by have := c.1; have h2 := c.2.2.1; omega
      have e : colRes x.toArray p = none := by
        unfold colRes
        rw [if_neg hw, if_neg hb]
      rw [e]
      exact Run.now ⟨rfl, rfl, rfl⟩
    · rw [if_neg h]
      exact Run.more (col_run hA.asc (by omega) (by omega)) (by omega)
  · unfold colRes at he
    split at he
    · cases he
      refine ⟨rfl, fun a b hm => ?_⟩
      simp only [List.mem_cons, List.not_mem_nil, or_false] at hm
      rcases hm with hm | hm
      · cases hm; omega
      · cases hm
    · split at he
      · cases he
        refine ⟨rfl, fun a b hm => ?_⟩
        simp only [List.mem_cons, List.not_mem_nil, or_false] at hm
        rcases hm with hm | hm
        · cases hm
        · cases hm; omega
      · cases he
end
end Mine
end
section
open PySem PySem.W PyProof.Rows PySem.Calls
set_option Elab.async false
set_option maxRecDepth 100000
set_option linter.unusedVariables false
namespace Mine
def spanT (x : List Nat) : Option (Nat × Nat) → List Nat
  | some (b, e) => x.extract b e
  | none => []
def isOpW (w : List Nat) : Prop := w = cAND ∨ w = cOR ∨ w = cNOT
instance (w) : Decidable (isOpW w) := by unfold isOpW; exact inferInstance
def opAcc (acc : List Tk) (word : List Nat) : List Tk := (if word = cNOT ∧ acc.getLast? = some (.op cAND) then acc.dropLast else acc) ++ [.op word]
def termTk (text : List Nat) (st : Option (Nat × Nat)) : Tk := .term (34 :: text ++ 34 :: (if st.isSome then [42] else []))
def textT (x : List Nat) (ph w : Option (Nat × Nat)) : List Nat := match ph with
  | some (b, e) => x.extract b e
  | none => spanT x w
def restAcc (x : List Nat) (acc : List Tk) (ph w st : Option (Nat × Nat)) : List Tk :=
  if ph = none ∧ st = none ∧ isOpW (spanT x w) then opAcc acc (spanT x w)
  else if hasWord (textT x ph w).toArray then acc ++ [termTk (textT x ph w) st] else acc

section
variable {split : List Nat → List (List Nat)} {esc : List Nat → List Nat} {cols : List (List Nat)} {x : List Nat} {p : Nat} {acc : List Tk}
theorem scan_space (h : Unicode.isSpace (x.getD p 0) = true) : scanStep split esc cols x p acc = (acc, p + 1) := by
  unfold scanStep; rw [if_pos h]
theorem scan_lp (h1 : ¬ Unicode.isSpace (x.getD p 0) = true) (h : x.getD p 0 = 40) : scanStep split esc cols x p acc = (acc ++ [.lp], p + 1) := by
  unfold scanStep; rw [if_neg h1, if_pos h]
theorem scan_rp (h1 : ¬ Unicode.isSpace (x.getD p 0) = true) (h : x.getD p 0 = 41) : scanStep split esc cols x p acc = (acc ++ [.rp], p + 1) := by
  unfold scanStep; rw [if_neg h1, if_neg (by rw [h]; decide), if_pos h]
theorem scan_neg (h1 : ¬ Unicode.isSpace (x.getD p 0) = true) (h2 : x.getD p 0 ≠ 40) (h3 : x.getD p 0 ≠ 41) (h : x.getD p 0 = 45 ∧ p + 1 < x.length ∧ ¬ Unicode.isSpace (x.getD (p + 1) 0) = true) : scanStep split esc cols x p acc = (acc ++ [.neg], p + 1) := by
  unfold scanStep; rw [if_neg h1, if_neg h2, if_neg h3, if_pos h]
theorem scan_rest {ph w st : Option (Nat × Nat)} (h1 : ¬ Unicode.isSpace (x.getD p 0) = true) (h2 : x.getD p 0 ≠ 40) (h3 : x.getD p 0 ≠ 41) (h4 : ¬ (x.getD p 0 = 45 ∧ p + 1 < x.length ∧ ¬ Unicode.isSpace (x.getD (p + 1) 0) = true)) (hc : colRes x.toArray p = none)
    (ht : (termRes x p).2 = [ph, w, st]) : scanStep split esc cols x p acc = (restAcc x acc ph w st, (termRes x p).1) := by
  unfold scanStep
  rw [if_neg h1, if_neg h2, if_neg h3, if_neg h4, hc]
  obtain ⟨e, sp⟩ : ∃ e sp, termRes x p = (e, sp) := ⟨_, _, rfl⟩
  generalize termRes x p = r at *
  obtain ⟨e, sp⟩ := r
  dsimp only at ht
  subst ht
  rcases ph with _ | ⟨b, e'⟩ <;> rcases w with _ | ⟨b2, e2⟩ <;> simp only [restAcc, spanT, textT, opAcc, termTk, isOpW] <;> split <;> rename_i hh <;> (first | rfl | exact absurd hh.1 (by simp))
end
/-- tokens whose texts are plain -/
def AscTk : Tk → Prop
  | .col c => AscL c
  | .op w => AscL w
  | .term t => AscL t
  | _ => True
theorem AscL.append {a b : List Nat} (h : AscL a) (g : AscL b) : AscL (a ++ b) := fun c hc => (List.mem_append.mp hc).elim (h c) (g c)
theorem AscL.cons {c : Nat} {a : List Nat} (h : c < 128) (g : AscL a) : AscL (c :: a) := fun d hd => by rcases List.mem_cons.mp hd with rfl | hd; exact h; exact g d hd
theorem AscL.nil : AscL [] := fun _ h => by cases h
theorem spanT_asc {x : List Nat} (h : AscL x) (o : Option (Nat × Nat)) : AscL (spanT x o) := by
  rcases o with _ | ⟨b, e⟩
  · exact .nil
  · exact h.extract b e
theorem textT_asc {x : List Nat} (h : AscL x) (ph w : Option (Nat × Nat)) : AscL (textT x ph w) := by
  rcases ph with _ | ⟨b, e⟩
  · exact spanT_asc h w
  · exact h.extract b e
theorem textT_len {x : List Nat} (ph w : Option (Nat × Nat)) : (textT x ph w).length ≤ x.length := by
  rcases ph with _ | ⟨b, e⟩
  · rcases w with _ | ⟨b, e⟩
    · exact Nat.zero_le _
    · exact extract_len x b e
  · exact extract_len x b e
theorem opAcc_asc {acc : List Tk} {w : List Nat} (h : ∀ t ∈ acc, AscTk t) (hw : AscL w) : ∀ t ∈ opAcc acc w, AscTk t := fun t ht => by
  unfold opAcc at ht
  rcases List.mem_append.mp ht with ht | ht
  · split at ht
    · exact h t ((List.dropLast_sublist _).subset ht)
    · exact h t ht
  · rcases List.mem_cons.mp ht with rfl | ht
    · exact hw
    · cases ht
theorem restAcc_asc {x : List Nat} {acc : List Tk} {ph w st : Option (Nat × Nat)} (hA : AscL x) (h : ∀ t ∈ acc, AscTk t) : ∀ t ∈ restAcc x acc ph w st, AscTk t := fun t ht => by
  unfold restAcc at ht
  split at ht
  · exact opAcc_asc h (spanT_asc hA w) t ht
  · split at ht
    · rcases List.mem_append.mp ht with ht | ht
      · exact h t ht
      · rcases List.mem_cons.mp ht with rfl | ht
        · refine .append (.cons (by decide) (textT_asc hA ph w)) (.cons (by decide) ?_)
          split
          · exact .cons (by decide) .nil
          · exact .nil
        · cases ht
    · exact h t ht
theorem opAcc_len {acc : List Tk} {w : List Nat} : (opAcc acc w).length ≤ acc.length + 1 := by
  unfold opAcc
  split <;> simp
theorem restAcc_len {x : List Nat} {acc : List Tk} {ph w st : Option (Nat × Nat)} : (restAcc x acc ph w st).length ≤ acc.length + 1 := by
  unfold restAcc
  split
  · exact opAcc_len
  · split <;> simp
/-- a token as plain data -/
def pyT : Tk → PyData
  | .lp => .tuple [.str ⟨#[40]⟩, .none]
  | .rp => .tuple [.str ⟨#[41]⟩, .none]
  | .neg => .tuple [.str ⟨#[110, 101, 103]⟩, .none]
  | .col c => .tuple [.str ⟨#[99, 111, 108]⟩, .str ⟨c.toArray⟩]
  | .op w => .tuple [.str ⟨#[111, 112]⟩, .str ⟨w.toArray⟩]
  | .term t => .tuple [.str ⟨#[116, 101, 114, 109]⟩, .str ⟨t.toArray⟩]
theorem pyT_is (t : Tk) : toPy (tkV t) = some (pyT t) := by
  cases t <;> rfl
theorem pyT_lay {t : Tk} (h : AscTk t) : (pyT t).canLay0 = true := by
  cases t with
  | lp => decide +kernel
  | rp => decide +kernel
  | neg => decide +kernel
  | col c => simp only [pyT, PyData.canLay0, PyData.canLayAll0, strOk_asc h]; decide +kernel
  | op c => simp only [pyT, PyData.canLay0, PyData.canLayAll0, strOk_asc h]; decide +kernel
  | term c => simp only [pyT, PyData.canLay0, PyData.canLayAll0, strOk_asc h]; decide +kernel
theorem pyT_depth (t : Tk) : (pyT t).depth ≤ 8 := by
  cases t <;> simp [pyT, PyData.depth, PyData.depthAll]
theorem strEq (a b : List Nat) : ((⟨a.toArray⟩ : PySem.Str) == ⟨b.toArray⟩) = decide (a = b) := by
  rw [Bool.eq_iff_iff]
  simp
theorem pyT_eqv (t : Tk) : PyData.eqv (pyT t) (pyT (.op cAND)) = decide (t = .op cAND) := by
  have e : ∀ a b : List Nat, ((⟨a.toArray⟩ : PySem.Str) == ⟨b.toArray⟩) = decide (a = b) := strEq
  cases t with
  | op w => simp only [pyT, PyData.eqv, PyData.eqvAll, strEq]; simp
  | _ => simp [pyT, PyData.eqv, PyData.eqvAll]
theorem isOpW_any (w : List Nat) : ([PyData.str ⟨cAND.toArray⟩, .str ⟨cOR.toArray⟩, .str ⟨cNOT.toArray⟩].any fun y => PyData.eqv y (.str ⟨w.toArray⟩)) = decide (isOpW w) := by
  simp only [List.any_cons, List.any_nil, PyData.eqv, strEq, Bool.or_false]
  rw [Bool.eq_iff_iff]
  simp only [Bool.or_eq_true, decide_eq_true_eq]
  unfold isOpW
  constructor
  · rintro (h | h | h)
    · exact .inl h.symm
    · exact .inr (.inl h.symm)
    · exact .inr (.inr h.symm)
  · rintro (h | h | h)
    · exact .inl h.symm
    · exact .inr (.inl h.symm)
    · exact .inr (.inr h.symm)
end Mine
end
section
open PySem PySem.W PyProof.Rows PySem.Calls
set_option Elab.async false
set_option maxRecDepth 100000
set_option linter.unusedVariables false
set_option linter.unusedSectionVars false
namespace Mine
/-- the locals of _scan -/
abbrev sL (i : Nat) (x : List Nat) (a : Nat) (p : Nat) (ch mt nm gr ns qu ph wo st te : Option V) : Loc :=
  [("self", some (.loc i)), ("query", some (.str x)), ("tokens", some (.loc a)), ("pos", some (.int p)), ("char", ch), ("match", mt), ("name", nm), ("group", gr), ("names", ns), ("quoted", qu), ("phrase", ph), ("word", wo), ("star", st), ("text", te)]
theorem u_pos {i x a p q ch mt nm gr ns qu ph wo st te} : UpdL (sL i x a p ch mt nm gr ns qu ph wo st te) "pos" (.int ((q : Nat) : Int)) (sL i x a q ch mt nm gr ns qu ph wo st te) := .there (.there (.there .here))
theorem u_char {i x a p ch mt nm gr ns qu ph wo st te v} : UpdL (sL i x a p ch mt nm gr ns qu ph wo st te) "char" v (sL i x a p (some v) mt nm gr ns qu ph wo st te) := .there (.there (.there (.there .here)))
theorem u_match {i x a p ch mt nm gr ns qu ph wo st te v} : UpdL (sL i x a p ch mt nm gr ns qu ph wo st te) "match" v (sL i x a p ch (some v) nm gr ns qu ph wo st te) := .there (.there (.there (.there (.there .here))))
theorem u_ph {i x a p ch mt nm gr ns qu ph wo st te v} : UpdL (sL i x a p ch mt nm gr ns qu ph wo st te) "phrase" v (sL i x a p ch mt nm gr ns qu (some v) wo st te) := .there (.there (.there (.there (.there (.there (.there (.there (.there (.there .here)))))))))
theorem u_wo {i x a p ch mt nm gr ns qu ph wo st te v} : UpdL (sL i x a p ch mt nm gr ns qu ph wo st te) "word" v (sL i x a p ch mt nm gr ns qu ph (some v) st te) := .there (.there (.there (.there (.there (.there (.there (.there (.there (.there (.there .here))))))))))
theorem u_st {i x a p ch mt nm gr ns qu ph wo st te v} : UpdL (sL i x a p ch mt nm gr ns qu ph wo st te) "star" v (sL i x a p ch mt nm gr ns qu ph wo (some v) te) := .there (.there (.there (.there (.there (.there (.there (.there (.there (.there (.there (.there .here)))))))))))
theorem u_te {i x a p ch mt nm gr ns qu ph wo st te v} : UpdL (sL i x a p ch mt nm gr ns qu ph wo st te) "text" v (sL i x a p ch mt nm gr ns qu ph wo st (some v)) := .there (.there (.there (.there (.there (.there (.there (.there (.there (.there (.there (.there (.there .here))))))))))))
theorem l_query {i x a p ch mt nm gr ns qu ph wo st te} : LkL (sL i x a p ch mt nm gr ns qu ph wo st te) "query" (.str x) := .there .here
theorem l_tok {i x a p ch mt nm gr ns qu ph wo st te} : LkL (sL i x a p ch mt nm gr ns qu ph wo st te) "tokens" (.loc a) := .there (.there .here)
theorem l_pos {i x a p ch mt nm gr ns qu ph wo st te} : LkL (sL i x a p ch mt nm gr ns qu ph wo st te) "pos" (.int p) := .there (.there (.there .here))
theorem l_char {i x a p ch mt nm gr ns qu ph wo st te} : LkL (sL i x a p (some ch) mt nm gr ns qu ph wo st te) "char" ch := .there (.there (.there (.there .here)))
theorem l_match {i x a p ch mt nm gr ns qu ph wo st te} : LkL (sL i x a p ch (some mt) nm gr ns qu ph wo st te) "match" mt := .there (.there (.there (.there (.there .here))))
theorem l_ph {i x a p ch mt nm gr ns qu ph wo st te} : LkL (sL i x a p ch mt nm gr ns qu (some ph) wo st te) "phrase" ph := .there (.there (.there (.there (.there (.there (.there (.there (.there (.there .here)))))))))
theorem l_wo {i x a p ch mt nm gr ns qu ph wo st te} : LkL (sL i x a p ch mt nm gr ns qu ph (some wo) st te) "word" wo := .there (.there (.there (.there (.there (.there (.there (.there (.there (.there (.there .here))))))))))
theorem l_st {i x a p ch mt nm gr ns qu ph wo st te} : LkL (sL i x a p ch mt nm gr ns qu ph wo (some st) te) "star" st := .there (.there (.there (.there (.there (.there (.there (.there (.there (.there (.there (.there .here)))))))))))
theorem l_te {i x a p ch mt nm gr ns qu ph wo st te} : LkL (sL i x a p ch mt nm gr ns qu ph wo st (some te)) "text" te := .there (.there (.there (.there (.there (.there (.there (.there (.there (.there (.there (.there (.there .here))))))))))))

section
variable {P : Params} {X : Cx} (hK : X.K = KK P) (NX : Names X) (hB : BuiltinsOk X) (hW : X.w.params = P) {n : Nat} {env : Env} {m : Loc} {H : List Cell} {i j : Nat} {a p : Nat} {x : List Nat} {ch mt nm gr ns qu ph wo st te : Option V}
  {Q : V → Loc → List Cell → Prop} {N B K : Loc → List Cell → Prop} {R : V → Loc → List Cell → Prop}
set_option maxHeartbeats 4000000
include hK
theorem kp_col : KPat X 36 COLC 2 := by
  refine ⟨_, _, _, _, _, _, _, _, by rw [hK]; rfl, rfl, rfl, rfl, _, _, _, by rw [hK]; rfl, rfl, by decide +kernel⟩
theorem kp_term : KPat X 41 TERMC 3 := by
  refine ⟨_, _, _, _, _, _, _, _, by rw [hK]; rfl, rfl, rfl, rfl, _, _, _, by rw [hK]; rfl, rfl, by decide +kernel⟩
theorem kp_word : KPat X 46 WORDC 0 := by
  refine ⟨_, _, _, _, _, _, _, _, by rw [hK]; rfl, rfl, rfl, rfl, _, _, _, by rw [hK]; rfl, rfl, by decide +kernel⟩
include hW in
theorem gv_names : GV X 41 (.str (Str.ofString "phrase").cps.toList) 1 ∧ GV X 41 (.str (Str.ofString "word").cps.toList) 2 ∧ GV X 41 (.str (Str.ofString "star").cps.toList) 3 := by
  have hm : ∀ h, X.K.In h → h.MapOf (PySem.strKind X.prog X.w) 38 _ := fun h hi => mapOf_K hi (by rw [hK]; rfl) (by rw [hW]; exact ⟨⟨_, _, rfl, rfl⟩, ⟨_, _, rfl, rfl⟩, ⟨_, _, rfl, rfl⟩, trivial⟩)
  refine ⟨⟨.inr ⟨_, 38, _, _, _, _, rfl, by rw [hK]; rfl, rfl, rfl, hm, rfl⟩⟩, ⟨.inr ⟨_, 38, _, _, _, _, rfl, by rw [hK]; rfl, rfl, rfl, hm, rfl⟩⟩, ⟨.inr ⟨_, 38, _, _, _, _, rfl, by rw [hK]; rfl, rfl, rfl, hm, rfl⟩⟩⟩
theorem den_ops {η h} (re : Rel X η H h) : Den X η h (.tup [.str cAND, .str cOR, .str cNOT]) (.ref 47) := by
  have := re.kin 47 _ (by rw [hK]; rfl)
  refine den_tup.mpr ⟨47, _, _, rfl, this, by show 3 ≤ sizeLine; decide, ?_⟩
  unfold DenL
  refine ⟨_, _, rfl, den_str'.mpr ⟨_, rfl⟩, ?_⟩
  exact denL_two.mpr ⟨_, _, rfl, den_str'.mpr ⟨_, rfl⟩, den_str'.mpr ⟨_, rfl⟩⟩
theorem den_pat {q : Addr} (h : ∃ o, (KK P).lookup q = some o) : ∀ η h, Rel X η H h → Den X η h (.obj q) (.ref q) := fun η _ _ => den_obj.mpr ⟨rfl, by rw [hK]; exact h⟩
include NX

/-- pos += 1 -/
theorem t_inc {a1 a2 a3 : Pos} {kk} (hf : env.kindOf "pos" ≠ some .free) (q : N (sL i x a (p + 1) ch mt nm gr ns qu ph wo st te) H) : TS X n env (sL i x a p ch mt nm gr ns qu ph wo st te) H (exec (.AugAssign (.Name "pos" a1) .Add (.Constant (.int 1) kk a2) a3) env) N B K R := by
  refine ts_Aug_Name (hfree := hf) l_pos (tri_int (iadd_i ⟨_, u_pos (q := p + 1), q⟩))
/-- tokens.append(e) -/
theorem t_app {a1 a2 a3 a4 : Pos} {e : Expr} {acc : List Tk} {t : Tk} {m : Loc} (hl : LkL m "tokens" (.loc a)) (ha : H[a]? = some (.list (acc.map tkV))) (hz : acc.length ≤ 100000) (he : ∀ {QQ : V → Loc → List Cell → Prop}, QQ (tkV t) m H → TE X n env m H (eval e env) QQ)
    (q : N m (H.set a (.list ((acc ++ [t]).map tkV)))) (h1 : interactive env = false) (h2 : swapsWith (.Call (.Attribute (.Name "tokens" a1) "append" a2) [e] [] a3) none a4.line env = Pure.pure false) (h3 : attributeBase (.Name "tokens" a1) "append" env (eval (.Name "tokens" a1) env) = eval (.Name "tokens" a1) env) (h4 : methodCallForm (1 + 0) (backTo a3 (starEach [e] env)) [] = true) (h5 : (a2.endLine == a3.line) = true) (h6 : backTo a3 (starEach [e] env) = (false, eval e env) :: backTo a3 (starEach [] env)) :
    TS X n env m H (exec (.Expr (.Call (.Attribute (.Name "tokens" a1) "append" a2) [e] [] a3) a4) env) N B K R := by
  have hsl : sizeLine = 16777216 := rfl
  refine ts_Expr (tri_CallM (tri_Name hl (tm_list ha F.slot_list_append F.type_list_append ⟨kn_builtin, tx_cons (hs := h6) (he (tx_nil (list_append ha (by simp; omega) ?_)))⟩)) h3 h4 h5) h1 h2
  rw [List.map_append] at q
  exact q

omit hK NX in
theorem star_text {b : Nat} {x : List Nat} (h1 : x.getD b 0 = 42) (h2 : b < x.length) : x.extract b (b + 1) = [42] := by
  rw [List.extract_eq_drop_take, show b + 1 - b = 1 by omega, List.drop_eq_getElem_cons h2]
  rw [List.getD_eq_getElem?_getD, List.getElem?_eq_getElem h2] at h1
  rw [show x[b] = 42 from h1]
  rfl
omit hK NX in
/-- bool(star) -/
theorem tr_star {QB : Bool → Loc → List Cell → Prop} {s : Option (Nat × Nat)} (hs : ∀ u, s = some u → ∃ b, u = (b, b + 1) ∧ x.getD b 0 = 42 ∧ b < x.length) (q : QB s.isSome m H) : T1B X n env m H truthy (gval s x) QB := by
  rcases s with _ | u
  · exact tr_n q
  · obtain ⟨b, rfl, h1, h2⟩ := hs u rfl
    unfold gval
    dsimp only
    rw [star_text h1 h2]
    exact tr_s (by decide) q
omit hK NX in
/-- star or '' -/
theorem e_star {a1 a2 a3 : Pos} {kk} {s : Option (Nat × Nat)} (hl : LkL m "star" (gval s x)) (hs : ∀ u, s = some u → ∃ b, u = (b, b + 1) ∧ x.getD b 0 = 42 ∧ b < x.length) (q : Q (.str (if s.isSome then [42] else [])) m H) : TE X n env m H (eval (.BoolOp .Or [.Name "star" a1, .Constant (.str "") kk a2] a3) env) Q := by
  refine tri_BoolOp (tbo_or (tri_Name hl fun a => tr_star hs ?_ a))
  rcases s with _ | u
  · refine br_f (tbo_one (tri_str ?_))
    rw [show (Str.ofString "").cps.toList = [] by decide +kernel]
    exact q
  · obtain ⟨b, rfl, h1, h2⟩ := hs u rfl
    refine br_t ?_
    unfold gval
    dsimp only
    rw [star_text h1 h2]
    exact q

omit hK NX in
theorem e_quot {p1 p2 p3 p4 p5 p6 p7 p8 p9 : Pos} {k1 k2 k3 : Nat} {z : List Nat} {s : Option (Nat × Nat)} (lt : LkL m "text" (.str z)) (ls : LkL m "star" (gval s x)) (hs : ∀ u, s = some u → ∃ b, u = (b, b + 1) ∧ x.getD b 0 = 42 ∧ b < x.length) (hz : z.length ≤ 100000) (q : Q (.str (34 :: z ++ 34 :: (if s.isSome then [42] else []))) m H) :
    TE X n env m H (eval (.JoinedStr [.Constant (.str "\"") k1 p1, .FormattedValue (.Name "text" p2) 115 none p3, .Constant (.str "\"") k2 p4, .FormattedValue (.BoolOp .Or [.Name "star" p5, .Constant (.str "") k3 p6] p7) 115 none p8] p9) env) Q := by
  have hsl : sizeLine = 16777216 := rfl
  have hq : (Str.ofString "\"").cps.toList = [34] := by decide +kernel
  have hl : (if s.isSome then [42] else ([] : List Nat)).length ≤ 1 := by split <;> simp
  refine tri_Joined (tj_cons (tri_str ⟨_, rfl, ?_, ?_⟩))
  · rw [hq]; decide
  rw [hq]
  refine tj_cons (tri_Fmt (tri_Name lt ⟨_, rfl, by omega, _, rfl, ?_, ?_⟩))
  · simp; omega
  refine tj_cons (tri_str ⟨_, rfl, ?_, ?_⟩)
  · rw [hq]; simp; omega
  rw [hq]
  refine tj_cons (tri_Fmt (e_star ls hs ⟨_, rfl, by omega, _, rfl, ?_, tj_nil ?_ ?_⟩))
  · simp only [List.length_append, List.length_cons, List.length_nil]; omega
  · simp only [List.length_append, List.length_cons, List.length_nil]; omega
  · rw [show [] ++ [34] ++ z ++ [34] ++ (if s.isSome then [42] else ([] : List Nat)) = 34 :: z ++ 34 :: (if s.isSome then [42] else []) by simp]
    exact q

/-- what the loop of _scan keeps -/
def ScanI (H : List Cell) (i : Nat) (x : List Nat) (split : List Nat → List (List Nat)) (esc : List Nat → List Nat) (cols : List (List Nat)) (res : List Tk) (s : Nat × Nat × List Tk) (m' : Loc) (H' : List Cell) : Prop :=
  ∃ ch mt nm gr ns qu ph wo st te, m' = sL i x H.length s.2.1 ch mt nm gr ns qu ph wo st te ∧ (∀ y, y < H.length → H'[y]? = H[y]?) ∧ H'[H.length]? = some (.list (s.2.2.map tkV)) ∧ x.length ≤ s.1 + s.2.1 ∧
    scanLoop split esc cols x s.1 s.2.1 s.2.2 = res ∧ s.2.2.length + s.1 ≤ x.length ∧ ∀ t ∈ s.2.2, AscTk t

theorem scan_ok0 {fs : List (Str × V)} {split : List Nat → List (List Nat)} {esc : List Nat → List Nat} {cols : List (List Nat)} (hW : X.w.params = P) (I : IsInst H i j 131 fs) (hn : ("_balance" : Str) ∉ fs.map (·.1)) (hA : AscL x) (hx : x.length ≤ 90000) (hcol : ∀ p, p < x.length → colRes x.toArray p = none)
    (q : ∀ H' k', (∀ y, y < H.length → H'[y]? = H[y]?) → H.length ≤ H'.length → H.length ≤ k' → H'[k']? = some (.list ((scan split esc cols x).map tkV)) → Q (.loc k') m H') : CN X (n + 2) env m H (.ref 66) [.loc i, .str x] Q := by
  refine cn_call (names := ["self", "query"]) (ws := []) (ds := []) (by rw [hK]; rfl) (by rw [hK]; rfl) rfl rfl rfl rfl (by decide +kernel) rfl (fun s cvs hin hl => ?_) (fun _ _ => by unfold DenL; rfl) ?_
  · obtain ⟨c, d, rfl⟩ : ∃ c d, cvs = [c, d] := by
      match cvs, hl with
      | [c, d], _ => exact ⟨c, d, rfl⟩
    exact BindsTo.of_eq rfl
  · intro env' hsc hcode
    obtain ⟨sc, lo', gl, ce, qu, fu, co, fr, bi⟩ := env'
    simp only at hsc hcode
    subst hsc hcode
    have hil : i < H.length := (List.getElem?_eq_some_iff.mp I.inst).1
    have hjl : j < H.length := (List.getElem?_eq_some_iff.mp I.dict).1
    have hsl : sizeLine = 16777216 := rfl
    show TS X (n + 1) _ [("self", some (.loc i)), ("query", some (.str x)), ("tokens", none), ("pos", none), ("char", none), ("match", none), ("name", none), ("group", none), ("names", none), ("quoted", none), ("phrase", none), ("word", none), ("star", none), ("text", none)] H (execs _ _) _ _ _ _
    refine ts_cons (ts_Assign_Name (hfree := nofree) (tri_List (tx_nil ⟨by show 0 ≤ sizeLine; decide, _, .there (.there .here), ?_⟩)))
    refine ts_cons (ts_Assign_Name (hfree := nofree) (tri_int ⟨_, .there (.there (.there .here)), ?_⟩))
    unfold scan at q
    generalize hres : scanLoop split esc cols x x.length 0 [] = res at *
    refine ts_cut (fun m' H' => ∃ p ch mt nm gr ns qu ph wo st te, m' = sL i x H.length p ch mt nm gr ns qu ph wo st te ∧ (∀ y, y < H.length → H'[y]? = H[y]?) ∧ H'[H.length]? = some (.list (res.map tkV)) ∧ res.length ≤ x.length ∧ H.length ≤ H'.length) (ts_While ?_) ?_
    · refine tw_ind (ScanI H i x split esc cols res) (fun x => x.1) ?_ (x.length, 0, []) _ _ ⟨none, none, none, none, none, none, none, none, none, none, rfl, fun y hy => by rw [List.getElem?_append_left hy], by simp, by simp, hres, by simp, by simp⟩
      rintro ⟨f, p, acc⟩ _ H2 ⟨ch, mt, nm, gr, ns, qu, ph, wo, st, te, rfl, hkeep, hacc, hf, hr, hsz, hasc⟩ ih
      dsimp only at *
      have hal : H.length < H2.length := (List.getElem?_eq_some_iff.mp hacc).1
      refine tw_turn (tb_Compare (hm := by with_unfolding_all rfl) (tri_Name l_pos (tri_CallN (f := .builtin "len") rfl (.inr NX.len) kn_builtin (tx_cons (tri_Name l_query (tx_nil (len_s (by omega) (lt_i (tr_b ?_)))))))))
      refine br_c (fun hb => ?_) (fun hb => ?_)
      · have hlt : p < x.length := by have := of_decide_eq_true hb; omega
        obtain ⟨f', rfl⟩ : ∃ f', f = f' + 1 := ⟨f - 1, by omega⟩
        unfold scanLoop at hr
        rw [if_pos hlt] at hr
        -- how a turn goes on
        have go : ∀ (acc' : List Tk) (p' : Nat) ch mt nm gr ns qu ph wo st te (H3 : List Cell), scanStep split esc cols x p acc = (acc', p') → p < p' → acc'.length ≤ acc.length + 1 → (∀ t ∈ acc', AscTk t) → (∀ y, y < H.length → H3[y]? = H[y]?) → H3[H.length]? = some (.list (acc'.map tkV)) →
            TW X (n + 1) _ (sL i x H.length p' ch mt nm gr ns qu ph wo st te) H3 _ _ [] _ _ := fun acc' p' ch mt nm gr ns qu ph wo st te H3 h1 h2 h3 h4 h5 h6 => by
          rw [h1] at hr
          exact ih (f', p', acc') _ _ (by dsimp only; omega) ⟨ch, mt, nm, gr, ns, qu, ph, wo, st, te, rfl, h5, h6, by dsimp only; omega, hr, by dsimp only; omega, h4⟩
        have hkeep' : ∀ {c : Cell} y, y < H.length → (H2.set H.length c)[y]? = H[y]? := fun {c} y hy => by rw [List.getElem?_set_ne (by omega)]; exact hkeep y hy
        have hset : ∀ {c : Cell}, (H2.set H.length c)[H.length]? = some c := fun {c} => by rw [List.getElem?_set_self hal]
        have hxp : x[p]? = some (x.getD p 0) := by rw [List.getD_eq_getElem?_getD, List.getElem?_eq_getElem hlt]; rfl
        have hc128 : x.getD p 0 < 128 := hA.get hxp
        refine ts_cons (ts_Assign_Name (hfree := nofree) (tri_Subscript (tri_Name l_query (tri_Name l_pos (t2_item_str (c := x.getD p 0) (by omega) (by omega) (by rw [Int.toNat_natCast]; exact hxp) ⟨_, u_char, ?_⟩)))))
        refine ts_cons (ts_If (tb_plain (tri_CallM (tri_Name l_char (tm_str F.slot_str_isspace F.type_str_isspace ⟨kn_builtin, tx_nil (isspace_s (tr_b ?_))⟩)))))
        rw [isspace_one _ hc128]
        refine br_c (fun hsp => ?_) (fun hsp => ?_)
        · refine ts_cons (t_inc hK NX nofree (ts_cons (ts_Continue (go acc (p + 1) _ _ _ _ _ _ _ _ _ _ _ (scan_space hsp) (by omega) (by omega) hasc hkeep hacc))))
        have hsp' : ¬ Unicode.isSpace (x.getD p 0) = true := by rw [hsp]; decide
        refine ts_nil (ts_cons (ts_If (tb_Compare (hm := by with_unfolding_all rfl) (tri_Name l_char (tri_str (in_s (tr_b ?_)))))))
        rw [show (Str.ofString "()").cps.toList = [40, 41] by decide +kernel, paren_one _ hc128]
        refine br_c (fun hpa => ?_) (fun hpa => ?_)
        · have h2 : x.getD p 0 = 40 ∨ x.getD p 0 = 41 := by simpa using hpa
          obtain ⟨t, ht, hst, has⟩ : ∃ t : Tk, tkV t = .tup [.str [x.getD p 0], .none] ∧ scanStep split esc cols x p acc = (acc ++ [t], p + 1) ∧ AscTk t := by
            rcases h2 with h2 | h2
            · exact ⟨.lp, by rw [h2]; rfl, scan_lp hsp' h2, trivial⟩
            · exact ⟨.rp, by rw [h2]; rfl, scan_rp hsp' h2, trivial⟩
          refine ts_cons (t_app hK NX (t := t) (acc := acc) l_tok hacc (by omega) (fun qq => tri_Tuple (tx_cons (tri_Name l_char (tx_cons (tri_none (tx_nil ⟨by show 2 ≤ sizeLine; decide, by rw [← ht]; exact qq⟩)))))) ?_ rfl rfl rfl rfl rfl rfl)
          refine ts_cons (t_inc hK NX nofree (ts_cons (ts_Continue (go (acc ++ [t]) (p + 1) _ _ _ _ _ _ _ _ _ _ _ hst (by omega) (by simp) (fun u hu => ?_) hkeep' hset))))
          rcases List.mem_append.mp hu with hu | hu
          · exact hasc u hu
          · rcases List.mem_cons.mp hu with rfl | hu
            · exact has
            · cases hu
        have h40 : x.getD p 0 ≠ 40 ∧ x.getD p 0 ≠ 41 := by simpa using hpa
        refine ts_nil (ts_cut (fun m' H' => m' = sL i x H.length p (some (.str [x.getD p 0])) mt nm gr ns qu ph wo st te ∧ H2 = H' ∧ ¬ (x.getD p 0 = 45 ∧ p + 1 < x.length ∧ ¬ Unicode.isSpace (x.getD (p + 1) 0) = true)) (ts_If (tb_BoolOp (ta_and (tb_Compare (hm := by with_unfolding_all rfl) (tri_Name l_char (tri_str (eq_s (tr_b ?_)))))))) ?_)
        · rw [show (Str.ofString "-").cps.toList = [45] by decide +kernel, show decide ([x.getD p 0] = [45]) = decide (x.getD p 0 = 45) by simp]
          refine br_c (fun h45 => ?_) (fun h45 => ?_)
          · have h45 := of_decide_eq_true h45
            refine ta_and (tb_plain (tri_CallM (tri_Subscript (tri_Name l_query (tri_Slice (e1 := fun _ => pure Value.none) (e2 := fun _ => pure Value.none) (tvn_some (tri_BinOp (tri_Name l_pos (tri_int (add_i (tvn_some (tri_BinOp (tri_Name l_pos (tri_int (add_i ⟨_, _, .inr ⟨_, rfl, rfl⟩, .inr ⟨_, rfl, rfl⟩, t2_cut_str (by omega) ?_⟩)))))))))))))))
            refine tm_str F.slot_str_strip F.type_str_strip ⟨kn_builtin, tx_nil (strip_s (by have := cutL_le x (some ((p : Int) + 1)) (some ((p : Int) + 2)); omega) (tr_s ?_ ?_))⟩
            · rw [cut_one]
              rcases hx1 : x[p + 1]? with _ | c
              · dsimp only; rw [strip_none]; decide
              · dsimp only; rw [strip_one c (hA.get hx1)]; split <;> (show _ ≤ sizeLine; simp [hsl])
            rw [strip_next hA p]
            refine br_c (fun hn => ?_) (fun hn => ?_)
            · have hn := of_decide_eq_true hn
              refine ta_nil_and (br_t ?_)
              refine ts_cons (t_app hK NX (t := .neg) (acc := acc) l_tok hacc (by omega) (fun qq => tri_Tuple (tx_cons (tri_str (tx_cons (tri_none (tx_nil ⟨by show 2 ≤ sizeLine; decide, ?_⟩)))))) ?_ rfl rfl rfl rfl rfl rfl)
              · rw [show (Str.ofString "neg").cps.toList = [110, 101, 103] by decide +kernel]; exact qq
              refine ts_cons (t_inc hK NX nofree (ts_cons (ts_Continue (go (acc ++ [.neg]) (p + 1) _ _ _ _ _ _ _ _ _ _ _ (scan_neg hsp' h40.1 h40.2 ⟨h45, hn⟩) (by omega) (by simp) (fun u hu => ?_) hkeep' hset))))
              rcases List.mem_append.mp hu with hu | hu
              · exact hasc u hu
              · rcases List.mem_cons.mp hu with rfl | hu
                · trivial
                · cases hu
            · exact br_f (ts_nil ⟨rfl, rfl, fun h => (of_decide_eq_false hn) h.2⟩)
          · exact br_f (ts_nil ⟨rfl, rfl, fun h => (of_decide_eq_false h45) h.1⟩)
        rintro _ _ ⟨rfl, rfl, hng⟩
        refine ts_cons (ts_Assign_Name (hfree := nofree) (tri_CallM (tri_glob rfl NX.col (den_pat hK ⟨_, rfl⟩) (tm_obj (by rw [hK]; rfl) rfl rfl F.plainAttrs_rePattern F.slot_rePattern_match F.type_rePattern_match ⟨kn_builtin, tx_cons (tri_Name l_query (tx_cons (tri_Name l_pos (tx_nil (re_match (kp_col hK) (by omega) (by omega) (by omega) (col_match hA (by omega) hlt) ⟨_, u_match, ?_⟩)))))⟩))))
        rw [hcol p hlt]
        refine ts_cons (ts_If (tb_Compare (hm := by with_unfolding_all rfl) (tri_Name l_match (tri_none (isnot_none (tr_b (br_f (ts_nil ?_))))))))
        have hset1 : isSet (x.getD p 0) = false ∨ x.getD p 0 = 34 := by
          rw [isSet_is, hsp, hpa]
          by_cases h34 : x.getD p 0 = 34
          · exact .inr h34
          · exact .inl (by rw [beq_eq_false_iff_ne.mpr h34]; rfl)
        have hend := termRes_end hlt hset1
        refine ts_cons (ts_Assign_Name (hfree := nofree) (tri_CallM (tri_glob rfl NX.term (den_pat hK ⟨_, rfl⟩) (tm_obj (by rw [hK]; rfl) rfl rfl F.plainAttrs_rePattern F.slot_rePattern_match F.type_rePattern_match ⟨kn_builtin, tx_cons (tri_Name l_query (tx_cons (tri_Name l_pos (tx_nil (re_match (kp_term hK) (by omega) (by omega) (by omega) (term_match hA (by omega) hlt hset1) ⟨_, u_match, ?_⟩)))))⟩))))
        obtain ⟨sp, sw, ss, hspan, hph, hsw, hss⟩ := termRes_three x p
        have hstep := scan_rest (split := split) (esc := esc) (cols := cols) (acc := acc) hsp' h40.1 h40.2 hng (hcol p hlt) hspan
        rw [show termRes x p = ((termRes x p).1, [sp, sw, ss]) from Prod.ext rfl hspan]
        generalize (termRes x p).1 = e at *
        refine ts_cons (ts_If (tb_Compare (hm := by with_unfolding_all rfl) (tri_Name l_match (tri_none (is_none (tr_b (br_f (ts_nil ?_))))))))
        refine ts_cons (ts_Assign_Name (hfree := nofree) (tri_CallM (tri_Name l_match (tm_mat F.slot_reMatch_end F.type_reMatch_end ⟨kn_builtin, tx_nil (re_end ⟨_, u_pos (q := e), ?_⟩)⟩))))
        obtain ⟨g1, g2, g3⟩ := gv_names hK hW
        refine ts_cons (ts_Assign_Tuple (tri_CallM (tri_Name l_match (tm_mat F.slot_reMatch_group F.type_reMatch_group ⟨kn_builtin, tx_cons (tri_str (tx_cons (tri_str (tx_cons (tri_str (tx_nil (re_group (os := [sp, sw, ss]) (.cons (g := 0) g1 rfl (.cons (g := 1) g2 rfl (.cons (g := 2) g3 rfl .nil))) (by omega) (by decide) (by simp) ?_)))))))⟩))))
        refine ta_Tuple3 (u := gval sp x) (v := gval sw x) (w := gval ss x) u_ph u_wo u_st ?_ nofree nofree nofree
        refine ts_cut (fun m' H' => m' = sL i x H.length e (some (.str [x.getD p 0])) (some (.mat x 41 ((p : Int) :: (e : Int) :: spl [sp, sw, ss]))) nm gr ns qu (some (gval sp x)) (some (gval sw x)) (some (gval ss x)) te ∧ H2 = H' ∧ ¬ (sp = none ∧ ss = none ∧ isOpW (spanT x sw))) (ts_If (tb_BoolOp (ta_and (tb_Compare (hm := by with_unfolding_all rfl) (tri_Name l_ph (tri_none (is_none (tr_b ?_)))))))) ?_
        · rw [show isNoneV (gval sp x) = decide (sp = none) by rcases sp with _ | ⟨b, e'⟩ <;> rfl]
          refine br_c (fun h1 => ?_) (fun h1 => br_f (ts_nil ⟨rfl, rfl, fun h => (of_decide_eq_false h1) h.1⟩))
          have h1 := of_decide_eq_true h1
          refine ta_and (tb_Not (tb_plain (tri_Name l_st (tr_star hss ?_))))
          refine br_c (fun h2 => ?_) (fun h2 => br_f (ts_nil ⟨rfl, rfl, fun h => by rw [h.2.1] at h2; cases h2⟩))
          have h2 : ss = none := by
            rcases ss with _ | s
            · rfl
            · cases h2
          obtain ⟨b, e2, hw⟩ := hsw h1
          have hgw : gval sw x = .str (spanT x sw) := by rw [hw]; rfl
          rw [hgw]
          refine ta_and (tb_Compare (hm := by with_unfolding_all rfl) (tri_Name l_wo (tri_glob rfl NX.ops (fun η h re => den_ops hK re) (in_data (d := .str ⟨(spanT x sw).toArray⟩) (ds := [.str ⟨cAND.toArray⟩, .str ⟨cOR.toArray⟩, .str ⟨cNOT.toArray⟩]) rfl rfl (by simp only [PyData.canLay0]; exact strOk_asc (spanT_asc hA sw)) (by decide +kernel) (by simp [PyData.depth]) (tr_b ?_)))))
          rw [isOpW_any]
          refine br_c (fun h3 => ?_) (fun h3 => br_f (ts_nil ⟨rfl, rfl, fun h => (of_decide_eq_false h3) h.2.2⟩))
          have h3 := of_decide_eq_true h3
          refine ta_nil_and (br_t ?_)
          have hra : restAcc x acc sp sw ss = opAcc acc (spanT x sw) := by unfold restAcc; rw [if_pos ⟨h1, h2, h3⟩]
          rw [hra] at hstep
          generalize hwd : spanT x sw = wd at *
          have hwa : AscL wd := by rw [← hwd]; exact spanT_asc hA sw
          refine ts_cut (fun m' H' => m' = sL i x H.length e (some (.str [x.getD p 0])) (some (.mat x 41 ((p : Int) :: (e : Int) :: spl [sp, sw, ss]))) nm gr ns qu (some (gval sp x)) (some (.str wd)) (some (gval ss x)) te ∧ (∀ y, y < H.length → H'[y]? = H[y]?) ∧
            H'[H.length]? = some (.list ((if wd = cNOT ∧ acc.getLast? = some (.op cAND) then acc.dropLast else acc).map tkV))) (ts_If (tb_BoolOp (ta_and (tb_Compare (hm := by with_unfolding_all rfl) (tri_Name l_wo (tri_str (eq_s (tr_b ?_)))))))) ?_
          · rw [show (Str.ofString "NOT").cps.toList = cNOT by decide +kernel]
            refine br_c (fun h4 => ?_) (fun h4 => br_f (ts_nil ⟨rfl, hkeep, by rw [if_neg (fun h => (of_decide_eq_false h4) h.1)]; exact hacc⟩))
            have h4 := of_decide_eq_true h4
            refine ta_and (tb_plain (tri_Name l_tok (tr_l hacc ?_)))
            rcases List.eq_nil_or_concat acc with rfl | ⟨l, t, rfl⟩
            · exact br_f (br_f (ts_nil ⟨rfl, hkeep, by simpa using hacc⟩))
            · refine br_c (fun _ => ?_) (fun h => absurd (of_decide_eq_false h) (by simp))
              refine ta_and (tb_Compare (hm := by with_unfolding_all rfl) (tri_Subscript (tri_Name l_tok (tri_UnaryOp (tri_int (neg_i (t2_item_last hacc (v := tkV t) (by decide) (by simp; omega) ?_ ?_)))))))
              · rw [show ((-1 : Int) + (((l.concat t).map tkV).length : Nat)).toNat = l.length by simp; omega]; simp
              refine tri_Tuple (tx_cons (tri_str (tx_cons (tri_str (tx_nil ⟨by show 2 ≤ sizeLine; decide, ?_⟩)))))
              rw [show (Str.ofString "op").cps.toList = [111, 112] by decide +kernel, show (Str.ofString "AND").cps.toList = cAND by decide +kernel]
              refine eq_data (pyT_is t) (f := pyT (.op cAND)) rfl (pyT_lay (hasc t (by simp))) (by decide +kernel) (pyT_depth t) (tr_b ?_)
              rw [pyT_eqv]
              refine br_c (fun h5 => ?_) (fun h5 => br_f (ts_nil ⟨rfl, hkeep, by rw [if_neg (fun h => (of_decide_eq_false h5) (by simpa using h.2))]; exact hacc⟩))
              have h5 := of_decide_eq_true h5
              refine ta_nil_and (br_t ?_)
              refine ts_cons (ts_Expr (tri_CallM (tri_Name l_tok (tm_list hacc F.slot_list_pop F.type_list_pop ⟨kn_builtin, tx_nil (list_pop (xs := l.map tkV) (v := tkV t) (by rw [hacc]; simp) ?_)⟩))))
              refine ts_nil ⟨rfl, hkeep', ?_⟩
              rw [hset, if_pos ⟨h4, by simp [h5]⟩]
              simp
          · rintro _ H3 ⟨rfl, hk3, ha3⟩
            have hlen3 : ((if wd = cNOT ∧ acc.getLast? = some (.op cAND) then acc.dropLast else acc)).length ≤ acc.length := by split <;> simp
            have hal3 : H.length < H3.length := (List.getElem?_eq_some_iff.mp ha3).1
            refine ts_cons (t_app hK NX (t := .op wd) (acc := (if wd = cNOT ∧ acc.getLast? = some (.op cAND) then acc.dropLast else acc)) l_tok ha3 (by omega) (fun qq => tri_Tuple (tx_cons (tri_str (tx_cons (tri_Name l_wo (tx_nil ⟨by show 2 ≤ sizeLine; decide, ?_⟩)))))) ?_ rfl rfl rfl rfl rfl rfl)
            · rw [show (Str.ofString "op").cps.toList = [111, 112] by decide +kernel]; exact qq
            refine ts_cons (ts_Continue (go (opAcc acc wd) e _ _ _ _ _ _ _ _ _ _ _ hstep hend opAcc_len (opAcc_asc hasc hwa) (fun y hy => by rw [List.getElem?_set_ne (by omega)]; exact hk3 y hy) (by rw [List.getElem?_set_self hal3]; rfl)))
        rintro _ _ ⟨rfl, rfl, hno⟩
        have hra : restAcc x acc sp sw ss = if hasWord (textT x sp sw).toArray then acc ++ [termTk (textT x sp sw) ss] else acc := by unfold restAcc; rw [if_neg hno]
        have hasc2 : ∀ t ∈ restAcc x acc sp sw ss, AscTk t := restAcc_asc hA hasc
        have hlen2 : (restAcc x acc sp sw ss).length ≤ acc.length + 1 := restAcc_len
        refine ts_cons (ts_Assign_Name (hfree := nofree) (tri_IfExp (tb_Compare (hm := by with_unfolding_all rfl) (tri_Name l_ph (tri_none (is_none (tr_b ?_)))))))
        rw [show isNoneV (gval sp x) = decide (sp = none) by rcases sp with _ | ⟨b, e'⟩ <;> rfl]
        have hgt : ∀ {QQ : V → Loc → List Cell → Prop} {ee mm HH} {a1 a2 : Pos}, LkL mm "word" (gval sw x) → LkL mm "phrase" (gval sp x) → QQ (.str (textT x sp sw)) mm HH →
            Br (decide (sp = none)) (TE X (n + 1) ee mm HH (eval (.Name "word" a1) ee) QQ) (TE X (n + 1) ee mm HH (eval (.Name "phrase" a2) ee) QQ) := fun {QQ ee mm HH a1 a2} lw lp qq => by
          rcases sp with _ | ⟨b, e'⟩
          · obtain ⟨b, e2, hw⟩ := hsw rfl
            subst hw
            exact br_t (tri_Name lw qq)
          · exact br_f (tri_Name lp qq)
        refine hgt l_wo l_ph ⟨_, u_te, ?_⟩
        have htl := textT_len (x := x) sp sw
        refine ts_cons (ts_If (tb_plain (tri_CallM (tri_glob rfl NX.word (den_pat hK ⟨_, rfl⟩) (tm_obj (by rw [hK]; rfl) rfl rfl F.plainAttrs_rePattern F.slot_rePattern_search F.type_rePattern_search ⟨kn_builtin, tx_cons (tri_Name l_te (tx_nil (re_search (kp_word hK) (by omega) (fun h => tr_n ?_) (fun h its => tr_mat ?_))))⟩)))))
        · rw [hra, h] at hstep
          rw [if_neg (by decide)] at hstep
          exact br_f (ts_nil (ts_nil (go acc e _ _ _ _ _ _ _ _ _ _ _ hstep hend (by omega) hasc hkeep hacc)))
        · rw [hra, h, if_pos rfl] at hstep hasc2 hlen2
          refine br_t (ts_cons (t_app hK NX (t := termTk (textT x sp sw) ss) (acc := acc) l_tok hacc (by omega) (fun qq => tri_Tuple (tx_cons (tri_str (tx_cons (e_quot l_te l_st hss (by omega) (tx_nil ⟨by show 2 ≤ sizeLine; decide, ?_⟩)))))) ?_ rfl rfl rfl rfl rfl rfl))
          · rw [show (Str.ofString "term").cps.toList = [116, 101, 114, 109] by decide +kernel]; exact qq
          exact ts_nil (ts_nil (go (acc ++ [termTk (textT x sp sw) ss]) e _ _ _ _ _ _ _ _ _ _ _ hstep hend hlen2 hasc2 hkeep' hset))
      · have hge : ¬ p < x.length := by have := of_decide_eq_false hb; omega
        have e : scanLoop split esc cols x f p acc = acc := by
          cases f with
          | zero => rfl
          | succ f => unfold scanLoop; rw [if_neg hge]
        rw [e] at hr
        subst hr
        exact ⟨p, ch, mt, nm, gr, ns, qu, ph, wo, st, te, rfl, hkeep, hacc, by omega, by omega⟩
    · rintro _ H2 ⟨p, ch, mt, nm, gr, ns, qu, ph, wo, st, te, rfl, hkeep, hacc, hlen, hle⟩
      have I2 : IsInst H2 i j 131 fs := ⟨by rw [hkeep i hil]; exact I.inst, by rw [hkeep j hjl]; exact I.dict⟩
      refine ts_cons (ts_Return (e_meth hK NX rfl rfl rfl .here I2 hn (tx_cons (tri_Name l_tok (tx_nil (balance_ok hK NX hacc (by omega) fun H3 k' h1 h2 h3 h4 => ?_)))) rfl rfl))
      exact q H3 k' (fun y hy => by rw [h1 y (by omega)]; exact hkeep y hy) (by omega) (by omega) h4
end
end Mine
end
section
open PySem PySem.W PyProof.Rows PySem.Calls
set_option Elab.async false
set_option maxRecDepth 100000
set_option linter.unusedVariables false
namespace Mine
section
variable {X : Cx} {n : Nat} {env : Env} {m : Loc} {H : List Cell} {Q : V → Loc → List Cell → Prop}
/-- a new cell in a heap that has grown -/
theorem alloc_ext {η : List Addr} {s : Shared} {c : Cell} {o : Obj} {tk : Nat} {h' : Heap} (re : Rel X η H s.heap) (e : EnvOk X env η m s.heap) (ext : ∀ b o', s.heap.get? b = some o' → h'.get? b = some o') (ho : h'.get? s.heap.objs.size = some o) (ok : CellOk X (η ++ [s.heap.objs.size]) h' c o) :
    Rel X (η ++ [s.heap.objs.size]) (H ++ [c]) h' ∧ EnvOk X env (η ++ [s.heap.objs.size]) m h' ∧ Adv X env η s (η ++ [s.heap.objs.size]) { s with heap := h', toks := tk } := by
  have K : Keeps' X η s.heap (η ++ [s.heap.objs.size]) h' := ⟨fun a o' e _ => ext _ _ e, ⟨[s.heap.objs.size], rfl⟩⟩
  have f := re.fresh
  refine ⟨⟨fun b o' q nt => ext _ _ (re.low b o' q nt), fun b hb => ?_, by simp [re.len], ?_, fun a ha => ?_, fun i c' q => ?_⟩, e.move K (fun o' q => ext _ _ q) (fun p _ o' q => ext _ _ q) (fun a ha => ?_), ⟨fun b o' q _ _ _ _ => ext _ _ q, fun b o' q => ⟨o', ext _ _ q⟩, ⟨_, rfl⟩, fun a ha => ?_, Nat.le_refl _, fun _ _ q => q, fun i y hi q => ?_, rfl⟩⟩
  · obtain ⟨ps, more, e1, e2⟩ := re.tab b hb; exact ⟨ps, more, e1, ext _ _ e2⟩
  · rw [List.nodup_append]
    exact ⟨re.nd, by simp, fun a ha b hb q => by simp at hb; subst hb; subst q; exact f.2 ha⟩
  · rcases List.mem_append.mp ha with h1 | h1
    · exact re.hi a h1
    · simp at h1; subst h1; exact f.1
  · rcases Nat.lt_or_ge i H.length with hlt | hge
    · rw [List.getElem?_append_left hlt] at q
      obtain ⟨a, o', e1, e2, e3⟩ := re.cells i c' q
      exact ⟨a, o', by rw [List.getElem?_append_left (re.len ▸ hlt)]; exact e1, ext _ _ e2, e3.keeps K⟩
    · rw [List.getElem?_append_right hge] at q
      have hi : i - H.length = 0 := by
        rcases Nat.eq_zero_or_pos (i - H.length) with h1 | h1
        · exact h1
        · rw [List.getElem?_eq_none (by simp; omega)] at q; cases q
      rw [hi] at q; simp at q; subst q
      refine ⟨s.heap.objs.size, o, ?_, ho, ok⟩
      rw [List.getElem?_append_right (by rw [re.len]; exact hge), re.len, hi]; rfl
  · rcases List.mem_append.mp ha with h1 | h1
    · exact .inl h1
    · simp at h1; subst h1; exact .inr (get_size_none _)
  · rcases List.mem_append.mp ha with h1 | h1
    · exact .inl h1
    · simp at h1; subst h1; exact .inr (get_size_none _)
  · rw [show ({ s with heap := h', toks := tk } : Shared).gens = s.gens from rfl, Array.getElem?_eq_none hi] at q; cases q

/-- set(a tuple of texts) -/
theorem set_tup {xs : List (List Nat)} (hz : xs.length + 1 < scanBound) (q : Q (.loc H.length) m (H ++ [.set xs])) : TN X n env m H (fun cvs => call (.type "set") cvs) [.tup (xs.map V.str)] Q := by
  intro cvs A η s C E Ro re e d k
  obtain ⟨b, rfl, d1⟩ := denL_one.mp d
  obtain ⟨a, vs, nl, rfl, ho, _, dl⟩ := den_tup.mp d1
  have hlen := denL_length dl
  refine call_set_tup (X := X) Ro.handled ho (by simp [hlen]) (fun i x hx => ?_) hz fun h' tk n' hn hS hk => ?_
  · obtain ⟨cv, hcv, dcv⟩ := (denL_get dl i).1 (.str x) (by simp [hx])
    obtain ⟨t, rfl⟩ := den_str'.mp dcv
    exact ⟨t, by simpa using hcv⟩
  · obtain ⟨o, ho', so⟩ := hS.objOf
    obtain ⟨r', e', a'⟩ := alloc_ext (c := .set xs) (tk := tk) re e (fun b o q => hk b o (Heap.lt_size q) q) ho' ⟨n', by omega, so⟩
    exact k _ m _ _ _ _ q (den_loc.mpr ⟨_, rfl, by rw [← re.len, List.getElem?_append_right (Nat.le_refl _)]; simp⟩) r' e' a'

/-- a text in a set of texts -/
theorem in_set {i : Nat} {xs : List (List Nat)} {x : List Nat} (hi : H[i]? = some (.set xs)) (q : Q (.bool (xs.contains x)) m H) : T2 X n env m H (compareOp .In) (.str x) (.loc i) Q := by
  intro a b A η s C E Ro re e ⟨da, db⟩ k
  obtain ⟨t, rfl⟩ := den_str'.mp da
  obtain ⟨ad, rfl, ea⟩ := den_loc.mp db
  obtain ⟨a', o, e1, e2, n', hn, so⟩ := re.cells i _ hi
  rw [ea] at e1
  cases e1
  refine wpAny_inSet_of (prog := X.prog) (w := X.w) (knd := skn X) (S := fun k => xs.contains k.cps.toList) (k := ⟨x.toArray⟩) (strKind_is X.prog X.w _ t) (by rfl) (so.setOf e2 hn) ?_
  exact k _ m H _ η _ q (den_bool.mpr rfl) re e (Adv.ofExt fun _ _ z => z)
end
end Mine
end
section
open PySem PySem.W PyProof.Rows PySem.Calls
set_option Elab.async false
set_option maxRecDepth 100000
set_option linter.unusedVariables false
set_option linter.unusedSectionVars false
namespace Mine
theorem balLoop_len : ∀ (l : List Tk) (d r : Nat), (balLoop l d r).length ≤ 2 * l.length + d
  | [], d, r => by simp [balLoop]
  | .lp :: l, d, r => by
    unfold balLoop; split
    · have := balLoop_len l d (r + 1); simp; omega
    · have := balLoop_len l (d + 1) r; simp; omega
  | .rp :: l, d, r => by
    unfold balLoop; split
    · have := balLoop_len l d (r - 1); simp; omega
    · split
      · have := balLoop_len l d r; simp; omega
      · have := balLoop_len l (d - 1) r; simp; omega
  | .neg :: l, d, r => by simp only [balLoop, List.length_cons]; have := balLoop_len l d r; omega
  | .col c :: l, d, r => by simp only [balLoop, List.length_cons]; have := balLoop_len l d r; omega
  | .op c :: l, d, r => by simp only [balLoop, List.length_cons]; have := balLoop_len l d r; omega
  | .term c :: l, d, r => by simp only [balLoop, List.length_cons]; have := balLoop_len l d r; omega
section
variable {P : Params} {X : Cx} (hK : X.K = KK P) (NX : Names X) (hB : BuiltinsOk X) (hW : X.w.params = P) {PT : Addr} (hG : GenCode X 120 PT) {n : Nat} {env : Env} {m : Loc} {H : List Cell} {i j : Nat} {x : List Nat} {cs : List (List Nat)}
  {Q : V → Loc → List Cell → Prop} {N B K : Loc → List Cell → Prop} {R : V → Loc → List Cell → Prop} {split : List Nat → List (List Nat)} {esc : List Nat → List Nat}
set_option maxHeartbeats 4000000
/-- what _scan gives, of an instance that has its columns alone -/
def ScanOk (X : Cx) (n : Nat) (x : List Nat) (cs : List (List Nat)) (toks : List Tk) : Prop :=
  ∀ {env m H i j k Q}, IsInst H i j 131 [("columns", .loc k)] → H[k]? = some (.set cs) → (∀ H' k', (∀ y, y < H.length → H'[y]? = H[y]?) → H.length ≤ H'.length → H.length ≤ k' → H'[k']? = some (.list (toks.map tkV)) → Q (.loc k') m H') → CN X n env m H (.ref 66) [.loc i, .str x] Q
include hK NX
theorem init_ok {toks : List Tk} (hcs : cs.length + 1 < scanBound) (S : ScanOk X n x cs toks) (hs : toks.length ≤ 100000 ∧ ∀ c, Tk.col c ∈ toks → c.length ≤ 100000) (I : IsInst H i j 131 []) (hij : i ≠ j)
    (q : ∀ H' k k', (∀ y, y < H.length → y ≠ j → H'[y]? = H[y]?) → H.length ≤ H'.length → PS H' i j k' (.loc k) toks 0 → Q .none m H') : CN X (n + 1) env m H (.ref 61) [.loc i, .str x, .tup (cs.map V.str)] Q := by
  refine cn_call (names := ["self", "query", "columns"]) (ws := []) (ds := []) (by rw [hK]; rfl) (by rw [hK]; rfl) rfl rfl rfl rfl (by decide +kernel) rfl (fun s cvs hin hl => ?_) (fun _ _ => by unfold DenL; rfl) ?_
  · obtain ⟨c, d, e, rfl⟩ : ∃ c d e, cvs = [c, d, e] := by
      match cvs, hl with
      | [c, d, e], _ => exact ⟨c, d, e, rfl⟩
    exact BindsTo.of_eq rfl
  · intro env' hsc hcode
    obtain ⟨sc, lo', gl, ce, qu, fu, co, fr, bi⟩ := env'
    simp only at hsc hcode
    subst hsc hcode
    have hil : i < H.length := (List.getElem?_eq_some_iff.mp I.inst).1
    have hjl : j < H.length := (List.getElem?_eq_some_iff.mp I.dict).1
    show TS X n _ [("self", some (.loc i)), ("query", some (.str x)), ("columns", some (.tup (cs.map V.str)))] H (execs _ _) _ _ _ _
    have I1 : IsInst (H ++ [Cell.set cs]) i j 131 [] := ⟨by rw [List.getElem?_append_left hil]; exact I.inst, by rw [List.getElem?_append_left hjl]; exact I.dict⟩
    refine ts_cons (ts_Assign_Attr (tri_CallN (f := .type "set") rfl (.inr NX.set) kn_type (tx_cons (tri_Name (.there (.there .here)) (tx_nil (set_tup hcs (tri_Name .here (set_field I1 (clsOk hK) (by rw [hK]; rfl) .new (by decide) (.inr (by simp)) ?_))))))))
    have hset : ∀ {h : List Cell} {c : Cell}, j < h.length → (h.set j c)[j]? = some c := fun hl => by rw [List.getElem?_set_self hl]
    have I2 : IsInst ((H ++ [Cell.set cs]).set j (.dict [("columns", .loc H.length)])) i j 131 [("columns", .loc H.length)] := ⟨by rw [List.getElem?_set_ne (Ne.symm hij)]; exact I1.inst, hset (by simp; omega)⟩
    refine ts_cons (ts_Assign_Attr (e_meth hK NX rfl rfl rfl .here I2 (show ("_scan" : Str) ∉ (["columns"] : List Str) by decide) (tx_cons (tri_Name (.there .here) (tx_nil (S I2 (by rw [List.getElem?_set_ne (by omega)]; simp) fun H3 k' h1 h2 h3 h4 => tri_Name .here ?_)))) rfl rfl))
    have l2 : ((H ++ [Cell.set cs]).set j (.dict [("columns", .loc H.length)])).length = H.length + 1 := by simp
    have I3 : IsInst H3 i j 131 [("columns", .loc H.length)] := ⟨by rw [h1 i (by omega)]; exact I2.inst, by rw [h1 j (by omega)]; exact I2.dict⟩
    refine set_field I3 (clsOk hK) (by rw [hK]; rfl) (.there (by decide) .new) (by simp) (.inr (by simp; decide)) ?_
    have I4 : IsInst (H3.set j (.dict [("columns", .loc H.length), ("tokens", .loc k')])) i j 131 [("columns", .loc H.length), ("tokens", .loc k')] := ⟨by rw [List.getElem?_set_ne (Ne.symm hij)]; exact I3.inst, hset (by omega)⟩
    refine ts_cons (ts_Assign_Attr (tri_int (tri_Name .here (set_field I4 (clsOk hK) (by rw [hK]; rfl) (.there (by decide) (.there (by decide) .new)) (by simp) (.inr (by simp; decide)) ?_))))
    rw [List.set_set]
    refine ts_nil (q _ H.length k' (fun y hy hyj => ?_) (by simp; omega) ⟨⟨?_, hset (by omega)⟩, ?_, hs⟩)
    · rw [List.getElem?_set_ne (Ne.symm hyj), h1 y (by omega), List.getElem?_set_ne (Ne.symm hyj), List.getElem?_append_left hy]
    · rw [List.getElem?_set_ne (Ne.symm hij)]; exact I3.inst
    · rw [List.getElem?_set_ne (by omega)]; exact h4

include hB hG
/-- parse(text) by what its signs give -/
theorem parse_tup {D e : Nat} {toks : List Tk} {v : V} {vs ws : List V} {ds : List Value} (hcase : (vs = [.str x, .tup (cs.map V.str)] ∧ ws = [] ∧ ds = [] ∧ v = .tup (cs.map V.str)) ∨ (vs = [.str x] ∧ ws = [.none] ∧ ds = [Value.none] ∧ v = .none ∧ cs = []))
    (hcs : cs.length + 1 < scanBound) (S : ScanOk X (n + 4 * e + 2 * D) x cs toks) (hs : toks.length ≤ 100000 ∧ ∀ c, Tk.col c ∈ toks → c.length ≤ 100000) (he : opens toks + 1 ≤ e) (hd : ∀ nd, treeOf toks = some nd → dep nd ≤ D ∧ (renderN true nd).length ≤ 900000)
    (q : ∀ H', (∀ y, y < H.length → H'[y]? = H[y]?) → H.length ≤ H'.length → Q (.str (transl toks)) m H') : CN X (n + 4 * e + 2 * D + 4) env m H (.ref 143) vs Q := by
  refine cn_call (names := ["query", "columns"]) (ws := ws) (ds := ds) (by rw [hK]; rfl) (by rw [hK]; rfl) rfl rfl rfl rfl (by decide +kernel) ?_ (fun s cvs hin hl => ?_) (fun _ _ => ?_) ?_
  · rcases hcase with ⟨rfl, rfl, _⟩ | ⟨rfl, rfl, _⟩ <;> rfl
  · rcases hcase with ⟨rfl, rfl, rfl, _⟩ | ⟨rfl, rfl, rfl, _⟩
    · obtain ⟨c, c2, rfl⟩ : ∃ c c2, cvs = [c, c2] := by
        match cvs, hl with
        | [c, c2], _ => exact ⟨c, c2, rfl⟩
      exact binds_K hin rfl (by rw [hK]; rfl) rfl rfl rfl
    · obtain ⟨c, rfl⟩ : ∃ c, cvs = [c] := by
        match cvs, hl with
        | [c], _ => exact ⟨c, rfl⟩
      exact binds_K hin rfl (by rw [hK]; rfl) rfl rfl rfl
  · rcases hcase with ⟨_, rfl, rfl, _⟩ | ⟨_, rfl, rfl, _⟩
    · unfold DenL; rfl
    · unfold DenL; exact ⟨_, _, rfl, den_none.mpr rfl, by unfold DenL; rfl⟩
  · intro env' hsc hcode
    have hvw : vs ++ ws = [.str x, v] := by rcases hcase with ⟨rfl, rfl, _, rfl⟩ | ⟨rfl, rfl, _, rfl, _⟩ <;> rfl
    rw [hvw]
    obtain ⟨sc, lo', gl, ce, qu, fu, co, fr, bi⟩ := env'
    simp only at hsc hcode
    subst hsc hcode
    show TS X (n + 4 * e + 2 * D + 3) _ [("query", some (.str x)), ("columns", some v)] H (execs _ _) _ _ _ _
    have hcols : ∀ {QQ : V → Loc → List Cell → Prop} {ee : Env} {a1 a2 a3 : Pos} {mm : Loc}, LkL mm "columns" v → QQ (.tup (cs.map V.str)) mm H → TE X (n + 4 * e + 2 * D + 3) ee mm H (eval (.BoolOp .Or [.Name "columns" a1, .Tuple [] 0 a2] a3) ee) QQ := fun hl qq => by
      refine tri_BoolOp (tbo_or (tri_Name hl ?_))
      rcases hcase with ⟨_, _, _, rfl⟩ | ⟨_, _, _, rfl, rfl⟩
      · refine tr_t (br_c (fun h => qq) (fun h => ?_))
        have h := of_decide_eq_false h
        have hc : cs = [] := by simpa using h
        subst hc
        exact tbo_one (tri_Tuple (tx_nil ⟨by show 0 ≤ sizeLine; decide, qq⟩))
      · exact tr_n (br_f (tbo_one (tri_Tuple (tx_nil ⟨by show 0 ≤ sizeLine; decide, qq⟩))))
    refine ts_cons (ts_Return (tri_CallM (tri_CallN (f := .ref 131) rfl (.inl NX.parser) (hfun hK NX rfl) (tx_cons (tri_Name .here (tx_cons (hcols (.there .here) (tx_nil ?_))))))))
    refine tn_of_cn (cn_make (by rw [hK]; rfl) (by rw [hK]; rfl) (by rw [hK]; rfl) ?_)
    refine init_ok (i := H.length + 1) (j := H.length) hK NX hcs S hs ⟨by rw [List.getElem?_append_right (by simp)]; simp, by rw [List.append_assoc, List.getElem?_append_right (by simp)]; simp⟩ (by omega) fun H' k k' h1 h2 PSS => ⟨rfl, ?_⟩
    refine tm_method PSS.inst (clsOk hK) (by rw [hK]; rfl) (by rw [hK]; rfl) (show ("translate" : Str) ∉ (["columns", "tokens", "pos"] : List Str) by decide) ⟨hfun hK NX rfl, tx_nil (tn_of_cn ?_)⟩
    refine translate_ok hK NX hB hG he PSS hd fun H3 h3 h4 => ?_
    simp only [List.length_append, List.length_cons, List.length_nil] at h1 h2
    refine q H3 (fun y hy => ?_) (by omega)
    rw [h3 y (by omega) (by omega), h1 y (by omega) (by omega), List.append_assoc, List.getElem?_append_left hy]
end
end Mine
end
section
open PySem PySem.W PyProof.Rows PySem.Calls
set_option Elab.async false
set_option maxRecDepth 100000
set_option linter.unusedVariables false
namespace Mine
section
variable {X : Cx} {n : Nat} {H : List Cell}
/-- the law's own call -/
theorem cn_enter {f : Addr} {oc : Value} {od : Option Addr} {osl : Array (Option Value)} {fd : FuncData} {body : List Stmt} {names : List Str} {vs ws : List V} {ds : List Value} {Q : V → List Cell → Prop}
    (hK : X.K.lookup f = some ⟨oc, od, .func fd, osl⟩) (hcd : codeIn X.K fd.code fd.qualname = true) (hbody : fd.body = .stmts body) (hclo : fd.closure = []) (hg : fd.globals = mainGlobals) (hb : fd.builtins = builtinsNs)
    (hsc : okScope fd.scope names = true) (hlen : vs.length + ws.length = names.length) (hbind : ∀ (s : Shared) cvs, X.K.In s.heap → cvs.length = vs.length → BindsTo s fd ⟨cvs, []⟩ (names.zip (cvs ++ ds)))
    (hds : ∀ η h, DenL X η h ws ds)
    (h : ∀ env', env'.scope = fd.scope → env'.code = fd.code → TS X n env' (initL fd.scope.names (vs ++ ws)) H (execs body env') (fun _ H => Q .none H) (fun _ _ => False) (fun _ _ => False) (fun v _ H => Q v H)) :
    ∀ (cvs : List Value) (A : Around) (η : List Addr) (s : Shared) (C : Value → Shared → Prop), Room A (n + 1) → Rel X η H s.heap → DenL X η s.heap vs cvs →
    (∀ b H' a η' s', Q b H' → Den X η' s'.heap b a → Rel X η' H' s'.heap → s.gens.size ≤ s'.gens.size → (∀ (i : Nat) y, s.gens[i]? = some y → s'.gens[i]? = some y) → (∀ (i : Nat) y, s.gens.size ≤ i → s'.gens[i]? = some y → y.bare = true) → s'.os = s.os → C a s') →
    codeAny (model X.prog X.w) A (.call (.ref f) ⟨cvs, []⟩) (fun r s' => match r with | .ok (.ret v) => C v s' | _ => False) s := by
  intro cvs A η s C Ro re d k
  simp only [okScope, Bool.and_eq_true, beq_iff_eq, decide_eq_true_eq, Bool.not_eq_true'] at hsc
  obtain ⟨⟨⟨⟨⟨hk, hco⟩, hgen⟩, hnd⟩, hnames⟩, hall⟩ := hsc
  have hcl := denL_length d
  have hdl : ds.length = ws.length := denL_length (hds η s.heap)
  have hall' : ∀ x ∈ fd.scope.names, x.1 ≠ "__debug__" ∧ x.1 ≠ "__classdict__" := fun x hx => by
    have := List.all_eq_true.mp hall x hx
    simpa using this
  have dall : DenL X η s.heap (vs ++ ws) (cvs ++ ds) := denL_append d (hds _ _)
  have hln : (cvs ++ ds).length = names.length := by rw [List.length_append, hcl, hdl, hlen]
  have hzn : (names.zip (cvs ++ ds)).map (·.1) = names := List.map_fst_zip (by rw [hln]; exact Nat.le_refl _)
  have hsub : ∀ x ∈ names, (x, NameKind.local) ∈ fd.scope.names ∨ (x, NameKind.cell) ∈ fd.scope.names := fun x hx => by
    rw [← hnames] at hx
    obtain ⟨p, hp, rfl⟩ := List.mem_map.mp (List.mem_of_mem_take hx)
    obtain ⟨hp, hl⟩ := List.mem_filter.mp hp
    obtain ⟨x, kd⟩ := p
    cases kd <;> first | exact .inl hp | exact .inr hp | (simp [isLC] at hl)
  have hnn : names.Nodup := by
    rw [← hnames]
    refine List.Nodup.sublist (List.take_sublist _ _) (List.Nodup.sublist ?_ hnd)
    exact List.Sublist.map _ List.filter_sublist
  have lk : ∀ {x kd}, (x, kd) ∈ fd.scope.names → fd.scope.names.lookup x = some kd := fun hx => lookup_of_mem hnd hx
  refine codeAny_call_function (A := A) (by have := Ro.depth; omega) (re.kin _ _ hK) rfl hco hgen hbody (codeRec_of re.kin hcd) ?_
  refine hbind s cvs re.kin hcl _ _ _ _ ?_
  rw [hclo, hg, hb]
  refine wpAny_newFunctionEnv_cells hk (fun x hx => ?_) fun env' he s₁ ic => ?_
  · have hx1 : x.1 ∈ names := by rw [← hzn]; exact List.mem_map.mpr ⟨x, hx, rfl⟩
    rcases hsub _ hx1 with q | q
    · exact .inl (lk q)
    · exact .inr ⟨lk q, cellsFrom_some _ _ _ (.inl (lk q))⟩
  · have hsc' : env'.scope = fd.scope := by rw [he]; rfl
    have hLL : env'.locals = s.heap.objs.size := by rw [he]; rfl
    have hcells : env'.cells = cellsFrom (s.heap.objs.size + 1) fd.scope.names [] := by rw [he]; rfl
    have kof : ∀ x, env'.kindOf x = fd.scope.names.lookup x := fun x => by show env'.scope.names.lookup x = _; rw [hsc']
    have kp : ∀ b o, s.heap.get? b = some o → s₁.heap.get? b = some o := ic.toInCall.keep
    obtain ⟨h₁, tk, hs₁⟩ := ic.toInCall.same
    refine ⟨re.nolimit.keeps kp, codeAny_func (wpAny_noErr ?_)⟩
    have re1 : Rel X η H s₁.heap := re.ext kp
    have cnd : (env'.cells.map (·.1)).Nodup := by rw [hcells]; exact cellsFrom_nd _ _ _ hnd List.nodup_nil (fun _ _ q => by cases q)
    have cabove : ∀ p ∈ env'.cells, s.heap.objs.size < p.2 := fun p hp => hLL ▸ ic.above p.1 p.2 hp
    have none0 : ∀ a, s.heap.objs.size ≤ a → s.heap.get? a = none := fun a ha => by
      cases q : s.heap.get? a with
      | none => rfl
      | some o => exact absurd (Heap.lt_size q) (Nat.not_lt.mpr ha)
    have old0 : ∀ a, s.heap.objs.size ≤ a → X.h₀.get? a = none := fun a ha => by
      cases q : X.h₀.get? a with
      | none => rfl
      | some o =>
        by_cases ht : a ∈ X.T
        · obtain ⟨_, _, _, z⟩ := re.tab a ht; rw [none0 a ha] at z; cases z
        · have := re.low a o q ht; rw [none0 a ha] at this; cases this
    have noη : ∀ a, s.heap.objs.size ≤ a → a ∉ η := fun a ha hm => by
      obtain ⟨_, _, o, _, _, z, _⟩ := re.at_η hm
      rw [none0 a ha] at z; cases z
    have K1 : Keeps' X η s.heap η s₁.heap := .ofExt kp
    have e1 : EnvOk X env' η (initL fd.scope.names (vs ++ ws)) s₁.heap := by
      refine ⟨by rw [hsc']; exact hk, by rw [he]; rfl, by rw [he]; rfl, fun x ov hx => ?_, ⟨_, ic.toInCall.ns, fun x v hx hl => ?_⟩, fun x v c hx hl hc => ?_, fun p hp => ?_, by rw [hLL]; exact old0 _ (Nat.le_refl _), by rw [hLL]; exact noη _ (Nat.le_refl _), fun p hp => ?_, fun p hp q hq hpq => ?_, initL_nd hnd⟩
      · rcases initL_mem hx with q | q
        · exact ⟨(hall' _ q).1, (hall' _ q).2, .inl (by rw [kof]; exact lk q)⟩
        · refine ⟨(hall' _ q).1, (hall' _ q).2, .inr ⟨.inl (by rw [kof]; exact lk q), ?_⟩⟩
          rw [hcells]
          exact Option.isSome_iff_exists.mp (cellsFrom_some _ _ _ (.inl (lk q)))
      · obtain ⟨cv, hm, dv⟩ := denL_zip dall (initL_some hnames (by rw [List.length_append, hlen]) hx)
        exact ⟨cv, bindL_get (by rw [hzn]; exact hnn) hm hl, Den.keeps K1 v dv⟩
      · obtain ⟨cv, hm, dv⟩ := denL_zip dall (initL_some hnames (by rw [List.length_append, hlen]) hx)
        refine ⟨cv, ?_, Den.keeps K1 v dv⟩
        have := ic.cell x c hc
        rw [bindC_get (by rw [hzn]; exact hnn) hm hl] at this
        exact this
      · exact ⟨_, ic.cell p.1 p.2 (lookup_of_mem cnd hp)⟩
      · have := cabove p hp
        exact ⟨old0 _ (Nat.le_of_lt this), noη _ (Nat.le_of_lt this), by rw [hLL]; exact Nat.ne_of_gt this⟩
      · exact name_of_addr ic.apart hp (by rw [hpq]; exact hq)
    have Ro' : Room (A.deeper env') n := ⟨Ro.handled, by have := Ro.depth; show A.depth + 1 + n < _; omega, by have := Ro.units; show A.units + 3 + 8 * n + 16 < _; omega⟩
    refine h env' hsc' (by rw [he]; rfl) (A.deeper env') η s₁ _ _ Ro' re1 e1 trivial fun b m' H' a η' s' q d' r' e' a' => ?_
    have g1 : s.gens.size ≤ s'.gens.size := by have := a'.gsz; rw [hs₁] at this; exact this
    have g2 : ∀ (i : Nat) y, s.gens[i]? = some y → s'.gens[i]? = some y := by have := a'.gen; rw [hs₁] at this; exact this
    have g3 : ∀ (i : Nat) y, s.gens.size ≤ i → s'.gens[i]? = some y → y.bare = true := by have := a'.bare; rw [hs₁] at this; exact this
    have g4 : s'.os = s.os := by have := a'.os; rw [hs₁] at this; exact this
    cases b with
    | next => unfold DenF at d'; subst d'; exact k .none H' .none η' s' q (by unfold Den; rfl) r' g1 g2 g3 g4
    | brk => exact False.elim q
    | cont => exact False.elim q
    | ret v => unfold DenF at d'; obtain ⟨cv, rfl, dv⟩ := d'; exact k v H' cv η' s' q dv r' g1 g2 g3 g4
end

/-- what stands below the law -/
noncomputable def cxOf {p : Program} {loose : List Str} {mean : ExcName → Option Value} {mg mb : Str → Option Value} {h : Heap} (prog : Program) (w : World) (T : Top p loose mean mg mb h) (KX : (KK w.params).In h) : Cx where
  prog := prog
  w := w
  h₀ := h
  T := [63, 116]
  mg := mg
  mb := mb
  K := KK w.params
  kin := KX
  kT := fun a o e q => by
    rcases List.mem_cons.mp q with rfl | q
    · cases (show (none : Option Obj) = some o from e)
    · rcases List.mem_cons.mp q with rfl | q
      · cases (show (none : Option Obj) = some o from e)
      · cases q
  g := T.g
  gT := by decide
  b := T.b
  bT := by decide
  nolimit := T.nolimit
  sT := by decide
section
variable {p : Program} {loose : List Str} {mean : ExcName → Option Value} {mg mb : Str → Option Value} {h : Heap} {prog : Program} {w : World} (T : Top p loose mean mg mb h) (KX : (KK w.params).In h)
theorem names_of : Names (cxOf prog w T KX) where
  len := ⟨mg_none_of KX T.g (by kernel_rfl), by show mb _ = _; rw [T.builtins _ (by decide)]; kernel_rfl⟩
  all := ⟨mg_none_of KX T.g (by kernel_rfl), by show mb _ = _; rw [T.builtins _ (by decide)]; kernel_rfl⟩
  set := ⟨mg_none_of KX T.g (by kernel_rfl), by show mb _ = _; rw [T.builtins _ (by decide)]; kernel_rfl⟩
  col := mg_of KX T.g (by kernel_rfl)
  term := mg_of KX T.g (by kernel_rfl)
  word := mg_of KX T.g (by kernel_rfl)
  ops := mg_of KX T.g (by kernel_rfl)
  deep := by
    obtain ⟨t, e⟩ : ∃ t, nsIn (KK w.params) mainGlobals "MAX_DEPTH" = some (some (.int 32 t)) := ⟨_, rfl⟩
    exact ⟨t, mg_of KX T.g e⟩
  parser := mg_of KX T.g (by kernel_rfl)
theorem builtins_of (h63 : h.get? 63 = some (tabObj #[])) (h116 : h.get? 116 = some (tabObj #[])) : BuiltinsOk (cxOf prog w T KX) where
  is := by
    obtain ⟨bm, ob, a, b, c, d, e, f⟩ := T.bmain
    refine ⟨bm, ob, a, b, fun q => ?_, c, d, e, f⟩
    rcases List.mem_cons.mp q with rfl | q
    · rw [c] at h63; cases h63; cases d
    · rcases List.mem_cons.mp q with rfl | q
      · rw [c] at h116; cases h116; cases d
      · cases q
theorem gen_render : GenCode (cxOf prog w T KX) 120 116 := ⟨⟨_, _, _, _, _, _, _, _, _, rfl, rfl, rfl, rfl, rfl, rfl, rfl⟩, by show 116 ∈ [63, 116]; decide⟩
theorem gen_scan : GenCode (cxOf prog w T KX) 65 63 := ⟨⟨_, _, _, _, _, _, _, _, _, rfl, rfl, rfl, rfl, rfl, rfl, rfl⟩, by show 63 ∈ [63, 116]; decide⟩
theorem rel_of (h63 : h.get? 63 = some (tabObj #[])) (h116 : h.get? 116 = some (tabObj #[])) : Rel (cxOf prog w T KX) [] [] h where
  low := fun b o e _ => e
  tab := fun b hb => by
    refine ⟨#[], #[], ?_, ?_⟩
    · rcases List.mem_cons.mp hb with rfl | q
      · exact ⟨h63, trivial⟩
      · rcases List.mem_cons.mp q with rfl | q
        · exact ⟨h116, trivial⟩
        · cases q
    · rcases List.mem_cons.mp hb with rfl | q
      · exact h63
      · rcases List.mem_cons.mp q with rfl | q
        · exact h116
        · cases q
  len := rfl
  nd := List.nodup_nil
  hi := fun a ha => by cases ha
  cells := fun i c e => by simp at e
/-- what the statement asks of the heap at the end -/
theorem oldK_of {η : List Addr} {H : List Cell} {h' : Heap} (r : Rel (cxOf prog w T KX) η H h') : OldK h h' where
  old := fun b o e => by
    by_cases hb : b ∈ [63, 116]
    · obtain ⟨ps, more, ⟨e1, _⟩, e2⟩ := r.tab b hb
      have e1 : h.get? b = some (PySem.W.X.tableObj ps) := e1
      rw [e] at e1
      cases e1
      refine .inr (.inl ⟨?_, rfl, ps, more, rfl, e2⟩)
      rcases List.mem_cons.mp hb with rfl | q
      · exact ⟨65, _, _, KX 65 _ rfl, rfl, rfl, rfl⟩
      · rcases List.mem_cons.mp q with rfl | q
        · exact ⟨120, _, _, KX 120 _ rfl, rfl, rfl, rfl⟩
        · cases q
    · exact .inl (r.low b o e hb)
  there := fun b o e => by
    by_cases hb : b ∈ [63, 116]
    · obtain ⟨ps, more, _, e2⟩ := r.tab b hb
      exact ⟨_, e2⟩
    · exact ⟨o, r.low b o e hb⟩
end
end Mine
end
section
open PySem PySem.W PyProof.Rows PySem.Calls
set_option Elab.async false
set_option maxRecDepth 100000
set_option linter.unusedVariables false
namespace Mine
section
variable {X : Cx} {n : Nat} {env : Env} {m : Loc} {H : List Cell} {Q : V → Loc → List Cell → Prop}

theorem ints_den {X : Cx} {η h} {vs : List Value} {xs : List Int} (h1 : IntsAre vs xs) : DenL X η h (xs.map V.int) vs := by
  induction h1 with
  | nil => unfold DenL; rfl
  | cons n t _ ih => rw [List.map_cons]; unfold DenL; exact ⟨_, _, rfl, den_int.mpr ⟨t, rfl⟩, ih⟩
/-- the script cut -/
theorem t2_cut_fl {value slice : Expr} {xs : List Int} {lo hi : Option Int} (hz : xs.length ≤ sizeLine) (q : Q (.loc H.length) m (H ++ [.list ((cutL xs lo hi).map V.int)])) : T2 X n env m H (subscriptTail value slice) (.fl xs) (.slc lo hi) Q := by
  intro a b A η s C E Ro re ev ⟨da, db⟩ kk
  unfold Den at da
  obtain ⟨a, vs, rfl, ⟨o₀, ho₀, rL⟩, hT, hI⟩ := da
  have hL : s.heap.IsList a vs.toArray := ⟨o₀, re.low _ _ ho₀ hT, rL⟩
  have dL : DenL X η s.heap (xs.map V.int) vs := ints_den hI
  unfold Den at db
  obtain ⟨b, p1, p2, rfl, ⟨o, ho, hc, hd⟩, h1, h2⟩ := db
  have hlen := denL_length dL
  obtain ⟨ops, hsub⟩ := subscripted_is slice (.ref a) (.ref b)
  have ip : ∀ p : Option (Int × Tok), IsPart (partValue p) (p.map (·.1)) := fun p => by
    cases p with
    | none => exact .none
    | some q => exact .int q.1 q.2
  refine tail_any hL.typeIs slot_list_getitem.lookup (wpAny_getItem_list_slice hL ⟨o, ho, hc, hd⟩ (ip p1) (ip p2) (ip none) (by intro e; cases e) ?_ (by simp [hlen]; simpa using hz)) hsub
  have pick : slicePick vs.toArray (p1.map (·.1)) (p2.map (·.1)) none = (cutL vs lo hi).toArray := by
    unfold slicePick sliceBounds
    rw [h1, h2]
    congr 1
    rw [← pick_cut]
    simp only [List.size_toArray, List.getElem?_toArray]
    congr 1
    rw [← sliceRange_one]
    show sliceRange _ _ 1 = _
    congr 1
    · exact clip_eq lo 0 vs.length
    · exact clip_eq hi vs.length vs.length
  rw [show (Option.map (fun x : Int × Tok => x.1) none) = none from rfl, pick]
  have hcut : (cutL xs lo hi).map V.int = cutL (xs.map V.int) lo hi := by unfold cutL; simp [List.map_drop, List.map_take]
  rw [hcut] at q
  exact new_list (tk := s.toks) re ev (denL_cut lo hi dL) (Nat.le_trans (cutL_le ..) (by simpa using hz)) q kk

/-- a text some times -/
theorem mul_s {x : List Nat} {b : Bool} (q : Q (.str (if b then x else [])) m H) : T2 X n env m H (binaryOp .Mult) (.str x) (.int (if b then 1 else 0)) Q :=
  T2.quiet (w := .str (if b then x else [])) (fun A s C E η a c _ _ da db k => by
    obtain ⟨t, rfl⟩ := den_str'.mp da
    obtain ⟨u, rfl⟩ := den_int.mp db
    refine SB.mul ?_ fun t' tk => ?_
    · refine ⟨?_, fun h h' => ?_, fun h h' => ?_⟩
      · cases b <;> decide
      · cases b
        · exact absurd (by decide) h
        · simp at h'
      · cases b
        · exact absurd (by decide) h
        · simp at h'
    · refine k _ tk (den_str'.mpr ⟨t', ?_⟩)
      cases b <;> rfl) q

/-- isinstance(e, str) -/
theorem tri_isi {e : Expr} {p1 p2 pos : Pos} (hx1 : env.kindOf "isinstance" = some .globalImplicit) (hv1 : X.mg "isinstance" = none ∧ X.mb "isinstance" = some (.builtin "isinstance")) (hx2 : env.kindOf "str" = some .globalImplicit) (hv2 : X.mg "str" = none ∧ X.mb "str" = some (.type "str"))
    (hs : backTo pos (starEach [e, .Name "str" p2] env) = [(false, eval e env), (false, eval (.Name "str" p2) env)])
    (h : TE X n env m H (eval e env) fun v m H => (∃ x, v = .str x ∧ Q (.bool true) m H) ∨ ∃ i xs, v = .loc i ∧ H[i]? = some (.list xs) ∧ Q (.bool false) m H) : TE X n env m H (eval (.Call (.Name "isinstance" p1) [e, .Name "str" p2] [] pos) env) Q := by
  intro A η s C E Ro re ev _ k
  have ar : eval (.Call (.Name "isinstance" p1) [e, .Name "str" p2] [] pos) env = (do callWith pos (← eval (.Name "isinstance" p1) env) [] (backTo pos (starEach [e, .Name "str" p2] env)) []) := rfl
  rw [ar]
  refine wpAny_bind (loadGlob re ev hx1 (.inr hv1) (by decide) ?_)
  refine callWith_of (P := fun h => X.K.In h) (by rw [hs]; rfl) (kn_builtin _) (evalArgs_any (by rw [hs]; rfl) ?_)
  rw [hs]
  refine spliced_cons (h A η s _ E Ro re ev trivial fun v m1 H1 a η1 s1 q1 d1 r1 e1 a1 => ?_)
  refine spliced_cons (loadGlob r1 e1 hx2 (.inr hv2) (by decide) ?_)
  refine wpAny_pure ⟨r1.kin, ?_⟩
  show wpAny _ A (call (.builtin "isinstance") [a, .type "str"]) C E s1
  rcases q1 with ⟨x, rfl, q⟩ | ⟨i, xs, rfl, hi, q⟩
  · obtain ⟨t, rfl⟩ := den_str'.mp d1
    exact PySem.IsiPair.str_str (k (.bool true) m1 H1 _ η1 s1 q (den_bool.mpr rfl) r1 e1 a1)
  · obtain ⟨ad, rfl, ea⟩ := den_loc.mp d1
    obtain ⟨vs, kk, ho, _⟩ := r1.listO hi ea
    exact PySem.IsiPair.list_str ho rfl (k (.bool false) m1 H1 _ η1 { s1 with toks := s1.toks + 1 } q (den_bool.mpr rfl) r1 e1 (a1.trans (Adv.ofExt fun _ _ z => z)))

/-- a value as data, lists and all -/
def RD (X : Cx) (H : List Cell) (v : V) (d : PyData) : Prop := ∀ η h cv, Rel X η H h → Den X η h v cv → ∃ as, Reads h cv d as
theorem rd_of {v : V} {d : PyData} (hd : toPy v = some d) : RD X H v d := fun η h cv _ dn => den_reads v hd dn
theorem rd_list {i : Nat} {xs : List V} {ds : List PyData} (hi : H[i]? = some (.list xs)) (hl : xs.length = ds.length) (h : ∀ (k : Nat) v d, xs[k]? = some v → ds[k]? = some d → RD X H v d) : RD X H (.loc i) (.list ds) := fun η hh cv re dn => by
  obtain ⟨a, rfl, ea⟩ := den_loc.mp dn
  obtain ⟨vs, k, ho, dL, _⟩ := re.listO hi ea
  have key : ∀ (xs : List V) (ds : List PyData) (vs : List Value), xs.length = ds.length → (∀ (k : Nat) v d, xs[k]? = some v → ds[k]? = some d → RD X H v d) → DenL X η hh xs vs → ∃ as, ReadsAll hh vs ds as := by
    intro xs
    induction xs with
    | nil =>
      intro ds vs hl _ dl
      cases ds with
      | nil => unfold DenL at dl; subst dl; exact ⟨_, .nil⟩
      | cons _ _ => cases hl
    | cons x xs ih =>
      intro ds vs hl hr dl
      cases ds with
      | nil => cases hl
      | cons d ds =>
        unfold DenL at dl
        obtain ⟨v, vs', rfl, d1, d2⟩ := dl
        obtain ⟨as, r1⟩ := hr 0 x d rfl rfl η hh v re d1
        obtain ⟨bs, r2⟩ := ih ds vs' (by simpa using hl) (fun k v d h1 h2 => hr (k + 1) v d h1 h2) d2
        exact ⟨_, .cons r1 r2⟩
  obtain ⟨as, r⟩ := key xs ds vs hl h dL
  exact ⟨_, .list ho rfl rfl (by simpa using r)⟩
theorem eq_rd {v u : V} {d f : PyData} (hd : RD X H v d) (hf : RD X H u f) (h1 : d.canLay0 = true) (h2 : f.canLay0 = true) (h3 : min d.depth f.depth ≤ 8) (q : Q (.bool (PyData.eqv d f)) m H) : T2 X n env m H (compareOp .Eq) v u Q :=
  T2.quiet (w := .bool (PyData.eqv d f)) (fun A s C E η a b Ro re da db k => by
    obtain ⟨as, ra⟩ := hd η s.heap a re da
    obtain ⟨bs, rb⟩ := hf η s.heap b re db
    exact cmp_ofEq (SeqAt.rcAt_reads ra rb h1 h2 (by have := Ro.units; omega) X.prog X.w E C (k _ s.toks (den_bool.mpr rfl)))) q
end
end Mine
end
section
open PySem PySem.W PyProof.Rows PySem.Calls
set_option Elab.async false
set_option maxRecDepth 100000
set_option linter.unusedVariables false
namespace Mine
/-- a comprehension that turns one item into one -/
theorem tc_map {X : Cx} {n : Nat} {cenv : Env} {x : Str} {px pos : Pos} {scope : Scope} {elt iter : Expr} {acc : Nat} {fvl : Loc} {Q : Loc → List Cell → Prop} {I : Nat → List Cell → Prop} {S : Nat → Src} {val W : Nat → V} {N : Nat}
    (hfree : cenv.kindOf x ≠ some .free) (hN : N ≤ 100000) (hset : ∀ k H c, I k H → I k (H.set acc c)) (hnext : ∀ k < N, ∀ H, I k H → nextS H (S k) = some (some (val k, S (k + 1)))) (hend : ∀ H, I N H → nextS H (S N) = some none)
    (helt : ∀ k < N, ∀ H, I k H → acc < H.length → TE X n cenv ((x, some (val k)) :: fvl) H (eval elt cenv) fun y mi' H' => mi' = (x, some (val k)) :: fvl ∧ y = W k ∧ I (k + 1) H' ∧ H'[acc]? = H[acc]?)
    (q : ∀ w H, I N H → H[acc]? = some (.list ((List.range N).map W)) → Q ((x, w) :: fvl) H) :
    ∀ (j k : Nat), k + j = N → ∀ (w : Option V) (H : List Cell), I k H → H[acc]? = some (.list ((List.range k).map W)) → TC X n cenv ((x, w) :: fvl) H elt (.Name x px) iter [] scope pos (S k) acc Q := by
  intro j
  induction j with
  | zero =>
    intro k hk w H hI ha
    obtain rfl : k = N := by omega
    exact tc_turn (r := none) (hend H hI) (q w H hI ha)
  | succ j ih =>
    intro k hk w H hI ha
    refine tc_turn (r := some (val k, S (k + 1))) (hnext k (by omega) H hI) ?_
    refine ta_Name .here ?_ hfree
    refine tt_nil (br_t ?_)
    have hal := (List.getElem?_eq_some_iff.mp ha).1
    refine TriP.mono (helt k (by omega) H hI hal) fun y m' H' ⟨h1, h2, h3, h4⟩ => ?_
    subst h1 h2
    rw [ha] at h4
    have hal' := (List.getElem?_eq_some_iff.mp h4).1
    have hsl : sizeLine = 16777216 := rfl
    refine list_append h4 (by simp; omega) ?_
    refine ih (k + 1) (by omega) _ _ (hset _ _ _ h3) ?_
    rw [List.getElem?_set_self hal', List.range_succ, List.map_append]
    rfl

end Mine
end
section
open PySem PySem.W PyProof.Rows PySem.Calls
set_option Elab.async false
set_option maxRecDepth 100000
set_option linter.unusedVariables false
namespace Mine
section
variable {X : Cx} {A : Around} {E : Value → Shared → Prop} {s : Shared}

theorem set_loopL {it S t : Addr} {items : Array Value} {xs : List (List Nat)} (hlen : items.size = xs.length) (hv : ∀ (i : Nat) x, xs[i]? = some x → ∃ u, items[i]? = some (.str ⟨x.toArray⟩ u)) (hb : xs.length + 1 < scanBound) (hh : A.handled = none) (h1 : S ≠ it) (h2 : S ≠ t) (h3 : it ≠ t) {R : Result → Shared → Prop} :
    ∀ (k i : Nat) (s : Shared) (n : Nat), xs.length - i = k → i ≤ xs.length → n ≤ i → s.heap.IsListIter it t i → s.heap.IsList t items → s.heap.SetOf (skn X) S (inL (xs.take i)) n →
      (∀ h' tk n', n' ≤ xs.length → h'.SetOf (skn X) S (inL xs) n' → (∀ b o, b ≠ S → b ≠ it → s.heap.get? b = some o → h'.get? b = some o) → R (.ok (.ret .none)) { s with heap := h', toks := tk }) →
      codeAny (model X.prog X.w) A (.builtin "set.update.loop" ⟨[.ref S, .ref it], []⟩) R s := by
  intro k
  induction k with
  | zero =>
    intro i s n hk hi hn hit ht hS hR
    have hin : i = xs.length := by omega
    subst hin
    refine codeAny_builtin PyProof.Rows.F.entry_set_update_loop ?_
    rw [Around.under_plainId PyProof.Rows.F.plain_set_update_loop _]
    show wpAny _ A.in1 (pyNext (.ref it) >>= _) _ _ s
    refine wpAny_bind (wpAny_pyNext_list_end hh hit ht (Array.getElem?_eq_none (by omega)) fun h' hx => ?_)
    show wpAny _ A.in1 (ret Value.none) _ _ _
    refine wpAny_pure (hR h' s.toks n (by omega) ?_ fun b o _ hb e => hx b o hb e)
    rw [List.take_length] at hS
    obtain ⟨o, es, ep, tb, ho, rest⟩ := hS
    exact ⟨o, es, ep, tb, hx S o h1 ho, rest⟩
  | succ k ih =>
    intro i s n hk hi hn hit ht hS hR
    have hlt : i < xs.length := by omega
    obtain ⟨u, hu⟩ := hv i xs[i] (List.getElem?_eq_getElem hlt)
    refine codeAny_builtin PyProof.Rows.F.entry_set_update_loop ?_
    rw [Around.under_plainId PyProof.Rows.F.plain_set_update_loop _]
    show wpAny _ A.in1 (pyNext (.ref it) >>= _) _ _ s
    refine wpAny_bind (wpAny_pyNext_list_item hit ht hu fun h' hit' hsb => ?_)
    have hS' : h'.SetOf (skn X) S (inL (xs.take i)) n := by
      obtain ⟨o, es, ep, tb, ho, rest⟩ := hS
      exact ⟨o, es, ep, tb, hsb.extBut S o h1 ho, rest⟩
    have ht' : h'.IsList t items := by
      obtain ⟨o, ho, r⟩ := ht
      exact ⟨o, hsb.extBut t o (Ne.symm h3) ho, r⟩
    show wpAny _ A.in1 (holding [Value.str ⟨xs[i].toArray⟩ u] (setAdd S (.str ⟨xs[i].toArray⟩ u)) >>= _) _ _ _
    refine wpAny_bind (wpAny_holding ?_)
    unfold setAdd
    refine wpAny_holding ?_
    have hkey := strKind_is X.prog X.w ⟨xs[i].toArray⟩ u
    refine wpAny_bind ((skn X).pyHash (k := ⟨xs[i].toArray⟩) hkey ?_)
    refine wpAny_setAddHashed_of (knd := skn X) (s := { s with heap := h', toks := s.toks + 1 }) hkey rfl hS' (by omega) fun h'' hsb2 hS2 => ?_
    have hS3 : h''.SetOf (skn X) S (inL (xs.take (i + 1))) (if inL (xs.take i) ⟨xs[i].toArray⟩ then n else n + 1) := by
      refine SetOf_congr hS2 (fun k' => ?_) rfl
      unfold inL
      rw [List.take_add_one, List.getElem?_eq_getElem hlt]
      have e : decide (k' = (⟨xs[i].toArray⟩ : PySem.Str)) = (k'.cps.toList == xs[i]) := by
        rw [Bool.eq_iff_iff, decide_eq_true_iff, beq_iff_eq]
        constructor
        · rintro rfl; rfl
        · intro h; rw [← h]
      rw [e]
      have e2 : ∀ (l : List (List Nat)) (z y : List Nat), (l ++ [y]).contains z = (l.contains z || (z == y)) := by
        intro l z y
        rw [Bool.eq_iff_iff]; simp
      rw [show (some xs[i]).toList = [xs[i]] from rfl, e2]
    refine wpAny_pure ⟨plainId_quiet PyProof.Rows.F.plain_set_update_loop _, ih (i + 1) _ _ (by omega) hlt (by split <;> omega) ?_ ?_ hS3 fun h3' tk n' hn' hS' hx => ?_⟩
    · obtain ⟨o, ho, r⟩ := hit'
      exact ⟨o, hsb2.extBut it o (Ne.symm h1) ho, r⟩
    · obtain ⟨o, ho, r⟩ := ht'
      exact ⟨o, hsb2.extBut t o (Ne.symm h2) ho, r⟩
    · exact hR h3' tk n' hn' hS' fun b o hb1 hb2 e => hx b o hb1 hb2 (hsb2.extBut b o hb1 (hsb.extBut b o hb2 e))

set_option maxHeartbeats 3200000 in
theorem call_set_lst {l : Addr} {items : Array Value} {xs : List (List Nat)} {nl : Nat} {Q : Value → Shared → Prop}
    (hh : A.handled = none) (hol : s.heap.get? l = some { cls := .type "list", data := .seq items nl }) (hlen : items.size = xs.length) (hv : ∀ (i : Nat) x, xs[i]? = some x → ∃ u, items[i]? = some (.str ⟨x.toArray⟩ u)) (hb : xs.length + 1 < scanBound)
    (h : ∀ (h' : Heap) (tk n' : Nat), n' ≤ xs.length → h'.SetOf (skn X) s.heap.objs.size (inL xs) n' →
      (∀ b o, b < s.heap.objs.size → s.heap.get? b = some o → h'.get? b = some o) → Q (.ref s.heap.objs.size) { s with heap := h', toks := tk }) :
    wpAny (model X.prog X.w) A (call (.type "set") [.ref l]) Q E s := by
  obtain ⟨c, tl, hmro⟩ := F.called_set.mro
  have hmade := F.called_set.made
  have hsub := F.called_set.sub
  refine wpAny_call (codeAny_of_tree ?_)
  show wpAny _ _ (callAny (.type "set") _) _ _ _
  refine wpAny_pure ⟨Code.quiet_builtin _ (by decide +kernel), codeAny_builtin F.entry_type_call ?_⟩
  rw [Around.under_plain (weight_type_call_type "set" [.ref l] []) rfl]
  have h1 := F.called_set.notType
  have h2 := F.called_set.canCreate
  have hct := F.typeCall_set_1 (.ref l)
  repeat (any_goals (first | assumption | wp_step))

  refine codeAny_mono (code_set_new_1 (.ref l) (E := E) (Q₁ := fun obj s₁ => ∃ led : Bool, obj = .ref s.heap.objs.size ∧ s₁ = { s with heap := s.heap.push { cls := .type "set", dict := none, data := .set #[] 0 (.fresh 0 0 led) } }) fun led => ⟨led, rfl, rfl⟩) fun r s₁ hr => ?_
  cases r with
  | error e => exact hr
  | ok fl =>
    cases fl with
    | ret obj =>
      obtain ⟨led, rfl, rfl⟩ := hr
      have hS : (s.heap.push { cls := .type "set", dict := none, data := .set #[] 0 (.fresh 0 0 led) }).get? s.heap.objs.size = some { cls := .type "set", dict := none, data := .set #[] 0 (.fresh 0 0 led) } := Heap.get?_push_size _ rfl
      have hT : Shared.TypeIs { s with heap := s.heap.push { cls := .type "set", dict := none, data := .set #[] 0 (.fresh 0 0 led) } } (.ref s.heap.objs.size) "set" := ⟨_, hS, rfl⟩
      have hli := F.called_set.init.lookup
      have hbi := F.called_set.init.bind (.ref s.heap.objs.size)
      repeat (any_goals (first | assumption | wp_step))

      refine codeAny_mono (codeAny_call_builtin (R := wants (fun r s₂ => r = .none ∧ ∃ h' tk n', s₂ = { s with heap := h', toks := tk } ∧ n' ≤ xs.length ∧
          h'.SetOf (skn X) s.heap.objs.size (inL xs) n' ∧
          (∀ b o, b < s.heap.objs.size → s.heap.get? b = some o → h'.get? b = some o)) E) F.called_set.init.plain F.entry_set_init (check_set_init_1 hT ?_)) fun r₂ s₂ hr₂ => ?_
      · have hol' : (s.heap.push { cls := .type "set", dict := none, data := .set #[] 0 (.fresh 0 0 led) }).get? l = some { cls := .type "list", data := .seq items nl } := Heap.get?_push_of_some _ hol
        have hsls := PySem.F.sub_list_set
        have hslf := PySem.F.sub_list_frozenset
        have hne : (Value.type "list" == Value.type "dict") = false := by decide
        have hl1 : (s.heap.push { cls := .type "set", dict := none, data := .set #[] 0 (.fresh 0 0 led) }).IsList l items := ⟨_, hol', rfl, nl, rfl⟩
        unfold Builtin.«set.__init__» noKeywords Builtin.Frozenset.updateFrom
        generalize hPI : pyIter = PI
        wp_walk
        subst hPI

        refine wpAny_pyIter_list hl1 ?_
        refine wpAny_bind (wpAny_runValue ?_)
        have hlS : l < s.heap.objs.size := Heap.lt_size hol
        have hh3 : A.in1.in1.in1.handled = none := by simp [hh]
        have hneI : l ≠ (s.heap.push { cls := .type "set", dict := none, data := .set #[] 0 (.fresh 0 0 led) }).objs.size := by
          rw [Heap.size_push]; exact Nat.ne_of_lt (Nat.lt_succ_of_lt hlS)
        have hSI : s.heap.objs.size ≠ (s.heap.push { cls := .type "set", dict := none, data := .set #[] 0 (.fresh 0 0 led) }).objs.size := by
          rw [Heap.size_push]; exact Nat.ne_of_lt (Nat.lt_succ_self _)
        have hget : ((s.heap.push { cls := .type "set", dict := none, data := .set #[] 0 (.fresh 0 0 led) }).push { cls := .type "list_iterator", data := .fields #[.ref l, .int 0 0] }).get? s.heap.objs.size
              = some { cls := .type "set", dict := none, data := .set #[] 0 (.fresh 0 0 led) } := Heap.get?_push_of_some _ hS
        refine set_loopL (X := X) (A := A.in1.in1) (t := l) hlen hv hb hh hSI (Ne.symm (Nat.ne_of_lt hlS)).symm.symm (Ne.symm hneI) (xs.length - 0) 0 _ 0 rfl (Nat.zero_le _) (Nat.le_refl _) ?ti ?tp ?hS0 fun h' tk' n' hn' hS' hx => ?_
        case ti => exact ⟨_, Heap.get?_push_size _ rfl, rfl, rfl⟩
        case tp => exact ⟨_, Heap.get?_push_of_some _ hol', rfl, nl, rfl⟩
        case hS0 => exact SetOf_congr ((setObjOf_fresh (knd := skn X) led).setOf hget (by unfold scanBound; omega)) (fun _ => rfl) rfl
        show wpAny _ _ _ _ _ _
        refine wpAny_pure ?_
        show wpAny _ _ (ret Value.none) _ _ _
        refine wpAny_pure ⟨rfl, h', tk', n', rfl, hn', hS', fun b o hb e => ?_⟩
        have hb1 : b ≠ s.heap.objs.size := Nat.ne_of_lt hb
        have hb2 : b ≠ (s.heap.push { cls := .type "set", dict := none, data := .set #[] 0 (.fresh 0 0 led) }).objs.size := by
          rw [Heap.size_push]; exact Nat.ne_of_lt (Nat.lt_succ_of_lt hb)
        exact hx b o hb1 hb2 (Heap.get?_push_of_some _ (Heap.get?_push_of_some _ e))

      · cases r₂ with
        | error e => exact hr₂
        | ok fl₂ =>
          cases fl₂ with
          | ret r =>
            obtain ⟨rfl, h', tk, n', rfl, hn', hS', hk'⟩ := hr₂
            repeat (any_goals (first | assumption | wp_step))
            exact h _ _ _ hn' hS' hk'
          | _ => exact hr₂.elim
    | _ => exact hr.elim
end
end Mine
end
section
open PySem PySem.W PyProof.Rows PySem.Calls
open Builtin Builtin.Str
set_option Elab.async false
set_option maxRecDepth 100000
set_option linter.unusedVariables false
namespace Mine
section
variable {X : Cx} {n : Nat} {env : Env} {m : Loc} {H : List Cell} {Q : V → Loc → List Cell → Prop} {QB : Bool → Loc → List Cell → Prop}
/-- the words of a text -/
def splitW (x : List Nat) : List (List Nat) := (Txt.words ⟨x.toArray⟩).map fun s => s.cps.toList
theorem denL_strs {η h} : ∀ l : List (PySem.Str × Tok), DenL X η h ((l.map fun p => p.1.cps.toList).map V.str) (strValues l)
  | [] => by unfold DenL; rfl
  | p :: l => by
    rw [List.map_cons, List.map_cons]
    unfold DenL
    exact ⟨_, _, rfl, den_str p.1 p.2, denL_strs l⟩
theorem split_s {x : List Nat} (hz : x.length ≤ sizeLine) (hw : (spaceWords ⟨x.toArray⟩ (x.length + 1)).length ≤ sizeLine) (q : Q (.loc H.length) m (H ++ [.list ((splitW x).map V.str)])) : TN X n env m H (fun cvs => call (.builtin "str.split") cvs) [.str x] Q := by
  intro cvs A η s C E Ro re e d k
  obtain ⟨a, rfl, d1⟩ := denL_one.mp d
  obtain ⟨t, rfl⟩ := den_str'.mp d1
  have hx : (⟨x.toArray⟩ : PySem.Str).length ≤ sizeLine := by show x.toArray.size ≤ _; simpa using hz
  have hxl : (⟨x.toArray⟩ : PySem.Str).length = x.length := by show x.toArray.size = _; simp
  have hw' : (spaceWords ⟨x.toArray⟩ ((⟨x.toArray⟩ : PySem.Str).length + 1)).length ≤ sizeLine := by rw [hxl]; exact hw
  have fin : ∀ (l : List (PySem.Str × Tok)) (tk : Nat), l.map (·.1) = Txt.words ⟨x.toArray⟩ → l.length ≤ sizeLine → C (.ref s.heap.objs.size) { s with heap := s.heap.push { cls := .type "list", data := .seq (strValues l).toArray }, toks := tk } := fun l tk hl hll => by
    have hsp : splitW x = l.map fun p => p.1.cps.toList := by unfold splitW; rw [← hl, List.map_map]; rfl
    have ok : CellOk X (η ++ [s.heap.objs.size]) (s.heap.push { cls := .type "list", data := .seq (strValues l).toArray }) (.list ((splitW x).map V.str)) { cls := .type "list", data := .seq (strValues l).toArray } := by
      refine ⟨strValues l, 0, rfl, by rw [hsp]; simpa using hll, ?_⟩
      rw [hsp]; exact denL_strs l
    obtain ⟨r', e', a'⟩ := alloc_ok (tk := tk) re e rfl ok
    exact k _ m _ _ _ _ q (den_loc.mpr ⟨_, rfl, by rw [← re.len, List.getElem?_append_right (Nat.le_refl _)]; simp⟩) r' e' a'
  refine call_meets F.slot_str_split (typeIs_str _ _ _) F.entry_str_split (F.args_str_split_1 _) (meets_str_split_space _ t hx hw') ?_
  cases hc : spaceWords ⟨x.toArray⟩ ((⟨x.toArray⟩ : PySem.Str).length + 1) == [(0, (⟨x.toArray⟩ : PySem.Str).length)]
  · simp only [Bool.false_eq_true, if_false]
    rw [strsFrom_eq]
    refine fin (numbered s.toks (PySem.wordsOf ⟨x.toArray⟩)) _ ((numbered_texts _ _).trans (if_neg (ne_true_of_eq_false hc)).symm) ?_
    have := congrArg List.length (numbered_texts s.toks (PySem.wordsOf ⟨x.toArray⟩))
    rw [List.length_map] at this
    rw [this]
    unfold PySem.wordsOf
    rw [List.length_map]
    exact hw'
  · simp only [if_true]
    exact fin [(_, t)] s.toks (if_pos hc).symm (by show 1 ≤ sizeLine; decide)

/-- nothing to be put for -/
def noOcc (x y : List Nat) : Bool := (occurrences ⟨x.toArray⟩ ⟨y.toArray⟩ 0 (⟨x.toArray⟩ : PySem.Str).length ((⟨x.toArray⟩ : PySem.Str).length + 1)).isEmpty
theorem replace_s {x y z : List Nat} (h : noOcc x y = true) (q : Q (.str x) m H) : TN X n env m H (fun cvs => call (.builtin "str.replace") cvs) [.str x, .str y, .str z] Q := by
  intro cvs A η s C E Ro re e d k
  unfold DenL at d
  obtain ⟨a, rest, rfl, d1, d'⟩ := d
  obtain ⟨b, c, rfl, d2, d3⟩ := denL_two.mp d'
  obtain ⟨t, rfl⟩ := den_str'.mp d1
  obtain ⟨u, rfl⟩ := den_str'.mp d2
  obtain ⟨v, rfl⟩ := den_str'.mp d3
  unfold noOcc at h
  refine call_gives F.slot_str_replace (typeIs_str _ _ _) F.entry_str_replace (F.args_str_replace_3 _ _ _) (gives_str_replace _ _ _ t u v fun hf => ?_) ?_
  · rw [h] at hf; cases hf
  · rw [h]
    exact k _ m H _ η s q (den_str'.mpr ⟨t, rfl⟩) re e (.refl ..)

/-- a list of texts among what is written -/
structure KList (X : Cx) (a : Addr) (xs : List (List Nat)) : Prop where
  is : ∃ vs k, X.K.lookup a = some { cls := .type "list", data := .seq (List.toArray vs) k } ∧ vs.length = xs.length ∧ ∀ (i : Nat) x, xs[i]? = some x → ∃ u, vs[i]? = some (.str ⟨x.toArray⟩ u)
theorem KList.at {a xs η h} (L : KList X a xs) (re : Rel X η H h) : ∃ vs, h.IsList a (List.toArray vs) ∧ vs.length = xs.length ∧ ∀ (i : Nat) x, xs[i]? = some x → ∃ u, vs[i]? = some (.str ⟨x.toArray⟩ u) := by
  obtain ⟨vs, k, h1, h2, h3⟩ := L.is
  exact ⟨vs, ⟨_, re.kin _ _ h1, rfl, k, rfl⟩, h2, h3⟩
theorem t2_item_obj {value slice : Expr} {a : Addr} {xs : List (List Nat)} {k : Int} {x : List Nat} (L : KList X a xs) (hz : xs.length ≤ 1000) (h0 : 0 ≤ k) (hv : xs[k.toNat]? = some x) (q : Q (.str x) m H) : T2 X n env m H (subscriptTail value slice) (.obj a) (.int k) Q := by
  intro av bv A η s C E Ro re ev ⟨da, db⟩ kk
  obtain ⟨rfl, _⟩ := den_obj.mp da
  obtain ⟨t, rfl⟩ := den_int.mp db
  obtain ⟨vs, hL, hl, hi⟩ := L.at re
  obtain ⟨u, hu⟩ := hi _ _ hv
  have hk : k.toNat < xs.length := (List.getElem?_eq_some_iff.mp hv).1
  obtain ⟨ops, hs⟩ := subscripted_is slice (.ref a) (.int k t)
  exact tail_any hL.typeIs slot_list_getitem.lookup (wpAny_getItem_list hL h0 (by omega) (by simpa using hu) (kk (.str x) m H _ η s q (den_str'.mpr ⟨u, rfl⟩) re ev (.refl ..))) hs
theorem tr_obj {a : Addr} {xs : List (List Nat)} (L : KList X a xs) (hz : xs.length ≤ 1000) (q : QB (decide (xs.length ≠ 0)) m H) : T1B X n env m H truthy (.obj a) QB :=
  T1B.quiet (w := decide (xs.length ≠ 0)) (fun A s C E η av _ re da k => by
    obtain ⟨rfl, _⟩ := den_obj.mp da
    obtain ⟨vs, hL, hl, _⟩ := L.at re
    refine wpAny_truthy_list hL (by simp [hl]; omega) ?_
    have e : (!vs.toArray.isEmpty) = decide (xs.length ≠ 0) := by rw [← hl]; cases vs <;> simp
    rw [e]; exact k _) q
/-- set(a list of texts) -/
theorem set_obj {a : Addr} {xs : List (List Nat)} (L : KList X a xs) (hz : xs.length + 1 < scanBound) (q : Q (.loc H.length) m (H ++ [.set xs])) : TN X n env m H (fun cvs => call (.type "set") cvs) [.obj a] Q := by
  intro cvs A η s C E Ro re e d k
  obtain ⟨b, rfl, d1⟩ := denL_one.mp d
  obtain ⟨rfl, _⟩ := den_obj.mp d1
  obtain ⟨vs, kk, h1, hl, hv⟩ := L.is
  refine call_set_lst (X := X) (xs := xs) Ro.handled (re.kin _ _ h1) (by simp [hl]) (fun i x hx => ?_) hz fun h' tk n' hn hS hk => ?_
  · obtain ⟨u, hu⟩ := hv i x hx
    exact ⟨u, by simpa using hu⟩
  · obtain ⟨o, ho', so⟩ := hS.objOf
    obtain ⟨r', e', a'⟩ := alloc_ext (c := .set xs) (tk := tk) re e (fun b o q => hk b o (Heap.lt_size q) q) ho' ⟨n', by omega, so⟩
    exact k _ m _ _ _ _ q (den_loc.mpr ⟨_, rfl, by rw [← re.len, List.getElem?_append_right (Nat.le_refl _)]; simp⟩) r' e' a'
end
end Mine
end
section
open PySem PySem.W PyProof.Rows PySem.Calls
set_option Elab.async false
set_option maxRecDepth 100000
set_option linter.unusedVariables false
set_option linter.unusedSectionVars false
namespace Mine
theorem u_nm {i x a p ch mt nm gr ns qu ph wo st te v} : UpdL (sL i x a p ch mt nm gr ns qu ph wo st te) "name" v (sL i x a p ch mt (some v) gr ns qu ph wo st te) := .there (.there (.there (.there (.there (.there .here)))))
theorem u_gr {i x a p ch mt nm gr ns qu ph wo st te v} : UpdL (sL i x a p ch mt nm gr ns qu ph wo st te) "group" v (sL i x a p ch mt nm (some v) ns qu ph wo st te) := .there (.there (.there (.there (.there (.there (.there .here))))))
theorem u_ns {i x a p ch mt nm gr ns qu ph wo st te v} : UpdL (sL i x a p ch mt nm gr ns qu ph wo st te) "names" v (sL i x a p ch mt nm gr (some v) qu ph wo st te) := .there (.there (.there (.there (.there (.there (.there (.there .here)))))))
theorem u_qu {i x a p ch mt nm gr ns qu ph wo st te v} : UpdL (sL i x a p ch mt nm gr ns qu ph wo st te) "quoted" v (sL i x a p ch mt nm gr ns (some v) ph wo st te) := .there (.there (.there (.there (.there (.there (.there (.there (.there .here))))))))
theorem l_nm {i x a p ch mt nm gr ns qu ph wo st te} : LkL (sL i x a p ch mt (some nm) gr ns qu ph wo st te) "name" nm := .there (.there (.there (.there (.there (.there .here)))))
theorem l_gr {i x a p ch mt nm gr ns qu ph wo st te} : LkL (sL i x a p ch mt nm (some gr) ns qu ph wo st te) "group" gr := .there (.there (.there (.there (.there (.there (.there .here))))))
theorem l_ns {i x a p ch mt nm gr ns qu ph wo st te} : LkL (sL i x a p ch mt nm gr (some ns) qu ph wo st te) "names" ns := .there (.there (.there (.there (.there (.there (.there (.there .here)))))))
theorem l_qu {i x a p ch mt nm gr ns qu ph wo st te} : LkL (sL i x a p ch mt nm gr ns (some qu) ph wo st te) "quoted" qu := .there (.there (.there (.there (.there (.there (.there (.there (.there .here))))))))

/-- what a column's sign gives, if its names are columns -/
def colHit (cols : List (List Nat)) (x : List Nat) (p : Nat) : Option (Nat × List (Option (Nat × Nat))) :=
  match colRes x.toArray p with
  | some (e, sp) => if colNames splitW x sp ≠ [] ∧ (colNames splitW x sp).all (cols.contains ·) then some (e, sp) else none
  | none => none
def colText (x : List Nat) (sp : List (Option (Nat × Nat))) : List Nat := match sp with
  | some _ :: _ => ((colNames splitW x sp).map fun n => 34 :: n ++ [34]).headD []
  | _ => 123 :: joinL [32] ((colNames splitW x sp).map fun n => 34 :: n ++ [34]) ++ [125]
def colT (g : Option (Nat × Nat)) (NL : List (List Nat)) : List Nat := match g with
  | some _ => (NL.map fun n => 34 :: n ++ [34]).headD []
  | none => 123 :: joinL [32] (NL.map fun n => 34 :: n ++ [34]) ++ [125]
theorem joinL_scan (sep : List Nat) : ∀ l : List (List Nat), scanStep.joinL sep l = joinL sep l
  | [] => rfl
  | [x] => rfl
  | x :: y :: l => by simp only [scanStep.joinL, joinL, joinL_scan sep (y :: l)]
section
variable {cols : List (List Nat)} {x : List Nat} {p : Nat} {acc : List Tk}
theorem scan_col {e : Nat} {sp : List (Option (Nat × Nat))} (h1 : ¬ Unicode.isSpace (x.getD p 0) = true) (h2 : x.getD p 0 ≠ 40) (h3 : x.getD p 0 ≠ 41) (h4 : ¬ (x.getD p 0 = 45 ∧ p + 1 < x.length ∧ ¬ Unicode.isSpace (x.getD (p + 1) 0) = true)) (hc : colHit cols x p = some (e, sp)) :
    scanStep splitW id cols x p acc = (acc ++ [.col (colText x sp)], e) := by
  unfold colHit at hc
  unfold scanStep
  rw [if_neg h1, if_neg h2, if_neg h3, if_neg h4]
  cases hr : colRes x.toArray p with
  | none => rw [hr] at hc; cases hc
  | some es =>
    obtain ⟨e', sp'⟩ := es
    rw [hr] at hc
    dsimp only at hc ⊢
    split at hc
    · rename_i hh
      cases hc
      rw [if_pos hh]
      unfold colText
      rcases sp with _ | ⟨_ | s, r⟩ <;> simp [joinL_scan]
    · cases hc
theorem scan_rest2 {ph w st : Option (Nat × Nat)} (h1 : ¬ Unicode.isSpace (x.getD p 0) = true) (h2 : x.getD p 0 ≠ 40) (h3 : x.getD p 0 ≠ 41) (h4 : ¬ (x.getD p 0 = 45 ∧ p + 1 < x.length ∧ ¬ Unicode.isSpace (x.getD (p + 1) 0) = true)) (hc : colHit cols x p = none)
    (ht : (termRes x p).2 = [ph, w, st]) : scanStep splitW id cols x p acc = (restAcc x acc ph w st, (termRes x p).1) := by
  unfold colHit at hc
  unfold scanStep
  rw [if_neg h1, if_neg h2, if_neg h3, if_neg h4]
  have key : ∀ e sp, colRes x.toArray p = some (e, sp) → ¬ (colNames splitW x sp ≠ [] ∧ (colNames splitW x sp).all (cols.contains ·)) := fun e sp hr hh => by
    rw [hr] at hc
    dsimp only at hc
    rw [if_pos hh] at hc
    cases hc
  generalize termRes x p = r at *
  obtain ⟨e, sp⟩ := r
  dsimp only at ht
  subst ht
  cases hr : colRes x.toArray p with
  | none =>
    rcases ph with _ | ⟨b, e'⟩ <;> rcases w with _ | ⟨b2, e2⟩ <;> simp only [restAcc, spanT, textT, opAcc, termTk, isOpW] <;> split <;> rename_i hh <;> (first | rfl | exact absurd hh.1 (by simp))
  | some es =>
    obtain ⟨e', sp'⟩ := es
    dsimp only
    rw [if_neg (key e' sp' hr)]
    rcases ph with _ | ⟨b, e'⟩ <;> rcases w with _ | ⟨b2, e2⟩ <;> simp only [restAcc, spanT, textT, opAcc, termTk, isOpW] <;> split <;> rename_i hh <;> (first | rfl | exact absurd hh.1 (by simp))
/-- the two forms of a column's sign -/
theorem colRes_forms {e : Nat} {sp : List (Option (Nat × Nat))} (hx : p < x.length) (h : colRes x.toArray p = some (e, sp)) : p < e ∧ ((∃ a b, sp = [some (a, b), none] ∧ x.extract a b ≠ [] ∧ colNames splitW x sp = [x.extract a b]) ∨ ∃ a b, sp = [none, some (a, b)] ∧ colNames splitW x sp = splitW (x.extract a b)) := by
  have hs : x.toArray.size = x.length := by simp
  unfold colRes at h
  split at h
  · rename_i hw
    cases h
    refine ⟨by omega, .inl ⟨_, _, rfl, ?_, rfl⟩⟩
    have h1 := hw.1
    have hk : nW x.toArray p ≤ x.toArray.size - p := spanN_le
    intro q
    have := congrArg List.length q
    rw [List.extract_eq_drop_take] at this
    simp at this
    omega
  · split at h
    · cases h
      exact ⟨by omega, .inr ⟨_, _, rfl, rfl⟩⟩
    · cases h
end
section
variable {P : Params} {X : Cx} (hK : X.K = KK P) (NX : Names X) (hB : BuiltinsOk X) (hW : X.w.params = P) {PS' : Addr} (hG : GenCode X 65 PS') {n : Nat} {env : Env} {m : Loc} {H : List Cell} {i j : Nat} {a p : Nat} {x : List Nat} {ch mt nm gr ns qu ph wo st te : Option V}
  {Q : V → Loc → List Cell → Prop} {N B K : Loc → List Cell → Prop} {R : V → Loc → List Cell → Prop}
set_option maxHeartbeats 4000000
include hK NX hB hG
theorem scan_ok {kc : Nat} {cols : List (List Nat)} (hW : X.w.params = P) (I : IsInst H i j 131 [("columns", .loc kc)]) (hkc : H[kc]? = some (.set cols)) (hcs : ∀ c ∈ cols, AscL c ∧ c.length ≤ 1000 ∧ noOcc c [34] = true) (hA : AscL x) (hx : x.length ≤ 90000) (hspl : ∀ a b, (Builtin.Str.spaceWords ⟨(x.extract a b).toArray⟩ ((x.extract a b).length + 1)).length ≤ 900)
    (q : ∀ H' k', (∀ y, y < H.length → H'[y]? = H[y]?) → H.length ≤ H'.length → H.length ≤ k' → H'[k']? = some (.list ((scan splitW id cols x).map tkV)) → Q (.loc k') m H') : CN X (n + 2) env m H (.ref 66) [.loc i, .str x] Q := by
  refine cn_call (names := ["self", "query"]) (ws := []) (ds := []) (by rw [hK]; rfl) (by rw [hK]; rfl) rfl rfl rfl rfl (by decide +kernel) rfl (fun s cvs hin hl => ?_) (fun _ _ => by unfold DenL; rfl) ?_
  · obtain ⟨c, d, rfl⟩ : ∃ c d, cvs = [c, d] := by
      match cvs, hl with
      | [c, d], _ => exact ⟨c, d, rfl⟩
    exact BindsTo.of_eq rfl
  · intro env' hsc hcode
    obtain ⟨sc, lo', gl, ce, qu, fu, co, fr, bi⟩ := env'
    simp only at hsc hcode
    subst hsc hcode
    have hil : i < H.length := (List.getElem?_eq_some_iff.mp I.inst).1
    have hjl : j < H.length := (List.getElem?_eq_some_iff.mp I.dict).1
    have hsl : sizeLine = 16777216 := rfl
    show TS X (n + 1) _ [("self", some (.loc i)), ("query", some (.str x)), ("tokens", none), ("pos", none), ("char", none), ("match", none), ("name", none), ("group", none), ("names", none), ("quoted", none), ("phrase", none), ("word", none), ("star", none), ("text", none)] H (execs _ _) _ _ _ _
    refine ts_cons (ts_Assign_Name (hfree := nofree) (tri_List (tx_nil ⟨by show 0 ≤ sizeLine; decide, _, .there (.there .here), ?_⟩)))
    refine ts_cons (ts_Assign_Name (hfree := nofree) (tri_int ⟨_, .there (.there (.there .here)), ?_⟩))
    unfold scan at q
    generalize hres : scanLoop splitW id cols x x.length 0 [] = res at *
    refine ts_cut (fun m' H' => ∃ p ch mt nm gr ns qu ph wo st te, m' = sL i x H.length p ch mt nm gr ns qu ph wo st te ∧ (∀ y, y < H.length → H'[y]? = H[y]?) ∧ H'[H.length]? = some (.list (res.map tkV)) ∧ res.length ≤ x.length ∧ H.length ≤ H'.length) (ts_While ?_) ?_
    · refine tw_ind (ScanI H i x splitW id cols res) (fun x => x.1) ?_ (x.length, 0, []) _ _ ⟨none, none, none, none, none, none, none, none, none, none, rfl, fun y hy => by rw [List.getElem?_append_left hy], by simp, by simp, hres, by simp, by simp⟩
      rintro ⟨f, p, acc⟩ _ H2 ⟨ch, mt, nm, gr, ns, qu, ph, wo, st, te, rfl, hkeep, hacc, hf, hr, hsz, hasc⟩ ih
      dsimp only at *
      have hal : H.length < H2.length := (List.getElem?_eq_some_iff.mp hacc).1
      refine tw_turn (tb_Compare (hm := by with_unfolding_all rfl) (tri_Name l_pos (tri_CallN (f := .builtin "len") rfl (.inr NX.len) kn_builtin (tx_cons (tri_Name l_query (tx_nil (len_s (by omega) (lt_i (tr_b ?_)))))))))
      refine br_c (fun hb => ?_) (fun hb => ?_)
      · have hlt : p < x.length := by have := of_decide_eq_true hb; omega
        obtain ⟨f', rfl⟩ : ∃ f', f = f' + 1 := ⟨f - 1, by omega⟩
        unfold scanLoop at hr
        rw [if_pos hlt] at hr
        -- how a turn goes on
        have go : ∀ (acc' : List Tk) (p' : Nat) ch mt nm gr ns qu ph wo st te (H3 : List Cell), scanStep splitW id cols x p acc = (acc', p') → p < p' → acc'.length ≤ acc.length + 1 → (∀ t ∈ acc', AscTk t) → (∀ y, y < H.length → H3[y]? = H[y]?) → H3[H.length]? = some (.list (acc'.map tkV)) →
            TW X (n + 1) _ (sL i x H.length p' ch mt nm gr ns qu ph wo st te) H3 _ _ [] _ _ := fun acc' p' ch mt nm gr ns qu ph wo st te H3 h1 h2 h3 h4 h5 h6 => by
          rw [h1] at hr
          exact ih (f', p', acc') _ _ (by dsimp only; omega) ⟨ch, mt, nm, gr, ns, qu, ph, wo, st, te, rfl, h5, h6, by dsimp only; omega, hr, by dsimp only; omega, h4⟩
        have hkeep' : ∀ {c : Cell} y, y < H.length → (H2.set H.length c)[y]? = H[y]? := fun {c} y hy => by rw [List.getElem?_set_ne (by omega)]; exact hkeep y hy
        have hset : ∀ {c : Cell}, (H2.set H.length c)[H.length]? = some c := fun {c} => by rw [List.getElem?_set_self hal]
        have hxp : x[p]? = some (x.getD p 0) := by rw [List.getD_eq_getElem?_getD, List.getElem?_eq_getElem hlt]; rfl
        have hc128 : x.getD p 0 < 128 := hA.get hxp
        refine ts_cons (ts_Assign_Name (hfree := nofree) (tri_Subscript (tri_Name l_query (tri_Name l_pos (t2_item_str (c := x.getD p 0) (by omega) (by omega) (by rw [Int.toNat_natCast]; exact hxp) ⟨_, u_char, ?_⟩)))))
        refine ts_cons (ts_If (tb_plain (tri_CallM (tri_Name l_char (tm_str F.slot_str_isspace F.type_str_isspace ⟨kn_builtin, tx_nil (isspace_s (tr_b ?_))⟩)))))
        rw [isspace_one _ hc128]
        refine br_c (fun hsp => ?_) (fun hsp => ?_)
        · refine ts_cons (t_inc hK NX nofree (ts_cons (ts_Continue (go acc (p + 1) _ _ _ _ _ _ _ _ _ _ _ (scan_space hsp) (by omega) (by omega) hasc hkeep hacc))))
        have hsp' : ¬ Unicode.isSpace (x.getD p 0) = true := by rw [hsp]; decide
        refine ts_nil (ts_cons (ts_If (tb_Compare (hm := by with_unfolding_all rfl) (tri_Name l_char (tri_str (in_s (tr_b ?_)))))))
        rw [show (Str.ofString "()").cps.toList = [40, 41] by decide +kernel, paren_one _ hc128]
        refine br_c (fun hpa => ?_) (fun hpa => ?_)
        · have h2 : x.getD p 0 = 40 ∨ x.getD p 0 = 41 := by simpa using hpa
          obtain ⟨t, ht, hst, has⟩ : ∃ t : Tk, tkV t = .tup [.str [x.getD p 0], .none] ∧ scanStep splitW id cols x p acc = (acc ++ [t], p + 1) ∧ AscTk t := by
            rcases h2 with h2 | h2
            · exact ⟨.lp, by rw [h2]; rfl, scan_lp hsp' h2, trivial⟩
            · exact ⟨.rp, by rw [h2]; rfl, scan_rp hsp' h2, trivial⟩
          refine ts_cons (t_app hK NX (t := t) (acc := acc) l_tok hacc (by omega) (fun qq => tri_Tuple (tx_cons (tri_Name l_char (tx_cons (tri_none (tx_nil ⟨by show 2 ≤ sizeLine; decide, by rw [← ht]; exact qq⟩)))))) ?_ rfl rfl rfl rfl rfl rfl)
          refine ts_cons (t_inc hK NX nofree (ts_cons (ts_Continue (go (acc ++ [t]) (p + 1) _ _ _ _ _ _ _ _ _ _ _ hst (by omega) (by simp) (fun u hu => ?_) hkeep' hset))))
          rcases List.mem_append.mp hu with hu | hu
          · exact hasc u hu
          · rcases List.mem_cons.mp hu with rfl | hu
            · exact has
            · cases hu
        have h40 : x.getD p 0 ≠ 40 ∧ x.getD p 0 ≠ 41 := by simpa using hpa
        refine ts_nil (ts_cut (fun m' H' => m' = sL i x H.length p (some (.str [x.getD p 0])) mt nm gr ns qu ph wo st te ∧ H2 = H' ∧ ¬ (x.getD p 0 = 45 ∧ p + 1 < x.length ∧ ¬ Unicode.isSpace (x.getD (p + 1) 0) = true)) (ts_If (tb_BoolOp (ta_and (tb_Compare (hm := by with_unfolding_all rfl) (tri_Name l_char (tri_str (eq_s (tr_b ?_)))))))) ?_)
        · rw [show (Str.ofString "-").cps.toList = [45] by decide +kernel, show decide ([x.getD p 0] = [45]) = decide (x.getD p 0 = 45) by simp]
          refine br_c (fun h45 => ?_) (fun h45 => ?_)
          · have h45 := of_decide_eq_true h45
            refine ta_and (tb_plain (tri_CallM (tri_Subscript (tri_Name l_query (tri_Slice (e1 := fun _ => pure Value.none) (e2 := fun _ => pure Value.none) (tvn_some (tri_BinOp (tri_Name l_pos (tri_int (add_i (tvn_some (tri_BinOp (tri_Name l_pos (tri_int (add_i ⟨_, _, .inr ⟨_, rfl, rfl⟩, .inr ⟨_, rfl, rfl⟩, t2_cut_str (by omega) ?_⟩)))))))))))))))
            refine tm_str F.slot_str_strip F.type_str_strip ⟨kn_builtin, tx_nil (strip_s (by have := cutL_le x (some ((p : Int) + 1)) (some ((p : Int) + 2)); omega) (tr_s ?_ ?_))⟩
            · rw [cut_one]
              rcases hx1 : x[p + 1]? with _ | c
              · dsimp only; rw [strip_none]; decide
              · dsimp only; rw [strip_one c (hA.get hx1)]; split <;> (show _ ≤ sizeLine; simp [hsl])
            rw [strip_next hA p]
            refine br_c (fun hn => ?_) (fun hn => ?_)
            · have hn := of_decide_eq_true hn
              refine ta_nil_and (br_t ?_)
              refine ts_cons (t_app hK NX (t := .neg) (acc := acc) l_tok hacc (by omega) (fun qq => tri_Tuple (tx_cons (tri_str (tx_cons (tri_none (tx_nil ⟨by show 2 ≤ sizeLine; decide, ?_⟩)))))) ?_ rfl rfl rfl rfl rfl rfl)
              · rw [show (Str.ofString "neg").cps.toList = [110, 101, 103] by decide +kernel]; exact qq
              refine ts_cons (t_inc hK NX nofree (ts_cons (ts_Continue (go (acc ++ [.neg]) (p + 1) _ _ _ _ _ _ _ _ _ _ _ (scan_neg hsp' h40.1 h40.2 ⟨h45, hn⟩) (by omega) (by simp) (fun u hu => ?_) hkeep' hset))))
              rcases List.mem_append.mp hu with hu | hu
              · exact hasc u hu
              · rcases List.mem_cons.mp hu with rfl | hu
                · trivial
                · cases hu
            · exact br_f (ts_nil ⟨rfl, rfl, fun h => (of_decide_eq_false hn) h.2⟩)
          · exact br_f (ts_nil ⟨rfl, rfl, fun h => (of_decide_eq_false h45) h.1⟩)
        rintro _ _ ⟨rfl, rfl, hng⟩
        refine ts_cons (ts_Assign_Name (hfree := nofree) (tri_CallM (tri_glob rfl NX.col (den_pat hK ⟨_, rfl⟩) (tm_obj (by rw [hK]; rfl) rfl rfl F.plainAttrs_rePattern F.slot_rePattern_match F.type_rePattern_match ⟨kn_builtin, tx_cons (tri_Name l_query (tx_cons (tri_Name l_pos (tx_nil (re_match (kp_col hK) (by omega) (by omega) (by omega) (col_match hA (by omega) hlt) ⟨_, u_match, ?_⟩)))))⟩))))
        refine ts_cut (fun m' H' => ∃ nm gr ns qu, m' = sL i x H.length p (some (.str [x.getD p 0])) (some (matV x 36 p (colRes x.toArray p))) nm gr ns qu ph wo st te ∧ (∀ y, y < H.length → H'[y]? = H[y]?) ∧ H'[H.length]? = some (.list (acc.map tkV)) ∧ colHit cols x p = none) (ts_If (tb_Compare (hm := by with_unfolding_all rfl) (tri_Name l_match (tri_none (isnot_none (tr_b ?_)))))) ?_
        · rcases hcr : colRes x.toArray p with _ | ⟨ce, csp⟩
          · exact br_f (ts_nil ⟨nm, gr, ns, qu, rfl, hkeep, hacc, by unfold colHit; rw [hcr]⟩)
          obtain ⟨hce, hforms⟩ := colRes_forms hlt hcr
          obtain ⟨g1, g2, hsp2⟩ : ∃ g1 g2, csp = [g1, g2] := by
            rcases hforms with ⟨a, b, h, _⟩ | ⟨a, b, h, _⟩
            · exact ⟨_, _, h⟩
            · exact ⟨_, _, h⟩
          subst hsp2
          have hhit : ∀ q : ¬ (colNames splitW x [g1, g2] ≠ [] ∧ (colNames splitW x [g1, g2]).all (cols.contains ·) = true), colHit cols x p = none := fun q => by unfold colHit; rw [hcr]; dsimp only; rw [if_neg q]
          have hhit2 : ∀ q : colNames splitW x [g1, g2] ≠ [] ∧ (colNames splitW x [g1, g2]).all (cols.contains ·) = true, colHit cols x p = some (ce, [g1, g2]) := fun q => by unfold colHit; rw [hcr]; dsimp only; rw [if_pos q]
          have hNl : (colNames splitW x [g1, g2]).length ≤ 901 := by
            rcases hforms with ⟨a, b, _, _, h⟩ | ⟨a, b, _, h⟩
            · rw [h]; simp
            · rw [h]
              have := hspl a b
              unfold splitW Txt.words
              rw [List.length_map]
              split
              · simp
              · unfold PySem.wordsOf
                rw [List.length_map]
                show (Builtin.Str.spaceWords _ ((x.extract a b).toArray.size + 1)).length ≤ 901
                rw [List.size_toArray]
                omega
          refine br_t (ts_cons (ts_Assign_Tuple (tri_CallM (tri_Name l_match (tm_mat F.slot_reMatch_group F.type_reMatch_group ⟨kn_builtin, tx_cons (tri_int (tx_cons (tri_int (tx_nil (re_group (os := [g1, g2]) (.cons (g := 0) ⟨.inl rfl⟩ rfl (.cons (g := 1) ⟨.inl rfl⟩ rfl .nil)) (by omega) (by decide) (by simp) ?_)))))⟩)))))
          refine ta_Tuple2 (u := gval g1 x) (v := gval g2 x) u_nm u_gr ?_ nofree nofree
          refine ts_cut (fun m' H' => ∃ k, m' = sL i x H.length p (some (.str [x.getD p 0])) (some (matV x 36 p (some (ce, [g1, g2])))) (some (gval g1 x)) (some (gval g2 x)) (some (.loc k)) qu ph wo st te ∧ (∀ y, y < H.length → H'[y]? = H[y]?) ∧ H'[H.length]? = some (.list (acc.map tkV)) ∧ H.length < k ∧ H'[k]? = some (.list ((colNames splitW x [g1, g2]).map V.str))) (ts_Assign_Name (hfree := nofree) (tri_IfExp (tb_plain (tri_Name l_nm ?_)))) ?_
          · rcases hforms with ⟨a, b, h, hne, hNL⟩ | ⟨a, b, h, hNL⟩
            · injection h with h1 h2
              subst h1
              have hel := extract_len x a b
              refine tr_s (by omega) ?_
              rw [decide_eq_true hne]
              refine br_t (tri_List (tx_cons (tri_Name l_nm (tx_nil ⟨by show 1 ≤ sizeLine; decide, _, u_ns, H2.length, rfl, fun y hy => by rw [List.getElem?_append_left (by omega)]; exact hkeep y hy, by rw [List.getElem?_append_left hal]; exact hacc, hal, ?_⟩))))
              rw [hNL, List.getElem?_append_right (Nat.le_refl _), Nat.sub_self]
              rfl
            · injection h with h1 h2
              injection h2 with h2 h3
              subst h1 h2
              have hel := extract_len x a b
              refine tr_n (br_f (tri_CallM (tri_Name l_gr (tm_str F.slot_str_split F.type_str_split ⟨kn_builtin, tx_nil (split_s (by omega) (by have := hspl a b; omega) ⟨_, u_ns, H2.length, rfl, fun y hy => by rw [List.getElem?_append_left (by omega)]; exact hkeep y hy, by rw [List.getElem?_append_left hal]; exact hacc, hal, ?_⟩)⟩))))
              rw [hNL, List.getElem?_append_right (Nat.le_refl _), Nat.sub_self]
              rfl
          rintro _ H3 ⟨k, rfl, hk3, ha3, hlk, hnl⟩
          generalize hNL : colNames splitW x [g1, g2] = NL at *
          have hal3 : H.length < H3.length := (List.getElem?_eq_some_iff.mp ha3).1
          have hkl3 : k < H3.length := (List.getElem?_eq_some_iff.mp hnl).1
          have I3 : IsInst H3 i j 131 [("columns", .loc kc)] := ⟨by rw [hk3 i hil]; exact I.inst, by rw [hk3 j hjl]; exact I.dict⟩
          have hkc3 : H3[kc]? = some (.set cols) := by rw [hk3 kc (List.getElem?_eq_some_iff.mp hkc).1]; exact hkc
          refine ts_cons (ts_If (tb_BoolOp (ta_and (tb_plain (tri_Name l_ns (tr_l hnl ?_))))))
          refine br_c (fun h1 => ?_) (fun h1 => br_f (ts_nil (ts_nil ⟨_, _, _, _, rfl, hk3, ha3, hhit fun q => (of_decide_eq_false h1) (by simpa using q.1)⟩)))
          have hNe : NL ≠ [] := by have := of_decide_eq_true h1; simpa using this
          have hall : (NL.map V.str).all (fun v => match v with | .str s => cols.contains s | _ => false) = NL.all (cols.contains ·) := by rw [List.all_map]; rfl
          refine ta_and (tb_plain (tri_CallN2 rfl (.inr NX.all) (tc_all (fv := [("self", .loc i)]) (L := NL.map V.str) (f := fun v => match v with | .str s => cols.contains s | _ => false) ⟨frees_self (.head _) (show some NameKind.cell ≠ some NameKind.local by decide) (by decide) rfl (by decide) (by simp), ⟨65, PS', hG, rfl⟩, hB, rfl, by decide, by decide, by decide, rfl, fun _ => rfl, tri_Name l_ns ⟨rfl, rfl, .lst k 0, rfl, fun i e => ⟨_, by cases e; exact hnl⟩, fun k e => (by cases e), items_list hnl _ 0 rfl⟩⟩ (fun cl C code v hv => ?_) (tr_b ?_))))
          · obtain ⟨s, _, rfl⟩ := List.mem_map.mp hv
            exact tri_Compare (hm := by with_unfolding_all rfl) (tri_Name .here (tri_Attr (tri_Name (.there .here) (get_field I3 (clsOk hK) (by rw [hK]; rfl) (.head _) (in_set hkc3 ⟨rfl, rfl, rfl⟩)))))
          rw [hall]
          refine br_c (fun h2 => ?_) (fun h2 => br_f (ts_nil (ts_nil ⟨_, _, _, _, rfl, hk3, ha3, hhit fun q => by rw [q.2] at h2; cases h2⟩)))
          have hin : ∀ s ∈ NL, AscL s ∧ s.length ≤ 1000 ∧ noOcc s [34] = true := fun s hs => by
            have := List.all_eq_true.mp h2 s hs
            exact hcs s (by simpa using this)
          have hst := scan_col (acc := acc) hsp' h40.1 h40.2 hng (hhit2 ⟨hNe, h2⟩)
          refine ta_nil_and (br_t ?_)
          -- the columns quoted
          have hqW : (List.range NL.length).map (fun j => V.str (34 :: NL.getD j [] ++ [34])) = (NL.map fun s => 34 :: s ++ [34]).map V.str := by
            apply List.ext_getElem
            · simp
            · intro i h1 h2
              simp at h1
              simp [List.getD_eq_getElem?_getD, List.getElem?_eq_getElem h1]
          refine ts_cut (fun m' H' => m' = sL i x H.length p (some (.str [x.getD p 0])) (some (matV x 36 p (some (ce, [g1, g2])))) (some (gval g1 x)) (some (gval g2 x)) (some (.loc k)) (some (.loc H3.length)) ph wo st te ∧ (∀ y, y < H3.length → H'[y]? = H3[y]?) ∧ H'[H3.length]? = some (.list ((NL.map fun s => 34 :: s ++ [34]).map V.str))) (ts_Assign_Comp [] ⟨by simp, by simp, by simp⟩ rfl (by decide) (by decide) ⟨rfl, by decide, by decide⟩ (tri_Name l_ns ⟨rfl, .lst k 0, rfl, fun i e => ⟨_, by cases e; exact hnl⟩, fun k e => (by cases e), fun cl C => ?_⟩) nofree) ?_
          · refine tc_map (I := fun j H' => ∀ y, y < H3.length → H'[y]? = H3[y]?) (S := fun j => .lst k j) (val := fun j => .str (NL.getD j [])) (W := fun j => V.str (34 :: NL.getD j [] ++ [34])) (N := NL.length) (fvl := []) (by exact nofree) (by omega)
              (fun j H' c hI y hy => by rw [List.getElem?_set_ne (by omega)]; exact hI y hy) (fun j hj H' hI => ?_) (fun H' hI => ?_) (fun j hj H' hI hac => ?_) (fun w H' hI hac => ⟨by simp, _, u_qu, rfl, hI, by rw [← hqW]; exact hac⟩) NL.length 0 (by omega) none _ (fun y hy => by rw [List.getElem?_append_left hy]) (by simp)
            · refine next_cons (vs := NL.map V.str) (by rw [hI k hkl3]; exact hnl) ?_
              rw [List.getElem?_map, List.getElem?_eq_getElem hj, List.getD_eq_getElem?_getD, List.getElem?_eq_getElem hj]; rfl
            · exact next_nil (vs := NL.map V.str) (by rw [hI k hkl3]; exact hnl) (by simp)
            · have hmem : NL.getD j [] ∈ NL := by
                rw [List.getD_eq_getElem?_getD, List.getElem?_eq_getElem hj]; exact List.getElem_mem _
              obtain ⟨_, q2, q3⟩ := hin _ hmem
              refine tri_BinOp (tri_str (tri_CallM (tri_Name .here (tm_str F.slot_str_replace F.type_str_replace ⟨kn_builtin, tx_cons (tri_str (tx_cons (tri_str (tx_nil (replace_s ?_ ?_)))))⟩))))
              · rw [show (Str.ofString "\"").cps.toList = [34] by decide +kernel]; exact q3
              · rw [show (Str.ofString "\"%s\"").cps.toList = [34, 37, 115, 34] by decide +kernel]
                exact pct_q (by omega) ⟨rfl, rfl, hI, rfl⟩
          rintro _ H4 ⟨rfl, hk4, hq4⟩
          have hal4 : H3.length < H4.length := (List.getElem?_eq_some_iff.mp hq4).1
          have ha4 : H4[H.length]? = some (.list (acc.map tkV)) := by rw [hk4 _ hal3]; exact ha3
          have hcolT : colText x [g1, g2] = colT g1 NL := by
            unfold colText colT
            rw [hNL]
            rcases g1 with _ | s <;> rfl
          have hjl : ∀ l : List (List Nat), (∀ s ∈ l, s.length ≤ 1000) → ((l.map fun s => 34 :: s ++ [34]).map List.length).sum ≤ 1002 * l.length := by
            intro l
            induction l with
            | nil => intro _; simp
            | cons s l ih' =>
              intro h
              have h1 := ih' fun p hp => h p (.tail _ hp)
              have h2 := h s (.head _)
              simp only [List.map_cons, List.sum_cons, List.length_cons, List.length_append, List.length_nil]
              omega
          have hjl2 := hjl NL fun s hs => (hin s hs).2.1
          have hjl3 : ∀ l : List (List Nat), (joinL [32] l).length ≤ (l.map List.length).sum + l.length := by
            intro l
            induction l with
            | nil => simp [joinL]
            | cons a l ih' =>
              cases l with
              | nil => simp [joinL]
              | cons b l => simp only [joinL, List.length_append, List.map_cons, List.sum_cons, List.length_cons, List.length_nil] at ih' ⊢; omega
          have hjl4 := hjl3 (NL.map fun s => 34 :: s ++ [34])
          rw [List.length_map] at hjl4
          have hcT : AscL (colText x [g1, g2]) := by
            rw [hcolT]
            have hq : ∀ s ∈ NL.map (fun s => 34 :: s ++ [34]), AscL s := fun s hs => by
              obtain ⟨u, hu, rfl⟩ := List.mem_map.mp hs
              exact .append (.cons (by decide) (hin u hu).1) (.cons (by decide) .nil)
            unfold colT
            rcases g1 with _ | s
            · refine .append (.cons (by decide) ?_) (.cons (by decide) .nil)
              have : ∀ l : List (List Nat), (∀ s ∈ l, AscL s) → AscL (joinL [32] l) := by
                intro l
                induction l with
                | nil => intro _; exact .nil
                | cons a l ih' =>
                  intro h
                  cases l with
                  | nil => exact h a (.head _)
                  | cons b l => exact .append (.append (h a (.head _)) (.cons (by decide) .nil)) (ih' fun s hs => h s (.tail _ hs))
              exact this _ hq
            · dsimp only
              cases hNL' : NL.map (fun s => 34 :: s ++ [34]) with
              | nil => exact .nil
              | cons a l => rw [hNL'] at hq; exact hq a (.head _)
          refine ts_cons (t_app hK NX (t := .col (colText x [g1, g2])) (acc := acc) l_tok ha4 (by omega) (fun qq => tri_Tuple (tx_cons (tri_str (tx_cons (tri_IfExp (tb_plain (tri_Name l_nm ?_))))))) ?_ rfl rfl rfl rfl rfl rfl)
          · rw [show (Str.ofString "col").cps.toList = [99, 111, 108] by decide +kernel]
            rcases hforms with ⟨a, b, h, hne, hNL'⟩ | ⟨a, b, h, hNL'⟩
            · injection h with h1 h2
              subst h1
              have hel := extract_len x a b
              refine tr_s (by omega) ?_
              rw [decide_eq_true hne]
              obtain ⟨s0, r0, hNL0⟩ : ∃ s0 r0, NL = s0 :: r0 := by
                rcases NL with _ | ⟨s0, r0⟩
                · exact absurd rfl hNe
                · exact ⟨_, _, rfl⟩
              refine br_t (tri_Subscript (tri_Name l_qu (tri_int (t2_item_list hq4 (by decide) (v := .str (colText x [some (a, b), g2])) ?_ (tx_nil ⟨by show 2 ≤ sizeLine; decide, qq⟩)))))
              rw [hcolT]; unfold colT; dsimp only; clear hcolT hst hhit2 hhit; subst hNL0; rfl
            · injection h with h1 h2
              subst h1
              refine tr_n (br_f (tri_BinOp (tri_str (tri_CallM (tri_str (tm_str F.slot_str_join F.type_str_join ⟨kn_builtin, tx_cons (tri_Name l_qu (tx_nil (join_l hq4 ?_ ?_)))⟩))))))
              · rw [show (Str.ofString " ").cps.toList = [32] by decide +kernel]
                simp only [List.length_map, List.length_cons, List.length_nil]
                change (List.map List.length (NL.map fun s => 34 :: s ++ [34])).sum + _ ≤ _
                omega
              · rw [show (Str.ofString " ").cps.toList = [32] by decide +kernel, show (Str.ofString "{%s}").cps.toList = [123, 37, 115, 125] by decide +kernel]
                refine pct_b (by omega) (tx_nil ⟨by show 2 ≤ sizeLine; decide, ?_⟩)
                rw [hcolT] at qq
                exact qq
          refine ts_cons (ts_Assign_Name (hfree := nofree) (tri_CallM (tri_Name l_match (tm_mat F.slot_reMatch_end F.type_reMatch_end ⟨kn_builtin, tx_nil (re_end ⟨_, u_pos (q := ce), ?_⟩)⟩))))
          refine ts_cons (ts_Continue (go (acc ++ [.col (colText x [g1, g2])]) ce _ _ _ _ _ _ _ _ _ _ _ hst hce (by simp) (fun u hu => ?_) (fun y hy => by rw [List.getElem?_set_ne (by omega), hk4 y (by omega)]; exact hk3 y hy) (by rw [List.getElem?_set_self (by omega)])))
          rcases List.mem_append.mp hu with hu | hu
          · exact hasc u hu
          · rcases List.mem_cons.mp hu with rfl | hu
            · exact hcT
            · cases hu
        rintro _ H3 ⟨nm, gr, ns, qu, rfl, hk3, ha3, hmiss⟩
        have hkeep := hk3
        have hacc := ha3
        have hal : H.length < H3.length := (List.getElem?_eq_some_iff.mp hacc).1
        have hkeep' : ∀ {c : Cell} y, y < H.length → (H3.set H.length c)[y]? = H[y]? := fun {c} y hy => by rw [List.getElem?_set_ne (by omega)]; exact hkeep y hy
        have hset : ∀ {c : Cell}, (H3.set H.length c)[H.length]? = some c := fun {c} => by rw [List.getElem?_set_self hal]
        have hset1 : isSet (x.getD p 0) = false ∨ x.getD p 0 = 34 := by
          rw [isSet_is, hsp, hpa]
          by_cases h34 : x.getD p 0 = 34
          · exact .inr h34
          · exact .inl (by rw [beq_eq_false_iff_ne.mpr h34]; rfl)
        have hend := termRes_end hlt hset1
        refine ts_cons (ts_Assign_Name (hfree := nofree) (tri_CallM (tri_glob rfl NX.term (den_pat hK ⟨_, rfl⟩) (tm_obj (by rw [hK]; rfl) rfl rfl F.plainAttrs_rePattern F.slot_rePattern_match F.type_rePattern_match ⟨kn_builtin, tx_cons (tri_Name l_query (tx_cons (tri_Name l_pos (tx_nil (re_match (kp_term hK) (by omega) (by omega) (by omega) (term_match hA (by omega) hlt hset1) ⟨_, u_match, ?_⟩)))))⟩))))
        obtain ⟨sp, sw, ss, hspan, hph, hsw, hss⟩ := termRes_three x p
        have hstep := scan_rest2 (cols := cols) (acc := acc) hsp' h40.1 h40.2 hng hmiss hspan
        rw [show termRes x p = ((termRes x p).1, [sp, sw, ss]) from Prod.ext rfl hspan]
        generalize (termRes x p).1 = e at *
        refine ts_cons (ts_If (tb_Compare (hm := by with_unfolding_all rfl) (tri_Name l_match (tri_none (is_none (tr_b (br_f (ts_nil ?_))))))))
        refine ts_cons (ts_Assign_Name (hfree := nofree) (tri_CallM (tri_Name l_match (tm_mat F.slot_reMatch_end F.type_reMatch_end ⟨kn_builtin, tx_nil (re_end ⟨_, u_pos (q := e), ?_⟩)⟩))))
        obtain ⟨g1, g2, g3⟩ := gv_names hK hW
        refine ts_cons (ts_Assign_Tuple (tri_CallM (tri_Name l_match (tm_mat F.slot_reMatch_group F.type_reMatch_group ⟨kn_builtin, tx_cons (tri_str (tx_cons (tri_str (tx_cons (tri_str (tx_nil (re_group (os := [sp, sw, ss]) (.cons (g := 0) g1 rfl (.cons (g := 1) g2 rfl (.cons (g := 2) g3 rfl .nil))) (by omega) (by decide) (by simp) ?_)))))))⟩))))
        refine ta_Tuple3 (u := gval sp x) (v := gval sw x) (w := gval ss x) u_ph u_wo u_st ?_ nofree nofree nofree
        refine ts_cut (fun m' H' => m' = sL i x H.length e (some (.str [x.getD p 0])) (some (.mat x 41 ((p : Int) :: (e : Int) :: spl [sp, sw, ss]))) nm gr ns qu (some (gval sp x)) (some (gval sw x)) (some (gval ss x)) te ∧ H3 = H' ∧ ¬ (sp = none ∧ ss = none ∧ isOpW (spanT x sw))) (ts_If (tb_BoolOp (ta_and (tb_Compare (hm := by with_unfolding_all rfl) (tri_Name l_ph (tri_none (is_none (tr_b ?_)))))))) ?_
        · rw [show isNoneV (gval sp x) = decide (sp = none) by rcases sp with _ | ⟨b, e'⟩ <;> rfl]
          refine br_c (fun h1 => ?_) (fun h1 => br_f (ts_nil ⟨rfl, rfl, fun h => (of_decide_eq_false h1) h.1⟩))
          have h1 := of_decide_eq_true h1
          refine ta_and (tb_Not (tb_plain (tri_Name l_st (tr_star hss ?_))))
          refine br_c (fun h2 => ?_) (fun h2 => br_f (ts_nil ⟨rfl, rfl, fun h => by rw [h.2.1] at h2; cases h2⟩))
          have h2 : ss = none := by
            rcases ss with _ | s
            · rfl
            · cases h2
          obtain ⟨b, e2, hw⟩ := hsw h1
          have hgw : gval sw x = .str (spanT x sw) := by rw [hw]; rfl
          rw [hgw]
          refine ta_and (tb_Compare (hm := by with_unfolding_all rfl) (tri_Name l_wo (tri_glob rfl NX.ops (fun η h re => den_ops hK re) (in_data (d := .str ⟨(spanT x sw).toArray⟩) (ds := [.str ⟨cAND.toArray⟩, .str ⟨cOR.toArray⟩, .str ⟨cNOT.toArray⟩]) rfl rfl (by simp only [PyData.canLay0]; exact strOk_asc (spanT_asc hA sw)) (by decide +kernel) (by simp [PyData.depth]) (tr_b ?_)))))
          rw [isOpW_any]
          refine br_c (fun h3 => ?_) (fun h3 => br_f (ts_nil ⟨rfl, rfl, fun h => (of_decide_eq_false h3) h.2.2⟩))
          have h3 := of_decide_eq_true h3
          refine ta_nil_and (br_t ?_)
          have hra : restAcc x acc sp sw ss = opAcc acc (spanT x sw) := by unfold restAcc; rw [if_pos ⟨h1, h2, h3⟩]
          rw [hra] at hstep
          generalize hwd : spanT x sw = wd at *
          have hwa : AscL wd := by rw [← hwd]; exact spanT_asc hA sw
          refine ts_cut (fun m' H' => m' = sL i x H.length e (some (.str [x.getD p 0])) (some (.mat x 41 ((p : Int) :: (e : Int) :: spl [sp, sw, ss]))) nm gr ns qu (some (gval sp x)) (some (.str wd)) (some (gval ss x)) te ∧ (∀ y, y < H.length → H'[y]? = H[y]?) ∧
            H'[H.length]? = some (.list ((if wd = cNOT ∧ acc.getLast? = some (.op cAND) then acc.dropLast else acc).map tkV))) (ts_If (tb_BoolOp (ta_and (tb_Compare (hm := by with_unfolding_all rfl) (tri_Name l_wo (tri_str (eq_s (tr_b ?_)))))))) ?_
          · rw [show (Str.ofString "NOT").cps.toList = cNOT by decide +kernel]
            refine br_c (fun h4 => ?_) (fun h4 => br_f (ts_nil ⟨rfl, hkeep, by rw [if_neg (fun h => (of_decide_eq_false h4) h.1)]; exact hacc⟩))
            have h4 := of_decide_eq_true h4
            refine ta_and (tb_plain (tri_Name l_tok (tr_l hacc ?_)))
            rcases List.eq_nil_or_concat acc with rfl | ⟨l, t, rfl⟩
            · exact br_f (br_f (ts_nil ⟨rfl, hkeep, by simpa using hacc⟩))
            · refine br_c (fun _ => ?_) (fun h => absurd (of_decide_eq_false h) (by simp))
              refine ta_and (tb_Compare (hm := by with_unfolding_all rfl) (tri_Subscript (tri_Name l_tok (tri_UnaryOp (tri_int (neg_i (t2_item_last hacc (v := tkV t) (by decide) (by simp; omega) ?_ ?_)))))))
              · rw [show ((-1 : Int) + (((l.concat t).map tkV).length : Nat)).toNat = l.length by simp; omega]; simp
              refine tri_Tuple (tx_cons (tri_str (tx_cons (tri_str (tx_nil ⟨by show 2 ≤ sizeLine; decide, ?_⟩)))))
              rw [show (Str.ofString "op").cps.toList = [111, 112] by decide +kernel, show (Str.ofString "AND").cps.toList = cAND by decide +kernel]
              refine eq_data (pyT_is t) (f := pyT (.op cAND)) rfl (pyT_lay (hasc t (by simp))) (by decide +kernel) (pyT_depth t) (tr_b ?_)
              rw [pyT_eqv]
              refine br_c (fun h5 => ?_) (fun h5 => br_f (ts_nil ⟨rfl, hkeep, by rw [if_neg (fun h => (of_decide_eq_false h5) (by simpa using h.2))]; exact hacc⟩))
              have h5 := of_decide_eq_true h5
              refine ta_nil_and (br_t ?_)
              refine ts_cons (ts_Expr (tri_CallM (tri_Name l_tok (tm_list hacc F.slot_list_pop F.type_list_pop ⟨kn_builtin, tx_nil (list_pop (xs := l.map tkV) (v := tkV t) (by rw [hacc]; simp) ?_)⟩))))
              refine ts_nil ⟨rfl, hkeep', ?_⟩
              rw [hset, if_pos ⟨h4, by simp [h5]⟩]
              simp
          · rintro _ H4 ⟨rfl, hk4, ha4⟩
            have hlen3 : ((if wd = cNOT ∧ acc.getLast? = some (.op cAND) then acc.dropLast else acc)).length ≤ acc.length := by split <;> simp
            have hal3 : H.length < H4.length := (List.getElem?_eq_some_iff.mp ha4).1
            refine ts_cons (t_app hK NX (t := .op wd) (acc := (if wd = cNOT ∧ acc.getLast? = some (.op cAND) then acc.dropLast else acc)) l_tok ha4 (by omega) (fun qq => tri_Tuple (tx_cons (tri_str (tx_cons (tri_Name l_wo (tx_nil ⟨by show 2 ≤ sizeLine; decide, ?_⟩)))))) ?_ rfl rfl rfl rfl rfl rfl)
            · rw [show (Str.ofString "op").cps.toList = [111, 112] by decide +kernel]; exact qq
            refine ts_cons (ts_Continue (go (opAcc acc wd) e _ _ _ _ _ _ _ _ _ _ _ hstep hend opAcc_len (opAcc_asc hasc hwa) (fun y hy => by rw [List.getElem?_set_ne (by omega)]; exact hk4 y hy) (by rw [List.getElem?_set_self hal3]; rfl)))
        rintro _ _ ⟨rfl, rfl, hno⟩
        have hra : restAcc x acc sp sw ss = if hasWord (textT x sp sw).toArray then acc ++ [termTk (textT x sp sw) ss] else acc := by unfold restAcc; rw [if_neg hno]
        have hasc2 : ∀ t ∈ restAcc x acc sp sw ss, AscTk t := restAcc_asc hA hasc
        have hlen2 : (restAcc x acc sp sw ss).length ≤ acc.length + 1 := restAcc_len
        refine ts_cons (ts_Assign_Name (hfree := nofree) (tri_IfExp (tb_Compare (hm := by with_unfolding_all rfl) (tri_Name l_ph (tri_none (is_none (tr_b ?_)))))))
        rw [show isNoneV (gval sp x) = decide (sp = none) by rcases sp with _ | ⟨b, e'⟩ <;> rfl]
        have hgt : ∀ {QQ : V → Loc → List Cell → Prop} {ee mm HH} {a1 a2 : Pos}, LkL mm "word" (gval sw x) → LkL mm "phrase" (gval sp x) → QQ (.str (textT x sp sw)) mm HH →
            Br (decide (sp = none)) (TE X (n + 1) ee mm HH (eval (.Name "word" a1) ee) QQ) (TE X (n + 1) ee mm HH (eval (.Name "phrase" a2) ee) QQ) := fun {QQ ee mm HH a1 a2} lw lp qq => by
          rcases sp with _ | ⟨b, e'⟩
          · obtain ⟨b, e2, hw⟩ := hsw rfl
            subst hw
            exact br_t (tri_Name lw qq)
          · exact br_f (tri_Name lp qq)
        refine hgt l_wo l_ph ⟨_, u_te, ?_⟩
        have htl := textT_len (x := x) sp sw
        refine ts_cons (ts_If (tb_plain (tri_CallM (tri_glob rfl NX.word (den_pat hK ⟨_, rfl⟩) (tm_obj (by rw [hK]; rfl) rfl rfl F.plainAttrs_rePattern F.slot_rePattern_search F.type_rePattern_search ⟨kn_builtin, tx_cons (tri_Name l_te (tx_nil (re_search (kp_word hK) (by omega) (fun h => tr_n ?_) (fun h its => tr_mat ?_))))⟩)))))
        · rw [hra, h] at hstep
          rw [if_neg (by decide)] at hstep
          exact br_f (ts_nil (ts_nil (go acc e _ _ _ _ _ _ _ _ _ _ _ hstep hend (by omega) hasc hkeep hacc)))
        · rw [hra, h, if_pos rfl] at hstep hasc2 hlen2
          refine br_t (ts_cons (t_app hK NX (t := termTk (textT x sp sw) ss) (acc := acc) l_tok hacc (by omega) (fun qq => tri_Tuple (tx_cons (tri_str (tx_cons (e_quot l_te l_st hss (by omega) (tx_nil ⟨by show 2 ≤ sizeLine; decide, ?_⟩)))))) ?_ rfl rfl rfl rfl rfl rfl))
          · rw [show (Str.ofString "term").cps.toList = [116, 101, 114, 109] by decide +kernel]; exact qq
          exact ts_nil (ts_nil (go (acc ++ [termTk (textT x sp sw) ss]) e _ _ _ _ _ _ _ _ _ _ _ hstep hend hlen2 hasc2 hkeep' hset))
      · have hge : ¬ p < x.length := by have := of_decide_eq_false hb; omega
        have e : scanLoop splitW id cols x f p acc = acc := by
          cases f with
          | zero => rfl
          | succ f => unfold scanLoop; rw [if_neg hge]
        rw [e] at hr
        subst hr
        exact ⟨p, ch, mt, nm, gr, ns, qu, ph, wo, st, te, rfl, hkeep, hacc, by omega, by omega⟩
    · rintro _ H2 ⟨p, ch, mt, nm, gr, ns, qu, ph, wo, st, te, rfl, hkeep, hacc, hlen, hle⟩
      have I2 : IsInst H2 i j 131 [("columns", .loc kc)] := ⟨by rw [hkeep i hil]; exact I.inst, by rw [hkeep j hjl]; exact I.dict⟩
      refine ts_cons (ts_Return (e_meth hK NX rfl rfl rfl .here I2 (show ("_balance" : Str) ∉ (["columns"] : List Str) by decide) (tx_cons (tri_Name l_tok (tx_nil (balance_ok hK NX hacc (by omega) fun H3 k' h1 h2 h3 h4 => ?_)))) rfl rfl))
      exact q H3 k' (fun y hy => by rw [h1 y (by omega)]; exact hkeep y hy) (by omega) (by omega) h4
end
end Mine
end
section
open PySem PySem.W PyProof.Rows PySem.Calls
set_option Elab.async false
set_option maxRecDepth 100000
set_option linter.unusedVariables false
set_option linter.unusedSectionVars false
namespace Mine
section
variable {P : Params} {X : Cx} (hK : X.K = KK P) (NX : Names X) (hB : BuiltinsOk X) (hW : X.w.params = P) {PT : Addr} (hG : GenCode X 120 PT) {n : Nat} {env : Env} {m : Loc} {H : List Cell} {i j : Nat} {x : List Nat} {cs : List (List Nat)}
  {Q : V → Loc → List Cell → Prop} {N B K : Loc → List Cell → Prop} {R : V → Loc → List Cell → Prop} {split : List Nat → List (List Nat)} {esc : List Nat → List Nat}
set_option maxHeartbeats 4000000
include hK NX
theorem init_okc {toks : List Tk} {v : V} (hsv : ∀ {env m H Q}, Q (.loc H.length) m (H ++ [Cell.set cs]) → TN X n env m H (fun cvs => call (.type "set") cvs) [v] Q) (S : ScanOk X n x cs toks) (hs : toks.length ≤ 100000 ∧ ∀ c, Tk.col c ∈ toks → c.length ≤ 100000) (I : IsInst H i j 131 []) (hij : i ≠ j)
    (q : ∀ H' k k', (∀ y, y < H.length → y ≠ j → H'[y]? = H[y]?) → H.length ≤ H'.length → PS H' i j k' (.loc k) toks 0 → Q .none m H') : CN X (n + 1) env m H (.ref 61) [.loc i, .str x, v] Q := by
  refine cn_call (names := ["self", "query", "columns"]) (ws := []) (ds := []) (by rw [hK]; rfl) (by rw [hK]; rfl) rfl rfl rfl rfl (by decide +kernel) rfl (fun s cvs hin hl => ?_) (fun _ _ => by unfold DenL; rfl) ?_
  · obtain ⟨c, d, e, rfl⟩ : ∃ c d e, cvs = [c, d, e] := by
      match cvs, hl with
      | [c, d, e], _ => exact ⟨c, d, e, rfl⟩
    exact BindsTo.of_eq rfl
  · intro env' hsc hcode
    obtain ⟨sc, lo', gl, ce, qu, fu, co, fr, bi⟩ := env'
    simp only at hsc hcode
    subst hsc hcode
    have hil : i < H.length := (List.getElem?_eq_some_iff.mp I.inst).1
    have hjl : j < H.length := (List.getElem?_eq_some_iff.mp I.dict).1
    show TS X n _ [("self", some (.loc i)), ("query", some (.str x)), ("columns", some v)] H (execs _ _) _ _ _ _
    have I1 : IsInst (H ++ [Cell.set cs]) i j 131 [] := ⟨by rw [List.getElem?_append_left hil]; exact I.inst, by rw [List.getElem?_append_left hjl]; exact I.dict⟩
    refine ts_cons (ts_Assign_Attr (tri_CallN (f := .type "set") rfl (.inr NX.set) kn_type (tx_cons (tri_Name (.there (.there .here)) (tx_nil (hsv (tri_Name .here (set_field I1 (clsOk hK) (by rw [hK]; rfl) .new (by decide) (.inr (by simp)) ?_))))))))
    have hset : ∀ {h : List Cell} {c : Cell}, j < h.length → (h.set j c)[j]? = some c := fun hl => by rw [List.getElem?_set_self hl]
    have I2 : IsInst ((H ++ [Cell.set cs]).set j (.dict [("columns", .loc H.length)])) i j 131 [("columns", .loc H.length)] := ⟨by rw [List.getElem?_set_ne (Ne.symm hij)]; exact I1.inst, hset (by simp; omega)⟩
    refine ts_cons (ts_Assign_Attr (e_meth hK NX rfl rfl rfl .here I2 (show ("_scan" : Str) ∉ (["columns"] : List Str) by decide) (tx_cons (tri_Name (.there .here) (tx_nil (S I2 (by rw [List.getElem?_set_ne (by omega)]; simp) fun H3 k' h1 h2 h3 h4 => tri_Name .here ?_)))) rfl rfl))
    have l2 : ((H ++ [Cell.set cs]).set j (.dict [("columns", .loc H.length)])).length = H.length + 1 := by simp
    have I3 : IsInst H3 i j 131 [("columns", .loc H.length)] := ⟨by rw [h1 i (by omega)]; exact I2.inst, by rw [h1 j (by omega)]; exact I2.dict⟩
    refine set_field I3 (clsOk hK) (by rw [hK]; rfl) (.there (by decide) .new) (by simp) (.inr (by simp; decide)) ?_
    have I4 : IsInst (H3.set j (.dict [("columns", .loc H.length), ("tokens", .loc k')])) i j 131 [("columns", .loc H.length), ("tokens", .loc k')] := ⟨by rw [List.getElem?_set_ne (Ne.symm hij)]; exact I3.inst, hset (by omega)⟩
    refine ts_cons (ts_Assign_Attr (tri_int (tri_Name .here (set_field I4 (clsOk hK) (by rw [hK]; rfl) (.there (by decide) (.there (by decide) .new)) (by simp) (.inr (by simp; decide)) ?_))))
    rw [List.set_set]
    refine ts_nil (q _ H.length k' (fun y hy hyj => ?_) (by simp; omega) ⟨⟨?_, hset (by omega)⟩, ?_, hs⟩)
    · rw [List.getElem?_set_ne (Ne.symm hyj), h1 y (by omega), List.getElem?_set_ne (Ne.symm hyj), List.getElem?_append_left hy]
    · rw [List.getElem?_set_ne (Ne.symm hij)]; exact I3.inst
    · rw [List.getElem?_set_ne (by omega)]; exact h4

include hB hG
/-- parse(text) by what its signs give -/
theorem parse_obj {D e : Nat} {toks : List Tk} {al : Addr} (L : KList X al cs) (hne : cs ≠ []) (hz : cs.length ≤ 1000) (S : ScanOk X (n + 4 * e + 2 * D) x cs toks) (hs : toks.length ≤ 100000 ∧ ∀ c, Tk.col c ∈ toks → c.length ≤ 100000) (he : opens toks + 1 ≤ e) (hd : ∀ nd, treeOf toks = some nd → dep nd ≤ D ∧ (renderN true nd).length ≤ 900000)
    (q : ∀ H', (∀ y, y < H.length → H'[y]? = H[y]?) → H.length ≤ H'.length → Q (.str (transl toks)) m H') : CN X (n + 4 * e + 2 * D + 4) env m H (.ref 143) [.str x, .obj al] Q := by
  refine cn_call (names := ["query", "columns"]) (ws := []) (ds := []) (by rw [hK]; rfl) (by rw [hK]; rfl) rfl rfl rfl rfl (by decide +kernel) rfl (fun s cvs hin hl => ?_) (fun _ _ => by unfold DenL; rfl) ?_
  · obtain ⟨c, c2, rfl⟩ : ∃ c c2, cvs = [c, c2] := by
      match cvs, hl with
      | [c, c2], _ => exact ⟨c, c2, rfl⟩
    exact binds_K hin rfl (by rw [hK]; rfl) rfl rfl rfl
  · intro env' hsc hcode
    obtain ⟨sc, lo', gl, ce, qu, fu, co, fr, bi⟩ := env'
    simp only at hsc hcode
    subst hsc hcode
    have hsb : (1002 : Nat) < scanBound := by unfold scanBound; decide
    show TS X (n + 4 * e + 2 * D + 3) _ [("query", some (.str x)), ("columns", some (.obj al))] H (execs _ _) _ _ _ _
    have hcols : ∀ {QQ : V → Loc → List Cell → Prop} {ee : Env} {a1 a2 a3 : Pos} {mm : Loc}, LkL mm "columns" (.obj al) → QQ (.obj al) mm H → TE X (n + 4 * e + 2 * D + 3) ee mm H (eval (.BoolOp .Or [.Name "columns" a1, .Tuple [] 0 a2] a3) ee) QQ := fun hl qq => by
      refine tri_BoolOp (tbo_or (tri_Name hl (tr_obj L hz (br_c (fun _ => qq) (fun h => ?_)))))
      exact absurd (of_decide_eq_false h) (by simpa using hne)
    refine ts_cons (ts_Return (tri_CallM (tri_CallN (f := .ref 131) rfl (.inl NX.parser) (hfun hK NX rfl) (tx_cons (tri_Name .here (tx_cons (hcols (.there .here) (tx_nil ?_))))))))
    refine tn_of_cn (cn_make (by rw [hK]; rfl) (by rw [hK]; rfl) (by rw [hK]; rfl) ?_)
    refine init_okc (i := H.length + 1) (j := H.length) hK NX (fun q => set_obj L (by omega) q) S hs ⟨by rw [List.getElem?_append_right (by simp)]; simp, by rw [List.append_assoc, List.getElem?_append_right (by simp)]; simp⟩ (by omega) fun H' k k' h1 h2 PSS => ⟨rfl, ?_⟩
    refine tm_method PSS.inst (clsOk hK) (by rw [hK]; rfl) (by rw [hK]; rfl) (show ("translate" : Str) ∉ (["columns", "tokens", "pos"] : List Str) by decide) ⟨hfun hK NX rfl, tx_nil (tn_of_cn ?_)⟩
    refine translate_ok hK NX hB hG he PSS hd fun H3 h3 h4 => ?_
    simp only [List.length_append, List.length_cons, List.length_nil] at h1 h2
    refine q H3 (fun y hy => ?_) (by omega)
    rw [h3 y (by omega) (by omega), h1 y (by omega) (by omega), List.append_assoc, List.getElem?_append_left hy]
end
end Mine
end
section
open PySem PySem.W PyProof.Rows PySem.Calls
set_option Elab.async false
set_option maxRecDepth 100000
set_option linter.unusedVariables false
set_option linter.unusedSectionVars false
namespace Mine
/-- the names of the law -/
structure LNm (X : Cx) : Prop where
  next : X.mg "_law_next" = some (.ref 150)
  state : X.mg "_law_state" = some (.ref 155)
  words : X.mg "_law_words" = some (.ref 162)
  phrases : X.mg "_law_phrases" = some (.ref 169)
  names : X.mg "_law_names" = some (.ref 170)
  tree : X.mg "_law_tree" = some (.ref 175)
  columns : X.mg "_law_columns" = some (.ref 182)
  atom : X.mg "_law_atom" = some (.ref 189)
  asked : X.mg "_law_asked" = some (.ref 196)
  bare : X.mg "_law_bare" = some (.ref 203)
  joined : X.mg "_law_joined" = some (.ref 210)
  any : X.mg "_law_any" = some (.ref 215)
  group : X.mg "_law_group" = some (.ref 220)
  part : X.mg "_law_part" = some (.ref 227)
  query : X.mg "_law_query" = some (.ref 232)
  parse : X.mg "parse" = some (.ref 143)
  range : X.mg "range" = none ∧ X.mb "range" = some (.type "range")
  int : X.mg "int" = none ∧ X.mb "int" = some (.type "int")
  abs : X.mg "abs" = none ∧ X.mb "abs" = some (.builtin "abs")
theorem lnm_of {p : Program} {loose : List Str} {mean : ExcName → Option Value} {mg mb : Str → Option Value} {h : Heap} {prog : Program} {w : World} (T : Top p loose mean mg mb h) (KX : (KK w.params).In h) : LNm (cxOf prog w T KX) where
  next := mg_of KX T.g (by kernel_rfl)
  state := mg_of KX T.g (by kernel_rfl)
  words := mg_of KX T.g (by kernel_rfl)
  phrases := mg_of KX T.g (by kernel_rfl)
  names := mg_of KX T.g (by kernel_rfl)
  tree := mg_of KX T.g (by kernel_rfl)
  columns := mg_of KX T.g (by kernel_rfl)
  atom := mg_of KX T.g (by kernel_rfl)
  asked := mg_of KX T.g (by kernel_rfl)
  bare := mg_of KX T.g (by kernel_rfl)
  joined := mg_of KX T.g (by kernel_rfl)
  any := mg_of KX T.g (by kernel_rfl)
  group := mg_of KX T.g (by kernel_rfl)
  part := mg_of KX T.g (by kernel_rfl)
  query := mg_of KX T.g (by kernel_rfl)
  parse := mg_of KX T.g (by kernel_rfl)
  range := ⟨mg_none_of KX T.g (by kernel_rfl), by show mb _ = _; rw [T.builtins _ (by decide)]; kernel_rfl⟩
  int := ⟨mg_none_of KX T.g (by kernel_rfl), by show mb _ = _; rw [T.builtins _ (by decide)]; kernel_rfl⟩
  abs := ⟨mg_none_of KX T.g (by kernel_rfl), by show mb _ = _; rw [T.builtins _ (by decide)]; kernel_rfl⟩
/-- the numbers of the state -/
structure StAt (H : List Cell) (st nb : Nat) (ns : List Nat) (at' : Nat) : Prop where
  hst : H[st]? = some (.list [.loc nb, .int at'])
  hnb : H[nb]? = some (.list (ns.map fun (k : Nat) => V.int (k : Int)))
  ne : st ≠ nb
  len : 0 < ns.length ∧ ns.length ≤ 100
  small : at' ≤ 100000
def draw (ns : List Nat) (at' many : Nat) : Nat := (ns.getD (at' % ns.length) 0 / (1 + at' / ns.length) + 7 * (at' / ns.length)) % many
section
variable {P : Params} {X : Cx} (hK : X.K = KK P) (NX : Names X) (LX : LNm X) {n : Nat} {env : Env} {m : Loc} {H : List Cell} {st nb : Nat} {ns : List Nat} {at' many : Nat}
  {Q : V → Loc → List Cell → Prop} {N B K : Loc → List Cell → Prop} {R : V → Loc → List Cell → Prop}
set_option maxHeartbeats 4000000
include hK NX
theorem next_ok (S : StAt H st nb ns at') (hm : 0 < many) (q : Q (.int (draw ns at' many)) m (H.set st (.list [.loc nb, .int ((at' + 1 : Nat) : Int)]))) : CN X (n + 1) env m H (.ref 150) [.loc st, .int many] Q := by
  refine cn_call (names := ["state", "many"]) (ws := []) (ds := []) (by rw [hK]; rfl) (by rw [hK]; rfl) rfl rfl rfl rfl (by decide +kernel) rfl (fun s cvs hin hl => ?_) (fun _ _ => by unfold DenL; rfl) ?_
  · obtain ⟨c, d, rfl⟩ : ∃ c d, cvs = [c, d] := by
      match cvs, hl with
      | [c, d], _ => exact ⟨c, d, rfl⟩
    exact BindsTo.of_eq rfl
  · intro env' hsc hcode
    obtain ⟨sc, lo', gl, ce, qu, fu, co, fr, bi⟩ := env'
    simp only at hsc hcode
    subst hsc hcode
    have hlen := S.len
    have hsm := S.small
    show TS X n _ [("state", some (.loc st)), ("many", some (.int many)), ("numbers", none), ("at", none), ("turn", none)] H (execs _ _) _ _ _ _
    refine ts_cons (ts_Assign_swap2 (x := "numbers") (y := "at") (tri_Tuple (tx_cons (tri_Subscript (tri_Name .here (tri_int (t2_item_list S.hst (by decide) (v := .loc nb) rfl (tx_cons (tri_Subscript (tri_Name .here (tri_int (t2_item_list S.hst (by decide) (v := .int at') rfl (tx_nil ⟨by show 2 ≤ sizeLine; decide, ?_⟩)))))))))))) nofree nofree)
    refine ⟨_, _, _, _, rfl, .there (.there (.there .here)), .there (.there .here), ?_⟩
    refine ts_cons (ts_Assign_Sub (tri_BinOp (tri_Name (.there (.there (.there .here))) (tri_int (add_i (tri_Name .here (tri_int (list_set S.hst 1 (by simp) (.inl rfl) ?_))))))))
    have e1 : ((at' : Int) + 1) = ((at' + 1 : Nat) : Int) := by omega
    have hset : ([V.loc nb, .int at'] : List V).set 1 (.int ((at' : Int) + 1)) = [.loc nb, .int ((at' + 1 : Nat) : Int)] := by rw [e1]; rfl
    rw [hset]
    have hnb : (H.set st (.list [.loc nb, .int ((at' + 1 : Nat) : Int)]))[nb]? = some (.list (ns.map fun (k : Nat) => V.int (k : Int))) := by rw [List.getElem?_set_ne S.ne]; exact S.hnb
    have hL : (ns.map fun (k : Nat) => V.int (k : Int)).length = ns.length := by simp
    refine ts_cons (ts_Assign_Name (hfree := nofree) (tri_BinOp (tri_Name (.there (.there (.there .here))) (tri_CallN (f := .builtin "len") rfl (.inr NX.len) kn_builtin (tx_cons (tri_Name (.there (.there .here)) (tx_nil (len_l hnb (floordiv_i (by rw [hL]; omega) (by rw [hL]; omega) ⟨_, .there (.there (.there (.there .here))), ?_⟩)))))))))
    rw [hL]
    have e2 : ((at' : Int) / (ns.length : Nat)) = ((at' / ns.length : Nat) : Int) := by simp
    rw [e2]
    have ht : at' / ns.length ≤ at' := Nat.div_le_self _ _
    have e4 : ∀ tq : Nat, at' / ns.length = tq → (((ns.getD (at' % ns.length) 0 : Nat) : Int) / (1 + (tq : Int)) + 7 * (tq : Int)) % (many : Int) = (draw ns at' many : Nat) := fun tq h => by
      unfold draw; rw [h]; simp
    generalize htq : at' / ns.length = tq at *
    refine ts_cons (ts_Return (tri_BinOp (tri_BinOp (tri_BinOp (tri_Subscript (tri_Name (.there (.there .here)) (tri_BinOp (tri_Name (.there (.there (.there .here))) (tri_CallN (f := .builtin "len") rfl (.inr NX.len) kn_builtin (tx_cons (tri_Name (.there (.there .here)) (tx_nil (len_l hnb (mod_i (by rw [hL]; omega) ?_))))))))))))))
    rw [hL]
    have e3 : ((at' : Int) % (ns.length : Nat)) = ((at' % ns.length : Nat) : Int) := by simp
    rw [e3]
    have hlt : at' % ns.length < ns.length := Nat.mod_lt _ hlen.1
    refine t2_item_list hnb (by omega) (v := .int ((ns.getD (at' % ns.length) 0 : Nat) : Int)) ?_ ?_
    · rw [Int.toNat_natCast, List.getElem?_map, List.getElem?_eq_getElem hlt, List.getD_eq_getElem?_getD, List.getElem?_eq_getElem hlt]; rfl
    refine tri_BinOp (tri_int (tri_Name (.there (.there (.there (.there .here)))) (add_i (floordiv_i (by omega) (by omega) ?_))))
    refine tri_BinOp (tri_int (tri_Name (.there (.there (.there (.there .here)))) (mul_i (by decide) (by decide) (add_i (tri_Name (.there .here) (mod_i (by omega) ?_))))))
    rw [e4 tq rfl]
    exact q
end
/-- the numbers of a script -/
def numsOf (xs : List Int) : List Nat := (cutL xs none (some 24)).map (fun i => i.natAbs % 1000003) ++ [5, 0, 11]
theorem numsOf_len (xs : List Int) : 0 < (numsOf xs).length ∧ (numsOf xs).length ≤ 100 := by
  unfold numsOf cutL clipI
  simp
  omega
section
variable {P : Params} {X : Cx} (hK : X.K = KK P) (NX : Names X) (LX : LNm X) {n : Nat} {env : Env} {m : Loc} {H : List Cell} {st nb : Nat} {ns : List Nat} {at' many : Nat}
  {Q : V → Loc → List Cell → Prop} {N B K : Loc → List Cell → Prop} {R : V → Loc → List Cell → Prop}
set_option maxHeartbeats 4000000
include hK NX LX
theorem state_ok {xs : List Int} (hx : xs.length ≤ 1000) (q : ∀ H' st nb, (∀ y, y < H.length → H'[y]? = H[y]?) → H.length ≤ H'.length → H.length ≤ st → StAt H' st nb (numsOf xs) 0 → Q (.loc st) m H') : CN X (n + 1) env m H (.ref 155) [.fl xs] Q := by
  refine cn_call (names := ["script"]) (ws := []) (ds := []) (by rw [hK]; rfl) (by rw [hK]; rfl) rfl rfl rfl rfl (by decide +kernel) rfl (fun s cvs hin hl => ?_) (fun _ _ => by unfold DenL; rfl) ?_
  · obtain ⟨c, rfl⟩ : ∃ c, cvs = [c] := by
      match cvs, hl with
      | [c], _ => exact ⟨c, rfl⟩
    exact BindsTo.of_eq rfl
  · intro env' hsc hcode
    obtain ⟨sc, lo', gl, ce, qu, fu, co, fr, bi⟩ := env'
    simp only at hsc hcode
    subst hsc hcode
    have hsl : sizeLine = 16777216 := rfl
    show TS X n _ [("script", some (.fl xs))] H (execs _ _) _ _ _ _
    have hcl := cutL_le xs none (some 24)
    generalize hcut : cutL xs none (some 24) = cut at *
    have hH1 : (H ++ [Cell.list (cut.map V.int)])[H.length]? = some (.list (cut.map V.int)) := by simp
    refine ts_cons (ts_Return (tri_List (tx_cons (tri_BinOp (tri_ListComp [] ⟨by simp, by simp, by simp⟩ rfl (by decide) (by decide) ⟨rfl, by decide, by decide⟩ (tri_Subscript (tri_Name .here (tri_Slice (e1 := fun _ => pure Value.none) (e2 := fun _ => pure Value.none) (tvn_none (tvn_some (tri_int ⟨none, some 24, .inl ⟨rfl, rfl⟩, .inr ⟨24, rfl, rfl⟩, t2_cut_fl (by omega) ?_⟩)))))))))))
    rw [hcut]
    refine ⟨rfl, .lst H.length 0, rfl, fun i e => ⟨_, by cases e; exact hH1⟩, fun k e => (by cases e), fun cl C => ?_⟩
    refine tc_map (I := fun k H' => ∀ y, y < H.length + 1 → H'[y]? = (H ++ [Cell.list (cut.map V.int)])[y]?) (S := fun k => .lst H.length k) (val := fun k => .int (cut.getD k 0)) (W := fun k => .int (((cut.getD k 0).natAbs % 1000003 : Nat) : Int)) (N := cut.length) (fvl := []) (by exact nofree) (by omega)
      (fun k H' c hI y hy => by rw [List.getElem?_set_ne (by simp; omega)]; exact hI y hy) (fun k hk H' hI => ?_) (fun H' hI => ?_) (fun k hk H' hI ha => ?_) (fun w H' hI ha => ⟨by simp, ?_⟩) cut.length 0 (by omega) none _ (fun y hy => by rw [List.getElem?_append_left (by simp; omega)]) (by simp)
    · refine next_cons (vs := cut.map V.int) (by rw [hI _ (by omega)]; exact hH1) ?_
      rw [List.getElem?_map, List.getElem?_eq_getElem hk, List.getD_eq_getElem?_getD, List.getElem?_eq_getElem hk]; rfl
    · exact next_nil (vs := cut.map V.int) (by rw [hI _ (by omega)]; exact hH1) (by simp)
    · refine tri_BinOp (tri_CallN (f := .builtin "abs") rfl (.inr LX.abs) kn_builtin (tx_cons (tri_Name .here (tx_nil (abs_i (tri_int (mod_i (by decide) ⟨rfl, ?_, hI, rfl⟩)))))))
      simp
    · have hlist : (List.range cut.length).map (fun k => V.int (((cut.getD k 0).natAbs % 1000003 : Nat) : Int)) = (cut.map fun i => i.natAbs % 1000003).map fun (k : Nat) => V.int (k : Int) := by
        apply List.ext_getElem
        · simp
        · intro i h1 h2
          simp at h1
          simp [List.getD_eq_getElem?_getD, List.getElem?_eq_getElem h1]
      rw [hlist] at ha
      have hl1 : H'.length > H.length + 1 := by
        have := (List.getElem?_eq_some_iff.mp ha).1; simpa using this
      refine tri_List (tx_cons (tri_int (tx_cons (tri_int (tx_cons (tri_int (tx_nil ⟨by show 3 ≤ sizeLine; decide, ?_⟩)))))))
      have ha2 : (H' ++ [Cell.list [.int 5, .int 0, .int 11]])[(H ++ [Cell.list (cut.map V.int)]).length]? = some (.list ((cut.map fun i => i.natAbs % 1000003).map fun (k : Nat) => V.int (k : Int))) := by
        rw [List.getElem?_append_left (by simp; omega)]; exact ha
      refine add_l (ys := [.int 5, .int 0, .int 11]) ha2 (by simp) (by simp; omega) ?_
      refine tx_cons (tri_int (tx_nil ⟨by show 2 ≤ sizeLine; decide, ?_⟩))
      refine q _ _ (H' ++ [Cell.list [.int 5, .int 0, .int 11]]).length (fun y hy => ?_) (by simp; omega) (by simp; omega) ⟨by simp, ?_, by simp, ?_, by omega⟩
      · rw [List.append_assoc, List.append_assoc, List.getElem?_append_left (by omega), hI y (by omega), List.getElem?_append_left hy]
      · unfold numsOf
        rw [hcut, List.append_assoc, List.getElem?_append_right (Nat.le_refl _)]
        simp
      · exact numsOf_len xs
end
/-- the heap has grown -/
def Ext (H H' : List Cell) : Prop := (∀ y, y < H.length → H'[y]? = H[y]?) ∧ H.length ≤ H'.length
theorem Ext.refl {H : List Cell} : Ext H H := ⟨fun _ _ => rfl, Nat.le_refl _⟩
theorem Ext.trans {H H' H'' : List Cell} (a : Ext H H') (b : Ext H' H'') : Ext H H'' := ⟨fun y hy => (b.1 y (Nat.lt_of_lt_of_le hy a.2)).trans (a.1 y hy), Nat.le_trans a.2 b.2⟩
theorem Ext.snoc {H : List Cell} {c : Cell} : Ext H (H ++ [c]) := ⟨fun y hy => by rw [List.getElem?_append_left hy], by simp⟩
theorem Ext.get {H H' : List Cell} (e : Ext H H') {x : Nat} {c : Cell} (h : H[x]? = some c) : H'[x]? = some c := (e.1 x (List.getElem?_eq_some_iff.mp h).1).trans h
theorem Ext.set {H H' : List Cell} {a : Nat} {c : Cell} (e : Ext H H') (ha : H.length ≤ a) : Ext H (H'.set a c) := ⟨fun y hy => by rw [List.getElem?_set_ne (by omega)]; exact e.1 y hy, by rw [List.length_set]; exact e.2⟩
theorem StAt.gr {H H' : List Cell} {st nb at' at2 : Nat} {ns : List Nat} (S : StAt H st nb ns at') (g : Gr st H H') (h : H'[st]? = some (.list [.loc nb, .int at2])) (h2 : at2 ≤ 100000) : StAt H' st nb ns at2 := ⟨h, g.get S.hnb (Ne.symm S.ne), S.ne, S.len, h2⟩
theorem StAt.ext {H H' : List Cell} {st nb at' : Nat} {ns : List Nat} (S : StAt H st nb ns at') (e : Ext H H') : StAt H' st nb ns at' := ⟨e.get S.hst, e.get S.hnb, S.ne, S.len, S.small⟩
theorem StAt.setHi {H : List Cell} {st nb at' a : Nat} {c : Cell} {ns : List Nat} (S : StAt H st nb ns at') (h1 : a ≠ st) (h2 : a ≠ nb) : StAt (H.set a c) st nb ns at' := ⟨by rw [List.getElem?_set_ne h1]; exact S.hst, by rw [List.getElem?_set_ne h2]; exact S.hnb, S.ne, S.len, S.small⟩
theorem StAt.next {H : List Cell} {st nb at' : Nat} {ns : List Nat} (S : StAt H st nb ns at') (h : at' < 100000) : StAt (H.set st (.list [.loc nb, .int ((at' + 1 : Nat) : Int)])) st nb ns (at' + 1) := by
  have := (List.getElem?_eq_some_iff.mp S.hst).1
  exact ⟨by rw [List.getElem?_set_self this], by rw [List.getElem?_set_ne S.ne]; exact S.hnb, S.ne, S.len, by omega⟩
theorem StAt.lt {H : List Cell} {st nb at' : Nat} {ns : List Nat} (S : StAt H st nb ns at') : st < H.length ∧ nb < H.length := ⟨(List.getElem?_eq_some_iff.mp S.hst).1, (List.getElem?_eq_some_iff.mp S.hnb).1⟩
theorem draw_lt {ns : List Nat} {a many : Nat} (h : 0 < many) : draw ns a many < many := Nat.mod_lt _ h

theorem frees_cell {env : Env} {m : Loc} {scope : Scope} {k : Str → Option NameKind} {v : V} {x : Str} (h1 : (x, some v) ∈ m) (h2 : env.kindOf x ≠ some .local) (h3 : (x, NameKind.free) ∈ scope.names) (h4 : k x = some .cell ∨ k x = some .free) (h5 : x ≠ "__debug__" ∧ x ≠ "__classdict__")
    (h6 : ∀ y, (y, NameKind.free) ∈ scope.names → y = x) : Frees env m scope k [(x, v)] where
  mem := fun p hp => by
    rcases List.mem_cons.mp hp with rfl | hp
    · exact ⟨h1, h2, h3, h4, h5.1, h5.2⟩
    · cases hp
  all := fun y hy => ⟨v, by rw [h6 y hy]; exact .head _⟩
  nd := by simp

section
variable {P : Params} {X : Cx} (hK : X.K = KK P) (NX : Names X) (LX : LNm X) {n : Nat} {env : Env} {m : Loc} {H : List Cell}
  {Q : V → Loc → List Cell → Prop} {N B K : Loc → List Cell → Prop} {R : V → Loc → List Cell → Prop}
include hK NX LX
/-- _law_next(state, many) -/
theorem e_next {a b c d : Pos} {kk} {many st nb at' : Nat} {ns : List Nat} (hk : env.kindOf "_law_next" = some .globalImplicit) (hl : LkL m "state" (.loc st)) (S : StAt H st nb ns at') (hm : 0 < many)
    (q : Q (.int (draw ns at' many)) m (H.set st (.list [.loc nb, .int ((at' + 1 : Nat) : Int)]))) : TE X (n + 1) env m H (eval (.Call (.Name "_law_next" a) [.Name "state" b, .Constant (.int many) kk c] [] d) env) Q :=
  tri_CallN (f := .ref 150) hk (.inl LX.next) (hfun hK NX rfl) (tx_cons (tri_Name hl (tx_cons (tri_int (tx_nil (tn_of_cn (next_ok hK NX S hm q)))))))
end
end Mine
end
section
open PySem PySem.W PyProof.Rows PySem.Calls
set_option Elab.async false
set_option maxRecDepth 100000
set_option linter.unusedVariables false
namespace Mine
/-- a comprehension that turns one item into one, of which no more is known than J says -/
theorem tc_rel {X : Cx} {n : Nat} {cenv : Env} {x : Str} {px pos : Pos} {scope : Scope} {elt iter : Expr} {acc : Nat} {fvl : Loc} {Q : Loc → List Cell → Prop} {J : Nat → List V → List Cell → Prop} {S : Nat → Src} {val : Nat → V} {N : Nat}
    (hfree : cenv.kindOf x ≠ some .free) (hN : N ≤ 100000) (hset : ∀ k d H c, J k d H → J k d (H.set acc c)) (hnext : ∀ k < N, ∀ d H, J k d H → nextS H (S k) = some (some (val k, S (k + 1)))) (hend : ∀ d H, J N d H → nextS H (S N) = some none)
    (helt : ∀ k < N, ∀ d H, J k d H → acc < H.length → TE X n cenv ((x, some (val k)) :: fvl) H (eval elt cenv) fun y mi' H' => mi' = (x, some (val k)) :: fvl ∧ J (k + 1) (d ++ [y]) H' ∧ H'[acc]? = H[acc]?)
    (q : ∀ w d H, J N d H → d.length = N → H[acc]? = some (.list d) → Q ((x, w) :: fvl) H) :
    ∀ (j k : Nat), k + j = N → ∀ (w : Option V) (d : List V) (H : List Cell), d.length = k → J k d H → H[acc]? = some (.list d) → TC X n cenv ((x, w) :: fvl) H elt (.Name x px) iter [] scope pos (S k) acc Q := by
  intro j
  induction j with
  | zero =>
    intro k hk w d H hd hI ha
    obtain rfl : k = N := by omega
    exact tc_turn (r := none) (hend d H hI) (q w d H hI hd ha)
  | succ j ih =>
    intro k hk w d H hd hI ha
    refine tc_turn (r := some (val k, S (k + 1))) (hnext k (by omega) d H hI) ?_
    refine ta_Name .here ?_ hfree
    refine tt_nil (br_t ?_)
    have hal := (List.getElem?_eq_some_iff.mp ha).1
    refine TriP.mono (helt k (by omega) d H hI hal) fun y m' H' ⟨h1, h3, h4⟩ => ?_
    subst h1
    rw [ha] at h4
    have hal' := (List.getElem?_eq_some_iff.mp h4).1
    have hsl : sizeLine = 16777216 := rfl
    refine list_append h4 (by omega) ?_
    refine ih (k + 1) (by omega) _ (d ++ [y]) _ (by simp [hd]) (hset _ _ _ _ h3) ?_
    rw [List.getElem?_set_self hal']
end Mine
end
section
open PySem PySem.W PyProof.Rows PySem.Calls
set_option Elab.async false
set_option maxRecDepth 100000
set_option linter.unusedVariables false
set_option linter.unusedSectionVars false
namespace Mine
mutual
inductive LTAt (H : List Cell) (lo : Nat) : LT → V → Prop where
  | t {s} : LTAt H lo (.t s) (.tup [.str [116], .str s])
  | w {s st} : LTAt H lo (.w s st) (.tup [.str [119], .str s, .str st])
  | col {ns t x v} : lo ≤ x → H[x]? = some (.list (ns.map V.str)) → LTAt H lo t v → LTAt H lo (.col ns t) (.tup [.str [99, 111, 108], .loc x, v])
  | and {l x vs} : lo ≤ x → H[x]? = some (.list vs) → LTsAt H lo l vs → LTAt H lo (.and l) (.tup [.str [97, 110, 100], .loc x])
  | or {l x vs} : lo ≤ x → H[x]? = some (.list vs) → LTsAt H lo l vs → LTAt H lo (.or l) (.tup [.str [111, 114], .loc x])
  | not {t v l x vs} : LTAt H lo t v → lo ≤ x → H[x]? = some (.list vs) → LTsAt H lo l vs → LTAt H lo (.not t l) (.tup [.str [110, 111, 116], v, .loc x])
inductive LTsAt (H : List Cell) (lo : Nat) : List LT → List V → Prop where
  | nil : LTsAt H lo [] []
  | cons {t v l vs} : LTAt H lo t v → LTsAt H lo l vs → LTsAt H lo (t :: l) (v :: vs)
end
mutual
theorem LTAt.move {H H' : List Cell} {lo lo' : Nat} (hl : lo' ≤ lo) (g : ∀ (x : Nat) (vs : List V), lo ≤ x → H[x]? = some (Cell.list vs) → H'[x]? = some (Cell.list vs)) : ∀ {t v}, LTAt H lo t v → LTAt H' lo' t v
  | _, _, .t => .t
  | _, _, .w => .w
  | _, _, .col hx he h => .col (Nat.le_trans hl hx) (g _ _ hx he) (LTAt.move hl g h)
  | _, _, .and hx he h => .and (Nat.le_trans hl hx) (g _ _ hx he) (LTsAt.move hl g h)
  | _, _, .or hx he h => .or (Nat.le_trans hl hx) (g _ _ hx he) (LTsAt.move hl g h)
  | _, _, .not h0 hx he h => .not (LTAt.move hl g h0) (Nat.le_trans hl hx) (g _ _ hx he) (LTsAt.move hl g h)
theorem LTsAt.move {H H' : List Cell} {lo lo' : Nat} (hl : lo' ≤ lo) (g : ∀ (x : Nat) (vs : List V), lo ≤ x → H[x]? = some (Cell.list vs) → H'[x]? = some (Cell.list vs)) : ∀ {l vs}, LTsAt H lo l vs → LTsAt H' lo' l vs
  | _, _, .nil => .nil
  | _, _, .cons h t => .cons (LTAt.move hl g h) (LTsAt.move hl g t)
end
theorem LTsAt.snoc {H lo} : ∀ {l vs t v}, LTsAt H lo l vs → LTAt H lo t v → LTsAt H lo (l ++ [t]) (vs ++ [v])
  | _, _, _, _, .nil, h => .cons h .nil
  | _, _, _, _, .cons a t, h => .cons a (LTsAt.snoc t h)
theorem LTsAt.len {H lo} : ∀ {l vs}, LTsAt H lo l vs → vs.length = l.length
  | _, _, .nil => rfl
  | _, _, .cons _ b => by simp [LTsAt.len b]
theorem LTsAt.get {H lo} : ∀ {l vs} {k : Nat} {t : LT}, LTsAt H lo l vs → l[k]? = some t → ∃ v, vs[k]? = some v ∧ LTAt H lo t v
  | _, _, 0, _, .cons a _, h => by cases h; exact ⟨_, rfl, a⟩
  | _, _, k + 1, _, .cons _ b, h => LTsAt.get (k := k) b h
theorem Gr.lt_move {st lo : Nat} {H H' : List Cell} (g : Gr st H H') (h : st < lo) : ∀ (x : Nat) (vs : List V), lo ≤ x → H[x]? = some (Cell.list vs) → H'[x]? = some (Cell.list vs) := fun x vs hx e => g.get e (by omega)
theorem LTAt.gr {st lo : Nat} {H H' : List Cell} (g : Gr st H H') (hs : st < lo) {t v} (h : LTAt H lo t v) : LTAt H' lo t v := LTAt.move (Nat.le_refl _) (g.lt_move hs) h
theorem LTsAt.gr {st lo : Nat} {H H' : List Cell} (g : Gr st H H') (hs : st < lo) {t v} (h : LTsAt H lo t v) : LTsAt H' lo t v := LTsAt.move (Nat.le_refl _) (g.lt_move hs) h
theorem goodL_snoc {d : Nat} : ∀ {l : List LT} {t : LT}, goodL d l → goodT d t → goodL d (l ++ [t])
  | [], t, _, h => ⟨h, trivial⟩
  | x :: l, t, h, g => ⟨h.1, goodL_snoc h.2 g⟩
def costT : Nat → Nat
  | 0 => 6
  | d + 1 => 6 + 3 * costT d
section
variable {P : Params} {X : Cx} (hK : X.K = KK P) (NX : Names X) (LX : LNm X) {n : Nat} {env : Env} {m : Loc} {H : List Cell} {st nb : Nat} {ns : List Nat} {at' : Nat}
  {Q : V → Loc → List Cell → Prop} {N B K : Loc → List Cell → Prop} {R : V → Loc → List Cell → Prop}
set_option maxHeartbeats 8000000
include hK
theorem k_names : KList X 170 NAMES := by
  refine ⟨_, _, by rw [hK]; rfl, rfl, fun i x h => ?_⟩
  rcases i with _ | _ | _ | i
  · cases h; exact ⟨_, rfl⟩
  · cases h; exact ⟨_, rfl⟩
  · cases h; exact ⟨_, rfl⟩
  · simp [NAMES] at h
include NX LX
theorem words_ok (q : Q (.loc H.length) m (H ++ [.list (WORDS.map V.str)])) : CN X (n + 1) env m H (.ref 162) [] Q := by
  refine cn_call (names := []) (ws := []) (ds := []) (by rw [hK]; rfl) (by rw [hK]; rfl) rfl rfl rfl rfl (by decide +kernel) rfl (fun s cvs hin hl => ?_) (fun _ _ => by unfold DenL; rfl) ?_
  · obtain rfl : cvs = [] := by
      match cvs, hl with
      | [], _ => rfl
    exact BindsTo.of_eq rfl
  · intro env' hsc hcode
    refine ts_cons (ts_Return (tri_List (tx_cons (tri_str (tx_cons (tri_str (tx_cons (tri_str (tx_cons (tri_str (tx_cons (tri_str (tx_cons (tri_str (tx_cons (tri_str (tx_cons (tri_str (tx_nil ⟨by show 8 ≤ sizeLine; decide, ?_⟩)))))))))))))))))))
    rw [show (Str.ofString "a").cps.toList = [97] by decide +kernel, show (Str.ofString "bc").cps.toList = [98, 99] by decide +kernel, show (Str.ofString "d-e").cps.toList = [100, 45, 101] by decide +kernel, show (Str.ofString "or").cps.toList = [111, 114] by decide +kernel,
      show (Str.ofString "it's").cps.toList = [105, 116, 39, 115] by decide +kernel, show (Str.ofString "x:y").cps.toList = [120, 58, 121] by decide +kernel, show (Str.ofString "9").cps.toList = [57] by decide +kernel, show (Str.ofString "not").cps.toList = [110, 111, 116] by decide +kernel]
    exact q
theorem phrases_ok (q : Q (.loc H.length) m (H ++ [.list (PHRASES.map V.str)])) : CN X (n + 1) env m H (.ref 169) [] Q := by
  refine cn_call (names := []) (ws := []) (ds := []) (by rw [hK]; rfl) (by rw [hK]; rfl) rfl rfl rfl rfl (by decide +kernel) rfl (fun s cvs hin hl => ?_) (fun _ _ => by unfold DenL; rfl) ?_
  · obtain rfl : cvs = [] := by
      match cvs, hl with
      | [], _ => rfl
    exact BindsTo.of_eq rfl
  · intro env' hsc hcode
    refine ts_cons (ts_Return (tri_List (tx_cons (tri_str (tx_cons (tri_str (tx_cons (tri_str (tx_cons (tri_str (tx_cons (tri_str (tx_cons (tri_str (tx_nil ⟨by show 6 ≤ sizeLine; decide, ?_⟩)))))))))))))))
    rw [show (Str.ofString "a b").cps.toList = [97, 32, 98] by decide +kernel, show (Str.ofString "OR").cps.toList = [79, 82] by decide +kernel, show (Str.ofString "(z").cps.toList = [40, 122] by decide +kernel, show (Str.ofString "-q").cps.toList = [45, 113] by decide +kernel,
      show (Str.ofString "AND").cps.toList = [65, 78, 68] by decide +kernel, show (Str.ofString "  u  v ").cps.toList = [32, 32, 117, 32, 32, 118, 32] by decide +kernel]
    exact q

/-- the locals of _law_tree -/
abbrev tT (st d : Nat) (a b c e : Option V) : Loc := [("state", some (.loc st)), ("deep", some (.int d)), ("way", a), ("star", b), ("names", c), ("many", e)]
/-- what calls of _law_tree give -/
def TreeOk (X : Cx) (n st nb : Nat) (ns : List Nat) (d : Nat) : Prop :=
  ∀ {env m H at' Q}, StAt H st nb ns at' → at' + costT d ≤ 100000 → (∀ H' v t at2, goodT d t → LTAt H' H.length t v → Gr st H H' → StAt H' st nb ns at2 → at2 ≤ at' + costT d → Q v m H') → CN X (n + d + 2) env m H (.ref 175) [.loc st, .int d] Q
theorem pick_str {ns : List Nat} {a k : Nat} {L : List (List Nat)} (h : draw ns a k < L.length) : (L.map V.str)[((draw ns a k : Nat) : Int).toNat]? = some (.str (L.getD (draw ns a k) [])) ∧ L.getD (draw ns a k) [] ∈ L := by
  rw [Int.toNat_natCast, List.getElem?_map, List.getElem?_eq_getElem h, List.getD_eq_getElem?_getD, List.getElem?_eq_getElem h]
  exact ⟨rfl, List.getElem_mem _⟩
/-- trees of the next depth, one for each turn -/
theorem trees_comp {d' : Nat} {e1 e2 e3 e4 e5 e6 : Pos} {kk : Nat} {scope : Scope} {iter : Expr} {px pos : Pos} {cenv : Env} {N a : Nat} {Qc : Loc → List Cell → Prop} (T : TreeOk X n st nb ns d') (hS : StAt H st nb ns a) (hc : a + N * costT d' ≤ 100000) (hN : N ≤ 3)
    (hk1 : cenv.kindOf "turn" ≠ some .free) (hk2 : cenv.kindOf "_law_tree" = some .globalImplicit)
    (q : ∀ w d H' l at2, Gr st H H' → StAt H' st nb ns at2 → at2 ≤ a + N * costT d' → LTsAt H' (H.length + 1) l d → l.length = N → goodL d' l → H'[H.length]? = some (.list d) → Qc (("turn", w) :: [("deep", some (.int ((d' + 1 : Nat) : Int))), ("state", some (.loc st))]) H') :
    TC X (n + d' + 2) cenv (("turn", none) :: [("deep", some (.int ((d' + 1 : Nat) : Int))), ("state", some (.loc st))]) (H ++ [.list []]) (.Call (.Name "_law_tree" e1) [.Name "state" e2, .BinOp (.Name "deep" e3) .Sub (.Constant (.int 1) kk e4) e5] [] e6) (.Name "turn" px) iter [] scope pos (.rng 0 N) H.length Qc := by
  have hlt := hS.lt
  refine tc_rel (J := fun k d H' => Gr st H H' ∧ ∃ l a', StAt H' st nb ns a' ∧ a' ≤ a + k * costT d' ∧ LTsAt H' (H.length + 1) l d ∧ l.length = k ∧ goodL d' l) (S := fun k => .rng (k : Nat) (N - k)) (val := fun k => .int (k : Nat)) (N := N) hk1 (by omega)
    (fun k d H' c hJ => ?_) (fun k hk d H' hJ => ?_) (fun d H' hJ => ?_) (fun k hk d H' hJ hac => ?_) (fun w d H' hJ hd hac => ?_) N 0 (by omega) none [] _ rfl ⟨Gr.snoc, [], a, hS.ext .snoc, by omega, .nil, rfl, trivial⟩ (by simp)
  · obtain ⟨g, l, a', h1, h2, h3, h4, h5⟩ := hJ
    exact ⟨g.setHi (Nat.le_refl _), l, a', h1.setHi (by omega) (by omega), h2, h3.move (Nat.le_refl _) fun x vs hx e => by rw [List.getElem?_set_ne (by omega)]; exact e, h4, h5⟩
  · obtain ⟨j', hj'⟩ : ∃ j', N - k = j' + 1 := ⟨N - k - 1, by omega⟩
    rw [hj', show N - (k + 1) = j' by omega]
    rfl
  · rw [Nat.sub_self]; rfl
  · obtain ⟨g, l, a', h1, h2, h3, h4, h5⟩ := hJ
    have hkc : k * costT d' + costT d' ≤ N * costT d' := by
      rw [← Nat.succ_mul]; exact Nat.mul_le_mul_right _ (by omega)
    refine tri_CallN (f := .ref 175) hk2 (.inl LX.tree) (hfun hK NX rfl) (tx_cons (tri_Name (.there (.there .here)) (tx_cons (tri_BinOp (tri_Name (.there .here) (tri_int (sub_i (tx_nil ?_))))))))
    have e1 : (((d' + 1 : Nat) : Int) - 1) = (d' : Nat) := by omega
    rw [e1]
    refine tn_of_cn (T h1 (by omega) fun H2 v t at2 g1 g2 g3 g4 g5 => ⟨rfl, ⟨g.trans g3, l ++ [t], at2, g4, ?_, ?_, by simp [h4], goodL_snoc h5 g1⟩, ?_⟩)
    · rw [Nat.succ_mul]; omega
    · refine LTsAt.snoc (h3.gr g3 (by omega)) (g2.move ?_ fun _ _ _ e => e)
      have := g.len
      omega
    · exact g3.keep _ hac (by omega)
  · obtain ⟨g, l, a', h1, h2, h3, h4, h5⟩ := hJ
    exact q w d H' l a' g h1 h2 h3 h4 h5 hac
end
end Mine
end
section
open PySem PySem.W PyProof.Rows PySem.Calls
set_option Elab.async false
set_option maxRecDepth 100000
set_option linter.unusedVariables false
set_option linter.unusedSectionVars false
namespace Mine
theorem frees_two {env : Env} {m : Loc} {scope : Scope} {k : Str → Option NameKind} {v u : V} {x z : Str} (h1 : (x, some v) ∈ m) (g1 : (z, some u) ∈ m) (h2 : env.kindOf x ≠ some .local) (g2 : env.kindOf z ≠ some .local) (h3 : (x, NameKind.free) ∈ scope.names) (g3 : (z, NameKind.free) ∈ scope.names) (h4 : k x = some .cell ∨ k x = some .free) (g4 : k z = some .cell ∨ k z = some .free)
    (h5 : x ≠ "__debug__" ∧ x ≠ "__classdict__") (g5 : z ≠ "__debug__" ∧ z ≠ "__classdict__") (h6 : ∀ y, (y, NameKind.free) ∈ scope.names → y = x ∨ y = z) (h7 : x ≠ z) : Frees env m scope k [(x, v), (z, u)] where
  mem := fun p hp => by
    rcases List.mem_cons.mp hp with rfl | hp
    · exact ⟨h1, h2, h3, h4, h5.1, h5.2⟩
    · rcases List.mem_cons.mp hp with rfl | hp
      · exact ⟨g1, g2, g3, g4, g5.1, g5.2⟩
      · cases hp
  all := fun y hy => by
    rcases h6 y hy with rfl | rfl
    · exact ⟨v, .head _⟩
    · exact ⟨u, .tail _ (.head _)⟩
  nd := by simp [h7]
section
variable {P : Params} {X : Cx} (hK : X.K = KK P) (NX : Names X) (LX : LNm X) {n : Nat} {env : Env} {m : Loc} {H : List Cell} {st nb : Nat} {ns : List Nat} {at' : Nat}
  {Q : V → Loc → List Cell → Prop} {N B K : Loc → List Cell → Prop} {R : V → Loc → List Cell → Prop}
set_option maxHeartbeats 8000000
include hK NX LX
theorem tree_step {d : Nat} (ih : ∀ d', d = d' + 1 → TreeOk X n st nb ns d') : TreeOk X n st nb ns d := by
  intro env m H at' Q hS hc q
  refine cn_call (names := ["state", "deep"]) (ws := []) (ds := []) (by rw [hK]; rfl) (by rw [hK]; rfl) rfl rfl rfl rfl (by decide +kernel) rfl (fun s cvs hin hl => ?_) (fun _ _ => by unfold DenL; rfl) ?_
  · obtain ⟨c, c2, rfl⟩ : ∃ c c2, cvs = [c, c2] := by
      match cvs, hl with
      | [c, c2], _ => exact ⟨c, c2, rfl⟩
    exact BindsTo.of_eq rfl
  intro env' hsc hcode
  obtain ⟨sc, lo', gl, ce, qu, fu, co, fr, bi⟩ := env'
  simp only at hsc hcode
  subst hsc hcode
  have hsl : sizeLine = 16777216 := rfl
  have hcell : some NameKind.cell ≠ some NameKind.local := by decide
  have hc6 : 6 ≤ costT d := by cases d <;> simp [costT]
  have hlt := hS.lt
  show TS X (n + d + 1) _ (tT st d none none none none) H (execs _ _) _ _ _ _
  refine ts_cons (ts_Assign_Name (hfree := nofree) (e_next (many := 8) hK NX LX rfl .here hS (by decide) ⟨_, .there (.there .here), ?_⟩))
  have S1 := hS.next (by omega)
  have g1 : Gr st H (H.set st (.list [.loc nb, .int ((at' + 1 : Nat) : Int)])) := Gr.set
  have l1 : (H.set st (.list [.loc nb, .int ((at' + 1 : Nat) : Int)])).length = H.length := by simp
  generalize H.set st (.list [.loc nb, .int ((at' + 1 : Nat) : Int)]) = H1 at *
  have hw8 := draw_lt (ns := ns) (a := at') (many := 8) (by decide)
  generalize draw ns at' 8 = way at *
  refine ts_cut (fun m' H' => m' = tT st d (some (.int way)) none none none ∧ H1 = H' ∧ ∃ d', d = d' + 1) (ts_If (TriP.mono (Q := fun b m' H' => m' = tT st d (some (.int way)) none none none ∧ H1 = H' ∧ (b = false → ∃ d', d = d' + 1)) ?_ ?_)) ?_
  · refine tb_BoolOp (ta_or (tb_Compare (hm := by with_unfolding_all rfl) (tri_Name (.there .here) (tri_int (eq_i (tr_b (br_c (fun h => ?_) (fun h => ?_))))))))
    · exact ⟨rfl, rfl, fun h => by cases h⟩
    · have h0 : d ≠ 0 := by have := of_decide_eq_false h; omega
      refine ta_or (tb_Compare (hm := by with_unfolding_all rfl) (tri_Name (.there (.there .here)) (tri_int (lt_i (tr_b (br_c (fun h => ?_) (fun h => ?_)))))))
      · exact ⟨rfl, rfl, fun h => by cases h⟩
      · exact ta_nil_or ⟨rfl, rfl, fun _ => ⟨d - 1, by omega⟩⟩
  · rintro b _ _ ⟨rfl, rfl, hb⟩
    refine br_c (fun _ => ?_) (fun h => ts_nil ⟨rfl, rfl, hb h⟩)
    -- a leaf
    refine ts_cut (fun m' H' => ∃ sx ∈ STARS, m' = tT st d (some (.int way)) (some (.str sx)) none none ∧ Gr st H H' ∧ StAt H' st nb ns (at' + 2)) (ts_Assign_Name (hfree := nofree) (tri_IfExp (tb_Compare (hm := by with_unfolding_all rfl) (e_next (many := 4) hK NX LX rfl .here S1 (by decide) (tri_int (eq_i (tr_b ?_))))))) ?_
    · have S2 := S1.next (by omega)
      have g2 : Gr st H _ := g1.trans (Gr.set (c := .list [.loc nb, .int ((at' + 1 + 1 : Nat) : Int)]))
      refine br_c (fun _ => tri_str ⟨_, .there (.there (.there .here)), [42], by decide, ?_, g2, S2⟩) (fun _ => tri_str ⟨_, .there (.there (.there .here)), [], by decide, ?_, g2, S2⟩)
      · rw [show (Str.ofString "*").cps.toList = [42] by decide +kernel]
      · rw [show (Str.ofString "").cps.toList = [] by decide +kernel]
    rintro _ H2 ⟨sx, hsx, rfl, g2, S2⟩
    have hsxl : sx.length ≤ 1 := by revert hsx; revert sx; decide
    refine ts_cons (ts_If (tb_Compare (hm := by with_unfolding_all rfl) (e_next (many := 3) hK NX LX rfl .here S2 (by decide) (tri_int (eq_i (tr_b ?_))))))
    have S3 := S2.next (by omega)
    have g3 : Gr st H _ := g2.trans (Gr.set (c := .list [.loc nb, .int ((at' + 2 + 1 : Nat) : Int)]))
    generalize H2.set st (.list [.loc nb, .int ((at' + 2 + 1 : Nat) : Int)]) = H3 at *
    have hlt3 := S3.lt
    refine br_c (fun _ => ?_) (fun _ => ?_)
    · have hd6 := draw_lt (ns := ns) (a := at' + 2 + 1) (many := 6) (by decide)
      obtain ⟨hp1, hp2⟩ := pick_str hK NX LX (L := PHRASES) (show draw ns (at' + 2 + 1) 6 < PHRASES.length from hd6)
      generalize PHRASES.getD (draw ns (at' + 2 + 1) 6) [] = ph at *
      have hphl : ph.length ≤ 10 := by revert hp2; clear hp1; revert ph; decide
      refine ts_cons (ts_Return (tri_Tuple (tx_cons (tri_str (tx_cons (tri_BinOp (tri_BinOp (tri_BinOp (tri_str (tri_Subscript (tri_CallN (f := .ref 169) rfl (.inl LX.phrases) (hfun hK NX rfl) (tx_nil (tn_of_cn (phrases_ok hK NX LX (e_next (many := 6) hK NX LX rfl .here (S3.ext .snoc) (by decide) ?_)))))))))))))))
      rw [show (Str.ofString "t").cps.toList = [116] by decide +kernel, show (Str.ofString "\"").cps.toList = [34] by decide +kernel]
      refine t2_item_list (xs := PHRASES.map V.str) (by rw [List.getElem?_set_ne (by omega), List.getElem?_append_right (Nat.le_refl _), Nat.sub_self]; rfl) (by omega) hp1 ?_
      refine add_s (by simp; omega) (tri_str ?_)
      rw [show (Str.ofString "\"").cps.toList = [34] by decide +kernel]
      refine add_s (by simp; omega) (tri_Name (.there (.there (.there .here))) (add_s (by simp; omega) (tx_nil ⟨by show 2 ≤ sizeLine; decide, ?_⟩)))
      have S4 := (S3.ext (Ext.snoc (c := .list (PHRASES.map V.str)))).next (by omega)
      refine q _ _ (.t (34 :: ph ++ 34 :: sx)) (at' + 2 + 1 + 1) ?_ ?_ (g3.trans (Gr.snoc.trans Gr.set)) S4 (by omega)
      · cases d <;> exact ⟨ph, hp2, sx, hsx, rfl⟩
      · have : ([34] ++ ph ++ [34] ++ sx : List Nat) = 34 :: ph ++ 34 :: sx := by simp
        rw [this]; exact .t
    · have hd8 := draw_lt (ns := ns) (a := at' + 2 + 1) (many := 8) (by decide)
      obtain ⟨hp1, hp2⟩ := pick_str hK NX LX (L := WORDS) (show draw ns (at' + 2 + 1) 8 < WORDS.length from hd8)
      generalize WORDS.getD (draw ns (at' + 2 + 1) 8) [] = ph at *
      refine ts_nil (ts_cons (ts_Return (tri_Tuple (tx_cons (tri_str (tx_cons (tri_Subscript (tri_CallN (f := .ref 162) rfl (.inl LX.words) (hfun hK NX rfl) (tx_nil (tn_of_cn (words_ok hK NX LX (e_next (many := 8) hK NX LX rfl .here (S3.ext .snoc) (by decide) ?_))))))))))))
      rw [show (Str.ofString "w").cps.toList = [119] by decide +kernel]
      refine t2_item_list (xs := WORDS.map V.str) (by rw [List.getElem?_set_ne (by omega), List.getElem?_append_right (Nat.le_refl _), Nat.sub_self]; rfl) (by omega) hp1 ?_
      refine tx_cons (tri_Name (.there (.there (.there .here))) (tx_nil ⟨by show 3 ≤ sizeLine; decide, ?_⟩))
      have S4 := (S3.ext (Ext.snoc (c := .list (WORDS.map V.str)))).next (by omega)
      refine q _ _ (.w ph sx) (at' + 2 + 1 + 1) ?_ .w (g3.trans (Gr.snoc.trans Gr.set)) S4 (by omega)
      cases d <;> exact ⟨hp2, hsx⟩
  rintro _ _ ⟨rfl, rfl, d, rfl⟩
  have T : TreeOk X n st nb ns d := fun {_ _ _ _ _} => ih d rfl
  have hcd : costT (d + 1) = 6 + 3 * costT d := rfl
  refine ts_cons (ts_If (tb_Compare (hm := by with_unfolding_all rfl) (tri_Name (.there (.there .here)) (tri_int (eq_i (tr_b (br_c (fun _ => ?_) (fun _ => ?_))))))))
  · have hd2 := draw_lt (ns := ns) (a := at' + 1) (many := 2) (by decide)
    generalize hnn : 1 + draw ns (at' + 1) 2 = nn
    refine ts_cut (fun m' H' => ∃ (g : Nat) (nsx : List (List Nat)) (a2 : Nat), m' = tT st (d + 1) (some (.int way)) none (some (.loc g)) none ∧ Gr st H H' ∧ StAt H' st nb ns a2 ∧ a2 ≤ at' + 4 ∧ H.length ≤ g ∧ H'[g]? = some (.list (nsx.map V.str)) ∧ (nsx.length = 1 ∨ nsx.length = 2) ∧ ∀ x ∈ nsx, x ∈ NAMES) (ts_Assign_Comp [("state", .loc st)] (frees_cell (.head _) hcell (by decide) (by first | exact .inl rfl | exact .inr rfl) (by decide) (by simp)) rfl (by decide) (by decide) ⟨rfl, by decide, by decide⟩
      (tri_CallN (f := .type "range") rfl (.inr LX.range) kn_type (tx_cons (tri_BinOp (tri_int (e_next (many := 2) hK NX LX rfl .here S1 (by decide) (add_i (tx_nil (range_i (by omega) ⟨rfl, .rng 0 nn, by rw [← hnn]; rfl, fun i e => (by cases e), fun k e => (by cases e; omega), fun cl C => ?_⟩)))))))) nofree) ?_
    · have S2 := S1.next (by omega)
      have g2 : Gr st H _ := g1.trans (Gr.set (c := .list [.loc nb, .int ((at' + 1 + 1 : Nat) : Int)]))
      have l2 : (H1.set st (.list [.loc nb, .int ((at' + 1 + 1 : Nat) : Int)])).length = H.length := by simp [l1]
      generalize H1.set st (.list [.loc nb, .int ((at' + 1 + 1 : Nat) : Int)]) = H2 at *
      refine tc_rel (J := fun k dd H' => Gr st H2 H' ∧ StAt H' st nb ns (at' + 1 + 1 + k) ∧ ∃ xs : List (List Nat), dd = xs.map V.str ∧ xs.length = k ∧ ∀ x ∈ xs, x ∈ NAMES) (S := fun k => .rng (k : Nat) (nn - k)) (val := fun k => .int (k : Nat)) (N := nn) (fvl := [("state", some (.loc st))]) (by exact nofree) (by omega)
        (fun k dd H' c hJ => ⟨hJ.1.setHi (Nat.le_refl _), hJ.2.1.setHi (by omega) (by omega), hJ.2.2⟩) (fun k hk dd H' hJ => ?_) (fun dd H' hJ => ?_) (fun k hk dd H' hJ hac => ?_) (fun w dd H' hJ hdd hac => ⟨fun p hp => ?_, ?_⟩) nn 0 (by omega) none [] _ rfl ⟨Gr.snoc, S2.ext .snoc, [], rfl, rfl, fun x hx => by cases hx⟩ (by simp)
      · obtain ⟨j', hj'⟩ : ∃ j', nn - k = j' + 1 := ⟨nn - k - 1, by omega⟩
        rw [hj', show nn - (k + 1) = j' by omega]
        rfl
      · rw [Nat.sub_self]; rfl
      · obtain ⟨gJ, SJ, xs, rfl, hxs, hxN⟩ := hJ
        have hd3 := draw_lt (ns := ns) (a := at' + 1 + 1 + k) (many := 3) (by decide)
        have hgm : NAMES.getD (draw ns (at' + 1 + 1 + k) 3) [] ∈ NAMES := by
          rw [List.getD_eq_getElem?_getD, List.getElem?_eq_getElem (show draw ns (at' + 1 + 1 + k) 3 < NAMES.length from hd3)]; exact List.getElem_mem _
        refine tri_Subscript (tri_glob rfl LX.names (u := .obj 170) (fun η h re => den_obj.mpr ⟨rfl, by rw [hK]; exact ⟨_, rfl⟩⟩) (e_next (many := 3) hK NX LX rfl (.there .here) SJ (by decide) (t2_item_obj (x := NAMES.getD (draw ns (at' + 1 + 1 + k) 3) []) (k_names hK) (by decide) (by omega) ?_ ⟨rfl, ⟨gJ.trans Gr.set, SJ.next (by omega), xs ++ [NAMES.getD (draw ns (at' + 1 + 1 + k) 3) []], by simp, by simp [hxs], fun x hx => ?_⟩, ?_⟩)))
        · rw [Int.toNat_natCast, List.getD_eq_getElem?_getD, List.getElem?_eq_getElem (show draw ns (at' + 1 + 1 + k) 3 < NAMES.length from hd3)]; rfl
        · rcases List.mem_append.mp hx with hx | hx
          · exact hxN x hx
          · rcases List.mem_cons.mp hx with rfl | hx
            · exact hgm
            · cases hx
        · rw [List.getElem?_set_ne (by omega)]
      · rcases List.mem_cons.mp hp with rfl | hp
        · exact .tail _ (.head _)
        · cases hp
      · obtain ⟨gJ, SJ, xs, rfl, hxs, hxN⟩ := hJ
        exact ⟨_, .there (.there (.there (.there .here))), H2.length, xs, _, rfl, g2.trans gJ, SJ, by omega, by omega, hac, by omega, hxN⟩
    rintro _ H3 ⟨g, nsx, a2, rfl, g3, S3, ha2, hgl, hg, hnl, hnN⟩
    refine ts_cons (ts_Return (tri_Tuple (tx_cons (tri_str (tx_cons (tri_Name (.there (.there (.there (.there .here)))) (tx_cons (tri_CallN (f := .ref 175) rfl (.inl LX.tree) (hfun hK NX rfl) (tx_cons (tri_Name .here (tx_cons (tri_BinOp (tri_Name (.there .here) (tri_int (sub_i (tx_nil ?_))))))))))))))))
    rw [show (((d + 1 : Nat) : Int) - 1) = (d : Nat) by omega, show (Str.ofString "col").cps.toList = [99, 111, 108] by decide +kernel]
    have hl3 := g3.len
    have hgg := (List.getElem?_eq_some_iff.mp hg).1
    refine tn_of_cn (T S3 (by omega) fun H4 v t at2 h1 h2 h3 h4 h5 => tx_nil ⟨by show 3 ≤ sizeLine; decide, q H4 _ (.col nsx t) at2 ⟨hnl, hnN, h1⟩ (.col hgl (h3.get hg (by omega)) (h2.move hl3 fun _ _ _ e => e)) (g3.trans h3) h4 (by omega)⟩)
  · have hd2 := draw_lt (ns := ns) (a := at' + 1) (many := 2) (by decide)
    refine ts_nil (ts_cons (ts_Assign_Name (hfree := nofree) (tri_BinOp (tri_int (e_next (many := 2) hK NX LX rfl .here S1 (by decide) (add_i ⟨_, .there (.there (.there (.there (.there .here)))), ?_⟩))))))
    have S2 := S1.next (by omega)
    have g2 : Gr st H _ := g1.trans (Gr.set (c := .list [.loc nb, .int ((at' + 1 + 1 : Nat) : Int)]))
    have l2 : (H1.set st (.list [.loc nb, .int ((at' + 1 + 1 : Nat) : Int)])).length = H.length := by simp [l1]
    generalize H1.set st (.list [.loc nb, .int ((at' + 1 + 1 : Nat) : Int)]) = H2 at *
    generalize hmn : 2 + draw ns (at' + 1) 2 = mn
    have hmn2 : (2 : Int) + ((draw ns (at' + 1) 2 : Nat) : Int) = (mn : Nat) := by omega
    rw [hmn2]
    refine ts_cons (ts_If (tb_Compare (hm := by with_unfolding_all rfl) (tri_Name (.there (.there .here)) (tri_int (lt_i (tr_b (br_c (fun _ => ?_) (fun _ => ?_))))))))
    · refine ts_cons (ts_Return (tri_Tuple (tx_cons (tri_str (tx_cons (tri_ListComp [("deep", .int ((d + 1 : Nat) : Int)), ("state", .loc st)] (frees_two (.tail _ (.head _)) (.head _) hcell hcell (by decide) (by decide) (by first | exact .inl rfl | exact .inr rfl) (by first | exact .inl rfl | exact .inr rfl) (by decide) (by decide) (by simp) (by decide)) rfl (by decide) (by decide) ⟨rfl, by decide, by decide⟩
        (tri_CallN (f := .type "range") rfl (.inr LX.range) kn_type (tx_cons (tri_Name (.there (.there (.there (.there (.there .here))))) (tx_nil (range_i (by omega) ⟨rfl, .rng 0 mn, rfl, fun i e => (by cases e), fun k e => (by cases e; omega), fun cl C => ?_⟩)))))))))))
      refine trees_comp (N := mn) hK NX LX T S2 (by have := Nat.mul_le_mul_right (costT d) (show mn ≤ 3 by omega); omega) (by omega) (by exact nofree) rfl fun w dd H4 l at2 g4 S4 ha4 hl4 hl5 hg4 hac4 => ⟨fun p hp => ?_, ?_⟩
      · rcases List.mem_cons.mp hp with rfl | hp
        · exact .tail _ (.head _)
        · rcases List.mem_cons.mp hp with rfl | hp
          · exact .tail _ (.tail _ (.head _))
          · cases hp
      · rw [show (Str.ofString "and").cps.toList = [97, 110, 100] by decide +kernel]
        exact tx_nil ⟨by show 2 ≤ sizeLine; decide, q H4 _ (.and l) at2 ⟨by omega, hg4⟩ (.and (by omega) hac4 (hl4.move (by omega) fun _ _ _ e => e)) (g2.trans g4) S4 (by have := Nat.mul_le_mul_right (costT d) (show mn ≤ 3 by omega); omega)⟩
    refine ts_nil (ts_cons (ts_If (tb_Compare (hm := by with_unfolding_all rfl) (tri_Name (.there (.there .here)) (tri_int (lt_i (tr_b (br_c (fun _ => ?_) (fun _ => ?_)))))))))
    · refine ts_cons (ts_Return (tri_Tuple (tx_cons (tri_str (tx_cons (tri_ListComp [("deep", .int ((d + 1 : Nat) : Int)), ("state", .loc st)] (frees_two (.tail _ (.head _)) (.head _) hcell hcell (by decide) (by decide) (by first | exact .inl rfl | exact .inr rfl) (by first | exact .inl rfl | exact .inr rfl) (by decide) (by decide) (by simp) (by decide)) rfl (by decide) (by decide) ⟨rfl, by decide, by decide⟩
        (tri_CallN (f := .type "range") rfl (.inr LX.range) kn_type (tx_cons (tri_Name (.there (.there (.there (.there (.there .here))))) (tx_nil (range_i (by omega) ⟨rfl, .rng 0 mn, rfl, fun i e => (by cases e), fun k e => (by cases e; omega), fun cl C => ?_⟩)))))))))))
      refine trees_comp (N := mn) hK NX LX T S2 (by have := Nat.mul_le_mul_right (costT d) (show mn ≤ 3 by omega); omega) (by omega) (by exact nofree) rfl fun w dd H4 l at2 g4 S4 ha4 hl4 hl5 hg4 hac4 => ⟨fun p hp => ?_, ?_⟩
      · rcases List.mem_cons.mp hp with rfl | hp
        · exact .tail _ (.head _)
        · rcases List.mem_cons.mp hp with rfl | hp
          · exact .tail _ (.tail _ (.head _))
          · cases hp
      · rw [show (Str.ofString "or").cps.toList = [111, 114] by decide +kernel]
        exact tx_nil ⟨by show 2 ≤ sizeLine; decide, q H4 _ (.or l) at2 ⟨by omega, hg4⟩ (.or (by omega) hac4 (hl4.move (by omega) fun _ _ _ e => e)) (g2.trans g4) S4 (by have := Nat.mul_le_mul_right (costT d) (show mn ≤ 3 by omega); omega)⟩
    refine ts_nil (ts_cons (ts_Return (tri_Tuple (tx_cons (tri_str (tx_cons (tri_CallN (f := .ref 175) rfl (.inl LX.tree) (hfun hK NX rfl) (tx_cons (tri_Name .here (tx_cons (tri_BinOp (tri_Name (.there .here) (tri_int (sub_i (tx_nil ?_)))))))))))))))
    rw [show (((d + 1 : Nat) : Int) - 1) = (d : Nat) by omega, show (Str.ofString "not").cps.toList = [110, 111, 116] by decide +kernel]
    refine tn_of_cn (T S2 (by omega) fun H3 v t a3 h1 h2 h3 h4 h5 => ?_)
    have hl3 := h3.len
    have hlt3 := h4.lt
    refine tx_cons (tri_ListComp [("deep", .int ((d + 1 : Nat) : Int)), ("state", .loc st)] (frees_two (.tail _ (.head _)) (.head _) hcell hcell (by decide) (by decide) (by first | exact .inl rfl | exact .inr rfl) (by first | exact .inl rfl | exact .inr rfl) (by decide) (by decide) (by simp) (by decide)) rfl (by decide) (by decide) ⟨rfl, by decide, by decide⟩
        (tri_CallN (f := .type "range") rfl (.inr LX.range) kn_type (tx_cons (tri_BinOp (tri_Name (.there (.there (.there (.there (.there .here))))) (tri_int (sub_i (tx_nil (range_i (by omega) ⟨rfl, .rng 0 (mn - 1), ?_, fun i e => (by cases e), fun k e => (by cases e; omega), fun cl C => ?_⟩)))))))))
    · show some (Src.rng 0 ((mn : Int) - 1).toNat) = _
      rw [show ((mn : Int) - 1).toNat = mn - 1 by omega]
    refine trees_comp (N := mn - 1) hK NX LX T h4 (by have := Nat.mul_le_mul_right (costT d) (show mn - 1 ≤ 2 by omega); omega) (by omega) (by exact nofree) rfl fun w dd H4 l at2 g4 S4 ha4 hl4 hl5 hg4 hac4 => ⟨fun p hp => ?_, ?_⟩
    · rcases List.mem_cons.mp hp with rfl | hp
      · exact .tail _ (.head _)
      · rcases List.mem_cons.mp hp with rfl | hp
        · exact .tail _ (.tail _ (.head _))
        · cases hp
    · refine tx_nil ⟨by show 3 ≤ sizeLine; decide, q H4 _ (.not t l) at2 ⟨h1, by omega, hg4⟩ (.not ?_ (by omega) hac4 (hl4.move (by omega) fun _ _ _ e => e)) (g2.trans (h3.trans g4)) S4 (by have := Nat.mul_le_mul_right (costT d) (show mn - 1 ≤ 2 by omega); omega)⟩
      exact LTAt.move (by omega) (fun x vs hx e => g4.get e (by omega)) h2
theorem tree_ok : ∀ d, TreeOk X n st nb ns d := by
  intro d
  induction d with
  | zero => exact (tree_step hK NX LX (d := 0) fun d' h => by cases h)
  | succ d ih => exact (tree_step hK NX LX (d := d + 1) fun d' h => by cases h; exact ih)
end
end Mine
end
section
open PySem PySem.W PyProof.Rows PySem.Calls
set_option Elab.async false
set_option maxRecDepth 100000
set_option linter.unusedVariables false
set_option linter.unusedSectionVars false
namespace Mine
theorem cn_le {X : Cx} {n n' : Nat} {env : Env} {m : Loc} {H : List Cell} {f : Value} {vs : List V} {Q : V → Loc → List Cell → Prop} (hn : n ≤ n') (h : CN X n env m H f vs Q) : CN X n' env m H f vs Q := by
  induction hn with
  | refl => exact h
  | step _ ih => exact cn_mono ih
/-- what a call that writes one tree gives -/
def XT (X : Cx) (n : Nat) (a : Addr) (k : KT) (st nb : Nat) (ns : List Nat) (t : LT) (E : Nat) : Prop :=
  ∀ ⦃env m H at' lo v Q⦄, StAt H st nb ns at' → st < lo → LTAt H lo t v → at' + E ≤ 100000 → (∀ H' x at2, TXT k t x → Gr st H H' → StAt H' st nb ns at2 → at2 ≤ at' + E → Q (.str x) m H') → CN X n env m H (.ref a) [.loc st, v] Q
theorem XT.le {X : Cx} {n n' : Nat} {a : Addr} {k : KT} {st nb : Nat} {ns : List Nat} {t : LT} {E E' : Nat} (h : XT X n a k st nb ns t E) (hn : n ≤ n') (hE : E ≤ E') : XT X n' a k st nb ns t E' :=
  fun _ _ _ _ _ _ _ S hl ht hc q => cn_le hn (h S hl ht (by omega) fun H' x a2 h1 h2 h3 h4 => q H' x a2 h1 h2 h3 (by omega))
/-- the name of what a tree is -/
def kdT : LT → List Nat
  | .t _ => [116]
  | .w _ _ => [119]
  | .col _ _ => [99, 111, 108]
  | .and _ => [97, 110, 100]
  | .or _ => [111, 114]
  | .not _ _ => [110, 111, 116]
theorem LTAt.kd {H lo t v} (h : LTAt H lo t v) : ∃ rest, v = .tup (.str (kdT t) :: rest) := by cases h <;> exact ⟨_, rfl⟩
section
variable {P : Params} {X : Cx} (hK : X.K = KK P) (NX : Names X) (LX : LNm X) {n : Nat} {env : Env} {m : Loc} {H : List Cell} {st nb : Nat} {ns : List Nat} {at' : Nat}
  {Q : V → Loc → List Cell → Prop} {QB : Bool → Loc → List Cell → Prop} {N B K : Loc → List Cell → Prop} {R : V → Loc → List Cell → Prop}
set_option maxHeartbeats 4000000
/-- tree[0] == '..' -/
theorem tk {a c d e f : Pos} {k1 k2} {kd : List Nat} {rest : List V} {s : Str} (b : Bool) (hl : LkL m "tree" (.tup (.str kd :: rest))) (hb : decide (kd = s.cps.toList) = b) (q : QB b m H) :
    TB X n env m H (isTrue (.Compare (.Subscript (.Name "tree" a) (.Constant (.int 0) k1 c) d) [.Eq] [.Constant (.str s) k2 e] f) env (eval (.Compare (.Subscript (.Name "tree" a) (.Constant (.int 0) k1 c) d) [.Eq] [.Constant (.str s) k2 e] f) env)) QB :=
  tb_Compare (hm := by with_unfolding_all rfl) (tri_Subscript (tri_Name hl (tri_int (t2_item_tup (by decide) rfl (tri_str (eq_s (tr_b (by rw [hb]; exact q))))))))
theorem tkn {a c d e f : Pos} {k1 k2} {kd : List Nat} {rest : List V} {s : Str} (b : Bool) (hl : LkL m "tree" (.tup (.str kd :: rest))) (hb : decide (kd ≠ s.cps.toList) = b) (q : QB b m H) :
    TB X n env m H (isTrue (.Compare (.Subscript (.Name "tree" a) (.Constant (.int 0) k1 c) d) [.NotEq] [.Constant (.str s) k2 e] f) env (eval (.Compare (.Subscript (.Name "tree" a) (.Constant (.int 0) k1 c) d) [.NotEq] [.Constant (.str s) k2 e] f) env)) QB :=
  tb_Compare (hm := by with_unfolding_all rfl) (tri_Subscript (tri_Name hl (tri_int (t2_item_tup (by decide) rfl (tri_str (ne_s (tr_b (by rw [hb]; exact q))))))))
/-- tree[i] -/
theorem e_at {a c d : Pos} {k1} {xs : List V} {i : Nat} {v : V} (hl : LkL m "tree" (.tup xs)) (hv : xs[i]? = some v) (q : Q v m H) : TE X n env m H (eval (.Subscript (.Name "tree" a) (.Constant (.int (i : Int)) k1 c) d) env) Q :=
  tri_Subscript (tri_Name hl (tri_int (t2_item_tup (by omega) (by simpa using hv) q)))
include hK NX LX
/-- one of three texts -/
theorem e_pick3 {s1 s2 s3 : Str} {k1 k2 k3 kk} {p1 p2 p3 p4 a b c d e : Pos} {L : List (List Nat)} (hL : [s1.cps.toList, s2.cps.toList, s3.cps.toList] = L) (hk : env.kindOf "_law_next" = some .globalImplicit) (hl : LkL m "state" (.loc st)) (S : StAt H st nb ns at') (hs : at' < 100000)
    (q : ∀ H' x, x ∈ L → Gr st H H' → StAt H' st nb ns (at' + 1) → Q (.str x) m H') :
    TE X (n + 1) env m H (eval (.Subscript (.List [.Constant (.str s1) k1 p1, .Constant (.str s2) k2 p2, .Constant (.str s3) k3 p3] p4) (.Call (.Name "_law_next" a) [.Name "state" b, .Constant (.int 3) kk c] [] d) e) env) Q := by
  refine tri_Subscript (tri_List (tx_cons (tri_str (tx_cons (tri_str (tx_cons (tri_str (tx_nil ⟨by show 3 ≤ sizeLine; decide, ?_⟩))))))))
  have S1 : StAt (H ++ [Cell.list [.str s1.cps.toList, .str s2.cps.toList, .str s3.cps.toList]]) st nb ns at' := S.ext .snoc
  have hlt := S.lt
  refine e_next (many := 3) hK NX LX hk hl S1 (by decide) ?_
  have hd := draw_lt (ns := ns) (a := at') (many := 3) (by decide)
  refine t2_item_list (xs := [.str s1.cps.toList, .str s2.cps.toList, .str s3.cps.toList]) (v := .str (L.getD (draw ns at' 3) [])) (by rw [List.getElem?_set_ne (by omega), List.getElem?_append_right (Nat.le_refl _), Nat.sub_self]; rfl) (by omega) ?_ ?_
  · rw [Int.toNat_natCast, ← hL]
    generalize draw ns at' 3 = y at *
    match y, hd with
    | 0, _ => rfl
    | 1, _ => rfl
    | 2, _ => rfl
  · refine q _ _ ?_ (Gr.snoc.trans Gr.set) (S1.next hs)
    rw [List.getD_eq_getElem?_getD, List.getElem?_eq_getElem (by rw [← hL]; exact hd)]
    exact List.getElem_mem _
theorem e_pick2 {s1 s2 : Str} {k1 k2 kk} {p1 p2 p4 a b c d e : Pos} {L : List (List Nat)} (hL : [s1.cps.toList, s2.cps.toList] = L) (hk : env.kindOf "_law_next" = some .globalImplicit) (hl : LkL m "state" (.loc st)) (S : StAt H st nb ns at') (hs : at' < 100000)
    (q : ∀ H' x, x ∈ L → Gr st H H' → StAt H' st nb ns (at' + 1) → Q (.str x) m H') :
    TE X (n + 1) env m H (eval (.Subscript (.List [.Constant (.str s1) k1 p1, .Constant (.str s2) k2 p2] p4) (.Call (.Name "_law_next" a) [.Name "state" b, .Constant (.int 2) kk c] [] d) e) env) Q := by
  refine tri_Subscript (tri_List (tx_cons (tri_str (tx_cons (tri_str (tx_nil ⟨by show 2 ≤ sizeLine; decide, ?_⟩))))))
  have S1 : StAt (H ++ [Cell.list [.str s1.cps.toList, .str s2.cps.toList]]) st nb ns at' := S.ext .snoc
  have hlt := S.lt
  refine e_next (many := 2) hK NX LX hk hl S1 (by decide) ?_
  have hd := draw_lt (ns := ns) (a := at') (many := 2) (by decide)
  refine t2_item_list (xs := [.str s1.cps.toList, .str s2.cps.toList]) (v := .str (L.getD (draw ns at' 2) [])) (by rw [List.getElem?_set_ne (by omega), List.getElem?_append_right (Nat.le_refl _), Nat.sub_self]; rfl) (by omega) ?_ ?_
  · rw [Int.toNat_natCast, ← hL]
    generalize draw ns at' 2 = y at *
    match y, hd with
    | 0, _ => rfl
    | 1, _ => rfl
  · refine q _ _ ?_ (Gr.snoc.trans Gr.set) (S1.next hs)
    rw [List.getD_eq_getElem?_getD, List.getElem?_eq_getElem (by rw [← hL]; exact hd)]
    exact List.getElem_mem _
/-- _law_next(state, 2) == 0 -/
theorem e_coin {kk k2} {a b c d e f : Pos} (hk : env.kindOf "_law_next" = some .globalImplicit) (hl : LkL m "state" (.loc st)) (S : StAt H st nb ns at') (hs : at' < 100000)
    (q : ∀ H' x, Gr st H H' → StAt H' st nb ns (at' + 1) → QB x m H') :
    TB X (n + 1) env m H (isTrue (.Compare (.Call (.Name "_law_next" a) [.Name "state" b, .Constant (.int 2) kk c] [] d) [.Eq] [.Constant (.int 0) k2 e] f) env (eval (.Compare (.Call (.Name "_law_next" a) [.Name "state" b, .Constant (.int 2) kk c] [] d) [.Eq] [.Constant (.int 0) k2 e] f) env)) QB :=
  tb_Compare (hm := by with_unfolding_all rfl) (e_next (many := 2) hK NX LX hk hl S (by decide) (tri_int (eq_i (tr_b (q _ _ Gr.set (S.next hs))))))
theorem columns_ok {x : Nat} {nms : List (List Nat)} (hx : H[x]? = some (.list (nms.map V.str))) (hn : nms.length = 1 ∨ nms.length = 2) (hl : ∀ s ∈ nms, s.length ≤ 10) (q : Q (.str (columnsT nms)) m H) : CN X (n + 1) env m H (.ref 182) [.loc x] Q := by
  refine cn_call (names := ["names"]) (ws := []) (ds := []) (by rw [hK]; rfl) (by rw [hK]; rfl) rfl rfl rfl rfl (by decide +kernel) rfl (fun s cvs hin hl => ?_) (fun _ _ => by unfold DenL; rfl) ?_
  · obtain ⟨c, rfl⟩ : ∃ c, cvs = [c] := by
      match cvs, hl with
      | [c], _ => exact ⟨c, rfl⟩
    exact BindsTo.of_eq rfl
  · intro env' hsc hcode
    obtain ⟨sc, lo', gl, ce, qu, fu, co, fr, bi⟩ := env'
    simp only at hsc hcode
    subst hsc hcode
    have hsl : sizeLine = 16777216 := rfl
    show TS X n _ [("names", some (.loc x))] H (execs _ _) _ _ _ _
    refine ts_cons (ts_If (tb_Compare (hm := by with_unfolding_all rfl) (tri_CallN (f := .builtin "len") rfl (.inr NX.len) kn_builtin (tx_cons (tri_Name .here (tx_nil (len_l hx (tri_int (eq_i (tr_b ?_))))))))))
    match nms, hn, hl, hx with
    | [a], _, hl, hx =>
      refine br_t (ts_cons (ts_Return (tri_Subscript (tri_Name .here (tri_int (t2_item_list hx (by decide) (v := .str a) rfl ?_))))))
      exact q
    | [a, b], _, hl, hx =>
      have ha := hl a (by simp)
      have hb := hl b (by simp)
      refine br_f (ts_nil (ts_cons (ts_Return (tri_BinOp (tri_BinOp (tri_str (tri_CallM (tri_str (tm_str F.slot_str_join F.type_str_join ⟨kn_builtin, tx_cons (tri_Name .here (tx_nil (join_l (xs := [a, b]) hx ?_ ?_)))⟩)))))))))
      · rw [show (Str.ofString " ").cps.toList = [32] by decide +kernel]
        simp; omega
      · rw [show (Str.ofString " ").cps.toList = [32] by decide +kernel, show (Str.ofString "{").cps.toList = [123] by decide +kernel]
        refine add_s (by simp [joinL]; omega) (tri_str ?_)
        rw [show (Str.ofString "}").cps.toList = [125] by decide +kernel]
        refine add_s (by simp [joinL]; omega) ?_
        exact q
/-- the locals of _law_joined -/
abbrev jL (st x : Nat) (t : List Nat) (w : Option V) : Loc := [("state", some (.loc st)), ("parts", some (.loc x)), ("text", some (.str t)), ("part", w)]
theorem joined_ok {x M : Nat} {xs : List (List Nat)} (hx : H[x]? = some (.list (xs.map V.str))) (hxs : xs ≠ []) (hlen : xs.length ≤ 100) (hM : ∀ y ∈ xs, y.length ≤ M) (hM2 : M ≤ 100000) (S : StAt H st nb ns at') (hxt : x ≠ st) (hs : at' + xs.length ≤ 100000)
    (q : ∀ H' t at2, Jn xs t → Gr st H H' → StAt H' st nb ns at2 → at2 ≤ at' + xs.length → Q (.str t) m H') : CN X (n + 2) env m H (.ref 210) [.loc st, .loc x] Q := by
  refine cn_call (names := ["state", "parts"]) (ws := []) (ds := []) (by rw [hK]; rfl) (by rw [hK]; rfl) rfl rfl rfl rfl (by decide +kernel) rfl (fun s cvs hin hl => ?_) (fun _ _ => by unfold DenL; rfl) ?_
  · obtain ⟨c, c2, rfl⟩ : ∃ c c2, cvs = [c, c2] := by
      match cvs, hl with
      | [c, c2], _ => exact ⟨c, c2, rfl⟩
    exact BindsTo.of_eq rfl
  · intro env' hsc hcode
    obtain ⟨sc, lo', gl, ce, qu, fu, co, fr, bi⟩ := env'
    simp only at hsc hcode
    subst hsc hcode
    have hsl : sizeLine = 16777216 := rfl
    show TS X (n + 1) _ [("state", some (.loc st)), ("parts", some (.loc x)), ("text", none), ("part", none)] H (execs _ _) _ _ _ _
    obtain ⟨p, r, rfl⟩ : ∃ p r, xs = p :: r := by cases xs with
      | nil => exact absurd rfl hxs
      | cons p r => exact ⟨p, r, rfl⟩
    refine ts_cons (ts_Assign_Name (hfree := nofree) (tri_Subscript (tri_Name (.there .here) (tri_int (t2_item_list hx (by decide) (v := .str p) rfl ⟨_, .there (.there .here), ?_⟩)))))
    refine ts_cut (fun m' H' => ∃ t a2 w, m' = jL st x t w ∧ Gr st H H' ∧ StAt H' st nb ns a2 ∧ a2 ≤ at' + r.length ∧ Jn (p :: r) t) ?_ ?_
    · refine ts_For (tri_Subscript (tri_Name (.there .here) (tri_Slice (e1 := fun _ => pure Value.none) (e2 := fun _ => pure Value.none) (tvn_some (tri_int (tvn_none ⟨some 1, none, .inr ⟨1, rfl, rfl⟩, .inl ⟨rfl, rfl⟩, t2_cut_list hx ?_⟩))))))
      have hcut : cutL ((p :: r).map V.str) (some 1) none = r.map V.str := by
        unfold cutL clipI
        simp
        rw [List.take_of_length_le (by simp)]
      rw [hcut]
      have hg : (H ++ [Cell.list (r.map V.str)])[H.length]? = some (.list (r.map V.str)) := by simp
      refine ⟨.lst H.length 0, rfl, fun i e => ⟨_, by cases e; exact hg⟩, fun k e => (by cases e), ?_⟩
      have hlt := S.lt
      refine tf_ind (fun (j : Nat) src m' H' => ∃ t a2 w k, src = .lst H.length k ∧ k + j = r.length ∧ m' = jL st x t w ∧ Gr st (H ++ [Cell.list (r.map V.str)]) H' ∧ StAt H' st nb ns a2 ∧ a2 ≤ at' + k ∧ Jn (p :: r.take k) t) (fun j => j) ?_ r.length _ _ _ ⟨p, at', none, 0, rfl, by omega, rfl, .refl, S.ext .snoc, by omega, .one⟩
      rintro j src m' H' ⟨t, a2, w, k, rfl, hkj, rfl, g, S2, ha2, hj⟩ ih
      have hg2 := g.get hg (by omega)
      cases j with
      | zero =>
        refine tf_turn (r := none) (next_nil hg2 (by rw [List.getElem?_eq_none_iff, List.length_map]; omega)) ?_
        rw [List.take_of_length_le (by omega)] at hj
        exact ⟨t, a2, w, rfl, Gr.snoc.trans g, S2, by omega, hj⟩
      | succ j =>
        have hkr : k < r.length := by omega
        refine tf_turn (r := some (.str r[k], .lst H.length (k + 1))) (next_cons hg2 (by rw [List.getElem?_map, List.getElem?_eq_getElem hkr]; rfl)) ?_
        refine ta_Name (.there (.there (.there .here))) ?_ nofree
        simp only [List.length_cons] at hs hlen
        refine ts_cons (ts_Assign_Name (hfree := nofree) (tri_BinOp (tri_BinOp (tri_Name (.there (.there .here)) (e_pick3 (L := SEPJ) hK NX LX (by decide +kernel) rfl .here S2 (by omega) fun H3 sep hsep g3 S3 => ?_)))))
        have hjl : t.length ≤ (p :: r.take k).length * (M + 5) := jn_len hj fun y hy => hM y (by
          rcases List.mem_cons.mp hy with rfl | hy
          · exact .head _
          · exact .tail _ (List.mem_of_mem_take hy))
        have hrk : r[k].length ≤ M := hM _ (.tail _ (List.getElem_mem hkr))
        have hsl3 := SJ_len _ hsep
        have htk : (p :: r.take k).length * (M + 5) ≤ 101 * (M + 5) := Nat.mul_le_mul_right _ (by simp; omega)
        have hMs : 101 * (M + 5) ≤ 101 * 100005 := Nat.mul_le_mul_left _ (by omega)
        refine add_s (by omega) (tri_Name (.there (.there (.there .here))) (add_s (by simp; omega) ⟨_, .there (.there .here), ts_nil (ih j _ _ _ (by omega) ⟨_, _, _, k + 1, rfl, by omega, rfl, g.trans g3, S3, by omega, ?_⟩)⟩))
        have := Jn.snoc hj hsep (p := r[k])
        rw [List.cons_append, List.take_append_getElem hkr] at this
        exact this
    · rintro _ H' ⟨t, a2, w, rfl, g, S2, ha2, hj⟩
      exact ts_cons (ts_Return (tri_Name (.there (.there .here)) (q H' t a2 hj g S2 (by simp; omega))))
end
end Mine
end
section
open PySem PySem.W PyProof.Rows PySem.Calls
set_option Elab.async false
set_option maxRecDepth 100000
set_option linter.unusedVariables false
set_option linter.unusedSectionVars false
namespace Mine
/-- the locals of the functions that write a tree -/
abbrev sT (st : Nat) (v : V) : Loc := [("state", some (.loc st)), ("tree", some v)]
def isAnd : LT → Bool
  | .and .. => true
  | _ => false
def isNot : LT → Bool
  | .not .. => true
  | _ => false
theorem kd_col (t : LT) : decide (kdT t = (Str.ofString "col").cps.toList) = isCol t := by
  rw [show (Str.ofString "col").cps.toList = [99, 111, 108] by decide +kernel]; cases t <;> rfl
theorem kd_and (t : LT) : decide (kdT t = (Str.ofString "and").cps.toList) = isAnd t := by
  rw [show (Str.ofString "and").cps.toList = [97, 110, 100] by decide +kernel]; cases t <;> rfl
theorem kd_or (t : LT) : decide (kdT t = (Str.ofString "or").cps.toList) = isOrT t := by
  rw [show (Str.ofString "or").cps.toList = [111, 114] by decide +kernel]; cases t <;> rfl
theorem kd_not (t : LT) : decide (kdT t = (Str.ofString "not").cps.toList) = isNot t := by
  rw [show (Str.ofString "not").cps.toList = [110, 111, 116] by decide +kernel]; cases t <;> rfl
theorem kd_nnot (t : LT) : decide (kdT t ≠ (Str.ofString "not").cps.toList) = !isNot t := by
  rw [show (Str.ofString "not").cps.toList = [110, 111, 116] by decide +kernel]; cases t <;> rfl
theorem kd_t {t : LT} (h : isLeaf t = false) : decide (kdT t = (Str.ofString "t").cps.toList) = false := by
  rw [show (Str.ofString "t").cps.toList = [116] by decide +kernel]; cases t <;> first | rfl | cases h
theorem kd_w {t : LT} (h : isLeaf t = false) : decide (kdT t = (Str.ofString "w").cps.toList) = false := by
  rw [show (Str.ofString "w").cps.toList = [119] by decide +kernel]; cases t <;> first | rfl | cases h
section
variable {P : Params} {X : Cx} (hK : X.K = KK P) (NX : Names X) (LX : LNm X) {n : Nat} {st nb : Nat} {ns : List Nat}
set_option maxHeartbeats 4000000
include hK NX LX
theorem asked_ok {d c : Nat} {nms : List (List Nat)} {t : LT} (hg : goodT (d + 1) (.col nms t)) (hd : maxL (d + 1) ≤ 100000) (B : XT X (n + 1) 203 .bare st nb ns t c) : XT X (n + 2) 196 .asked st nb ns (.col nms t) (c + 1) := by
  intro env m H at' lo v Q S hlo ht hc q
  refine cn_call (names := ["state", "tree"]) (ws := []) (ds := []) (by rw [hK]; rfl) (by rw [hK]; rfl) rfl rfl rfl rfl (by decide +kernel) rfl (fun s cvs hin hl => ?_) (fun _ _ => by unfold DenL; rfl) ?_
  · obtain ⟨c, c2, rfl⟩ : ∃ c c2, cvs = [c, c2] := by
      match cvs, hl with
      | [c, c2], _ => exact ⟨c, c2, rfl⟩
    exact BindsTo.of_eq rfl
  intro env' hsc hcode
  obtain ⟨sc, lo', gl, ce, qu, fu, co, fr, bi⟩ := env'
  simp only at hsc hcode
  subst hsc hcode
  have hsl : sizeLine = 16777216 := rfl
  show TS X (n + 1) _ (sT st v) H (execs _ _) _ _ _ _
  obtain ⟨h1, h2, h3⟩ := hg
  cases ht with
  | @col _ _ x v hx he ht =>
  refine ts_cons (ts_Return (tri_BinOp (tri_BinOp (tri_CallN (f := .ref 182) rfl (.inl LX.columns) (hfun hK NX rfl) (tx_cons (e_at (i := 1) (.there .here) rfl (tx_nil (tn_of_cn (columns_ok hK NX LX he h1 (fun s hs => by have := NA_len s (h2 s hs); omega) (e_pick3 (L := SEPC) hK NX LX (by decide +kernel) rfl .here S (by omega) fun H1 sep hsep g1 S1 => ?_))))))))))
  have hcl := columns_len h1 h2
  have hsp := SC_len _ hsep
  refine add_s (by omega) (tri_CallN (f := .ref 203) rfl (.inl LX.bare) (hfun hK NX rfl) (tx_cons (tri_Name .here (tx_cons (e_at (i := 2) (.there .here) rfl (tx_nil (tn_of_cn (B S1 hlo (ht.gr g1 hlo) (by omega) fun H2 y a2 hy g2 S2 ha2 => ?_))))))))
  have hyl := tx_len hy h3
  have := bnd_le .bare d
  have := maxL_mono d
  refine add_s (by simp; omega) (q H2 _ a2 (.asked hsep hy) (g1.trans g2) S2 (by omega))
theorem bare_ok {d E : Nat} {t : LT} (hg : goodT d t) (hd : maxL d ≤ 100000) (A : isCol t = true → XT X (n + 1) 196 .asked st nb ns t E) (B : isCol t = false → XT X (n + 1) 189 .atom st nb ns t E) : XT X (n + 2) 203 .bare st nb ns t E := by
  intro env m H at' lo v Q S hlo ht hc q
  refine cn_call (names := ["state", "tree"]) (ws := []) (ds := []) (by rw [hK]; rfl) (by rw [hK]; rfl) rfl rfl rfl rfl (by decide +kernel) rfl (fun s cvs hin hl => ?_) (fun _ _ => by unfold DenL; rfl) ?_
  · obtain ⟨c, c2, rfl⟩ : ∃ c c2, cvs = [c, c2] := by
      match cvs, hl with
      | [c, c2], _ => exact ⟨c, c2, rfl⟩
    exact BindsTo.of_eq rfl
  intro env' hsc hcode
  obtain ⟨sc, lo', gl, ce, qu, fu, co, fr, bi⟩ := env'
  simp only at hsc hcode
  subst hsc hcode
  have hsl : sizeLine = 16777216 := rfl
  show TS X (n + 1) _ (sT st v) H (execs _ _) _ _ _ _
  obtain ⟨rest, rfl⟩ := ht.kd
  refine ts_cons (ts_If (tk (isCol t) (.there .here) (kd_col t) (br_c (fun hcol => ?_) (fun hcol => ?_))))
  · refine ts_cons (ts_Return (tri_BinOp (tri_BinOp (tri_str (tri_CallN (f := .ref 196) rfl (.inl LX.asked) (hfun hK NX rfl) (tx_cons (tri_Name .here (tx_cons (tri_Name (.there .here) (tx_nil (tn_of_cn (A hcol S hlo ht hc fun H1 y a1 hy g1 S1 ha1 => ?_))))))))))))
    have hyl := tx_len hy hg
    have := bnd_le .asked d
    rw [show (Str.ofString "(").cps.toList = [40] by decide +kernel]
    refine add_s (by simp; omega) (tri_str ?_)
    rw [show (Str.ofString ")").cps.toList = [41] by decide +kernel]
    refine add_s (by simp; omega) ?_
    obtain ⟨nms, t', rfl⟩ : ∃ nms t', t = .col nms t' := by cases t <;> first | exact ⟨_, _, rfl⟩ | (cases hcol)
    exact q H1 _ a1 (.bcol hy) g1 S1 ha1
  · exact ts_nil (ts_cons (ts_Return (tri_CallN (f := .ref 189) rfl (.inl LX.atom) (hfun hK NX rfl) (tx_cons (tri_Name .here (tx_cons (tri_Name (.there .here) (tx_nil (tn_of_cn (B hcol S hlo ht hc fun H1 y a1 hy g1 S1 ha1 => q H1 _ a1 (.batom hcol hy) g1 S1 ha1))))))))))
theorem atom_ok1 {d E : Nat} {t : LT} (hg : goodT d t) (hd : maxL d ≤ 100000) (hE : 1 ≤ E) (A : isCol t = true → XT X (n + 1) 196 .asked st nb ns t E) (B : isLeaf t = false → XT X (n + 1) 215 .any st nb ns t E) : XT X (n + 2) 189 .atom st nb ns t (E + 2) := by
  intro env m H at' lo v Q S hlo ht hc q
  refine cn_call (names := ["state", "tree"]) (ws := []) (ds := []) (by rw [hK]; rfl) (by rw [hK]; rfl) rfl rfl rfl rfl (by decide +kernel) rfl (fun s cvs hin hl => ?_) (fun _ _ => by unfold DenL; rfl) ?_
  · obtain ⟨c, c2, rfl⟩ : ∃ c c2, cvs = [c, c2] := by
      match cvs, hl with
      | [c, c2], _ => exact ⟨c, c2, rfl⟩
    exact BindsTo.of_eq rfl
  intro env' hsc hcode
  obtain ⟨sc, lo', gl, ce, qu, fu, co, fr, bi⟩ := env'
  simp only at hsc hcode
  subst hsc hcode
  have hsl : sizeLine = 16777216 := rfl
  show TS X (n + 1) _ (sT st v) H (execs _ _) _ _ _ _
  by_cases hleaf : isLeaf t = true
  · cases ht with
    | @t s =>
      exact ts_cons (ts_If (tk true (.there .here) (by decide +kernel) (br_t (ts_cons (ts_Return (e_at (i := 1) (.there .here) rfl (q H _ at' .t .refl S (by omega))))))))
    | @w s sx =>
      have hw : s ∈ WORDS ∧ sx ∈ STARS := by cases d <;> exact hg
      have h1 := WO_len _ hw.1
      have h2 := ST_len _ hw.2
      refine ts_cons (ts_If (tk false (.there .here) (by decide +kernel) (br_f (ts_nil (ts_cons (ts_If (tk true (.there .here) (by decide +kernel) (br_t (ts_cons (ts_If (e_coin hK NX LX rfl .here S (by omega) fun H1 b g1 S1 => br_c (fun _ => ?_) (fun _ => ?_))))))))))))
      · refine ts_cons (ts_Return (tri_BinOp (e_at (i := 1) (.there .here) rfl (e_at (i := 2) (.there .here) rfl (add_s (by omega) (q H1 _ _ .w g1 S1 (by omega)))))))
      · refine ts_nil (ts_cons (ts_Return (tri_BinOp (tri_BinOp (tri_BinOp (tri_str (e_at (i := 1) (.there .here) rfl ?_)))))))
        rw [show (Str.ofString "\"").cps.toList = [34] by decide +kernel]
        refine add_s (by simp; omega) (tri_str ?_)
        rw [show (Str.ofString "\"").cps.toList = [34] by decide +kernel]
        refine add_s (by simp; omega) (e_at (i := 2) (.there .here) rfl (add_s (by simp; omega) ?_))
        have := q H1 _ _ (TXT.wq (s := s) (st := sx)) g1 S1 (by omega)
        simpa using this
    | col _ _ _ => cases hleaf
    | and _ _ _ => cases hleaf
    | or _ _ _ => cases hleaf
    | not _ _ _ _ => cases hleaf
  have hleaf : isLeaf t = false := by simpa using hleaf
  obtain ⟨rest, rfl⟩ := ht.kd
  refine ts_cons (ts_If (tk false (.there .here) (kd_t hleaf) (br_f (ts_nil (ts_cons (ts_If (tk false (.there .here) (kd_w hleaf) (br_f (ts_nil ?_)))))))))
  refine ts_cut (fun m' H' => ∃ a1, m' = sT st (.tup (.str (kdT t) :: rest)) ∧ Gr st H H' ∧ StAt H' st nb ns a1 ∧ a1 ≤ at' + 1) (ts_If (tb_BoolOp (ta_and (tk (isCol t) (.there .here) (kd_col t) (br_c (fun hcol => ?_) (fun hcol => ?_)))))) ?_
  · refine ta_and (e_coin hK NX LX rfl .here S (by omega) fun H1 b g1 S1 => br_c (fun _ => ta_nil_and (br_t ?_)) (fun _ => br_f (ts_nil ⟨_, rfl, g1, S1, by omega⟩)))
    refine ts_cons (ts_Return (tri_CallN (f := .ref 196) rfl (.inl LX.asked) (hfun hK NX rfl) (tx_cons (tri_Name .here (tx_cons (tri_Name (.there .here) (tx_nil (tn_of_cn (A hcol S1 hlo (ht.gr g1 hlo) (by omega) fun H2 y a2 hy g2 S2 ha2 => ?_)))))))))
    obtain ⟨nms, t', rfl⟩ : ∃ nms t', t = .col nms t' := by cases t <;> first | exact ⟨_, _, rfl⟩ | (cases hcol)
    exact q H2 _ a2 (.acol hy) (g1.trans g2) S2 (by omega)
  · exact br_f (ts_nil ⟨_, rfl, .refl, S, by omega⟩)
  rintro _ H1 ⟨a1, rfl, g1, S1, ha1⟩
  refine ts_cons (ts_Return (tri_BinOp (tri_BinOp (tri_str (tri_CallN (f := .ref 215) rfl (.inl LX.any) (hfun hK NX rfl) (tx_cons (tri_Name .here (tx_cons (tri_Name (.there .here) (tx_nil (tn_of_cn (B hleaf S1 hlo (ht.gr g1 hlo) (by omega) fun H2 y a2 hy g2 S2 ha2 => ?_))))))))))))
  have hyl := tx_len hy hg
  have := bnd_le .any d
  rw [show (Str.ofString "(").cps.toList = [40] by decide +kernel]
  refine add_s (by simp; omega) (e_pick2 (L := PARC) hK NX LX (by decide +kernel) rfl .here S2 (by omega) fun H3 cl hcl g3 S3 => ?_)
  have := PC_len _ hcl
  refine add_s (by simp; omega) ?_
  have := q H3 _ _ (.par hleaf hcl hy) (g1.trans (g2.trans g3)) S3 (by omega)
  simpa using this
end
end Mine
end
section
open PySem PySem.W PyProof.Rows PySem.Calls
set_option Elab.async false
set_option maxRecDepth 100000
set_option linter.unusedVariables false
set_option linter.unusedSectionVars false
namespace Mine
theorem sum_le {M : Nat} : ∀ {xs : List (List Nat)}, (∀ y ∈ xs, y.length ≤ M) → (xs.map (·.length)).sum ≤ xs.length * M
  | [], _ => by simp
  | x :: l, h => by
    have h1 := h x (.head _)
    have h2 := sum_le (xs := l) fun z hz => h z (.tail _ hz)
    simp only [List.map_cons, List.sum_cons, List.length_cons, Nat.succ_mul]
    omega
theorem TXTs.take {k} : ∀ {l xs} (j : Nat), TXTs k l xs → TXTs k (l.take j) (xs.take j)
  | _, _, 0, h => by simp only [List.take_zero]; exact .nil
  | _, _, j + 1, .nil => .nil
  | _, _, j + 1, .cons a b => .cons a (b.take j)
theorem goodL_mem {d : Nat} : ∀ {l : List LT} {t : LT}, goodL d l → t ∈ l → goodT d t
  | _, _, h, .head _ => h.1
  | _, _, h, .tail _ m => goodL_mem h.2 m
section
variable {P : Params} {X : Cx} (hK : X.K = KK P) (NX : Names X) (LX : LNm X) {n : Nat} {st nb : Nat} {ns : List Nat} {H : List Cell} {at' : Nat}
set_option maxHeartbeats 4000000
include hK NX LX
/-- trees that are written, one after the other -/
theorem txts_comp {fn : Str} {f : Addr} {k : KT} {l : List LT} {x lo c : Nat} {vs : List V} {e1 e2 e3 e6 : Pos} {scope : Scope} {iter : Expr} {px pos : Pos} {cenv : Env} {Qc : Loc → List Cell → Prop} (T : ∀ t ∈ l, XT X n f k st nb ns t c) (hf1 : X.mg fn = some (.ref f)) (hf2 : Kn X (.ref f)) (hf3 : (fn == ("__debug__" : Str)) = false)
    (hS : StAt H st nb ns at') (hc : at' + l.length * c ≤ 100000) (hx : H[x]? = some (.list vs)) (hlx : lo ≤ x) (hlo : st < lo) (hl : LTsAt H lo l vs) (hN : l.length ≤ 3)
    (hk1 : cenv.kindOf "one" ≠ some .free) (hk2 : cenv.kindOf fn = some .globalImplicit)
    (q : ∀ w xs H' at2, Gr st H H' → StAt H' st nb ns at2 → at2 ≤ at' + l.length * c → TXTs k l xs → H'[H.length]? = some (.list (xs.map V.str)) → Qc (("one", w) :: [("state", some (.loc st))]) H') :
    TC X n cenv (("one", none) :: [("state", some (.loc st))]) (H ++ [.list []]) (.Call (.Name fn e1) [.Name "state" e2, .Name "one" e3] [] e6) (.Name "one" px) iter [] scope pos (.lst x 0) H.length Qc := by
  have hlt := hS.lt
  have hxl := (List.getElem?_eq_some_iff.mp hx).1
  have hvl := hl.len
  refine tc_rel (J := fun j d H' => Gr st H H' ∧ ∃ xs a', d = xs.map V.str ∧ StAt H' st nb ns a' ∧ a' ≤ at' + j * c ∧ TXTs k (l.take j) xs) (S := fun j => .lst x j) (val := fun j => vs.getD j .none) (N := l.length) hk1 (by omega)
    (fun j d H' c hJ => ?_) (fun j hj d H' hJ => ?_) (fun d H' hJ => ?_) (fun j hj d H' hJ hac => ?_) (fun w d H' hJ hd hac => ?_) l.length 0 (by omega) none [] _ rfl ⟨Gr.snoc, [], at', rfl, hS.ext .snoc, by omega, .nil⟩ (by simp)
  · obtain ⟨g, xs, a', h1, h2, h3, h4⟩ := hJ
    exact ⟨g.setHi (Nat.le_refl _), xs, a', h1, h2.setHi (by omega) (by omega), h3, h4⟩
  · refine next_cons (vs := vs) (hJ.1.get hx (by omega)) ?_
    rw [List.getElem?_eq_getElem (by omega), List.getD_eq_getElem?_getD, List.getElem?_eq_getElem (by omega)]; rfl
  · exact next_nil (vs := vs) (hJ.1.get hx (by omega)) (by rw [List.getElem?_eq_none_iff]; omega)
  · obtain ⟨g, xs, a', rfl, h2, h3, h4⟩ := hJ
    have hkc : j * c + c ≤ l.length * c := by
      rw [← Nat.succ_mul]; exact Nat.mul_le_mul_right _ (by omega)
    obtain ⟨v, hv, hT⟩ := hl.get (k := j) (List.getElem?_eq_getElem hj)
    rw [show vs.getD j .none = v by rw [List.getD_eq_getElem?_getD, hv]; rfl]
    refine tri_CallN (hd := hf3) (f := .ref f) hk2 (.inl hf1) hf2 (tx_cons (tri_Name (.there .here) (tx_cons (tri_Name .here (tx_nil (tn_of_cn (T _ (List.getElem_mem hj) h2 hlo (hT.gr g hlo) (by omega) fun H2 y a2 g1 g3 g4 g5 => ⟨rfl, ⟨g.trans g3, xs ++ [y], a2, by simp, g4, ?_, ?_⟩, ?_⟩)))))))
    · rw [Nat.succ_mul]; omega
    · rw [← List.take_append_getElem hj]
      exact h4.snoc g1
    · exact g3.keep _ hac (by omega)
  · obtain ⟨g, xs, a', rfl, h2, h3, h4⟩ := hJ
    rw [List.take_of_length_le (Nat.le_refl _)] at h4
    exact q w xs H' a' g h2 h3 h4 hac
theorem any_or {d c : Nat} {l : List LT} (hg : goodT (d + 1) (.or l)) (hd : maxL (d + 1) ≤ 100000) (T : ∀ t ∈ l, XT X (n + 1) 220 .group st nb ns t c) : XT X (n + 2) 215 .any st nb ns (.or l) (3 * c) := by
  intro env m H at' lo v Q S hlo ht hc q
  refine cn_call (names := ["state", "tree"]) (ws := []) (ds := []) (by rw [hK]; rfl) (by rw [hK]; rfl) rfl rfl rfl rfl (by decide +kernel) rfl (fun s cvs hin hl => ?_) (fun _ _ => by unfold DenL; rfl) ?_
  · obtain ⟨c, c2, rfl⟩ : ∃ c c2, cvs = [c, c2] := by
      match cvs, hl with
      | [c, c2], _ => exact ⟨c, c2, rfl⟩
    exact BindsTo.of_eq rfl
  intro env' hsc hcode
  obtain ⟨sc, lo', gl, ce, qu, fu, co, fr, bi⟩ := env'
  simp only at hsc hcode
  subst hsc hcode
  have hsl : sizeLine = 16777216 := rfl
  have hcell : some NameKind.cell ≠ some NameKind.local := by decide
  show TS X (n + 1) _ (sT st v) H (execs _ _) _ _ _ _
  obtain ⟨h1, h2⟩ := hg
  have hlc : l.length * c ≤ 3 * c := Nat.mul_le_mul_right _ (by omega)
  cases ht with
  | @or _ x vs hx he ht =>
  refine ts_cons (ts_If (tk true (.there .here) (by decide +kernel) (br_t (ts_cons (ts_Return (tri_CallM (tri_str (tm_str F.slot_str_join F.type_str_join ⟨kn_builtin, tx_cons (tri_ListComp [("state", .loc st)] (frees_cell (.head _) hcell (by decide) (by first | exact .inl rfl | exact .inr rfl) (by decide) (by simp)) rfl (by decide) (by decide) ⟨rfl, by decide, by decide⟩ (e_at (i := 1) (.there .here) rfl ⟨rfl, .lst x 0, rfl, fun i e => ⟨_, by cases e; exact he⟩, fun k e => (by cases e), fun cl C => ?_⟩))⟩))))))))
  refine txts_comp hK NX LX T LX.group (hfun hK NX rfl) (by decide) S (by omega) he hx hlo ht (by omega) (by exact nofree) rfl fun w xs H1 a1 g1 S1 ha1 hxs hac => ⟨fun p hp => ?_, ?_⟩
  · rcases List.mem_cons.mp hp with rfl | hp
    · exact .tail _ (.head _)
    · cases hp
  have h3 : ∀ y ∈ xs, y.length ≤ maxL d := fun y hy => Nat.le_trans (txs_len hxs h2 y hy) (bnd_le .group d)
  have hm := maxL_mono d
  have hsum := sum_le h3
  have hxl := hxs.len
  have hj := join_len h3
  have hml : xs.length * maxL d ≤ 3 * maxL d := Nat.mul_le_mul_right _ (by omega)
  refine tx_nil (join_l hac ?_ ?_)
  · rw [show (Str.ofString " OR ").cps.toList = [32, 79, 82, 32] by decide +kernel]
    simp only [List.length_cons, List.length_nil]
    omega
  · rw [show (Str.ofString " OR ").cps.toList = [32, 79, 82, 32] by decide +kernel]
    exact q H1 _ a1 (.anyOr hxs) g1 S1 (by omega)
theorem any_ok1 {t : LT} {E : Nat} (ho : isOrT t = false) (G : XT X (n + 1) 220 .group st nb ns t E) : XT X (n + 2) 215 .any st nb ns t E := by
  intro env m H at' lo v Q S hlo ht hc q
  refine cn_call (names := ["state", "tree"]) (ws := []) (ds := []) (by rw [hK]; rfl) (by rw [hK]; rfl) rfl rfl rfl rfl (by decide +kernel) rfl (fun s cvs hin hl => ?_) (fun _ _ => by unfold DenL; rfl) ?_
  · obtain ⟨c, c2, rfl⟩ : ∃ c c2, cvs = [c, c2] := by
      match cvs, hl with
      | [c, c2], _ => exact ⟨c, c2, rfl⟩
    exact BindsTo.of_eq rfl
  intro env' hsc hcode
  obtain ⟨sc, lo', gl, ce, qu, fu, co, fr, bi⟩ := env'
  simp only at hsc hcode
  subst hsc hcode
  show TS X (n + 1) _ (sT st v) H (execs _ _) _ _ _ _
  obtain ⟨rest, rfl⟩ := ht.kd
  refine ts_cons (ts_If (tk false (.there .here) (by rw [kd_or, ho]) (br_f (ts_nil (ts_cons (ts_Return (tri_CallN (f := .ref 220) rfl (.inl LX.group) (hfun hK NX rfl) (tx_cons (tri_Name .here (tx_cons (tri_Name (.there .here) (tx_nil (tn_of_cn (G S hlo ht hc fun H1 y a1 hy g1 S1 ha1 => q H1 y a1 (.anyG ho hy) g1 S1 ha1))))))))))))))
/-- bare(a) + ' NOT ' + bare(b[0]) -/
theorem e_nots {v1 v2 : V} {kd : V} {x lo d c : Nat} {t t2 : LT} {env : Env} {m : Loc} {Q : V → Loc → List Cell → Prop} {p1 p2 p3 p4 p5 p6 p7 p8 p9 q1 q2 q3 q4 q5 q6 q7 q8 : Pos} {k1 k2 k3 k4} (hk : env.kindOf "_law_bare" = some .globalImplicit) (hg : goodT d t) (hg2 : goodT d t2) (hd : maxL d ≤ 100000) (hls : LkL m "state" (.loc st)) (hlt : LkL m "tree" (.tup [kd, v1, .loc x]))
    (hx : H[x]? = some (.list [v2])) (S : StAt H st nb ns at') (hlo : st < lo) (hxl : lo ≤ x) (ht : LTAt H lo t v1) (ht2 : LTAt H lo t2 v2) (B1 : XT X n 203 .bare st nb ns t c) (B2 : XT X n 203 .bare st nb ns t2 c) (hc : at' + 2 * c ≤ 100000)
    (q : ∀ H' y z a2, TXT .bare t y → TXT .bare t2 z → Gr st H H' → StAt H' st nb ns a2 → a2 ≤ at' + 2 * c → Q (.str (y ++ tNOT ++ z)) m H') :
    TE X n env m H (eval (.BinOp (.BinOp (.Call (.Name "_law_bare" p1) [.Name "state" p2, .Subscript (.Name "tree" p3) (.Constant (.int 1) k1 p4) p5] [] p6) .Add (.Constant (.str " NOT ") k2 p7) p8) .Add (.Call (.Name "_law_bare" q1) [.Name "state" q2, .Subscript (.Subscript (.Name "tree" q3) (.Constant (.int 2) k3 q4) q5) (.Constant (.int 0) k4 q6) q7] [] q8) p9) env) Q := by
  have hsl : sizeLine = 16777216 := rfl
  refine tri_BinOp (tri_BinOp (tri_CallN (f := .ref 203) hk (.inl LX.bare) (hfun hK NX rfl) (tx_cons (tri_Name hls (tx_cons (e_at (i := 1) hlt rfl (tx_nil (tn_of_cn (B1 S hlo ht (by omega) fun H1 y a1 hy g1 S1 ha1 => tri_str ?_)))))))))
  have hyl := tx_len hy hg
  have := bnd_le .bare d
  rw [show (Str.ofString " NOT ").cps.toList = tNOT by decide +kernel]
  have : tNOT.length = 5 := rfl
  refine add_s (by omega) (tri_CallN (f := .ref 203) hk (.inl LX.bare) (hfun hK NX rfl) (tx_cons (tri_Name hls (tx_cons (tri_Subscript (e_at (i := 2) hlt rfl (tri_int (t2_item_list (g1.get hx (by omega)) (by decide) (v := v2) rfl (tx_nil (tn_of_cn (B2 S1 hlo (ht2.gr g1 hlo) (by omega) fun H2 z a2 hz g2 S2 ha2 => ?_)))))))))))
  have hzl := tx_len hz hg2
  exact add_s (by simp; omega) (q H2 y z a2 hy hz (g1.trans g2) S2 (by omega))
theorem part_ok {t : LT} {d E c : Nat} (hg : goodT d t) (hd : maxL d ≤ 100000) (hE : 2 * c ≤ E) (A : XT X (n + 1) 189 .atom st nb ns t E) (B : ∀ t1 l, t = .not t1 l → XT X (n + 1) 203 .bare st nb ns t1 c ∧ ∀ t2 ∈ l, XT X (n + 1) 203 .bare st nb ns t2 c) : XT X (n + 2) 227 .part st nb ns t (E + 1) := by
  intro env m H at' lo v Q S hlo ht hc q
  refine cn_call (names := ["state", "tree"]) (ws := []) (ds := []) (by rw [hK]; rfl) (by rw [hK]; rfl) rfl rfl rfl rfl (by decide +kernel) rfl (fun s cvs hin hl => ?_) (fun _ _ => by unfold DenL; rfl) ?_
  · obtain ⟨c, c2, rfl⟩ : ∃ c c2, cvs = [c, c2] := by
      match cvs, hl with
      | [c, c2], _ => exact ⟨c, c2, rfl⟩
    exact BindsTo.of_eq rfl
  intro env' hsc hcode
  obtain ⟨sc, lo', gl, ce, qu, fu, co, fr, bi⟩ := env'
  simp only at hsc hcode
  subst hsc hcode
  show TS X (n + 1) _ (sT st v) H (execs _ _) _ _ _ _
  refine ts_cut (fun m' H' => ∃ a1, m' = sT st v ∧ Gr st H H' ∧ StAt H' st nb ns a1 ∧ a1 ≤ at' + 1) (ts_If (tb_BoolOp (ta_and ?_))) ?_
  · cases hn : isNot t with
    | false =>
      obtain ⟨rest, rfl⟩ := ht.kd
      exact tk false (.there .here) (by rw [kd_not, hn]) (br_f (br_f (ts_nil ⟨_, rfl, .refl, S, by omega⟩)))
    | true =>
      cases ht with
      | @not t1 v1 l x vs ht1 hx he hts =>
        have hvl := hts.len
        refine tk true (.there .here) (by decide +kernel) (br_t (ta_and (tb_Compare (hm := by with_unfolding_all rfl) (tri_CallN (f := .builtin "len") rfl (.inr NX.len) kn_builtin (tx_cons (e_at (i := 2) (.there .here) rfl (tx_nil (len_l he (tri_int (eq_i (tr_b (br_c (fun h1 => ?_) (fun _ => br_f (ts_nil ⟨_, rfl, .refl, S, by omega⟩))))))))))))))
        have h1 : vs.length = 1 := by have := of_decide_eq_true h1; omega
        refine ta_and (e_coin hK NX LX rfl .here S (by omega) fun H1 b g1 S1 => br_c (fun _ => ta_nil_and (br_t ?_)) (fun _ => br_f (ts_nil ⟨_, rfl, g1, S1, by omega⟩)))
        obtain ⟨v2, rfl⟩ : ∃ v2, vs = [v2] := by
          match vs, h1 with
          | [v2], _ => exact ⟨v2, rfl⟩
        cases hts with
        | @cons t2 _ l _ ht2 hts =>
        cases hts
        obtain ⟨d', rfl⟩ := nonleaf_pos hg rfl
        have hm := maxL_mono d'
        obtain ⟨B1, B2⟩ := B t1 [t2] rfl
        refine ts_cons (ts_Return (e_nots hK NX LX rfl hg.1 hg.2.2.1 (by omega) .here (.there .here) (g1.get he (by omega)) S1 hlo hx (ht1.gr g1 hlo) (ht2.gr g1 hlo) B1 (B2 t2 (.head _)) (by omega) fun H2 y z a2 hy hz g2 S2 ha2 => q H2 _ a2 (.pNot hy hz) (g1.trans g2) S2 (by omega)))
      | t => cases hn
      | w => cases hn
      | col _ _ _ => cases hn
      | and _ _ _ => cases hn
      | or _ _ _ => cases hn
  · rintro _ H1 ⟨a1, rfl, g1, S1, ha1⟩
    exact ts_cons (ts_Return (tri_CallN (f := .ref 189) rfl (.inl LX.atom) (hfun hK NX rfl) (tx_cons (tri_Name .here (tx_cons (tri_Name (.there .here) (tx_nil (tn_of_cn (A S1 hlo (ht.gr g1 hlo) (by omega) fun H2 y a2 hy g2 S2 ha2 => q H2 y a2 (.pAtom hy) (g1.trans g2) S2 (by omega))))))))))
end
end Mine
end
section
open PySem PySem.W PyProof.Rows PySem.Calls
set_option Elab.async false
set_option maxRecDepth 100000
set_option linter.unusedVariables false
set_option linter.unusedSectionVars false
namespace Mine
/-- the locals of _law_group -/
abbrev gT (st : Nat) (v : V) (a b c : Option V) : Loc := [("state", some (.loc st)), ("tree", some v), ("one", a), ("parts", b), ("at", c)]
section
variable {P : Params} {X : Cx} (hK : X.K = KK P) (NX : Names X) (LX : LNm X) {n : Nat} {st nb : Nat} {ns : List Nat}
set_option maxHeartbeats 8000000
include hK NX LX
theorem group_easy {t : LT} {E : Nat} (h1 : isAnd t = false) (h2 : isNot t = false) (A : isCol t = true → XT X (n + 1) 196 .asked st nb ns t E) (B : isCol t = false → XT X (n + 1) 189 .atom st nb ns t E) : XT X (n + 2) 220 .group st nb ns t E := by
  intro env m H at' lo v Q S hlo ht hc q
  refine cn_call (names := ["state", "tree"]) (ws := []) (ds := []) (by rw [hK]; rfl) (by rw [hK]; rfl) rfl rfl rfl rfl (by decide +kernel) rfl (fun s cvs hin hl => ?_) (fun _ _ => by unfold DenL; rfl) ?_
  · obtain ⟨c, c2, rfl⟩ : ∃ c c2, cvs = [c, c2] := by
      match cvs, hl with
      | [c, c2], _ => exact ⟨c, c2, rfl⟩
    exact BindsTo.of_eq rfl
  intro env' hsc hcode
  obtain ⟨sc, lo', gl, ce, qu, fu, co, fr, bi⟩ := env'
  simp only at hsc hcode
  subst hsc hcode
  show TS X (n + 1) _ (gT st v none none none) H (execs _ _) _ _ _ _
  obtain ⟨rest, rfl⟩ := ht.kd
  refine ts_cons (ts_If (tk false (.there .here) (by rw [kd_and, h1]) (br_f (ts_nil (ts_cons (ts_If (tk (isCol t) (.there .here) (kd_col t) (br_c (fun hcol => ?_) (fun hcol => ?_)))))))))
  · refine ts_cons (ts_Return (tri_CallN (f := .ref 196) rfl (.inl LX.asked) (hfun hK NX rfl) (tx_cons (tri_Name .here (tx_cons (tri_Name (.there .here) (tx_nil (tn_of_cn (A hcol S hlo ht hc fun H1 y a1 hy g1 S1 ha1 => ?_)))))))))
    obtain ⟨nms, t', rfl⟩ : ∃ nms t', t = .col nms t' := by cases t <;> first | exact ⟨_, _, rfl⟩ | (cases hcol)
    exact q H1 _ a1 (.gCol hy) g1 S1 ha1
  · refine ts_nil (ts_cons (ts_If (tkn true (.there .here) (by rw [kd_nnot, h2]; rfl) (br_t ?_))))
    refine ts_cons (ts_Return (tri_CallN (f := .ref 189) rfl (.inl LX.atom) (hfun hK NX rfl) (tx_cons (tri_Name .here (tx_cons (tri_Name (.there .here) (tx_nil (tn_of_cn (B hcol S hlo ht hc fun H1 y a1 hy g1 S1 ha1 => q H1 y a1 ?_ g1 S1 ha1)))))))))
    cases t with
    | t => exact .gLeaf rfl hy
    | w => exact .gLeaf rfl hy
    | col => cases hcol
    | and => cases h1
    | or => exact atom_or hy
    | not => cases h2
theorem group_and {d c : Nat} {l : List LT} (hg : goodT (d + 1) (.and l)) (hd : maxL (d + 1) ≤ 100000) (T : ∀ t ∈ l, XT X (n + 2) 227 .part st nb ns t c) : XT X (n + 3) 220 .group st nb ns (.and l) (3 * c + 3) := by
  intro env m H at' lo v Q S hlo ht hc q
  refine cn_call (names := ["state", "tree"]) (ws := []) (ds := []) (by rw [hK]; rfl) (by rw [hK]; rfl) rfl rfl rfl rfl (by decide +kernel) rfl (fun s cvs hin hl => ?_) (fun _ _ => by unfold DenL; rfl) ?_
  · obtain ⟨c, c2, rfl⟩ : ∃ c c2, cvs = [c, c2] := by
      match cvs, hl with
      | [c, c2], _ => exact ⟨c, c2, rfl⟩
    exact BindsTo.of_eq rfl
  intro env' hsc hcode
  obtain ⟨sc, lo', gl, ce, qu, fu, co, fr, bi⟩ := env'
  simp only at hsc hcode
  subst hsc hcode
  have hcell : some NameKind.cell ≠ some NameKind.local := by decide
  show TS X (n + 2) _ (gT st v none none none) H (execs _ _) _ _ _ _
  obtain ⟨h1, h2⟩ := hg
  have hlc : l.length * c ≤ 3 * c := Nat.mul_le_mul_right _ (by omega)
  cases ht with
  | @and _ x vs hx he ht =>
  refine ts_cons (ts_If (tk true (.there .here) (by decide +kernel) (br_t (ts_cons (ts_Return (tri_CallN (f := .ref 210) rfl (.inl LX.joined) (hfun hK NX rfl) (tx_cons (tri_Name .here (tx_cons (tri_ListComp [("state", .loc st)] (frees_cell (.head _) hcell (by decide) (by first | exact .inl rfl | exact .inr rfl) (by decide) (by simp)) rfl (by decide) (by decide) ⟨rfl, by decide, by decide⟩ (e_at (i := 1) (.there .here) rfl ⟨rfl, .lst x 0, rfl, fun i e => ⟨_, by cases e; exact he⟩, fun k e => (by cases e), fun cl C => ?_⟩)))))))))))
  refine txts_comp hK NX LX T LX.part (hfun hK NX rfl) (by decide) S (by omega) he hx hlo ht (by omega) (by exact nofree) rfl fun w xs H1 a1 g1 S1 ha1 hxs hac => ⟨fun p hp => ?_, ?_⟩
  · rcases List.mem_cons.mp hp with rfl | hp
    · exact .tail _ (.head _)
    · cases hp
  have h3 : ∀ y ∈ xs, y.length ≤ maxL d := fun y hy => Nat.le_trans (txs_len hxs h2 y hy) (bnd_le .part d)
  have hm := maxL_mono d
  have hxl := hxs.len
  have hlt := S.lt
  refine tx_nil (tn_of_cn (joined_ok hK NX LX hac (by rintro rfl; simp at hxl; omega) (by omega) h3 (by omega) S1 (by omega) (by omega) fun H2 z a2 hz g2 S2 ha2 => q H2 z a2 (.gAnd hxs hz) (g1.trans g2) S2 (by omega)))
omit hK NX LX in
theorem clip_nat (k : Nat) (z : Int) : (if (k : Int) < 0 then z else (k : Int)).toNat = k := by rw [if_neg (by omega)]; simp
omit hK NX LX in
theorem cut_to {α : Type} (l : List α) (k : Nat) : cutL l none (some (k : Int)) = l.take k := by
  unfold cutL clipI
  simp
  rw [clip_nat]
omit hK NX LX in
theorem cut_from {α : Type} (l : List α) (k : Nat) : cutL l (some (k : Int)) none = l.drop k := by
  unfold cutL clipI
  simp
  rw [clip_nat]
  rcases Nat.le_total k l.length with h | h
  · rw [show min k l.length = k by omega, List.take_of_length_le (by simp)]
  · rw [show min k l.length = l.length by omega, List.drop_eq_nil_of_le (Nat.le_refl _), List.drop_eq_nil_of_le h]; simp
end
end Mine
end
section
open PySem PySem.W PyProof.Rows PySem.Calls
set_option Elab.async false
set_option maxRecDepth 100000
set_option linter.unusedVariables false
set_option linter.unusedSectionVars false
namespace Mine
section
variable {P : Params} {X : Cx} (hK : X.K = KK P) (NX : Names X) (LX : LNm X) {n : Nat} {st nb : Nat} {ns : List Nat}
set_option maxHeartbeats 8000000
include hK NX LX
theorem group_not {d c : Nat} {t1 : LT} {l : List LT} (hg : goodT (d + 1) (.not t1 l)) (hd : maxL (d + 1) ≤ 100000) (B1 : XT X (n + 2) 203 .bare st nb ns t1 c) (B2 : ∀ t ∈ l, XT X (n + 2) 203 .bare st nb ns t c) (A1 : XT X (n + 2) 189 .atom st nb ns t1 c) (A2 : ∀ t ∈ l, XT X (n + 2) 189 .atom st nb ns t c)
    (T : ∀ l', t1 = .and l' → ∀ t ∈ l', XT X (n + 2) 227 .part st nb ns t c) : XT X (n + 3) 220 .group st nb ns (.not t1 l) (6 * c + 20) := by
  intro env m H at' lo v Q S hlo ht hc q
  refine cn_call (names := ["state", "tree"]) (ws := []) (ds := []) (by rw [hK]; rfl) (by rw [hK]; rfl) rfl rfl rfl rfl (by decide +kernel) rfl (fun s cvs hin hl => ?_) (fun _ _ => by unfold DenL; rfl) ?_
  · obtain ⟨c, c2, rfl⟩ : ∃ c c2, cvs = [c, c2] := by
      match cvs, hl with
      | [c, c2], _ => exact ⟨c, c2, rfl⟩
    exact BindsTo.of_eq rfl
  intro env' hsc hcode
  obtain ⟨sc, lo', gl, ce, qu, fu, co, fr, bi⟩ := env'
  simp only at hsc hcode
  subst hsc hcode
  have hsl : sizeLine = 16777216 := rfl
  have hcell : some NameKind.cell ≠ some NameKind.local := by decide
  show TS X (n + 2) _ (gT st v none none none) H (execs _ _) _ _ _ _
  obtain ⟨h1, h2, h3⟩ := hg
  have hm := maxL_mono d
  have hlt := S.lt
  have hmd : maxL (d + 1) = 47 + 5 * maxL d := rfl
  cases ht with
  | @not _ v1 _ x vs ht1 hx he hts =>
  have hvl := hts.len
  refine ts_cons (ts_If (tk false (.there .here) (by decide +kernel) (br_f (ts_nil (ts_cons (ts_If (tk false (.there .here) (by decide +kernel) (br_f (ts_nil (ts_cons (ts_If (tkn false (.there .here) (by decide +kernel) (br_f (ts_nil ?_))))))))))))))
  refine ts_cut (fun m' H' => ∃ a1, m' = gT st (.tup [.str [110, 111, 116], v1, .loc x]) none none none ∧ Gr st H H' ∧ StAt H' st nb ns a1 ∧ a1 ≤ at' + 1) (ts_If (tb_BoolOp (ta_and (tb_Compare (hm := by with_unfolding_all rfl) (tri_CallN (f := .builtin "len") rfl (.inr NX.len) kn_builtin (tx_cons (e_at (i := 2) (.there .here) rfl (tx_nil (len_l he (tri_int (eq_i (tr_b (br_c (fun h4 => ?_) (fun _ => br_f (ts_nil ⟨_, rfl, .refl, S, by omega⟩))))))))))))))) ?_
  · have h4 : vs.length = 1 := by have := of_decide_eq_true h4; omega
    refine ta_and (e_coin hK NX LX rfl .here S (by omega) fun H1 b g1 S1 => br_c (fun _ => ta_nil_and (br_t ?_)) (fun _ => br_f (ts_nil ⟨_, rfl, g1, S1, by omega⟩)))
    obtain ⟨v2, rfl⟩ : ∃ v2, vs = [v2] := by
      match vs, h4 with
      | [v2], _ => exact ⟨v2, rfl⟩
    cases hts with
    | @cons t2 _ l _ ht2 hts =>
    cases hts
    refine ts_cons (ts_Return (e_nots hK NX LX rfl h1 h3.1 (by omega) .here (.there .here) (g1.get he (by omega)) S1 hlo hx (ht1.gr g1 hlo) (ht2.gr g1 hlo) B1 (B2 t2 (.head _)) (by omega) fun H2 y z a2 hy hz g2 S2 ha2 => q H2 _ a2 (.gNot1 hy hz) (g1.trans g2) S2 (by omega)))
  rintro _ H1 ⟨a1, rfl, g1, S1, ha1⟩
  refine ts_cons (ts_Assign_Name (hfree := nofree) (tri_List (tx_cons (tri_CallN (f := .ref 189) rfl (.inl LX.atom) (hfun hK NX rfl) (tx_cons (tri_Name .here (tx_cons (e_at (i := 1) (.there .here) rfl (tx_nil (tn_of_cn (A1 S1 hlo (ht1.gr g1 hlo) (by omega) fun H2 x0 a2 hx0 g2 S2 ha2 => tx_nil ⟨by show 1 ≤ sizeLine; decide, _, .there (.there (.there .here)), ?_⟩)))))))))))
  have hx0l := tx_len hx0 h1
  have hba := bnd_le .atom d
  have hbp := bnd_le .part d
  have gl2 := (g1.trans g2).len
  have g3 : Gr st H (H2 ++ [Cell.list [.str x0]]) := g1.trans (g2.trans .snoc)
  have S3 : StAt (H2 ++ [Cell.list [.str x0]]) st nb ns a2 := S2.ext .snoc
  have hy3 : (H2 ++ [Cell.list [.str x0]])[H2.length]? = some (.list [.str x0]) := by simp
  have hl3 : (H2 ++ [Cell.list [.str x0]]).length = H2.length + 1 := by simp
  generalize H2 ++ [Cell.list [.str x0]] = H3 at *
  refine ts_cut (fun m' H' => ∃ xs y a3, m' = gT st (.tup [.str [110, 111, 116], v1, .loc x]) none (some (.loc y)) none ∧ Gr st H H' ∧ StAt H' st nb ns a3 ∧ a3 ≤ at' + 1 + c + 3 * c ∧ H.length ≤ y ∧ H'[y]? = some (.list (xs.map V.str)) ∧ 1 ≤ xs.length ∧ xs.length ≤ 3 ∧ (∀ s ∈ xs, s.length ≤ maxL d) ∧
      ∀ ys zs z, TXTs .atom l ys → Mix xs ys zs → Jn zs z → TXT .group (.not t1 l) z) ?_ ?_
  · obtain ⟨rest, hrest⟩ := ht1.kd
    refine ts_If (tb_Compare (hm := by with_unfolding_all rfl) (tri_Subscript (e_at (i := 1) (.there .here) rfl (tri_int ?_))))
    rw [hrest]
    refine t2_item_tup (by decide) rfl (tri_str (eq_s (tr_b ?_)))
    rw [kd_and]
    refine br_c (fun ha => ?_) (fun _ => ts_nil ⟨[x0], H2.length, a2, by rw [← hrest], g3, S3, by omega, by omega, hy3, by simp, by simp, fun s hs => ?_, fun ys zs z h5 h6 h7 => .gNotP hx0 h5 h6 h7⟩)
    · rw [← hrest]
      cases ht1 with
      | t => cases ha
      | w => cases ha
      | col _ _ _ => cases ha
      | or _ _ _ => cases ha
      | not _ _ _ _ => cases ha
      | @and l' x' vs' hx' he' hts' =>
        obtain ⟨d', rfl⟩ := nonleaf_pos h1 rfl
        obtain ⟨h5, h6⟩ := h1
        have hlc : l'.length * c ≤ 3 * c := Nat.mul_le_mul_right _ (by omega)
        refine ts_cons (ts_Assign_Comp [("state", .loc st)] (frees_cell (.head _) hcell (by decide) (by first | exact .inl rfl | exact .inr rfl) (by decide) (by simp)) rfl (by decide) (by decide) ⟨rfl, by decide, by decide⟩ (tri_Subscript (e_at (i := 1) (.there .here) rfl (tri_int (t2_item_tup (by decide) rfl ⟨rfl, .lst x' 0, rfl, fun i e => ⟨_, by cases e; exact g3.get he' (by omega)⟩, fun k e => (by cases e), fun cl C => ?_⟩)))) nofree)
        refine txts_comp hK NX LX (T l' rfl) LX.part (hfun hK NX rfl) (by decide) S3 (by omega) (g3.get he' (by omega)) hx' hlo (hts'.gr g3 hlo) (by omega) (by exact nofree) rfl fun w xs H4 a4 g4 S4 ha4 hxs hac => ⟨fun p hp => ?_, ?_⟩
        · rcases List.mem_cons.mp hp with rfl | hp
          · exact .tail _ (.head _)
          · cases hp
        have hxl := hxs.len
        have hbp' := bnd_le .part d'
        have hm' := maxL_mono d'
        exact ⟨_, .there (.there (.there .here)), ts_nil ⟨xs, H3.length, a4, rfl, g3.trans g4, S4, by omega, by omega, hac, by omega, by omega, fun s hs => by have := txs_len hxs h6 s hs; omega, fun ys zs z h7 h8 h9 => .gNotA hxs h7 h8 h9⟩⟩
    · rcases List.mem_cons.mp hs with rfl | hs
      · omega
      · cases hs
  rintro _ H4 ⟨xs, y, a3, rfl, g4, S4, ha3, hy, hy4, hxs1, hxs3, hxsM, hfin⟩
  refine ts_cons (ts_Assign_Name (hfree := nofree) (tri_int ⟨_, .there (.there (.there (.there .here))), ?_⟩))
  have hvc : l.length * (c + 1) ≤ 2 * (c + 1) := Nat.mul_le_mul_right _ (by omega)
  refine ts_cut (fun m' H' => ∃ w zs y a5 p ys, m' = gT st (.tup [.str [110, 111, 116], v1, .loc x]) w (some (.loc y)) p ∧ Gr st H H' ∧ StAt H' st nb ns a5 ∧ a5 ≤ a3 + l.length * (c + 1) ∧ H.length ≤ y ∧ H'[y]? = some (.list (zs.map V.str)) ∧ TXTs .atom l ys ∧ Mix xs ys zs) (ts_For (e_at (i := 2) (.there .here) rfl ⟨.lst x 0, rfl, fun i e => ⟨_, by cases e; exact g4.get he (by omega)⟩, fun k e => (by cases e), ?_⟩)) ?_
  · refine tf_ind (fun (j : Nat) src m' H' => ∃ w k y a5 xd dn rs ys, src = .lst x k ∧ k + j = l.length ∧ m' = gT st (.tup [.str [110, 111, 116], v1, .loc x]) w (some (.loc y)) (some (.int (dn.length : Nat))) ∧ Gr st H H' ∧ StAt H' st nb ns a5 ∧ a5 ≤ a3 + k * (c + 1) ∧ H.length ≤ y ∧ H'[y]? = some (.list ((dn ++ rs).map V.str)) ∧ TXTs .atom (l.take k) ys ∧ xs = xd ++ rs ∧ Mix xd ys dn) (fun j => j) ?_ l.length _ _ _ ⟨none, 0, y, a3, [], [], xs, [], rfl, by omega, rfl, g4, S4, by omega, hy, hy4, .nil, rfl, .nil⟩
    rintro j src m' H5 ⟨w, k, y, a5, xd, dn, rs, ys, rfl, hkj, rfl, g5, S5, ha5, hy, hy5, hys, hxsd, hmix⟩ ih
    have he5 := g5.get he (by omega)
    cases j with
    | zero =>
      refine tf_turn (r := none) (next_nil he5 (by rw [List.getElem?_eq_none_iff]; omega)) ?_
      obtain rfl : k = l.length := by omega
      rw [List.take_of_length_le (Nat.le_refl _)] at hys
      exact ⟨w, dn ++ rs, y, a5, _, ys, rfl, g5, S5, ha5, hy, hy5, hys, by rw [hxsd]; exact hmix.rest⟩
    | succ j =>
      have hkl : k < l.length := by omega
      obtain ⟨v2, hv2, hT⟩ := hts.get (k := k) (List.getElem?_eq_getElem hkl)
      have hkc : k * (c + 1) + (c + 1) ≤ l.length * (c + 1) := by
        rw [← Nat.succ_mul]; exact Nat.mul_le_mul_right _ (by omega)
      have htk : (l.take k).length ≤ 2 := by simp; omega
      have hysl := hys.len
      have hysM : ∀ s ∈ ys, s.length ≤ maxL d := fun s hs => Nat.le_trans (txs_len (d := d) hys (by
        have : ∀ {l : List LT} (k : Nat), goodL d l → goodL d (l.take k) := by
          intro l
          induction l with
          | nil => intro k _; simp [goodL]
          | cons a l ih => intro k h; cases k with
            | zero => simp [goodL]
            | succ k => exact ⟨h.1, ih k h.2⟩
        exact this k h3) s hs) hba
      obtain ⟨hml, hmM⟩ := mix_len (M := maxL d) hmix (fun s hs => hxsM s (by rw [hxsd]; exact List.mem_append_left _ hs)) hysM
      have hxl : xs.length = xd.length + rs.length := by rw [hxsd]; simp
      refine tf_turn (r := some (v2, .lst x (k + 1))) (next_cons he5 hv2) ?_
      refine ta_Name (.there (.there .here)) ?_ nofree
      refine ts_cons (ts_Assign_Name (hfree := nofree) (tri_BinOp (tri_Name (.there (.there (.there (.there .here)))) (tri_CallN (f := .ref 150) rfl (.inl LX.next) (hfun hK NX rfl) (tx_cons (tri_Name .here (tx_cons (tri_BinOp (tri_BinOp (tri_CallN (f := .builtin "len") rfl (.inr NX.len) kn_builtin (tx_cons (tri_Name (.there (.there (.there .here))) (tx_nil (len_l hy5 (tri_Name (.there (.there (.there (.there .here)))) (sub_i (tri_int (add_i (tx_nil ?_)))))))))))))))))))
      rw [show ((((dn ++ rs).map V.str).length : Nat) : Int) - ((dn.length : Nat) : Int) + 1 = ((rs.length + 1 : Nat) : Int) by simp; omega]
      refine tn_of_cn (next_ok hK NX S5 (by omega) (add_i ⟨_, .there (.there (.there (.there .here))), ?_⟩))
      have hdr := draw_lt (ns := ns) (a := a5) (many := rs.length + 1) (by omega)
      generalize draw ns a5 (rs.length + 1) = dr at *
      have S6 := S5.next (by omega)
      have g6 : Gr st H _ := g5.trans (Gr.set (c := .list [.loc nb, .int ((a5 + 1 : Nat) : Int)]))
      have hy6 : (H5.set st (.list [.loc nb, .int ((a5 + 1 : Nat) : Int)]))[y]? = some (.list ((dn ++ rs).map V.str)) := by rw [List.getElem?_set_ne (by omega)]; exact hy5
      generalize H5.set st (.list [.loc nb, .int ((a5 + 1 : Nat) : Int)]) = H6 at *
      have hp : ((dn.length : Nat) : Int) + ((dr : Nat) : Int) = ((dn.length + dr : Nat) : Int) := by omega
      rw [hp]
      have hylt6 := (List.getElem?_eq_some_iff.mp hy6).1
      refine ts_cons (ts_Assign_Name (hfree := nofree) (tri_BinOp (tri_BinOp (tri_Subscript (tri_Name (.there (.there (.there .here))) (tri_Slice (e1 := fun _ => pure Value.none) (e2 := fun _ => pure Value.none) (tvn_none (tvn_some (tri_Name (.there (.there (.there (.there .here)))) ⟨none, some ((dn.length + dr : Nat) : Int), .inl ⟨rfl, rfl⟩, .inr ⟨_, rfl, rfl⟩, t2_cut_list hy6 ?_⟩)))))))))
      rw [cut_to, List.map_append, List.take_append, List.take_of_length_le (by simp), List.length_map, Nat.add_sub_cancel_left, ← List.map_take, ← List.map_append]
      have S7 : StAt (H6 ++ [Cell.list ((dn ++ rs.take dr).map V.str)]) st nb ns (a5 + 1) := S6.ext .snoc
      have g7 : Gr st H (H6 ++ [Cell.list ((dn ++ rs.take dr).map V.str)]) := g6.trans .snoc
      have hl7 : (H6 ++ [Cell.list ((dn ++ rs.take dr).map V.str)]).length = H6.length + 1 := by simp
      have hc7 : (H6 ++ [Cell.list ((dn ++ rs.take dr).map V.str)])[H6.length]? = some (.list ((dn ++ rs.take dr).map V.str)) := by simp
      have hy7 : (H6 ++ [Cell.list ((dn ++ rs.take dr).map V.str)])[y]? = some (.list ((dn ++ rs).map V.str)) := by rw [List.getElem?_append_left hylt6]; exact hy6
      generalize H6 ++ [Cell.list ((dn ++ rs.take dr).map V.str)] = H7 at *
      have gl6 := g6.len
      refine tri_List (tx_cons (tri_BinOp (tri_str (tri_CallN (f := .ref 189) rfl (.inl LX.atom) (hfun hK NX rfl) (tx_cons (tri_Name .here (tx_cons (tri_Name (.there (.there .here)) (tx_nil (tn_of_cn (A2 _ (List.getElem_mem hkl) S7 hlo (hT.gr g7 hlo) (by omega) fun H8 yt a8 hyt g8 S8 ha8 => ?_)))))))))))
      have hytl := tx_len hyt (goodL_mem h3 (List.getElem_mem hkl))
      rw [show (Str.ofString "-").cps.toList = [45] by decide +kernel]
      refine add_s (by simp; omega) (tx_nil ⟨by show 1 ≤ sizeLine; decide, ?_⟩)
      have gl8 := g8.len
      have hc8 := g8.get hc7 (by omega)
      have hy8 := g8.get hy7 (by omega)
      have hylt8 := (List.getElem?_eq_some_iff.mp hy8).1
      have e8 : Ext H8 (H8 ++ [Cell.list [.str ([45] ++ yt)]]) := .snoc
      refine add_l (e8.get hc8) (ys := [.str ([45] ++ yt)]) (by simp) (by simp; omega) ?_
      have hmap : (dn ++ rs.take dr).map V.str ++ [V.str ([45] ++ yt)] = (dn ++ rs.take dr ++ [45 :: yt]).map V.str := by simp
      rw [hmap]
      have e9 : Ext H8 (H8 ++ [Cell.list [.str ([45] ++ yt)]] ++ [Cell.list ((dn ++ rs.take dr ++ [45 :: yt]).map V.str)]) := e8.trans .snoc
      have hc9 : (H8 ++ [Cell.list [.str ([45] ++ yt)]] ++ [Cell.list ((dn ++ rs.take dr ++ [45 :: yt]).map V.str)])[(H8 ++ [Cell.list [.str ([45] ++ yt)]]).length]? = some (.list ((dn ++ rs.take dr ++ [45 :: yt]).map V.str)) := by rw [List.getElem?_append_right (Nat.le_refl _)]; simp
      have hl9 : (H8 ++ [Cell.list [.str ([45] ++ yt)]] ++ [Cell.list ((dn ++ rs.take dr ++ [45 :: yt]).map V.str)]).length = H8.length + 2 := by simp
      have hl9' : (H8 ++ [Cell.list [.str ([45] ++ yt)]]).length = H8.length + 1 := by simp
      rw [hl9'] at hc9 ⊢
      generalize H8 ++ [Cell.list [.str ([45] ++ yt)]] ++ [Cell.list ((dn ++ rs.take dr ++ [45 :: yt]).map V.str)] = H9 at *
      refine tri_Subscript (tri_Name (.there (.there (.there .here))) (tri_Slice (e1 := fun _ => pure Value.none) (e2 := fun _ => pure Value.none) (tvn_some (tri_Name (.there (.there (.there (.there .here)))) (tvn_none ⟨some ((dn.length + dr : Nat) : Int), none, .inr ⟨_, rfl, rfl⟩, .inl ⟨rfl, rfl⟩, t2_cut_list (e9.get hy8) ?_⟩)))))
      rw [cut_from, List.map_append, List.drop_append, List.drop_eq_nil_of_le (by simp), List.length_map, Nat.add_sub_cancel_left, ← List.map_drop, List.nil_append]
      have e10 : Ext H9 (H9 ++ [Cell.list ((rs.drop dr).map V.str)]) := .snoc
      have hl10 : (H9 ++ [Cell.list ((rs.drop dr).map V.str)]).length = H9.length + 1 := by simp
      have hc10 : (H9 ++ [Cell.list ((rs.drop dr).map V.str)])[H9.length]? = some (.list ((rs.drop dr).map V.str)) := by simp
      refine add_l (e10.get hc9) hc10 (by simp; omega) ?_
      rw [← List.map_append]
      refine ⟨_, .there (.there (.there .here)), ts_cons (ts_Assign_Name (hfree := nofree) (tri_BinOp (tri_Name (.there (.there (.there (.there .here)))) (tri_int (add_i ⟨_, .there (.there (.there (.there .here))), ts_nil ?_⟩)))))⟩
      have e11 : Ext H8 (H9 ++ [Cell.list ((rs.drop dr).map V.str)] ++ [Cell.list ((dn ++ rs.take dr ++ [45 :: yt] ++ rs.drop dr).map V.str)]) := e9.trans (e10.trans .snoc)
      have hgr : Gr st H8 (H9 ++ [Cell.list ((rs.drop dr).map V.str)] ++ [Cell.list ((dn ++ rs.take dr ++ [45 :: yt] ++ rs.drop dr).map V.str)]) := ⟨e11.2, fun z hz _ => e11.1 z hz⟩
      refine ih j _ _ _ (by omega) ⟨some v2, k + 1, _, a8, xd ++ rs.take dr, dn ++ rs.take dr ++ [45 :: yt], rs.drop dr, ys ++ [yt], rfl, by omega, ?_, g7.trans (g8.trans hgr), S8.ext e11, ?_, ?_, by rw [List.getElem?_append_right (Nat.le_refl _)]; simp, ?_, ?_, hmix.snoc⟩
      · rw [show ((dn.length + dr : Nat) : Int) + 1 = (((dn ++ rs.take dr ++ [45 :: yt]).length : Nat) : Int) by simp; omega]
      · rw [Nat.succ_mul]; omega
      · rw [hl10]; omega
      · rw [← List.take_append_getElem hkl]
        exact hys.snoc hyt
      · rw [List.append_assoc, List.take_append_drop]; exact hxsd
  · rintro _ H5 ⟨w, zs, y, a5, p, ys, rfl, g5, S5, ha5, hy, hy5, hys, hmix⟩
    have hysM : ∀ s ∈ ys, s.length ≤ maxL d := fun s hs => Nat.le_trans (txs_len hys h3 s hs) hba
    obtain ⟨hml, hmM⟩ := mix_len (M := maxL d) hmix hxsM hysM
    have hysl := hys.len
    refine ts_cons (ts_Return (tri_CallN (f := .ref 210) rfl (.inl LX.joined) (hfun hK NX rfl) (tx_cons (tri_Name .here (tx_cons (tri_Name (.there (.there (.there .here))) (tx_nil (tn_of_cn (joined_ok (M := maxL d + 1) hK NX LX hy5 (by rintro rfl; simp at hml; omega) (by omega) hmM (by omega) S5 (by omega) (by omega) fun H6 z a6 hz g6 S6 ha6 => q H6 z a6 (hfin ys zs z hys hmix hz) (g5.trans g6) S6 (by omega))))))))))
end
end Mine
end
section
open PySem PySem.W PyProof.Rows PySem.Calls
set_option Elab.async false
set_option maxRecDepth 100000
set_option linter.unusedVariables false
set_option linter.unusedSectionVars false
namespace Mine
/-- all that write trees of one depth -/
structure AllX (X : Cx) (n st nb : Nat) (ns : List Nat) (d : Nat) : Prop where
  atom : ∀ t, goodT d t → XT X n 189 .atom st nb ns t (costX d)
  bare : ∀ t, goodT d t → XT X n 203 .bare st nb ns t (costX d)
  group : ∀ t, goodT d t → XT X n 220 .group st nb ns t (costX d)
  part : ∀ t, goodT d t → XT X n 227 .part st nb ns t (costX d)
  any : ∀ t, goodT d t → XT X n 215 .any st nb ns t (costX d)
mutual
theorem goodT_up : ∀ {d : Nat} {t : LT}, goodT d t → goodT (d + 1) t
  | 0, .t s, h => h
  | _ + 1, .t s, h => h
  | 0, .w s st, h => h
  | _ + 1, .w s st, h => h
  | 0, .col _ _, h => h.elim
  | 0, .and _, h => h.elim
  | 0, .or _, h => h.elim
  | 0, .not _ _, h => h.elim
  | d + 1, .col ns t, h => ⟨h.1, h.2.1, goodT_up h.2.2⟩
  | d + 1, .and l, h => ⟨h.1, goodL_up h.2⟩
  | d + 1, .or l, h => ⟨h.1, goodL_up h.2⟩
  | d + 1, .not t l, h => ⟨goodT_up h.1, h.2.1, goodL_up h.2.2⟩
theorem goodL_up : ∀ {d : Nat} {l : List LT}, goodL d l → goodL (d + 1) l
  | _, [], _ => trivial
  | _, _ :: _, h => ⟨goodT_up h.1, goodL_up h.2⟩
end
section
variable {P : Params} {X : Cx} (hK : X.K = KK P) (NX : Names X) (LX : LNm X) {n : Nat} {st nb : Nat} {ns : List Nat}
set_option maxHeartbeats 4000000
include hK NX LX
theorem leaf_atom {d : Nat} {t : LT} (hg : goodT d t) (hd : maxL d ≤ 100000) (hl : isLeaf t = true) : XT X (n + 2) 189 .atom st nb ns t 3 :=
  atom_ok1 hK NX LX (E := 1) hg hd (Nat.le_refl _) (fun h => by cases t <;> first | (cases hl; done) | (cases h; done)) (fun h => by rw [hl] at h; cases h)
theorem step_ok {d : Nat} (IH : ∀ d', d = d' + 1 → AllX X (n + 1) st nb ns d') (hd : maxL d ≤ 100000) : AllX X (n + 7) st nb ns d := by
  have hc4 : 4 ≤ costX d := by cases d <;> simp [costX] <;> omega
  have asked : ∀ t, goodT d t → isCol t = true → XT X (n + 2) 196 .asked st nb ns t (costX d - 20) := by
    intro t hg hcol
    obtain ⟨nms, t', rfl⟩ : ∃ nms t', t = .col nms t' := by cases t <;> first | exact ⟨_, _, rfl⟩ | (cases hcol)
    obtain ⟨d', rfl⟩ := nonleaf_pos hg rfl
    have I := IH d' rfl
    have : costX (d' + 1) = 30 + 8 * costX d' := rfl
    exact (asked_ok hK NX LX hg hd (I.bare t' hg.2.2)).le (Nat.le_refl _) (by omega)
  have anyor : ∀ t, goodT d t → isOrT t = true → XT X (n + 2) 215 .any st nb ns t (costX d - 20) := by
    intro t hg ho
    obtain ⟨l, rfl⟩ : ∃ l, t = .or l := by cases t <;> first | exact ⟨_, rfl⟩ | (cases ho)
    obtain ⟨d', rfl⟩ := nonleaf_pos hg rfl
    have I := IH d' rfl
    have : costX (d' + 1) = 30 + 8 * costX d' := rfl
    exact (any_or hK NX LX hg hd fun t ht => I.group t (goodL_mem hg.2 ht)).le (Nat.le_refl _) (by omega)
  have group : ∀ t, goodT d t → XT X (n + 4) 220 .group st nb ns t (costX d - (if isLeaf t then 1 else 10)) := by
    intro t hg
    cases hleaf : isLeaf t with
    | true =>
      have h1 : isAnd t = false := by cases t <;> first | rfl | cases hleaf
      have h2 : isNot t = false := by cases t <;> first | rfl | cases hleaf
      have h3 : isCol t = false := by cases t <;> first | rfl | cases hleaf
      exact (group_easy hK NX LX (n := n + 1) h1 h2 (fun h => by rw [h3] at h; cases h) fun _ => leaf_atom hK NX LX hg hd hleaf).le (by omega) (by simp; omega)
    | false =>
      obtain ⟨d', rfl⟩ := nonleaf_pos hg hleaf
      have I := IH d' rfl
      have hc : costX (d' + 1) = 30 + 8 * costX d' := rfl
      cases t with
      | t => cases hleaf
      | w => cases hleaf
      | col nms t => exact (group_easy hK NX LX (n := n + 1) rfl rfl (fun _ => asked _ hg rfl) fun h => by cases h).le (by omega) (by simp; omega)
      | and l => exact (group_and hK NX LX (n := n) hg hd fun t ht => (I.part t (goodL_mem hg.2 ht)).le (by omega) (Nat.le_refl _)).le (by omega) (by simp; omega)
      | or l => exact (group_easy hK NX LX (n := n + 2) rfl rfl (fun h => by cases h) fun _ => atom_ok1 hK NX LX (n := n + 1) (E := costX (d' + 1) - 20) hg hd (by omega) (fun h => by cases h) fun _ => anyor _ hg rfl).le (by omega) (by simp; omega)
      | not t1 l =>
        refine (group_not hK NX LX (n := n) hg hd ((I.bare _ hg.1).le (by omega) (Nat.le_refl _)) (fun t ht => (I.bare t (goodL_mem hg.2.2 ht)).le (by omega) (Nat.le_refl _)) ((I.atom _ hg.1).le (by omega) (Nat.le_refl _)) (fun t ht => (I.atom t (goodL_mem hg.2.2 ht)).le (by omega) (Nat.le_refl _)) fun l' e t ht => ?_).le (by omega) (by simp; omega)
        subst e
        obtain ⟨d'', rfl⟩ := nonleaf_pos hg.1 rfl
        exact (I.part t (goodT_up (goodL_mem hg.1.2 ht))).le (by omega) (Nat.le_refl _)
  have any : ∀ t, goodT d t → XT X (n + 5) 215 .any st nb ns t (costX d - (if isLeaf t then 1 else 10)) := by
    intro t hg
    cases ho : isOrT t with
    | false => exact any_ok1 hK NX LX ho (group t hg)
    | true =>
      have h3 : isLeaf t = false := by cases t <;> first | rfl | cases ho
      exact (anyor t hg ho).le (by omega) (by rw [h3]; simp; omega)
  have atom : ∀ t, goodT d t → XT X (n + 6) 189 .atom st nb ns t (costX d - (if isLeaf t then 1 else 8)) := by
    intro t hg
    cases hleaf : isLeaf t with
    | true => exact (leaf_atom hK NX LX (n := n + 4) hg hd hleaf).le (Nat.le_refl _) (by simp; omega)
    | false =>
      obtain ⟨d', rfl⟩ := nonleaf_pos hg hleaf
      have hc : costX (d' + 1) = 30 + 8 * costX d' := rfl
      refine (atom_ok1 hK NX LX (n := n + 4) (E := costX (d' + 1) - 10) hg hd (by omega) (fun h => (asked t hg h).le (by omega) (by omega)) (fun _ => ?_)).le (Nat.le_refl _) (by simp; omega)
      have := any t hg
      rw [hleaf] at this
      exact this
  refine ⟨fun t hg => (atom t hg).le (by omega) (by split <;> omega), fun t hg => ?_, fun t hg => (group t hg).le (by omega) (by split <;> omega), fun t hg => ?_, fun t hg => (any t hg).le (by omega) (by split <;> omega)⟩
  · exact bare_ok hK NX LX (n := n + 5) hg hd (fun h => (asked t hg h).le (by omega) (by omega)) fun _ => (atom t hg).le (by omega) (by split <;> omega)
  · cases hleaf : isLeaf t with
    | true =>
      have h0 := atom t hg
      rw [hleaf] at h0
      refine (part_ok hK NX LX (n := n + 5) (E := costX d - 1) (c := 0) hg hd (by omega) h0 fun t1 l e => by subst e; cases hleaf).le (by omega) (by omega)
    | false =>
      obtain ⟨d', rfl⟩ := nonleaf_pos hg hleaf
      have I := IH d' rfl
      have hc : costX (d' + 1) = 30 + 8 * costX d' := rfl
      have h0 := atom t hg
      rw [hleaf] at h0
      refine (part_ok hK NX LX (n := n + 5) (E := costX (d' + 1) - 8) (c := costX d') hg hd (by omega) h0 fun t1 l e => ?_).le (by omega) (by omega)
      subst e
      exact ⟨(I.bare _ hg.1).le (by omega) (Nat.le_refl _), fun t2 h2 => (I.bare t2 (goodL_mem hg.2.2 h2)).le (by omega) (Nat.le_refl _)⟩
theorem all_ok : ∀ d n, maxL d ≤ 100000 → AllX X (n + 6 * d + 7) st nb ns d := by
  intro d
  induction d with
  | zero => exact fun n hd => step_ok hK NX LX (fun d' h => by cases h) hd
  | succ d ih =>
    intro n hd
    have := maxL_mono d
    have h := step_ok hK NX LX (n := n + 6 * d + 6) (d := d + 1) (st := st) (nb := nb) (ns := ns) (fun d' h => by cases h; exact ih n (by omega)) hd
    rw [show n + 6 * (d + 1) + 7 = n + 6 * d + 6 + 7 by omega]
    exact h
end
end Mine
end
section
open PySem PySem.W PyProof.Rows PySem.Calls
set_option Elab.async false
set_option maxRecDepth 100000
set_option linter.unusedVariables false
set_option linter.unusedSectionVars false
namespace Mine
theorem qTexts_is : ∀ l : List LT, qTexts l = l.map (qText true)
  | [] => rfl
  | x :: l => by simp only [qTexts, List.map_cons, qTexts_is l]
theorem joinL_le {sep : List Nat} {M : Nat} : ∀ {xs : List (List Nat)}, (∀ y ∈ xs, y.length ≤ M) → (joinL sep xs).length ≤ xs.length * (M + sep.length)
  | [], _ => by simp [joinL]
  | [x], h => by have := h x (.head _); simp [joinL]; omega
  | x :: y :: l, h => by
    have h1 := h x (.head _)
    have h2 := joinL_le (sep := sep) (xs := y :: l) fun z hz => h z (.tail _ hz)
    simp only [joinL, List.length_append, List.length_cons] at h2 ⊢
    rw [Nat.succ_mul (l.length + 1)]
    omega
theorem quo_len (s : List Nat) : (quo s).length = s.length + 2 := by simp [quo]
theorem columnsQ_len {ns : List (List Nat)} (h : ns.length = 1 ∨ ns.length = 2) (hn : ∀ n ∈ ns, n ∈ NAMES) : (columnsT (ns.map quo)).length ≤ 14 := by
  unfold columnsT
  rcases ns with _ | ⟨a, _ | ⟨b, _ | ⟨c, r⟩⟩⟩
  · simp [joinL]
  · have := NA_len a (hn a (.head _)); have := quo_len a; simp; omega
  · have h1 := NA_len a (hn a (.head _))
    have h2 := NA_len b (hn b (.tail _ (.head _)))
    have := quo_len a
    have := quo_len b
    simp [joinL]; omega
  · simp at h
/-- how long the inside of a query gets -/
def insQ : LT → List Nat
  | .col ns t => columnsT (ns.map quo) ++ 58 :: 32 :: qText true t
  | .and l => joinL [32, 65, 78, 68, 32] (qTexts l)
  | .or l => joinL [32, 79, 82, 32] (qTexts l)
  | .not t l => joinL [32, 78, 79, 84, 32] (qText true t :: qTexts l)
  | t => qText false t
theorem q_ins {b : Bool} {t : LT} (h : isLeaf t = false) : qText b t = if b then 40 :: insQ t ++ [41] else insQ t := by
  cases t <;> first | (cases h; done) | (cases b <;> simp [qText, insQ])
theorem q_len : ∀ d, ∀ {b : Bool} {t : LT}, goodT d t → (qText b t).length ≤ maxL d ∧ (isLeaf t = false → (insQ t).length + 2 ≤ maxL d) := by
  have leaf : ∀ d, ∀ {b : Bool} {t : LT}, goodT d t → isLeaf t = true → (qText b t).length ≤ 20 := by
    intro d b t hg hl
    cases t with
    | t s =>
      have : ∃ p ∈ PHRASES, ∃ st ∈ STARS, s = 34 :: p ++ 34 :: st := by cases d <;> exact hg
      obtain ⟨p, hp, st, hs, rfl⟩ := this
      have := PH_len p hp
      have := ST_len st hs
      simp [qText]; omega
    | w s st =>
      have hw : s ∈ WORDS ∧ st ∈ STARS := by cases d <;> exact hg
      have := WO_len _ hw.1
      have := ST_len _ hw.2
      simp [qText]; omega
    | col => cases hl
    | and => cases hl
    | or => cases hl
    | not => cases hl
  have hm20 : ∀ d, 20 ≤ maxL d := by intro d; cases d <;> simp [maxL] <;> omega
  intro d
  induction d with
  | zero =>
    intro b t hg
    cases hl : isLeaf t with
    | true => exact ⟨leaf 0 hg hl, fun h => by cases h⟩
    | false => obtain ⟨d', h⟩ := nonleaf_pos hg hl; cases h
  | succ d ih =>
    intro b t hg
    cases hl : isLeaf t with
    | true => exact ⟨Nat.le_trans (leaf _ hg hl) (hm20 _), fun h => by cases h⟩
    | false =>
      have key : (insQ t).length + 2 ≤ maxL (d + 1) := by
        have hmd : maxL (d + 1) = 47 + 5 * maxL d := rfl
        have hlist : ∀ l : List LT, goodL d l → ∀ y ∈ qTexts l, y.length ≤ maxL d := fun l h y hy => by
          rw [qTexts_is] at hy
          obtain ⟨t, ht, rfl⟩ := List.mem_map.mp hy
          exact (ih (goodL_mem h ht)).1
        cases t with
        | t => cases hl
        | w => cases hl
        | col nms t =>
          have h1 := columnsQ_len hg.1 hg.2.1
          have h2 := (ih (b := true) hg.2.2).1
          simp only [insQ, List.length_append, List.length_cons]; omega
        | and l =>
          have h1 := joinL_le (sep := [32, 65, 78, 68, 32]) (hlist l hg.2)
          have h2 : (qTexts l).length * (maxL d + [32, 65, 78, 68, 32].length) ≤ 3 * (maxL d + 5) := Nat.mul_le_mul (by rw [qTexts_is, List.length_map]; have := hg.1; omega) (by simp)
          simp only [insQ]; omega
        | or l =>
          have h1 := joinL_le (sep := [32, 79, 82, 32]) (hlist l hg.2)
          have h2 : (qTexts l).length * (maxL d + [32, 79, 82, 32].length) ≤ 3 * (maxL d + 4) := Nat.mul_le_mul (by rw [qTexts_is, List.length_map]; have := hg.1; omega) (by simp)
          simp only [insQ]; omega
        | not t l =>
          have h1 := joinL_le (sep := [32, 78, 79, 84, 32]) (xs := qText true t :: qTexts l) (M := maxL d) fun y hy => by
            rcases List.mem_cons.mp hy with rfl | hy
            · exact (ih hg.1).1
            · exact hlist l hg.2.2 y hy
          have h2 : (qText true t :: qTexts l).length * (maxL d + [32, 78, 79, 84, 32].length) ≤ 3 * (maxL d + 5) := Nat.mul_le_mul (by rw [List.length_cons, qTexts_is, List.length_map]; have := hg.2.1; omega) (by simp)
          simp only [insQ]; omega
      refine ⟨?_, fun _ => key⟩
      rw [q_ins hl]
      cases b <;> simp <;> omega
def XQ (X : Cx) (n : Nat) (t : LT) : Prop := ∀ ⦃env m H lo v b Q⦄, LTAt H lo t v → (∀ H', Ext H H' → Q (.str (qText b t)) m H') → CN X n env m H (.ref 232) [v, .bool b] Q
theorem LTAt.ext {H H' : List Cell} {lo : Nat} (e : Ext H H') {t v} (h : LTAt H lo t v) : LTAt H' lo t v := LTAt.move (Nat.le_refl _) (fun _ _ _ h => e.get h) h
theorem LTsAt.ext {H H' : List Cell} {lo : Nat} (e : Ext H H') {t v} (h : LTsAt H lo t v) : LTsAt H' lo t v := LTsAt.move (Nat.le_refl _) (fun _ _ _ h => e.get h) h
/-- the locals of _law_query -/
abbrev qL (v : V) (b : Bool) (a c : Option V) : Loc := [("tree", some v), ("nested", some (.bool b)), ("names", a), ("text", c)]
section
variable {P : Params} {X : Cx} (hK : X.K = KK P) (NX : Names X) (LX : LNm X) {n : Nat} {H : List Cell}
set_option maxHeartbeats 4000000
include hK NX LX
theorem q_comp {l : List LT} {x lo : Nat} {vs : List V} {kk} {e1 e2 e3 e6 : Pos} {scope : Scope} {iter : Expr} {px pos : Pos} {cenv : Env} {Qc : Loc → List Cell → Prop} (T : ∀ t ∈ l, XQ X n t) (hx : H[x]? = some (.list vs)) (hl : LTsAt H lo l vs) (hN : l.length ≤ 4)
    (hk1 : cenv.kindOf "one" ≠ some .free) (hk2 : cenv.kindOf "_law_query" = some .globalImplicit)
    (q : ∀ w H', Ext H H' → H'[H.length]? = some (.list ((qTexts l).map V.str)) → Qc [("one", w)] H') :
    TC X n cenv [("one", none)] (H ++ [.list []]) (.Call (.Name "_law_query" e1) [.Name "one" e2, .Constant (.bool true) kk e3] [] e6) (.Name "one" px) iter [] scope pos (.lst x 0) H.length Qc := by
  have hxl := (List.getElem?_eq_some_iff.mp hx).1
  have hvl := hl.len
  refine tc_map (I := fun k H' => Ext H H') (S := fun k => .lst x k) (val := fun k => vs.getD k .none) (W := fun k => .str ((qTexts l).getD k [])) (N := l.length) (fvl := []) hk1 (by omega)
    (fun k H' c hI => hI.set (by omega)) (fun k hk H' hI => ?_) (fun H' hI => ?_) (fun k hk H' hI ha => ?_) (fun w H' hI ha => ?_) l.length 0 (by omega) none _ .snoc (by simp)
  · refine next_cons (vs := vs) (hI.get hx) ?_
    rw [List.getElem?_eq_getElem (by omega), List.getD_eq_getElem?_getD, List.getElem?_eq_getElem (by omega)]; rfl
  · exact next_nil (vs := vs) (hI.get hx) (by rw [List.getElem?_eq_none_iff]; omega)
  · obtain ⟨v, hv, hT⟩ := hl.get (k := k) (List.getElem?_eq_getElem hk)
    rw [show vs.getD k .none = v by rw [List.getD_eq_getElem?_getD, hv]; rfl]
    refine tri_CallN (f := .ref 232) hk2 (.inl LX.query) (hfun hK NX rfl) (tx_cons (tri_Name .here (tx_cons (tri_bool (tx_nil (tn_of_cn (T _ (List.getElem_mem hk) (hT.ext hI) fun H'' e => ⟨rfl, ?_, hI.trans e, e.1 _ ha⟩)))))))
    rw [qTexts_is, List.getD_eq_getElem?_getD, List.getElem?_map, List.getElem?_eq_getElem hk]; rfl
  · have hlist : (List.range l.length).map (fun k => V.str ((qTexts l).getD k [])) = (qTexts l).map V.str := by
      rw [qTexts_is]
      apply List.ext_getElem
      · simp
      · intro i h1 h2
        simp at h1
        simp [List.getD_eq_getElem?_getD, List.getElem?_eq_getElem h1]
    rw [hlist] at ha
    exact q w H' hI ha
theorem names_comp {l : List (List Nat)} {x : Nat} {k1 k2} {e1 e2 e3 e4 e5 : Pos} {scope : Scope} {iter : Expr} {px pos : Pos} {cenv : Env} {Qc : Loc → List Cell → Prop} (hx : H[x]? = some (.list (l.map V.str))) (hN : l.length ≤ 4) (hM : ∀ s ∈ l, s.length ≤ 10)
    (hk1 : cenv.kindOf "name" ≠ some .free)
    (q : ∀ w H', Ext H H' → H'[H.length]? = some (.list ((l.map quo).map V.str)) → Qc [("name", w)] H') :
    TC X n cenv [("name", none)] (H ++ [.list []]) (.BinOp (.BinOp (.Constant (.str "\"") k1 e1) .Add (.Name "name" e2) e3) .Add (.Constant (.str "\"") k2 e4) e5) (.Name "name" px) iter [] scope pos (.lst x 0) H.length Qc := by
  have hsl : sizeLine = 16777216 := rfl
  have hxl := (List.getElem?_eq_some_iff.mp hx).1
  refine tc_map (I := fun k H' => Ext H H') (S := fun k => .lst x k) (val := fun k => .str (l.getD k [])) (W := fun k => .str (quo (l.getD k []))) (N := l.length) (fvl := []) hk1 (by omega)
    (fun k H' c hI => hI.set (by omega)) (fun k hk H' hI => ?_) (fun H' hI => ?_) (fun k hk H' hI ha => ?_) (fun w H' hI ha => ?_) l.length 0 (by omega) none _ .snoc (by simp)
  · refine next_cons (vs := l.map V.str) (hI.get hx) ?_
    rw [List.getElem?_map, List.getElem?_eq_getElem hk, List.getD_eq_getElem?_getD, List.getElem?_eq_getElem hk]; rfl
  · exact next_nil (vs := l.map V.str) (hI.get hx) (by rw [List.getElem?_eq_none_iff, List.length_map]; omega)
  · have hM' : (l.getD k []).length ≤ 10 := by
      rw [List.getD_eq_getElem?_getD, List.getElem?_eq_getElem hk]; exact hM _ (List.getElem_mem hk)
    generalize l.getD k [] = z at *
    refine tri_BinOp (tri_BinOp (tri_str (tri_Name .here ?_)))
    rw [show (Str.ofString "\"").cps.toList = [34] by decide +kernel]
    refine add_s (by simp; omega) (tri_str ?_)
    rw [show (Str.ofString "\"").cps.toList = [34] by decide +kernel]
    refine add_s (by simp; omega) ⟨rfl, ?_, hI, rfl⟩
    simp [quo]
  · have hlist : (List.range l.length).map (fun k => V.str (quo (l.getD k []))) = (l.map quo).map V.str := by
      apply List.ext_getElem
      · simp
      · intro i h1 h2
        simp at h1
        simp [List.getD_eq_getElem?_getD, List.getElem?_eq_getElem h1]
    rw [hlist] at ha
    exact q w H' hI ha
theorem query_step {d : Nat} (IH : ∀ d', d = d' + 1 → ∀ t, goodT d' t → XQ X (n + 1) t) (hd : maxL d ≤ 100000) : ∀ t, goodT d t → XQ X (n + 2) t := by
  intro t hg env m H lo v b Q ht q
  refine cn_call (names := ["tree", "nested"]) (ws := []) (ds := []) (by rw [hK]; rfl) (by rw [hK]; rfl) rfl rfl rfl rfl (by decide +kernel) rfl (fun s cvs hin hl => ?_) (fun _ _ => by unfold DenL; rfl) ?_
  · obtain ⟨c, c2, rfl⟩ : ∃ c c2, cvs = [c, c2] := by
      match cvs, hl with
      | [c, c2], _ => exact ⟨c, c2, rfl⟩
    exact BindsTo.of_eq rfl
  intro env' hsc hcode
  obtain ⟨sc, lo', gl, ce, qu, fu, co, fr, bi⟩ := env'
  simp only at hsc hcode
  subst hsc hcode
  have hsl : sizeLine = 16777216 := rfl
  show TS X (n + 1) _ (qL v b none none) H (execs _ _) _ _ _ _
  have hql := q_len d (b := b) hg
  cases hleaf : isLeaf t with
  | true =>
    cases ht with
    | @t s => exact ts_cons (ts_If (tk true .here (by decide +kernel) (br_t (ts_cons (ts_Return (e_at (i := 1) .here rfl (q H .refl)))))))
    | @w s sx =>
      have hw : s ∈ WORDS ∧ sx ∈ STARS := by cases d <;> exact hg
      have h1 := WO_len _ hw.1
      have h2 := ST_len _ hw.2
      refine ts_cons (ts_If (tk false .here (by decide +kernel) (br_f (ts_nil (ts_cons (ts_If (tk true .here (by decide +kernel) (br_t (ts_cons (ts_Return (tri_BinOp (tri_BinOp (tri_BinOp (tri_str (e_at (i := 1) .here rfl ?_)))))))))))))))
      rw [show (Str.ofString "\"").cps.toList = [34] by decide +kernel]
      refine add_s (by simp; omega) (tri_str ?_)
      rw [show (Str.ofString "\"").cps.toList = [34] by decide +kernel]
      refine add_s (by simp; omega) (e_at (i := 2) .here rfl (add_s (by simp; omega) ?_))
      have := q H .refl
      simpa [qText] using this
    | col _ _ _ => cases hleaf
    | and _ _ _ => cases hleaf
    | or _ _ _ => cases hleaf
    | not _ _ _ _ => cases hleaf
  | false =>
    have hil := hql.2 hleaf
    rw [q_ins hleaf] at q
    obtain ⟨d', rfl⟩ := nonleaf_pos hg hleaf
    have I := IH d' rfl
    obtain ⟨rest, hrest⟩ := ht.kd
    subst hrest
    refine ts_cons (ts_If (tk false .here (kd_t hleaf) (br_f (ts_nil (ts_cons (ts_If (tk false .here (kd_w hleaf) (br_f (ts_nil ?_)))))))))
    have hmd : maxL (d' + 1) = 47 + 5 * maxL d' := rfl
    refine ts_cut (fun m' H' => ∃ a, m' = qL (.tup (.str (kdT t) :: rest)) b a (some (.str (insQ t))) ∧ Ext H H') (ts_If (tk (isCol t) .here (kd_col t) (br_c (fun hcol => ?_) (fun hcol => ?_)))) ?_
    · obtain ⟨nms, t', rfl⟩ : ∃ nms t', t = .col nms t' := by cases t <;> first | exact ⟨_, _, rfl⟩ | (cases hcol)
      cases ht with
      | @col _ _ x v hx he ht =>
      have hM : ∀ s ∈ nms, s.length ≤ 2 := fun s hs => NA_len s (hg.2.1 s hs)
      refine ts_cons (ts_Assign_Comp [] ⟨by simp, by simp, by simp⟩ rfl (by decide) (by decide) ⟨rfl, by decide, by decide⟩ (e_at (i := 1) .here rfl ⟨rfl, .lst x 0, rfl, fun i e => ⟨_, by cases e; exact he⟩, fun k e => (by cases e), fun cl C => ?_⟩) nofree)
      refine names_comp hK NX LX he (by have := hg.1; omega) (fun s hs => by have := hM s hs; omega) (by exact nofree) fun w H1 e1 hn1 => ⟨by simp, _, .there (.there .here), ?_⟩
      refine ts_cons (ts_Assign_Name (hfree := nofree) (tri_BinOp (tri_BinOp (tri_CallN (f := .ref 182) rfl (.inl LX.columns) (hfun hK NX rfl) (tx_cons (tri_Name (.there (.there .here)) (tx_nil (tn_of_cn (columns_ok hK NX LX hn1 (by rw [List.length_map]; exact hg.1) (fun s hs => ?_) (tri_str ?_))))))))))
      · obtain ⟨s', hs', rfl⟩ := List.mem_map.mp hs
        have := hM s' hs'
        rw [quo_len]; omega
      · rw [show (Str.ofString ": ").cps.toList = [58, 32] by decide +kernel]
        simp only [insQ, List.length_append, List.length_cons] at hil
        refine add_s (by simp; omega) (tri_CallN (f := .ref 232) rfl (.inl LX.query) (hfun hK NX rfl) (tx_cons (e_at (i := 2) .here rfl (tx_cons (tri_bool (tx_nil (tn_of_cn (I _ hg.2.2 (ht.ext e1) fun H2 e2 => add_s (by simp; omega) ⟨_, .there (.there (.there .here)), ts_nil ⟨some (.loc H.length), ?_, e1.trans e2⟩⟩))))))))
        simp [insQ]
    · refine ts_cons (ts_If (tk (isNot t) .here (kd_not t) (br_c (fun hnot => ?_) (fun hnot => ?_))))
      · obtain ⟨t1, l, rfl⟩ : ∃ t1 l, t = .not t1 l := by cases t <;> first | exact ⟨_, _, rfl⟩ | (cases hnot)
        cases ht with
        | @not _ v1 _ x vs ht1 hx he hts =>
        have hlist : ∀ y ∈ qText true t1 :: qTexts l, y.length ≤ maxL d' := fun y hy => by
          rcases List.mem_cons.mp hy with rfl | hy
          · exact (q_len d' hg.1).1
          · rw [qTexts_is] at hy
            obtain ⟨t, ht, rfl⟩ := List.mem_map.mp hy
            exact (q_len d' (goodL_mem hg.2.2 ht)).1
        have hsum := sum_le hlist
        have hln : (qText true t1 :: qTexts l).length ≤ 3 := by rw [List.length_cons, qTexts_is, List.length_map]; have := hg.2.1; omega
        have hlm : (qText true t1 :: qTexts l).length * maxL d' ≤ 3 * maxL d' := Nat.mul_le_mul_right _ hln
        have hvl := hts.len
        have e1 : Ext H (H ++ [Cell.list [v1]] ++ [Cell.list (v1 :: vs)]) := Ext.snoc.trans .snoc
        have hl1 : (H ++ [Cell.list [v1]]).length = H.length + 1 := by simp
        have hh : (H ++ [Cell.list [v1]] ++ [Cell.list (v1 :: vs)])[(H ++ [Cell.list [v1]]).length]? = some (.list (v1 :: vs)) := by rw [List.getElem?_append_right (Nat.le_refl _)]; simp
        refine ts_cons (ts_Assign_Name (hfree := nofree) (tri_CallM (tri_str (tm_str F.slot_str_join F.type_str_join ⟨kn_builtin, tx_cons (tri_ListComp [] ⟨by simp, by simp, by simp⟩ rfl (by decide) (by decide) ⟨rfl, by decide, by decide⟩ (tri_BinOp (tri_List (tx_cons (e_at (i := 1) .here rfl (tx_nil ⟨by show 1 ≤ sizeLine; decide, e_at (i := 2) .here rfl (add_l (xs := [v1]) (ys := vs) (by simp) (Ext.snoc.get he) (by simp; have := hg.2.1; omega) ⟨rfl, .lst _ 0, rfl, fun i e => ⟨_, by cases e; exact hh⟩, fun k e => (by cases e), fun cl C => ?_⟩)⟩))))))⟩))))
        refine q_comp hK NX LX (l := t1 :: l) (lo := lo) (fun t ht => ?_) hh (.cons (ht1.ext e1) (hts.ext e1)) (by simp; have := hg.2.1; omega) (by exact nofree) rfl fun w H1 e2 hn1 => ⟨by simp, tx_nil (join_l hn1 ?_ ?_)⟩
        · rcases List.mem_cons.mp ht with rfl | ht
          · exact I _ hg.1
          · exact I _ (goodL_mem hg.2.2 ht)
        · rw [show (Str.ofString " NOT ").cps.toList = [32, 78, 79, 84, 32] by decide +kernel]
          have h5 : ((qTexts (t1 :: l)).map (·.length)).sum ≤ (qTexts (t1 :: l)).length * maxL d' := hsum
          have h6 : (qTexts (t1 :: l)).length * maxL d' ≤ 3 * maxL d' := hlm
          have h7 : (qTexts (t1 :: l)).length ≤ 3 := hln
          show _ + _ * 5 ≤ _
          omega
        · rw [show (Str.ofString " NOT ").cps.toList = [32, 78, 79, 84, 32] by decide +kernel]
          exact ⟨_, .there (.there (.there .here)), ts_nil (ts_nil ⟨_, rfl, e1.trans e2⟩)⟩
      · have hcase : ∃ (sep : List Nat) (l : List LT) (x : Nat) (vs : List V), sep.length ≤ 5 ∧ insQ t = joinL sep (qTexts l) ∧ goodL d' l ∧ (l.length = 2 ∨ l.length = 3) ∧ H[x]? = some (.list vs) ∧ LTsAt H lo l vs ∧ rest = [.loc x] ∧ sep = (if isAnd t then [32, 65, 78, 68, 32] else [32, 79, 82, 32]) := by
          cases ht with
          | t => cases hleaf
          | w => cases hleaf
          | col _ _ _ => cases hcol
          | not _ _ _ _ => cases hnot
          | @and l x vs hx he hts => exact ⟨_, l, x, vs, by decide, rfl, hg.2, hg.1, he, hts, rfl, rfl⟩
          | @or l x vs hx he hts => exact ⟨_, l, x, vs, by decide, rfl, hg.2, hg.1, he, hts, rfl, rfl⟩
        obtain ⟨sep, l, x, vs, hsep, hins, hgl, hl, he, hts, rfl, hs⟩ := hcase
        have hlist : ∀ y ∈ qTexts l, y.length ≤ maxL d' := fun y hy => by
          rw [qTexts_is] at hy
          obtain ⟨t, ht, rfl⟩ := List.mem_map.mp hy
          exact (q_len d' (goodL_mem hgl ht)).1
        have hsum := sum_le hlist
        have hln : (qTexts l).length ≤ 3 := by rw [qTexts_is, List.length_map]; omega
        have hlm : (qTexts l).length * maxL d' ≤ 3 * maxL d' := Nat.mul_le_mul_right _ hln
        have hls : (qTexts l).length * sep.length ≤ 3 * 5 := Nat.mul_le_mul hln hsep
        refine ts_cons (ts_Assign_Name (hfree := nofree) (tri_CallM (tri_Subscript (tri_List (tx_cons (tri_str (tx_cons (tri_str (tx_nil ⟨by show 2 ≤ sizeLine; decide, ?_⟩)))))))))
        refine tri_CallN (f := .type "int") rfl (.inr LX.int) kn_type (tx_cons (tri_Compare (hm := by with_unfolding_all rfl) (tri_Subscript (tri_Name .here (tri_int (t2_item_tup (by decide) rfl (tri_str (eq_s (tx_nil (int_b ?_))))))))))
        rw [kd_and, show (Str.ofString " OR ").cps.toList = [32, 79, 82, 32] by decide +kernel, show (Str.ofString " AND ").cps.toList = [32, 65, 78, 68, 32] by decide +kernel]
        refine t2_item_list (xs := [.str [32, 79, 82, 32], .str [32, 65, 78, 68, 32]]) (by simp) (by split <;> decide) (v := .str sep) (by rw [hs]; cases isAnd t <;> rfl) ?_
        have e1 : Ext H (H ++ [Cell.list [.str [32, 79, 82, 32], .str [32, 65, 78, 68, 32]]]) := .snoc
        refine tm_str F.slot_str_join F.type_str_join ⟨kn_builtin, tx_cons (tri_ListComp [] ⟨by simp, by simp, by simp⟩ rfl (by decide) (by decide) ⟨rfl, by decide, by decide⟩ (e_at (i := 1) .here rfl ⟨rfl, .lst x 0, rfl, fun i e => ⟨_, by cases e; exact e1.get he⟩, fun k e => (by cases e), fun cl C => ?_⟩))⟩
        refine q_comp hK NX LX (l := l) (lo := lo) (fun t ht => I _ (goodL_mem hgl ht)) (e1.get he) (hts.ext e1) (by omega) (by exact nofree) rfl fun w H1 e2 hn1 => ⟨by simp, tx_nil (join_l hn1 ?_ ?_)⟩
        · have h5 : ((qTexts l).map (·.length)).sum ≤ (qTexts l).length * maxL d' := hsum
          omega
        · rw [← hins]
          exact ⟨_, .there (.there (.there .here)), ts_nil (ts_nil ⟨_, rfl, e1.trans e2⟩)⟩
    · rintro _ H1 ⟨a, rfl, e1⟩
      have q' := q H1 e1
      generalize insQ t = z at *
      refine ts_cons (ts_Return (tri_IfExp (tb_plain (tri_Name (.there .here) (tr_b (br_c (fun h => ?_) (fun h => ?_)))))))
      · subst h
        refine tri_BinOp (tri_BinOp (tri_str (tri_Name (.there (.there (.there .here))) ?_)))
        rw [show (Str.ofString "(").cps.toList = [40] by decide +kernel]
        refine add_s (by simp; omega) (tri_str ?_)
        rw [show (Str.ofString ")").cps.toList = [41] by decide +kernel]
        refine add_s (by simp; omega) ?_
        simpa using q'
      · subst h
        exact tri_Name (.there (.there (.there .here))) q'
end
end Mine
end
section
open PySem PySem.W PyProof.Rows PySem.Calls
set_option Elab.async false
set_option maxRecDepth 100000
set_option linter.unusedVariables false
set_option linter.unusedSectionVars false
namespace Mine
theorem kscan_len : ∀ (l : List Nat) (st : KWd.St), (l.foldl KWd.step st).1.length ≤ st.1.length + l.length
  | [], st => by simp
  | c :: l, st => by
    have h := kscan_len l (KWd.step st c)
    have h2 : (KWd.step st c).1.length ≤ st.1.length + 1 := by
      unfold KWd.step
      split
      · split
        · omega
        · simp
      · simp
    simp only [List.foldl_cons, List.length_cons]
    omega
theorem sw_len (x : List Nat) : (Builtin.Str.spaceWords ⟨x.toArray⟩ (x.length + 1)).length ≤ x.length + 1 := by
  have h := congrArg List.length (KWd.wordsOf_scan ⟨x.toArray⟩)
  rw [List.length_map] at h
  have e : (⟨x.toArray⟩ : PySem.Str).length = x.length := by simp [PySem.Str.length]
  rw [e] at h
  rw [h]
  have h2 := kscan_len x ([], PySem.Str.empty)
  unfold KWd.fin KWd.scan
  simp only [List.length_nil, Nat.zero_add] at h2
  show (if _ then (x.foldl KWd.step ([], PySem.Str.empty)).1 else _ ++ [_]).length ≤ _
  split
  · show (x.foldl KWd.step ([], PySem.Str.empty)).1.length ≤ _
    omega
  · rw [List.length_append]
    show (x.foldl KWd.step ([], PySem.Str.empty)).1.length + 1 ≤ _
    omega
/-- what is asked of a text for the walk of parse with columns -/
structure Fine1 (x : List Nat) (toks : List Tk) : Prop where
  asc : AscL x
  len : x.length ≤ 800
  scanned : scan splitW id NAMES x = toks
  small : toks.length ≤ 100000 ∧ ∀ c, Tk.col c ∈ toks → c.length ≤ 100000
  opens : opens toks + 1 ≤ 40
  tree : ∀ nd, treeOf toks = some nd → dep nd ≤ 40 ∧ (renderN true nd).length ≤ 900000
theorem names_ok : ∀ c ∈ NAMES, AscL c ∧ c.length ≤ 1000 ∧ noOcc c [34] = true := by
  intro c hc
  refine ⟨?_, ?_, ?_⟩
  · revert hc; revert c; unfold AscL; decide
  · revert hc; revert c; decide
  · revert hc; revert c; decide +kernel
/-- the plain law -/
def Plain1 : Prop := (∀ t x pre post, goodT 2 t → TXT .any t x → pre ∈ ([[32], []] : List (List Nat)) → post ∈ ([[], [32, 32]] : List (List Nat)) → ∃ toks, Fine1 (pre ++ x ++ post) toks ∧ transl toks = qText false t) ∧ ∃ toks, Fine1 [] toks ∧ transl toks = [34, 34]
/-- the locals of law -/
abbrev wL1 (xs : List Int) (st : Nat) (tu tr tx : Option V) : Loc := [("script", some (.fl xs)), ("state", some (.loc st)), ("turn", tu), ("tree", tr), ("text", tx)]
section
variable {P : Params} {X : Cx} (hK : X.K = KK P) (NX : Names X) (LX : LNm X) (hB : BuiltinsOk X) (hW : X.w.params = P) {PT PT2 : Addr} (hG : GenCode X 120 PT) (hG2 : GenCode X 65 PT2) {n : Nat} {env : Env} {m : Loc} {H : List Cell} {x : List Nat} {toks : List Tk} {Q : V → Loc → List Cell → Prop}
set_option maxHeartbeats 4000000
include hK NX LX
theorem query_ok : ∀ d n, maxL d ≤ 100000 → ∀ t, goodT d t → XQ X (n + d + 2) t := by
  intro d
  induction d with
  | zero => exact fun n hd t hg => query_step hK NX LX (n := n) (d := 0) (fun d' h => by cases h) hd t hg
  | succ d ih =>
    intro n hd t hg
    have := maxL_mono d
    have h := query_step hK NX LX (n := n + d + 1) (d := d + 1) (fun d' h => by cases h; exact ih n (by omega)) hd t hg
    rw [show n + (d + 1) + 2 = n + d + 1 + 2 by omega]
    exact h
include hB hW hG hG2
theorem parse_fine1 (F : Fine1 x toks) (q : ∀ H', Ext H H' → Q (.str (transl toks)) m H') : CN X (n + 244) env m H (.ref 143) [.str x, .obj 170] Q := by
  have S : ScanOk X (n + 4 * 40 + 2 * 40) x NAMES toks := by
    intro env m H i j k Q I hk q
    refine scan_ok (n := n + 238) (cols := NAMES) hK NX hB hG2 hW I hk names_ok F.asc (by have := F.len; omega) (fun a b => ?_) fun H' k' h1 h2 h3 h4 => q H' k' h1 h2 h3 ?_
    · have h1 := sw_len (x.extract a b)
      have h2 := F.len
      have h3 : (x.extract a b).length ≤ x.length := by rw [List.extract_eq_take_drop]; simp; omega
      omega
    · rw [F.scanned] at h4
      exact h4
  exact parse_obj (n := n) (D := 40) (e := 40) (cs := NAMES) hK NX hB hG (k_names hK) (by decide) (by decide) S F.small F.opens F.tree fun H' h1 h2 => q H' ⟨h1, h2⟩
end
section
variable {P : Params} {X : Cx} (hK : X.K = KK P) (NX : Names X) (LX : LNm X) (hB : BuiltinsOk X) (hW : X.w.params = P) {PT PT2 : Addr} (hG : GenCode X 120 PT) (hG2 : GenCode X 65 PT2) {H : List Cell}
set_option maxHeartbeats 8000000
include hK NX LX hB hW hG hG2
theorem law_ok1 (PL : Plain1) {xs : List Int} (hx : xs.length ≤ 1000) :
    ∀ (cvs : List Value) (A : Around) (η : List Addr) (s : Shared) (C : Value → Shared → Prop), Room A (300 + 1) → Rel X η H s.heap → DenL X η s.heap [.fl xs] cvs →
    (∀ b H' a η' s', b = V.bool true → Den X η' s'.heap b a → Rel X η' H' s'.heap → s.gens.size ≤ s'.gens.size → (∀ (i : Nat) y, s.gens[i]? = some y → s'.gens[i]? = some y) → (∀ (i : Nat) y, s.gens.size ≤ i → s'.gens[i]? = some y → y.bare = true) → s'.os = s.os → C a s') →
    codeAny (model X.prog X.w) A (.call (.ref 239) ⟨cvs, []⟩) (fun r s' => match r with | .ok (.ret v) => C v s' | _ => False) s := by
  refine cn_enter (Q := fun v _ => v = V.bool true) (names := ["script"]) (ws := []) (ds := []) (by rw [hK]; rfl) (by rw [hK]; rfl) rfl rfl rfl rfl (by decide +kernel) rfl (fun s cvs hin hl => ?_) (fun _ _ => by unfold DenL; rfl) ?_
  · obtain ⟨c, rfl⟩ : ∃ c, cvs = [c] := by
      match cvs, hl with
      | [c], _ => exact ⟨c, rfl⟩
    exact BindsTo.of_eq rfl
  · intro env' hsc hcode
    obtain ⟨sc, lo', gl, ce, qu, fu, co, fr, bi⟩ := env'
    simp only at hsc hcode
    subst hsc hcode
    have hsl : sizeLine = 16777216 := rfl
    show TS X 300 _ [("script", some (.fl xs)), ("state", none), ("turn", none), ("tree", none), ("text", none)] H (execs _ _) _ _ _ _
    refine ts_cons (ts_Assign_Name (hfree := nofree) (tri_CallN (f := .ref 155) rfl (.inl LX.state) (hfun hK NX rfl) (tx_cons (tri_Name .here (tx_nil (tn_of_cn (state_ok hK NX LX hx fun H1 st nb h1 h2 h3 S1 => ⟨_, .there .here, ?_⟩)))))))
    have hns := numsOf_len xs
    generalize numsOf xs = ns at *
    have hden : ∀ (η : List Addr) (h : Heap), Rel X η H h → True := fun _ _ _ => trivial
    have hcT : costT 2 = 78 := by decide
    have hcX : costX 2 = 526 := by decide
    have hm2 : maxL 2 = 782 := by decide
    refine ts_cut (fun m' H' => ∃ tu tr tx, m' = wL1 xs st tu tr tx) (ts_For (tri_CallN (f := .type "range") rfl (.inr LX.range) kn_type (tx_cons (tri_int (tx_nil (range_i (by decide) ⟨.rng 0 2, rfl, fun i e => (by cases e), fun k e => (by cases e; decide), ?_⟩)))))) ?_
    · refine tf_ind (fun (j : Nat) src m' H' => ∃ tu tr tx a, src = .rng ((2 - j : Nat) : Int) j ∧ j ≤ 2 ∧ m' = wL1 xs st tu tr tx ∧ StAt H' st nb ns a ∧ a ≤ 700 * (2 - j)) (fun j => j) ?_ 2 _ _ _ ⟨none, none, none, 0, rfl, by omega, rfl, S1, by omega⟩
      rintro j _ _ H2 ⟨tu, tr, tx, a, rfl, hj, rfl, S2, ha⟩ ih
      cases j with
      | zero => exact tf_turn (r := none) rfl ⟨tu, tr, tx, rfl⟩
      | succ j =>
      refine tf_turn (r := some (.int ((2 - (j + 1) : Nat) : Int), .rng (((2 - (j + 1) : Nat) : Int) + 1) j)) rfl ?_
      refine ta_Name (.there (.there .here)) ?_ nofree
      generalize V.int ((2 - (j + 1) : Nat) : Int) = tuv
      have hnx : ((2 - (j + 1) : Nat) : Int) + 1 = ((2 - j : Nat) : Int) := by omega
      rw [hnx]
      have hL2 := S2.lt
      refine ts_cons (ts_Assign_Name (hfree := nofree) (tri_CallN (f := .ref 175) rfl (.inl LX.tree) (hfun hK NX rfl) (tx_cons (tri_Name (.there .here) (tx_cons (tri_int (tx_nil (tn_of_cn (tree_ok hK NX LX (n := 296) 2 S2 (by omega) fun H3 v t a3 hg ht g3 S3 ha3 => ⟨_, .there (.there (.there .here)), ?_⟩)))))))))
      obtain ⟨PL1, PL2⟩ := PL
      refine ts_cons (ts_Assign_Name (hfree := nofree) (tri_BinOp (tri_BinOp (e_pick2 (L := [[32], []]) hK NX LX (by decide +kernel) rfl (.there .here) S3 (by omega) fun H4 pre hpre g4 S4 => tri_CallN (f := .ref 215) rfl (.inl LX.any) (hfun hK NX rfl) (tx_cons (tri_Name (.there .here) (tx_cons (tri_Name (.there (.there (.there .here))) (tx_nil (tn_of_cn ((all_ok hK NX LX 2 281 (by omega)).any t hg S4 hL2.1 (ht.gr g4 hL2.1) (by omega) fun H5 x a5 hx g5 S5 ha5 => ?_)))))))))))
      have hxl := tx_len hx hg
      have hxl2 := bnd_le .any 2
      have hpl : pre.length ≤ 1 := by revert hpre; revert pre; decide
      refine add_s (by omega) (e_pick2 (L := [[], [32, 32]]) hK NX LX (by decide +kernel) rfl (.there .here) S5 (by omega) fun H6 post hpost g6 S6 => ?_)
      have hpol : post.length ≤ 2 := by revert hpost; revert post; decide
      refine add_s (by simp; omega) ⟨_, .there (.there (.there (.there .here))), ?_⟩
      obtain ⟨toks, hF, htr⟩ := PL1 t x pre post hg hx hpre hpost
      refine ts_cons (ts_If (tb_Compare (hm := by with_unfolding_all rfl) (tri_CallN (f := .ref 143) rfl (.inl LX.parse) (hfun hK NX rfl) (tx_cons (tri_Name (.there (.there (.there (.there .here)))) (tx_cons (tri_glob rfl LX.names (u := .obj 170) (fun η h re => den_obj.mpr ⟨rfl, by rw [hK]; exact ⟨_, rfl⟩⟩) (tx_nil (tn_of_cn (parse_fine1 (n := 56) hK NX LX hB hW hG hG2 hF fun H7 e7 => ?_))))))))))
      have ht6 : LTAt H6 H2.length t v := (((ht.gr g4 hL2.1).gr g5 hL2.1).gr g6 hL2.1)
      refine tri_CallN (f := .ref 232) rfl (.inl LX.query) (hfun hK NX rfl) (tx_cons (tri_Name (.there (.there (.there .here))) (tx_cons (tri_bool (tx_nil (tn_of_cn (query_ok hK NX LX 2 296 (by omega) t hg (ht6.ext e7) fun H8 e8 => ?_)))))))
      refine ne_s (tr_b ?_)
      rw [htr, show decide (qText false t ≠ qText false t) = false by simp]
      exact br_f (ts_nil (ts_nil (ih j _ _ _ (by omega) ⟨_, _, _, a5 + 1, rfl, by omega, rfl, S6.ext (e7.trans e8), by omega⟩)))
    · rintro _ H10 ⟨tu, tr, tx, rfl⟩
      obtain ⟨_, toks, hF, htr⟩ := PL
      refine ts_cons (ts_Return (tri_Compare (hm := by with_unfolding_all rfl) (tri_CallN (f := .ref 143) rfl (.inl LX.parse) (hfun hK NX rfl) (tx_cons (tri_str (tx_cons (tri_glob rfl LX.names (u := .obj 170) (fun η h re => den_obj.mpr ⟨rfl, by rw [hK]; exact ⟨_, rfl⟩⟩) (tx_nil (tn_of_cn ?_)))))))))
      rw [show (Str.ofString "").cps.toList = [] by decide +kernel]
      refine parse_fine1 (n := 56) hK NX LX hB hW hG hG2 hF fun H8 e8 => tri_str (eq_s ?_)
      rw [show (Str.ofString "\"\"").cps.toList = [34, 34] by decide +kernel, htr]
      rfl
end
end Mine
end
section
open PySem PySem.W PyProof.Rows PySem.Calls
set_option Elab.async false
set_option linter.unusedVariables false
namespace Mine
theorem gD {pre r : List Nat} (i : Nat) : (pre ++ r).getD (pre.length + i) 0 = r.getD i 0 := by
  rw [List.getD_eq_getElem?_getD, List.getElem?_append_right (by omega), List.getD_eq_getElem?_getD]
  congr 2; omega
theorem gD0 {pre r : List Nat} : (pre ++ r).getD pre.length 0 = r.getD 0 0 := gD 0
theorem ex_mid (pre s r : List Nat) : (pre ++ (s ++ r)).extract pre.length (pre.length + s.length) = s := by
  rw [List.extract_eq_drop_take]
  simp
theorem tw_len {q : Nat → Bool} {x : List Nat} : ∀ {l : List Nat} {p : Nat}, x.drop p = l → spanN q x.toArray p (x.toArray.size - p) = (l.takeWhile q).length
  | [], p, h => by
    have : x.toArray.size - p = 0 := by
      have := congrArg List.length h
      simp at this ⊢
      omega
    rw [this]; simp [spanN]
  | c :: r, p, h => by
    obtain ⟨h1, h2⟩ := drop_cons h
    have hp : p < x.length := (List.getElem?_eq_some_iff.mp h1).1
    have e : x.toArray.size - p = (x.toArray.size - (p + 1)) + 1 := by simp; omega
    rw [e, spanN, getD_arr, List.getD_eq_getElem?_getD, h1]
    show (if q c = true then _ else _) = _
    rw [List.takeWhile_cons]
    cases q c with
    | true => simp only [if_true, List.length_cons]; rw [tw_len h2]
    | false => rfl
theorem tw_stop {q : Nat → Bool} {r : List Nat} (hr : ∀ c r', r = c :: r' → q c = false) : ∀ a : List Nat, (a ++ r).takeWhile q = a.takeWhile q
  | [] => by
    cases r with
    | nil => rfl
    | cons c r => simp [List.takeWhile_cons, hr c r rfl]
  | c :: a => by rw [List.cons_append, List.takeWhile_cons, List.takeWhile_cons, tw_stop hr a]
theorem tw_all {q : Nat → Bool} : ∀ {a : List Nat}, (∀ c ∈ a, q c = true) → a.takeWhile q = a
  | [], _ => rfl
  | c :: a, h => by rw [List.takeWhile_cons, if_pos (h c (.head _)), tw_all fun d hd => h d (.tail _ hd)]
theorem tw_app {q : Nat → Bool} {a r : List Nat} (ha : ∀ c ∈ a, q c = true) (hr : ∀ c r', r = c :: r' → q c = false) : (a ++ r).takeWhile q = a := by
  rw [tw_stop hr, tw_all ha]
theorem drop_pre (pre l : List Nat) : (pre ++ l).drop pre.length = l := by simp
theorem drop_pre2 (pre a l : List Nat) : (pre ++ (a ++ l)).drop (pre.length + a.length) = l := by
  rw [← List.append_assoc, ← List.length_append]; simp
theorem nW_is (pre l : List Nat) : nW (pre ++ l).toArray pre.length = (l.takeWhile Sre.isWordUni).length := tw_len (drop_pre pre l)
theorem nU_is (pre l : List Nat) : nU (pre ++ l).toArray pre.length = (l.takeWhile fun c => !isSet c).length := tw_len (drop_pre pre l)
theorem nQ_is (pre a l : List Nat) : nQ (pre ++ (a ++ l)).toArray (pre.length + a.length) = (l.takeWhile (· != 34)).length := tw_len (drop_pre2 pre a l)
theorem nS_is (pre a l : List Nat) : nS (pre ++ (a ++ l)).toArray (pre.length + a.length) = (l.takeWhile Unicode.isSpace).length := tw_len (drop_pre2 pre a l)
theorem nB_is (pre a l : List Nat) : nB (pre ++ (a ++ l)).toArray (pre.length + a.length) = (l.takeWhile (· != 125)).length := tw_len (drop_pre2 pre a l)
/-- steps of _scan -/
inductive Go (x : List Nat) : Nat → List Tk → Nat → List Tk → Prop where
  | refl {p acc} : Go x p acc p acc
  | step {p acc p1 acc1 p2 acc2} : p < x.length → p < p1 → scanStep splitW id NAMES x p acc = (acc1, p1) → Go x p1 acc1 p2 acc2 → Go x p acc p2 acc2
theorem Go.trans {x p acc p1 acc1 p2 acc2} (a : Go x p acc p1 acc1) (b : Go x p1 acc1 p2 acc2) : Go x p acc p2 acc2 := by
  induction a with
  | refl => exact b
  | step h1 h2 h3 _ ih => exact .step h1 h2 h3 (ih b)
theorem Go.loop {x p acc p1 acc1} (a : Go x p acc p1 acc1) : x.length ≤ p1 → ∀ f, x.length - p ≤ f → scanLoop splitW id NAMES x f p acc = acc1 := by
  induction a with
  | refl =>
    intro h f hf
    cases f with
    | zero => rfl
    | succ f => rw [scanLoop, if_neg (by omega)]
  | step h1 h2 h3 _ ih =>
    intro h f hf
    cases f with
    | zero => omega
    | succ f =>
      rw [scanLoop, if_pos h1, h3]
      exact ih h f (by omega)
/-- what is scanned from a text on, and what is left -/
def Sc (l : List Nat) (tks : List Tk) (l' : List Nat) : Prop := ∃ m, l = m ++ l' ∧ ∀ pre acc, Go (pre ++ l) pre.length acc (pre.length + m.length) (acc ++ tks)
theorem Sc.refl {l} : Sc l [] l := ⟨[], rfl, fun pre acc => by rw [List.append_nil]; exact .refl⟩
theorem Sc.trans {l t l1 t1 l2} (a : Sc l t l1) (b : Sc l1 t1 l2) : Sc l (t ++ t1) l2 := by
  obtain ⟨m, rfl, h⟩ := a
  obtain ⟨m1, rfl, h1⟩ := b
  refine ⟨m ++ m1, by simp, fun pre acc => ?_⟩
  have h2 := h1 (pre ++ m) (acc ++ t)
  rw [List.append_assoc, List.length_append, List.append_assoc acc, Nat.add_assoc] at h2
  rw [List.length_append]
  exact (h pre acc).trans h2
theorem Sc.one {m l' : List Nat} {tks : List Tk} (hm : m ≠ []) (h : ∀ pre acc, scanStep splitW id NAMES (pre ++ (m ++ l')) pre.length acc = (acc ++ tks, pre.length + m.length)) : Sc (m ++ l') tks l' := by
  have := List.length_pos_iff.mpr hm
  exact ⟨m, rfl, fun pre acc => .step (by simp; omega) (by omega) (h pre acc) .refl⟩
theorem sc_space {l} : Sc (32 :: l) [] l := Sc.one (m := [32]) (by simp) fun pre acc => by
  rw [scan_space (by rw [gD0]; show Unicode.isSpace 32 = true; decide +kernel)]; simp
theorem sc_lp {l} : Sc (40 :: l) [.lp] l := Sc.one (m := [40]) (by simp) fun pre acc => by
  rw [scan_lp (by rw [gD0]; show ¬ Unicode.isSpace 40 = true; decide +kernel) (by rw [gD0]; rfl)]; rfl
theorem sc_rp {l} : Sc (41 :: l) [.rp] l := Sc.one (m := [41]) (by simp) fun pre acc => by
  rw [scan_rp (by rw [gD0]; show ¬ Unicode.isSpace 41 = true; decide +kernel) (by rw [gD0]; rfl)]; rfl
theorem sc_neg {c : Nat} {r : List Nat} (h : Unicode.isSpace c = false) : Sc (45 :: c :: r) [.neg] (c :: r) := Sc.one (m := [45]) (by simp) fun pre acc => by
  rw [scan_neg (by rw [gD0]; show ¬ Unicode.isSpace 45 = true; decide +kernel) (by rw [gD0]; show (45 : Nat) ≠ 40; decide) (by rw [gD0]; show (45 : Nat) ≠ 41; decide) ⟨by rw [gD0]; rfl, by simp, by rw [gD 1]; show ¬ Unicode.isSpace c = true; simp [h]⟩]; rfl
/-- no column's sign here -/
theorem colHit_no {pre l : List Nat} (h1 : l.getD 0 0 ≠ 123) (h2 : l.takeWhile Sre.isWordUni ∉ NAMES) : colHit NAMES (pre ++ l) pre.length = none := by
  unfold colHit
  cases hr : colRes (pre ++ l).toArray pre.length with
  | none => rfl
  | some es =>
    obtain ⟨e, sp⟩ := es
    dsimp only
    unfold colRes at hr
    split at hr
    · cases hr
      rw [if_neg]
      intro ⟨_, h⟩
      apply h2
      have e : colNames splitW (pre ++ l) [some (pre.length, pre.length + nW (pre ++ l).toArray pre.length), none] = [l.takeWhile Sre.isWordUni] := by
        show [(pre ++ l).extract _ _] = _
        rw [nW_is]
        congr 1
        have := ex_mid pre (l.takeWhile Sre.isWordUni) (l.dropWhile Sre.isWordUni)
        rw [List.takeWhile_append_dropWhile] at this
        exact this
      rw [e] at h
      simpa using h
    · split at hr
      · rename_i hb
        obtain ⟨_, hb, _⟩ := hb
        rw [getD_arr, gD0] at hb
        exact absurd hb h1
      · cases hr
/-- what may stand behind an operand -/
def okR (r : List Nat) : Prop := ∀ c r', r = c :: r' → c = 32 ∨ c = 41
theorem okR.look {r : List Nat} (h : okR r) (pre : List Nat) : Look (pre ++ r).toArray pre.length := by
  unfold Look
  cases r with
  | nil => left; simp
  | cons c r =>
    right
    rw [getD_arr, gD0]
    show isSet c = true
    rcases h c r rfl with rfl | rfl <;> decide +kernel
theorem okR.set {r : List Nat} (h : okR r) : ∀ c r', r = c :: r' → isSet c = true := fun c r' e => by
  rcases h c r' e with rfl | rfl <;> decide +kernel
theorem okR.word {r : List Nat} (h : okR r) : ∀ c r', r = c :: r' → Sre.isWordUni c = false := fun c r' e => by
  rcases h c r' e with rfl | rfl <;> decide +kernel
theorem okR.nostar {r : List Nat} (h : okR r) : r.getD 0 0 ≠ 42 := by
  cases r with
  | nil => decide
  | cons c r => rcases h c r rfl with rfl | rfl <;> simp
theorem WO_facts : ∀ s ∈ WORDS, (∀ c ∈ s, isSet c = false ∧ c ≠ 42) ∧ hasWord s.toArray = true ∧ ¬ isOpW s ∧ s ≠ [] ∧ s.takeWhile Sre.isWordUni ∉ NAMES ∧ (s.getD 0 0 ≠ 40 ∧ s.getD 0 0 ≠ 41 ∧ s.getD 0 0 ≠ 45 ∧ s.getD 0 0 ≠ 34 ∧ s.getD 0 0 ≠ 123 ∧ Unicode.isSpace (s.getD 0 0) = false) := by decide +kernel
theorem sc_word {w st rest : List Nat} (hw : w ∈ WORDS) (hst : st ∈ STARS) (hr : okR rest) : Sc (w ++ st ++ rest) [.term (34 :: w ++ 34 :: st)] rest := by
  obtain ⟨h1, h2, h3, h4, h5, c1, c2, c3, c4, c5, c6⟩ := WO_facts w hw
  obtain ⟨a, w', rfl⟩ : ∃ a w', w = a :: w' := by
    cases w with
    | nil => exact absurd rfl h4
    | cons a w' => exact ⟨a, w', rfl⟩
  simp only [List.getD_cons_zero] at c1 c2 c3 c4 c5 c6
  refine Sc.one (by simp) fun pre acc => ?_
  have e0 : (pre ++ (a :: w' ++ st ++ rest)).getD pre.length 0 = a := by rw [gD0]; rfl
  have hsw : ∀ c r', st ++ rest = c :: r' → Sre.isWordUni c = false := by
    simp only [STARS, List.mem_cons, List.not_mem_nil, or_false] at hst
    rcases hst with rfl | rfl
    · intro c r' e; cases e; decide +kernel
    · exact hr.word
  have hcol : colHit NAMES (pre ++ (a :: w' ++ st ++ rest)) pre.length = none := colHit_no (by show a ≠ 123; exact c5) (by rw [List.append_assoc, tw_stop hsw]; exact h5)
  have hnU : nU (pre ++ (a :: w' ++ st ++ rest)).toArray pre.length = (a :: w').length + st.length := by
    rw [nU_is, tw_app (a := a :: w' ++ st) _ (fun c r' e => by rw [hr.set c r' e]; rfl), List.length_append]
    intro c hc
    rcases List.mem_append.mp hc with hc | hc
    · rw [(h1 c hc).1]; rfl
    · simp only [STARS, List.mem_cons, List.not_mem_nil, or_false] at hst
      rcases hst with rfl | rfl
      · cases List.mem_singleton.mp hc; decide +kernel
      · cases hc
  simp only [STARS, List.mem_cons, List.not_mem_nil, or_false] at hst
  rcases hst with rfl | rfl
  · have hws : wordStar (pre ++ (a :: w' ++ [42] ++ rest)).toArray pre.length = true := by
      unfold wordStar
      rw [hnU, getD_arr]
      refine decide_eq_true ⟨by simp, ?_⟩
      rw [show pre.length + ((a :: w').length + [42].length) - 1 = pre.length + (a :: w').length by simp, gD, List.append_assoc]
      have := gD (pre := a :: w') (r := [42] ++ rest) 0
      rw [Nat.add_zero] at this
      rw [this]; rfl
    have ht : termRes (pre ++ (a :: w' ++ [42] ++ rest)) pre.length = (pre.length + (a :: w' ++ [42]).length, [none, some (pre.length, pre.length + (a :: w').length), some (pre.length + (a :: w').length, pre.length + (a :: w' ++ [42]).length)]) := by
      rw [termRes_wo (by rw [e0]; exact c4)]
      unfold wordRes
      rw [hws, hnU]
      simp only [if_true, List.length_append, List.length_cons, List.length_nil]
      try rw [show pre.length + (w'.length + 1 + (0 + 1)) - 1 = pre.length + (w'.length + 1) by omega]
    rw [scan_rest2 (ph := none) (w := some (pre.length, pre.length + (a :: w').length)) (st := some (pre.length + (a :: w').length, pre.length + (a :: w' ++ [42]).length)) (by rw [e0, c6]; simp) (by rw [e0]; exact c1) (by rw [e0]; exact c2) (fun q => c3 (by rw [← e0]; exact q.1)) hcol (by rw [ht]), ht]
    have he : spanT (pre ++ (a :: w' ++ [42] ++ rest)) (some (pre.length, pre.length + (a :: w').length)) = a :: w' := by
      show List.extract _ _ _ = _
      rw [List.append_assoc (a :: w')]; exact ex_mid pre (a :: w') _
    unfold restAcc textT
    dsimp only
    rw [he, if_neg (fun q => by cases q.2.1), if_pos h2]
    rfl
  · have hws : wordStar (pre ++ (a :: w' ++ [] ++ rest)).toArray pre.length = false := by
      unfold wordStar
      rw [hnU, getD_arr]
      refine decide_eq_false fun q => ?_
      have hl : w'.length < (a :: w').length := by simp
      have e2 : pre.length + ((a :: w').length + ([] : List Nat).length) - 1 = pre.length + w'.length := by simp
      rw [e2, gD, List.append_nil, List.getD_eq_getElem?_getD, List.getElem?_append_left hl, List.getElem?_eq_getElem hl] at q
      exact (h1 _ (List.getElem_mem hl)).2 q.2
    have ht : termRes (pre ++ (a :: w' ++ [] ++ rest)) pre.length = (pre.length + (a :: w' ++ []).length, [none, some (pre.length, pre.length + (a :: w').length), none]) := by
      rw [termRes_wo (by rw [e0]; exact c4)]
      unfold wordRes
      rw [hws, hnU]
      simp
    rw [scan_rest2 (ph := none) (w := some (pre.length, pre.length + (a :: w').length)) (st := none) (by rw [e0, c6]; simp) (by rw [e0]; exact c1) (by rw [e0]; exact c2) (fun q => c3 (by rw [← e0]; exact q.1)) hcol (by rw [ht]), ht]
    have he : spanT (pre ++ (a :: w' ++ [] ++ rest)) (some (pre.length, pre.length + (a :: w').length)) = a :: w' := by
      show List.extract _ _ _ = _
      rw [List.append_assoc (a :: w')]; exact ex_mid pre (a :: w') _
    unfold restAcc textT
    dsimp only
    rw [he, if_neg (fun q => h3 q.2.2), if_pos h2]
    rfl
theorem restAcc_ph {x : List Nat} {acc : List Tk} {b e : Nat} {st : Option (Nat × Nat)} (h : hasWord (x.extract b e).toArray = true) : restAcc x acc (some (b, e)) none st = acc ++ [termTk (x.extract b e) st] := by
  unfold restAcc
  rw [if_neg (fun q => by cases q.1)]
  exact if_pos h
theorem sc_quo {s st rest : List Nat} (hs : ∀ c ∈ s, c ≠ 34) (hw : hasWord s.toArray = true) (hst : st ∈ STARS) (hr : okR rest) : Sc (34 :: s ++ 34 :: st ++ rest) [.term (34 :: s ++ 34 :: st)] rest := by
  refine Sc.one (by simp) fun pre acc => ?_
  have e0 : (pre ++ (34 :: s ++ 34 :: st ++ rest)).getD pre.length 0 = 34 := by rw [gD0]; rfl
  have hcol : colHit NAMES (pre ++ (34 :: s ++ 34 :: st ++ rest)) pre.length = none := colHit_no (by show (34 : Nat) ≠ 123; decide) (by
    rw [List.cons_append, List.cons_append, List.takeWhile_cons, if_neg (by decide +kernel)]; decide)
  have hnQ : nQ (pre ++ (34 :: s ++ 34 :: st ++ rest)).toArray (pre.length + 1) = s.length := by
    have := nQ_is pre [34] (s ++ (34 :: st ++ rest))
    rw [tw_app (a := s) (fun c hc => by simpa using hs c hc) (fun c r' e => by cases e; rfl)] at this
    rw [← this]; simp
  have hx : pre ++ (34 :: s ++ 34 :: st ++ rest) = (pre ++ (34 :: s)) ++ (34 :: st ++ rest) := by simp
  have hq : pre.length + 1 + s.length = (pre ++ (34 :: s)).length := by simp; omega
  have hpe : phraseEnd (pre ++ (34 :: s ++ 34 :: st ++ rest)).toArray (pre.length + 1 + s.length) = (pre.length + (34 :: s ++ 34 :: st).length, st == [42]) := by
    unfold phraseEnd
    rw [hx, hq]
    generalize hpr : pre ++ 34 :: s = pr
    have hsz : ¬ (pr ++ (34 :: st ++ rest)).toArray.size ≤ pr.length := by simp
    rw [if_neg hsz]
    simp only [STARS, List.mem_cons, List.not_mem_nil, or_false] at hst
    rcases hst with rfl | rfl
    · have h1 : star (pr ++ (34 :: [42] ++ rest)).toArray (pr.length + 1) := by
        refine ⟨by simp, by rw [getD_arr, gD]; rfl, ?_⟩
        have := hr.look (pr ++ [34, 42])
        simpa using this
      rw [if_pos h1, ← hpr]
      simp; omega
    · have h1 : ¬ star (pr ++ (34 :: [] ++ rest)).toArray (pr.length + 1) := by
        intro ⟨_, h, _⟩
        rw [getD_arr, gD] at h
        exact hr.nostar h
      rw [if_neg h1, if_pos (by have := hr.look (pr ++ [34]); simpa using this), ← hpr]
      simp; omega
  have ht : termRes (pre ++ (34 :: s ++ 34 :: st ++ rest)) pre.length = (pre.length + (34 :: s ++ 34 :: st).length, [some (pre.length + 1, pre.length + 1 + s.length), none, starSpan (pre.length + (34 :: s ++ 34 :: st).length) (st == [42])]) := by
    rw [termRes_ph e0, hnQ, hpe]
  rw [scan_rest2 (ph := some (pre.length + 1, pre.length + 1 + s.length)) (w := none) (st := starSpan (pre.length + (34 :: s ++ 34 :: st).length) (st == [42])) (by rw [e0]; decide +kernel) (by rw [e0]; decide) (by rw [e0]; decide) (fun q => by rw [e0] at q; exact absurd q.1 (by decide)) hcol (by rw [ht]), ht]
  have he : (pre ++ (34 :: s ++ 34 :: st ++ rest)).extract (pre.length + 1) (pre.length + 1 + s.length) = s := by
    have := ex_mid (pre ++ [34]) s (34 :: st ++ rest)
    rw [List.length_append] at this
    rw [← this]; simp
  rw [restAcc_ph (by rw [he]; exact hw), he]
  unfold termTk starSpan
  simp only [STARS, List.mem_cons, List.not_mem_nil, or_false] at hst
  rcases hst with rfl | rfl <;> rfl
end Mine
end
section
open PySem PySem.W PyProof.Rows PySem.Calls
set_option Elab.async false
set_option linter.unusedVariables false
namespace Mine
theorem OP_facts : ∀ w ∈ [cAND, cOR, cNOT], (∀ c ∈ w, isSet c = false ∧ c ≠ 42) ∧ isOpW w ∧ w ≠ [] ∧ w.takeWhile Sre.isWordUni ∉ NAMES ∧ (w.getD 0 0 ≠ 40 ∧ w.getD 0 0 ≠ 41 ∧ w.getD 0 0 ≠ 45 ∧ w.getD 0 0 ≠ 34 ∧ w.getD 0 0 ≠ 123 ∧ Unicode.isSpace (w.getD 0 0) = false) := by decide +kernel
theorem op_step {w l pre : List Nat} {acc : List Tk} (hw : w ∈ [cAND, cOR, cNOT]) : scanStep splitW id NAMES (pre ++ (w ++ 32 :: l)) pre.length acc = (opAcc acc w, pre.length + w.length) := by
  obtain ⟨h1, h3, h4, h5, c1, c2, c3, c4, c5, c6⟩ := OP_facts w hw
  obtain ⟨a, w', rfl⟩ : ∃ a w', w = a :: w' := by
    cases w with
    | nil => exact absurd rfl h4
    | cons a w' => exact ⟨a, w', rfl⟩
  simp only [List.getD_cons_zero] at c1 c2 c3 c4 c5 c6
  have e0 : (pre ++ (a :: w' ++ 32 :: l)).getD pre.length 0 = a := by rw [gD0]; rfl
  have hcol : colHit NAMES (pre ++ (a :: w' ++ 32 :: l)) pre.length = none := colHit_no (by show a ≠ 123; exact c5) (by rw [tw_stop (fun c r' e => by cases e; decide +kernel)]; exact h5)
  have hnU : nU (pre ++ (a :: w' ++ 32 :: l)).toArray pre.length = (a :: w').length := by
    rw [nU_is, tw_app (a := a :: w') (fun c hc => by rw [(h1 c hc).1]; rfl) (fun c r' e => by cases e; decide +kernel)]
  have hws : wordStar (pre ++ (a :: w' ++ 32 :: l)).toArray pre.length = false := by
    unfold wordStar
    rw [hnU, getD_arr]
    refine decide_eq_false fun q => ?_
    have hl : w'.length < (a :: w').length := by simp
    have e2 : pre.length + (a :: w').length - 1 = pre.length + w'.length := by simp
    rw [e2, gD, List.getD_eq_getElem?_getD, List.getElem?_append_left hl, List.getElem?_eq_getElem hl] at q
    exact (h1 _ (List.getElem_mem hl)).2 q.2
  have ht : termRes (pre ++ (a :: w' ++ 32 :: l)) pre.length = (pre.length + (a :: w').length, [none, some (pre.length, pre.length + (a :: w').length), none]) := by
    rw [termRes_wo (by rw [e0]; exact c4)]
    unfold wordRes
    rw [hws, hnU]
    simp
  rw [scan_rest2 (ph := none) (w := some (pre.length, pre.length + (a :: w').length)) (st := none) (by rw [e0, c6]; simp) (by rw [e0]; exact c1) (by rw [e0]; exact c2) (fun q => c3 (by rw [← e0]; exact q.1)) hcol (by rw [ht]), ht]
  have he : spanT (pre ++ (a :: w' ++ 32 :: l)) (some (pre.length, pre.length + (a :: w').length)) = a :: w' := ex_mid pre (a :: w') _
  unfold restAcc
  rw [he, if_pos ⟨rfl, rfl, h3⟩]
theorem sc_op {w l : List Nat} (hw : w = cAND ∨ w = cOR) : Sc (w ++ 32 :: l) [.op w] (32 :: l) := by
  refine Sc.one (by rcases hw with rfl | rfl <;> decide) fun pre acc => ?_
  rw [op_step (by rcases hw with rfl | rfl <;> simp)]
  unfold opAcc
  rw [if_neg (fun q => by rcases hw with rfl | rfl <;> exact absurd q.1 (by decide))]
theorem sc_not {l l2 : List Nat} {t : List Tk} (h : Sc l t (cNOT ++ 32 :: l2)) (hne : t ≠ []) (ht : t.getLast? ≠ some (.op cAND)) : Sc l (t ++ [.op cNOT]) (32 :: l2) := by
  obtain ⟨m, rfl, h⟩ := h
  refine ⟨m ++ cNOT, by simp, fun pre acc => ?_⟩
  refine (h pre acc).trans ?_
  have hx : pre ++ (m ++ (cNOT ++ 32 :: l2)) = (pre ++ m) ++ (cNOT ++ 32 :: l2) := by simp
  have hs := op_step (w := cNOT) (l := l2) (pre := pre ++ m) (acc := acc ++ t) (by simp)
  rw [← hx, List.length_append] at hs
  refine .step (by simp; omega) (by rw [show cNOT.length = 3 from rfl]; omega) hs ?_
  unfold opAcc
  rw [if_neg (fun q => ?_), List.append_assoc, List.length_append, ← Nat.add_assoc]
  · exact .refl
  · have := q.2
    rw [List.getLast?_append] at this
    cases h : t.getLast? with
    | none => exact hne (List.getLast?_eq_none_iff.mp h)
    | some y => rw [h] at this; exact ht (by rw [h]; exact this)
/-- spaces ahead of the colon, or none -/
theorem sp_cases {sp : List Nat} (h : sp = [] ∨ sp = [32]) {l : List Nat} : (sp ++ 58 :: l).takeWhile Unicode.isSpace = sp ∧ (∀ c r', sp ++ 58 :: l = c :: r' → Sre.isWordUni c = false ∧ c ≠ 42) := by
  rcases h with rfl | rfl
  · refine ⟨?_, fun c r' e => by cases e; decide +kernel⟩
    rw [List.nil_append, List.takeWhile_cons, if_neg (by decide +kernel)]
  · refine ⟨?_, fun c r' e => by cases e; decide +kernel⟩
    rw [List.cons_append, List.nil_append, List.takeWhile_cons, if_pos (by decide +kernel), List.takeWhile_cons, if_neg (by decide +kernel)]
theorem NA_facts : ∀ s ∈ NAMES, (∀ c ∈ s, Sre.isWordUni c = true ∧ c ≠ 125) ∧ s ≠ [] ∧ (s.getD 0 0 ≠ 40 ∧ s.getD 0 0 ≠ 41 ∧ s.getD 0 0 ≠ 45 ∧ Unicode.isSpace (s.getD 0 0) = false) := by decide +kernel
theorem sc_col1 {nm sp l : List Nat} (hn : nm ∈ NAMES) (hsp : sp = [] ∨ sp = [32]) : Sc (nm ++ sp ++ [58] ++ l) [.col (quo nm)] l := by
  obtain ⟨h1, h4, c1, c2, c3, c6⟩ := NA_facts nm hn
  obtain ⟨hs1, hs2⟩ := sp_cases hsp (l := l)
  refine Sc.one (by simp) fun pre acc => ?_
  have hx : pre ++ (nm ++ sp ++ [58] ++ l) = pre ++ (nm ++ (sp ++ 58 :: l)) := by simp
  rw [hx]
  have e0 : (pre ++ (nm ++ (sp ++ 58 :: l))).getD pre.length 0 = nm.getD 0 0 := by
    rw [gD0]
    cases nm with
    | nil => exact absurd rfl h4
    | cons a nm => rfl
  have hpos := List.length_pos_iff.mpr h4
  have hnW : nW (pre ++ (nm ++ (sp ++ 58 :: l))).toArray pre.length = nm.length := by
    rw [nW_is, tw_app (fun c hc => (h1 c hc).1) (fun c r' e => (hs2 c r' e).1)]
  have hnS : nS (pre ++ (nm ++ (sp ++ 58 :: l))).toArray (pre.length + nm.length) = sp.length := by
    rw [nS_is, hs1]
  have hg : (pre ++ (nm ++ (sp ++ 58 :: l))).toArray.getD (pre.length + nm.length + sp.length) 0 = 58 := by
    rw [getD_arr]
    have := gD (pre := pre ++ nm ++ sp) (r := 58 :: l) 0
    simpa [Nat.add_assoc] using this
  have hr : colRes (pre ++ (nm ++ (sp ++ 58 :: l))).toArray pre.length = some (pre.length + (nm ++ sp ++ [58]).length, [some (pre.length, pre.length + nm.length), none]) := by
    unfold colRes
    rw [if_pos, hnW, hnS]
    · simp [Nat.add_assoc]
    · unfold colW
      rw [hnW, hnS]
      exact ⟨hpos, by simp; omega, hg⟩
  have hcn : colNames splitW (pre ++ (nm ++ (sp ++ 58 :: l))) [some (pre.length, pre.length + nm.length), none] = [nm] := by
    show [List.extract _ _ _] = _
    rw [ex_mid]
  have hh : colHit NAMES (pre ++ (nm ++ (sp ++ 58 :: l))) pre.length = some (pre.length + (nm ++ sp ++ [58]).length, [some (pre.length, pre.length + nm.length), none]) := by
    unfold colHit
    rw [hr]
    dsimp only
    rw [hcn, if_pos ⟨by simp, by simpa using hn⟩]
  rw [scan_col (by rw [e0, c6]; simp) (by rw [e0]; exact c1) (by rw [e0]; exact c2) (fun q => c3 (by rw [← e0]; exact q.1)) hh]
  unfold colText
  dsimp only
  rw [hcn]
  rfl
theorem split_two : ∀ a ∈ NAMES, ∀ b ∈ NAMES, splitW (a ++ 32 :: b) = [a, b] := by
  unfold splitW
  simp only [KWd.words_scan]
  decide +kernel
theorem sc_col2 {a b sp l : List Nat} (ha : a ∈ NAMES) (hb : b ∈ NAMES) (hsp : sp = [] ∨ sp = [32]) : Sc (columnsT [a, b] ++ sp ++ [58] ++ l) [.col (columnsT [quo a, quo b])] l := by
  obtain ⟨h1, h4, _⟩ := NA_facts a ha
  obtain ⟨h1', h4', _⟩ := NA_facts b hb
  obtain ⟨hs1, hs2⟩ := sp_cases hsp (l := l)
  refine Sc.one (by simp) fun pre acc => ?_
  generalize hin : a ++ 32 :: b = inn
  have hct : columnsT [a, b] = 123 :: inn ++ [125] := by rw [← hin]; simp [columnsT, joinL]
  have hx : pre ++ (columnsT [a, b] ++ sp ++ [58] ++ l) = pre ++ (123 :: inn ++ [125] ++ (sp ++ 58 :: l)) := by rw [hct]; simp
  have hi125 : ∀ c ∈ inn, c ≠ 125 := fun c hc => by
    rw [← hin] at hc
    rcases List.mem_append.mp hc with hc | hc
    · exact (h1 c hc).2
    · rcases List.mem_cons.mp hc with rfl | hc
      · decide
      · exact (h1' c hc).2
  rw [hx]
  have e0 : (pre ++ (123 :: inn ++ [125] ++ (sp ++ 58 :: l))).getD pre.length 0 = 123 := by rw [gD0]; rfl
  have hnW : nW (pre ++ (123 :: inn ++ [125] ++ (sp ++ 58 :: l))).toArray pre.length = 0 := by
    rw [nW_is, List.cons_append, List.cons_append, List.takeWhile_cons, if_neg (by decide +kernel)]; rfl
  have hnB : nB (pre ++ (123 :: inn ++ [125] ++ (sp ++ 58 :: l))).toArray (pre.length + 1) = inn.length := by
    have := nB_is pre [123] (inn ++ (125 :: (sp ++ 58 :: l)))
    rw [tw_app (a := inn) (fun c hc => by simpa using hi125 c hc) (fun c r' e => by cases e; rfl)] at this
    rw [← this]; simp
  have hnS : nS (pre ++ (123 :: inn ++ [125] ++ (sp ++ 58 :: l))).toArray (pre.length + 1 + inn.length + 1) = sp.length := by
    have := nS_is pre (123 :: inn ++ [125]) (sp ++ 58 :: l)
    rw [hs1] at this
    rw [← this]; simp; congr 1; omega
  have hg : (pre ++ (123 :: inn ++ [125] ++ (sp ++ 58 :: l))).toArray.getD (pre.length + 1 + inn.length + 1 + sp.length) 0 = 58 := by
    rw [getD_arr]
    have h := gD (pre := pre ++ (123 :: inn ++ [125]) ++ sp) (r := 58 :: l) 0
    have e1 : (pre ++ (123 :: inn ++ [125]) ++ sp).length + 0 = pre.length + 1 + inn.length + 1 + sp.length := by simp; omega
    rw [e1] at h
    rw [show pre ++ (123 :: inn ++ [125] ++ (sp ++ 58 :: l)) = pre ++ (123 :: inn ++ [125]) ++ sp ++ 58 :: l by simp, h]
    rfl
  have hsz : (pre ++ (123 :: inn ++ [125] ++ (sp ++ 58 :: l))).toArray.size = pre.length + 1 + inn.length + 1 + sp.length + 1 + l.length := by simp; omega
  have hr : colRes (pre ++ (123 :: inn ++ [125] ++ (sp ++ 58 :: l))).toArray pre.length = some (pre.length + (123 :: inn ++ [125] ++ sp ++ [58]).length, [none, some (pre.length + 1, pre.length + 1 + inn.length)]) := by
    unfold colRes
    rw [if_neg (fun q => by unfold colW at q; rw [hnW] at q; omega), if_pos, hnB, hnS]
    · congr 2; simp; omega
    · unfold colB
      rw [hnB, hnS, hsz]
      exact ⟨by omega, by rw [getD_arr, e0], by omega, by omega, hg⟩
  have hcn : colNames splitW (pre ++ (123 :: inn ++ [125] ++ (sp ++ 58 :: l))) [none, some (pre.length + 1, pre.length + 1 + inn.length)] = [a, b] := by
    show splitW (List.extract _ _ _) = _
    have := ex_mid (pre ++ [123]) inn ([125] ++ (sp ++ 58 :: l))
    rw [List.length_append] at this
    rw [show pre ++ (123 :: inn ++ [125] ++ (sp ++ 58 :: l)) = (pre ++ [123]) ++ (inn ++ ([125] ++ (sp ++ 58 :: l))) by simp]
    rw [show pre.length + 1 = pre.length + [123].length from rfl, this, ← hin]
    exact split_two a ha b hb
  have hh : colHit NAMES (pre ++ (123 :: inn ++ [125] ++ (sp ++ 58 :: l))) pre.length = some (pre.length + (123 :: inn ++ [125] ++ sp ++ [58]).length, [none, some (pre.length + 1, pre.length + 1 + inn.length)]) := by
    unfold colHit
    rw [hr]
    dsimp only
    rw [hcn, if_pos ⟨by simp, by simp [ha, hb]⟩]
  rw [scan_col (by rw [e0]; decide +kernel) (by rw [e0]; decide) (by rw [e0]; decide) (fun q => by rw [e0] at q; exact absurd q.1 (by decide)) hh]
  unfold colText
  dsimp only
  rw [hcn, hct]
  rfl
theorem sc_col {ns : List (List Nat)} {sep l : List Nat} (hn : ns.length = 1 ∨ ns.length = 2) (hm : ∀ n ∈ ns, n ∈ NAMES) (hs : sep ∈ SEPC) : Sc (columnsT ns ++ sep ++ l) [.col (columnsT (ns.map quo))] l := by
  have base : ∀ {sp l : List Nat}, (sp = [] ∨ sp = [32]) → Sc (columnsT ns ++ sp ++ [58] ++ l) [.col (columnsT (ns.map quo))] l := by
    intro sp l hsp
    match ns, hn, hm with
    | [a], _, hm => exact sc_col1 (hm a (by simp)) hsp
    | [a, b], _, hm => exact sc_col2 (hm a (by simp)) (hm b (by simp)) hsp
  simp only [SEPC, List.mem_cons, List.not_mem_nil, or_false] at hs
  rcases hs with rfl | rfl | rfl
  · have := base (sp := []) (l := l) (.inl rfl)
    simpa using this
  · have := (base (sp := []) (l := 32 :: l) (.inl rfl)).trans sc_space
    simpa using this
  · have := base (sp := [32]) (l := l) (.inr rfl)
    simpa using this
end Mine
end
section
open PySem PySem.W PyProof.Rows PySem.Calls
set_option Elab.async false
set_option linter.unusedVariables false
namespace Mine
theorem op_app (a b : List Tk) : opens (a ++ b) = opens a + opens b := by simp [opens]
theorem op_nil : opens [] = 0 := rfl
def endR (r : List Tk) : Prop := ∀ t r', r = t :: r' → t = .rp
def endG (r : List Tk) : Prop := ∀ t r', r = t :: r' → t = .rp ∨ t = .op cOR
def noNot (r : List Tk) : Prop := ∀ t r', r = t :: r' → t ≠ .op cNOT
theorem endR.g {r} (h : endR r) : endG r := fun t r' e => .inl (h t r' e)
theorem endG.n {r} (h : endG r) : noNot r := fun t r' e => by rcases h t r' e with rfl | rfl <;> decide
theorem g0 {pre r : List Tk} (k : Nat) : (pre ++ r)[pre.length + k]? = r[k]? := by rw [List.getElem?_append_right (by omega)]; congr 1; omega
/-- what is written between brackets -/
def PAny (tk : List Tk) (nd : Nd) : Prop := ∀ pre rest d, opens tk ≤ d → endR rest → orD (pre ++ (tk ++ rest)) (d + 1) pre.length = (some nd, pre.length + tk.length)
inductive PCore : List Tk → Nd → Prop where
  | t {s} : PCore [.term s] (.t s)
  | par {tk nd} : PAny tk nd → PCore (.lp :: (tk ++ [.rp])) nd
inductive PAsked : List Tk → Nd → Prop where
  | mk {c tk nd} : c ≠ [] → PCore tk nd → PAsked (.col c :: tk) (.col c nd)
inductive PAtom : List Tk → Nd → Prop where
  | core {tk nd} : PCore tk nd → PAtom tk nd
  | asked {tk nd} : PAsked tk nd → PAtom tk nd
inductive PPart : List Tk → Nd → Prop where
  | atom {tk nd} : PAtom tk nd → PPart tk nd
  | not {a na b nb} : PCore a na → PCore b nb → PPart (a ++ .op cNOT :: b) (.not na [nb])
inductive Item : List Tk → Nd → Bool → Prop where
  | pos {tk nd} : PPart tk nd → Item tk nd false
  | neg {tk nd} : PAtom tk nd → Item (.neg :: tk) nd true
/-- what an operand begins with -/
def isSt : Tk → Bool
  | .rp => false
  | .op _ => false
  | _ => true
def isSt2 : Tk → Bool
  | .term _ => true
  | .lp => true
  | _ => false
theorem PCore.start {tk nd} (h : PCore tk nd) : ∃ t r, tk = t :: r ∧ isSt2 t = true := by cases h <;> exact ⟨_, _, rfl, rfl⟩
theorem PAtom.start {tk nd} (h : PAtom tk nd) : ∃ t r, tk = t :: r ∧ isSt t = true ∧ t ≠ .neg := by
  cases h with
  | core h => obtain ⟨t, r, rfl, ht⟩ := h.start; exact ⟨t, r, rfl, (by cases t <;> first | rfl | cases ht), (by rintro rfl; cases ht)⟩
  | asked h => cases h; exact ⟨_, _, rfl, rfl, by simp⟩
theorem PPart.start {tk nd} (h : PPart tk nd) : ∃ t r, tk = t :: r ∧ isSt t = true := by
  cases h with
  | atom h => obtain ⟨t, r, rfl, ht, _⟩ := h.start; exact ⟨t, r, rfl, ht⟩
  | not h _ => obtain ⟨t, r, rfl, ht⟩ := h.start; exact ⟨t, _, rfl, by cases t <;> first | rfl | cases ht⟩
theorem Item.start {tk nd ng} (h : Item tk nd ng) : ∃ t r, tk = t :: r ∧ isSt t = true := by
  cases h with
  | pos h => exact h.start
  | neg h => exact ⟨_, _, rfl, rfl⟩
theorem core_run {tk nd} (h : PCore tk nd) (pre rest : List Tk) (d : Nat) (cs : Option (List Nat)) (neg : Bool) (hd : opens tk ≤ d) :
    atomTail (pre ++ (tk ++ rest)) (orD (pre ++ (tk ++ rest)) d) cs neg pre.length = ((colNd cs (some nd), neg), pre.length + tk.length) := by
  cases h with
  | @t s =>
    unfold atomTail
    rw [show (pre ++ ([Tk.term s] ++ rest))[pre.length]? = some (.term s) from g0 0]
    rfl
  | @par tk nd h =>
    have ho : opens (Tk.lp :: (tk ++ [.rp])) = opens tk + 1 := by simp [opens]
    obtain ⟨d, rfl⟩ : ∃ d', d = d' + 1 := ⟨d - 1, by omega⟩
    have h1 := h (pre ++ [.lp]) (.rp :: rest) d (by omega) (fun t r' e => by cases e; rfl)
    have hx : pre ++ [Tk.lp] ++ (tk ++ .rp :: rest) = pre ++ (.lp :: (tk ++ [.rp]) ++ rest) := by simp
    rw [hx, List.length_append] at h1
    have h2 : (pre ++ (.lp :: (tk ++ [.rp]) ++ rest))[pre.length + 1 + tk.length]? = some .rp := by
      have := g0 (pre := pre ++ [.lp] ++ tk) (r := .rp :: rest) 0
      rw [show (pre ++ [Tk.lp] ++ tk).length + 0 = pre.length + 1 + tk.length by simp; omega] at this
      rw [← hx, ← List.append_assoc, this]; rfl
    generalize hT : pre ++ (Tk.lp :: (tk ++ [.rp]) ++ rest) = T at *
    unfold atomTail
    rw [show T[pre.length]? = some .lp by rw [← hT]; exact g0 0]
    dsimp only
    rw [show pre.length + [Tk.lp].length = pre.length + 1 from rfl] at h1
    rw [h1]
    dsimp only
    rw [h2]
    have hl : pre.length + 1 + tk.length + 1 = pre.length + (Tk.lp :: (tk ++ [.rp])).length := by simp; omega
    rw [← hl]
    rfl
theorem atom_run {tk nd} (h : PAtom tk nd) (pre rest : List Tk) (d : Nat) (ng : Bool) (hd : opens tk ≤ d) :
    atomF (pre ++ ((if ng then [Tk.neg] else []) ++ (tk ++ rest))) (orD (pre ++ ((if ng then [Tk.neg] else []) ++ (tk ++ rest))) d) pre.length = ((some nd, ng), pre.length + (if ng then [Tk.neg] else []).length + tk.length) := by
  obtain ⟨t0, r0, e0, hs, hn⟩ := h.start
  have hx : pre ++ ((if ng then [Tk.neg] else []) ++ (tk ++ rest)) = (pre ++ (if ng then [Tk.neg] else [])) ++ (tk ++ rest) := by simp
  have h1 : ((pre ++ ((if ng then [Tk.neg] else []) ++ (tk ++ rest)))[pre.length]? == some Tk.neg) = ng := by
    rw [show (pre ++ ((if ng then [Tk.neg] else []) ++ (tk ++ rest)))[pre.length]? = _ from g0 0]
    cases ng with
    | true => rfl
    | false =>
      subst e0
      show (some t0 == some Tk.neg) = false
      simpa using hn
  have h2 : (if ng = true then pre.length + 1 else pre.length) = (pre ++ (if ng then [Tk.neg] else [])).length := by cases ng <;> simp
  have hl : pre.length + (if ng then [Tk.neg] else []).length = (pre ++ (if ng then [Tk.neg] else [])).length := by simp
  rw [hl]
  cases h with
  | core h =>
    obtain ⟨t, r, e, ht⟩ := h.start
    rw [atom_none h1 h2 (fun c => ?_), hx]
    · exact core_run h _ rest d none ng hd
    · rw [hx, show ((pre ++ (if ng then [Tk.neg] else [])) ++ (tk ++ rest))[(pre ++ (if ng then [Tk.neg] else [])).length]? = _ from g0 0, e]
      show some t ≠ some (Tk.col c)
      intro q
      cases q
      cases ht
  | asked h =>
    cases h with
    | @mk c tk nd hc h =>
      obtain ⟨t, r, e, ht⟩ := h.start
      have hy : pre ++ ((if ng then [Tk.neg] else []) ++ (.col c :: tk ++ rest)) = (pre ++ (if ng then [Tk.neg] else []) ++ [Tk.col c]) ++ (tk ++ rest) := by simp
      have h3 : (pre ++ ((if ng then [Tk.neg] else []) ++ (.col c :: tk ++ rest)))[(pre ++ (if ng then [Tk.neg] else [])).length]? = some (.col c) := by
        rw [hx]; exact g0 0
      have h4 : ((pre ++ ((if ng then [Tk.neg] else []) ++ (.col c :: tk ++ rest)))[(pre ++ (if ng then [Tk.neg] else [])).length + 1]? == some Tk.neg) = false := by
        rw [hx, g0 1, e]
        show (some t == some Tk.neg) = false
        cases t <;> first | rfl | cases ht
      rw [atom_some h1 h2 h3 h4 (p3 := (pre ++ (if ng then [Tk.neg] else []) ++ [Tk.col c]).length) (by simp; omega), hy, Bool.or_false]
      have ho : opens (Tk.col c :: tk) = opens tk := by simp [opens]
      rw [core_run h _ rest d (some c) ng (by omega)]
      unfold colNd
      simp [hc]
      omega
theorem not_stop {toks : List Tk} {orF : Nat → Option Nd × Nat} {f : Nat} {nd : Option Nd} {q : Nat} (h : toks[q]? ≠ some (.op cNOT)) : notLoop toks orF f nd q = (nd, q) := by
  cases f with
  | zero => rfl
  | succ f =>
    rw [notLoop]
    rw [if_neg (by simpa using h)]
theorem noNot.get {r : List Tk} (h : noNot r) : r[0]? ≠ some (.op cNOT) := by
  cases r with
  | nil => simp
  | cons t r => intro q; exact h t r rfl (by simpa using q)
theorem not_atom {tk nd} (h : PAtom tk nd) (pre rest : List Tk) (d : Nat) (ng : Bool) (hd : opens tk ≤ d) (hn : noNot rest) :
    notF (pre ++ ((if ng then [Tk.neg] else []) ++ (tk ++ rest))) (orD (pre ++ ((if ng then [Tk.neg] else []) ++ (tk ++ rest))) d) pre.length = ((some nd, ng), pre.length + (if ng then [Tk.neg] else []).length + tk.length) := by
  unfold notF
  rw [atom_run h pre rest d ng hd]
  dsimp only
  rw [not_stop]
  have := g0 (pre := pre ++ (if ng then [Tk.neg] else []) ++ tk) (r := rest) 0
  rw [show (pre ++ (if ng then [Tk.neg] else []) ++ tk).length + 0 = pre.length + (if ng then [Tk.neg] else []).length + tk.length by simp; omega, List.append_assoc, List.append_assoc] at this
  rw [this]
  exact hn.get
theorem part_run {tk nd} (h : PPart tk nd) (pre rest : List Tk) (d : Nat) (hd : opens tk ≤ d) (hn : noNot rest) :
    notF (pre ++ (tk ++ rest)) (orD (pre ++ (tk ++ rest)) d) pre.length = ((some nd, false), pre.length + tk.length) := by
  cases h with
  | atom h => exact not_atom h pre rest d false hd hn
  | @not a na b nb ha hb =>
    have ho : opens (a ++ .op cNOT :: b) = opens a + opens b := by simp [opens]
    have h1 := atom_run (.core ha) pre (.op cNOT :: b ++ rest) d false (by omega)
    have h2 := atom_run (.core hb) (pre ++ a ++ [.op cNOT]) rest d false (by omega)
    simp only [Bool.false_eq_true, if_false, List.nil_append, List.length_nil, Nat.add_zero] at h1 h2
    have e1 : pre ++ (a ++ (.op cNOT :: b ++ rest)) = pre ++ (a ++ .op cNOT :: b ++ rest) := by simp
    have e2 : pre ++ a ++ [.op cNOT] ++ (b ++ rest) = pre ++ (a ++ .op cNOT :: b ++ rest) := by simp
    rw [e1] at h1
    rw [e2] at h2
    have h3 : (pre ++ (a ++ .op cNOT :: b ++ rest))[pre.length + a.length]? = some (.op cNOT) := by
      have := g0 (pre := pre ++ a) (r := .op cNOT :: b ++ rest) 0
      rw [← e1, ← List.append_assoc, ← List.length_append]
      exact this
    have h4 : (pre ++ (a ++ .op cNOT :: b ++ rest))[(pre ++ a ++ [Tk.op cNOT]).length + b.length]? ≠ some (.op cNOT) := by
      have := g0 (pre := pre ++ a ++ [.op cNOT] ++ b) (r := rest) 0
      rw [← e2, ← List.append_assoc, ← List.length_append]
      rw [Nat.add_zero] at this
      rw [this]
      exact hn.get
    generalize pre ++ (a ++ .op cNOT :: b ++ rest) = T at *
    unfold notF
    rw [h1]
    dsimp only
    have hl : (pre ++ a ++ [Tk.op cNOT]).length = pre.length + a.length + 1 := by simp; omega
    rw [hl] at h2 h4
    rw [notLoop, if_pos (by rw [h3]; rfl), h2]
    dsimp only
    rw [not_stop h4]
    simp
    omega
end Mine
end
section
open PySem PySem.W PyProof.Rows PySem.Calls
set_option Elab.async false
set_option linter.unusedVariables false
namespace Mine
/-- operands one behind the other, AND between them or not -/
inductive RunI : List (Nd × Bool) → List Tk → Prop where
  | nil : RunI [] []
  | cons {l t tk nd ng} (s : Bool) : Item tk nd ng → RunI l t → RunI ((nd, ng) :: l) ((if s then [Tk.op cAND] else []) ++ (tk ++ t))
def posL : List (Nd × Bool) → List Nd
  | [] => []
  | (nd, false) :: l => nd :: posL l
  | (_, true) :: l => posL l
def negL : List (Nd × Bool) → List Nd
  | [] => []
  | (_, false) :: l => negL l
  | (nd, true) :: l => nd :: negL l
theorem RunI.one {tk nd ng} (h : Item tk nd ng) : RunI [(nd, ng)] tk := by
  have := RunI.cons false h .nil
  simpa using this
theorem RunI.snoc {l t tk nd ng} (s : Bool) (h : RunI l t) (i : Item tk nd ng) : RunI (l ++ [(nd, ng)]) (t ++ ((if s then [Tk.op cAND] else []) ++ tk)) := by
  induction h with
  | nil =>
    have := RunI.cons s i .nil
    simpa using this
  | cons s' i' _ ih =>
    have := RunI.cons s' i' ih
    simpa using this
theorem RunI.noNot {l t} (h : RunI l t) {rest : List Tk} (hr : endG rest) : noNot (t ++ rest) := by
  cases h with
  | nil => exact hr.n
  | cons s i _ =>
    obtain ⟨t0, r, rfl, hs⟩ := i.start
    intro t' r' e
    cases s with
    | true =>
      simp only [if_true, List.cons_append, List.nil_append] at e
      cases e; decide
    | false =>
      simp only [Bool.false_eq_true, if_false, List.cons_append, List.nil_append] at e
      cases e
      rintro rfl; cases hs
theorem item_run {tk nd ng} (h : Item tk nd ng) (pre rest : List Tk) (d : Nat) (hd : opens tk ≤ d) (hn : Mine.noNot rest) :
    notF (pre ++ (tk ++ rest)) (orD (pre ++ (tk ++ rest)) d) pre.length = ((some nd, ng), pre.length + tk.length) := by
  cases h with
  | pos h => exact part_run h pre rest d hd hn
  | @neg tk nd h =>
    have := not_atom h pre rest d true (by simpa [opens] using hd) hn
    simp only [if_true] at this
    have e : pre ++ ([Tk.neg] ++ (tk ++ rest)) = pre ++ (.neg :: tk ++ rest) := by simp
    rw [e] at this
    rw [this]
    simp
    omega
theorem and_run {l t} (h : RunI l t) : ∀ (pre rest : List Tk) (d : Nat) (ps ns : List Nd) (f : Nat), opens t ≤ d → endG rest → t.length < f →
    andLoop (pre ++ (t ++ rest)) (orD (pre ++ (t ++ rest)) d) f ps ns pre.length = ((ps ++ posL l, ns ++ negL l), pre.length + t.length) := by
  induction h with
  | nil =>
    intro pre rest d ps ns f hd hr hf
    obtain ⟨f, rfl⟩ : ∃ f', f = f' + 1 := ⟨f - 1, by omega⟩
    rw [andLoop, show (pre ++ ([] ++ rest))[pre.length]? = rest[0]? from g0 0]
    cases rest with
    | nil => simp [posL, negL]
    | cons t r =>
      rcases hr t r rfl with rfl | rfl
      · simp [posL, negL]
      · simp [posL, negL]
  | @cons l t tk nd ng s i hrun ih =>
    intro pre rest d ps ns f hd hr hf
    obtain ⟨t0, r0, e0, hs⟩ := i.start
    have hpos : 0 < tk.length := by rw [e0]; simp
    have ho : opens tk + opens t ≤ d := by
      rw [op_app, op_app] at hd
      omega
    -- without the AND
    have main : ∀ (pre : List Tk) (f : Nat), (tk ++ t).length < f → andLoop (pre ++ (tk ++ t ++ rest)) (orD (pre ++ (tk ++ t ++ rest)) d) f ps ns pre.length = ((ps ++ posL ((nd, ng) :: l), ns ++ negL ((nd, ng) :: l)), pre.length + (tk ++ t).length) := by
      intro pre f hf
      obtain ⟨f, rfl⟩ : ∃ f', f = f' + 1 := ⟨f - 1, by omega⟩
      have h1 := item_run i pre (t ++ rest) d (by omega) (hrun.noNot hr)
      have e1 : pre ++ (tk ++ (t ++ rest)) = pre ++ (tk ++ t ++ rest) := by simp
      rw [e1] at h1
      have h2 := fun ps ns => ih (pre ++ tk) rest d ps ns f (by omega) hr (by simp at hf; omega)
      have e2 : pre ++ tk ++ (t ++ rest) = pre ++ (tk ++ t ++ rest) := by simp
      rw [e2] at h2
      have h3 : (pre ++ (tk ++ t ++ rest))[pre.length]? = some t0 := by
        rw [show (pre ++ (tk ++ t ++ rest))[pre.length]? = _ from g0 0, e0]; rfl
      generalize pre ++ (tk ++ t ++ rest) = T at *
      rw [List.length_append] at h2
      rw [andLoop, h3]
      have hl : pre.length + (tk ++ t).length = pre.length + tk.length + t.length := by simp; omega
      rw [hl]
      cases t0 with
      | rp => cases hs
      | op w => cases hs
      | lp => dsimp only; rw [h1]; dsimp only; cases ng <;> simp [h2, posL, negL]
      | neg => dsimp only; rw [h1]; dsimp only; cases ng <;> simp [h2, posL, negL]
      | col c => dsimp only; rw [h1]; dsimp only; cases ng <;> simp [h2, posL, negL]
      | term c => dsimp only; rw [h1]; dsimp only; cases ng <;> simp [h2, posL, negL]
    cases s with
    | false =>
      have := main pre f (by simpa using hf)
      simpa using this
    | true =>
      obtain ⟨f, rfl⟩ : ∃ f', f = f' + 1 := ⟨f - 1, by omega⟩
      have h1 := main (pre ++ [.op cAND]) f (by simp at hf ⊢; omega)
      have e1 : pre ++ [Tk.op cAND] ++ (tk ++ t ++ rest) = pre ++ ((if true = true then [Tk.op cAND] else []) ++ (tk ++ t) ++ rest) := by simp
      rw [e1] at h1
      have h3 : (pre ++ ((if true = true then [Tk.op cAND] else []) ++ (tk ++ t) ++ rest))[pre.length]? = some (.op cAND) := by
        rw [show (pre ++ ((if true = true then [Tk.op cAND] else []) ++ (tk ++ t) ++ rest))[pre.length]? = _ from g0 0]; rfl
      generalize pre ++ ((if true = true then [Tk.op cAND] else []) ++ (tk ++ t) ++ rest) = T at *
      rw [andLoop, h3]
      dsimp only
      rw [if_neg (by decide)]
      rw [List.length_append, show [Tk.op cAND].length = 1 from rfl] at h1
      rw [h1]
      simp
      omega
/-- what _parse_and gives -/
def andNd (ps ns : List Nd) : Option Nd := match ps with
  | [] => none
  | [x] => some (if ns = [] then x else .not x ns)
  | _ => some (if ns = [] then .and ps else .not (.and ps) ns)
def PGroup (tk : List Tk) (nd : Nd) : Prop := ∀ pre rest d, opens tk ≤ d → endG rest → andF (pre ++ (tk ++ rest)) (orD (pre ++ (tk ++ rest)) d) pre.length = (some nd, pre.length + tk.length)
theorem group_run {l t nd} (h : RunI l t) (hn : andNd (posL l) (negL l) = some nd) : PGroup t nd := by
  intro pre rest d hd hr
  unfold andF
  rw [and_run h pre rest d [] [] _ hd hr (by simp; omega)]
  dsimp only
  simp only [List.nil_append]
  rw [← hn]
  unfold andNd
  rcases posL l with _ | ⟨x, _ | ⟨y, r⟩⟩ <;> rfl
/-- groups, OR ahead of each -/
inductive RunT : List Nd → List Tk → Prop where
  | nil : RunT [] []
  | cons {tk nd l t} : PGroup tk nd → RunT l t → RunT (nd :: l) (.op cOR :: (tk ++ t))
theorem RunT.endG {l t} (h : RunT l t) {rest : List Tk} (hr : endR rest) : endG (t ++ rest) := by
  cases h with
  | nil => exact hr.g
  | cons _ _ => intro t r e; cases e; exact .inr rfl
theorem or_run {l t} (h : RunT l t) : ∀ (pre rest : List Tk) (d : Nat) (acc : List (Option Nd)) (f : Nat), opens t ≤ d → endR rest → t.length < f →
    orLoop (pre ++ (t ++ rest)) (orD (pre ++ (t ++ rest)) d) f acc pre.length = (acc ++ l.map some, pre.length + t.length) := by
  induction h with
  | nil =>
    intro pre rest d acc f hd hr hf
    obtain ⟨f, rfl⟩ : ∃ f', f = f' + 1 := ⟨f - 1, by omega⟩
    rw [orLoop, show (pre ++ ([] ++ rest))[pre.length]? = rest[0]? from g0 0, if_neg]
    · simp
    · cases rest with
      | nil => simp
      | cons t r => cases hr t r rfl; simp
  | @cons tk nd l t g hrun ih =>
    intro pre rest d acc f hd hr hf
    obtain ⟨f, rfl⟩ : ∃ f', f = f' + 1 := ⟨f - 1, by omega⟩
    have ho : opens (Tk.op cOR :: (tk ++ t)) = opens tk + opens t := by simp [opens]
    have h1 := g (pre ++ [.op cOR]) (t ++ rest) d (by omega) (hrun.endG hr)
    have e1 : pre ++ [Tk.op cOR] ++ (tk ++ (t ++ rest)) = pre ++ (.op cOR :: (tk ++ t) ++ rest) := by simp
    have h2 := fun acc => ih (pre ++ [.op cOR] ++ tk) rest d acc f (by omega) hr (by simp at hf; omega)
    have e2 : pre ++ [Tk.op cOR] ++ tk ++ (t ++ rest) = pre ++ (.op cOR :: (tk ++ t) ++ rest) := by simp
    rw [e1] at h1
    rw [e2] at h2
    have h3 : (pre ++ (Tk.op cOR :: (tk ++ t) ++ rest))[pre.length]? = some (.op cOR) := g0 0
    generalize pre ++ (Tk.op cOR :: (tk ++ t) ++ rest) = T at *
    rw [List.length_append, show [Tk.op cOR].length = 1 from rfl] at h1
    have hl : (pre ++ [Tk.op cOR] ++ tk).length = pre.length + 1 + tk.length := by simp; omega
    rw [hl] at h2
    rw [orLoop, h3, if_pos (by rfl), h1]
    dsimp only
    rw [h2]
    simp
    omega
def orNd (nd : Nd) (l : List Nd) : Nd := match l with
  | [] => nd
  | _ => .or (nd :: l)
theorem any_run {tk nd l t} (g : PGroup tk nd) (h : RunT l t) : PAny (tk ++ t) (orNd nd l) := by
  intro pre rest d hd hr
  rw [op_app] at hd
  show orStep _ _ _ = _
  have h1 := g pre (t ++ rest) d (by omega) (h.endG hr)
  have h2 := or_run h (pre ++ tk) rest d [some nd] ((pre ++ tk ++ (t ++ rest)).length + 1) (by omega) hr (by simp; omega)
  have e1 : pre ++ (tk ++ (t ++ rest)) = pre ++ (tk ++ t ++ rest) := by simp
  have e2 : pre ++ tk ++ (t ++ rest) = pre ++ (tk ++ t ++ rest) := by simp
  rw [e1] at h1
  rw [e2] at h2
  rw [show (pre ++ tk).length = pre.length + tk.length by simp] at h2
  unfold orStep
  rw [h1]
  dsimp only
  rw [h2]
  dsimp only
  have e3 : ([some nd] ++ l.map some).filterMap id = nd :: l := by
    have : ∀ l : List Nd, (l.map some).filterMap id = l := by
      intro l
      induction l with
      | nil => rfl
      | cons a l ih => simp [ih]
    simp [this]
  rw [e3]
  unfold orNd
  cases l with
  | nil => simp; omega
  | cons a l => simp; omega
/-- brackets that fit -/
def Bal (tk : List Tk) : Prop := ∀ rest depth, depth + opens tk ≤ 32 → balLoop (tk ++ rest) depth 0 = tk ++ balLoop rest depth 0
theorem Bal.nil : Bal [] := fun rest depth _ => rfl
theorem Bal.app {a b} (h : Bal a) (g : Bal b) : Bal (a ++ b) := fun rest depth hd => by
  rw [op_app] at hd
  rw [List.append_assoc, h _ _ (by omega), g _ _ (by omega), List.append_assoc]
theorem Bal.one {t : Tk} (h1 : t ≠ .lp) (h2 : t ≠ .rp) : Bal [t] := fun rest depth _ => by
  cases t with
  | lp => exact absurd rfl h1
  | rp => exact absurd rfl h2
  | _ => rfl
theorem Bal.cons {t : Tk} {a} (h1 : t ≠ .lp) (h2 : t ≠ .rp) (h : Bal a) : Bal (t :: a) := (Bal.one h1 h2).app h
theorem Bal.par {a} (h : Bal a) : Bal (.lp :: (a ++ [.rp])) := fun rest depth hd => by
  have ho : opens (Tk.lp :: (a ++ [.rp])) = opens a + 1 := by simp [opens]
  have e : Tk.lp :: (a ++ [.rp]) ++ rest = .lp :: (a ++ .rp :: rest) := by simp
  rw [e, balLoop, if_neg (by omega), h _ _ (by omega), balLoop, if_neg (by simp), if_neg (by omega)]
  simp
theorem bal_all' {tk} (h : Bal tk) (ho : opens tk ≤ 32) : balance tk = tk := by
  unfold balance
  have := h [] 0 (by omega)
  rw [List.append_nil] at this
  rw [this]
  simp [balLoop]
/-- the tree of the query -/
theorem tree_run {tk nd} (h : PAny tk nd) (hne : tk ≠ []) : treeOf tk = some nd := by
  unfold treeOf
  have hpos := List.length_pos_iff.mpr hne
  have h1 := h [] [] (opens tk) (Nat.le_refl _) (fun t r e => by cases e)
  simp only [List.nil_append, List.append_nil, List.length_nil, Nat.zero_add] at h1
  obtain ⟨f, hf⟩ : ∃ f, tk.length = f + 1 := ⟨tk.length - 1, by omega⟩
  rw [hf, transLoop, if_pos hpos, h1]
  dsimp only
  rw [if_neg (by omega)]
  cases f with
  | zero => rfl
  | succ f => rw [transLoop, if_neg (by omega)]; rfl
mutual
/-- the node of a tree -/
def ndOf : LT → Nd
  | .t s => .t s
  | .w s st => .t (34 :: s ++ 34 :: st)
  | .col ns t => .col (columnsT (ns.map quo)) (ndOf t)
  | .and l => .and (ndsOf l)
  | .or l => .or (ndsOf l)
  | .not t l => .not (ndOf t) (ndsOf l)
def ndsOf : List LT → List Nd
  | [] => []
  | x :: l => ndOf x :: ndsOf l
end
theorem joinL_cons {sep : List Nat} (x : List Nat) {l : List (List Nat)} (h : l ≠ []) : joinL sep (x :: l) = x ++ sep ++ joinL sep l := by
  cases l with
  | nil => exact absurd rfl h
  | cons y l => simp [joinL]
mutual
theorem render_is : ∀ {d : Nat} {t : LT} (b : Bool), goodT d t → renderN b (ndOf t) = qText b t
  | _, .t s, b, _ => by simp [ndOf, renderN, qText]
  | _, .w s st, b, _ => by simp [ndOf, renderN, qText]
  | 0, .col _ _, _, h => h.elim
  | 0, .and _, _, h => h.elim
  | 0, .or _, _, h => h.elim
  | 0, .not _ _, _, h => h.elim
  | d + 1, .col ns t, b, h => by
    simp only [ndOf, renderN, qText, render_is true h.2.2]
  | d + 1, .and l, b, h => by
    simp only [ndOf, renderN, qText, renderJ_is, renders_is h.2]
  | d + 1, .or l, b, h => by
    simp only [ndOf, renderN, qText, renderJ_is, renders_is h.2]
  | d + 1, .not t l, b, h => by
    have hne : qTexts l ≠ [] := by
      have := h.2.1
      cases l with
      | nil => simp at this
      | cons x l => simp [qTexts]
    simp only [ndOf, renderN, qText, renderJ_is, renders_is h.2.2, render_is true h.1, joinL_cons _ hne]
theorem renders_is : ∀ {d : Nat} {l : List LT}, goodL d l → (ndsOf l).map (renderN true) = qTexts l
  | _, [], _ => rfl
  | d, x :: l, h => by simp only [ndsOf, List.map_cons, qTexts, render_is true h.1, renders_is h.2]
end
end Mine
end
section
open PySem PySem.W PyProof.Rows PySem.Calls
set_option Elab.async false
set_option linter.unusedVariables false
namespace Mine
/-- a text and its signs -/
structure Bs (B : Nat) (x : List Nat) (tk : List Tk) : Prop where
  sc : ∀ rest, okR rest → Sc (x ++ rest) tk rest
  hd : ∃ c r, x = c :: r ∧ Unicode.isSpace c = false
  ne : tk ≠ []
  last : tk.getLast? ≠ some (.op cAND)
  ops : opens tk ≤ B
  bal : Bal tk
  len : tk.length ≤ x.length
  col : ∀ c, Tk.col c ∈ tk → c.length ≤ 20
  asc : AscL x
theorem Bs.le {B B' x tk} (h : Bs B x tk) (hB : B ≤ B') : Bs B' x tk := { h with ops := Nat.le_trans h.ops hB }
/-- what stands between two operands -/
structure SepOk (sep : List Nat) (st : List Tk) : Prop where
  hd : ∃ r, sep = 32 :: r
  sc : ∀ l t z, Sc l t (sep ++ z) → t ≠ [] → t.getLast? ≠ some (.op cAND) → Sc l (t ++ st) z
  ops : opens st = 0
  bal : Bal st
  len : st.length ≤ sep.length
  col : ∀ c, Tk.col c ∉ st
  asc : AscL sep
theorem sep_32 : SepOk [32] [] := ⟨⟨_, rfl⟩, fun l t z h _ _ => h.trans sc_space, rfl, .nil, by simp, fun c h => (by cases h), by unfold AscL; decide⟩
theorem sep_3232 : SepOk [32, 32] [] := ⟨⟨_, rfl⟩, fun l t z h _ _ => by
  have h1 : Sc (([32, 32] : List Nat) ++ z) [] z := Sc.trans (l1 := 32 :: z) (sc_space (l := 32 :: z)) sc_space
  exact h.trans h1, rfl, .nil, by simp, fun c h => (by cases h), by unfold AscL; decide⟩
theorem sep_op {w : List Nat} (hw : w = cAND ∨ w = cOR) : SepOk (32 :: w ++ [32]) [.op w] := ⟨⟨_, rfl⟩, fun l t z h _ _ => by
  have h1 : Sc (32 :: (w ++ 32 :: z)) [.op w] z := by
    have := (sc_space (l := w ++ 32 :: z)).trans ((sc_op hw).trans sc_space)
    simpa using this
  have e : 32 :: w ++ [32] ++ z = 32 :: (w ++ 32 :: z) := by simp
  rw [e] at h
  exact h.trans h1, by simp [opens], .one (by simp) (by simp), by simp, fun c h => by simp at h, by rcases hw with rfl | rfl <;> (unfold AscL; decide)⟩
theorem sep_not : SepOk tNOT [.op cNOT] := ⟨⟨_, rfl⟩, fun l t z h h1 h2 => by
  have e : tNOT ++ z = 32 :: (cNOT ++ 32 :: z) := rfl
  rw [e] at h
  have h3 : Sc l t (cNOT ++ 32 :: z) := by
    have := h.trans sc_space
    simpa using this
  have := (sc_not h3 h1 h2).trans sc_space
  simpa using this, rfl, .one (by simp) (by simp), by decide, fun c h => by simp at h, by unfold AscL; decide⟩
theorem sepJ {sep : List Nat} (h : sep ∈ SEPJ) : ∃ s : Bool, SepOk sep (if s then [Tk.op cAND] else []) := by
  simp only [SEPJ, List.mem_cons, List.not_mem_nil, or_false] at h
  rcases h with rfl | rfl | rfl
  · exact ⟨false, sep_32⟩
  · exact ⟨true, sep_op (.inl rfl)⟩
  · exact ⟨false, sep_3232⟩
theorem PC_asc : ∀ s ∈ PARC, ∀ c ∈ s, c < 128 := by decide
theorem SC_asc : ∀ s ∈ SEPC, ∀ c ∈ s, c < 128 := by decide
theorem okR_32 {r : List Nat} : okR (32 :: r) := fun c r' e => by cases e; exact .inl rfl
theorem Bs.sep {B1 B2 x y sep tk1 tk2 st} (h : Bs B1 x tk1) (s : SepOk sep st) (g : Bs B2 y tk2) : Bs (B1 + B2) (x ++ sep ++ y) (tk1 ++ st ++ tk2) where
  sc := fun rest hr => by
    obtain ⟨r, hs⟩ := s.hd
    have h1 := h.sc (sep ++ (y ++ rest)) (by rw [hs]; exact okR_32)
    have h2 := (s.sc _ _ _ h1 h.ne h.last).trans (g.sc rest hr)
    simpa using h2
  hd := by
    obtain ⟨c, r, rfl, hc⟩ := h.hd
    exact ⟨c, _, rfl, hc⟩
  ne := by simp [g.ne]
  last := by
    rw [List.getLast?_append]
    cases e : tk2.getLast? with
    | none => exact absurd (List.getLast?_eq_none_iff.mp e) g.ne
    | some y => rw [← e]; have := g.last; rw [e] at this ⊢; exact this
  ops := by have h1 := h.ops; have h2 := g.ops; have h3 := s.ops; rw [op_app, op_app]; omega
  bal := (h.bal.app s.bal).app g.bal
  len := by have h1 := h.len; have h2 := g.len; have h3 := s.len; simp only [List.length_append]; omega
  col := fun c hc => by
    rcases List.mem_append.mp hc with hc | hc
    · rcases List.mem_append.mp hc with hc | hc
      · exact h.col c hc
      · exact absurd hc (s.col c)
    · exact g.col c hc
  asc := fun c hc => by
    rcases List.mem_append.mp hc with hc | hc
    · rcases List.mem_append.mp hc with hc | hc
      · exact h.asc c hc
      · exact s.asc c hc
    · exact g.asc c hc
theorem Bs.neg {B x tk} (h : Bs B x tk) : Bs B (45 :: x) (.neg :: tk) where
  sc := fun rest hr => by
    obtain ⟨c, r, rfl, hc⟩ := h.hd
    have := (sc_neg (c := c) (r := r ++ rest) hc).trans (h.sc rest hr)
    simpa using this
  hd := ⟨45, x, rfl, by decide +kernel⟩
  ne := by simp
  last := by
    have := h.last
    rw [List.getLast?_cons]
    cases e : tk.getLast? with
    | none => exact absurd (List.getLast?_eq_none_iff.mp e) h.ne
    | some y => rw [e] at this; simpa using this
  ops := by have h1 := h.ops; have e : opens (Tk.neg :: tk) = opens tk := by simp [opens]
            omega
  bal := h.bal.cons (by simp) (by simp)
  len := by have := h.len; simp; omega
  col := fun c hc => by
    rcases List.mem_cons.mp hc with hc | hc
    · cases hc
    · exact h.col c hc
  asc := fun c hc => by
    rcases List.mem_cons.mp hc with rfl | hc
    · decide
    · exact h.asc c hc
theorem Bs.par {B x tk c} (h : Bs B x tk) (hc : c ∈ PARC) : Bs (B + 1) (40 :: x ++ c) (.lp :: (tk ++ [.rp])) where
  sc := fun rest hr => by
    have h1 := h.sc (c ++ rest) (by
      simp only [PARC, List.mem_cons, List.not_mem_nil, or_false] at hc
      rcases hc with rfl | rfl
      · intro c r' e; cases e; exact .inr rfl
      · exact okR_32)
    have h2 : Sc (c ++ rest) [.rp] rest := by
      simp only [PARC, List.mem_cons, List.not_mem_nil, or_false] at hc
      rcases hc with rfl | rfl
      · exact sc_rp
      · have := (sc_space (l := 41 :: rest)).trans sc_rp
        simpa using this
    have := (sc_lp (l := x ++ (c ++ rest))).trans (h1.trans h2)
    simpa using this
  hd := ⟨40, _, rfl, by decide +kernel⟩
  ne := by simp
  last := by simp [List.getLast?_cons]
  ops := by have h1 := h.ops; have e : opens (Tk.lp :: (tk ++ [.rp])) = opens tk + 1 := by simp [opens]
            omega
  bal := h.bal.par
  len := by
    have := h.len
    have hc1 : 1 ≤ c.length := by revert hc; revert c; decide
    simp; omega
  col := fun c hc => by
    rcases List.mem_cons.mp hc with hc | hc
    · cases hc
    · rcases List.mem_append.mp hc with hc | hc
      · exact h.col c hc
      · simp at hc
  asc := fun d hd => by
    rcases List.mem_append.mp hd with hd | hd
    · rcases List.mem_cons.mp hd with rfl | hd
      · decide
      · exact h.asc d hd
    · exact PC_asc c hc d hd
theorem cols_facts {ns : List (List Nat)} (hn : ns.length = 1 ∨ ns.length = 2) (hm : ∀ n ∈ ns, n ∈ NAMES) : (∃ c r, columnsT ns = c :: r ∧ Unicode.isSpace c = false) ∧ AscL (columnsT ns) := by
  have h1 : ∀ s ∈ NAMES, Unicode.isSpace (s.getD 0 0) = false ∧ s ≠ [] ∧ ∀ c ∈ s, c < 128 := by decide +kernel
  match ns, hn, hm with
  | [a], _, hm =>
    obtain ⟨h2, h3, h4⟩ := h1 a (hm a (by simp))
    refine ⟨?_, h4⟩
    cases a with
    | nil => exact absurd rfl h3
    | cons c r => exact ⟨c, r, rfl, h2⟩
  | [a, b], _, hm =>
    obtain ⟨h2, h3, h4⟩ := h1 a (hm a (by simp))
    obtain ⟨h2', h3', h4'⟩ := h1 b (hm b (by simp))
    refine ⟨⟨123, _, rfl, by decide +kernel⟩, fun c hc => ?_⟩
    have : columnsT [a, b] = 123 :: (a ++ 32 :: b) ++ [125] := by simp [columnsT, joinL]
    rw [this] at hc
    simp only [List.cons_append, List.mem_cons, List.mem_append, List.not_mem_nil, or_false] at hc
    rcases hc with rfl | (hc | rfl | hc) | rfl
    · decide
    · exact h4 c hc
    · decide
    · exact h4' c hc
    · decide
theorem Bs.cols {B x tk ns sep} (h : Bs B x tk) (hn : ns.length = 1 ∨ ns.length = 2) (hm : ∀ n ∈ ns, n ∈ NAMES) (hs : sep ∈ SEPC) : Bs B (columnsT ns ++ sep ++ x) (.col (columnsT (ns.map quo)) :: tk) where
  sc := fun rest hr => by
    have := (sc_col (l := x ++ rest) hn hm hs).trans (h.sc rest hr)
    simpa using this
  hd := by
    obtain ⟨c, r, e, hc⟩ := (cols_facts hn hm).1
    exact ⟨c, r ++ sep ++ x, by rw [e]; simp, hc⟩
  ne := by simp
  last := by
    have := h.last
    rw [List.getLast?_cons]
    cases e : tk.getLast? with
    | none => exact absurd (List.getLast?_eq_none_iff.mp e) h.ne
    | some y => rw [e] at this; simpa using this
  ops := by have h1 := h.ops; have e : opens (Tk.col (columnsT (ns.map quo)) :: tk) = opens tk := by simp [opens]
            omega
  bal := h.bal.cons (by simp) (by simp)
  len := by
    have := h.len
    obtain ⟨c, r, e, hc⟩ := (cols_facts hn hm).1
    rw [e]
    simp; omega
  col := fun c hc => by
    rcases List.mem_cons.mp hc with hc | hc
    · cases hc
      have := columnsQ_len hn hm
      omega
    · exact h.col c hc
  asc := fun c hc => by
    rcases List.mem_append.mp hc with hc | hc
    · rcases List.mem_append.mp hc with hc | hc
      · exact (cols_facts hn hm).2 c hc
      · exact SC_asc sep hs c hc
    · exact h.asc c hc
theorem PH_facts : ∀ p ∈ PHRASES, (∀ c ∈ p, c ≠ 34) ∧ hasWord p.toArray = true ∧ ∀ c ∈ p, c < 128 := by decide +kernel
theorem WO_facts2 : ∀ p ∈ WORDS, (∀ c ∈ p, c ≠ 34) ∧ hasWord p.toArray = true ∧ ∀ c ∈ p, c < 128 := by decide +kernel
theorem ST_asc : ∀ s ∈ STARS, ∀ c ∈ s, c < 128 := by decide
theorem bs_quo {s st : List Nat} (h : (∀ c ∈ s, c ≠ 34) ∧ hasWord s.toArray = true ∧ ∀ c ∈ s, c < 128) (hst : st ∈ STARS) : Bs 0 (34 :: s ++ 34 :: st) [.term (34 :: s ++ 34 :: st)] where
  sc := fun rest hr => sc_quo h.1 h.2.1 hst hr
  hd := ⟨34, _, rfl, by decide +kernel⟩
  ne := by simp
  last := by simp
  ops := by simp [opens]
  bal := .one (by simp) (by simp)
  len := by simp
  col := fun c hc => by simp at hc
  asc := fun c hc => by
    simp only [List.cons_append, List.mem_cons, List.mem_append] at hc
    rcases hc with rfl | hc | rfl | hc
    · decide
    · exact h.2.2 c hc
    · decide
    · exact ST_asc st hst c hc
theorem bs_word {s st : List Nat} (hs : s ∈ WORDS) (hst : st ∈ STARS) : Bs 0 (s ++ st) [.term (34 :: s ++ 34 :: st)] where
  sc := fun rest hr => sc_word hs hst hr
  hd := by
    obtain ⟨_, _, _, h4, _, _, _, _, _, _, h6⟩ := WO_facts s hs
    cases s with
    | nil => exact absurd rfl h4
    | cons c r => exact ⟨c, _, rfl, h6⟩
  ne := by simp
  last := by simp
  ops := by simp [opens]
  bal := .one (by simp) (by simp)
  len := by
    obtain ⟨_, _, _, h4, _⟩ := WO_facts s hs
    have := List.length_pos_iff.mpr h4
    simp; omega
  col := fun c hc => by simp at hc
  asc := fun c hc => by
    rcases List.mem_append.mp hc with hc | hc
    · exact (WO_facts2 s hs).2.2 c hc
    · exact ST_asc st hst c hc
/-- operands as texts -/
inductive Itms (B : Nat) : List (List Nat) → List (Nd × Bool) → Prop where
  | nil : Itms B [] []
  | cons {x xs p ps tk} : Bs B x tk → Item tk p.1 p.2 → Itms B xs ps → Itms B (x :: xs) (p :: ps)
theorem Itms.unsnoc {B : Nat} {x : List Nat} : ∀ {xs : List (List Nat)} {ps : List (Nd × Bool)}, Itms B (xs ++ [x]) ps → ∃ qs q tk, ps = qs ++ [q] ∧ Itms B xs qs ∧ Bs B x tk ∧ Item tk q.1 q.2
  | [], _, .cons h i .nil => ⟨[], _, _, rfl, .nil, h, i⟩
  | y :: xs, _, .cons (p := p) h i r => by
    obtain ⟨qs, q, tk, rfl, h1, h2, h3⟩ := r.unsnoc
    exact ⟨p :: qs, q, tk, rfl, .cons h i h1, h2, h3⟩
theorem jn_itms {B : Nat} {xs : List (List Nat)} {x : List Nat} (h : Jn xs x) : ∀ {ps}, Itms B xs ps → ∃ tk, Bs (xs.length * B) x tk ∧ RunI ps tk := by
  induction h with
  | one =>
    intro ps hi
    cases hi with
    | @cons _ _ p _ tk h i r =>
      cases r
      exact ⟨tk, by simpa using h, .one i⟩
  | @snoc xs t sep p hj hs ih =>
    intro ps hi
    obtain ⟨qs, ⟨nd, ng⟩, tk, rfl, h1, h2, h3⟩ := hi.unsnoc
    obtain ⟨tk1, g1, g2⟩ := ih h1
    obtain ⟨s, hs⟩ := sepJ hs
    have := g1.sep hs h2
    refine ⟨_, ?_, RunI.snoc s g2 h3⟩
    rw [← List.append_assoc]
    rw [List.length_append, List.length_cons, List.length_nil, Nat.zero_add, Nat.succ_mul]
    exact this
end Mine
end
section
open PySem PySem.W PyProof.Rows PySem.Calls
set_option Elab.async false
set_option linter.unusedVariables false
namespace Mine
def om : Nat → Nat
  | 0 => 0
  | d + 1 => 5 * om d + 2
def obnd : KT → Nat → Nat
  | _, 0 => 0
  | .group, d + 1 => 5 * om d + 1
  | .any, d + 1 => 5 * om d + 1
  | .atom, d + 1 => 5 * om d + 2
  | .asked, d + 1 => om d
  | .bare, d + 1 => 5 * om d + 2
  | .part, d + 1 => 5 * om d + 2
theorem ob_le (k : KT) : ∀ d, obnd k d ≤ om d
  | 0 => by cases k <;> decide
  | d + 1 => by cases k <;> simp only [obnd, om] <;> omega
theorem om_mono (d : Nat) : om d ≤ om (d + 1) := by simp only [om]; omega
def PK : KT → List Tk → Nd → Prop
  | .atom => PAtom
  | .asked => PAsked
  | .bare => PCore
  | .any => PAny
  | .group => PGroup
  | .part => PPart
def Gd (k : KT) (d : Nat) (t : LT) (x : List Nat) : Prop := ∃ tk, Bs (obnd k d) x tk ∧ PK k tk (ndOf t)
inductive Gds (k : KT) (d : Nat) : List LT → List (List Nat) → Prop where
  | nil : Gds k d [] []
  | cons {t x l xs} : Gd k d t x → Gds k d l xs → Gds k d (t :: l) (x :: xs)
theorem Gds.len {k d} : ∀ {l xs}, Gds k d l xs → xs.length = l.length
  | _, _, .nil => rfl
  | _, _, .cons _ b => by simp [Gds.len b]
theorem part_group {tk nd} (h : PPart tk nd) : PGroup tk nd := group_run (.one (.pos h)) rfl
theorem group_any {tk nd} (h : PGroup tk nd) : PAny tk nd := by
  have := any_run h .nil
  rw [List.append_nil] at this
  exact this
theorem core_group {tk nd} (h : PCore tk nd) : PGroup tk nd := part_group (.atom (.core h))
theorem or_join {d : Nat} : ∀ {l : List LT} {xs : List (List Nat)} {t : LT} {x : List Nat}, Gd .group d t x → Gds .group d l xs → ∃ tk1 tk2, PGroup tk1 (ndOf t) ∧ RunT (ndsOf l) tk2 ∧ Bs ((l.length + 1) * om d) (joinL [32, 79, 82, 32] (x :: xs)) (tk1 ++ tk2)
  | [], _, t, x, ⟨tk, h, g⟩, .nil => ⟨tk, [], g, .nil, by
      have := h.le (ob_le .group d)
      simpa [joinL] using this⟩
  | t' :: l, _, t, x, ⟨tk, h, g⟩, .cons (x := y) (xs := ys) a b => by
    obtain ⟨tk1, tk2, h1, h2, h3⟩ := or_join a b
    refine ⟨tk, .op cOR :: (tk1 ++ tk2), g, .cons h1 h2, ?_⟩
    have := (h.le (ob_le .group d)).sep (sep_op (w := cOR) (.inr rfl)) h3
    have e : joinL [32, 79, 82, 32] (x :: y :: ys) = x ++ (32 :: cOR ++ [32]) ++ joinL [32, 79, 82, 32] (y :: ys) := by simp [joinL, cOR]
    rw [e]
    have e2 : tk ++ .op cOR :: (tk1 ++ tk2) = tk ++ [.op cOR] ++ (tk1 ++ tk2) := by simp
    rw [e2]
    refine this.le ?_
    simp only [List.length_cons]
    rw [Nat.succ_mul (l.length + 1)]
    omega
theorem items_of {d : Nat} : ∀ {l : List LT} {xs : List (List Nat)}, Gds .part d l xs → Itms (om d) xs ((ndsOf l).map fun n => (n, false))
  | _, _, .nil => .nil
  | _, _, .cons ⟨tk, h, g⟩ b => .cons (h.le (ob_le .part d)) (.pos g) (items_of b)
theorem pos_map : ∀ l : List Nd, posL (l.map fun n => (n, false)) = l ∧ negL (l.map fun n => (n, false)) = []
  | [] => ⟨rfl, rfl⟩
  | x :: l => by simp [posL, negL, pos_map l]
theorem mix_items {B d : Nat} : ∀ {xs ys zs : List (List Nat)} {l : List LT} {nds : List Nd}, Mix xs ys zs → om d ≤ B → Itms B xs (nds.map fun n => (n, false)) → Gds .atom d l ys → ∃ ps, Itms B zs ps ∧ posL ps = nds ∧ negL ps = ndsOf l
  | _, _, _, _, [], .nil, _, .nil, .nil => ⟨[], .nil, rfl, rfl⟩
  | _, _, _, _, nd :: nds, .pos h, hB, .cons a i b, g => by
    obtain ⟨ps, h1, h2, h3⟩ := mix_items (nds := nds) h hB b g
    exact ⟨(nd, false) :: ps, .cons a i h1, by simp [posL, h2], by simp [negL, h3]⟩
  | _, _, _, _, nds, .neg h, hB, hi, .cons ⟨tk, a, b⟩ g => by
    obtain ⟨ps, h1, h2, h3⟩ := mix_items h hB hi g
    exact ⟨(_, true) :: ps, .cons ((a.le (Nat.le_trans (ob_le .atom d) hB)).neg) (.neg b) h1, by simp [posL, h2], by simp [negL, h3, ndsOf]⟩
theorem ndsOf_len : ∀ l : List LT, (ndsOf l).length = l.length
  | [] => rfl
  | x :: l => by simp [ndsOf, ndsOf_len l]
theorem nds_ne {l : List LT} (h : l.length = 1 ∨ l.length = 2) : ndsOf l ≠ [] := fun e => by
  have := congrArg List.length e
  rw [ndsOf_len] at this
  simp only [List.length_nil] at this
  omega
theorem cols_ne {ns : List (List Nat)} (h : ns.length = 1 ∨ ns.length = 2) : columnsT (ns.map quo) ≠ [] := by
  match ns, h with
  | [a], _ => simp [columnsT, quo]
  | [a, b], _ => simp [columnsT]
theorem andNd_neg {ps ns : List Nd} (h : ps.length = 2 ∨ ps.length = 3) : andNd ps ns = some (if ns = [] then .and ps else .not (.and ps) ns) := by
  match ps, h with
  | [a, b], _ => rfl
  | [a, b, c], _ => rfl
theorem mix_length : ∀ {xs ys zs : List (List Nat)}, Mix xs ys zs → zs.length = xs.length + ys.length
  | _, _, _, .nil => rfl
  | _, _, _, .pos h => by have := mix_length h; simp; omega
  | _, _, _, .neg h => by have := mix_length h; simp; omega
theorem ob_ab : ∀ d, obnd .atom d ≤ obnd .bare d
  | 0 => Nat.le_refl _
  | d + 1 => Nat.le_refl _
theorem ob_ap : ∀ d, obnd .atom d ≤ obnd .part d
  | 0 => Nat.le_refl _
  | d + 1 => Nat.le_refl _
theorem ob_ga : ∀ d, obnd .group d ≤ obnd .any d
  | 0 => Nat.le_refl _
  | d + 1 => Nat.le_refl _
theorem leaf_gd {t : LT} {x : List Nat} {d : Nat} (hx : TXT .atom t x) (hn : isLeaf t = true) (h : goodT d t) : ∃ tk, Bs 0 x tk ∧ PAtom tk (ndOf t) := by
  cases hx with
  | @t s =>
    have : ∃ p ∈ PHRASES, ∃ st ∈ STARS, x = 34 :: p ++ 34 :: st := by cases d <;> exact h
    obtain ⟨p, hp, st, hs, rfl⟩ := this
    exact ⟨_, bs_quo (PH_facts p hp) hs, .core .t⟩
  | @w s st =>
    have : s ∈ WORDS ∧ st ∈ STARS := by cases d <;> exact h
    exact ⟨_, bs_word this.1 this.2, .core .t⟩
  | @wq s st =>
    have : s ∈ WORDS ∧ st ∈ STARS := by cases d <;> exact h
    exact ⟨_, bs_quo (WO_facts2 s this.1) this.2, .core .t⟩
  | acol _ => cases hn
  | par h1 _ _ => rw [hn] at h1; cases h1
theorem bare_of {t : LT} {tk : List Tk} (hn : isCol t = false) (h : PAtom tk (ndOf t)) : PCore tk (ndOf t) := by
  generalize hnd : ndOf t = nd at h
  cases h with
  | core h => exact h
  | asked h =>
    cases h
    cases t <;> first | (cases hn; done) | (simp only [ndOf] at hnd; cases hnd; done)
mutual
theorem tx_gd : ∀ {k : KT} {t : LT} {x : List Nat} {d : Nat}, TXT k t x → goodT d t → Gd k d t x
  | _, _, _, d, @TXT.t s, h => by
    obtain ⟨tk, h1, h2⟩ := leaf_gd (TXT.t (s := s)) rfl h
    exact ⟨tk, h1.le (Nat.zero_le _), h2⟩
  | _, _, _, d, @TXT.w s st, h => by
    obtain ⟨tk, h1, h2⟩ := leaf_gd (TXT.w (s := s) (st := st)) rfl h
    exact ⟨tk, h1.le (Nat.zero_le _), h2⟩
  | _, _, _, d, @TXT.wq s st, h => by
    obtain ⟨tk, h1, h2⟩ := leaf_gd (TXT.wq (s := s) (st := st)) rfl h
    exact ⟨tk, h1.le (Nat.zero_le _), h2⟩
  | _, _, _, d, .acol hx, h => by
    obtain ⟨d', rfl⟩ := nonleaf_pos h rfl
    obtain ⟨tk, h1, h2⟩ := tx_gd hx h
    exact ⟨tk, h1.le (by simp only [obnd]; omega), .asked h2⟩
  | _, _, _, d, .par hl hc hx, h => by
    obtain ⟨d', rfl⟩ := nonleaf_pos h hl
    obtain ⟨tk, h1, h2⟩ := tx_gd hx h
    exact ⟨_, (h1.par hc).le (by simp only [obnd]; omega), .core (.par h2)⟩
  | _, _, _, d, .asked hs hx, h => by
    obtain ⟨d', rfl⟩ := nonleaf_pos h rfl
    obtain ⟨h1, h2, h3⟩ := h
    obtain ⟨tk, g1, g2⟩ := tx_gd hx h3
    exact ⟨_, (g1.cols h1 h2 hs).le (ob_le .bare d'), .mk (cols_ne h1) g2⟩
  | _, _, _, d, .bcol hx, h => by
    obtain ⟨d', rfl⟩ := nonleaf_pos h rfl
    obtain ⟨tk, h1, h2⟩ := tx_gd hx h
    exact ⟨_, (h1.par (c := [41]) (by decide)).le (by simp only [obnd]; omega), .par (group_any (part_group (.atom (.asked h2))))⟩
  | _, _, _, d, .batom hn hx, h => by
    obtain ⟨tk, h1, h2⟩ := tx_gd hx h
    exact ⟨tk, h1.le (ob_ab d), bare_of hn h2⟩
  | _, _, _, d, .anyOr hx, h => by
    obtain ⟨d', rfl⟩ := nonleaf_pos h rfl
    obtain ⟨h1, h2⟩ := h
    cases txs_gd hx h2 with
    | nil => simp at h1
    | @cons t x l xs a b =>
      obtain ⟨tk1, tk2, g1, g2, g3⟩ := or_join a b
      refine ⟨_, g3.le ?_, ?_⟩
      · have : (l.length + 1) * om d' ≤ 3 * om d' := Nat.mul_le_mul_right _ (by simp at h1; omega)
        simp only [obnd]; omega
      · have := any_run g1 g2
        have e : orNd (ndOf t) (ndsOf l) = .or (ndOf t :: ndsOf l) := by
          cases l with
          | nil => simp at h1
          | cons t' l => rfl
        rw [e] at this
        exact this
  | _, _, _, d, .anyG hn hx, h => by
    obtain ⟨tk, h1, h2⟩ := tx_gd hx h
    exact ⟨tk, h1.le (ob_ga d), group_any h2⟩
  | _, _, _, d, .gAnd hx hj, h => by
    obtain ⟨d', rfl⟩ := nonleaf_pos h rfl
    obtain ⟨h1, h2⟩ := h
    have g := txs_gd hx h2
    obtain ⟨tk, g1, g2⟩ := jn_itms hj (items_of g)
    have hl := g.len
    refine ⟨tk, g1.le ?_, group_run g2 ?_⟩
    · have : (_ : List (List Nat)).length * om d' ≤ 3 * om d' := Nat.mul_le_mul_right _ (show _ ≤ 3 by rw [hl]; omega)
      simp only [obnd]; omega
    · rw [(pos_map _).1, (pos_map _).2, andNd_neg (by rw [ndsOf_len]; exact h1)]
      rfl
  | _, _, _, d, .gCol hx, h => by
    obtain ⟨d', rfl⟩ := nonleaf_pos h rfl
    obtain ⟨tk, h1, h2⟩ := tx_gd hx h
    exact ⟨tk, h1.le (by simp only [obnd]; omega), part_group (.atom (.asked h2))⟩
  | _, _, _, d, @TXT.gLeaf t x hn hx, h => by
    obtain ⟨tk, h1, h2⟩ := leaf_gd hx hn h
    exact ⟨tk, h1.le (Nat.zero_le _), part_group (.atom h2)⟩
  | _, _, _, d, .gOr hx hc, h => by
    obtain ⟨d', rfl⟩ := nonleaf_pos h rfl
    obtain ⟨h1, h2⟩ := h
    cases txs_gd hx h2 with
    | nil => simp at h1
    | @cons t x l xs a b =>
      obtain ⟨tk1, tk2, g1, g2, g3⟩ := or_join a b
      refine ⟨_, (g3.par hc).le ?_, ?_⟩
      · have : (l.length + 1) * om d' ≤ 3 * om d' := Nat.mul_le_mul_right _ (by simp at h1; omega)
        simp only [obnd]; omega
      · have := any_run g1 g2
        have e : orNd (ndOf t) (ndsOf l) = .or (ndOf t :: ndsOf l) := by
          cases l with
          | nil => simp at h1
          | cons t' l => rfl
        rw [e] at this
        exact core_group (.par this)
  | _, _, _, d, .gNot1 hx hy, h => by
    obtain ⟨d', rfl⟩ := nonleaf_pos h rfl
    obtain ⟨h1, h2, h3, _⟩ := h
    obtain ⟨a, a1, a2⟩ := tx_gd hx h1
    obtain ⟨b, b1, b2⟩ := tx_gd hy h3
    have o := ob_le .bare d'
    have := a1.sep sep_not b1
    refine ⟨_, this.le (show _ ≤ 5 * om d' + 1 by omega), ?_⟩
    rw [List.append_assoc]
    exact part_group (.not a2 b2)
  | _, _, _, d, @TXT.gNotA l' l xs ys zs x hx hy hm hj, h => by
    obtain ⟨d', rfl⟩ := nonleaf_pos h rfl
    obtain ⟨h1, h2, h3⟩ := h
    obtain ⟨d'', rfl⟩ := nonleaf_pos h1 rfl
    obtain ⟨g1, g2⟩ := h1
    have a1 := txs_gd hx g2
    have a2 := txs_gd hy h3
    have hB : om (d'' + 1) ≤ om (d'' + 1) := Nat.le_refl _
    have hup : ∀ {xs ps}, Itms (om d'') xs ps → Itms (om (d'' + 1)) xs ps := by
      intro xs ps hi
      induction hi with
      | nil => exact .nil
      | cons h i _ ih => exact .cons (h.le (om_mono d'')) i ih
    obtain ⟨ps, p1, p2, p3⟩ := mix_items hm hB (hup (items_of a1)) a2
    obtain ⟨tk, q1, q2⟩ := jn_itms hj p1
    have l1 := a1.len
    have l2 := a2.len
    have m1 := mix_length hm
    refine ⟨tk, q1.le ?_, group_run q2 ?_⟩
    · have : zs.length * om (d'' + 1) ≤ 5 * om (d'' + 1) := Nat.mul_le_mul_right _ (by omega)
      show _ ≤ 5 * om (d'' + 1) + 1
      omega
    · rw [p2, p3, andNd_neg (by rw [ndsOf_len]; exact g1), if_neg (nds_ne h2)]
      rfl
  | _, _, _, d, @TXT.gNotP t1 l x0 ys zs x hx hy hm hj, h => by
    obtain ⟨d', rfl⟩ := nonleaf_pos h rfl
    obtain ⟨h1, h2, h3⟩ := h
    obtain ⟨tk0, t1, t2⟩ := tx_gd hx h1
    have a2 := txs_gd hy h3
    obtain ⟨ps, p1, p2, p3⟩ := mix_items (nds := [_]) hm (Nat.le_refl _) (.cons (t1.le (ob_le .atom d')) (.pos (.atom t2)) .nil) a2
    obtain ⟨tk, q1, q2⟩ := jn_itms hj p1
    have l2 := a2.len
    have m1 := mix_length hm
    refine ⟨tk, q1.le ?_, group_run q2 ?_⟩
    · have : zs.length * om d' ≤ 3 * om d' := Nat.mul_le_mul_right _ (by rw [m1, List.length_singleton]; omega)
      show _ ≤ 5 * om d' + 1
      omega
    · rw [p2, p3]
      show some (if ndsOf _ = [] then _ else _) = _
      rw [if_neg (nds_ne h2)]
      rfl
  | _, _, _, d, .pNot hx hy, h => by
    obtain ⟨d', rfl⟩ := nonleaf_pos h rfl
    obtain ⟨h1, h2, h3, _⟩ := h
    obtain ⟨a, a1, a2⟩ := tx_gd hx h1
    obtain ⟨b, b1, b2⟩ := tx_gd hy h3
    have o := ob_le .bare d'
    have := a1.sep sep_not b1
    refine ⟨_, this.le (show _ ≤ 5 * om d' + 2 by omega), ?_⟩
    rw [List.append_assoc]
    exact .not a2 b2
  | _, _, _, d, .pAtom hx, h => by
    obtain ⟨tk, h1, h2⟩ := tx_gd hx h
    exact ⟨tk, h1.le (ob_ap d), .atom h2⟩
termination_by k t _ _ _ _ => (sizeOf t, rankK k)
decreasing_by all_goals (simp_wf; first | (apply Prod.Lex.left; omega) | (apply Prod.Lex.right; decide) | (apply Prod.Lex.left; simp only [LT.or.sizeOf_spec, LT.and.sizeOf_spec, LT.not.sizeOf_spec, LT.col.sizeOf_spec, List.cons.sizeOf_spec] ; omega) | skip)
theorem txs_gd : ∀ {k : KT} {l : List LT} {xs : List (List Nat)} {d : Nat}, TXTs k l xs → goodL d l → Gds k d l xs
  | _, _, _, _, .nil, _ => .nil
  | _, _, _, _, .cons a b, h => .cons (tx_gd a h.1) (txs_gd b h.2)
termination_by _ l _ _ _ _ => (sizeOf l, 0)
decreasing_by all_goals (simp_wf; first | (apply Prod.Lex.left; omega) | (apply Prod.Lex.left; simp only [List.cons.sizeOf_spec] ; omega) | skip)
end
end Mine
end
section
open PySem PySem.W PyProof.Rows PySem.Calls
set_option Elab.async false
set_option linter.unusedVariables false
namespace Mine
mutual
theorem dep_nd : ∀ {d : Nat} {t : LT}, goodT d t → dep (ndOf t) ≤ d
  | _, .t s, h => by simp [ndOf, dep]
  | _, .w s st, h => by simp [ndOf, dep]
  | 0, .col _ _, h => h.elim
  | 0, .and _, h => h.elim
  | 0, .or _, h => h.elim
  | 0, .not _ _, h => h.elim
  | d + 1, .col ns t, h => by have := dep_nd h.2.2; simp only [ndOf, dep]; omega
  | d + 1, .and l, h => by have := deps_nd h.2; simp only [ndOf, dep]; omega
  | d + 1, .or l, h => by have := deps_nd h.2; simp only [ndOf, dep]; omega
  | d + 1, .not t l, h => by have := dep_nd h.1; have := deps_nd h.2.2; simp only [ndOf, dep]; omega
theorem deps_nd : ∀ {d : Nat} {l : List LT}, goodL d l → depL (ndsOf l) ≤ d
  | _, [], _ => by simp [ndsOf, depL]
  | d, x :: l, h => by have := dep_nd h.1; have := deps_nd h.2; simp only [ndsOf, depL]; omega
end
theorem sc_posts {post : List Nat} (h : post ∈ ([[], [32, 32]] : List (List Nat))) : Sc post [] [] ∧ okR post := by
  simp only [List.mem_cons, List.not_mem_nil, or_false] at h
  rcases h with rfl | rfl
  · exact ⟨.refl, fun c r e => by cases e⟩
  · exact ⟨Sc.trans (l1 := [32]) sc_space sc_space, okR_32⟩
theorem fine_empty : Fine1 [] [] where
  asc := fun c h => by cases h
  len := by simp
  scanned := rfl
  small := ⟨by simp, fun c h => by cases h⟩
  opens := by decide
  tree := fun nd h => by cases h
theorem plain1 : Plain1 := by
  refine ⟨fun t x pre post hg hx hpre hpost => ?_, [], fine_empty, rfl⟩
  obtain ⟨tk, hB, hP⟩ := tx_gd hx hg
  have hpl : ∀ pre ∈ ([[32], []] : List (List Nat)), pre.length ≤ 1 ∧ ∀ c ∈ pre, c < 128 := by decide
  have hpol : ∀ pre ∈ ([[], [32, 32]] : List (List Nat)), pre.length ≤ 2 ∧ ∀ c ∈ pre, c < 128 := by decide
  obtain ⟨hpl, hpa⟩ := hpl pre hpre
  obtain ⟨hpol, hpoa⟩ := hpol post hpost
  obtain ⟨hp1, hp2⟩ := sc_posts hpost
  have hx1 := tx_len hx hg
  have hb : bnd .any 2 = 776 := by decide
  have ho := hB.ops
  have ho2 : obnd .any 2 = 11 := by decide
  have hsc : Sc (pre ++ x ++ post) tk [] := by
    have h1 := (hB.sc post hp2).trans hp1
    rw [List.append_nil] at h1
    simp only [List.mem_cons, List.not_mem_nil, or_false] at hpre
    rcases hpre with rfl | rfl
    · have := (sc_space (l := x ++ post)).trans h1
      simpa using this
    · simpa using h1
  have hscan : scan splitW id NAMES (pre ++ x ++ post) = tk := by
    obtain ⟨m, e, h⟩ := hsc
    rw [List.append_nil] at e
    have := (h [] []).loop (by simp [e]) (pre ++ x ++ post).length (by simp)
    simp only [List.nil_append, List.length_nil] at this
    unfold scan
    rw [this]
    exact bal_all' hB.bal (by omega)
  have htree : treeOf tk = some (ndOf t) := tree_run hP hB.ne
  have hq := q_len 2 (b := true) hg
  have hm2 : maxL 2 = 782 := by decide
  refine ⟨tk, ⟨fun c hc => ?_, by simp; omega, hscan, ⟨by have := hB.len; omega, fun c hc => by have := hB.col c hc; omega⟩, by omega, fun nd h => ?_⟩, ?_⟩
  · rcases List.mem_append.mp hc with hc | hc
    · rcases List.mem_append.mp hc with hc | hc
      · exact hpa c hc
      · exact hB.asc c hc
    · exact hpoa c hc
  · rw [htree] at h
    cases h
    rw [render_is true hg]
    have := dep_nd hg
    omega
  · rw [transl_is, htree]
    exact render_is false hg
end Mine
end
section
open PySem PySem.W PyProof.Rows PySem.Calls
set_option Elab.async false
set_option maxRecDepth 100000
set_option linter.unusedVariables false
namespace Mine
theorem finish1 {p : Program} {loose : List Str} {mean : ExcName → Option Value} {mg mb : Str → Option Value} {prog : Program} {w : World} {s₁ : Shared} {c : ClaimW} {cl : Str → Option Addr} {me : ExcName → Option Value} {args : List WData} {fa l : Addr} {vs : List Value} {xs : List Int}
    (T : Top p loose mean mg mb s₁.heap) (KX : (KK w.params).In s₁.heap) (TB : ∀ P ∈ [63, 116], s₁.heap.get? P = some (tabObj #[])) (hmg : mg "law" = some (.ref fa)) (hL : s₁.heap.IsList l vs.toArray) (hI : IntsAre vs xs) (hlen : ¬ (63 : Int) < (xs.length : Nat)) (hg : s₁.gens = #[])
    (hr : ∀ cls, c.raises args cls = false) (hp : c.post args (.bool true) args = true) :
    codeAny (model prog w) callerA (.call (.ref fa) ⟨[.ref l], []⟩) (GoodWG c cl me args s₁) s₁ := by
  have h63 := TB 63 (by decide)
  have h116 := TB 116 (by decide)
  have hfa : fa = 239 := by
    have e := mg_of KX T.g (show nsIn (KK w.params) mainGlobals "law" = some (some (.ref 239)) by kernel_rfl)
    rw [hmg] at e
    cases e; rfl
  subst hfa
  have hlT : l ∉ [63, 116] := fun q => by
    obtain ⟨o, ho, hc, _⟩ := hL
    rcases List.mem_cons.mp q with rfl | q
    · rw [ho] at h63; cases h63; cases hc
    · rcases List.mem_cons.mp q with rfl | q
      · rw [ho] at h116; cases h116; cases hc
      · cases q
  have dn : DenL (cxOf prog w T KX) [] s₁.heap [.fl xs] [.ref l] := by
    refine denL_one.mpr ⟨_, rfl, ?_⟩
    unfold Den
    exact ⟨l, vs, rfl, hL, hlT, hI⟩
  refine codeAny_mono (law_ok1 (X := cxOf prog w T KX) (P := w.params) rfl (names_of T KX) (lnm_of T KX) (builtins_of T KX h63 h116) rfl (gen_render T KX) (gen_scan T KX) plain1 (xs := xs) (by omega) [.ref l] callerA [] s₁
    (fun v s' => v = .bool true ∧ OldK s₁.heap s'.heap ∧ s'.os = s₁.os ∧ AllBare s'.gens) ⟨rfl, by decide, by decide⟩ (rel_of T KX h63 h116) dn fun b H' a η' s' hb d r g1 g2 g3 g4 => ?_) fun r s' x => ?_
  · subst hb
    refine ⟨den_bool.mp d, oldK_of T KX r, g4, fun y hy => ?_⟩
    obtain ⟨i, hi⟩ := Array.getElem?_of_mem hy
    exact g3 i y (by rw [hg]; exact Nat.zero_le _) hi
  · rcases r with e | (_ | _ | _ | v)
    · exact x.elim
    · exact x.elim
    · exact x.elim
    · exact x.elim
    · obtain ⟨rfl, h1, h2, h3⟩ := x
      exact ⟨.inl ⟨_, _, [], rfl, hr, ReadsW.bool true, hp, fun _ => ⟨List.nodup_nil, fun _ hm => (nomatch hm)⟩⟩, h1, h2, h3⟩
end Mine
open PySem PySem.W PyProof.Rows
set_option maxHeartbeats 8000000
theorem PySem.Challenge.cw_ez0235_01_holds : PySem.Challenge.rw_ez0235_01.Holds :=
  Mine.hd3 (by
  k_fill
  intro w s₀ s₁ mg mb G Y fa o pm cd doc dV kV ho hd hcd hD hmg hg args vals as hpre hlay hrd hwl hlo
  have KX := km_in_of Y
  have TB := km_tabs_of Y
  refine Ground.open G ?_
  intro T B D TE TW
  try (refine guard_noD D (by decide +kernel) ?_; clear D)
  wrow_args hpre hlay hrd hwl hlo
  all_goals (first | refine callC_kw (enter_call ?_) | refine enter_call ?_)
  exact Mine.finish1 T KX TB hmg (by assumption) (by assumption) (by assumption) hg (fun _ => rfl) (by first | rfl | wrow_post))
end
