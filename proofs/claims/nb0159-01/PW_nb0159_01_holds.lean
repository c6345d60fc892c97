import PyProof.Rows.All
import Wide.All
import OpenK.AllK
import Wide.FinOn
import Lean
import PySem.Challenge.RW_nb0159_01
set_option Elab.async false

/-! part Hd -/
open PySem PySem.W PyProof.Rows
namespace Mine
set_option maxRecDepth 100000 in
set_option maxHeartbeats 8000000 in
open_top hd for PySem.Challenge.rw_nb0159_01
end Mine

/-! part Rx -/
open PySem PySem.W PyProof.Rows PySem.Spec PySem.Calls
namespace Mine
open PySem.Sre

abbrev rxCode : Array Nat := #[14, 8, 1, 2, 4294967295, 1, 1, 46, 0, 16, 46, 24, 9, 1, 4294967295, 13, 4, 8, 0, 0, 1, 6, 5, 1]

def Fails (N : Nat) (m : M) : Prop := ∃ n, n ≤ N ∧ ∃ why, (M.runFor n m).outcome = some why ∧ why = .failed

theorem fails_mono {N N' : Nat} {m : M} (h : Fails N m) (hN : N ≤ N') : Fails N' m := by
  obtain ⟨n, hn, r⟩ := h
  exact ⟨n, Nat.le_trans hn hN, r⟩

theorem fails_step {N : Nat} {m : M} (ho : m.outcome = none) (h : Fails N m.step) : Fails (N + 1) m := by
  obtain ⟨n, hn, r⟩ := h
  refine ⟨n + 1, by omega, ?_⟩
  show ∃ why, (if m.outcome.isSome then m else M.runFor n m.step).outcome = some why ∧ why = .failed
  rw [ho]
  exact r

/-- the machine's state, all but what the walk turns -/
abbrev St (text : Array Nat) (lim start pc pos handed : Nat) (om : Bool) (frames : List Sre.Frame) (weight : Nat) (answer : Option Bool) (seen : Sre.Seen) : M :=
  { code := rxCode, text, lim, start, lastStart := lim, wholeText := false, mustAdvance := false, pc, pos, handed, outermost := om, marks := #[], lastmark := -1, lastindex := -1, loops := #[], inner := none,
    frames, weight, answer, seen, outcome := none }

abbrev nx (s : Nat) (om : Bool) : Sre.Frame := { wait := .nextStart, pc := 9, pos := s, outermost := om }
abbrev gb (pos : Nat) (om : Bool) (n : Nat) : Sre.Frame := { wait := .giveBack, pc := 11, pos, outermost := om, count := (n : Int), kept := { lastmark := -1, lastindex := -1, whole := false, marks := #[] } }

section
variable {text : Array Nat} {lim start pos handed s : Nat} {om om' : Bool} {fs : List Sre.Frame} {wt : Nat} {seen : Sre.Seen} {N : Nat}

theorem step_exec {pc : Nat} (h : pc < 24) : M.step (St text lim start pc pos handed om fs wt none seen) = M.exec (St text lim start pc pos handed om fs wt none seen) := by
  unfold M.step
  rw [if_neg (by simp)]
  simp only []
  rw [if_pos (by exact h)]

theorem step_lit : M.step (St text lim start 9 pos handed om fs wt none seen) = if pos ≥ lim then (St text lim start 9 pos handed om fs wt (some false) (seen.add 16)) else
      (if (text.getD pos 0 == 46) = true then St text lim start 11 (pos + 1) handed om fs wt none (seen.add 16) else St text lim start 9 pos handed om fs wt (some false) (seen.add 16)) := by
  rw [step_exec (by decide)]
  unfold M.exec
  show (if pos ≥ lim then _ else match (Except.ok (text.getD pos 0 == 46, seen.add 16) : Except String (Bool × Sre.Seen)) with | .error why => _ | .ok (false, seen) => _ | .ok (true, seen) => _) = _
  split
  · rfl
  · cases (text.getD pos 0 == 46) <;> rfl

theorem accepts_ok (c : Nat) (seen : Sre.Seen) : ∃ seen', accepts rxCode 15 c seen = .ok (isDigit c, seen') := by
  have e : accepts rxCode 15 c seen = inSet rxCode c 24 17 true seen := rfl
  rw [e]
  have e2 : inSet rxCode c 24 17 true seen = (do
      if ← category 0 c then pure (true, (seen.add 8).add 55) else inSet rxCode c 23 19 true ((seen.add 8).add 55) : Except String (Bool × Sre.Seen)) := rfl
  rw [e2]
  have e3 : category 0 c = .ok (isDigit c) := by
    show (Except.map (· != false) (.ok (isDigit c)) : Except String Bool) = _
    show (Except.ok (isDigit c != false) : Except String Bool) = _
    simp
  rw [e3]
  show ∃ seen', (if isDigit c = true then (pure (true, (seen.add 8).add 55) : Except String (Bool × Sre.Seen)) else inSet rxCode c 23 19 true ((seen.add 8).add 55)) = _
  cases isDigit c
  · exact ⟨_, rfl⟩
  · exact ⟨_, rfl⟩

theorem run_ok (text : Array Nat) : ∀ (k p found : Nat) (seen : Sre.Seen), ∃ n seen', Sre.run rxCode text 15 k p found seen = .ok (found + n, seen') ∧ n ≤ k ∧ ∀ j, j < n → isDigit (text.getD (p + j) 0) = true
  | 0, p, found, seen => ⟨0, seen, rfl, Nat.le_refl _, fun j hj => absurd hj (Nat.not_lt_zero _)⟩
  | k + 1, p, found, seen => by
    obtain ⟨seen', hs⟩ := accepts_ok (text.getD p 0) seen
    have e : Sre.run rxCode text 15 (k + 1) p found seen = (do
      let (yes, seen) ← accepts rxCode 15 (text.getD p 0) seen
      if yes then Sre.run rxCode text 15 k (p + 1) (found + 1) seen else pure (found, seen) : Except String (Nat × Sre.Seen)) := rfl
    rw [e, hs]
    show ∃ n seen'', (if isDigit (text.getD p 0) = true then Sre.run rxCode text 15 k (p + 1) (found + 1) seen' else pure (found, seen')) = _ ∧ _
    cases hd : isDigit (text.getD p 0)
    · exact ⟨0, seen', rfl, Nat.zero_le _, fun j hj => absurd hj (Nat.not_lt_zero _)⟩
    · obtain ⟨n, seen'', h1, h2, h3⟩ := run_ok text k (p + 1) (found + 1) seen'
      refine ⟨n + 1, seen'', ?_, by omega, ?_⟩
      · rw [if_pos rfl, h1]; congr 2; omega
      · intro j hj
        cases j with
        | zero => exact hd
        | succ j => have := h3 j (by omega); rw [show p + (j + 1) = p + 1 + j by omega]; exact this

theorem step_rep (hw : wt < 1000) (_hpos : pos ≤ lim) : (∃ seen', M.step (St text lim start 11 pos handed om fs wt none seen) = St text lim start 11 pos handed om fs wt (some false) seen') ∨
    ∃ n seen', 1 ≤ n ∧ pos + n ≤ lim ∧ (∀ j, j < n → isDigit (text.getD (pos + j) 0) = true) ∧
      M.step (St text lim start 11 pos handed om fs wt none seen) = St text lim start 21 (pos + n) (pos + n) om (gb (pos + n) om n :: fs) (wt + 1) none seen' := by
  rw [step_exec (by decide)]
  obtain ⟨n, seen', h1, h2, h3⟩ := run_ok text (min 4294967295 ((lim : Int) - pos).toNat) pos 0 ((seen.add 24).add 13)
  have e : M.exec (St text lim start 11 pos handed om fs wt none seen) =
     (if ((1 : Nat) : Int) > (lim : Int) - pos then St text lim start 11 pos handed om fs wt (some false) (seen.add 24) else
      match Sre.run rxCode text 15 (min 4294967295 ((lim : Int) - pos).toNat) pos 0 ((seen.add 24).add 13) with
      | .error why => M.stick (St text lim start 11 pos handed om fs wt none (seen.add 24)) why
      | .ok (n, seen) => if n < 1 then St text lim start 11 pos handed om fs wt (some false) seen else
          M.afterRun (St text lim start 11 (pos + n) handed om fs wt none seen) .giveBack n { lastmark := -1, lastindex := -1, whole := false, marks := #[] }) := by
    unfold M.exec
    rfl
  rw [e, h1]
  split
  · exact .inl ⟨_, rfl⟩
  · simp only [Nat.zero_add]
    split
    · exact .inl ⟨_, rfl⟩
    · refine .inr ⟨n, seen', by omega, by omega, h3, ?_⟩
      unfold M.afterRun M.attempt
      rw [if_neg]
      · rfl
      · show ¬ (wt + 1 + 0 > 16777216)
        omega

theorem step_at (h : (pos == lim || (pos + 1 == lim && text.getD pos 0 == 10)) = false) : ∃ seen', M.step (St text lim start 21 pos handed om fs wt none seen) = St text lim start 21 pos handed om fs wt (some false) seen' := by
  rw [step_exec (by decide)]
  refine ⟨(seen.add 6).add 48, ?_⟩
  unfold M.exec
  show (if (pos == lim || (pos + 1 == lim && text.getD pos 0 == 10)) = true then _ else _) = _
  rw [h]
  rfl

theorem step_nx {pc : Nat} : M.step (St text lim start pc pos handed om [nx s om'] 1 (some false) seen) =
    if s < lim then St text lim (s + 1) 9 (s + 1) (s + 1) false [nx (s + 1) false] 1 none seen else St text lim start 9 s handed om' [] 0 (some false) seen := by
  unfold M.step
  rw [if_neg (by simp)]
  show M.resume _ _ _ = _
  unfold M.resume
  show (if s < lim then _ else _) = _
  split
  · rfl
  · rfl

theorem step_gb {pc p n : Nat} : M.step (St text lim start pc pos handed om (gb p om' n :: fs) (wt + 1) (some false) seen) =
    if (n : Int) - 1 < (1 : Nat) then St text lim start 11 p handed om' fs wt (some false) seen else
      M.afterRun (St text lim start 11 (p - 1) handed om' fs wt none seen) .giveBack ((n : Int) - 1) { lastmark := -1, lastindex := -1, whole := false, marks := #[] } := by
  unfold M.step
  rw [if_neg (by simp)]
  show M.resume _ _ _ = _
  unfold M.resume
  show (if (n : Int) - 1 < (1 : Nat) then _ else _) = _
  split
  · rfl
  · rfl
theorem after_gb {p n : Nat} (hw : wt < 1000) (hn : 1 ≤ n) : M.afterRun (St text lim start 11 (p - 1) handed om fs wt none seen) .giveBack ((n : Int) - 1) { lastmark := -1, lastindex := -1, whole := false, marks := #[] } =
    St text lim start 21 (p - 1) (p - 1) om (gb (p - 1) om (n - 1) :: fs) (wt + 1) none seen := by
  unfold M.afterRun M.attempt
  rw [if_neg (by show ¬ (wt + 1 + 0 > 16777216); omega)]
  have : (n : Int) - 1 = ((n - 1 : Nat) : Int) := by omega
  rw [this]
  rfl
theorem step_last {pc : Nat} : (M.step (St text lim start pc pos handed om [] wt (some false) seen)).outcome = some .failed := by
  unfold M.step
  rw [if_neg (by simp)]
  rfl
end

/-- the text's last sign is neither a figure nor a new line -/
def NoEnd (text : Array Nat) (lim : Nat) : Prop := ∀ p, p + 1 = lim → isDigit (text.getD p 0) = false ∧ (text.getD p 0 == 10) = false

section
variable {text : Array Nat} {lim : Nat}

theorem at_no (hE : NoEnd text lim) {p : Nat} (hp : p < lim) : (p == lim || (p + 1 == lim && text.getD p 0 == 10)) = false := by
  have h1 : (p == lim) = false := by simp; omega
  rw [h1, Bool.false_or]
  by_cases h2 : p + 1 = lim
  · rw [(hE p h2).2, Bool.and_false]
  · have : (p + 1 == lim) = false := by simpa using h2
    rw [this, Bool.false_and]

theorem gb_fails (hE : NoEnd text lim) {start : Nat} {om : Bool} {f : Sre.Frame} {N : Nat}
    (next : ∀ pc pos handed om seen, Fails N (St text lim start pc pos handed om [f] 1 (some false) seen)) :
    ∀ (n p : Nat) (seen : Sre.Seen), p < lim → Fails (N + 2 * n + 2) (St text lim start 21 p p om (gb p om n :: [f]) 2 none seen)
  | n, p, seen, hp => by
    obtain ⟨seen', e⟩ := step_at (text := text) (start := start) (handed := p) (om := om) (fs := gb p om n :: [f]) (wt := 2) (seen := seen) (at_no hE hp)
    refine fails_step (N := N + 2 * n + 1) rfl ?_
    rw [e]
    refine fails_step (N := N + 2 * n) rfl ?_
    rw [step_gb]
    split
    · exact fails_mono (next _ _ _ _ _) (by omega)
    · rename_i hn
      rw [after_gb (by omega) (by omega)]
      have := gb_fails hE (om := om) next (n - 1) (p - 1) seen' (by omega)
      exact fails_mono this (by omega)

theorem all_fail (hE : NoEnd text lim) : ∀ (k s : Nat), lim ≤ s + k → ∀ start pc pos handed om om' seen, Fails (k * (2 * lim + 6) + 2) (St text lim start pc pos handed om [nx s om'] 1 (some false) seen)
  | k, s, hk => by
    intro start pc pos handed om om' seen
    refine fails_step (N := k * (2 * lim + 6) + 1) rfl ?_
    rw [step_nx]
    split
    · rename_i hs
      obtain ⟨k, rfl⟩ : ∃ k', k = k' + 1 := ⟨k - 1, by omega⟩
      have next := all_fail hE k (s + 1) (by omega)
      have hm : (k + 1) * (2 * lim + 6) + 1 = k * (2 * lim + 6) + 2 + (2 * lim + 5) := by rw [Nat.succ_mul]; omega
      rw [hm]
      refine fails_step (N := k * (2 * lim + 6) + 2 + (2 * lim + 4)) rfl ?_
      rw [step_lit]
      split
      · exact fails_mono (next _ _ _ _ _ _ _) (by omega)
      · rename_i hl
        split
        · refine fails_step (N := k * (2 * lim + 6) + 2 + (2 * lim + 3)) rfl ?_
          rcases step_rep (text := text) (lim := lim) (start := s + 1) (pos := s + 1 + 1) (handed := s + 1) (om := false) (fs := [nx (s + 1) false]) (wt := 1) (seen := seen.add 16) (by omega) (by omega) with ⟨seen', e⟩ | ⟨n, seen', h1, h2, h3, e⟩
          · rw [e]; exact fails_mono (next _ _ _ _ _ _ _) (by omega)
          · rw [e]
            have hlt : s + 1 + 1 + n < lim := by
              rcases Nat.lt_or_ge (s + 1 + 1 + n) lim with h | h
              · exact h
              · have hd := h3 (n - 1) (by omega)
                rw [(hE (s + 1 + 1 + (n - 1)) (by omega)).1] at hd
                cases hd
            exact fails_mono (gb_fails hE (fun pc pos handed om seen => next _ pc pos handed om false seen) n _ seen' hlt) (by omega)
        · exact fails_mono (next _ _ _ _ _ _ _) (by omega)
    · exact ⟨1, by omega, _, by show (if _ then _ else M.runFor 0 _).outcome = _; rw [if_neg (by simp)]; exact step_last, rfl⟩

theorem search_fails (hE : NoEnd text lim) : Fails ((lim + 1) * (2 * lim + 6) + 2) (Sre.forSearch rxCode text 0 0 lim false) := by
  have e : Sre.forSearch rxCode text 0 0 lim false = if (0 > lim || lim - 0 < 2) = true then { (St text lim 0 9 0 0 true [] 0 (some false) (({} : Sre.Seen).add 14)) with lastStart := 0 } else
      St text lim 0 9 0 0 true [nx 0 true] 1 none (({} : Sre.Seen).add 14) := by
    unfold Sre.forSearch
    show (if (decide (0 > lim) || decide (lim - 0 < 2)) = true then _ else _) = _
    split
    · rfl
    · rfl
  rw [e]
  split
  · refine ⟨1, by omega, _, ?_, rfl⟩
    show (if _ then _ else M.runFor 0 _).outcome = _
    rw [if_neg (by simp)]
    rfl
  · have next := all_fail hE lim 0 (by omega)
    have hm : (lim + 1) * (2 * lim + 6) + 2 = lim * (2 * lim + 6) + 2 + (2 * lim + 6) := by rw [Nat.succ_mul]; omega
    rw [hm]
    refine fails_step (N := lim * (2 * lim + 6) + 2 + (2 * lim + 5)) rfl ?_
    rw [step_lit]
    split
    · exact fails_mono (next _ _ _ _ _ _ _) (by omega)
    · split
      · refine fails_step (N := lim * (2 * lim + 6) + 2 + (2 * lim + 4)) rfl ?_
        rcases step_rep (text := text) (lim := lim) (start := 0) (pos := 0 + 1) (handed := 0) (om := true) (fs := [nx 0 true]) (wt := 1) (seen := (({} : Sre.Seen).add 14).add 16) (by omega) (by omega) with ⟨seen', e⟩ | ⟨n, seen', h1, h2, h3, e⟩
        · rw [e]; exact fails_mono (next _ _ _ _ _ _ _) (by omega)
        · rw [e]
          have hlt : 0 + 1 + n < lim := by
            rcases Nat.lt_or_ge (0 + 1 + n) lim with h | h
            · exact h
            · have hd := h3 (n - 1) (by omega)
              rw [(hE (0 + 1 + (n - 1)) (by omega)).1] at hd
              cases hd
          exact fails_mono (gb_fails hE (fun pc pos handed om seen => next _ pc pos handed om true seen) n _ seen' hlt) (by omega)
      · exact fails_mono (next _ _ _ _ _ _ _) (by omega)
end
end Mine

/-! part Rx2 -/
open PySem PySem.W PyProof.Rows PySem.Spec PySem.Calls
namespace Mine
open PySem.Sre PySem.Builtin PySem.Builtin.Re

theorem runFor_stays {m : Sre.M} (h : m.outcome.isSome = true) : ∀ n, M.runFor n m = m
  | 0 => rfl
  | n + 1 => by
    show (if m.outcome.isSome = true then m else M.runFor n m.step) = m
    rw [if_pos h]
theorem runFor_add (a : Nat) : ∀ (b : Nat) (m : Sre.M), M.runFor (a + b) m = M.runFor a (M.runFor b m)
  | 0, m => rfl
  | b + 1, m => by
    show (if m.outcome.isSome = true then m else M.runFor (a + b) m.step) = M.runFor a (if m.outcome.isSome = true then m else M.runFor b m.step)
    split
    · rename_i h; exact (runFor_stays h a).symm
    · exact runFor_add a b _

theorem drive_fails {Mo : Model} {A : Around} {E : Value → Shared → Prop} {s : Shared} {Q : Sre.M → Shared → Prop} (hQ : ∀ m : Sre.M, m.outcome = some .failed → Q m s) :
    ∀ (turns : Nat) (N : Nat) (m : Sre.M), Fails N m → N < 4 * turns → wpAny Mo A (reDrive turns m) Q E s
  | 0, N, m, _, h => absurd h (by omega)
  | turns + 1, N, m, ⟨n, hn, why, ho, hw⟩, hN => by
    subst hw
    show wpAny Mo A (if (M.runFor 4 m).outcome.isSome = true then pure (M.runFor 4 m) else (do rule "sre.turn"; reDrive turns (M.runFor 4 m))) Q E s
    by_cases h4 : (M.runFor 4 m).outcome.isSome = true
    · rw [if_pos h4]
      refine wpAny_pure (hQ _ ?_)
      rcases Nat.le_total n 4 with h | h
      · have e := runFor_add (4 - n) n m
        rw [Nat.sub_add_cancel h] at e
        rw [e, runFor_stays (by rw [ho]; rfl)]
        exact ho
      · have e := runFor_add (n - 4) 4 m
        rw [Nat.sub_add_cancel h, runFor_stays h4] at e
        rw [← e]; exact ho
    · rw [if_neg h4]
      have h : 4 ≤ n := by
        rcases Nat.le_total n 4 with h | h
        · have e := runFor_add (4 - n) n m
          rw [Nat.sub_add_cancel h] at e
          rw [e, runFor_stays (by rw [ho]; rfl), ho] at h4
          exact absurd rfl h4
        · exact h
      refine wpAny_bind (wpAny_rule (drive_fails hQ turns (N - 4) _ ⟨n - 4, by omega, _, ?_, rfl⟩ (by omega)))
      have e := runFor_add (n - 4) 4 m
      rw [Nat.sub_add_cancel h] at e
      rw [← e]; exact ho

theorem rules_for {Mo : Model} {A : Around} {E : Value → Shared → Prop} {s : Shared} {Q : PUnit → Shared → Prop} (f : Nat → Bool) (g : Nat → String) (hQ : Q ⟨⟩ s) :
    ∀ l : List Nat, wpAny Mo A (forIn l PUnit.unit fun i _ => do
      if f i then rule (g i)
      pure (ForInStep.yield PUnit.unit)) Q E s
  | [] => by simp only [List.forIn_nil]; exact wpAny_pure hQ
  | i :: l => by
    simp only [List.forIn_cons]
    refine wpAny_bind ?_
    cases f i
    · exact wpAny_pure (rules_for f g hQ l)
    · exact wpAny_bind (wpAny_rule (wpAny_pure (rules_for f g hQ l)))

theorem runToEnd_fails {Mo : Model} {A : Around} {E : Value → Shared → Prop} {s : Shared} {Q : Option Sre.M → Shared → Prop} {N : Nat} {m : Sre.M} (h : Fails N m) (hN : N < 4 * 2 ^ 64) (hQ : Q none s) :
    wpAny Mo A (reRunToEnd m) Q E s := by
  unfold reRunToEnd
  refine wpAny_bind (drive_fails (fun m' hm => ?_) _ N m h hN)
  refine wpAny_bind (rules_for _ _ ?_ _)
  rw [hm]
  exact wpAny_pure hQ

set_option maxRecDepth 100000 in
theorem plainAttrs_rx : PlainAttrs "re.Pattern" :=
  ⟨⟨"object.__getattribute__", by rw [typeLookup_type, builtinLookup_eq_fast]; kernel_rfl, by decide +kernel⟩, by rw [typeLookup_type, builtinLookup_eq_fast]; kernel_rfl⟩
set_option maxRecDepth 100000 in
theorem slot_rx_search : Slot "re.Pattern" "search" "re.Pattern.search" :=
  .of (owner := "re.Pattern") (n := "search") (by rw [typeLookup_type, builtinLookup_eq_fast]; kernel_rfl) (by decide +kernel) (by decide +kernel) (by decide +kernel)
    (by first | exact .inl (by decide +kernel) | exact .inr (by decide +kernel)) (by rw [isSubtype_type]; kernel_rfl)
set_option maxRecDepth 100000 in
theorem type_rx_search : typeOf (.builtin "re.Pattern.search") = pure (.type "method_descriptor") := by show builtinType _ = _; rw [builtinType_eq_fast]; kernel_rfl
set_option maxRecDepth 100000 in
theorem entry_rx_search : entryFor table "re.Pattern.search" = some Builtin.«re.Pattern.search» := entryFor_of_tree (by kernel_rfl)
set_option maxRecDepth 100000 in
theorem args_rx_search (a b : Value) : argsOk "re.Pattern.search" ⟨[a, b], []⟩ := by unfold argsOk; kernel_rfl
end Mine

/-! part Rx3 -/
open PySem PySem.W PyProof.Rows PySem.Spec PySem.Calls
namespace Mine
open PySem.Sre PySem.Builtin PySem.Builtin.Re

abbrev rxItems : Array Value := #[Value.int 14 0, Value.int 8 0, Value.int 1 0, Value.int 2 0, Value.int 4294967295 0, Value.int 1 0,
              Value.int 1 0, Value.int 46 0, Value.int 0 0, Value.int 16 0, Value.int 46 0, Value.int 24 0,
              Value.int 9 0, Value.int 1 0, Value.int 4294967295 0, Value.int 13 0, Value.int 4 0, Value.int 8 0,
              Value.int 0 0, Value.int 0 0, Value.int 1 0, Value.int 6 0, Value.int 5 0, Value.int 1 0]
abbrev rxTup : Obj := { cls := .type "tuple", data := .seq rxItems 0 }
theorem rx_code : (rxItems.map reRawOf).map (·.toNat) = rxCode := by decide +kernel
abbrev rxObj : Obj := { cls := .type "re.Pattern", data := .fields #[Value.str (Str.ofString "\\.\\d+$") 285, Value.int 256 312, Value.int 0 0, Value.none, Value.none, Value.ref 35, Value.int 0 0] }

theorem rx_35 (P : Params) : (hd.heap_39 P).lookup 35 = some rxTup := rfl
theorem rx_36 (P : Params) : (hd.heap_39 P).lookup 36 = some rxObj := rfl

theorem named_ok (x : Str) (t : Tok) : reNamed "re.Pattern.search" "search" ["string", "pos", "endpos"] 1 [.str x t] [] = pure [some (.str x t), none, none] := rfl

/-- a text whose last sign is neither a figure nor a new line -/
def Tail (x : Str) : Prop := NoEnd x.cps x.cps.size

theorem search_none {prog : Program} {w : World} {A : Around} {E : Value → Shared → Prop} {s : Shared} {x : Str} {t : Tok} {Q : Value → Shared → Prop}
    (h36 : s.heap.get? 36 = some rxObj) (h35 : s.heap.get? 35 = some rxTup) (hx : Tail x) (hsz : x.length < 16777216) (h : Q .none s) :
    wpAny (model prog w) A (call (.builtin "re.Pattern.search") [.ref 36, .str x t]) Q E s := by
  refine wpAny_call_entry slot_rx_search ⟨rxObj, h36, rfl⟩ entry_rx_search ?_ (args_rx_search _ _)
  unfold Builtin.«re.Pattern.search» reTarget
  refine wpAny_bind ?_
  show wpAny _ _ (reNamed "re.Pattern.search" "search" ["string", "pos", "endpos"] 1 [.str x t] [] >>= _) _ _ _
  rw [named_ok]
  refine wpAny_bind (wpAny_pure ?_)
  refine wpAny_bind (wpAny_pure ?_)
  refine wpAny_bind (wpAny_pure ?_)
  refine wpAny_bind (wpAny_fieldsOf h36 rfl ?_)
  refine wpAny_bind (wpAny_pure ?_)
  show wpAny _ _ (Builtin.Re.reNoCollectionInside _ 0 >>= _) _ _ _
  refine wpAny_bind (wpAny_pure ?_)
  refine wpAny_bind ?_
  unfold reRawItems
  refine wpAny_bind (m := seqItems? (.ref 35)) (wpAny_seqItems h35 rfl (wpAny_pure ?_))
  refine wpAny_pure ?_
  unfold reAnswer
  have hlim : Min.min (Int.toNat (2 ^ 63 - 1)) x.cps.size = x.cps.size := by
    have : x.cps.size < 16777216 := hsz
    have : Int.toNat (2 ^ 63 - 1) = 9223372036854775807 := by decide
    omega
  refine wpAny_bind (runToEnd_fails (N := (x.cps.size + 1) * (2 * x.cps.size + 6) + 2) ?_ ?_ ?_)
  · show Fails _ (Sre.forSearch ((rxItems.map reRawOf).map (·.toNat)) x.cps 0 (Min.min (Int.toNat 0) x.cps.size) (Min.min (Int.toNat (2 ^ 63 - 1)) x.cps.size) false)
    rw [rx_code, hlim]
    have : Min.min (Int.toNat 0) x.cps.size = 0 := by simp
    rw [this]
    exact search_fails hx
  · have h1 : x.cps.size + 1 ≤ 16777216 := hsz
    have h2 : (x.cps.size + 1) * (2 * x.cps.size + 6) ≤ 16777216 * 33554444 := Nat.mul_le_mul h1 (by omega)
    omega
  · exact wpAny_pure ⟨_, rfl, h⟩
end Mine

/-! part C1 -/
open PySem PySem.W PyProof.Rows PySem.Spec PySem.Calls
namespace Mine
/-- what a call of the def at f gives back (as CbClaim, with room for k frames) -/
abbrev Claim (k : Nat) (w : World) (mean : ExcName → Option Value) (mg mb : Str → Option Value) (f : Addr) (news : List (Addr × Obj)) (pre : Prop) (vs : List Value) (R : Tok → Value) : Prop :=
  ∀ (dp un : Nat) (gd : Option (List Code)) (cn : Str) (cs : Scope) (a : Addr) (ccd : Value) (cl : List (Str × Addr)) (outer : List Env) (A₀ : Around) (base h₀ : Heap) (L : Addr) (m : Str → Option Value) (s : Shared) (Q E : Value → Shared → Prop),
    Below A₀ base outer h₀ → Fr h₀ L s.heap m → (hd.heap_39 w.params).In h₀ → News h₀ L s.heap news → Top hd.view_39 (looseW hd.view_39 [Str.ofString "IPV4_RE"]) mean mg mb h₀ → cs.kind = .function →
    pre → dp + k < recursionLimit → un + 8 * k < cLine → CbRet h₀ L m news s Q R →
      wpAny (model Challenge.rw_nb0159_01.row.prog w) (ktrTop dp un gd cn cs L a ccd cl outer) (call (.ref f) vs) Q E s

section
variable {prog : Program} {w : World} {A : Around} {E : Value → Shared → Prop} {s : Shared} {x : Str} {t : Tok} {h₀ : Heap} {L : Addr} {m : Str → Option Value}
theorem rx_method {pl : Sem Bool} {Q : Value × List Value → Shared → Prop} (F : Fr h₀ L s.heap m) (X : (hd.heap_39 w.params).In h₀) (h : Q (.builtin "re.Pattern.search", [.ref 36]) s) :
    wpAny (model prog w) A (getMethod (.ref 36) (Str.ofString "search") pl) Q E s :=
  getMethod_builtin ⟨rxObj, F.keep _ _ (X _ _ (rx_36 _)), rfl⟩ plainAttrs_rx slot_rx_search type_rx_search (fun a e => by cases e; exact ⟨rxObj, F.keep _ _ (X _ _ (rx_36 _)), rfl⟩) h
theorem rx_search {Q : Value → Shared → Prop} (F : Fr h₀ L s.heap m) (X : (hd.heap_39 w.params).In h₀) (hx : Tail x) (hsz : x.length < 16777216) (h : Q .none s) :
    wpAny (model prog w) A (call (.builtin "re.Pattern.search") [.ref 36, .str x t]) Q E s :=
  search_none (F.keep _ _ (X _ _ (rx_36 _))) (F.keep _ _ (X _ _ (rx_35 _))) hx hsz h
end

local macro_rules | `(tactic| walk_at "getMethod ref") => `(tactic| (k_here; (with_reducible show wpAny _ _ (getMethod (Value.ref 36) _ _) _ _ _); k_dflt (refine' rx_method ?k1 ?k2 ?_; (case k1 => k_asm); (case k2 => k_asm); k_whole)))
local macro_rules | `(tactic| walk_at "call builtin:re.Pattern.search") => `(tactic| (k_here; k_dflt (refine' rx_search ?k1 ?k2 ?k3 ?k4 ?_; (case k1 => k_asm); (case k2 => k_asm); (case k3 => assumption); (case k4 => assumption); k_whole)))

set_option maxRecDepth 100000 in
set_option maxHeartbeats 8000000 in
theorem lib_c {w : World} {mean : ExcName → Option Value} {mg mb : Str → Option Value} {news : List (Addr × Obj)} {x : Str} {t : Tok} :
    Claim 1 w mean mg mb 57 news (Tail x ∧ x.length < 16777216) [.str x t] (fun _ => .bool true) := by
  dsimp only [Claim, CbRet]
  k_fill
  w_top off
  k_with_none
  intro dp un gd cn cs a ccd cl outer A₀ base h₀ L m s Q E B F X N T hk hpre hd hu hret
  obtain ⟨hx, hsz⟩ := hpre
  refine wpAny_call ?_
  k_dflt cell_enter
  k_steps
  all_goals cb_end hret

/-- what is_HDN asks: not empty, no dot at either end, no figures behind a last dot -/
structure HostT (x : Str) : Prop where
  tail : Tail x
  size : x.length < 16777216
  pos : 1 ≤ x.length
  ne : (x == Str.ofString "") = false
  first : (Txt.item x 0 == Str.ofString ".") = false
  last : (Txt.item x (-1) == Str.ofString ".") = false

theorem claim_use {k : Nat} {w : World} {mean : ExcName → Option Value} {mg mb : Str → Option Value} {f : Addr} {news : List (Addr × Obj)} {pre : Prop} {vs : List Value} {R : Tok → Value}
    {dp un : Nat} {gd : Option (List Code)} {cn : Str} {cs : Scope} {a : Addr} {ccd : Value} {cl : List (Str × Addr)} {outer : List Env} {A₀ : Around} {base h₀ : Heap} {L : Addr} {m : Str → Option Value} {s : Shared} {Q E : Value → Shared → Prop}
    (C : Claim k w mean mg mb f news pre vs R) (B : Below A₀ base outer h₀) (F : Fr h₀ L s.heap m) (X : (hd.heap_39 w.params).In h₀) (N : News h₀ L s.heap news) (T : Top hd.view_39 (looseW hd.view_39 [Str.ofString "IPV4_RE"]) mean mg mb h₀)
    (hk : cs.kind = .function) (hp : pre) (hd : dp + k < recursionLimit) (hu : un + 8 * k < cLine) (ret : CbRet h₀ L m news s Q R) :
    wpAny (model Challenge.rw_nb0159_01.row.prog w) (ktrTop dp un gd cn cs L a ccd cl outer) (call (.ref f) vs) Q E s :=
  C dp un gd cn cs a ccd cl outer A₀ base h₀ L m s Q E B F X N T hk hp hd hu ret

set_option maxRecDepth 100000 in
set_option maxHeartbeats 8000000 in
theorem hdn_c {w : World} {mean : ExcName → Option Value} {mg mb : Str → Option Value} {news : List (Addr × Obj)} {x : Str} {t : Tok} :
    Claim 1 w mean mg mb 43 news (HostT x) [.str x t] (fun _ => .bool true) := by
  dsimp only [Claim, CbRet]
  k_fill
  w_top off
  k_with_none
  intro dp un gd cn cs a ccd cl outer A₀ base h₀ L m s Q E B F X N T hk hpre hd hu hret
  obtain ⟨hx, hsz, hp, h1, h2, h3⟩ := hpre
  refine wpAny_call ?_
  k_dflt cell_enter
  k_steps
  all_goals cb_end hret
end Mine

/-! part C2 -/
open PySem PySem.W PyProof.Rows PySem.Spec PySem.Calls
namespace Mine
local macro_rules | `(tactic| walk_at "call ref") => `(tactic| (k_here; (with_reducible show wpAny _ _ (call (Value.ref 43) _) _ _ _); k_dflt (refine' claim_use hdn_c ?k1 ?k2 ?k3 ?k4 ?k5 ?kK ?kp ?kd ?ku ?_; (case k1 => k_asm); (case k2 => k_asm); (case k3 => k_asm); (case k4 => k_asm); (case k5 => k_asm); (case kK => first | exact rfl | assumption); (case kp => assumption); (case kd => ktr_room); (case ku => ktr_units); k_whole; intro t9 h9 tk9 F9 N9; (try dsimp only); (try k_fold))))
local macro_rules | `(tactic| walk_at "call ref") => `(tactic| (k_here; (with_reducible show wpAny _ _ (call (Value.ref 57) _) _ _ _); k_dflt (refine' claim_use lib_c ?k1 ?k2 ?k3 ?k4 ?k5 ?kK ?kp ?kd ?ku ?_; (case k1 => k_asm); (case k2 => k_asm); (case k3 => k_asm); (case k4 => k_asm); (case k5 => k_asm); (case kK => first | exact rfl | assumption); (case kp => assumption); (case kd => ktr_room); (case ku => ktr_units); k_whole; intro t9 h9 tk9 F9 N9; (try dsimp only); (try k_fold))))

theorem rfind_ge (x y : Str) : -1 ≤ Txt.rfind x y := by
  unfold Txt.rfind
  split <;> omega
/-- reach, on texts that is_HDN takes -/
def reachF (x : Str) : Str :=
  if 0 ≤ Txt.find x (Str.ofString ".") then
    if 0 ≤ Txt.find (Txt.slice x (some (Txt.find x (Str.ofString ".") + 1)) none) (Str.ofString ".") ∨ (Txt.slice x (some (Txt.find x (Str.ofString ".") + 1)) none == Str.ofString "local") = true then
      Str.ofString "." ++ Txt.slice x (some (Txt.find x (Str.ofString ".") + 1)) none
    else x
  else x

theorem reachF_no {x : Str} (h1 : ¬ 0 ≤ Txt.find (Txt.slice x (some (Txt.find x (Str.ofString ".") + 1)) none) (Str.ofString ".")) (h2 : (Txt.slice x (some (Txt.find x (Str.ofString ".") + 1)) none == Str.ofString "local") = false) : x = reachF x := by
  unfold reachF
  rw [if_neg (c := _ ∨ _) (by rw [h2]; rintro (h | h) <;> first | exact h1 h | cases h)]
  split <;> rfl

set_option maxRecDepth 100000 in
set_option maxHeartbeats 8000000 in
theorem reach_c {w : World} {mean : ExcName → Option Value} {mg mb : Str → Option Value} {news : List (Addr × Obj)} {x : Str} {t : Tok} :
    Claim 2 w mean mg mb 71 news (HostT x) [.str x t] (fun t => .str (reachF x) t) := by
  dsimp only [Claim, CbRet]
  k_fill
  w_top off
  k_with_none
  k_with "tree" => first | exact reachF_no (by assumption) (by assumption) | (unfold reachF; (repeat' split) <;> first | rfl | contradiction | (exfalso; simp_all; done))
  intro dp un gd cn cs a ccd cl outer A₀ base h₀ L m s Q E B F X N T hk hpre hd hu hret
  have hsz := hpre.size
  refine wpAny_call ?_
  k_dflt cell_enter
  k_steps
  all_goals cb_end hret

set_option maxRecDepth 100000 in
set_option maxHeartbeats 8000000 in
theorem dm_c {w : World} {mean : ExcName → Option Value} {mg mb : Str → Option Value} {news : List (Addr × Obj)} {x y : Str} {t u : Tok} :
    Claim 2 w mean mg mb 50 news (x.length < 5000 ∧ y.length < 5000 ∧ HostT (Txt.lower x) ∧ HostT (Txt.slice (Txt.lower y) (some 1) none) ∧ (Txt.lower x == Txt.lower y) = false ∧ Txt.startswith (Txt.lower y) (Str.ofString ".") = true)
      [.str x t, .str y u] (fun _ => .bool (decide (0 < Txt.rfind (Txt.lower x) (Txt.lower y)))) := by
  dsimp only [Claim, CbRet]
  k_fill
  w_top off
  k_with_none
  intro dp un gd cn cs a ccd cl outer A₀ base h₀ L m s Q E B F X N T hk hpre hd hu hret
  obtain ⟨h1, h2, h3, h4, h5, h6⟩ := hpre
  have hr := rfind_ge (Txt.lower x) (Txt.lower y)
  refine wpAny_call ?_
  k_dflt cell_enter
  k_steps
  all_goals cb_end hret

set_option maxRecDepth 100000 in
set_option maxHeartbeats 8000000 in
theorem udm_c {w : World} {mean : ExcName → Option Value} {mg mb : Str → Option Value} {news : List (Addr × Obj)} {x y : Str} {t u : Tok} :
    Claim 2 w mean mg mb 64 news (x.length < 5000 ∧ y.length < 5000 ∧ (Tail (Txt.lower x) ∧ (Txt.lower x).length < 16777216) ∧ (Tail (Txt.lower y) ∧ (Txt.lower y).length < 16777216) ∧ Txt.startswith (Txt.lower y) (Str.ofString ".") = true)
      [.str x t, .str y u] (fun _ => .bool (Txt.endswith (Txt.lower x) (Txt.lower y))) := by
  dsimp only [Claim, CbRet]
  k_fill
  w_top off
  k_with_none
  intro dp un gd cn cs a ccd cl outer A₀ base h₀ L m s Q E B F X N T hk hpre hd hu hret
  obtain ⟨h1, h2, h3, h4, h5⟩ := hpre
  refine wpAny_call ?_
  k_dflt cell_enter
  k_steps
  all_goals cb_end hret
end Mine

/-! part P3 -/
open PySem PySem.W PyProof.Rows PySem.Spec PySem.Calls
namespace Mine

/-- a text in marks, a mark doubled: what stands up to the first single mark -/
def unq : List Nat → List Nat
  | [] => []
  | [c] => if c = 34 then [] else [c]
  | c :: d :: r => if c = 34 then (if d = 34 then 34 :: unq r else []) else c :: unq (d :: r)

theorem unq_other {c : Nat} (h : c ≠ 34) (r : List Nat) : unq (c :: r) = c :: unq r := by
  cases r with
  | nil => simp [unq, h]
  | cons d r => simp [unq, h]
theorem unq_two (r : List Nat) : unq (34 :: 34 :: r) = 34 :: unq r := by simp [unq]
theorem unq_one {r : List Nat} (h : r.head? ≠ some 34) : unq (34 :: r) = [] := by
  cases r with
  | nil => simp [unq]
  | cons d r =>
    have : d ≠ 34 := by simpa using h
    simp [unq, this]

def unqS (x : Str) : Str := ⟨(unq (x.cps.toList.drop 5)).toArray⟩

def ParseInv (x : Str) (i : Int) (d : Str) : Prop := d.cps.toList ++ unq (x.cps.toList.drop i.toNat) = unq (x.cps.toList.drop 5)

theorem item_at {x : Str} {i : Int} (h0 : 0 ≤ i) (h1 : i < x.length) : ∃ c, Txt.item x i = ⟨#[c]⟩ ∧ x.cps.toList.drop i.toNat = c :: x.cps.toList.drop (i.toNat + 1) := by
  have hlt : i.toNat < x.cps.toList.length := by
    have : x.cps.toList.length = x.length := by simp [Str.length]
    omega
  obtain ⟨n, hn⟩ := StrLaws.some_at h0 h1
  refine ⟨n, ?_, ?_⟩
  · unfold Txt.item Txt.charAt
    rw [StrLaws.at_nonneg h0 hn]
    rfl
  · have : x.cps.toList[i.toNat] = n := by
      rw [← Array.getElem?_toList, List.getElem?_eq_getElem hlt] at hn
      exact Option.some.inj hn
    rw [List.drop_eq_getElem_cons hlt, this]

theorem one_eq {c : Nat} : ((⟨#[c]⟩ : Str) == Str.ofString "\"") = decide (c = 34) := by
  have e : Str.ofString "\"" = ⟨#[34]⟩ := by decide
  rw [e]
  by_cases h : c = 34
  · subst h; simp
  · have : (⟨#[c]⟩ : Str) ≠ ⟨#[34]⟩ := by
      intro q
      apply h
      have := congrArg (fun s : Str => s.cps.toList) q
      simpa using this
    simp [h, this]

section
variable {x d : Str} {i : Int}
theorem parse_other (h5 : 5 ≤ i) (hi : i < x.length) (hl : (d.length : Int) ≤ i) (h : ParseInv x i d) (hq : (Txt.item x i == Str.ofString "\"") = false) :
    5 ≤ i + 1 ∧ i + 1 ≤ (x.length : Int) ∧ ((d ++ Txt.item x i).length : Int) ≤ i + 1 ∧ ParseInv x (i + 1) (d ++ Txt.item x i) := by
  obtain ⟨c, e1, e2⟩ := item_at (x := x) (i := i) (by omega) hi
  rw [e1, one_eq] at hq
  have hc : c ≠ 34 := by simpa using hq
  refine ⟨by omega, by omega, ?_, ?_⟩
  · rw [e1, Str.length_append]
    have : (⟨#[c]⟩ : Str).length = 1 := rfl
    omega
  · unfold ParseInv at h ⊢
    rw [e2, unq_other hc] at h
    have : (i + 1).toNat = i.toNat + 1 := by omega
    rw [this, ← h, e1, Str.cps_append]
    simp
theorem parse_double (h5 : 5 ≤ i) (hi : i < x.length) (hl : (d.length : Int) ≤ i) (h : ParseInv x i d) (hq : (Txt.item x i == Str.ofString "\"") = true)
    (hi2 : ¬ (x.length : Int) ≤ i + 1) (hq2 : (Txt.item x (i + 1) != Str.ofString "\"") = false) :
    5 ≤ i + 1 + 1 ∧ i + 1 + 1 ≤ (x.length : Int) ∧ ((d ++ Txt.item x i).length : Int) ≤ i + 1 + 1 ∧ ParseInv x (i + 1 + 1) (d ++ Txt.item x i) := by
  obtain ⟨c, e1, e2⟩ := item_at (x := x) (i := i) (by omega) hi
  obtain ⟨c', e1', e2'⟩ := item_at (x := x) (i := i + 1) (by omega) (by omega)
  rw [e1, one_eq] at hq
  have hc : c = 34 := by simpa using hq
  rw [e1', bne, one_eq] at hq2
  have hc' : c' = 34 := by simpa using hq2
  subst hc hc'
  have t1 : (i + 1).toNat = i.toNat + 1 := by omega
  have t2 : (i + 1 + 1).toNat = i.toNat + 1 + 1 := by omega
  refine ⟨by omega, by omega, ?_, ?_⟩
  · rw [e1, Str.length_append]
    have : (⟨#[34]⟩ : Str).length = 1 := rfl
    omega
  · unfold ParseInv at h ⊢
    rw [t1] at e2'
    rw [e2, e2', unq_two] at h
    rw [t2, ← h, e1, Str.cps_append]
    simp
theorem parse_end1 (hi : ¬ i < x.length) (h : ParseInv x i d) : d = unqS x := by
  unfold ParseInv at h
  have : x.cps.toList.drop i.toNat = [] := by
    apply List.drop_eq_nil_of_le
    have : x.cps.toList.length = x.length := by simp [Str.length]
    omega
  rw [this] at h
  unfold unqS
  rw [← h]
  simp [unq]
theorem parse_end2 (h5 : 5 ≤ i) (hi : i < x.length) (h : ParseInv x i d) (hq : (Txt.item x i == Str.ofString "\"") = true) (hi2 : (x.length : Int) ≤ i + 1) : d = unqS x := by
  obtain ⟨c, e1, e2⟩ := item_at (x := x) (i := i) (by omega) hi
  rw [e1, one_eq] at hq
  have hc : c = 34 := by simpa using hq
  subst hc
  unfold ParseInv at h
  have : x.cps.toList.drop (i.toNat + 1) = [] := by
    apply List.drop_eq_nil_of_le
    have : x.cps.toList.length = x.length := by simp [Str.length]
    omega
  rw [e2, this] at h
  unfold unqS
  rw [← h]
  simp [unq]
theorem parse_end3 (h5 : 5 ≤ i) (hi : i < x.length) (h : ParseInv x i d) (hq : (Txt.item x i == Str.ofString "\"") = true) (hi2 : ¬ (x.length : Int) ≤ i + 1)
    (hq2 : (Txt.item x (i + 1) != Str.ofString "\"") = true) : d = unqS x := by
  obtain ⟨c, e1, e2⟩ := item_at (x := x) (i := i) (by omega) hi
  obtain ⟨c', e1', e2'⟩ := item_at (x := x) (i := i + 1) (by omega) (by omega)
  rw [e1, one_eq] at hq
  have hc : c = 34 := by simpa using hq
  rw [e1', bne, one_eq] at hq2
  have hc' : c' ≠ 34 := by simpa using hq2
  subst hc
  have t1 : (i + 1).toNat = i.toNat + 1 := by omega
  rw [t1] at e2'
  unfold ParseInv at h
  rw [e2, e2', unq_one (by simpa using hc')] at h
  unfold unqS
  rw [← h]
  simp
theorem parse_start : ParseInv x 5 (Str.ofString "") := by
  unfold ParseInv
  have : (Str.ofString "").cps = #[] := by decide
  rw [this]
  rfl
end
end Mine

/-! part C3 -/
open PySem PySem.W PyProof.Rows PySem.Spec PySem.Calls
namespace Mine

set_option maxRecDepth 100000 in
set_option maxHeartbeats 8000000 in
theorem parse_c {w : World} {mean : ExcName → Option Value} {mg mb : Str → Option Value} {news : List (Addr × Obj)} {x : Str} {t : Tok} :
    Claim 1 w mean mg mb 103 news (x.length < 1000 ∧ 5 ≤ x.length ∧ (Txt.slice x none (some 3) != Str.ofString "257") = false ∧ (Txt.slice x (some 3) (some 5) != Str.ofString " \"") = false) [.str x t] (fun t => .str (unqS x) t) := by
  dsimp only [Claim, CbRet]
  k_fill
  w_top off
  k_with_none
  k_with "exec While Compare cons nil" => k_while (fun _ i d => 5 ≤ i ∧ i ≤ (x.length : Int) ∧ (d.length : Int) ≤ i ∧ ParseInv x i d) (fun _ i _ => x.length - i.toNat) "i" "dirname"
  k_with "state" => first | exact parse_other (by omega) (by assumption) (by omega) (by assumption) (by assumption) | exact parse_double (by omega) (by assumption) (by omega) (by assumption) (by assumption) (by assumption) (by assumption) | exact ⟨by omega, by omega, by decide, parse_start⟩
  k_with "tree" => first | exact parse_end1 (by assumption) (by assumption) | exact parse_end2 (by omega) (by assumption) (by assumption) (by assumption) (by assumption) | exact parse_end3 (by omega) (by assumption) (by assumption) (by assumption) (by assumption) (by assumption)
  intro dp un gd cn cs a ccd cl outer A₀ base h₀ L m s Q E B F X N T hk hpre hd hu hret
  obtain ⟨hsz, h5, h1, h2⟩ := hpre
  refine wpAny_call ?_
  k_dflt cell_enter
  k_steps
  all_goals cb_end hret
end Mine

/-! part P4 -/
open PySem PySem.W PyProof.Rows PySem.Spec PySem.Calls
namespace Mine

/-- a slash and the name, ahead of what stands -/
def pathStep (p n : Str) : Str := (Str.ofString "/" ++ n) ++ p
def pathOf (l : List Str) : Str := l.foldl pathStep (Str.ofString "")
def pathF (x : Str) : Str := if (pathOf (Txt.split x (Str.ofString ".")).dropLast == Str.ofString "") = true then Str.ofString "/" else pathOf (Txt.split x (Str.ofString ".")).dropLast
/-- each mark doubled -/
def quoteL (l : List Nat) : List Nat := l.flatMap fun c => if c = 34 then [34, 34] else [c]
def quoteI (l : List Int) : Str := ⟨(quoteL (l.map Int.toNat)).toArray⟩
def replyF (x : Str) : Str := (Str.ofString "257 \"" ++ quoteI (KStt.codes (pathF x))) ++ Str.ofString "\" \"here\""

theorem slash_len : (Str.ofString "/").length = 1 := by decide
theorem pathStep_len (p n : Str) : (pathStep p n).length = 1 + n.length + p.length := by
  unfold pathStep
  rw [Str.length_append, Str.length_append, slash_len]
theorem pathOf_snoc (l : List Str) (n : Str) : pathOf (l ++ [n]) = pathStep (pathOf l) n := by simp [pathOf]
theorem pathOf_len {B : Nat} : ∀ (l : List Str), (∀ a ∈ l, a.length ≤ B) → (pathOf l).length ≤ l.length * (1 + B) := by
  intro l
  suffices h : ∀ (l : List Str) (p : Str), (∀ a ∈ l, a.length ≤ B) → (l.foldl pathStep p).length ≤ p.length + l.length * (1 + B) by
    intro hl
    have := h l (Str.ofString "") hl
    have e : (Str.ofString "").length = 0 := by decide
    unfold pathOf; omega
  intro l
  induction l with
  | nil => intro p _; simp
  | cons a l ih =>
    intro p hl
    have h1 := ih (pathStep p a) fun b hb => hl b (List.mem_cons_of_mem _ hb)
    have h2 := hl a (List.mem_cons_self ..)
    have h3 := pathStep_len p a
    rw [List.foldl_cons, List.length_cons, Nat.succ_mul]
    omega

theorem quoteI_nil : quoteI [] = Str.ofString "" := by decide
theorem quote_eq (n : Nat) : ((⟨#[n]⟩ : Str) == Str.ofString "\"") = decide (n = 34) := by
  have e : Str.ofString "\"" = ⟨#[34]⟩ := by decide
  rw [e]
  by_cases h : n = 34
  · subst h; simp
  · have : (⟨#[n]⟩ : Str) ≠ ⟨#[34]⟩ := by
      intro q
      apply h
      have := congrArg (fun s : Str => s.cps.toList) q
      simpa using this
    simp [h, this]
theorem quoteI_mark {l : List Int} {n : Nat} (h : ((⟨#[n]⟩ : Str) == Str.ofString "\"") = true) : quoteI (l ++ [(n : Int)]) = quoteI l ++ Str.ofString "\"\"" := by
  rw [quote_eq] at h
  have hn : n = 34 := by simpa using h
  subst hn
  have e : Str.ofString "\"\"" = ⟨#[34, 34]⟩ := by decide
  rw [e]
  refine PySem.Str.ext' (Array.toList_inj.mp ?_)
  rw [PySem.Str.cps_append, Array.toList_append]
  simp [quoteI, quoteL]
theorem quoteI_other {l : List Int} {n : Nat} (h : ((⟨#[n]⟩ : Str) == Str.ofString "\"") = false) : quoteI (l ++ [(n : Int)]) = quoteI l ++ ⟨#[n]⟩ := by
  rw [quote_eq] at h
  have hn : n ≠ 34 := by simpa using h
  refine PySem.Str.ext' (Array.toList_inj.mp ?_)
  rw [PySem.Str.cps_append, Array.toList_append]
  simp [quoteI, quoteL, hn]
theorem quoteL_len : ∀ l : List Nat, (quoteL l).length ≤ 2 * l.length
  | [] => by simp [quoteL]
  | c :: l => by
    have := quoteL_len l
    unfold quoteL at this ⊢
    rw [List.flatMap_cons, List.length_append, List.length_cons]
    have h2 : (if c = 34 then [34, 34] else [c] : List Nat).length ≤ 2 := by split <;> simp
    omega
theorem quoteI_len (l : List Int) : (quoteI l).length ≤ 2 * l.length := by
  have := quoteL_len (l.map Int.toNat)
  simpa [quoteI, Str.length] using this
end Mine

/-! part C4 -/
open PySem PySem.W PyProof.Rows PySem.Spec PySem.Calls
namespace Mine

theorem fr_put {h₀ h : Heap} {L : Addr} {m : Str → Option Value} (x : Str) (v : Value) (hx : m x = some v) (F : Fr h₀ L h m) : Fr h₀ L h (fun y => if y = x then some v else m y) := by
  have e : (fun y => if y = x then some v else m y) = m := by
    funext y
    by_cases q : y = x
    · rw [if_pos q, q, hx]
    · rw [if_neg q]
  rw [e]; exact F
theorem strs_pick (l : List (Str × Tok)) : slicePick (strValues l).toArray none (some (-1)) none = (strValues l.dropLast).toArray := by
  have := slicePick_butLast (strValues l).toArray 1 (Nat.le_refl 1)
  rw [show (-((1 : Nat) : Int)) = -1 from rfl] at this
  rw [this]
  simp [strValues, List.dropLast_eq_take, List.map_take]

section
variable {prog : Program} {w : World} {A : Around} {E : Value → Shared → Prop} {s : Shared} {env : Env} {h₀ : Heap} {x : Str} {body : List Stmt} {Q : Flow → Shared → Prop}
/-- a loop over a made list of texts that folds one text -/
theorem iter_accT {l : Addr} {ns : List (Str × Tok)} {nn : Nat} {m₀ : Str → Option Value} {news : List (Addr × Obj)} {y : Str} {a₀ : Str} {t₀ : Tok} (g : Str → Str → Str)
    (hh : A.handled = none) (hl : (l, listOf (strValues ns).toArray nn) ∈ news) (F : Fr h₀ env.locals s.heap m₀) (N : News h₀ env.locals s.heap news) (hy : m₀ y = some (.str a₀ t₀)) (hyx : y ≠ x)
    (turn : ∀ (i : Nat) (n : Str) (tn tp : Tok) (h : Heap) (tk : Nat) (own : List (Addr × Obj)), ns[i]? = some (n, tn) → OwnOff own (news.map (·.1)) →
      Fr h₀ env.locals h (fun z => if z = x then some (.str n tn) else if z = y then some (.str (((ns.take i).map (·.1)).foldl g a₀) tp) else m₀ z) → News h₀ env.locals h (news ++ own) →
      wpAny (model prog w) A (execs body env) (InvPostG h₀ env.locals (fun m' nx => nx = news ∧ (∃ t', m' y = some (.str (g (((ns.take i).map (·.1)).foldl g a₀) n) t')) ∧ ∀ z, z ≠ x → z ≠ y → m' z = m₀ z) own { s with heap := h, toks := tk } Q) E { s with heap := h, toks := tk })
    (done : ∀ (u : Str → Option Value) t h tk, Fr h₀ env.locals h (fun z => if z = x then u z else if z = y then some (.str ((ns.map (·.1)).foldl g a₀) t) else m₀ z) → News h₀ env.locals h news → Q .next { s with heap := h, toks := tk }) :
    wpAny (model prog w) A (pyIter (.ref l)) (fun it s₂ => LoopAtV prog w A h₀ env x body Q E it s₂) E s := by
  refine kdl_iter (fun i m nx => nx = news ∧ (∃ t, m y = some (.str (((ns.take i).map (·.1)).foldl g a₀) t)) ∧ ∀ z, z ≠ x → z ≠ y → m z = m₀ z) hh hl F N ⟨rfl, ⟨t₀, by simpa using hy⟩, fun _ _ _ => rfl⟩ ?_ ?_
  · rintro i v m₁ news₁ h tk own hv hoff hl₁ ⟨rfl, ⟨tp, ha⟩, hm⟩ F₁ N₁
    have hlt : i < ns.length := by
      have := (List.getElem?_eq_some_iff.mp hv).1
      simpa [strValues] using this
    have hn : ns[i]? = some (ns[i].1, ns[i].2) := by simp [hlt]
    have hve : v = .str ns[i].1 ns[i].2 := by
      have : (strValues ns)[i]? = some (.str ns[i].1 ns[i].2) := by simp [strValues, hlt]
      rw [this] at hv
      exact (Option.some.inj hv).symm
    subst hve
    have e : (fun z => if z = x then some (Value.str ns[i].1 ns[i].2) else m₁ z) = fun z => if z = x then some (Value.str ns[i].1 ns[i].2) else if z = y then some (Value.str (((ns.take i).map (·.1)).foldl g a₀) tp) else m₀ z := by
      funext z
      by_cases h1 : z = x
      · simp [h1]
      · simp only [if_neg h1]
        by_cases h2 : z = y
        · subst h2; simp [ha]
        · simp only [if_neg h2]; exact hm z h1 h2
    rw [e] at F₁
    have hs : ((ns.take (i + 1)).map (·.1)).foldl g a₀ = g (((ns.take i).map (·.1)).foldl g a₀) ns[i].1 := by
      rw [List.take_add_one, hn]; simp
    refine wpAny_mono (turn i _ _ tp h tk own hn hoff F₁ N₁) (fun f s₂ p => ?_) fun _ _ x => x
    have up : InvEndG h₀ env.locals (fun m' nx => nx = news₁ ∧ (∃ t', m' y = some (.str (g (((ns.take i).map (·.1)).foldl g a₀) ns[i].1) t')) ∧ ∀ z, z ≠ x → z ≠ y → m' z = m₀ z) own { s with heap := h, toks := tk } s₂ →
        InvEndG h₀ env.locals (fun m' nx => (l, listOf (strValues ns).toArray nn) ∈ nx ∧ nx = news₁ ∧ (∃ t, m' y = some (.str (((ns.take (i + 1)).map (·.1)).foldl g a₀) t)) ∧ ∀ z, z ≠ x → z ≠ y → m' z = m₀ z) own { s with heap := h, toks := tk } s₂ := by
      rintro ⟨h', tk', m', news', nx', e', F', N', hn', ho', ha', hS1, hS2, hS3⟩
      exact ⟨h', tk', m', news', nx', e', F', N', hn', ho', ha', hS1 ▸ hl₁, hS1, by rw [hs]; exact hS2, hS3⟩
    cases f with
    | ret v => exact p
    | brk => exact p
    | next => exact up p
    | cont => exact up p
  · rintro m₁ news₁ h tk ⟨rfl, ⟨t, ha⟩, hm⟩ F₁ N₁
    have hlen : (strValues ns).length = ns.length := by simp [strValues]
    rw [hlen, List.take_length] at ha
    refine done m₁ t h tk ?_ N₁
    have e : (fun z => if z = x then m₁ z else if z = y then some (Value.str ((ns.map (·.1)).foldl g a₀) t) else m₀ z) = m₁ := by
      funext z
      by_cases h1 : z = x
      · simp [h1]
      · simp only [if_neg h1]
        by_cases h2 : z = y
        · subst h2; simp [ha]
        · simp only [if_neg h2]; exact (hm z h1 h2).symm
    rw [e]; exact F₁
end

theorem quote_start : Str.ofString "" = quoteI [] ∧ (Str.ofString "").length ≤ 2 * ([] : List Int).length := by decide
theorem quote_mark {wr : Str} {l : List Int} {n : Nat} (h : wr = quoteI l) (hq : ((⟨#[n]⟩ : Str) == Str.ofString "\"") = true) :
    wr ++ Str.ofString "\"\"" = quoteI (l ++ [(n : Int)]) ∧ (wr ++ Str.ofString "\"\"").length ≤ 2 * (l ++ [(n : Int)]).length := by
  rw [h, quoteI_mark hq]
  refine ⟨rfl, ?_⟩
  rw [← quoteI_mark hq]
  exact quoteI_len _
theorem quote_other {wr : Str} {l : List Int} {n : Nat} (h : wr = quoteI l) (hq : ((⟨#[n]⟩ : Str) == Str.ofString "\"") = false) :
    wr ++ ⟨#[n]⟩ = quoteI (l ++ [(n : Int)]) ∧ (wr ++ ⟨#[n]⟩).length ≤ 2 * (l ++ [(n : Int)]).length := by
  rw [h, quoteI_other hq]
  refine ⟨rfl, ?_⟩
  rw [← quoteI_other hq]
  exact quoteI_len _
theorem reply_end1 {x p f : Str} (hp : p = pathOf (Txt.split x (Str.ofString ".")).dropLast) (h : (p == Str.ofString "") = true) (hf : f = quoteI (KStt.codes (Str.ofString "/"))) :
    Str.ofString "257 \"" ++ f ++ Str.ofString "\" \"here\"" = replyF x := by
  unfold replyF pathF
  rw [← hp, if_pos h, hf]
theorem reply_end2 {x p f : Str} (hp : p = pathOf (Txt.split x (Str.ofString ".")).dropLast) (h : (p == Str.ofString "") = false) (hf : f = quoteI (KStt.codes p)) :
    Str.ofString "257 \"" ++ f ++ Str.ofString "\" \"here\"" = replyF x := by
  unfold replyF pathF
  rw [← hp, if_neg (by rw [h]; exact Bool.false_ne_true), hf]
theorem reply_lens {x : Str} {l : List (Str × Tok)} (hx : x.length < 100) (hsp : l.map (fun p => p.1) = Txt.split x (Str.ofString ".")) :
    (∀ a ∈ l.dropLast.map (fun p => p.1), a.length ≤ 100) ∧ ∀ i, (((l.dropLast.take i).map (fun p => p.1)).foldl pathStep (Str.ofString "")).length ≤ 20000 := by
  have h1 : ∀ a ∈ l.map (fun p => p.1), a.length ≤ 100 := by
    intro a ha
    rw [hsp] at ha
    have := part_short ha
    omega
  have h2 : l.length ≤ 102 := by
    have := split_le x (Str.ofString ".")
    rw [← hsp, List.length_map] at this
    omega
  have h3 : ∀ a ∈ l.dropLast.map (fun p => p.1), a.length ≤ 100 := fun a ha => h1 a (by
    rw [List.map_dropLast] at ha
    exact List.dropLast_subset _ ha)
  refine ⟨h3, fun i => ?_⟩
  have h4 := pathOf_len (B := 100) ((l.dropLast.take i).map (fun p => p.1)) (fun a ha => h3 a (by
    rw [List.map_take] at ha
    exact List.mem_of_mem_take ha))
  have h5 : ((l.dropLast.take i).map (fun p => p.1)).length ≤ 102 := by
    simp only [List.length_map, List.length_take, List.length_dropLast]
    omega
  have h6 : ((l.dropLast.take i).map (fun p => p.1)).length * (1 + 100) ≤ 102 * (1 + 100) := Nat.mul_le_mul_right _ h5
  unfold pathOf at h4
  omega

local macro_rules | `(tactic| walk_at "exec For Name Name cons nil") => `(tactic| (k_here; (rename Fr _ _ _ _ => lF'); (with_unfolding_all refine' For_invVF lF' ?k1 ?k2 ?_; (case k1 => exact rfl); (case k2 => exact rfl); k_whole)))

set_option maxRecDepth 100000 in
set_option maxHeartbeats 8000000 in
theorem reply_c {w : World} {mean : ExcName → Option Value} {mg mb : Str → Option Value} {news : List (Addr × Obj)} {x : Str} {t : Tok} :
    Claim 1 w mean mg mb 124 news (x.length < 100) [.str x t] (fun t => .str (replyF x) t) := by
  dsimp only [Claim, CbRet]
  k_fill
  w_top off
  k_with_none
  k_with "pyIter str" => k_state (fun pre wr => wr = quoteI pre ∧ wr.length ≤ 2 * pre.length) "written"
  k_with "state" => first | exact quote_start | exact quote_mark (by assumption) (by assumption) | exact quote_other (by assumption) (by assumption)
  intro dp un gd cn cs a ccd cl outer A₀ base h₀ L m s Q E B F X N T hk hpre hd hu hret
  refine wpAny_call ?_
  k_dflt cell_enter
  k_steps
  rename News _ _ _ _ => N'
  rename Fr _ _ _ _ => F'
  rename List.map _ _ = Txt.split _ _ => hsp
  rename List (Str × Tok) => l
  rw [strs_pick] at N'
  obtain ⟨hle, hln⟩ := reply_lens hpre hsp
  refine iter_accT (ns := l.dropLast) (nn := 0) (y := Str.ofString "path") pathStep rfl (List.Mem.head _) F' N' rfl (by decide) ?_ ?_
  · intro i n tn tp h tk own hn hoff F N
    clear F' N'
    have h1 := hle n (List.mem_map.mpr ⟨(n, tn), List.mem_of_getElem? hn, rfl⟩)
    have h2 := hln i
    change (pathOf ((l.dropLast.take i).map (·.1))).length ≤ 20000 at h2
    change Fr _ _ _ (fun z => if z = Str.ofString "name" then some (.str n tn) else if z = Str.ofString "path" then some (.str (pathOf ((l.dropLast.take i).map (·.1))) tp) else _) at F
    show wpAny _ _ _ (InvPostG _ _ (fun m' nx => nx = _ ∧ (∃ t', m' _ = some (.str (pathStep (pathOf ((l.dropLast.take i).map (·.1))) n) t')) ∧ _) _ _ _) _ _
    generalize pathOf ((l.dropLast.take i).map (·.1)) = p at *
    k_steps
    exact InvEndG.intro (by k_asm) (by k_asm) ⟨rfl, ⟨_, rfl⟩, by k_same2⟩ hoff (fun p hp => List.mem_append.mpr (.inl hp)) (fun p hp => List.mem_append.mpr (.inr hp))
  · intro u t' h tk F N
    clear F' N'
    have h2 := hln l.length
    rw [List.take_of_length_le (by simp)] at h2
    change (pathOf (l.dropLast.map (·.1))).length ≤ 20000 at h2
    change Fr _ _ _ (fun z => if z = Str.ofString "name" then _ else if z = Str.ofString "path" then some (.str (pathOf (l.dropLast.map (·.1))) t') else _) at F
    have hp : pathOf (l.dropLast.map (·.1)) = pathOf (Txt.split x (Str.ofString ".")).dropLast := by rw [← hsp, List.map_dropLast]
    generalize pathOf (l.dropLast.map (·.1)) = p at *
    have hsl := slash_len
    k_steps
    · exact cb_retS (Q := Q) hret (reply_end1 hp (by assumption) (by assumption)) (by k_asm) (cb_drop (by assumption) fun p hp => List.mem_cons_of_mem _ (List.mem_cons_of_mem _ hp))
    · exact cb_retS (Q := Q) hret (reply_end2 hp (by assumption) (by assumption)) (by k_asm) (cb_drop (by assumption) fun p hp => List.mem_cons_of_mem _ (List.mem_cons_of_mem _ hp))
end Mine

/-! part C5b -/
open PySem PySem.W PyProof.Rows PySem.Spec PySem.Calls
namespace Mine

/-- a cut of a list as Python clamps it -/
def pickS (ys : List (Str × Tok)) (lo hi : Option Int) : List (Str × Tok) := (ys.drop (kms_lo lo ys.length)).take (kms_hi hi ys.length - kms_lo lo ys.length)
theorem strValues_len (ys : List (Str × Tok)) : (strValues ys).length = ys.length := by simp [strValues]
theorem pickS_eq (ys : List (Str × Tok)) (lo hi : Option Int) : kms_pick (strValues ys) lo hi = strValues (pickS ys lo hi) := by
  unfold kms_pick pickS
  rw [strValues_len]
  simp [strValues, List.map_take, List.map_drop]

section
variable {prog : Program} {w : World} {A : Around} {E : Value → Shared → Prop} {s : Shared} {h₀ : Heap} {L : Addr} {m : Str → Option Value} {news : List (Addr × Obj)} {Q : Value → Shared → Prop}

theorem len_strs {l : Addr} {ys : List (Str × Tok)} {n : Nat} (N : News h₀ L s.heap news) (hl : (l, listOf (strValues ys).toArray n) ∈ news) (hsz : ys.length ≤ 10000) (h : ∀ t k, Q (.int ys.length t) { s with toks := k }) :
    wpAny (model prog w) A (call (.builtin "len") [.ref l]) Q E s := by
  refine call_len_list (items := (strValues ys).toArray) (News.isList N hl) ?_ ?_
  · simp only [List.size_toArray, strValues_len]; omega
  · simp only [List.size_toArray, strValues_len]; exact h _ _

theorem add_head {a b : Addr} {u : Str} {tu : Tok} {ys : List (Str × Tok)} {n1 n2 : Nat} (F : Fr h₀ L s.heap m) (N : News h₀ L s.heap news) (ha : (a, listOf [Value.str u tu].toArray n1) ∈ news) (hb : (b, listOf (strValues ys).toArray n2) ∈ news)
    (hsz : ys.length ≤ 10000) (h : ∀ D h', Fr h₀ L h' m → News h₀ L h' ((D, listOf (strValues ((u, tu) :: ys)).toArray 0) :: news) → (∀ p ∈ news, p.1 < D) → Q (.ref D) { s with heap := h' }) :
    wpAny (model prog w) A (binaryOp .Add (.ref a) (.ref b)) Q E s :=
  kmk_add_lit (zs := strValues ((u, tu) :: ys)) F N (News.isList N ha) (News.isList N hb) (by simp [strValues]) h (by
    simp only [List.size_toArray, strValues_len, sizeLine_eq, List.length_cons, List.length_nil]; omega)

theorem add_tail {a b : Addr} {u : Str} {tu : Tok} {ys : List (Str × Tok)} {n1 n2 : Nat} (F : Fr h₀ L s.heap m) (N : News h₀ L s.heap news) (ha : (a, listOf (strValues ys).toArray n1) ∈ news) (hb : (b, listOf [Value.str u tu].toArray n2) ∈ news)
    (hsz : ys.length ≤ 10000) (h : ∀ D h', Fr h₀ L h' m → News h₀ L h' ((D, listOf (strValues (ys ++ [(u, tu)])).toArray 0) :: news) → (∀ p ∈ news, p.1 < D) → Q (.ref D) { s with heap := h' }) :
    wpAny (model prog w) A (binaryOp .Add (.ref a) (.ref b)) Q E s :=
  kmk_add_lit (zs := strValues (ys ++ [(u, tu)])) F N (News.isList N ha) (News.isList N hb) (by simp [strValues]) h (by
    simp only [List.size_toArray, strValues_len, sizeLine_eq, List.length_cons, List.length_nil]; omega)

theorem slice_strs {value slice : Expr} {l : Addr} {ys : List (Str × Tok)} {nn : Nat} {vl vu : Value} {lo hi : Option Int} (F : Fr h₀ L s.heap m) (N : News h₀ L s.heap news) (hl : (l, listOf (strValues ys).toArray nn) ∈ news) (pl : IsPart vl lo) (pu : IsPart vu hi) (hsz : ys.length ≤ 10000)
    (h : ∀ D h', Fr h₀ L h' m → News h₀ L h' ((D, listOf (strValues (pickS ys lo hi)).toArray 0) :: news) → (∀ p ∈ news, p.1 < D) → Q (.ref D) { s with heap := h' })
    (hs : subscripted slice false (.ref l) (.ref s.heap.objs.size) = operate [.ref s.heap.objs.size, .ref l] (getItem (.ref l) (.ref s.heap.objs.size))) (ht : ∀ r, letTemporaryGo value (.ref l) r = pure ()) :
    wpAny (model prog w) A (subscriptTail value slice (.ref l) (.ref s.heap.objs.size)) Q E { s with heap := s.heap.push { cls := .type "slice", data := .fields #[vl, vu, .none] } } :=
  kms_slice_lit (zs := strValues (pickS ys lo hi)) F N (News.isList N hl) pl pu (pickS_eq ys lo hi) h hs ht (by simp only [List.size_toArray, strValues_len, sizeLine_eq]; omega)

theorem strs_all (xs ys : List (Str × Tok)) (hl : xs.length = ys.length) : ((List.range xs.length).all fun j => (xs.map (·.1))[j]? == (ys.map (·.1))[j]?) = decide (xs.map (·.1) = ys.map (·.1)) := by
  rw [Bool.eq_iff_iff, List.all_eq_true, decide_eq_true_eq]
  constructor
  · intro h
    apply List.ext_getElem?
    intro j
    rcases Nat.lt_or_ge j xs.length with hj | hj
    · exact beq_iff_eq.mp (h j (List.mem_range.mpr hj))
    · rw [List.getElem?_eq_none (by simpa using hj), List.getElem?_eq_none (by rw [List.length_map, ← hl]; exact hj)]
  · intro h j _
    rw [h]; simp

theorem eq_strs {a b : Addr} {xs ys : List (Str × Tok)} {n1 n2 : Nat} (N : News h₀ L s.heap news) (ha : (a, listOf (strValues xs).toArray n1) ∈ news) (hb : (b, listOf (strValues ys).toArray n2) ∈ news) (hu : A.units < cLine)
    (h : Q (.bool (decide (xs.map (·.1) = ys.map (·.1)))) s) : wpAny (model prog w) A (compareOp .Eq (.ref a) (.ref b)) Q E s := by
  have hA := News.isList N ha
  have hB := News.isList N hb
  by_cases hl : xs.length = ys.length
  · refine SeqAt.eq_listAt (e := fun j => (xs.map (·.1))[j]? == (ys.map (·.1))[j]?) hA hB (by simp [strValues_len, hl]) hu ?_ ?_
    · intro j h1 h2
      have h1' : j < xs.length := by simpa [strValues_len] using h1
      have h2' : j < ys.length := by simpa [strValues_len] using h2
      have e1 : (strValues xs).toArray[j] = .str xs[j].1 xs[j].2 := by simp [strValues]
      have e2 : (strValues ys).toArray[j] = .str ys[j].1 ys[j].2 := by simp [strValues]
      rw [e1, e2]
      have := SeqAt.EqAt.str_str (A := A.in1) (s := s) xs[j].1 xs[j].2 ys[j].1 ys[j].2
      have e3 : ((xs.map (·.1))[j]? == (ys.map (·.1))[j]?) = (xs[j].1 == ys[j].1) := by simp [h1', h2']
      rw [e3]; exact this
    · have : (strValues xs).toArray.size = xs.length := by simp [strValues_len]
      rw [this, strs_all xs ys hl]; exact h
  · refine SeqAt.eq_list_lengthsAt hA hB (by simp [strValues_len, hl]) hu ?_
    have : decide (xs.map (·.1) = ys.map (·.1)) = false := by
      rw [decide_eq_false_iff_not]
      intro e
      exact hl (by simpa using congrArg List.length e)
    rw [this] at h; exact h
end
end Mine

/-! part P5 -/
open PySem PySem.W PyProof.Rows PySem.Spec PySem.Calls
namespace Mine
/-- the names from the root on, small letters -/
def wholeL (s : List (Str × Tok)) : List Str := Str.ofString "local" :: s.map (fun p => Txt.lower p.1)
def startsI (W P : List Str) (pre : List Int) : List Int := pre.filter fun i => decide ((W.drop i.toNat).take P.length = P)

section
variable {s1 s2 ys1 ys2 : List (Str × Tok)} {t t' : Tok} {i : Int}
theorem pick_cond (e1 : ys1.map (·.1) = s1.map (fun p => Txt.lower p.1)) (e2 : ys2.map (·.1) = s2.map (fun p => Txt.lower p.1)) (h0 : 0 ≤ i) (h1 : i + ((ys2.length : Int) + 1) ≤ (ys1.length : Int) + 1) :
    decide ((pickS ((Str.ofString "local", t) :: ys1) (some i) (some (i + ((ys2.length + 1 : Nat) : Int)))).map (·.1) = ((Str.ofString "local", t') :: ys2).map (·.1)) = decide (((wholeL s1).drop i.toNat).take (wholeL s2).length = wholeL s2) := by
  have w1 : ((Str.ofString "local", t) :: ys1).map (·.1) = wholeL s1 := by simp only [List.map_cons, wholeL, e1]
  have w2 : ((Str.ofString "local", t') :: ys2).map (·.1) = wholeL s2 := by simp only [List.map_cons, wholeL, e2]
  have l2 : (wholeL s2).length = ys2.length + 1 := by rw [← w2]; simp
  have a1 : kms_lo (some i) ((Str.ofString "local", t) :: ys1).length = i.toNat := by
    unfold kms_lo
    simp only [List.length_cons]
    rw [if_neg (by omega)]; omega
  have a2 : kms_hi (some (i + ((ys2.length + 1 : Nat) : Int))) ((Str.ofString "local", t) :: ys1).length = i.toNat + (ys2.length + 1) := by
    unfold kms_hi
    simp only [List.length_cons]
    rw [if_neg (by omega)]; omega
  have p : (pickS ((Str.ofString "local", t) :: ys1) (some i) (some (i + ((ys2.length + 1 : Nat) : Int)))).map (·.1) = ((wholeL s1).drop i.toNat).take (wholeL s2).length := by
    unfold pickS
    rw [a1, a2, l2, ← w1, List.map_take, List.map_drop]
    congr 1; omega
  rw [p, w2]

theorem starts_nil {W P : List Str} : ([] : List Int) = startsI W P [] ∧ ([] : List Int).length ≤ ([] : List Int).length := ⟨rfl, Nat.le_refl _⟩
theorem starts_len (W P : List Str) (pre : List Int) : (startsI W P pre).length ≤ pre.length := List.length_filter_le _ _
theorem starts_yes {st pre : List Int} (h : st = startsI (wholeL s1) (wholeL s2) pre) (e1 : ys1.map (·.1) = s1.map (fun p => Txt.lower p.1)) (e2 : ys2.map (·.1) = s2.map (fun p => Txt.lower p.1)) (h0 : 0 ≤ i) (h1 : i + ((ys2.length : Int) + 1) ≤ (ys1.length : Int) + 1)
    (hc : (pickS ((Str.ofString "local", t) :: ys1) (some i) (some (i + ((ys2.length + 1 : Nat) : Int)))).map (·.1) = ((Str.ofString "local", t') :: ys2).map (·.1)) :
    st ++ [i] = startsI (wholeL s1) (wholeL s2) (pre ++ [i]) ∧ (st ++ [i]).length ≤ (pre ++ [i]).length := by
  have hc' := pick_cond (t := t) (t' := t') e1 e2 h0 h1
  rw [decide_eq_true hc] at hc'
  have e : st ++ [i] = startsI (wholeL s1) (wholeL s2) (pre ++ [i]) := by
    rw [h]; unfold startsI
    rw [List.filter_append, List.filter_cons, if_pos hc'.symm, List.filter_nil]
  exact ⟨e, by rw [e]; exact starts_len _ _ _⟩
theorem starts_no {st pre : List Int} (h : st = startsI (wholeL s1) (wholeL s2) pre) (e1 : ys1.map (·.1) = s1.map (fun p => Txt.lower p.1)) (e2 : ys2.map (·.1) = s2.map (fun p => Txt.lower p.1)) (h0 : 0 ≤ i) (h1 : i + ((ys2.length : Int) + 1) ≤ (ys1.length : Int) + 1)
    (hc : ¬ (pickS ((Str.ofString "local", t) :: ys1) (some i) (some (i + ((ys2.length + 1 : Nat) : Int)))).map (·.1) = ((Str.ofString "local", t') :: ys2).map (·.1)) :
    st = startsI (wholeL s1) (wholeL s2) (pre ++ [i]) ∧ st.length ≤ (pre ++ [i]).length := by
  have hc' := pick_cond (t := t) (t' := t') e1 e2 h0 h1
  rw [decide_eq_false hc] at hc'
  have e : st = startsI (wholeL s1) (wholeL s2) (pre ++ [i]) := by
    rw [h]; unfold startsI
    rw [List.filter_append, List.filter_cons, if_neg (by rw [← hc']; exact Bool.false_ne_true), List.filter_nil, List.append_nil]
  exact ⟨e, by rw [e]; exact starts_len _ _ _⟩
/-- where the names of the one lie in a row among those of the other -/
def startsF (s1 s2 : List (Str × Tok)) : List Int := startsI (wholeL s1) (wholeL s2) (rangeKs 0 ((s1.length : Int) - (s2.length : Int)).toNat)
theorem starts_fin {vs : List Value} (e1 : ys1.map (·.1) = s1.map (fun p => Txt.lower p.1)) (e2 : ys2.map (·.1) = s2.map (fun p => Txt.lower p.1))
    (h : IntsAre vs (startsI (wholeL s1) (wholeL s2) (rangeKs 0 (((ys1.length + 1 : Nat) : Int) - ((ys2.length + 1 : Nat) : Int)).toNat))) : IntsAre vs (startsF s1 s2) := by
  have l1 : ys1.length = s1.length := by simpa using congrArg List.length e1
  have l2 : ys2.length = s2.length := by simpa using congrArg List.length e2
  have : (((ys1.length + 1 : Nat) : Int) - ((ys2.length + 1 : Nat) : Int)).toNat = ((s1.length : Int) - (s2.length : Int)).toNat := by omega
  rw [this] at h
  exact h
end
end Mine

/-! part C5c -/
open PySem PySem.W PyProof.Rows PySem.Spec PySem.Calls
namespace Mine
section
variable {prog : Program} {w : World} {A : Around} {E : Value → Shared → Prop} {s : Shared} {env : Env} {h₀ : Heap} {x : Str} {body : List Stmt} {Q : Flow → Shared → Prop}

/-- what a turn of the loop over the starts leaves -/
def StartsEnd (x : Str) (m₀ : Str → Option Value) (D : Addr) (rest : List (Addr × Obj)) (W P : List Str) (pre : List Int) (m' : Str → Option Value) (nx : List (Addr × Obj)) : Prop :=
  (∃ (vs : List Value) (c : Nat), nx = (D, listOf vs.toArray c) :: rest ∧ IntsAre vs (startsI W P pre)) ∧ ∀ z, z ≠ x → m' z = m₀ z

theorem iter_starts {r D : Addr} {b₀ : Int} {t₀ u₀ v₀ : Tok} {n : Nat} {m₀ : Str → Option Value} {rest : List (Addr × Obj)} (W P : List Str)
    (hh : A.handled = none) (hr : IsRange s.heap r 0 b₀ 1 t₀ u₀ v₀) (hb : b₀ ≤ 10000) (hb' : -10000 ≤ b₀) (hn : n = b₀.toNat) (F : Fr h₀ env.locals s.heap m₀) (N : News h₀ env.locals s.heap ((D, listOf [].toArray 0) :: rest))
    (turn : ∀ (pre : List Int) (k : Int) t (vs : List Value) c h tk own, k = (pre.length : Int) → k < b₀ → IntsAre vs (startsI W P pre) → vs.length ≤ 10000 → OwnOff own (D :: rest.map (·.1)) →
      Fr h₀ env.locals h (fun y => if y = x then some (.int k t) else m₀ y) → News h₀ env.locals h ((D, listOf vs.toArray c) :: (rest ++ own)) →
      wpAny (model prog w) A (execs body env) (InvPostN h₀ env.locals (StartsEnd x m₀ D rest W P (pre ++ [k])) own (D :: rest.map (·.1)) { s with heap := h, toks := tk } Q) E { s with heap := h, toks := tk })
    (done : ∀ (u : Str → Option Value) (vs : List Value) c h tk, IntsAre vs (startsI W P (rangeKs 0 n)) → Fr h₀ env.locals h (fun y => if y = x then u y else m₀ y) → News h₀ env.locals h ((D, listOf vs.toArray c) :: rest) → Q .next { s with heap := h, toks := tk }) :
    wpAny (model prog w) A (pyIter (.ref r)) (fun it s₂ => LoopAtV prog w A h₀ env x body Q E it s₂) E s := by
  subst hn
  refine kst_range (σ := List Value × Nat) (n := b₀.toNat) (fun c => (D, listOf c.1.toArray c.2) :: rest) (fun _ => []) (fun _ => True) [] (fun pre c => IntsAre c.1 (startsI W P pre)) ([], 0) hh hr ?_ ?_ F N trivial (fun _ h => nomatch h) .nil ?_ ?_
  · exact small_one (by omega) (by omega) (by omega) (by omega)
  · have := rangeSize_nat 0 b₀
    simpa using this
  · intro c pre k t u h tk own hk hlt hoff _ hP F₁ N₁
    have hlen : c.1.length ≤ 10000 := by
      rw [hP.length]
      have := starts_len W P pre
      omega
    refine wpAny_mono (turn pre k t c.1 c.2 h tk own (by omega) (by omega) hP hlen hoff F₁ N₁) (fun f s₂ p => ?_) fun _ _ e => e
    have up : InvEndN h₀ env.locals (StartsEnd x m₀ D rest W P (pre ++ [k])) own (D :: rest.map (·.1)) { s with heap := h, toks := tk } s₂ →
        InvEndN h₀ env.locals (KstS (fun c => (D, listOf c.1.toArray c.2) :: rest) (fun _ => []) (fun _ => True) x [] m₀ (fun pre (c : List Value × Nat) => IntsAre c.1 (startsI W P pre)) (pre ++ [k])) own (D :: rest.map (·.1)) { s with heap := h, toks := tk } s₂ := by
      rintro ⟨h', tk', m', news', nx, e, F', N', hn, ho, ha, ⟨vs, c, hnx, hi⟩, hm⟩
      exact ⟨h', tk', m', news', nx, e, F', N', hn, ho, ha, (vs, c), hnx, trivial, (fun _ h => nomatch h), fun z hz _ _ => hm z hz, hi⟩
    cases f with
    | ret v => exact p
    | brk => exact p
    | next => exact up p
    | cont => exact up p
  · intro c u h tk _ hP F₁ N₁
    exact done u c.1 c.2 h tk hP F₁ N₁
end
end Mine

/-! part C5a -/
open PySem PySem.W PyProof.Rows PySem.Spec PySem.Calls
namespace Mine
section
variable {prog : Program} {w : World} {A : Around} {E : Value → Shared → Prop} {s : Shared} {env : Env} {h₀ : Heap} {L : Addr} {m : Str → Option Value} {news : List (Addr × Obj)}

abbrev loScope : Scope := { kind := ScopeKind.function, names := [(Str.ofString ".0", NameKind.local), (Str.ofString "name", NameKind.local)], isGenerator := false, isCoroutine := false, more := [] }

/-- the element's call, as the walk reads it -/
def EltAs (p1 p2 p3 : Pos) (cenv : Env) : Prop := ∃ pl : Sem Bool,
  eval (.Call (.Attribute (.Name (Str.ofString "name") p1) (Str.ofString "lower") p2) [] [] p3) cenv = (do
      let ov ← eval (.Name (Str.ofString "name") p1) cenv
      standAt p2.atName
      let (f, first) ← holding [ov] (getMethod ov (Str.ofString "lower") pl)
      callWith p3 f first (backTo p3 (starEach [] cenv)) [])

set_option maxRecDepth 100000 in
theorem elt_lower {C : Addr} {p1 p2 p3 : Pos} {n : Str} {t : Tok} {mC : Str → Option Value} {Q : Value → Shared → Prop} (he : EltAs p1 p2 p3 (compEnv loScope C env))
    (hn : s.heap.Ns C mC) (hm : mC (Str.ofString "name") = some (.str n t)) (hsz : n.length ≤ 5000) (h : ∀ t' k, Q (.str (Txt.lower n) t') { s with toks := k }) :
    wpAny (model prog w) A (eval (.Call (.Attribute (.Name (Str.ofString "name") p1) (Str.ofString "lower") p2) [] [] p3) (compEnv loScope C env)) Q E s := by
  obtain ⟨pl, he⟩ := he
  refine MethodCall_ ?_ he
  refine wpAny_Name (wpAny_loadName_local (m := mC) rfl rfl hn hm ?_) (by decide)
  refine GM.lower ?_
  refine callWith_method0 ?_
  exact SC.lower (fit_lower (by omega)) (h _ _)

theorem comp_lower {px p1 p2 p3 pos : Pos} {iter : Expr} {Q : Value → Shared → Prop} (hh : A.handled = none) (he : ∀ C, EltAs p1 p2 p3 (compEnv loScope C env))
    (h : wpAny (model prog w) A (eval iter env) (fun xv s₁ => ∃ l ns nn, xv = .ref l ∧ (l, listOf (strValues ns).toArray nn) ∈ news ∧ Fr h₀ L s₁.heap m ∧ News h₀ L s₁.heap news ∧ (∀ p ∈ ns, p.1.length ≤ 5000) ∧ ns.length ≤ 5000 ∧
      (∀ D (ys : List (Str × Tok)) n h' tk, (∀ p ∈ news, p.1 ≠ D) → Fr h₀ L h' m → News h₀ L h' ((D, listOf (strValues ys).toArray n) :: news) → ys.map (·.1) = ns.map (fun p => Txt.lower p.1) → Q (.ref D) { s₁ with heap := h', toks := tk })) E s)
    (hs : ∀ x, foldedSetIterable iter env x = pure x := by intro _; rfl) :
    wpAny (model prog w) A (eval (.ListComp (.Call (.Attribute (.Name (Str.ofString "name") p1) (Str.ofString "lower") p2) [] [] p3) [⟨.Name (Str.ofString "name") px, iter, [], 0⟩] loScope pos) env) Q E s := by
  refine wpAny_ListComp_walk (fun _ => true) (fun v r => ∃ a t t', v = .str a t ∧ r = .str (Txt.lower a) t') (by decide) (by decide) rfl (by decide) rfl (wpAny_mono h (fun xv s₁ h₁ => ?_) fun _ _ e => e) hs
  obtain ⟨l, ns, nn, rfl, hl, F, N, hlen1, hlen2, hQ⟩ := h₁
  have hol : s₁.heap.get? l = some (listOf (strValues ns).toArray nn) := (N _ hl).1
  have hls : s₁.heap.IsList l (strValues ns).toArray := ⟨_, hol, rfl, nn, rfl⟩
  have hne : l ≠ s₁.heap.objs.size := Nat.ne_of_lt (Heap.lt_size hol)
  refine wpAny_pyIter_list hls ?_
  have W := Walks.list (prog := prog) (w := w) hh s₁.heap.objs.size l hne (strValues ns).toArray
  have hlen : (strValues ns).toArray.size = ns.length := by simp [strValues]
  have hit : ∀ (j : Nat) (v : Value), (strValues ns).toArray[j]? = some v → ∃ p ∈ ns, v = .str p.1 p.2 := by
    intro j v hv
    have hv' : (strValues ns)[j]? = some v := by simpa using hv
    have := List.mem_of_getElem? hv'
    unfold strValues at this
    obtain ⟨p, hp, rfl⟩ := List.mem_map.mp this
    exact ⟨p, hp, rfl⟩
  refine ⟨_, _, _, _, _, _, rfl, W, ?_, ⟨⟨_, Heap.get?_push_size _ rfl, rfl, rfl⟩, hls.at fun o e => Heap.get?_push_of_some _ e⟩, ?_, ⟨?_, ?_⟩, ?_⟩
  · rw [hlen, sizeLine_eq]; omega
  · intro b hb
    show b < (s₁.heap.push _).objs.size
    rw [Heap.size_push]
    rcases List.mem_cons.mp hb with rfl | hb
    · exact Nat.lt_succ_self _
    · rw [List.mem_singleton.mp hb]; exact Nat.lt_succ_of_lt (Heap.lt_size hol)
  · intro C i v s₃ m₃ E' hP hn hm _ _
    simp only [List.forIn_nil]
    exact wpAny_pure ⟨rfl, s₃.heap, s₃.toks, rfl, fun _ _ e => e⟩
  · intro C i v s₃ m₃ E' hP hp hn hm _ _
    obtain ⟨p, hp, rfl⟩ := hit i v hP
    exact elt_lower (he C) hn hm (hlen1 p hp) fun t' k => ⟨⟨_, _, _, rfl, rfl⟩, s₃.heap, k, rfl, fun _ _ e => e⟩
  · intro D h' tk ys vs hD _ hpl hvl hP hF hk
    have up : ∀ b o', s₁.heap.get? b = some o' → h'.get? b = some o' := fun b o' e => hk b o' (old_not_new e) (Heap.get?_push_of_some _ e)
    obtain ⟨n, hpl⟩ := hpl
    have hvs : vs = strValues ns := by
      apply List.ext_getElem?
      intro j
      rcases Nat.lt_or_ge j vs.length with hj | hj
      · have h1 : vs[j]? = some vs[j] := by simp [hj]
        have h2 := hP j _ h1
        rw [h1]
        simpa using h2.symm
      · have : (strValues ns).length ≤ j := by rw [hvl] at hj; simpa using hj
        rw [List.getElem?_eq_none hj, List.getElem?_eq_none this]
    have hF' : Paired (fun v r => ∃ a t t', v = .str a t ∧ r = .str (Txt.lower a) t') (strValues ns) ys.toList := by
      rw [← hvs]
      have : vs.filter (fun _ => true) = vs := by simp
      rw [this] at hF; exact hF
    obtain ⟨zs, hz1, hz2⟩ : ∃ zs : List (Str × Tok), ys.toList = strValues zs ∧ zs.map (·.1) = ns.map (fun p => Txt.lower p.1) := by
      clear hF hQ hl hol hls W hlen hit hlen1 hlen2 hP hvs hvl hpl
      generalize ys.toList = ys' at hF'
      revert ys'
      induction ns with
      | nil => intro ys' hF'; cases hF'; exact ⟨[], rfl, rfl⟩
      | cons p ns ih =>
        intro ys' hF'
        cases hF' with
        | cons hab hr =>
          obtain ⟨a, t, t', e1, e2⟩ := hab
          obtain ⟨zs, hz1, hz2⟩ := ih _ hr
          refine ⟨(Txt.lower a, t') :: zs, ?_, ?_⟩
          · rw [e2, hz1]; rfl
          · have : p.1 = a := by injection e1
            simp [this, hz2]
    have hD' : s₁.heap.get? D = none := by
      cases e : s₁.heap.get? D with
      | none => rfl
      | some o => rw [Heap.get?_push_of_some _ e] at hD; cases hD
    have F' : Fr h₀ L h' m := ⟨F.ns.at' fun o e => up _ o e, fun b o e => up b o (F.keep b o e), F.above⟩
    refine hQ D zs n h' tk (fun p hp e => ?_) F' ?_ hz2
    · have := (N p hp).1
      rw [e, hD'] at this
      cases this
    · intro p hp
      rcases List.mem_cons.mp hp with rfl | hp
      · refine ⟨?_, ?_, ?_⟩
        · rw [hpl, ← hz1]
        · intro e
          obtain ⟨oL, _, _, hL, _⟩ := F.ns
          have e' : D = L := e
          rw [← e', hD'] at hL
          cases hL
        · cases e : h₀.get? D with
          | none => rfl
          | some o => have := F.keep _ _ e; rw [hD'] at this; cases this
      · exact ⟨up _ _ (N p hp).1, (N p hp).2⟩
theorem comp_lowerN {px p1 p2 p3 pos pi : Pos} {src : Str} {Q : Value → Shared → Prop} {cn : Str} {cs : Scope} {a : Addr} {ccd : Value} {l : Addr} {ns : List (Str × Tok)} {nn : Nat} (hh : A.handled = none) (he : ∀ C, EltAs p1 p2 p3 (compEnv loScope C (envOf cn cs L a ccd)))
    (F : Fr h₀ L s.heap m) (N : News h₀ L s.heap news) (hv : m src = some (.ref l)) (hl : (l, listOf (strValues ns).toArray nn) ∈ news) (h1 : ∀ p ∈ ns, p.1.length ≤ 5000) (h2 : ns.length ≤ 5000)
    (h : ∀ D (ys : List (Str × Tok)) n h' tk, (∀ p ∈ news, p.1 ≠ D) → Fr h₀ L h' m → News h₀ L h' ((D, listOf (strValues ys).toArray n) :: news) → ys.map (·.1) = ns.map (fun p => Txt.lower p.1) → ys.length ≤ 5000 → Q (.ref D) { s with heap := h', toks := tk })
    (hk : cs.kind = .function := by rfl) (hloc : (envOf cn cs L a ccd).kindOf src = some .local := by rfl) (hd : (src == ("__debug__" : Str)) = false := by decide) :
    wpAny (model prog w) A (eval (.ListComp (.Call (.Attribute (.Name (Str.ofString "name") p1) (Str.ofString "lower") p2) [] [] p3) [⟨.Name (Str.ofString "name") px, .Name src pi, [], 0⟩] loScope pos) (envOf cn cs L a ccd)) Q E s :=
  comp_lower hh he (ld F hv ⟨l, ns, nn, rfl, hl, F, N, h1, h2, fun D ys n h' tk a F' N' e => h D ys n h' tk a F' N' e (by have := congrArg List.length e; simp only [List.length_map] at this; omega)⟩ hk hloc hd) (fun _ => rfl)
end
end Mine

/-! part C5 -/
open PySem PySem.W PyProof.Rows PySem.Spec PySem.Calls
namespace Mine
/-- a call that gives back a new list -/
abbrev ClaimL (k : Nat) (w : World) (mean : ExcName → Option Value) (mg mb : Str → Option Value) (f : Addr) (news : List (Addr × Obj)) (pre : Prop) (vs : List Value) (P : List Value → Prop) : Prop :=
  ∀ (dp un : Nat) (gd : Option (List Code)) (cn : Str) (cs : Scope) (a : Addr) (ccd : Value) (cl : List (Str × Addr)) (outer : List Env) (A₀ : Around) (base h₀ : Heap) (L : Addr) (m : Str → Option Value) (s : Shared) (Q E : Value → Shared → Prop),
    Below A₀ base outer h₀ → Fr h₀ L s.heap m → (hd.heap_39 w.params).In h₀ → News h₀ L s.heap news → Top hd.view_39 (looseW hd.view_39 [Str.ofString "IPV4_RE"]) mean mg mb h₀ → cs.kind = .function →
    pre → dp + k < recursionLimit → un + 8 * k < cLine →
    (∀ (r : Addr) (ys : List Value) (n : Nat) (h' : Heap) (tk' : Nat), (∀ p ∈ news, p.1 ≠ r) → Fr h₀ L h' m → News h₀ L h' ((r, listOf ys.toArray n) :: news) → P ys → Q (.ref r) { s with heap := h', toks := tk' }) →
      wpAny (model Challenge.rw_nb0159_01.row.prog w) (ktrTop dp un gd cn cs L a ccd cl outer) (call (.ref f) vs) Q E s

theorem off_tail {D a b c d e f : Addr} {news own : List (Addr × Obj)} {rest : List Addr} (h : (@LT.lt Nat _ a D) ∧ (@LT.lt Nat _ b D) ∧ (@LT.lt Nat _ c D) ∧ (@LT.lt Nat _ d D) ∧ (@LT.lt Nat _ e D) ∧ (@LT.lt Nat _ f D) ∧ AllLt D news) (ho : OwnOff own (D :: rest)) : ∀ p ∈ news ++ own, p.1 ≠ D := by
  intro p hp
  rcases List.mem_append.mp hp with hp | hp
  · exact Nat.ne_of_lt (kst_ltOf h.2.2.2.2.2.2 p hp)
  · exact ho p hp D (List.Mem.head _)
theorem off_news {D a b c d e f : Addr} {news : List (Addr × Obj)} (h : (@LT.lt Nat _ a D) ∧ (@LT.lt Nat _ b D) ∧ (@LT.lt Nat _ c D) ∧ (@LT.lt Nat _ d D) ∧ (@LT.lt Nat _ e D) ∧ (@LT.lt Nat _ f D) ∧ AllLt D news) : ∀ p ∈ news, p.1 ≠ D :=
  fun p hp => Nat.ne_of_lt (kst_ltOf h.2.2.2.2.2.2 p hp)
local macro_rules | `(tactic| k_mem) => `(tactic| (first | assumption | (refine List.mem_cons_of_mem _ ?_; first | assumption | (refine List.mem_cons_of_mem _ ?_; first | assumption | (refine List.mem_cons_of_mem _ ?_; first | assumption | (refine List.mem_cons_of_mem _ ?_; first | assumption | (refine List.mem_cons_of_mem _ ?_; first | assumption | (refine List.mem_cons_of_mem _ ?_; first | assumption | (refine List.mem_cons_of_mem _ ?_; assumption)))))))))
local macro_rules | `(tactic| walk_at "eval ListComp") => `(tactic| (k_here; (rename Fr _ _ _ _ => lF'); (rename News _ _ _ _ => lN'); (with_unfolding_all refine' comp_lowerN (by rfl) (fun _ => ⟨_, by with_unfolding_all rfl⟩) lF' lN' (by rfl) (by k_mem) (by assumption) (by assumption) ?_); clear lF' lN'; intro D' ys' n' h' tk' l1 F' N' e' b'; (try dsimp only)))

local macro_rules | `(tactic| walk_at "binaryOp Add ref ref") => `(tactic| (k_here; (with_reducible show wpAny _ _ (binaryOp _ (Value.ref _) (Value.ref _)) _ _ _); k_dflt (refine' add_head ?k1 ?k2 ?k3 ?k4 ?k5 ?_; (case k1 => k_asm); (case k2 => k_asm); (case k3 => k_mem); (case k4 => k_mem); (case k5 => omega); k_whole); intro D' h' F' N' l1))
local macro_rules | `(tactic| walk_at "call builtin:len") => `(tactic| (k_here; (with_reducible show wpAny _ _ (call (Value.builtin "len") [Value.ref _]) _ _ _); k_dflt (refine' len_strs ?k1 ?k2 ?k3 ?_; (case k1 => k_asm); (case k2 => k_mem); (case k3 => (simp only [List.length_cons]; omega)); k_whole); intro t' k'; (try simp only [List.length_cons])))
local macro_rules | `(tactic| walk_at "subscriptTail Name Slice ref ref") => `(tactic| (k_here; (with_reducible show wpAny _ _ (subscriptTail _ (PySem.Expr.Slice _ _ none _) (Value.ref _) (Value.ref _)) _ _ _); k_dflt (refine' slice_strs ?F ?N ?l ?p ?q ?z ?_ ?s ?t; (case F => k_asm); (case N => k_asm); (case l => k_mem); (case p => kmk_part); (case q => kmk_part); (case z => (simp only [List.length_cons]; omega)); (case s => with_unfolding_all rfl); (case t => kmk_pure)); intro D' h' F' N' l1; (try k_lt l1)))
local macro_rules | `(tactic| walk_at "compareOp Eq ref ref") => `(tactic| (k_here; (with_reducible show wpAny _ _ (compareOp _ (Value.ref _) (Value.ref _)) _ _ _); k_dflt (refine' eq_strs ?k1 ?k2 ?k3 ?k4 ?_; (case k1 => k_asm); (case k2 => k_mem); (case k3 => k_mem); (case k4 => ktr_units); k_whole)))

local macro_rules | `(tactic| walk_at "call type:range") => `(tactic| (k_here; (rename Fr _ _ _ _ => F'); (rename News _ _ _ _ => N'); (with_unfolding_all refine range1_rows F' N' ?_); clear F' N'; intro _ _ _ _ _ _ _ _ _; (try dsimp only)))

local macro_rules | `(tactic| k_all) => `(tactic| assumption)

set_option maxRecDepth 100000 in
set_option maxHeartbeats 8000000 in
theorem starts_c {w : World} {mean : ExcName → Option Value} {mg mb : Str → Option Value} {news : List (Addr × Obj)} {a1 a2 : Addr} {s1 s2 : List (Str × Tok)} {n1 n2 : Nat} :
    ClaimL 1 w mean mg mb 129 news ((a1, listOf (strValues s1).toArray n1) ∈ news ∧ (a2, listOf (strValues s2).toArray n2) ∈ news ∧ (∀ p ∈ s1, p.1.length ≤ 5000) ∧ s1.length ≤ 5000 ∧ (∀ p ∈ s2, p.1.length ≤ 5000) ∧ s2.length ≤ 5000) [.ref a1, .ref a2] (fun ys => IntsAre ys (startsF s1 s2)) := by
  dsimp only [ClaimL]
  k_fill
  w_top off
  k_with_none
  intro dp un gd cn cs a ccd cl outer A₀ base h₀ L m s Q E B F X N T hk hpre hd hu hret
  obtain ⟨hm1, hm2, hl1, hn1, hl2, hn2⟩ := hpre
  refine wpAny_call ?_
  k_dflt cell_enter
  repeat' (first | (k_unfold; (try dsimp only)) | (k_end; wrow_close) | ((fail_if_success (with_reducible show wpAny _ _ (pyIter (Value.ref _)) _ _ _)); walk1))
  rename IsRange _ _ _ _ _ _ _ _ => hR
  rename Fr _ _ _ _ => F'
  rename News _ _ _ _ => N'
  refine iter_starts (n := _) (wholeL s1) (wholeL s2) rfl hR (by omega) (by omega) rfl F' N' ?_ ?_
  · intro pre k t vs c h tk own hk hkb hi hvs hoff F N
    clear F' N' hR
    simp only [List.cons_append] at N
    have hall : ∀ p ∈ news ++ own, p.1 ≠ _ := off_tail (by assumption) hoff
    k_steps
    · rename News _ _ _ _ => N'
      (try simp only [List.push_toArray] at N')
      refine InvEndN.intro (by k_asm) N' ⟨⟨vs ++ [.int k t], c + 1, rfl, ?_⟩, fun z hz => if_neg hz⟩ rfl ?_ ?_
      · rw [← (starts_yes (i := k) rfl (by assumption) (by assumption) (by omega) (by omega) (by assumption)).1]
        exact hi.append (.cons _ _ .nil)
      · exact fun p hp => List.mem_cons_of_mem _ (List.mem_append_left own hp)
      · intro p hp
        repeat (first | exact List.mem_append_right news hp | apply List.mem_cons_of_mem)
    · refine InvEndN.intro (by k_asm) (by assumption) ⟨⟨vs, c, rfl, ?_⟩, fun z hz => if_neg hz⟩ rfl ?_ ?_
      · rw [← (starts_no (i := k) rfl (by assumption) (by assumption) (by omega) (by omega) (by assumption)).1]
        exact hi
      · exact fun p hp => List.mem_cons_of_mem _ (List.mem_append_left own hp)
      · intro p hp
        repeat (first | exact List.mem_append_right news hp | apply List.mem_cons_of_mem)
  · intro u vs c h tk hi F N
    clear F' N' hR
    k_steps
    refine hret _ vs c _ _ (off_news (by assumption)) (by assumption) (cb_drop (by assumption) ?_) (starts_fin (by assumption) (by assumption) hi)
    intro p hp
    rcases List.mem_cons.mp hp with rfl | hp
    · exact List.Mem.head _
    · repeat (first | exact hp | apply List.mem_cons_of_mem)
end Mine

/-! part P6 -/
open PySem PySem.W PyProof.Rows PySem.Spec PySem.Calls
namespace Mine
abbrev localC : List Nat := [108, 111, 99, 97, 108]

/-- labels in a row, a dot between -/
def H : List (List Nat) → List Nat
  | [] => []
  | [l] => l
  | l :: k :: r => l ++ 46 :: H (k :: r)

theorem H_cons (l : List Nat) {r : List (List Nat)} (hr : r ≠ []) : H (l :: r) = l ++ 46 :: H r := by
  cases r with
  | nil => exact absurd rfl hr
  | cons k r => rfl

structure LabelOK (l : List Nat) : Prop where
  nodot : 46 ∉ l
  pre : localC <+: l → l = localC

theorem split_dot : ∀ {x y u v : List Nat}, 46 ∉ x → 46 ∉ y → x ++ 46 :: u = y ++ 46 :: v → x = y ∧ u = v
  | [], [], u, v, _, _, h => ⟨rfl, by simpa using h⟩
  | [], c :: y, u, v, _, hy, h => by
    have : c = 46 := by have := congrArg List.head? h; simp at this; exact this.symm
    exact absurd (this ▸ List.mem_cons_self ..) hy
  | c :: x, [], u, v, hx, _, h => by
    have : c = 46 := by have := congrArg List.head? h; simpa using this
    exact absurd (this ▸ List.mem_cons_self ..) hx
  | c :: x, d :: y, u, v, hx, hy, h => by
    simp only [List.cons_append, List.cons.injEq] at h
    have := split_dot (fun q => hx (List.mem_cons_of_mem _ q)) (fun q => hy (List.mem_cons_of_mem _ q)) h.2
    exact ⟨by rw [h.1, this.1], this.2⟩

theorem prefix_dot {x y u v : List Nat} (hx : 46 ∉ x) (hy : 46 ∉ y) (h : x ++ 46 :: u <+: y ++ 46 :: v) : x = y ∧ u <+: v := by
  obtain ⟨t, ht⟩ := h
  rw [List.append_assoc, List.cons_append] at ht
  have := split_dot hx hy ht
  exact ⟨this.1, ⟨t, this.2⟩⟩

theorem pre_nodot {x y v : List Nat} (hx : 46 ∉ x) (h : x <+: y ++ 46 :: v) : x <+: y := by
  rcases Nat.lt_or_ge y.length x.length with hl | hl
  · have h1 : y ++ [46] <+: y ++ 46 :: v := ⟨v, by simp⟩
    have h2 := List.prefix_of_prefix_length_le h1 h (by simp; omega)
    exact absurd (h2.subset (by simp)) hx
  · exact List.prefix_of_prefix_length_le h ⟨46 :: v, rfl⟩ hl

theorem nodot_mem {R : List (List Nat)} {l : List Nat} (h : ∀ l ∈ l :: R, LabelOK l) : 46 ∉ l := (h l (List.mem_cons_self ..)).nodot

theorem H_prefix : ∀ (R2 r : List (List Nat)), R2 ≠ [] → r ≠ [] → R2.getLast? = some localC → (∀ l ∈ R2, LabelOK l) → (∀ l ∈ r, LabelOK l) → H R2 <+: H r → R2 <+: r
  | [], _, h, _, _, _, _, _ => absurd rfl h
  | _, [], _, h, _, _, _, _ => absurd rfl h
  | [x], [l], _, _, hl, h2, h1, hp => by
    have ex : x = localC := by simpa using hl
    subst ex
    have := (h1 l (List.mem_cons_self ..)).pre hp
    rw [this]
    exact List.prefix_refl _
  | [x], l :: k :: r, _, _, hl, h2, h1, hp => by
    have ex : x = localC := by simpa using hl
    have hx := (h2 x (List.mem_cons_self ..)).nodot
    subst ex
    have := (h1 l (List.mem_cons_self ..)).pre (pre_nodot hx hp)
    rw [this]
    exact ⟨k :: r, rfl⟩
  | x :: y :: R, [l], _, _, hl, h2, h1, hp => by
    have hl' := (h1 l (List.mem_cons_self ..)).nodot
    exact absurd (hp.subset (show 46 ∈ x ++ 46 :: H (y :: R) by simp)) hl'
  | x :: y :: R, l :: k :: r, _, _, hl, h2, h1, hp => by
    have hx := (h2 x (List.mem_cons_self ..)).nodot
    have hl' := (h1 l (List.mem_cons_self ..)).nodot
    obtain ⟨rfl, hp'⟩ := prefix_dot hx hl' (show x ++ 46 :: H (y :: R) <+: l ++ 46 :: H (k :: r) from hp)
    have := H_prefix (y :: R) (k :: r) (by simp) (by simp) (by simpa using hl) (fun q hq => h2 q (List.mem_cons_of_mem _ hq)) (fun q hq => h1 q (List.mem_cons_of_mem _ hq)) hp'
    exact (List.prefix_cons_inj x).mpr this

theorem H_append : ∀ (A : List (List Nat)) {R : List (List Nat)}, R ≠ [] → A ≠ [] → H (A ++ R) = H A ++ 46 :: H R
  | [], _, _, h => absurd rfl h
  | [l], R, hR, _ => H_cons l hR
  | l :: k :: A, R, hR, _ => by
    have := H_append (k :: A) hR (by simp)
    show l ++ 46 :: H (k :: A ++ R) = (l ++ 46 :: H (k :: A)) ++ 46 :: H R
    rw [this]; simp

theorem H_prefix_of {R2 B : List (List Nat)} (h : R2 ≠ []) : H R2 <+: H (R2 ++ B) := by
  cases B with
  | nil => simp
  | cons b B => rw [H_append R2 (by simp) h]; exact ⟨_, rfl⟩

theorem first_dot : ∀ {u : List Nat}, 46 ∈ u → ∃ u1 u2, 46 ∉ u1 ∧ u = u1 ++ 46 :: u2
  | [], h => nomatch h
  | c :: u, h => by
    by_cases hc : c = 46
    · exact ⟨[], u, by simp, by rw [hc]; rfl⟩
    · have hu' : 46 ∈ u := by
        rcases List.mem_cons.mp h with h | h
        · exact absurd h.symm hc
        · exact h
      obtain ⟨u1, u2, h3, h4⟩ := first_dot hu'
      exact ⟨c :: u1, u2, by simp [h3]; exact fun q => hc q.symm, by rw [h4]; rfl⟩

theorem occ_iff {R2 : List (List Nat)} (hne : R2 ≠ []) (hl : R2.getLast? = some localC) (h2 : ∀ l ∈ R2, LabelOK l) (v : List Nat) :
    ∀ R1 : List (List Nat), R1 ≠ [] → (∀ l ∈ R1, LabelOK l) → ((∃ u, H R1 = u ++ 46 :: (H R2 ++ v)) ↔ ∃ A B, A ≠ [] ∧ R1 = A ++ (R2 ++ B) ∧ H (R2 ++ B) = H R2 ++ v)
  | [], h, _ => absurd rfl h
  | [l], _, h1 => by
    have hl' := (h1 l (List.mem_cons_self ..)).nodot
    constructor
    · rintro ⟨u, e⟩
      have e' : l = u ++ 46 :: (H R2 ++ v) := e
      exact absurd (by rw [e']; simp) hl'
    · rintro ⟨A, B, hA, e, _⟩
      have := congrArg List.length e
      have h3 : 0 < A.length := List.length_pos_iff.mpr hA
      have h4 : 0 < R2.length := List.length_pos_iff.mpr hne
      simp at this
      omega
  | l :: k :: r, _, h1 => by
    have hl' := (h1 l (List.mem_cons_self ..)).nodot
    have h1' : ∀ l ∈ k :: r, LabelOK l := fun q hq => h1 q (List.mem_cons_of_mem _ hq)
    have ih := occ_iff hne hl h2 v (k :: r) (by simp) h1'
    constructor
    · rintro ⟨u, e⟩
      have e' : l ++ 46 :: H (k :: r) = u ++ 46 :: (H R2 ++ v) := e
      by_cases hu : 46 ∈ u
      · obtain ⟨u1, u2, hu1, rfl⟩ := first_dot hu
        rw [List.append_assoc, List.cons_append] at e'
        obtain ⟨rfl, e2⟩ := split_dot hl' hu1 e'
        obtain ⟨A, B, hA, eA, eB⟩ := ih.mp ⟨u2, e2⟩
        exact ⟨l :: A, B, by simp, by rw [eA]; rfl, eB⟩
      · obtain ⟨rfl, e2⟩ := split_dot hl' hu e'
        have hp : H R2 <+: H (k :: r) := ⟨v, e2.symm⟩
        obtain ⟨B, hB⟩ := H_prefix R2 (k :: r) hne (by simp) hl h2 h1' hp
        exact ⟨[l], B, by simp, by rw [← hB]; rfl, by rw [hB]; exact e2⟩
    · rintro ⟨A, B, hA, e, eB⟩
      rw [e, H_append A (by simp [hne]) hA]
      exact ⟨H A, by rw [eB]⟩

theorem suf_iff {R1 R2 : List (List Nat)} (hne : R2 ≠ []) (hl : R2.getLast? = some localC) (h2 : ∀ l ∈ R2, LabelOK l) (h1 : R1 ≠ []) (h1' : ∀ l ∈ R1, LabelOK l) :
    (∃ u, H R1 = u ++ 46 :: H R2) ↔ ∃ A, A ≠ [] ∧ R1 = A ++ R2 := by
  have := occ_iff hne hl h2 [] R1 h1 h1'
  simp only [List.append_nil] at this
  rw [this]
  constructor
  · rintro ⟨A, B, hA, e, eB⟩
    cases B with
    | nil => exact ⟨A, hA, by simpa using e⟩
    | cons b B =>
      rw [H_append R2 (by simp) hne] at eB
      have := congrArg List.length eB
      simp at this
  · rintro ⟨A, hA, e⟩
    exact ⟨A, [], hA, by simpa using e, by simp⟩
theorem inf_iff {R1 R2 : List (List Nat)} (hne : R2 ≠ []) (hl : R2.getLast? = some localC) (h2 : ∀ l ∈ R2, LabelOK l) (h1 : R1 ≠ []) (h1' : ∀ l ∈ R1, LabelOK l) :
    (∃ u v, H R1 = u ++ 46 :: (H R2 ++ v)) ↔ ∃ A B, A ≠ [] ∧ R1 = A ++ (R2 ++ B) := by
  constructor
  · rintro ⟨u, v, e⟩
    obtain ⟨A, B, hA, e, _⟩ := (occ_iff hne hl h2 v R1 h1 h1').mp ⟨u, e⟩
    exact ⟨A, B, hA, e⟩
  · rintro ⟨A, B, hA, e⟩
    obtain ⟨v, hv⟩ := H_prefix_of (R2 := R2) (B := B) hne
    obtain ⟨u, hu⟩ := (occ_iff hne hl h2 v R1 h1 h1').mpr ⟨A, B, hA, e, hv.symm⟩
    exact ⟨u, v, hu⟩

/-- rows of names: where the part lies in the whole, the whole's last name left out -/
theorem rows_iff {α : Type} [DecidableEq α] (W P : List α) : (∃ A B, A ≠ [] ∧ W.reverse = A ++ (P.reverse ++ B)) ↔ ∃ i, i < W.length - P.length ∧ (W.drop i).take P.length = P := by
  constructor
  · rintro ⟨A, B, hA, e⟩
    have e' : W = B.reverse ++ (P ++ A.reverse) := by
      have := congrArg List.reverse e
      simpa using this
    refine ⟨B.length, ?_, ?_⟩
    · have h3 : 0 < A.length := List.length_pos_iff.mpr hA
      rw [e']; simp; omega
    · rw [e', List.drop_left' (by simp)]
      simp
  · rintro ⟨i, hi, e⟩
    refine ⟨((W.drop i).drop P.length).reverse, (W.take i).reverse, ?_, ?_⟩
    · intro h
      have : ((W.drop i).drop P.length).length = 0 := by rw [List.reverse_eq_nil_iff.mp h]; rfl
      simp at this
      omega
    · have h1 : W = W.take i ++ (P ++ (W.drop i).drop P.length) := by
        conv => lhs; rw [← List.take_append_drop i W]
        congr 1
        conv => lhs; rw [← List.take_append_drop P.length (W.drop i), e]
      conv => lhs; rw [h1]
      simp
theorem rows_zero {α : Type} [DecidableEq α] (W P : List α) : (∃ A, A ≠ [] ∧ W.reverse = A ++ P.reverse) ↔ 0 < W.length - P.length ∧ W.take P.length = P := by
  constructor
  · rintro ⟨A, hA, e⟩
    have e' : W = P ++ A.reverse := by
      have := congrArg List.reverse e
      simpa using this
    have h3 : 0 < A.length := List.length_pos_iff.mpr hA
    refine ⟨by rw [e']; simp; omega, by rw [e']; simp⟩
  · rintro ⟨h, e⟩
    refine ⟨(W.drop P.length).reverse, ?_, ?_⟩
    · intro q
      have : (W.drop P.length).length = 0 := by rw [List.reverse_eq_nil_iff.mp q]; rfl
      simp at this
      omega
    · have h1 : W = P ++ W.drop P.length := by
        conv => lhs; rw [← List.take_append_drop P.length W, e]
      conv => lhs; rw [h1]
      simp
end Mine

/-! part P7 -/
open PySem PySem.W PyProof.Rows PySem.Spec PySem.Calls
namespace Mine
def IsName (n : Str) : Prop := n ∈ [Str.ofString "a", Str.ofString "A\"", Str.ofString "local", Str.ofString "\"", Str.ofString "a\"", Str.ofString "7"]
/-- the host of a place: its names from behind, local last -/
def hostOf (st : List Str) : Str := st.foldl (fun h n => (n ++ Str.ofString ".") ++ h) (Str.ofString "local")
abbrev cL (x : Str) : List Nat := x.cps.toList

theorem cL_app (x y : Str) : cL (x ++ y) = cL x ++ cL y := by
  show (x ++ y).cps.toList = _
  rw [PySem.Str.cps_append, Array.toList_append]
theorem cL_len (x : Str) : (cL x).length = x.length := by simp [Str.length]
theorem cL_inj {x y : Str} (h : cL x = cL y) : x = y := PySem.Str.ext' (Array.toList_inj.mp h)
theorem cL_dot : cL (Str.ofString ".") = [46] := by decide
theorem cL_local : cL (Str.ofString "local") = localC := by decide
theorem cL_slash : cL (Str.ofString "/") = [47] := by decide
theorem cL_empty : cL (Str.ofString "") = [] := by decide

theorem host_nil : hostOf [] = Str.ofString "local" := rfl
theorem host_snoc (st : List Str) (n : Str) : hostOf (st ++ [n]) = (n ++ Str.ofString ".") ++ hostOf st := by simp [hostOf]
theorem cL_host_snoc (st : List Str) (n : Str) : cL (hostOf (st ++ [n])) = cL n ++ 46 :: cL (hostOf st) := by
  rw [host_snoc, cL_app, cL_app, cL_dot]; simp

theorem snoc_ind {P : List Str → Prop} (h0 : P []) (h1 : ∀ st n, P st → P (st ++ [n])) (st : List Str) : P st := by
  have : ∀ l : List Str, P l.reverse := by
    intro l
    induction l with
    | nil => exact h0
    | cons n l ih => rw [List.reverse_cons]; exact h1 _ _ ih
  have := this st.reverse
  rwa [List.reverse_reverse] at this

theorem cL_host (st : List Str) : cL (hostOf st) = H (st.reverse.map cL ++ [localC]) := by
  induction st using snoc_ind with
  | h0 => exact cL_local
  | h1 st n ih =>
    rw [cL_host_snoc, ih, List.reverse_append]
    simp only [List.reverse_cons, List.reverse_nil, List.nil_append, List.cons_append, List.map_cons]
    rw [H_cons _ (by simp)]

theorem H_map {f : Nat → Nat} (hf : f 46 = 46) : ∀ R : List (List Nat), (H R).map f = H (R.map (List.map f))
  | [] => rfl
  | [l] => rfl
  | l :: k :: r => by
    have := H_map hf (k :: r)
    show (l ++ 46 :: H (k :: r)).map f = l.map f ++ 46 :: H ((k :: r).map (List.map f))
    rw [← this]; simp [hf]

theorem name_ascii : ∀ n, IsName n → ∀ c ∈ cL n, c < 128 := by
  intro n hn
  unfold IsName at hn
  simp only [List.mem_cons, List.not_mem_nil, or_false] at hn
  rcases hn with rfl | rfl | rfl | rfl | rfl | rfl <;> decide
theorem name_len : ∀ n, IsName n → n.length ≤ 5 := by
  intro n hn
  unfold IsName at hn
  simp only [List.mem_cons, List.not_mem_nil, or_false] at hn
  rcases hn with rfl | rfl | rfl | rfl | rfl | rfl <;> decide
theorem name_head : ∀ n, IsName n → (cL n).head? ≠ some 46 ∧ cL n ≠ [] ∧ 46 ∉ cL n := by
  intro n hn
  unfold IsName at hn
  simp only [List.mem_cons, List.not_mem_nil, or_false] at hn
  rcases hn with rfl | rfl | rfl | rfl | rfl | rfl <;> decide
theorem name_label : ∀ n, IsName n → LabelOK ((cL n).map lo1) := by
  intro n hn
  unfold IsName at hn
  simp only [List.mem_cons, List.not_mem_nil, or_false] at hn
  rcases hn with rfl | rfl | rfl | rfl | rfl | rfl <;> exact ⟨by decide, by decide⟩
theorem local_label : LabelOK localC := ⟨by decide, by decide⟩

def Names (st : List Str) : Prop := ∀ n ∈ st, IsName n
theorem Names.drop {st : List Str} (h : Names st) : Names st.dropLast := fun n hn => h n (List.dropLast_subset _ hn)
theorem Names.snoc {st : List Str} {n : Str} (h : Names st) (hn : IsName n) : Names (st ++ [n]) := by
  intro k hk
  rcases List.mem_append.mp hk with hk | hk
  · exact h k hk
  · rw [List.mem_singleton.mp hk]; exact hn
theorem Names.init {st : List Str} {n : Str} (h : Names (st ++ [n])) : Names st ∧ IsName n := ⟨fun k hk => h k (List.mem_append.mpr (.inl hk)), h n (List.mem_append.mpr (.inr (List.mem_singleton.mpr rfl)))⟩

theorem host_ascii {st : List Str} (h : Names st) : ∀ c ∈ cL (hostOf st), c < 128 := by
  induction st using snoc_ind with
  | h0 => rw [host_nil, cL_local]; decide
  | h1 st n ih =>
    obtain ⟨h1, h2⟩ := h.init
    intro c hc
    rw [cL_host_snoc] at hc
    rcases List.mem_append.mp hc with hc | hc
    · exact name_ascii n h2 c hc
    · rcases List.mem_cons.mp hc with rfl | hc
      · decide
      · exact ih h1 c hc
theorem host_len {st : List Str} (h : Names st) : (hostOf st).length ≤ 6 * st.length + 5 := by
  induction st using snoc_ind with
  | h0 => decide
  | h1 st n ih =>
    obtain ⟨h1, h2⟩ := h.init
    have := name_len n h2
    have := ih h1
    rw [host_snoc, Str.length_append, Str.length_append, List.length_append]
    have e : (Str.ofString ".").length = 1 := by decide
    simp only [List.length_cons, List.length_nil]
    omega
theorem host_tail (st : List Str) : ∃ u, cL (hostOf st) = u ++ localC := by
  induction st using snoc_ind with
  | h0 => exact ⟨[], by rw [host_nil, cL_local]; rfl⟩
  | h1 st n ih =>
    obtain ⟨u, hu⟩ := ih
    exact ⟨cL n ++ 46 :: u, by rw [cL_host_snoc, hu]; simp⟩
theorem host_head {st : List Str} (h : Names st) : (cL (hostOf st)).head? ≠ some 46 := by
  induction st using snoc_ind with
  | h0 => rw [host_nil, cL_local]; decide
  | h1 st n _ =>
    obtain ⟨_, h2⟩ := h.init
    obtain ⟨h3, h4, _⟩ := name_head n h2
    rw [cL_host_snoc, List.head?_append]
    cases hc : (cL n).head? with
    | none => rw [List.head?_eq_none_iff] at hc; exact absurd hc h4
    | some c => rw [hc] at h3; simpa using h3

theorem cL_lower {x : Str} (h : ∀ c ∈ cL x, c < 128) : cL (Txt.lower x) = (cL x).map lo1 := by
  rw [lower_ascii h]; exact Array.toList_map
theorem lower_len {x : Str} (h : ∀ c ∈ cL x, c < 128) : (Txt.lower x).length = x.length := by
  rw [← cL_len, ← cL_len, cL_lower h, List.length_map]
theorem tail_of {x : Str} (hx : ∃ u, cL x = u ++ localC) : Tail x := by
  obtain ⟨u, hu⟩ := hx
  intro p hp
  have hsz : x.cps.size = u.length + 5 := by
    have := congrArg List.length hu
    simpa using this
  have hg : x.cps.getD p 0 = 108 := by
    have e1 : x.cps.getD p 0 = (cL x).getD p 0 := by
      simp [Array.getD_eq_getD_getElem?, List.getD_eq_getElem?_getD]
    rw [e1, hu, List.getD_eq_getElem?_getD, List.getElem?_append_right (by omega)]
    have : p - u.length = 4 := by omega
    rw [this]; rfl
  rw [hg]
  exact ⟨by decide, by decide⟩
theorem one_ne {c d : Nat} (h : c ≠ d) : ((⟨#[c]⟩ : Str) == ⟨#[d]⟩) = false := by
  have : (⟨#[c]⟩ : Str) ≠ ⟨#[d]⟩ := by
    intro q
    apply h
    have := congrArg (fun s : Str => s.cps.toList) q
    simpa using this
  simp [this]
theorem dot_eq : Str.ofString "." = ⟨#[46]⟩ := by decide
theorem hostT_of {x : Str} (hx : ∃ u, cL x = u ++ localC) (hh : (cL x).head? ≠ some 46) (hs : x.length < 16777216) : HostT x := by
  have ht := tail_of hx
  obtain ⟨u, hu⟩ := hx
  have hlen : x.length = u.length + 5 := by
    have := congrArg List.length hu
    rw [cL_len] at this; simpa using this
  refine ⟨ht, hs, by omega, ?_, ?_, ?_⟩
  · have : x ≠ Str.ofString "" := by
      intro e
      rw [e] at hlen
      have : (Str.ofString "").length = 0 := by decide
      omega
    simp [this]
  · obtain ⟨c, e1, e2⟩ := item_at (x := x) (i := 0) (by omega) (by omega)
    rw [e1, dot_eq]
    refine one_ne fun hc => hh ?_
    have : cL x = c :: (cL x).drop 1 := by simpa using e2
    rw [this, hc]; rfl
  · have hlast : Txt.item x (-1) = ⟨#[108]⟩ := by
      unfold Txt.item Txt.charAt
      rw [StrLaws.at_neg (n := 108) (by omega) (by omega)]
      · rfl
      · rw [← Array.getElem?_toList]
        have : (-1 + (x.length : Int)).toNat = u.length + 4 := by omega
        rw [this]
        show (cL x)[u.length + 4]? = some 108
        rw [hu, List.getElem?_append_right (by omega)]
        simp
    rw [hlast, dot_eq]
    exact one_ne (by decide)
theorem map_tail {l : List Nat} (h : ∃ u, l = u ++ localC) : ∃ u, l.map lo1 = u ++ localC := by
  obtain ⟨u, rfl⟩ := h
  exact ⟨u.map lo1, by rw [List.map_append]; rfl⟩
theorem lo1_dot {c : Nat} (h : c ≠ 46) : lo1 c ≠ 46 := by
  unfold lo1; split <;> omega
theorem map_head {l : List Nat} (h : l.head? ≠ some 46) : (l.map lo1).head? ≠ some 46 := by
  cases l with
  | nil => simp
  | cons c l =>
    have : c ≠ 46 := by simpa using h
    simpa using lo1_dot this

section
variable {st : List Str}
theorem host_ok (h : Names st) (hl : st.length ≤ 10) : HostT (hostOf st) := hostT_of (host_tail st) (host_head h) (by have := host_len h; omega)
theorem lower_ok (h : Names st) (hl : st.length ≤ 10) : HostT (Txt.lower (hostOf st)) := by
  have ha := host_ascii h
  refine hostT_of ?_ ?_ ?_
  · rw [cL_lower ha]; exact map_tail (host_tail st)
  · rw [cL_lower ha]; exact map_head (host_head h)
  · rw [lower_len ha]; have := host_len h; omega
theorem dotted_ascii (h : Names st) : ∀ c ∈ cL (Str.ofString "." ++ hostOf st), c < 128 := by
  intro c hc
  rw [cL_app, cL_dot] at hc
  rcases List.mem_append.mp hc with hc | hc
  · rw [List.mem_singleton.mp hc]; decide
  · exact host_ascii h c hc
theorem cL_dotted (h : Names st) : cL (Txt.lower (Str.ofString "." ++ hostOf st)) = 46 :: cL (Txt.lower (hostOf st)) := by
  rw [cL_lower (dotted_ascii h), cL_lower (host_ascii h), cL_app, cL_dot]
  rfl
theorem lower_dotted (h : Names st) : Txt.lower (Str.ofString "." ++ hostOf st) = Str.ofString "." ++ Txt.lower (hostOf st) :=
  cL_inj (by rw [cL_dotted h, cL_app, cL_dot]; rfl)
theorem dotted_starts (h : Names st) : Txt.startswith (Txt.lower (Str.ofString "." ++ hostOf st)) (Str.ofString ".") = true := by
  rw [lower_dotted h]; exact KT.starts_app _ _
theorem dotted_len (_h : Names st) : (Str.ofString "." ++ hostOf st).length = (hostOf st).length + 1 := by
  rw [Str.length_append]
  have e : (Str.ofString ".").length = 1 := by decide
  omega
theorem slice_one (x : Str) : Txt.slice (Str.ofString "." ++ x) (some 1) none = x := by
  have e : Txt.slice (Str.ofString "." ++ x) (some 1) none = StrLaws.sliceText (Str.ofString "." ++ x) (some 1) none := rfl
  rw [e, StrLaws.sliceText_from ⟨by omega, by show (1 : Int) ≤ ((cL (Str.ofString "." ++ x)).length : Int); rw [cL_app, cL_dot]; simp; omega⟩]
  apply cL_inj
  show ((cL (Str.ofString "." ++ x)).drop 1).take _ = cL x
  have h2 : ((((cL (Str.ofString "." ++ x)).length : Int) - 1).toNat) = (cL x).length := by rw [cL_app, cL_dot]; simp
  rw [h2, cL_app, cL_dot]
  exact List.take_length
theorem slice_dot (x : Str) : Txt.slice (Str.ofString "." ++ x) none (some 1) = Str.ofString "." := by
  have e : Txt.slice (Str.ofString "." ++ x) none (some 1) = StrLaws.sliceText (Str.ofString "." ++ x) none (some 1) := rfl
  rw [e, StrLaws.sliceText_to ⟨by omega, by show (1 : Int) ≤ ((cL (Str.ofString "." ++ x)).length : Int); rw [cL_app, cL_dot]; simp; omega⟩]
  apply cL_inj
  show (((cL (Str.ofString "." ++ x)).drop 0).take 1) = cL (Str.ofString ".")
  rw [cL_app, cL_dot]
  simp
theorem lower_ne {b : List Str} (hb : Names b) (h : Names st) : (Txt.lower (hostOf b) == Txt.lower (Str.ofString "." ++ hostOf st)) = false := by
  have : Txt.lower (hostOf b) ≠ Txt.lower (Str.ofString "." ++ hostOf st) := by
    intro e
    have h1 := congrArg cL e
    rw [cL_dotted h, cL_lower (host_ascii hb)] at h1
    exact map_head (host_head hb) (by rw [h1]; rfl)
  simp [this]
end

/-- the names from the root on, small letters -/
def wholeS (st : List Str) : List Str := Str.ofString "local" :: st.map Txt.lower
def startsS (b o : List Str) : List Int := startsI (wholeS b) (wholeS o) (rangeKs 0 ((b.length : Int) - (o.length : Int)).toNat)
theorem startsF_eq (s1 s2 : List (Str × Tok)) : startsF s1 s2 = startsS (s1.map (·.1)) (s2.map (·.1)) := by
  unfold startsF startsS wholeL wholeS
  simp only [List.map_map, List.length_map]
  rfl
theorem mem_starts {W P : List Str} {n : Nat} {i : Int} : i ∈ startsI W P (rangeKs 0 n) ↔ ∃ j : Nat, i = (j : Int) ∧ j < n ∧ (W.drop j).take P.length = P := by
  unfold startsI rangeKs
  rw [List.mem_filter, List.mem_map]
  constructor
  · rintro ⟨⟨j, hj, rfl⟩, h2⟩
    refine ⟨j, by omega, List.mem_range.mp hj, ?_⟩
    have : ((0 : Int) + (j : Int)).toNat = j := by omega
    rw [this] at h2
    exact of_decide_eq_true h2
  · rintro ⟨j, rfl, hj, h2⟩
    exact ⟨⟨j, List.mem_range.mpr hj, by omega⟩, decide_eq_true (by simpa using h2)⟩

/-- the labels of a host, small letters, as they stand -/
def labels (st : List Str) : List (List Nat) := st.reverse.map (fun n => (cL n).map lo1) ++ [localC]
theorem labels_ne (st : List Str) : labels st ≠ [] := by simp [labels]
theorem labels_last (st : List Str) : (labels st).getLast? = some localC := by simp [labels]
theorem labels_ok {st : List Str} (h : Names st) : ∀ l ∈ labels st, LabelOK l := by
  intro l hl
  unfold labels at hl
  rcases List.mem_append.mp hl with hl | hl
  · obtain ⟨n, hn, rfl⟩ := List.mem_map.mp hl
    exact name_label n (h n (List.mem_reverse.mp hn))
  · rw [List.mem_singleton.mp hl]; exact local_label
theorem cL_low {st : List Str} (h : Names st) : cL (Txt.lower (hostOf st)) = H (labels st) := by
  rw [cL_lower (host_ascii h), cL_host, H_map (by decide)]
  unfold labels
  simp only [List.map_append, List.map_map, List.map_cons, List.map_nil]
  rfl
theorem whole_labels {st : List Str} (h : Names st) : (wholeS st).map cL = (labels st).reverse := by
  unfold wholeS labels
  simp only [List.map_cons, List.map_map, List.reverse_append, List.reverse_cons, List.reverse_nil, List.nil_append, List.singleton_append, cL_local, List.reverse_reverse, ← List.map_reverse]
  congr 1
  apply List.map_congr_left
  intro n hn
  exact cL_lower (name_ascii n (h n hn))
theorem cL_injective : Function.Injective cL := fun _ _ h => cL_inj h
theorem part_iff {b o : List Str} (hb : Names b) (ho : Names o) (i : Nat) : ((wholeS b).drop i).take (wholeS o).length = wholeS o ↔ (((labels b).reverse.drop i).take (labels o).reverse.length = (labels o).reverse) := by
  rw [← whole_labels hb, ← whole_labels ho, List.length_map, ← List.map_drop, ← List.map_take]
  exact (List.map_inj_right (fun _ _ h => cL_inj h)).symm
theorem labels_len (st : List Str) : (labels st).length = st.length + 1 := by simp [labels]

theorem starts_ne {b o : List Str} (hb : Names b) (ho : Names o) : startsS b o ≠ [] ↔ ∃ u v, cL (Txt.lower (hostOf b)) = u ++ 46 :: (cL (Txt.lower (hostOf o)) ++ v) := by
  rw [cL_low hb, cL_low ho, inf_iff (labels_ne o) (labels_last o) (labels_ok ho) (labels_ne b) (labels_ok hb)]
  have := rows_iff (labels b).reverse (labels o).reverse
  rw [List.reverse_reverse, List.reverse_reverse] at this
  rw [this]
  constructor
  · intro h
    obtain ⟨i, hi⟩ := List.exists_mem_of_ne_nil _ h
    obtain ⟨j, rfl, hj, e⟩ := mem_starts.mp hi
    exact ⟨j, by rw [List.length_reverse, List.length_reverse, labels_len, labels_len]; omega, (part_iff hb ho j).mp e⟩
  · rintro ⟨j, hj, e⟩
    rw [List.length_reverse, List.length_reverse, labels_len, labels_len] at hj
    exact List.ne_nil_of_mem (mem_starts.mpr ⟨j, rfl, by omega, (part_iff hb ho j).mpr e⟩)
theorem starts_zero {b o : List Str} (hb : Names b) (ho : Names o) : (0 : Int) ∈ startsS b o ↔ ∃ u, cL (Txt.lower (hostOf b)) = u ++ 46 :: cL (Txt.lower (hostOf o)) := by
  rw [cL_low hb, cL_low ho, suf_iff (labels_ne o) (labels_last o) (labels_ok ho) (labels_ne b) (labels_ok hb)]
  have := rows_zero (labels b).reverse (labels o).reverse
  rw [List.reverse_reverse, List.reverse_reverse] at this
  rw [this]
  constructor
  · intro hi
    obtain ⟨j, h0, hj, e⟩ := mem_starts.mp hi
    have : j = 0 := by omega
    subst this
    exact ⟨by rw [List.length_reverse, List.length_reverse, labels_len, labels_len]; omega, by simpa using (part_iff hb ho 0).mp e⟩
  · rintro ⟨hj, e⟩
    rw [List.length_reverse, List.length_reverse, labels_len, labels_len] at hj
    exact mem_starts.mpr ⟨0, rfl, by omega, (part_iff hb ho 0).mpr (by simpa using e)⟩

theorem at_iff (x y : Str) (i : Nat) : StrLaws.At x y x.length i ↔ ∃ u v, u.length = i ∧ cL x = u ++ (cL y ++ v) := by
  unfold StrLaws.At
  rw [StrLaws.subAt_eq]
  constructor
  · rintro ⟨h1, h2⟩
    have h2 : ((cL x).drop i).take y.length = cL y := beq_iff_eq.mp h2
    refine ⟨(cL x).take i, ((cL x).drop i).drop y.length, ?_, ?_⟩
    · rw [List.length_take, cL_len]; omega
    · conv => lhs; rw [← List.take_append_drop i (cL x)]
      congr 1
      conv => lhs; rw [← List.take_append_drop y.length ((cL x).drop i), h2]
  · rintro ⟨u, v, rfl, e⟩
    have hl := congrArg List.length e
    rw [cL_len, List.length_append, List.length_append, cL_len] at hl
    refine ⟨by omega, beq_iff_eq.mpr ?_⟩
    show ((cL x).drop u.length).take y.length = cL y
    rw [e, List.drop_left, ← cL_len y, List.take_left]

theorem ends_iff {b o : List Str} (hb : Names b) (ho : Names o) : Txt.endswith (Txt.lower (hostOf b)) (Txt.lower (Str.ofString "." ++ hostOf o)) = decide ((0 : Int) ∈ startsS b o) := by
  rw [Bool.eq_iff_iff, decide_eq_true_eq, starts_zero hb ho]
  unfold Txt.endswith
  rw [Bool.and_eq_true, decide_eq_true_eq, StrLaws.subAt_eq]
  constructor
  · rintro ⟨h1, h2⟩
    have h2 := beq_iff_eq.mp h2
    refine ⟨(cL (Txt.lower (hostOf b))).take ((Txt.lower (hostOf b)).length - (Txt.lower (Str.ofString "." ++ hostOf o)).length), ?_⟩
    rw [← cL_dotted ho]
    conv => lhs; rw [← List.take_append_drop ((Txt.lower (hostOf b)).length - (Txt.lower (Str.ofString "." ++ hostOf o)).length) (cL (Txt.lower (hostOf b)))]
    congr 1
    rw [List.take_of_length_le (by rw [List.length_drop]; show (cL (Txt.lower (hostOf b))).length - _ ≤ _; rw [cL_len]; omega)] at h2
    exact h2
  · rintro ⟨u, e⟩
    rw [← cL_dotted ho] at e
    have hl := congrArg List.length e
    rw [cL_len, List.length_append, cL_len] at hl
    refine ⟨by omega, beq_iff_eq.mpr ?_⟩
    show ((cL (Txt.lower (hostOf b))).drop _).take _ = _
    have : (Txt.lower (hostOf b)).length - (Txt.lower (Str.ofString "." ++ hostOf o)).length = u.length := by omega
    rw [this, e, List.drop_left, List.take_of_length_le (by rw [cL_len]; omega)]
theorem rfind_iff {b o : List Str} (hb : Names b) (ho : Names o) : decide (0 < Txt.rfind (Txt.lower (hostOf b)) (Txt.lower (Str.ofString "." ++ hostOf o))) = decide (startsS b o ≠ []) := by
  rw [Bool.eq_iff_iff, decide_eq_true_eq, decide_eq_true_eq, starts_ne hb ho]
  unfold Txt.rfind
  rcases StrLaws.last_spec (Txt.lower (hostOf b)) (Txt.lower (Str.ofString "." ++ hostOf o)) with ⟨e, hn⟩ | ⟨i, e, hi, _⟩
  · rw [e]
    constructor
    · intro h; exact absurd h (by decide)
    · rintro ⟨u, v, h⟩
      exact absurd ((at_iff _ _ u.length).mpr ⟨u, v, rfl, by rw [cL_dotted ho]; exact h⟩) (hn _)
  · rw [e]
    obtain ⟨u, v, hu, h⟩ := (at_iff _ _ i).mp hi
    rw [cL_dotted ho] at h
    constructor
    · intro _; exact ⟨u, v, h⟩
    · intro _
      show (0 : Int) < (i : Int)
      have : i ≠ 0 := by
        intro h0
        have : u = [] := List.length_eq_zero_iff.mp (by omega)
        rw [this, cL_lower (host_ascii hb)] at h
        exact map_head (host_head hb) (by rw [h]; rfl)
      omega
end Mine

/-! part P8 -/
open PySem PySem.W PyProof.Rows PySem.Spec PySem.Calls
namespace Mine
theorem nameDot {st : List Str} {n : Str} (h : IsName n) : Txt.find (hostOf (st ++ [n])) (Str.ofString ".") = (n.length : Int) := by
  obtain ⟨_, _, hd⟩ := name_head n h
  have hc := cL_host_snoc st n
  rcases find_whole (hostOf (st ++ [n])) (Str.ofString ".") with ⟨_, hn⟩ | ⟨i, e, hi, hk⟩
  · exact absurd ((at_iff _ _ _).mpr ⟨cL n, cL (hostOf st), rfl, by rw [cL_dot]; exact hc⟩) (hn _)
  · rw [e]
    obtain ⟨u, v, hu, h2⟩ := (at_iff _ _ _).mp hi
    rw [cL_dot] at h2
    have h3 : ¬ (cL n).length < i := by
      intro hlt
      exact hk _ hlt ((at_iff _ _ _).mpr ⟨cL n, cL (hostOf st), rfl, by rw [cL_dot]; exact hc⟩)
    rw [hc] at h2
    have h4 : 46 ∉ u := by
      intro hm
      have : u <+: cL n := by
        have h5 : u <+: cL n ++ 46 :: cL (hostOf st) := ⟨46 :: v, by rw [h2]; simp⟩
        exact List.prefix_of_prefix_length_le h5 ⟨_, rfl⟩ (by omega)
      exact hd (this.subset hm)
    have := (split_dot hd h4 (by simpa using h2)).1
    rw [← hu, ← this, cL_len]
theorem noDot : ¬ 0 ≤ Txt.find (hostOf []) (Str.ofString ".") := by
  rcases find_whole (hostOf []) (Str.ofString ".") with ⟨e, _⟩ | ⟨i, e, hi, _⟩
  · rw [e]; decide
  · obtain ⟨u, v, _, h2⟩ := (at_iff _ _ _).mp hi
    rw [cL_dot, host_nil, cL_local] at h2
    have : 46 ∈ localC := by rw [h2]; simp
    exact absurd this (by decide)
theorem slice_behind {st : List Str} {n : Str} : Txt.slice (hostOf (st ++ [n])) (some ((n.length : Int) + 1)) none = hostOf st := by
  have e : Txt.slice (hostOf (st ++ [n])) (some ((n.length : Int) + 1)) none = StrLaws.sliceText (hostOf (st ++ [n])) (some ((n.length : Int) + 1)) none := rfl
  have hc := cL_host_snoc st n
  have hl : (cL (hostOf (st ++ [n]))).length = n.length + 1 + (cL (hostOf st)).length := by
    rw [hc, List.length_append, List.length_cons, cL_len]; omega
  rw [e, StrLaws.sliceText_from ⟨by omega, by show _ ≤ ((cL (hostOf (st ++ [n]))).length : Int); rw [hl]; omega⟩]
  apply cL_inj
  show ((cL (hostOf (st ++ [n]))).drop ((n.length : Int) + 1).toNat).take _ = _
  have h1 : ((n.length : Int) + 1).toNat = (cL n).length + 1 := by rw [cL_len]; omega
  have h2 : (((cL (hostOf (st ++ [n]))).length : Int) - ((n.length : Int) + 1)).toNat = (cL (hostOf st)).length := by rw [hl]; omega
  rw [h1]
  show List.take (((cL (hostOf (st ++ [n]))).length : Int) - ((n.length : Int) + 1)).toNat _ = _
  rw [h2, hc]
  have : (cL n ++ 46 :: cL (hostOf st)).drop ((cL n).length + 1) = cL (hostOf st) := by
    rw [← List.drop_drop, List.drop_left]; rfl
  rw [this]
  exact List.take_length
theorem reach_root : reachF (hostOf []) = hostOf [] := by
  unfold reachF
  rw [if_neg noDot]
theorem reach_snoc {st : List Str} {n : Str} (h : Names (st ++ [n])) : reachF (hostOf (st ++ [n])) = Str.ofString "." ++ hostOf st := by
  obtain ⟨h1, h2⟩ := h.init
  unfold reachF
  rw [nameDot h2, slice_behind, if_pos (by omega), if_pos]
  rcases List.eq_nil_or_concat st with rfl | ⟨st', m, rfl⟩
  · right; rw [host_nil]; simp
  · left
    rw [List.concat_eq_append] at h1 ⊢
    rw [nameDot h1.init.2]; omega

/-! the path, its reply, and what is read out of it -/
theorem H_inj : ∀ (R r : List (List Nat)), R ≠ [] → r ≠ [] → (∀ l ∈ R, 46 ∉ l) → (∀ l ∈ r, 46 ∉ l) → H R = H r → R = r
  | [], _, h, _, _, _, _ => absurd rfl h
  | _, [], _, h, _, _, _ => absurd rfl h
  | [x], [y], _, _, _, _, e => by rw [show x = y from e]
  | [x], y :: k :: r, _, _, h1, _, e => absurd (show 46 ∈ x by rw [show x = y ++ 46 :: H (k :: r) from e]; simp) (h1 x (List.mem_cons_self ..))
  | x :: k :: R, [y], _, _, _, h2, e => absurd (show 46 ∈ y by rw [← show x ++ 46 :: H (k :: R) = y from e]; simp) (h2 y (List.mem_cons_self ..))
  | x :: k :: R, y :: j :: r, _, _, h1, h2, e => by
    obtain ⟨rfl, e2⟩ := split_dot (h1 x (List.mem_cons_self ..)) (h2 y (List.mem_cons_self ..)) (show x ++ 46 :: H (k :: R) = y ++ 46 :: H (j :: r) from e)
    rw [H_inj (k :: R) (j :: r) (by simp) (by simp) (fun l hl => h1 l (List.mem_cons_of_mem _ hl)) (fun l hl => h2 l (List.mem_cons_of_mem _ hl)) e2]
theorem cL_join : ∀ l : List Str, l ≠ [] → cL (Str.join (Str.ofString ".") l) = H (l.map cL)
  | [], h => absurd rfl h
  | [x], _ => rfl
  | x :: y :: r, _ => by
    have := cL_join (y :: r) (by simp)
    show cL (x ++ Str.ofString "." ++ Str.join (Str.ofString ".") (y :: r)) = cL x ++ 46 :: H ((y :: r).map cL)
    rw [cL_app, cL_app, cL_dot, this]; simp
theorem split_host {st : List Str} (h : Names st) : Txt.split (hostOf st) (Str.ofString ".") = st.reverse ++ [Str.ofString "local"] := by
  have hj := StrLaws.join_split (hostOf st) (Str.ofString ".")
  have hf := StrLaws.split_free (hostOf st) 46
  rw [← dot_eq] at hf
  have hne : Txt.split (hostOf st) (Str.ofString ".") ≠ [] := by
    have := split_pos (hostOf st) (Str.ofString ".")
    intro e; rw [e] at this; simp at this
  have h1 := congrArg cL hj
  rw [cL_join _ hne, cL_host] at h1
  have h2 := H_inj _ _ (by simpa using hne) (by simp) (fun l hl => by obtain ⟨p, hp, rfl⟩ := List.mem_map.mp hl; exact hf p hp) (fun l hl => by
    rcases List.mem_append.mp hl with hl | hl
    · obtain ⟨n, hn, rfl⟩ := List.mem_map.mp hl
      exact (name_head n (h n (List.mem_reverse.mp hn))).2.2
    · rw [List.mem_singleton.mp hl]; decide) h1
  have h3 : st.reverse.map cL ++ [localC] = (st.reverse ++ [Str.ofString "local"]).map cL := by simp [cL_local]
  rw [h3] at h2
  exact (List.map_inj_right (fun _ _ h => cL_inj h)).mp h2
theorem cL_path (st : List Str) : cL (pathOf st.reverse) = st.flatMap fun n => 47 :: cL n := by
  unfold pathOf
  rw [List.foldl_reverse]
  induction st with
  | nil => exact cL_empty
  | cons n st ih =>
    rw [List.foldr_cons, List.flatMap_cons]
    unfold pathStep at ih ⊢
    rw [cL_app, cL_app, cL_slash, ih]
    simp
theorem cL_joinS : ∀ (n : Str) (st : List Str), cL (Str.ofString "/" ++ Str.join (Str.ofString "/") (n :: st)) = (n :: st).flatMap fun n => 47 :: cL n
  | n, [] => by
    show cL (Str.ofString "/" ++ n) = _
    rw [cL_app, cL_slash]; simp
  | n, m :: st => by
    have ih := cL_joinS m st
    show cL (Str.ofString "/" ++ (n ++ Str.ofString "/" ++ Str.join (Str.ofString "/") (m :: st))) = _
    rw [cL_app, cL_slash] at ih
    rw [cL_app, cL_app, cL_app, cL_slash, List.flatMap_cons, ← ih]
    simp
theorem path_host {st : List Str} (h : Names st) : pathF (hostOf st) = Str.ofString "/" ++ Txt.join (Str.ofString "/") st := by
  have hj : Txt.join (Str.ofString "/") st = Str.join (Str.ofString "/") st := beq_iff_eq.mp (join_plain_closes _ _)
  rw [hj]
  have e : pathOf (Txt.split (hostOf st) (Str.ofString ".")).dropLast = pathOf st.reverse := by
    rw [split_host h, List.dropLast_concat]
  unfold pathF
  rw [e]
  cases st with
  | nil => decide
  | cons n st =>
    have hp := cL_path (n :: st)
    have hne : pathOf (n :: st).reverse ≠ Str.ofString "" := by
      intro q
      rw [q, cL_empty] at hp
      simp at hp
    rw [if_neg (by simpa using hne)]
    exact cL_inj (by rw [hp, cL_joinS])
theorem unq_quote : ∀ (l : List Nat) (r : List Nat), unq (quoteL l ++ 34 :: 32 :: r) = l
  | [], r => by simp [quoteL, unq]
  | c :: l, r => by
    have ih := unq_quote l r
    by_cases hc : c = 34
    · subst hc
      show unq (34 :: 34 :: (quoteL l ++ 34 :: 32 :: r)) = _
      rw [unq_two, ih]
    · have : quoteL (c :: l) = c :: quoteL l := by simp [quoteL, hc]
      rw [this, List.cons_append, unq_other hc, ih]
theorem cL_codes (x : Str) : cL (quoteI (KStt.codes x)) = quoteL (cL x) := by
  have e : (KStt.codes x).map Int.toNat = cL x := by
    unfold KStt.codes
    rw [List.map_map]
    exact (List.map_congr_left (g := _root_.id) fun c _ => Int.toNat_natCast c).trans (List.map_id _)
  unfold quoteI
  rw [e]
theorem cL_reply (x : Str) : cL (replyF x) = [50, 53, 55, 32, 34] ++ (quoteL (cL (pathF x)) ++ 34 :: 32 :: [34, 104, 101, 114, 101, 34]) := by
  unfold replyF
  rw [cL_app, cL_app, cL_codes]
  have e1 : cL (Str.ofString "257 \"") = [50, 53, 55, 32, 34] := by decide
  have e2 : cL (Str.ofString "\" \"here\"") = [34, 32, 34, 104, 101, 114, 101, 34] := by decide
  rw [e1, e2]; simp
theorem cL_unqS (x : Str) : cL (unqS x) = unq ((cL x).drop 5) := rfl
theorem parse_reply {st : List Str} (h : Names st) : unqS (replyF (hostOf st)) = Str.ofString "/" ++ Txt.join (Str.ofString "/") st := by
  rw [← path_host h]
  apply cL_inj
  rw [cL_unqS, cL_reply]
  generalize pathF (hostOf st) = p
  exact unq_quote _ _
theorem path_len {st : List Str} (h : Names st) : (cL (pathF (hostOf st))).length ≤ 6 * st.length + 1 := by
  have hj : Txt.join (Str.ofString "/") st = Str.join (Str.ofString "/") st := beq_iff_eq.mp (join_plain_closes _ _)
  rw [path_host h, hj]
  cases st with
  | nil => decide
  | cons n st =>
    rw [cL_joinS]
    have : ∀ l : List Str, Names l → (l.flatMap fun n => 47 :: cL n).length ≤ 6 * l.length := by
      intro l hl
      induction l with
      | nil => simp
      | cons a l ih =>
        have h1 := name_len a (hl a (List.mem_cons_self ..))
        have h2 := ih fun k hk => hl k (List.mem_cons_of_mem _ hk)
        rw [List.flatMap_cons, List.length_append, List.length_cons, List.length_cons, cL_len]
        omega
    have := this _ h
    omega
theorem reply_len {st : List Str} (h : Names st) (hl : st.length ≤ 10) : (replyF (hostOf st)).length < 1000 ∧ 5 ≤ (replyF (hostOf st)).length := by
  have h1 := path_len h
  have h2 := quoteL_len (cL (pathF (hostOf st)))
  have h3 := congrArg List.length (cL_reply (hostOf st))
  rw [cL_len] at h3
  simp only [List.length_append, List.length_cons, List.length_nil] at h3
  omega
theorem slice_to3 {x : Str} (h : 5 ≤ x.length) : cL (Txt.slice x none (some 3)) = (cL x).take 3 := by
  have e : Txt.slice x none (some 3) = StrLaws.sliceText x none (some 3) := rfl
  rw [e, StrLaws.sliceText_to ⟨by omega, by show _ ≤ ((cL x).length : Int); rw [cL_len]; omega⟩]
  rfl
theorem slice_3to5 {x : Str} (h : 5 ≤ x.length) : cL (Txt.slice x (some 3) (some 5)) = ((cL x).drop 3).take 2 := by
  have e : Txt.slice x (some 3) (some 5) = StrLaws.sliceText x (some 3) (some 5) := rfl
  rw [e, StrLaws.sliceText_plain ⟨by omega, by omega, by show _ ≤ ((cL x).length : Int); rw [cL_len]; omega⟩]
  rfl
theorem reply_257 {st : List Str} (h : Names st) (hl : st.length ≤ 10) : (Txt.slice (replyF (hostOf st)) none (some 3) != Str.ofString "257") = false := by
  have q : Txt.slice (replyF (hostOf st)) none (some 3) = Str.ofString "257" := by
    apply cL_inj
    rw [slice_to3 (reply_len h hl).2, cL_reply]
    generalize pathF (hostOf st) = p
    exact (by decide : [50, 53, 55] = cL (Str.ofString "257"))
  rw [q]; simp
theorem reply_mark {st : List Str} (h : Names st) (hl : st.length ≤ 10) : (Txt.slice (replyF (hostOf st)) (some 3) (some 5) != Str.ofString " \"") = false := by
  have q : Txt.slice (replyF (hostOf st)) (some 3) (some 5) = Str.ofString " \"" := by
    apply cL_inj
    rw [slice_3to5 (reply_len h hl).2, cL_reply]
    generalize pathF (hostOf st) = p
    exact (by decide : [32, 34] = cL (Str.ofString " \""))
  rw [q]; simp
end Mine

/-! part C6 -/
open PySem PySem.W PyProof.Rows PySem.Spec PySem.Calls
namespace Mine
section
variable {w : World} {mean : ExcName → Option Value} {mg mb : Str → Option Value} {news : List (Addr × Obj)}
theorem claim_of {k : Nat} {f : Addr} {pre pre' : Prop} {vs : List Value} {R R' : Tok → Value} (C : Claim k w mean mg mb f news pre vs R) (h : pre' → pre ∧ ∀ t, R t = R' t) : Claim k w mean mg mb f news pre' vs R' := by
  intro dp un gd cn cs a ccd cl outer A₀ base h₀ L m s Q E B F X N T hk hp hd hu hret
  obtain ⟨h1, h2⟩ := h hp
  exact C dp un gd cn cs a ccd cl outer A₀ base h₀ L m s Q E B F X N T hk h1 hd hu fun t h' tk' F' N' => by rw [h2]; exact hret t h' tk' F' N'
variable {st b o : List Str} {t u : Tok}
theorem reply_h : Claim 1 w mean mg mb 124 news (Names st ∧ st.length ≤ 10) [.str (hostOf st) t] (fun t => .str (replyF (hostOf st)) t) :=
  claim_of reply_c fun h => ⟨by have := host_len h.1; omega, fun _ => rfl⟩
theorem parse_h : Claim 1 w mean mg mb 103 news (Names st ∧ st.length ≤ 10) [.str (replyF (hostOf st)) t] (fun t => .str (Str.ofString "/" ++ Txt.join (Str.ofString "/") st) t) :=
  claim_of parse_c fun h => ⟨⟨(reply_len h.1 h.2).1, (reply_len h.1 h.2).2, reply_257 h.1 h.2, reply_mark h.1 h.2⟩, fun _ => by rw [parse_reply h.1]⟩
theorem reach_r : Claim 2 w mean mg mb 71 news True [.str (hostOf []) t] (fun t => .str (hostOf []) t) :=
  claim_of reach_c fun _ => ⟨host_ok (fun _ h => nomatch h) (Nat.zero_le _), fun _ => by rw [reach_root]⟩
theorem reach_s {n : Str} : Claim 2 w mean mg mb 71 news (Names (st ++ [n]) ∧ st.length ≤ 9) [.str (hostOf (st ++ [n])) t] (fun t => .str (Str.ofString "." ++ hostOf st) t) :=
  claim_of reach_c fun h => ⟨host_ok h.1 (by simp; exact h.2), fun _ => by rw [reach_snoc h.1]⟩
theorem udm_h : Claim 2 w mean mg mb 64 news (Names b ∧ b.length ≤ 10 ∧ Names o ∧ o.length ≤ 10) [.str (hostOf b) t, .str (Str.ofString "." ++ hostOf o) u] (fun _ => .bool (decide ((0 : Int) ∈ startsS b o))) :=
  claim_of udm_c fun h => by
    obtain ⟨h1, h2, h3, h4⟩ := h
    have l1 := host_len h1
    have l2 := host_len h3
    have l3 := dotted_len h3
    refine ⟨⟨by omega, by omega, ⟨(lower_ok h1 h2).tail, (lower_ok h1 h2).size⟩, ⟨tail_of ?_, ?_⟩, dotted_starts h3⟩, fun _ => by rw [ends_iff h1 h3]⟩
    · obtain ⟨v, hv⟩ := map_tail (host_tail o)
      exact ⟨46 :: v, by rw [cL_dotted h3, cL_lower (host_ascii h3), hv]; rfl⟩
    · rw [lower_len (dotted_ascii h3)]; omega
theorem dm_h : Claim 2 w mean mg mb 50 news (Names b ∧ b.length ≤ 10 ∧ Names o ∧ o.length ≤ 10) [.str (hostOf b) t, .str (Str.ofString "." ++ hostOf o) u] (fun _ => .bool (decide (startsS b o ≠ []))) :=
  claim_of dm_c fun h => by
    obtain ⟨h1, h2, h3, h4⟩ := h
    have l1 := host_len h1
    have l2 := host_len h3
    have l3 := dotted_len h3
    refine ⟨⟨by omega, by omega, lower_ok h1 h2, ?_, lower_ne h1 h3, dotted_starts h3⟩, fun _ => by rw [rfind_iff h1 h3]⟩
    rw [lower_dotted h3, slice_one]
    exact lower_ok h3 h4
end
end Mine

/-! part C7 -/
open PySem PySem.W PyProof.Rows PySem.Spec PySem.Calls
namespace Mine
abbrev tupOf (vs : List Value) : Obj := { cls := .type "tuple", data := .seq vs.toArray }
/-- a call that gives back a pair: a text and a new list of texts -/
abbrev ClaimP (k : Nat) (w : World) (mean : ExcName → Option Value) (mg mb : Str → Option Value) (f : Addr) (news : List (Addr × Obj)) (pre : Prop) (vs : List Value) (st : List Str) : Prop :=
  ∀ (dp un : Nat) (gd : Option (List Code)) (cn : Str) (cs : Scope) (a : Addr) (ccd : Value) (cl : List (Str × Addr)) (outer : List Env) (A₀ : Around) (base h₀ : Heap) (L : Addr) (m : Str → Option Value) (s : Shared) (Q E : Value → Shared → Prop),
    Below A₀ base outer h₀ → Fr h₀ L s.heap m → (hd.heap_39 w.params).In h₀ → News h₀ L s.heap news → Top hd.view_39 (looseW hd.view_39 [Str.ofString "IPV4_RE"]) mean mg mb h₀ → cs.kind = .function →
    pre → dp + k < recursionLimit → un + 8 * k < cLine →
    (∀ (T D : Addr) (zs : List (Str × Tok)) (tk : Tok) (n : Nat) (h' : Heap) (tk' : Nat), (∀ p ∈ news, p.1 < D) → (@LT.lt Nat _ D T) → Fr h₀ L h' m → News h₀ L h' ((T, tupOf [.str (hostOf st) tk, .ref D]) :: (D, listOf (strValues zs).toArray n) :: news) → zs.map (·.1) = st →
      Q (.ref T) { s with heap := h', toks := tk' }) →
      wpAny (model Challenge.rw_nb0159_01.row.prog w) (ktrTop dp un gd cn cs L a ccd cl outer) (call (.ref f) vs) Q E s
theorem pick_last (ys : List (Str × Tok)) : pickS ys none (some (-1)) = ys.dropLast := by
  unfold pickS kms_lo kms_hi
  simp [List.dropLast_eq_take]
theorem drop3 {h₀ h : Heap} {L : Addr} {a b c : Addr × Obj} {news : List (Addr × Obj)} (N : News h₀ L h (a :: b :: c :: news)) : News h₀ L h (a :: b :: news) := by
  intro p hp
  refine N p ?_
  rcases List.mem_cons.mp hp with rfl | hp
  · exact List.Mem.head _
  · rcases List.mem_cons.mp hp with rfl | hp
    · exact List.mem_cons_of_mem _ (List.Mem.head _)
    · exact List.mem_cons_of_mem _ (List.mem_cons_of_mem _ (List.mem_cons_of_mem _ hp))
theorem lt_news {D : Addr} {news : List (Addr × Obj)} (h : AllLt D news) : ∀ p ∈ news, p.1 < D := kst_ltOf h

local macro_rules | `(tactic| k_mem) => `(tactic| (first | assumption | (refine List.mem_cons_of_mem _ ?_; first | assumption | (refine List.mem_cons_of_mem _ ?_; first | assumption | (refine List.mem_cons_of_mem _ ?_; first | assumption | (refine List.mem_cons_of_mem _ ?_; first | assumption | (refine List.mem_cons_of_mem _ ?_; first | assumption | (refine List.mem_cons_of_mem _ ?_; first | assumption | (refine List.mem_cons_of_mem _ ?_; assumption)))))))))
local macro_rules | `(tactic| walk_at "subscriptTail Name Slice ref ref") => `(tactic| (k_here; (with_reducible show wpAny _ _ (subscriptTail _ (PySem.Expr.Slice _ _ none _) (Value.ref _) (Value.ref _)) _ _ _); k_dflt (refine' slice_strs ?F ?N ?l ?p ?q ?z ?_ ?s ?t; (case F => k_asm); (case N => k_asm); (case l => k_mem); (case p => kmk_part); (case q => kmk_part); (case z => omega); (case s => with_unfolding_all rfl); (case t => kmk_pure)); intro D' h' F' N' l1; (try k_lt l1)))
local macro_rules | `(tactic| walk_at "binaryOp Add ref ref") => `(tactic| (k_here; (with_reducible show wpAny _ _ (binaryOp _ (Value.ref _) (Value.ref _)) _ _ _); k_dflt (refine' add_tail ?k1 ?k2 ?k3 ?k4 ?k5 ?_; (case k1 => k_asm); (case k2 => k_asm); (case k3 => k_mem); (case k4 => k_mem); (case k5 => omega); k_whole); intro D' h' F' N' l1; (try k_lt l1)))
local macro_rules | `(tactic| walk_at "call ref") => `(tactic| (k_here; (with_reducible show wpAny _ _ (call (Value.ref 71) _) _ _ _); k_dflt (refine' claim_use reach_r ?k1 ?k2 ?k3 ?k4 ?k5 ?kK ?kp ?kd ?ku ?_; (case k1 => k_asm); (case k2 => k_asm); (case k3 => k_asm); (case k4 => k_asm); (case k5 => k_asm); (case kK => first | exact rfl | assumption); (case kp => trivial); (case kd => ktr_room); (case ku => ktr_units); k_whole; intro t9 h9 tk9 F9 N9; (try dsimp only); (try k_fold))))
local macro_rules | `(tactic| walk_at "call ref") => `(tactic| (k_here; (with_reducible show wpAny _ _ (call (Value.ref 71) _) _ _ _); k_dflt (refine' claim_use reach_s ?k1 ?k2 ?k3 ?k4 ?k5 ?kK ?kp ?kd ?ku ?_; (case k1 => k_asm); (case k2 => k_asm); (case k3 => k_asm); (case k4 => k_asm); (case k5 => k_asm); (case kK => first | exact rfl | assumption); (case kp => assumption); (case kd => ktr_room); (case ku => ktr_units); k_whole; intro t9 h9 tk9 F9 N9; (try dsimp only); (try k_fold))))

set_option maxRecDepth 100000 in
set_option maxHeartbeats 8000000 in
theorem up_root {w : World} {mean : ExcName → Option Value} {mg mb : Str → Option Value} {news : List (Addr × Obj)} {t : Tok} {a1 : Addr} {n1 : Nat} :
    ClaimP 3 w mean mg mb 117 news ((a1, listOf (strValues []).toArray n1) ∈ news) [.str (hostOf []) t, .ref a1] [] := by
  dsimp only [ClaimP]
  k_fill
  w_top off
  k_with_none
  intro dp un gd cn cs a ccd cl outer A₀ base h₀ L m s Q E B F X N T hk hpre hd hu hret
  have hw : (Txt.slice (hostOf []) none (some 1) == Str.ofString ".") = false := by decide
  have hz : (hostOf []).length ≤ 5 := by decide
  have hle : ([] : List (Str × Tok)).length ≤ 10 := by decide
  refine wpAny_call ?_
  k_dflt cell_enter
  k_steps
  rename News _ _ _ _ => N'
  exact hret _ _ _ _ _ _ _ (by assumption) (And.left (by assumption)) (by assumption) N' (by rw [pick_last]; rfl)

set_option maxRecDepth 100000 in
set_option maxHeartbeats 8000000 in
theorem up_snoc {w : World} {mean : ExcName → Option Value} {mg mb : Str → Option Value} {news : List (Addr × Obj)} {t : Tok} {a1 : Addr} {n1 : Nat} {st : List Str} {n : Str} {sv : List (Str × Tok)} :
    ClaimP 3 w mean mg mb 117 news ((a1, listOf (strValues sv).toArray n1) ∈ news ∧ sv.map (·.1) = st ++ [n] ∧ (Names (st ++ [n]) ∧ st.length ≤ 9)) [.str (hostOf (st ++ [n])) t, .ref a1] st := by
  dsimp only [ClaimP]
  k_fill
  w_top off
  k_with_none
  intro dp un gd cn cs a ccd cl outer A₀ base h₀ L m s Q E B F X N T hk hpre hd hu hret
  obtain ⟨hm, hsv, hok⟩ := hpre
  have hw : (Txt.slice (Str.ofString "." ++ hostOf st) none (some 1) == Str.ofString ".") = true := by rw [slice_dot]; simp
  have hz : (Str.ofString "." ++ hostOf st).length ≤ 100 := by
    have := host_len hok.1.init.1
    have := dotted_len hok.1.init.1
    omega
  have hle : sv.length ≤ 10 := by
    have := congrArg List.length hsv
    simp at this
    omega
  refine wpAny_call ?_
  k_dflt cell_enter
  k_steps
  rename News _ _ _ _ => N'
  rw [slice_one] at N'
  exact hret _ _ _ _ _ _ _ (by assumption) (And.left (by assumption)) (by assumption) N' (by rw [pick_last, List.map_dropLast, hsv, List.dropLast_concat])

set_option maxRecDepth 100000 in
set_option maxHeartbeats 8000000 in
theorem down_h {w : World} {mean : ExcName → Option Value} {mg mb : Str → Option Value} {news : List (Addr × Obj)} {t t2 : Tok} {a1 : Addr} {n1 : Nat} {st : List Str} {n : Str} {sv : List (Str × Tok)} :
    ClaimP 3 w mean mg mb 110 news ((a1, listOf (strValues sv).toArray n1) ∈ news ∧ sv.map (·.1) = st ∧ Names st ∧ IsName n ∧ st.length ≤ 9) [.str (hostOf st) t, .ref a1, .str n t2] (st ++ [n]) := by
  dsimp only [ClaimP]
  k_fill
  w_top off
  k_with_none
  intro dp un gd cn cs a ccd cl outer A₀ base h₀ L m s Q E B F X N T hk hpre hd hu hret
  obtain ⟨hm, hsv, hok, hn, hl⟩ := hpre
  have hz : (hostOf st).length ≤ 100 := by
    have := host_len hok
    omega
  have hnz := name_len n hn
  have hle : sv.length ≤ 10 := by
    have := congrArg List.length hsv
    simp at this
    omega
  refine wpAny_call ?_
  k_dflt cell_enter
  k_steps
  rename News _ _ _ _ => N'
  rw [← host_snoc] at N'
  exact hret _ _ (sv ++ [(n, t2)]) _ 0 _ _ (lt_news (And.right (by assumption))) (And.left (by assumption)) (by assumption) (drop3 N') (by rw [List.map_append, hsv]; rfl)
end Mine

/-! part C8a -/
open PySem PySem.W PyProof.Rows PySem.Spec PySem.Calls
namespace Mine
section
variable {prog : Program} {w : World} {A : Around} {E : Value → Shared → Prop} {s : Shared} {env : Env} {h₀ : Heap} {target : Expr} {body : List Stmt} {Q : Flow → Shared → Prop}
set_option maxHeartbeats 3200000 in
/-- a loop over a made list that stands, any target; the ledger stays -/
theorem led_turns {l : Addr} {vs : List Value} {nn : Nat} {m₀ : Str → Option Value} {news : List (Addr × Obj)} (J : Nat → (Str → Option Value) → Prop)
    (hh : A.handled = none) (hl : (l, listOf vs.toArray nn) ∈ news) (F : Fr h₀ env.locals s.heap m₀) (N : News h₀ env.locals s.heap news) (hj : J 0 m₀)
    (turn : ∀ i v m₁ h tk own, vs[i]? = some v → J i m₁ → Fr h₀ env.locals h m₁ → News h₀ env.locals h (news ++ own) → OwnOff own (news.map (·.1)) →
      wpAny (model prog w) A (assign target env v) (fun _ s₃ => wpAny (model prog w) A (execs body env) (InvPostG h₀ env.locals (fun m' nx => nx = news ∧ J (i + 1) m') own { s with heap := h, toks := tk } Q) E s₃) E { s with heap := h, toks := tk })
    (done : ∀ m₁ h tk, J vs.length m₁ → Fr h₀ env.locals h m₁ → News h₀ env.locals h news → Q .next { s with heap := h, toks := tk }) :
    wpAny (model prog w) A (pyIter (.ref l)) (fun it s₂ => TurnsAt prog w A h₀ env target body Q E it s₂) E s := by
  have hol : s.heap.get? l = some (listOf vs.toArray nn) := (N _ hl).1
  have hls : s.heap.IsList l vs.toArray := ⟨_, hol, rfl, nn, rfl⟩
  have hne : l ≠ s.heap.objs.size := Nat.ne_of_lt (Heap.lt_size hol)
  refine wpAny_pyIter_list hls ?_
  have W := Walks.list (prog := prog) (w := w) hh s.heap.objs.size l hne vs.toArray
  have hlen : vs.toArray.size = vs.length := by simp
  rw [hlen] at W
  have K := KTurns.ofWalks (target := target) W fun i v s Q E st q => letGo_listiter st.1 q
  refine ⟨_, _, _, vs.length, _, _, _, m₀, news, (fun i m nx => nx = news ∧ J i m), rfl, K, ?_, ?_, ?_, ⟨⟨_, Heap.get?_push_size _ rfl, rfl, rfl⟩, hls.at fun o e => Heap.get?_push_of_some _ e⟩, F.push _, (fun p hp => ⟨Heap.get?_push_of_some _ (N p hp).1, (N p hp).2⟩), ⟨rfl, hj⟩, ?_, ?_⟩
  · intro hm
    rcases List.mem_cons.mp hm with e | hm
    · exact absurd F.ns.lt (e ▸ Nat.lt_irrefl _)
    · exact (N _ hl).2.1 ((List.mem_singleton.mp hm).symm)
  · intro b hb
    rw [List.mem_singleton.mp hb]
    exact next_is_new F
  · intro p hp hI
    exact absurd (Heap.lt_size (N p hp).1) ((List.mem_singleton.mp hI) ▸ Nat.lt_irrefl _)
  · rintro i v m₁ news₁ hh' tk' own hin hP ⟨rfl, hJ⟩ hoff hown hget hfp hst F₁ N₁
    have hP' : vs[i]? = some v := by simpa using hP
    have hI0 : h₀.get? s.heap.objs.size = none := next_is_new F
    obtain ⟨⟨oI, hoI, _⟩, _⟩ := id hst
    have hIown : (s.heap.objs.size, oI) ∈ own.filter fun p => decide (p.1 = s.heap.objs.size) := List.mem_filter.mpr ⟨hfp _ (List.mem_cons.mpr (.inl rfl)) hI0 _ hoI, by simp⟩
    have hsep : OwnOff (own.filter fun p => decide (p.1 = s.heap.objs.size)) (news₁.map (·.1)) := by
      intro p hp b hb e
      obtain ⟨q, hq, rfl⟩ := List.mem_map.mp hb
      have h1 : p.1 = s.heap.objs.size := by simpa using (List.mem_filter.mp hp).2
      exact hoff q hq (List.mem_singleton.mpr (e ▸ h1))
    have N₂ : News h₀ env.locals hh' (news₁ ++ own.filter fun p => decide (p.1 = s.heap.objs.size)) := fun p hp => N₁ p ((List.mem_append.mp hp).elim (fun h => List.mem_append.mpr (.inr h)) fun h => List.mem_append.mpr (.inl ((List.mem_filter.mp h).1)))
    have hlo : hh'.get? l = some (listOf vs.toArray nn) := (N₁ _ (List.mem_append.mpr (.inr hl))).1
    refine wpAny_mono (turn i v m₁ hh' tk' _ hP' hJ F₁ N₂ hsep) (fun _ s₃ q => wpAny_mono q (fun f s₂ p => ?_) fun _ _ e => e) fun _ _ e => e
    have fin : InvEndG h₀ env.locals (fun m' nx => nx = news₁ ∧ J (i + 1) m') (own.filter fun p => decide (p.1 = s.heap.objs.size)) { s with heap := hh', toks := tk' } s₂ →
        LoopStepU h₀ env.locals [s.heap.objs.size] own (fun m nx => nx = news₁ ∧ J (i + 1) m) { s with heap := hh', toks := tk' } .next s₂ := by
      rintro ⟨h', tk, m', news', nx, e, F', N', hn, ho, ha, rfl, hm⟩
      refine ⟨rfl, h', tk, m', nx, e, F', fun p hp => ?_, fun p hp hq => ?_, rfl, hm⟩
      · rcases List.mem_append.mp hp with h | h
        · by_cases hI : p.1 = s.heap.objs.size
          · exact N' p (ho p (List.mem_filter.mpr ⟨h, by simpa using hI⟩))
          · have h1 : p.1 = l := by
              rcases List.mem_cons.mp (hown p h) with h2 | h2
              · exact absurd h2 hI
              · exact List.mem_singleton.mp h2
            have h2 : hh'.get? p.1 = some p.2 := hget p h
            rw [h1, hlo] at h2
            have h3 : p = (l, listOf vs.toArray nn) := Prod.ext h1 (Option.some.inj h2).symm
            rw [h3]
            exact N' _ (hn _ hl)
        · exact N' p (hn p h)
      · exact ha _ hIown p.1 (List.mem_map.mpr ⟨p, hp, rfl⟩) (List.mem_singleton.mp hq).symm
    cases f with
    | ret v => exact .ret p
    | brk => exact .brk p
    | next => exact .next (fin p)
    | cont => exact .cont (fin p)
  · rintro h' tk m' news' F' N' _ ⟨rfl, hJ⟩
    exact done m' h' tk hJ F' N'
end

section
variable {prog : Program} {w : World} {A : Around} {E : Value → Shared → Prop} {s : Shared} {h₀ : Heap} {L : Addr} {m : Str → Option Value} {news : List (Addr × Obj)} {Q : Value → Shared → Prop}
theorem join_strs {D : Addr} {sv : List (Str × Tok)} {n : Nat} {st : List Str} {t : Tok} (N : News h₀ L s.heap news) (hl : (D, listOf (strValues sv).toArray n) ∈ news) (he : sv.map (·.1) = st) (hst : Names st) (hlen : st.length ≤ 10)
    (h : ∀ t' k, (Txt.join (Str.ofString "/") st).length ≤ 1000 → Q (.str (Txt.join (Str.ofString "/") st) t') { s with toks := k }) :
    wpAny (model prog w) A (call (.builtin "str.join") [.str (Str.ofString "/") t, .ref D]) Q E s := by
  have h5 : ∀ y ∈ st, y.length ≤ 5 := fun y hy => name_len y (hst y hy)
  have hs1 : (Str.ofString "/").length = 1 := slash_len
  refine SC.join (News.isList N hl) he ?_ fun t' k => h t' k ?_
  · unfold JoinOk
    rw [StrLaws.joinFits (B := 5) h5 (by rw [hs1]; omega)]
    rfl
  · have e : Txt.join (Str.ofString "/") st = Str.join (Str.ofString "/") st := beq_iff_eq.mp (join_plain_closes _ _)
    have h1 := StrLaws.join_length_le (Str.ofString "/") st
    have h2 := StrLaws.sumLen_le st h5
    rw [e]
    rw [hs1] at h1
    omega
theorem ne_same {x : Str} {t u : Tok} (h : Q (.bool false) s) : wpAny (model prog w) A (compareOp .NotEq (.str x t) (.str x u)) Q E s :=
  ne_str (by simpa using h)
theorem menu_item {value slice : Expr} {T : Addr} {k : Int} {u t1 t2 t3 t4 t5 t6 : Tok} (N : News h₀ L s.heap news)
    (hT : (T, tupOf [.str (Str.ofString "a") t1, .str (Str.ofString "A\"") t2, .str (Str.ofString "local") t3, .str (Str.ofString "\"") t4, .str (Str.ofString "a\"") t5, .str (Str.ofString "7") t6]) ∈ news) (h0 : 0 ≤ k) (h1 : k < 6)
    (h : ∀ n t, IsName n → Q (.str n t) s)
    (hs : subscripted slice false (.ref T) (.int k u) = operate [.ref T, .int k u] (getItem (.ref T) (.int k u))) :
    wpAny (model prog w) A (subscriptTail value slice (.ref T) (.int k u)) Q E s := by
  have ht := News.isTup N hT
  have key : ∀ (j : Nat) (n : Str) (t : Tok), k = (j : Int) → j < 6 → ([.str (Str.ofString "a") t1, .str (Str.ofString "A\"") t2, .str (Str.ofString "local") t3, .str (Str.ofString "\"") t4, .str (Str.ofString "a\"") t5, .str (Str.ofString "7") t6] : List Value)[j]? = some (.str n t) → IsName n →
      wpAny (model prog w) A (subscriptTail value slice (.ref T) (.int k u)) Q E s := by
    intro j n t hk hj hx hn
    refine item_tupleT (j := j) ht (by omega) (by omega) ?_ hx (h n t hn) hs
    rw [StrLaws.seqIndex_nonneg h0 (by show k < (6 : Nat); omega)]
    congr 1; omega
  have hk : k = 0 ∨ k = 1 ∨ k = 2 ∨ k = 3 ∨ k = 4 ∨ k = 5 := by omega
  rcases hk with hk | hk | hk | hk | hk | hk
  · exact key 0 _ _ hk (by decide) rfl (by simp [IsName])
  · exact key 1 _ _ hk (by decide) rfl (by simp [IsName])
  · exact key 2 _ _ hk (by decide) rfl (by simp [IsName])
  · exact key 3 _ _ hk (by decide) rfl (by simp [IsName])
  · exact key 4 _ _ hk (by decide) rfl (by simp [IsName])
  · exact key 5 _ _ hk (by decide) rfl (by simp [IsName])
end

section
variable {w : World} {mean : ExcName → Option Value} {mg mb : Str → Option Value} {news : List (Addr × Obj)}
theorem up_h {t : Tok} {a1 : Addr} {n1 : Nat} {st : List Str} {sv : List (Str × Tok)} :
    ClaimP 3 w mean mg mb 117 news ((a1, listOf (strValues sv).toArray n1) ∈ news ∧ sv.map (·.1) = st ∧ Names st ∧ st.length ≤ 9) [.str (hostOf st) t, .ref a1] st.dropLast := by
  intro dp un gd cn cs a ccd cl outer A₀ base h₀ L m s Q E B F X N T hk hpre hd hu hret
  obtain ⟨hm, hsv, hst, hl⟩ := hpre
  rcases List.eq_nil_or_concat st with rfl | ⟨st', n, rfl⟩
  · have : sv = [] := by simpa using hsv
    subst this
    exact up_root dp un gd cn cs a ccd cl outer A₀ base h₀ L m s Q E B F X N T hk hm hd hu hret
  · rw [List.concat_eq_append] at *
    rw [List.dropLast_concat] at hret
    exact up_snoc dp un gd cn cs a ccd cl outer A₀ base h₀ L m s Q E B F X N T hk ⟨hm, hsv, hst, by simp at hl; omega⟩ hd hu hret
theorem claimP_use {k : Nat} {f : Addr} {pre : Prop} {vs : List Value} {st : List Str}
    {dp un : Nat} {gd : Option (List Code)} {cn : Str} {cs : Scope} {a : Addr} {ccd : Value} {cl : List (Str × Addr)} {outer : List Env} {A₀ : Around} {base h₀ : Heap} {L : Addr} {m : Str → Option Value} {s : Shared} {Q E : Value → Shared → Prop}
    (C : ClaimP k w mean mg mb f news pre vs st) (B : Below A₀ base outer h₀) (F : Fr h₀ L s.heap m) (X : (hd.heap_39 w.params).In h₀) (N : News h₀ L s.heap news) (T : Top hd.view_39 (looseW hd.view_39 [Str.ofString "IPV4_RE"]) mean mg mb h₀)
    (hk : cs.kind = .function) (hp : pre) (hd : dp + k < recursionLimit) (hu : un + 8 * k < cLine)
    (ret : ∀ (T D : Addr) (zs : List (Str × Tok)) (tk : Tok) (n : Nat) (h' : Heap) (tk' : Nat), (∀ p ∈ news, p.1 < D) → (@LT.lt Nat _ D T) → Fr h₀ L h' m → News h₀ L h' ((T, tupOf [.str (hostOf st) tk, .ref D]) :: (D, listOf (strValues zs).toArray n) :: news) → zs.map (·.1) = st →
      Q (.ref T) { s with heap := h', toks := tk' }) :
    wpAny (model Challenge.rw_nb0159_01.row.prog w) (ktrTop dp un gd cn cs L a ccd cl outer) (call (.ref f) vs) Q E s :=
  C dp un gd cn cs a ccd cl outer A₀ base h₀ L m s Q E B F X N T hk hp hd hu ret
theorem claimL_use {k : Nat} {f : Addr} {pre : Prop} {vs : List Value} {P : List Value → Prop}
    {dp un : Nat} {gd : Option (List Code)} {cn : Str} {cs : Scope} {a : Addr} {ccd : Value} {cl : List (Str × Addr)} {outer : List Env} {A₀ : Around} {base h₀ : Heap} {L : Addr} {m : Str → Option Value} {s : Shared} {Q E : Value → Shared → Prop}
    (C : ClaimL k w mean mg mb f news pre vs P) (B : Below A₀ base outer h₀) (F : Fr h₀ L s.heap m) (X : (hd.heap_39 w.params).In h₀) (N : News h₀ L s.heap news) (T : Top hd.view_39 (looseW hd.view_39 [Str.ofString "IPV4_RE"]) mean mg mb h₀)
    (hk : cs.kind = .function) (hp : pre) (hd : dp + k < recursionLimit) (hu : un + 8 * k < cLine)
    (ret : ∀ (r : Addr) (ys : List Value) (n : Nat) (h' : Heap) (tk' : Nat), (∀ p ∈ news, p.1 ≠ r) → Fr h₀ L h' m → News h₀ L h' ((r, listOf ys.toArray n) :: news) → P ys → Q (.ref r) { s with heap := h', toks := tk' }) :
    wpAny (model Challenge.rw_nb0159_01.row.prog w) (ktrTop dp un gd cn cs L a ccd cl outer) (call (.ref f) vs) Q E s :=
  C dp un gd cn cs a ccd cl outer A₀ base h₀ L m s Q E B F X N T hk hp hd hu ret
theorem starts_h {a1 a2 : Addr} {s1 s2 : List (Str × Tok)} {n1 n2 : Nat} {b o : List Str} :
    ClaimL 1 w mean mg mb 129 news ((a1, listOf (strValues s1).toArray n1) ∈ news ∧ (a2, listOf (strValues s2).toArray n2) ∈ news ∧ s1.map (·.1) = b ∧ s2.map (·.1) = o ∧ Names b ∧ b.length ≤ 10 ∧ Names o ∧ o.length ≤ 10) [.ref a1, .ref a2] (fun ys => IntsAre ys (startsS b o)) := by
  intro dp un gd cn cs a ccd cl outer A₀ base h₀ L m s Q E B F X N T hk hpre hd hu hret
  obtain ⟨h1, h2, rfl, rfl, h3, h4, h5, h6⟩ := hpre
  refine starts_c dp un gd cn cs a ccd cl outer A₀ base h₀ L m s Q E B F X N T hk ⟨h1, h2, ?_, ?_, ?_, ?_⟩ hd hu fun r ys n h' tk' a F' N' hi => hret r ys n h' tk' a F' N' (by rw [← startsF_eq]; exact hi)
  · intro p hp
    have := name_len p.1 (h3 _ (List.mem_map.mpr ⟨p, hp, rfl⟩)); omega
  · simp at h4; omega
  · intro p hp
    have := name_len p.1 (h5 _ (List.mem_map.mpr ⟨p, hp, rfl⟩)); omega
  · simp at h6; omega
end
end Mine

/-! part C8 -/
open PySem PySem.W PyProof.Rows PySem.Spec PySem.Calls
namespace Mine
/-- the rows: a new list of one to six ints -/
def RowsOK (h₀ : Heap) (L : Addr) (m : Str → Option Value) (s : Shared) (v : Value) (s' : Shared) : Prop :=
  ∃ (r : Addr) (vs : List Value) (ns : List Int) (n : Nat) (h' : Heap) (tk' : Nat), v = .ref r ∧ s' = { s with heap := h', toks := tk' } ∧ Fr h₀ L h' m ∧ News h₀ L h' [(r, listOf vs.toArray n)] ∧ IntsAre vs ns ∧ ns.length ≤ 6

theorem rows_mono {M : Model} {A : Around} {t : Sem Value} {Q : Value → Shared → Prop} {E : Value → Shared → Prop} {s : Shared} {h₀ : Heap} {L : Addr} {m : Str → Option Value} (_F : Fr h₀ L s.heap m) (h : wpAny M A t (RowsOK h₀ L m s) E s) (hQ : ∀ v s', RowsOK h₀ L m s v s' → Q v s') : wpAny M A t Q E s :=
  wpAny_mono h hQ fun _ _ e => e

theorem fr_put3 {h₀ h : Heap} {L : Addr} {m : Str → Option Value} {x y z : Str} {u v q : Value} (hx : m x = some u) (hy : m y = some v) (hz : m z = some q) (F : Fr h₀ L h m) : Fr h₀ L h (fun k => if k = x then some u else if k = y then some v else if k = z then some q else m k) := by
  have e : (fun k => if k = x then some u else if k = y then some v else if k = z then some q else m k) = m := by
    funext k
    by_cases h1 : k = x
    · rw [if_pos h1, h1, hx]
    · rw [if_neg h1]
      by_cases h2 : k = y
      · rw [if_pos h2, h2, hy]
      · rw [if_neg h2]
        by_cases h3 : k = z
        · rw [if_pos h3, h3, hz]
        · rw [if_neg h3]
  rw [e]; exact F
/-- a place as the ledger bears it: its host, and the list of its names -/
def PlaceIn (news : List (Addr × Obj)) (v : Value) (st : List Str) : Prop :=
  ∃ (T a : Addr) (sv : List (Str × Tok)) (n : Nat) (tk : Tok), v = .ref T ∧ (T, tupOf [.str (hostOf st) tk, .ref a]) ∈ news ∧ (a, listOf (strValues sv).toArray n) ∈ news ∧ sv.map (·.1) = st ∧ Names st ∧ st.length ≤ 10
theorem PlaceIn.mono {news news' : List (Addr × Obj)} {v : Value} {st : List Str} (h : PlaceIn news v st) (hs : ∀ p ∈ news, p ∈ news') : PlaceIn news' v st := by
  obtain ⟨T, a, sv, n, tk, e, h1, h2, r⟩ := h
  exact ⟨T, a, sv, n, tk, e, hs _ h1, hs _ h2, r⟩
def PlacesIn (news : List (Addr × Obj)) (vs : List Value) : Prop := ∀ v ∈ vs, ∃ st, PlaceIn news v st
theorem PlacesIn.mono {news news' : List (Addr × Obj)} {vs : List Value} (h : PlacesIn news vs) (hs : ∀ p ∈ news, p ∈ news') : PlacesIn news' vs := fun v hv => let ⟨st, p⟩ := h v hv; ⟨st, p.mono hs⟩
theorem PlacesIn.snoc {news : List (Addr × Obj)} {vs : List Value} {v : Value} {st : List Str} (h : PlacesIn news vs) (hv : PlaceIn news v st) : PlacesIn news (vs ++ [v]) := by
  intro u hu
  rcases List.mem_append.mp hu with hu | hu
  · exact h u hu
  · rw [List.mem_singleton.mp hu]; exact ⟨st, hv⟩

/-- between the steps of the walk -/
def WalkJ (pl r : Addr) (rows : Obj) (i : Nat) (m : Str → Option Value) (nx : List (Addr × Obj)) : Prop :=
  ∃ (st : List Str) (sv : List (Str × Tok)) (a : Addr) (n : Nat) (tk : Tok) (pv : List Value) (pn : Nat) (rest : List (Addr × Obj)),
    nx = (pl, listOf pv.toArray pn) :: rest ∧ (∀ p ∈ rest, p.1 ≠ pl) ∧ (r, rows) ∈ rest ∧ (a, listOf (strValues sv).toArray n) ∈ rest ∧ sv.map (·.1) = st ∧ Names st ∧ st.length ≤ i ∧ PlacesIn rest pv ∧ pv.length ≤ i + 1 ∧
    m (Str.ofString "host") = some (.str (hostOf st) tk) ∧ m (Str.ofString "stack") = some (.ref a) ∧ m (Str.ofString "places") = some (.ref pl)

section
variable {prog : Program} {w : World} {A : Around} {E : Value → Shared → Prop} {s : Shared} {env : Env} {h₀ : Heap} {body : List Stmt} {Q : Flow → Shared → Prop}
theorem walk_iter {pl D a₀ r : Addr} {vs : List Value} {ns : List Int} {n : Nat} {t₀ : Tok} {m₀ : Str → Option Value} (hh : A.handled = none) (F : Fr h₀ env.locals s.heap m₀)
    (N : News h₀ env.locals s.heap [(pl, listOf #[.ref D] 0), (D, { cls := .type "tuple", data := .seq #[.str (Str.ofString "local") t₀, .ref a₀] }), (a₀, listOf #[] 0), (r, listOf vs.toArray n)])
    (hi : IntsAre vs ns) (hlen : vs.length ≤ 6) (h1 : D ≠ pl) (h2 : a₀ ≠ pl) (h3 : r ≠ pl)
    (hm1 : m₀ (Str.ofString "host") = some (.str (Str.ofString "local") t₀)) (hm2 : m₀ (Str.ofString "stack") = some (.ref a₀)) (hm3 : m₀ (Str.ofString "places") = some (.ref pl))
    (turn : ∀ (i : Nat) (k : Int) (t : Tok) (st : List Str) (sv : List (Str × Tok)) (a : Addr) (n' : Nat) (tk' : Tok) (pv : List Value) (pn : Nat) (rest : List (Addr × Obj)) (m₁ : Str → Option Value) (h : Heap) (tk : Nat) (own : List (Addr × Obj)),
      i < 6 → Names st → st.length ≤ i → sv.map (·.1) = st → (a, listOf (strValues sv).toArray n') ∈ rest ++ own → (r, listOf vs.toArray n) ∈ rest → PlacesIn rest pv → pv.length ≤ i + 1 → (∀ p ∈ rest ++ own, p.1 ≠ pl) → (∀ p ∈ own, ∀ q ∈ rest, p.1 ≠ q.1) →
      Fr h₀ env.locals h (fun y => if y = Str.ofString "number" then some (.int k t) else if y = Str.ofString "host" then some (.str (hostOf st) tk') else if y = Str.ofString "stack" then some (.ref a) else if y = Str.ofString "places" then some (.ref pl) else m₁ y) →
      News h₀ env.locals h ((pl, listOf pv.toArray pn) :: (rest ++ own)) →
      wpAny (model prog w) A (execs body env) (InvPostG h₀ env.locals (fun m' nx => (r, listOf vs.toArray n) ∈ nx ∧ WalkJ pl r (listOf vs.toArray n) (i + 1) m' nx) own { s with heap := h, toks := tk } Q) E { s with heap := h, toks := tk })
    (done : ∀ (pv : List Value) (pn : Nat) (rest : List (Addr × Obj)) (m₁ : Str → Option Value) h tk, PlacesIn rest pv → Fr h₀ env.locals h (fun y => if y = Str.ofString "places" then some (.ref pl) else m₁ y) → News h₀ env.locals h ((pl, listOf pv.toArray pn) :: rest) → Q .next { s with heap := h, toks := tk }) :
    wpAny (model prog w) A (pyIter (.ref r)) (fun it s₂ => LoopAtV prog w A h₀ env (Str.ofString "number") body Q E it s₂) E s := by
  refine kdl_iter (vs := vs) (nn := n) (WalkJ pl r (listOf vs.toArray n)) hh ?_ F N ?_ ?_ ?_
  · repeat (first | exact List.Mem.head _ | apply List.mem_cons_of_mem)
  · refine ⟨[], [], a₀, 0, t₀, [.ref D], 0, _, rfl, ?_, ?_, ?_, rfl, (fun _ h => nomatch h), Nat.zero_le _, ?_, Nat.le_refl _, hm1, hm2, hm3⟩
    · intro p hp
      rcases List.mem_cons.mp hp with rfl | hp
      · exact h1
      · rcases List.mem_cons.mp hp with rfl | hp
        · exact h2
        · rw [List.mem_singleton.mp hp]; exact h3
    · repeat (first | exact List.Mem.head _ | apply List.mem_cons_of_mem)
    · exact List.mem_cons_of_mem _ (List.Mem.head _)
    · intro v hv
      rw [List.mem_singleton.mp hv]
      exact ⟨[], D, a₀, [], 0, t₀, rfl, List.Mem.head _, List.mem_cons_of_mem _ (List.Mem.head _), rfl, (fun _ h => nomatch h), Nat.zero_le _⟩
  · rintro i v m₁ news₁ h tk own hv hoff hl₁ ⟨st, sv, a, n', tk', pv, pn, rest, rfl, hpl, hr, ha, hsv, hst, hsl, hP, hpn, e1, e2, e3⟩ F₁ N₁
    have hlt : i < vs.length := (List.getElem?_eq_some_iff.mp hv).1
    have hlt' : i < ns.length := by rw [← hi.length]; exact hlt
    obtain ⟨t, hx⟩ := hi.get i ns[i] (by simp [hlt'])
    have hve : v = .int ns[i] t := by rw [hx] at hv; exact (Option.some.inj hv).symm
    subst hve
    have em : (fun y => if y = Str.ofString "number" then some (Value.int ns[i] t) else m₁ y) = fun y => if y = Str.ofString "number" then some (.int ns[i] t) else if y = Str.ofString "host" then some (.str (hostOf st) tk') else if y = Str.ofString "stack" then some (.ref a) else if y = Str.ofString "places" then some (.ref pl) else m₁ y := by
      funext y
      by_cases q0 : y = Str.ofString "number"
      · simp [q0]
      · simp only [if_neg q0]
        by_cases q1 : y = Str.ofString "host"
        · rw [if_pos q1, q1, e1]
        · rw [if_neg q1]
          by_cases q2 : y = Str.ofString "stack"
          · rw [if_pos q2, q2, e2]
          · rw [if_neg q2]
            by_cases q3 : y = Str.ofString "places"
            · rw [if_pos q3, q3, e3]
            · rw [if_neg q3]
    rw [em] at F₁
    refine turn i ns[i] t st sv a n' tk' pv pn rest m₁ h tk own (by omega) hst hsl hsv (List.mem_append.mpr (.inl ha)) hr hP hpn ?_ ?_ F₁ N₁
    · intro p hp
      rcases List.mem_append.mp hp with hp | hp
      · exact hpl p hp
      · exact hoff p hp pl (List.Mem.head _)
    · intro p hp q hq
      exact hoff p hp q.1 (List.mem_cons_of_mem _ (List.mem_map.mpr ⟨q, hq, rfl⟩))
  · rintro m₁ news₁ h tk ⟨st, sv, a, n', tk', pv, pn, rest, rfl, hpl, hr, ha, hsv, hst, hsl, hP, hpn, e1, e2, e3⟩ F₁ N₁
    refine done pv pn rest m₁ h tk hP ?_ N₁
    have em : (fun y => if y = Str.ofString "places" then some (Value.ref pl) else m₁ y) = m₁ := by
      funext y
      by_cases q3 : y = Str.ofString "places"
      · rw [if_pos q3, q3, e3]
      · rw [if_neg q3]
    rw [em]; exact F₁

theorem lt2 {a d : Nat} {l : List (Addr × Obj)} (h : a < d ∧ AllLt d l) : AllLt d l := h.2
theorem lt3 {a b d : Nat} {l : List (Addr × Obj)} (h : a < d ∧ b < d ∧ AllLt d l) : AllLt d l := h.2.2
theorem lt4 {a b c d : Nat} {l : List (Addr × Obj)} (h : a < d ∧ b < d ∧ c < d ∧ AllLt d l) : AllLt d l := h.2.2.2
theorem lt5 {a b c e d : Nat} {l : List (Addr × Obj)} (h : a < d ∧ b < d ∧ c < d ∧ e < d ∧ AllLt d l) : AllLt d l := h.2.2.2.2
theorem walk_end {pl D T r : Addr} {rows : Obj} {i n pn' : Nat} {tk' : Tok} {st : List Str} {zs : List (Str × Tok)} {pv : List Value} {rest own news' : List (Addr × Obj)} {m' : Str → Option Value} {h' : Heap} {tk : Nat} {s₁ : Shared}
    (F : Fr h₀ env.locals h' m') (N : News h₀ env.locals h' news') (e1 : m' (Str.ofString "host") = some (.str (hostOf st) tk')) (e2 : m' (Str.ofString "stack") = some (.ref D)) (e3 : m' (Str.ofString "places") = some (.ref pl))
    (hN1 : (pl, listOf (pv ++ [Value.ref T]).toArray pn') ∈ news') (hN2 : (T, tupOf [.str (hostOf st) tk', .ref D]) ∈ news') (hN3 : (D, listOf (strValues zs).toArray n) ∈ news') (hN4 : ∀ p ∈ rest ++ own, p ∈ news')
    (hst : Names st) (hl : st.length ≤ i + 1) (hi : i < 6) (hz : zs.map (·.1) = st) (hP : PlacesIn rest pv) (hpv : pv.length ≤ i + 1) (hr : (r, rows) ∈ rest)
    (hpl : ∀ p ∈ rest ++ own, p.1 ≠ pl) (hoff : ∀ p ∈ own, ∀ q ∈ rest, p.1 ≠ q.1) (hD : AllLt D (rest ++ own)) (hT : AllLt T (rest ++ own)) (hDp : (@Ne Nat D pl)) (hTp : (@Ne Nat T pl)) :
    InvEndG h₀ env.locals (fun m' nx => (r, rows) ∈ nx ∧ WalkJ pl r rows (i + 1) m' nx) own s₁ { s₁ with heap := h', toks := tk } := by
  have hN : ∀ p ∈ (pl, listOf (pv ++ [Value.ref T]).toArray pn') :: (T, tupOf [.str (hostOf st) tk', .ref D]) :: (D, listOf (strValues zs).toArray n) :: (rest ++ own), p ∈ news' := by
    intro p hp
    rcases List.mem_cons.mp hp with rfl | hp
    · exact hN1
    · rcases List.mem_cons.mp hp with rfl | hp
      · exact hN2
      · rcases List.mem_cons.mp hp with rfl | hp
        · exact hN3
        · exact hN4 p hp
  have hm : ∀ p ∈ rest, p ∈ (T, tupOf [.str (hostOf st) tk', .ref D]) :: (D, listOf (strValues zs).toArray n) :: rest := fun p hp => List.mem_cons_of_mem _ (List.mem_cons_of_mem _ hp)
  refine InvEndG.intro (nx := (pl, listOf (pv ++ [Value.ref T]).toArray pn') :: (T, tupOf [.str (hostOf st) tk', .ref D]) :: (D, listOf (strValues zs).toArray n) :: rest) F N ⟨List.mem_cons_of_mem _ (hm _ hr), st, zs, D, n, tk', pv ++ [Value.ref T], pn', _, rfl, ?_, hm _ hr, List.mem_cons_of_mem _ (List.Mem.head _), hz, hst, hl, ?_, ?_, e1, e2, e3⟩ ?_ ?_ ?_
  · intro p hp
    rcases List.mem_cons.mp hp with rfl | hp
    · exact hTp
    · rcases List.mem_cons.mp hp with rfl | hp
      · exact hDp
      · exact hpl p (List.mem_append.mpr (.inl hp))
  · exact (hP.mono hm).snoc ⟨T, D, zs, n, tk', rfl, List.Mem.head _, List.mem_cons_of_mem _ (List.Mem.head _), hz, hst, by omega⟩
  · rw [List.length_append, List.length_singleton]; omega
  · intro p hp b hb
    have hp' : p ∈ rest ++ own := List.mem_append.mpr (.inr hp)
    rcases List.mem_cons.mp hb with rfl | hb
    · exact hpl p hp'
    · rcases List.mem_cons.mp hb with rfl | hb
      · exact Nat.ne_of_lt (kst_ltOf hT p hp')
      · rcases List.mem_cons.mp hb with rfl | hb
        · exact Nat.ne_of_lt (kst_ltOf hD p hp')
        · obtain ⟨q, hq, rfl⟩ := List.mem_map.mp hb
          exact hoff p hp q hq
  · intro p hp
    apply hN
    rcases List.mem_cons.mp hp with rfl | hp
    · exact List.Mem.head _
    · rcases List.mem_cons.mp hp with rfl | hp
      · exact List.mem_cons_of_mem _ (List.Mem.head _)
      · rcases List.mem_cons.mp hp with rfl | hp
        · exact List.mem_cons_of_mem _ (List.mem_cons_of_mem _ (List.Mem.head _))
        · exact List.mem_cons_of_mem _ (List.mem_cons_of_mem _ (List.mem_cons_of_mem _ (List.mem_append.mpr (.inl hp))))
  · intro p hp
    exact hN p (List.mem_cons_of_mem _ (List.mem_cons_of_mem _ (List.mem_cons_of_mem _ (List.mem_append.mpr (.inr hp)))))
end

local macro_rules | `(tactic| k_mem) => `(tactic| (first | assumption | (refine List.mem_cons_of_mem _ ?_; first | assumption | (refine List.mem_cons_of_mem _ ?_; first | assumption | (refine List.mem_cons_of_mem _ ?_; first | assumption | (refine List.mem_cons_of_mem _ ?_; first | assumption | (refine List.mem_cons_of_mem _ ?_; first | assumption | (refine List.mem_cons_of_mem _ ?_; first | assumption | (refine List.mem_cons_of_mem _ ?_; first | assumption | (refine List.mem_cons_of_mem _ ?_; first | assumption | (refine List.mem_cons_of_mem _ ?_; assumption)))))))))))
local macro_rules | `(tactic| k_all) => `(tactic| assumption)
local macro_rules | `(tactic| walk_at "exec For Name Name cons nil") => `(tactic| (k_here; (rename Fr _ _ _ _ => lF'); (with_unfolding_all refine' For_invVF lF' ?k1 ?k2 ?_; (case k1 => exact rfl); (case k2 => exact rfl); k_whole)))
local macro_rules | `(tactic| walk_at "call ref") => `(tactic| (k_here; (with_reducible show wpAny _ _ (call (Value.ref 117) _) _ _ _); k_dflt (refine' claimP_use up_h ?k1 ?k2 ?k3 ?k4 ?k5 ?kK ?kp ?kd ?ku ?_; (case k1 => k_asm); (case k2 => k_asm); (case k3 => k_asm); (case k4 => k_asm); (case k5 => k_asm); (case kK => first | exact rfl | assumption); (case kp => exact ⟨by k_mem, by assumption, by assumption, by omega⟩); (case kd => ktr_room); (case ku => ktr_units); k_whole; intro T9 D9 zs9 tk9 n9 h9 tk8 l8 l9 F9 N9 e9; (try k_lt l8); (try k_lt2 l9); (try dsimp only); (try k_fold))))
local macro_rules | `(tactic| walk_at "call ref") => `(tactic| (k_here; (with_reducible show wpAny _ _ (call (Value.ref 110) _) _ _ _); k_dflt (refine' claimP_use down_h ?k1 ?k2 ?k3 ?k4 ?k5 ?kK ?kp ?kd ?ku ?_; (case k1 => k_asm); (case k2 => k_asm); (case k3 => k_asm); (case k4 => k_asm); (case k5 => k_asm); (case kK => first | exact rfl | assumption); (case kp => exact ⟨by k_mem, by assumption, by assumption, by assumption, by omega⟩); (case kd => ktr_room); (case ku => ktr_units); k_whole; intro T9 D9 zs9 tk9 n9 h9 tk8 l8 l9 F9 N9 e9; (try k_lt l8); (try k_lt2 l9); (try dsimp only); (try k_fold))))
local macro_rules | `(tactic| walk_at "call ref") => `(tactic| (k_here; (with_reducible show wpAny _ _ (call (Value.ref 124) _) _ _ _); k_dflt (refine' claim_use reply_h ?k1 ?k2 ?k3 ?k4 ?k5 ?kK ?kp ?kd ?ku ?_; (case k1 => k_asm); (case k2 => k_asm); (case k3 => k_asm); (case k4 => k_asm); (case k5 => k_asm); (case kK => first | exact rfl | assumption); (case kp => exact ⟨by (first | assumption | exact Names.drop (by assumption) | exact Names.snoc (by assumption) (by assumption)), by (simp only [List.length_append, List.length_cons, List.length_nil, List.length_dropLast] at *; omega)⟩); (case kd => ktr_room); (case ku => ktr_units); k_whole; intro t9 h9 tk9 F9 N9; (try dsimp only); (try k_fold))))
local macro_rules | `(tactic| walk_at "call ref") => `(tactic| (k_here; (with_reducible show wpAny _ _ (call (Value.ref 103) _) _ _ _); k_dflt (refine' claim_use parse_h ?k1 ?k2 ?k3 ?k4 ?k5 ?kK ?kp ?kd ?ku ?_; (case k1 => k_asm); (case k2 => k_asm); (case k3 => k_asm); (case k4 => k_asm); (case k5 => k_asm); (case kK => first | exact rfl | assumption); (case kp => exact ⟨by (first | assumption | exact Names.drop (by assumption) | exact Names.snoc (by assumption) (by assumption)), by (simp only [List.length_append, List.length_cons, List.length_nil, List.length_dropLast] at *; omega)⟩); (case kd => ktr_room); (case ku => ktr_units); k_whole; intro t9 h9 tk9 F9 N9; (try dsimp only); (try k_fold))))
local macro_rules | `(tactic| walk_at "subscriptTail Tuple BinOp ref int") => `(tactic| (k_here; (with_reducible show wpAny _ _ (subscriptTail (PySem.Expr.Tuple _ _ _) _ (Value.ref _) (Value.int _ _)) _ _ _); k_dflt (refine' menu_item ?k1 ?k2 ?k3 ?k4 ?_ ?k6; (case k1 => k_asm); (case k2 => k_mem); (case k3 => omega); (case k4 => omega); (case k6 => with_unfolding_all rfl); k_whole); intro n9 t9 hn9))
local macro_rules | `(tactic| walk_at "subscriptTail Tuple") => `(tactic| (k_here; (with_reducible show wpAny _ _ (subscriptTail (PySem.Expr.Tuple _ _ _) _ (Value.ref _) (Value.int _ _)) _ _ _); k_dflt (refine' menu_item ?k1 ?k2 ?k3 ?k4 ?_ ?k6; (case k1 => k_asm); (case k2 => k_mem); (case k3 => omega); (case k4 => omega); (case k6 => with_unfolding_all rfl); k_whole); intro n9 t9 hn9))
local macro_rules | `(tactic| walk_at "call builtin:str.join") => `(tactic| (k_here; k_dflt (refine' join_strs ?k1 ?k2 ?k3 ?k4 ?k5 ?_; (case k1 => k_asm); (case k2 => k_mem); (case k3 => assumption); (case k4 => (first | assumption | exact Names.drop (by assumption) | exact Names.snoc (by assumption) (by assumption))); (case k5 => (simp only [List.length_append, List.length_cons, List.length_nil, List.length_dropLast] at *; omega)); k_whole); intro t9 k9 l9))
local macro_rules | `(tactic| walk_at "compareOp NotEq str str") => `(tactic| (k_here; with_reducible refine ne_same ?_))
local macro_rules | `(tactic| walk_at "call ref") => `(tactic| (k_here; (with_reducible show wpAny _ _ (call (Value.ref 129) _) _ _ _); k_dflt (refine' claimL_use starts_h ?k1 ?k2 ?k3 ?k4 ?k5 ?kK ?kp ?kd ?ku ?_; (case k1 => k_asm); (case k2 => k_asm); (case k3 => k_asm); (case k4 => k_asm); (case k5 => k_asm); (case kK => first | exact rfl | assumption); (case kp => exact ⟨by k_mem, by k_mem, by assumption, by assumption, by assumption, by assumption, by assumption, by assumption⟩); (case kd => ktr_room); (case ku => ktr_units); k_whole; intro r9 ys9 n9 h9 tk8 l8 F9 N9 e9; (try dsimp only); (try k_fold))))
local macro_rules | `(tactic| walk_at "call ref") => `(tactic| (k_here; (with_reducible show wpAny _ _ (call (Value.ref 64) _) _ _ _); k_dflt (refine' claim_use udm_h ?k1 ?k2 ?k3 ?k4 ?k5 ?kK ?kp ?kd ?ku ?_; (case k1 => k_asm); (case k2 => k_asm); (case k3 => k_asm); (case k4 => k_asm); (case k5 => k_asm); (case kK => first | exact rfl | assumption); (case kp => exact ⟨by assumption, by assumption, by assumption, by assumption⟩); (case kd => ktr_room); (case ku => ktr_units); k_whole; intro t9 h9 tk9 F9 N9; (try dsimp only); (try k_fold))))
local macro_rules | `(tactic| walk_at "call ref") => `(tactic| (k_here; (with_reducible show wpAny _ _ (call (Value.ref 50) _) _ _ _); k_dflt (refine' claim_use dm_h ?k1 ?k2 ?k3 ?k4 ?k5 ?kK ?kp ?kd ?ku ?_; (case k1 => k_asm); (case k2 => k_asm); (case k3 => k_asm); (case k4 => k_asm); (case k5 => k_asm); (case kK => first | exact rfl | assumption); (case kp => exact ⟨by assumption, by assumption, by assumption, by assumption⟩); (case kd => ktr_room); (case ku => ktr_units); k_whole; intro t9 h9 tk9 F9 N9; (try dsimp only); (try k_fold))))
local macro_rules | `(tactic| walk_at "exec For Tuple Name cons nil") => `(tactic| (k_here; (rename Fr _ _ _ _ => lF'); (with_unfolding_all refine' For_turns lF' ?_; k_whole)))
set_option maxRecDepth 100000 in
set_option maxHeartbeats 8000000 in
theorem law_holds : PySem.Challenge.rw_nb0159_01.Holds := hd (by
  k_with_none
  k_go0
  all_goals try k_fold
  walk1
  walk1
  rename News _ _ _ _ => N0
  rename Fr _ _ _ _ => F0
  refine rows_mono F0 ?_ ?_
  · k_steps
    · exact ⟨_, _, _, _, _, _, rfl, rfl, by assumption, by assumption, by assumption, by rw [List.length_take]; omega⟩
    · exact ⟨_, [_, _, _], [2, 1, 0], _, _, _, rfl, rfl, by assumption, cb_drop (by assumption) (fun p hp => by rw [List.mem_singleton.mp hp]; exact List.Mem.head _), .cons _ _ (.cons _ _ (.cons _ _ .nil)), by decide⟩
  · rintro v s' ⟨r, vs, ns, n, h', tk', rfl, rfl, F, N, hi, hlen⟩
    clear N0 F0
    have hvl : vs.length ≤ 6 := by rw [hi.length]; exact hlen
    repeat' (first | (k_unfold; (try dsimp only)) | (k_end; wrow_close) | ((fail_if_success (with_reducible show wpAny _ _ (pyIter (Value.ref _)) _ _ _)); walk1))
    rename News _ _ _ _ => N'
    rename Fr _ _ _ _ => F'
    refine walk_iter rfl F' N' hi hvl (by k_ne) (by k_ne) (by k_ne) rfl rfl rfl ?_ ?_
    · intro i k t st sv a n' tk' pv pn rest m₁ h tk own hi6 hst hsl hsv ha hr hP hpn hpl hoff F N
      clear F' N'
      have hk1 : 0 ≤ k.fmod 7 := Int.fmod_nonneg_of_pos k (by decide)
      have hk2 : k.fmod 7 < 7 := Int.fmod_lt_of_pos k (by decide)
      repeat' (first | (k_unfold; (try dsimp only)) | ((fail_if_success (with_reducible show wpAny _ _ (execs (Stmt.Assign _ _ _ :: _) _) _ _ _)); walk1))
      · repeat' (first | (k_unfold; (try dsimp only)) | ((fail_if_success (with_reducible show InvEndG _ _ _ _ _ _)); first | (k_end; wrow_close) | walk1 | (dsimp only; walk1)))
        rename News _ _ _ _ => N'
        (try simp only [List.push_toArray] at N')
        exact walk_end (by k_asm) N' (by rfl) (by rfl) (by rfl) (by repeat (first | exact List.Mem.head _ | apply List.mem_cons_of_mem)) (by repeat (first | exact List.Mem.head _ | apply List.mem_cons_of_mem)) (by repeat (first | exact List.Mem.head _ | apply List.mem_cons_of_mem)) (fun p hp => List.mem_cons_of_mem _ (List.mem_cons_of_mem _ (List.mem_cons_of_mem _ (List.mem_cons_of_mem _ (hp))))) (Names.drop hst) (by simp only [List.length_dropLast]; omega) hi6 (by assumption) hP hpn hr hpl hoff (lt2 (by assumption)) (lt4 (by assumption)) (by k_ne) (by k_ne)
      · repeat' (first | (k_unfold; (try dsimp only)) | ((fail_if_success (with_reducible show InvEndG _ _ _ _ _ _)); first | (k_end; wrow_close) | walk1 | (dsimp only; walk1)))
        rename News _ _ _ _ => N'
        (try simp only [List.push_toArray] at N')
        exact walk_end (by k_asm) N' (by rfl) (by rfl) (by rfl) (by repeat (first | exact List.Mem.head _ | apply List.mem_cons_of_mem)) (by repeat (first | exact List.Mem.head _ | apply List.mem_cons_of_mem)) (by repeat (first | exact List.Mem.head _ | apply List.mem_cons_of_mem)) (fun p hp => List.mem_cons_of_mem _ (List.mem_cons_of_mem _ (List.mem_cons_of_mem _ (List.mem_cons_of_mem _ (List.mem_cons_of_mem _ (hp)))))) (Names.snoc hst (by assumption)) (by simp only [List.length_append, List.length_cons, List.length_nil]; omega) hi6 (by assumption) hP hpn hr hpl hoff (lt3 (by assumption)) (lt5 (by assumption)) (by k_ne) (by k_ne)
    · intro pv pn rest m₁ h tk hP F N
      clear F' N'
      repeat' (first | (k_unfold; (try dsimp only)) | (k_end; wrow_close) | ((fail_if_success (with_reducible show wpAny _ _ (pyIter (Value.ref _)) _ _ _)); walk1) | ((fail_if_success (with_reducible show wpAny _ _ (pyIter (Value.ref _)) _ _ _)); dsimp only; walk1))
      rename News _ _ _ _ => N'
      rename Fr _ _ _ _ => F'
      refine led_turns (fun _ m => m (Str.ofString "places") = some (.ref _)) rfl (List.Mem.head _) F' N' rfl ?_ ?_
      · intro i v m₁ h tk own hv hJ F N hoff
        clear F' N'
        obtain ⟨b, T, ba, bs, bn, btk, rfl, hT, hba, hbs, hb, hbl⟩ := hP v (List.mem_of_getElem? hv)
        have hT' := List.mem_append_left own hT
        have hba' := List.mem_append_left own hba
        replace F := fr_put _ _ hJ F
        simp only [List.cons_append] at N
        repeat' (first | (k_unfold; (try dsimp only)) | (k_end; wrow_close) | ((fail_if_success (with_reducible show wpAny _ _ (pyIter (Value.ref _)) _ _ _)); walk1) | ((fail_if_success (with_reducible show wpAny _ _ (pyIter (Value.ref _)) _ _ _)); dsimp only; walk1))
        rename News _ _ _ _ => N'
        rename Fr _ _ _ _ => F'
        refine led_turns (fun _ m => m (Str.ofString "places") = some (.ref _) ∧ m (Str.ofString "one") = some (.str (hostOf b) btk) ∧ m (Str.ofString "below") = some (.ref ba)) rfl (List.Mem.head _) F' N' ⟨rfl, rfl, rfl⟩ ?_ ?_
        · rintro j v m₁ h tk own' hv' ⟨hJ1, hJ2, hJ3⟩ F N hoff'
          clear F' N'
          obtain ⟨o, T', oa, os, on', otk, rfl, hT2, hoa, hos, ho, hol⟩ := hP v (List.mem_of_getElem? hv')
          have hT2' := List.mem_append_left own' (List.mem_append_left own hT2)
          have hba2 := List.mem_append_left own' hba'
          have hoa2 := List.mem_append_left own' (List.mem_append_left own hoa)
          have hol2 := host_len ho
          have hbl2 := host_len hb
          replace F := fr_put3 hJ1 hJ2 hJ3 F
          simp only [List.cons_append] at N
          repeat' (first | (k_unfold; (try dsimp only)) | ((fail_if_success (with_reducible show InvEndG _ _ _ _ _ _)); first | (k_end; wrow_close) | walk1 | (dsimp only; walk1)))
          exact InvEndG.intro (by k_asm) (by assumption) ⟨rfl, by rfl, by rfl, by rfl⟩ hoff' (fun p hp => List.mem_cons_of_mem _ (List.mem_cons_of_mem _ (List.mem_append_left own' hp))) (fun p hp => List.mem_cons_of_mem _ (List.mem_cons_of_mem _ (List.mem_cons_of_mem _ (List.mem_append_right _ hp))))
        · intro m₁ h tk hJ F N
          repeat' (first | (k_unfold; (try dsimp only)) | ((fail_if_success (with_reducible show InvEndG _ _ _ _ _ _)); first | (k_end; wrow_close) | walk1 | (dsimp only; walk1)))
          exact InvEndG.intro F N ⟨rfl, hJ.1⟩ hoff (fun p hp => List.mem_append_left own hp) (fun p hp => List.mem_cons_of_mem _ (List.mem_append_right _ hp))
      · intro m₁ h tk hJ F N
        clear F' N'
        k_steps)
end Mine

theorem PySem.Challenge.cw_nb0159_01_holds : PySem.Challenge.rw_nb0159_01.Holds := by
  exact Mine.law_holds
