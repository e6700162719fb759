import PyProof.Rows.All
import Wide.All
import OpenK.AllK
import Wide.FinOn
import Lean
import PySem.Challenge.RW_wn0017_01
set_option Elab.async false
section
open PySem PySem.W PyProof.Rows
namespace Mine
set_option maxRecDepth 100000
set_option maxHeartbeats 8000000
open_top hd for PySem.Challenge.rw_wn0017_01
end Mine

end
section
open PySem PySem.W PyProof.Rows
namespace Mine
set_option maxRecDepth 100000

theorem plainAttrs_pat : PlainAttrs "re.Pattern" :=
  ⟨⟨"object.__getattribute__", by rw [typeLookup_type, builtinLookup_eq_fast]; kernel_rfl, by decide +kernel⟩, by rw [typeLookup_type, builtinLookup_eq_fast]; kernel_rfl⟩
theorem owner_pat : Manifest.owners.lookup (String.ofList ['n', 'r', 'e', 't', 't', 'a', 'P', '.', 'e', 'r'].reverse) = some Manifest.sig_re_Pattern := by kernel_rfl
theorem slot_pat_sub : Slot "re.Pattern" "sub" "re.Pattern.sub" :=
  .of (owner := "re.Pattern") (n := "sub") (by rw [typeLookup_type, builtinLookup_eq_fast]; kernel_rfl) (by decide +kernel) (by decide +kernel) (by decide +kernel)
    (by first | exact .inl (by decide +kernel) | exact .inr (by decide +kernel)) (by rw [isSubtype_type]; kernel_rfl)
theorem type_pat_sub : typeOf (.builtin "re.Pattern.sub") = pure (.type "method_descriptor") := by show builtinType _ = _; rw [builtinType_eq_fast]; kernel_rfl
theorem entry_pat_sub : entryFor table "re.Pattern.sub" = some Builtin.«re.Pattern.sub» := entryFor_of_tree (by kernel_rfl)
theorem entry_pat_loop : entryFor table "re.Pattern.sub.loop" = some Builtin.«re.Pattern.sub.loop» := entryFor_of_tree (by kernel_rfl)
theorem plain_pat_loop : plainId "re.Pattern.sub.loop" = true := by decide +kernel
theorem args_pat_sub (a b c : Value) : argsOk "re.Pattern.sub" ⟨[a, b, c], []⟩ := by
  unfold argsOk; rw [signature?_of (id := "re.Pattern.sub") (n := ['b', 'u', 's']) (o := ['n', 'r', 'e', 't', 't', 'a', 'P', '.', 'e', 'r']) (by kernel_rfl) owner_pat]; kernel_rfl
theorem slot_bytes_split : Slot "bytes" "split" "bytes.split" :=
  .of (owner := "bytes") (n := "split") (by rw [typeLookup_type, builtinLookup_eq_fast]; kernel_rfl) (by decide +kernel) (by decide +kernel) (by decide +kernel)
    (by first | exact .inl (by decide +kernel) | exact .inr (by decide +kernel)) (by rw [isSubtype_type]; kernel_rfl)
theorem type_bytes_split : typeOf (.builtin "bytes.split") = pure (.type "method_descriptor") := by show builtinType _ = _; rw [builtinType_eq_fast]; kernel_rfl
theorem entry_bytes_split : entryFor table "bytes.split" = some Builtin.«bytes.split» := entryFor_of_tree (by kernel_rfl)
theorem args_bytes_split_2 (a b : Value) : argsOk "bytes.split" ⟨[a, b], []⟩ := by
  unfold argsOk; rw [signature?_of (id := "bytes.split") (n := ['t', 'i', 'l', 'p', 's']) (o := ['s', 'e', 't', 'y', 'b']) (by kernel_rfl) FB.owner_bytes]; kernel_rfl
theorem slot_bytes_join : Slot "bytes" "join" "bytes.join" :=
  .of (owner := "bytes") (n := "join") (by rw [typeLookup_type, builtinLookup_eq_fast]; kernel_rfl) (by decide +kernel) (by decide +kernel) (by decide +kernel)
    (by first | exact .inl (by decide +kernel) | exact .inr (by decide +kernel)) (by rw [isSubtype_type]; kernel_rfl)
theorem entry_bytes_join : entryFor table "bytes.join" = some Builtin.«bytes.join» := entryFor_of_tree (by kernel_rfl)
theorem args_bytes_join_2 (a b : Value) : argsOk "bytes.join" ⟨[a, b], []⟩ := by
  unfold argsOk; rw [signature?_of (id := "bytes.join") (n := ['n', 'i', 'o', 'j']) (o := ['s', 'e', 't', 'y', 'b']) (by kernel_rfl) FB.owner_bytes]; kernel_rfl
theorem bytes_buffer : typeLookup (.type "bytes") "__buffer__" = pure (some (.builtin "bytes.__buffer__")) := by rw [typeLookup_type, builtinLookup_eq_fast]; kernel_rfl
theorem bytes_release : typeLookup (.type "bytes") "__release_buffer__" = pure none := by rw [typeLookup_type, builtinLookup_eq_fast]; kernel_rfl
theorem bytes_nocall : typeLookup (.type "bytes") "__call__" = pure none := by rw [typeLookup_type, builtinLookup_eq_fast]; kernel_rfl
end Mine

end
section
open PySem PySem.W PyProof.Rows
namespace Mine
set_option maxRecDepth 100000
open PySem.Sre PySem.Sre.M

theorem runFor_add (a b : Nat) (m : M) : runFor (a + b) m = runFor b (runFor a m) := by
  induction a generalizing m with
  | zero => rw [Nat.zero_add]; rfl
  | succ a ih =>
    rw [Nat.succ_add]
    show (if m.outcome.isSome then m else runFor (a + b) m.step) = runFor b (if m.outcome.isSome then m else runFor a m.step)
    by_cases h : m.outcome.isSome = true
    · rw [if_pos h, if_pos h]
      cases b with
      | zero => rfl
      | succ b => show m = (if m.outcome.isSome then m else runFor b m.step); rw [if_pos h]
    · rw [if_neg h, if_neg h]; exact ih _
theorem runFor_done (b : Nat) (m : M) (h : m.outcome.isSome = true) : runFor b m = m := by
  cases b with
  | zero => rfl
  | succ b => show (if m.outcome.isSome then m else runFor b m.step) = m; rw [if_pos h]
theorem runFor_succ (b : Nat) (m : M) (h : m.outcome = none) : runFor (b + 1) m = runFor b m.step := by
  show (if m.outcome.isSome then m else runFor b m.step) = _
  rw [h]; rfl

abbrev dcode : Array Nat := #[14, 4, 0, 1, 1, 6, 1, 16, 46, 1]
abbrev fr0 (p : Nat) (first : Bool) : Sre.Frame := { wait := .nextStart, pc := 5, pos := p, outermost := first }
abbrev stA (text : Array Nat) (lim p : Nat) (first : Bool) (seen : Sre.Seen) : M :=
  { code := dcode, text, lim, start := p, lastStart := lim, pc := 5, pos := p, handed := p, outermost := first, marks := #[], frames := [fr0 p first], weight := 1, seen }

theorem step_at (text : Array Nat) (lim p : Nat) (first : Bool) (seen : Sre.Seen) :
    (stA text lim p first seen).step = (if (p == 0 || text.getD (p - 1) 0 == 10) then { stA text lim p first ((seen.add 6).add 44) with pc := 7 } else { stA text lim p first ((seen.add 6).add 44) with answer := some false }) := rfl

theorem step_lit_end (text : Array Nat) (lim p : Nat) (first : Bool) (seen : Sre.Seen) (h : p ≥ lim) :
    ({ stA text lim p first seen with pc := 7 } : M).step = { stA text lim p first (seen.add 16) with pc := 7, answer := some false } := by
  show (if p ≥ lim then _ else _) = _
  rw [if_pos h]; rfl
theorem step_lit_yes (text : Array Nat) (lim p : Nat) (first : Bool) (seen : Sre.Seen) (h : p < lim) (hc : text.getD p 0 = 46) :
    ({ stA text lim p first seen with pc := 7 } : M).step = { stA text lim p first (seen.add 16) with pc := 9, pos := p + 1 } := by
  show (if p ≥ lim then _ else (match (Except.ok (text.getD p 0 == 46, seen.add 16) : Except String (Bool × Sre.Seen)) with | .error why => _ | .ok (false, seen) => _ | .ok (true, seen) => _)) = _
  rw [if_neg (by omega), hc]; rfl
theorem step_lit_no (text : Array Nat) (lim p : Nat) (first : Bool) (seen : Sre.Seen) (h : p < lim) (hc : text.getD p 0 ≠ 46) :
    ({ stA text lim p first seen with pc := 7 } : M).step = { stA text lim p first (seen.add 16) with pc := 7, answer := some false } := by
  show (if p ≥ lim then _ else (match (Except.ok (text.getD p 0 == 46, seen.add 16) : Except String (Bool × Sre.Seen)) with | .error why => _ | .ok (false, seen) => _ | .ok (true, seen) => _)) = _
  rw [if_neg (by omega), show (text.getD p 0 == 46) = false from by simpa using hc]; rfl
theorem step_ok (text : Array Nat) (lim p : Nat) (first : Bool) (seen : Sre.Seen) :
    ({ stA text lim p first seen with pc := 9, pos := p + 1 } : M).step = { stA text lim p first (seen.add 1) with pc := 9, pos := p + 1, handed := p + 1, answer := some true } := by
  show (if (first && ((false && _) || (false && _))) = true then _ else _) = _
  cases first <;> rfl
theorem step_back (text : Array Nat) (lim p pc : Nat) (first : Bool) (seen : Sre.Seen) (h : p < lim) :
    ({ stA text lim p first seen with pc := pc, answer := some false } : M).step = stA text lim (p + 1) false seen := by
  show (if p < lim then _ else _) = _
  rw [if_pos h]; rfl
theorem step_back_end (text : Array Nat) (lim p pc : Nat) (first : Bool) (seen : Sre.Seen) (h : ¬ p < lim) :
    (({ stA text lim p first seen with pc := pc, answer := some false } : M).step).step.outcome = some .failed := by
  have e : ({ stA text lim p first seen with pc := pc, answer := some false } : M).step = { stA text lim p first seen with pc := 5, frames := [], weight := 0, answer := some false } := by
    show (if p < lim then _ else _) = _
    rw [if_neg h]; rfl
  rw [e]; rfl
theorem step_won (text : Array Nat) (lim p : Nat) (first : Bool) (seen : Sre.Seen) :
    ∃ m : M, (({ stA text lim p first seen with pc := 9, pos := p + 1, handed := p + 1, answer := some true } : M).step).step = m ∧ m.outcome = some .matched ∧ m.start = p ∧ m.handed = p + 1 := ⟨_, rfl, rfl, rfl, rfl⟩

/-- does a match begin at p -/
def hit (text : Array Nat) (p : Nat) : Bool := (p == 0 || text.getD (p - 1) 0 == 10) && text.getD p 0 == 46

/-- the first match from p on -/
def nextHit (text : Array Nat) (lim : Nat) : Nat → Nat → Option Nat
  | 0, _ => none
  | k + 1, p => if p < lim then (if hit text p then some p else nextHit text lim k (p + 1)) else none

def Found (text : Array Nat) (lim : Nat) (r : Option Nat) (m : M) : Prop :=
  match r with
  | some p => m.outcome = some .matched ∧ m.start = p ∧ m.handed = p + 1
  | none => m.outcome = some .failed

theorem run_from (text : Array Nat) (lim : Nat) : ∀ (k p : Nat) (first : Bool) (seen : Sre.Seen), lim ≤ p + k → p ≤ lim →
    ∃ n, n ≤ 3 * k + 6 ∧ Found text lim (nextHit text lim k p) (runFor n (stA text lim p first seen)) := by
  intro k
  induction k with
  | zero =>
    intro p first seen h1 h2
    have hp : ¬ p < lim := by omega
    have e1 := step_at text lim p first seen
    by_cases hs : (p == 0 || text.getD (p - 1) 0 == 10) = true
    · rw [if_pos hs] at e1
      refine ⟨4, by omega, ?_⟩
      show (runFor 4 _).outcome = _
      rw [runFor_succ _ _ rfl, e1, runFor_succ _ _ rfl, step_lit_end _ _ _ _ _ (by omega), runFor_succ _ _ rfl]
      have e := step_back_end text lim p 7 first (((seen.add 6).add 44).add 16) hp
      have e0 : ∀ m : M, (m.step).outcome = some .failed → (runFor 1 m).outcome = some .failed ∨ m.outcome.isSome = true := by
        intro m hm
        by_cases ho : m.outcome.isSome = true
        · exact .inr ho
        · left
          show (if m.outcome.isSome then m else runFor 0 m.step).outcome = _
          rw [if_neg ho]; exact hm
      rcases e0 _ e with q | q
      · exact q
      · exfalso
        have e2 : ({ stA text lim p first (((seen.add 6).add 44).add 16) with pc := 7, answer := some false } : M).step = { stA text lim p first (((seen.add 6).add 44).add 16) with pc := 5, frames := [], weight := 0, answer := some false } := by
          show (if p < lim then _ else _) = _
          rw [if_neg hp]; rfl
        rw [e2] at q; cases q
    · rw [if_neg hs] at e1
      refine ⟨3, by omega, ?_⟩
      show (runFor 3 _).outcome = _
      rw [runFor_succ _ _ rfl, e1, runFor_succ _ _ rfl]
      have e2 : ({ stA text lim p first ((seen.add 6).add 44) with answer := some false } : M).step = { stA text lim p first ((seen.add 6).add 44) with pc := 5, frames := [], weight := 0, answer := some false } := by
        show (if p < lim then _ else _) = _
        rw [if_neg hp]; rfl
      rw [e2]; rfl
  | succ k ih =>
    intro p first seen h1 h2
    by_cases hp : p < lim
    · have e1 := step_at text lim p first seen
      unfold nextHit
      rw [if_pos hp]
      by_cases hs : (p == 0 || text.getD (p - 1) 0 == 10) = true
      · rw [if_pos hs] at e1
        by_cases hc : text.getD p 0 = 46
        · have hh : hit text p = true := by unfold hit; rw [hs, hc]; rfl
          rw [if_pos hh]
          refine ⟨5, by omega, ?_⟩
          rw [runFor_succ _ _ rfl, e1, runFor_succ _ _ rfl, step_lit_yes _ _ _ _ _ hp hc, runFor_succ _ _ rfl, step_ok, runFor_succ _ _ rfl]
          obtain ⟨m, q1, q2, q3, q4⟩ := step_won text lim p first ((((seen.add 6).add 44).add 16).add 1)
          rw [runFor_succ _ _ rfl, q1]
          exact ⟨q2, q3, q4⟩
        · have hh : hit text p = false := by unfold hit; rw [show (text.getD p 0 == 46) = false from by simpa using hc]; exact Bool.and_false _
          rw [if_neg (by rw [hh]; exact Bool.false_ne_true)]
          obtain ⟨n, q1, q2⟩ := ih (p + 1) false (((seen.add 6).add 44).add 16) (by omega) (by omega)
          refine ⟨n + 3, by omega, ?_⟩
          rw [runFor_succ _ _ rfl, e1, runFor_succ _ _ rfl, step_lit_no _ _ _ _ _ hp hc, runFor_succ _ _ rfl, step_back _ _ _ _ _ _ hp]
          exact q2
      · rw [if_neg hs] at e1
        have hh : hit text p = false := by unfold hit; rw [show (p == 0 || text.getD (p - 1) 0 == 10) = false from by simpa using hs]; rfl
        rw [if_neg (by rw [hh]; exact Bool.false_ne_true)]
        obtain ⟨n, q1, q2⟩ := ih (p + 1) false ((seen.add 6).add 44) (by omega) (by omega)
        refine ⟨n + 2, by omega, ?_⟩
        rw [runFor_succ _ _ rfl, e1, runFor_succ _ _ rfl]
        have := step_back text lim p 5 first ((seen.add 6).add 44) hp
        rw [this]
        exact q2
    · unfold nextHit
      rw [if_neg hp]
      have h0 : lim ≤ p + 0 := by omega
      obtain ⟨n, q1, q2⟩ := (show ∃ n, n ≤ 3 * 0 + 6 ∧ Found text lim none (runFor n (stA text lim p first seen)) from by
        have e1 := step_at text lim p first seen
        by_cases hs : (p == 0 || text.getD (p - 1) 0 == 10) = true
        · rw [if_pos hs] at e1
          refine ⟨4, by omega, ?_⟩
          show (runFor 4 _).outcome = _
          rw [runFor_succ _ _ rfl, e1, runFor_succ _ _ rfl, step_lit_end _ _ _ _ _ (by omega), runFor_succ _ _ rfl]
          have e2 : ({ stA text lim p first (((seen.add 6).add 44).add 16) with pc := 7, answer := some false } : M).step = { stA text lim p first (((seen.add 6).add 44).add 16) with pc := 5, frames := [], weight := 0, answer := some false } := by
            show (if p < lim then _ else _) = _
            rw [if_neg hp]; rfl
          rw [e2]; rfl
        · rw [if_neg hs] at e1
          refine ⟨3, by omega, ?_⟩
          show (runFor 3 _).outcome = _
          rw [runFor_succ _ _ rfl, e1, runFor_succ _ _ rfl]
          have e2 : ({ stA text lim p first ((seen.add 6).add 44) with answer := some false } : M).step = { stA text lim p first ((seen.add 6).add 44) with pc := 5, frames := [], weight := 0, answer := some false } := by
            show (if p < lim then _ else _) = _
            rw [if_neg hp]; rfl
          rw [e2]; rfl)
      exact ⟨n, by omega, q2⟩

theorem search_run (text : Array Nat) (lim p : Nat) (h : p ≤ lim) : ∃ n, n ≤ 3 * (lim + 1) + 6 ∧ Found text lim (nextHit text lim (lim + 1) p) (runFor n (forSearch dcode text 0 p lim false)) := by
  by_cases hp : p < lim
  · have e : forSearch dcode text 0 p lim false = stA text lim p true (({} : Sre.Seen).add 14) := by
      show (if (decide (p > lim) || decide (lim - p < 1)) = true then _ else _) = _
      rw [if_neg (by simp; omega)]
      rfl
    rw [e]
    exact run_from text lim (lim + 1) p true _ (by omega) h
  · refine ⟨1, by omega, ?_⟩
    have e0 : nextHit text lim (lim + 1) p = none := by unfold nextHit; rw [if_neg hp]
    rw [e0]
    show (runFor 1 (if (decide (p > lim) || decide (lim - p < 1)) = true then _ else _)).outcome = _
    rw [if_pos (by simp; omega)]
    rfl
end Mine

end
section
open PySem PySem.W PyProof.Rows
namespace Mine
set_option maxRecDepth 100000
open PySem.Builtin PySem.Builtin.Re

section
variable {M : Model} {A : Around} {E : Value → Shared → Prop} {s : Shared}

theorem wpAny_reDrive {Q : Sre.M → Shared → Prop} : ∀ (turns k : Nat) (m : Sre.M), 0 < turns → k ≤ 4 * turns → (Sre.M.runFor k m).outcome.isSome = true → Q (Sre.M.runFor k m) s → wpAny M A (reDrive turns m) Q E s
  | 0, _, _, h, _, _, _ => absurd h (Nat.lt_irrefl 0)
  | t + 1, k, m, _, hk, ho, hq => by
    show wpAny M A (if (Sre.M.runFor 4 m).outcome.isSome = true then pure (Sre.M.runFor 4 m) else do rule "sre.turn"; reDrive t (Sre.M.runFor 4 m)) Q E s
    have key : ∀ j, k ≤ j → Sre.M.runFor j m = Sre.M.runFor k m := by
      intro j hj
      obtain ⟨d, rfl⟩ := Nat.exists_eq_add_of_le hj
      rw [runFor_add, runFor_done d _ ho]
    by_cases h4 : (Sre.M.runFor 4 m).outcome.isSome = true
    · rw [if_pos h4]
      have e : Sre.M.runFor 4 m = Sre.M.runFor k m := by
        by_cases h : k ≤ 4
        · exact key 4 h
        · obtain ⟨d, rfl⟩ := Nat.exists_eq_add_of_le (Nat.le_of_lt (Nat.lt_of_not_le h))
          rw [runFor_add, runFor_done d _ h4]
      rw [e]
      exact wpAny_pure hq
    · rw [if_neg h4]
      have h : 4 < k := by
        apply Nat.lt_of_not_le
        intro h
        rw [key 4 h] at h4
        exact h4 ho
      obtain ⟨d, rfl⟩ := Nat.exists_eq_add_of_le (Nat.le_of_lt h)
      rw [runFor_add] at ho hq
      exact wpAny_bind (wpAny_rule (wpAny_reDrive t d _ (by omega) (by omega) ho hq))

theorem wpAny_forIn_unit {α : Type} {f : α → PUnit → Sem (ForInStep PUnit)} {Q : PUnit → Shared → Prop} : ∀ (l : List α),
    (∀ a, ∀ Q' : ForInStep PUnit → Shared → Prop, Q' (.yield ⟨⟩) s → wpAny M A (f a ⟨⟩) Q' E s) → Q ⟨⟩ s → wpAny M A (forIn l PUnit.unit f) Q E s
  | [], _, h => by rw [List.forIn_nil]; exact wpAny_pure h
  | a :: r, hf, h => by
    rw [List.forIn_cons]
    exact wpAny_bind (hf a _ (wpAny_forIn_unit r hf h))

theorem wpAny_reRunToEnd {m : Sre.M} {k : Nat} {Q : Option Sre.M → Shared → Prop} (hk : k ≤ 1073741824) (ho : (Sre.M.runFor k m).outcome.isSome = true)
    (hm : (Sre.M.runFor k m).outcome = some .matched → Q (some (Sre.M.runFor k m)) s) (hf : (Sre.M.runFor k m).outcome = some .failed → Q none s)
    (hs : ∀ w, (Sre.M.runFor k m).outcome ≠ some (.stuck w)) : wpAny M A (reRunToEnd m) Q E s := by
  unfold reRunToEnd
  refine wpAny_bind (wpAny_reDrive _ k m (by decide) (by omega) ho ?_)
  generalize Sre.M.runFor k m = m' at *
  refine wpAny_bind (wpAny_forIn_unit _ (fun i Q' h => ?_) ?_)
  · split
    · exact wpAny_bind (wpAny_rule (wpAny_pure h))
    · exact wpAny_pure h
  · cases e : m'.outcome with
    | none => rw [e] at ho; cases ho
    | some o =>
      cases o with
      | matched => exact wpAny_pure (hm e)
      | failed => exact wpAny_pure (hf e)
      | stuck w => exact absurd e (hs w)

theorem wpAny_nextFound {t : ReTarget} {start : Nat} {Q : Option Sre.M → Shared → Prop} (hc : t.code = dcode) (hg : t.groups = 0) (hl : start ≤ t.lim) (hsz : t.lim ≤ 1048576)
    (hm : ∀ m p, nextHit t.text t.lim (t.lim + 1) start = some p → m.start = p → m.handed = p + 1 → Q (some m) s) (hf : nextHit t.text t.lim (t.lim + 1) start = none → Q none s) :
    wpAny M A (reNextFound t start false) Q E s := by
  unfold reNextFound
  rw [hc, hg]
  obtain ⟨n, h1, h2⟩ := search_run t.text t.lim start hl
  cases e : nextHit t.text t.lim (t.lim + 1) start with
  | none =>
    rw [e] at h2
    have h3 : (Sre.M.runFor n (Sre.forSearch dcode t.text 0 start t.lim false)).outcome = some .failed := h2
    refine wpAny_reRunToEnd (k := n) (by omega) (by rw [h3]; rfl) (fun q => ?_) (fun _ => hf e) (fun w q => ?_)
    · rw [h3] at q; cases q
    · rw [h3] at q; cases q
  | some p =>
    rw [e] at h2
    obtain ⟨h3, h4, h5⟩ := h2
    refine wpAny_reRunToEnd (k := n) (by omega) (by rw [h3]; rfl) (fun _ => hm _ p e h4 h5) (fun q => ?_) (fun w q => ?_)
    · rw [h3] at q; cases q
    · rw [h3] at q; cases q
end
end Mine

end
section
open PySem PySem.W PyProof.Rows
namespace Mine
set_option maxRecDepth 100000
open PySem.Builtin PySem.Builtin.Re PySem.Builtin.Bytes

inductive Pcs : List Value → List (Array UInt8) → Prop
  | nil : Pcs [] []
  | cons {b : Array UInt8} {t : Tok} {P : List Value} {ps : List (Array UInt8)} : Pcs P ps → Pcs (.bytes b t :: P) (b :: ps)
theorem Pcs.append {P P' : List Value} {ps ps' : List (Array UInt8)} (h : Pcs P ps) (h' : Pcs P' ps') : Pcs (P ++ P') (ps ++ ps') := by
  induction h with
  | nil => exact h'
  | cons _ ih => exact .cons ih
theorem Pcs.one {b : Array UInt8} {t : Tok} : Pcs [.bytes b t] [b] := .cons .nil
theorem Pcs.len {P : List Value} {ps : List (Array UInt8)} (h : Pcs P ps) : P.length = ps.length := by
  induction h with
  | nil => rfl
  | cons _ ih => simp [ih]
theorem Pcs.get {P : List Value} {ps : List (Array UInt8)} (h : Pcs P ps) : ∀ i, i < P.length → ∃ b t, P[i]? = some (.bytes b t) ∧ ps[i]? = some b := by
  induction h with
  | nil => intro i hi; cases hi
  | @cons b t P ps _ ih =>
    intro i hi
    cases i with
    | zero => exact ⟨b, t, rfl, rfl⟩
    | succ i =>
      obtain ⟨b', t', h1, h2⟩ := ih i (by simp at hi; exact hi)
      exact ⟨b', t', by simpa using h1, by simpa using h2⟩

def cat (ps : List (Array UInt8)) : Array UInt8 := ps.foldl (· ++ ·) #[]
theorem cat_snoc (ps : List (Array UInt8)) (b : Array UInt8) : cat (ps ++ [b]) = cat ps ++ b := by unfold cat; rw [List.foldl_append]; rfl
theorem joined_nil (ps : List (Array UInt8)) : joined #[] ps = cat ps := by
  unfold joined cat
  have key : ∀ (l : List (Array UInt8)) (n : Nat) (acc : Array UInt8), (l.zipIdx n).foldl (fun out (x : Array UInt8 × Nat) => (if x.2 > 0 then out ++ #[] else out) ++ x.1) acc = l.foldl (· ++ ·) acc := by
    intro l
    induction l with
    | nil => intro n acc; rfl
    | cons b r ih =>
      intro n acc
      rw [List.zipIdx_cons, List.foldl_cons, List.foldl_cons, ih]
      congr 1
      simp only [Array.append_empty, ite_self]
  exact key ps 0 #[]
theorem sum_sizes (ps : List (Array UInt8)) : ∀ n, ps.foldl (fun (a : Nat) (b : Array UInt8) => a + b.size) n = n + (cat ps).size := by
  have key : ∀ (l : List (Array UInt8)) (acc : Array UInt8), (l.foldl (· ++ ·) acc).size = l.foldl (fun (a : Nat) (b : Array UInt8) => a + b.size) acc.size := by
    intro l
    induction l with
    | nil => intro acc; rfl
    | cons b r ih => intro acc; rw [List.foldl_cons, List.foldl_cons, ih, Array.size_append]
  have shift : ∀ (l : List (Array UInt8)) (n k : Nat), l.foldl (fun (a : Nat) (b : Array UInt8) => a + b.size) (n + k) = n + l.foldl (fun (a : Nat) (b : Array UInt8) => a + b.size) k := by
    intro l
    induction l with
    | nil => intro n k; rfl
    | cons b r ih => intro n k; rw [List.foldl_cons, List.foldl_cons, Nat.add_assoc, ih]
  intro n
  have h := key ps #[]
  unfold cat
  rw [h]
  exact shift ps n 0

section
variable {M : Model} {A : Around} {E : Value → Shared → Prop} {s : Shared}

theorem if_yes {α : Type} {c : Prop} [Decidable c] {a b : Sem α} {Q : α → Shared → Prop} (hc : c) (h : wpAny M A a Q E s) : wpAny M A (if c then a else b) Q E s := by rw [if_pos hc]; exact h
theorem if_no {α : Type} {c : Prop} [Decidable c] {a b : Sem α} {Q : α → Shared → Prop} (hc : ¬ c) (h : wpAny M A b Q E s) : wpAny M A (if c then a else b) Q E s := by rw [if_neg hc]; exact h
theorem wpAny_takeQuiet {id : String} {b : Array UInt8} {t : Tok} {Q : Option (Array UInt8 × Option Value) → Shared → Prop} (h : Q (some (b, none)) s) : wpAny M A (takeBufferQuiet? id (.bytes b t) 0) Q E s := by
  unfold takeBufferQuiet?
  have e : takeBuffer? id (.bytes b t) 0 = pure (some (b, none)) := by
    unfold takeBuffer?
    rw [KBy.special_eq bytes_buffer, KBy.own_buffer, show ((0 : Int) == fullReadOnly) = false from by decide, KBy.buffer_eq]
    rfl
  rw [e]
  exact wpAny_of_eq (a := some (b, none)) rfl h

theorem wpAny_joinLetGo {keep : List Value} {Q : Unit → Shared → Prop} : ∀ (taken : List (Value × Option Value)), (∀ x ∈ taken, x.2 = none) → Q () s → wpAny M A (joinLetGo taken keep) Q E s
  | [], _, h => wpAny_pure h
  | (x, w) :: r, hw, h => by
    have e : w = none := hw (x, w) (List.mem_cons_self ..)
    subst e
    unfold joinLetGo
    exact wpAny_bind (wpAny_letGo (wpAny_joinLetGo r (fun y hy => hw y (List.mem_cons_of_mem _ hy)) h))

theorem forIn_inv {α σ : Type} {f : α → σ → Sem (ForInStep σ)} {Q : σ → Shared → Prop} (I : List α → σ → Prop) : ∀ (l : List α) (st : σ), I l st →
    (∀ a r st, I (a :: r) st → ∀ Q' : ForInStep σ → Shared → Prop, (∀ st', I r st' → Q' (.yield st') s) → wpAny M A (f a st) Q' E s) → (∀ st, I [] st → Q st s) → wpAny M A (forIn l st f) Q E s
  | [], st, h, _, hd => by rw [List.forIn_nil]; exact wpAny_pure (hd st h)
  | a :: r, st, h, hf, hd => by
    rw [List.forIn_cons]
    exact wpAny_bind (hf a r st h _ fun st' h' => forIn_inv I r st' h' hf hd)

theorem wpAny_seqItems {l : Addr} {o : Obj} {xs : Array Value} {n : Nat} {Q : Option (Array Value) → Shared → Prop} (ho : s.heap.get? l = some o) (hd : o.data = .seq xs n) (h : Q (some xs) s) : wpAny M A (seqItems? (.ref l)) Q E s := by
  unfold seqItems?
  refine wpAny_bind (wpAny_load ho ?_)
  rw [hd]
  exact wpAny_pure h

theorem joinM_ne {α : Type} (X : Array Value) (h : X.size ≠ 1) (f : Value → α) (g : Array Value → α) : joinM.match_1 (fun _ => α) X f g = g X := by
  obtain ⟨xs⟩ := X
  rcases xs with _ | ⟨x, _ | ⟨y, r⟩⟩
  · rfl
  · exact absurd rfl h
  · rfl

theorem wpAny_join {l : Addr} {P : List Value} {ps : List (Array UInt8)} {n : Nat} {t₀ : Tok} {Q : Fin → Shared → Prop} (ho : s.heap.get? l = some { cls := .type "list", data := .seq P.toArray n }) (hp : Pcs P ps)
    (hsz : (cat ps).size ≤ 16777216) (h : ∀ t k, Q (.done (.ret (.bytes (cat ps) t))) { s with toks := k }) : wpAny M A (joinM .bytes ⟨[.bytes #[] t₀, .ref l], []⟩) Q E s := by
  show wpAny M A (joinItems (.ref l) >>= fun seq => _) Q E s
  refine wpAny_bind ?_
  unfold joinItems
  refine wpAny_bind (wpAny_typeOf (T := "list") ⟨_, ho, rfl⟩ ?_)
  refine if_yes (by rfl) (wpAny_pure ?_)
  refine wpAny_bind (wpAny_seqItems ho rfl ?_)
  dsimp only
  refine if_yes (by rfl) ?_
  have hb : ∀ i, i < P.length → ∃ b t, P.toArray.getD i .none = .bytes b t ∧ ps[i]? = some b := by
    intro i hi
    obtain ⟨b, t, h1, h2⟩ := hp.get i hi
    refine ⟨b, t, ?_, h2⟩
    simp [Array.getD, hi]
    have := List.getElem?_eq_getElem hi
    rw [this] at h1
    exact Option.some.inj h1
  have hX : P.toArray.size = P.length := List.size_toArray ..
  generalize hXP : P.toArray = X at *
  by_cases h1 : X.size = 1
  · have hP : ∃ x, P = [x] := List.length_eq_one_iff.mp (by rw [← hX]; exact h1)
    obtain ⟨x, hP⟩ := hP
    subst hP
    subst hXP
    cases hp with
    | cons hp' =>
      cases hp'
      show wpAny M A (typeOf _ >>= _) _ E s
      refine wpAny_bind (wpAny_typeOf (typeIs_bytes _ _ _) ?_)
      refine if_yes (by rfl) (wpAny_bind (wpAny_rule (wpAny_pure ?_)))
      have := h ‹_› s.toks
      rw [show cat [_] = _ from Array.empty_append] at this
      exact this
  · rw [joinM_ne X h1, Std.Legacy.Range.forIn_eq_forIn_range']
    simp only [Std.Legacy.Range.size, Nat.sub_zero, Nat.add_sub_cancel, Nat.div_one, hX]
    refine wpAny_bind (forIn_inv (fun (r : List Nat) (st : Array (Array UInt8) × List (Value × Option Value)) => ∃ k, r = List.range' k (P.length - k) ∧ k ≤ P.length ∧ st.1 = (ps.take k).toArray ∧ ∀ x ∈ st.2, x.2 = none ∧ x.1.onHeap = false) _ _ ?_ ?_ ?_)
    · exact ⟨0, by simp, Nat.zero_le _, rfl, fun _ hx => nomatch hx⟩
    · rintro i r st ⟨k, hr, hk, h1, h2⟩ Q' hQ'
      have hkl : k < P.length := by
        rcases Nat.lt_or_ge k P.length with q | q
        · exact q
        · rw [show P.length - k = 0 from by omega] at hr; cases hr
      have hr' : i = k ∧ r = List.range' (k + 1) (P.length - (k + 1)) := by
        rw [show P.length - k = (P.length - (k + 1)) + 1 from by omega, List.range'_succ] at hr
        exact ⟨(List.cons.inj hr).1, (List.cons.inj hr).2⟩
      obtain ⟨rfl, rfl⟩ := hr'
      obtain ⟨b, t, e1, e2⟩ := hb i hkl
      refine wpAny_bind (wpAny_seqItems ho rfl ?_)
      dsimp only
      rw [e1]
      refine if_no ?_ ?_
      · intro q
        rw [show (Kind.bytes == Kind.bytearray) = false from rfl, Bool.false_or, List.any_eq_true] at q
        obtain ⟨x, hx, q⟩ := q
        rw [(h2 x hx).2] at q; cases q
      refine wpAny_bind (wpAny_holding (wpAny_takeQuiet ?_))
      dsimp only
      refine wpAny_bind (wpAny_seqItems ho rfl ?_)
      dsimp only
      refine if_no (by simp [hX]) ?_
      refine wpAny_pure (hQ' _ ⟨i + 1, rfl, hkl, ?_, ?_⟩)
      · dsimp only
        rw [h1, List.take_add_one, e2]
        simp
      · intro x hx
        dsimp only at hx
        rcases List.mem_append.mp hx with hx | hx
        · exact h2 x hx
        · rw [List.mem_singleton.mp hx]; exact ⟨rfl, rfl⟩
    · rintro st ⟨k, hr, hk, h1, h2⟩
      have hkl : k = P.length := by
        rcases Nat.lt_or_ge k P.length with q | q
        · rw [show P.length - k = (P.length - (k + 1)) + 1 from by omega, List.range'_succ] at hr; cases hr
        · omega
      subst hkl
      rw [hp.len, List.take_length] at h1
      refine wpAny_bind (wpAny_of_eq (a := (#[] : Array UInt8)) rfl ?_)
      refine if_no ?_ ?_
      · intro q
        have e : st.1.foldl (fun (x1 : Nat) (x2 : Array UInt8) => x1 + x2.size) ((#[] : Array UInt8).size * (st.1.size - 1)) = (cat ps).size := by
          rw [h1]
          have z : (#[] : Array UInt8).size * (ps.toArray.size - 1) = 0 := Nat.zero_mul _
          rw [z, ← Array.foldl_toList, List.toList_toArray, sum_sizes ps 0, Nat.zero_add]
        rw [e, KBy.tooLong_not hsz] at q
        cases q
      refine wpAny_bind ?_
      show wpAny M A (mkBytes (joined #[] st.1.toList)) _ E s
      rw [h1, List.toList_toArray, joined_nil]
      refine wpAny_mkBytes ?_ (by rw [sizeLine_eq]; exact hsz)
      refine wpAny_bind (wpAny_holding (wpAny_point ?_))
      refine wpAny_bind (wpAny_joinLetGo _ (fun x hx => (h2 x hx).1) ?_)
      exact wpAny_pure (h _ _)
end
end Mine

end
section
open PySem PySem.W PyProof.Rows
namespace Mine
set_option maxRecDepth 100000
open PySem.Builtin PySem.Builtin.Re PySem.Builtin.Bytes

abbrev patObj : Obj := { cls := .type "re.Pattern", data := .fields #[.bytes #[40, 63, 109, 41, 94, 92, 46] 285, .int 8 298, .int 0 0, .none, .none, .ref 35, .int 1 0] }
abbrev patCode : Obj := { cls := .type "tuple", data := .seq #[.int 14 0, .int 4 0, .int 0 0, .int 1 0, .int 1 0, .int 6 0, .int 1 0, .int 16 0, .int 46 0, .int 1 0] }
structure PatIn (h : Heap) : Prop where
  p : h.get? 36 = some patObj
  c : h.get? 35 = some patCode

abbrev codes (b : Array UInt8) : Array Nat := b.map (·.toNat)

section
variable {M : Model} {A : Around} {E : Value → Shared → Prop} {s : Shared}

theorem wpAny_wholeTarget {b : Array UInt8} {t : Tok} {Q : ReTarget → Shared → Prop} (X : PatIn s.heap)
    (h : Q { pattern := .ref 36, string := .bytes b t, code := dcode, text := codes b, kind := 1, groups := 0, pos := 0, lim := (codes b).size } s) : wpAny M A (reWholeTarget (.ref 36) (.bytes b t)) Q E s := by
  unfold reWholeTarget
  refine wpAny_bind (wpAny_fieldsOf X.p rfl ?_)
  refine wpAny_bind (m := reTextOf (.bytes b t)) ?_
  unfold reTextOf
  refine wpAny_bind (wpAny_of_eq (a := none) rfl ?_)
  refine wpAny_bind (wpAny_of_eq KBy.quiet_eq (wpAny_pure ?_))
  dsimp only
  refine if_no (by intro q; exact absurd q (by decide)) ?_
  refine if_no (by intro q; exact absurd q (by decide)) ?_
  refine wpAny_bind (m := reNoCollectionInside (.bytes b t) 1) ?_
  unfold reNoCollectionInside
  refine if_yes rfl ?_
  refine wpAny_bind (wpAny_of_eq KBy.isInstance_eq ?_)
  refine if_no (by decide) (wpAny_pure ?_)
  refine wpAny_bind (m := reRawItems (.ref 35)) ?_
  unfold reRawItems
  refine wpAny_bind (wpAny_seqItems X.c rfl (wpAny_pure ?_))
  have e : Array.map (fun (x : Int) => x.toNat) (Array.map reRawOf ((some #[Value.int 14 0, Value.int 4 0, Value.int 0 0, Value.int 1 0, Value.int 1 0, Value.int 6 0, Value.int 1 0, Value.int 16 0, Value.int 46 0, Value.int 1 0]).getD #[])) = dcode := by decide +kernel
  rw [e]
  exact wpAny_pure h

theorem wpAny_litOk {b : Array UInt8} {t : Tok} {Q : Unit → Shared → Prop} (h : Q () s) : wpAny M A (reLiteralCannotBeTurned (.bytes b t)) Q E s := by
  unfold reLiteralCannotBeTurned
  refine wpAny_bind (wpAny_of_eq (a := none) rfl ?_)
  refine if_yes rfl ?_
  refine wpAny_bind (wpAny_of_eq KBy.isInstance_eq ?_)
  exact if_no (by decide) (wpAny_pure h)

theorem wpAny_slice {b : Array UInt8} {i j : Nat} {Q : Value → Shared → Prop} (hsz : b.size ≤ 1048576) (h : Q (.bytes (b.extract i j) s.toks) { s with toks := s.toks + 1 }) : wpAny M A (reSlice (codes b) 1 i j) Q E s := by
  have e : ((codes b).extract i j).map (·.toUInt8) = b.extract i j := by
    apply Array.toList_inj.mp
    simp only [codes, Array.toList_map, Array.toList_extract, List.extract_eq_take_drop, ← List.map_take, ← List.map_drop, List.map_map]
    have : ((fun x => x.toUInt8) ∘ fun (x : UInt8) => x.toNat) = _root_.id := by
      funext x
      simp
    rw [this, List.map_id]
  show wpAny M A (mkBytes (((codes b).extract i j).map (·.toUInt8))) Q E s
  rw [e]
  refine wpAny_mkBytes h ?_
  rw [sizeLine_eq, Array.size_extract]
  omega
end

/-- what is sent of b from place p on -/
def qf (b : Array UInt8) : Nat → Nat → List UInt8
  | 0, _ => []
  | k + 1, p => if p < b.size then (if hit (codes b) p then [46, 46] else [b.getD p 0]) ++ qf b k (p + 1) else []
theorem qf_end (b : Array UInt8) (k p : Nat) (h : ¬ p < b.size) : qf b k p = [] := by
  cases k with
  | zero => rfl
  | succ k => unfold qf; rw [if_neg h]
theorem qf_more (b : Array UInt8) : ∀ (k k' p : Nat), b.size ≤ p + k → k ≤ k' → qf b k' p = qf b k p
  | 0, k', p, h, _ => by rw [qf_end b k' p (by omega)]; rfl
  | k + 1, 0, p, _, h' => absurd h' (by omega)
  | k + 1, k' + 1, p, h, h' => by
    unfold qf
    rw [qf_more b k k' (p + 1) (by omega) (by omega)]
theorem next_none (b : Array UInt8) : ∀ (k p : Nat), b.size ≤ p + k → p ≤ b.size → nextHit (codes b) (codes b).size k p = none → qf b k p = (b.extract p b.size).toList
  | 0, p, h, h2, _ => by
    have e : p = b.size := by omega
    subst e; simp [qf]
  | k + 1, p, h, h2, hn => by
    unfold nextHit at hn
    unfold qf
    have hs : (codes b).size = b.size := Array.size_map ..
    rw [hs] at hn
    by_cases hp : p < b.size
    · rw [if_pos hp] at hn ⊢
      by_cases hh : hit (codes b) p = true
      · rw [if_pos hh] at hn; cases hn
      · rw [if_neg hh] at hn ⊢
        rw [next_none b k (p + 1) (by omega) (by omega) (by rw [hs]; exact hn)]
        simp only [Array.toList_extract, List.extract_eq_take_drop]
        rw [show b.size - p = (b.size - (p + 1)) + 1 from by omega, List.drop_eq_getElem_cons (l := b.toList) (i := p) (by simpa using hp), List.take_succ_cons]
        simp [Array.getD, hp]
    · rw [if_neg hp]
      have e : p = b.size := by omega
      subst e; simp
theorem next_some (b : Array UInt8) : ∀ (k p q : Nat), b.size ≤ p + k → nextHit (codes b) (codes b).size k p = some q → p ≤ q ∧ q < b.size ∧ qf b k p = (b.extract p q).toList ++ [46, 46] ++ qf b k (q + 1)
  | 0, _, _, _, hn => by cases hn
  | k + 1, p, q, h, hn => by
    unfold nextHit at hn
    have hs : (codes b).size = b.size := Array.size_map ..
    rw [hs] at hn
    by_cases hp : p < b.size
    · rw [if_pos hp] at hn
      by_cases hh : hit (codes b) p = true
      · rw [if_pos hh] at hn
        obtain rfl : p = q := Option.some.inj hn
        refine ⟨Nat.le_refl _, hp, ?_⟩
        have e : qf b (k + 1) p = [46, 46] ++ qf b k (p + 1) := by
          conv => lhs; unfold qf
          rw [if_pos hp, if_pos hh]
        rw [e, ← qf_more b k (k + 1) (p + 1) (by omega) (by omega)]
        simp
      · rw [if_neg hh] at hn
        obtain ⟨h1, h2, h3⟩ := next_some b k (p + 1) q (by omega) (by rw [hs]; exact hn)
        refine ⟨by omega, h2, ?_⟩
        have e : qf b (k + 1) p = [b.getD p 0] ++ qf b k (p + 1) := by
          conv => lhs; unfold qf
          rw [if_pos hp, if_neg hh]
        rw [e, h3, ← qf_more b k (k + 1) (q + 1) (by omega) (by omega)]
        simp only [Array.toList_extract, List.extract_eq_take_drop]
        rw [show q - p = (q - (p + 1)) + 1 from by omega, List.drop_eq_getElem_cons (l := b.toList) (i := p) (by simpa using hp), List.take_succ_cons]
        simp [Array.getD, hp]
    · rw [if_neg hp] at hn; cases hn
end Mine

end
section
open PySem PySem.W PyProof.Rows
namespace Mine
set_option maxRecDepth 100000
open PySem.Builtin PySem.Builtin.Re PySem.Builtin.Bytes

section
variable {M : Model} {A : Around} {E : Value → Shared → Prop} {s : Shared}

theorem wpAny_push {l : Addr} {P : List Value} {n : Nat} {x : Value} {Q : Unit → Shared → Prop} (ho : s.heap.get? l = some { cls := .type "list", data := .seq P.toArray n }) (hz : P.length ≤ 16777215)
    (h : ∀ h' n', h'.get? l = some { cls := .type "list", data := .seq (P ++ [x]).toArray n' } → Heap.SameBut l s.heap h' → Q () { s with heap := h' }) : wpAny M A (updateSeq l (·.push x)) Q E s := by
  refine wpAny_updateSeq ho rfl (h _ (n + 1) ?_ (Heap.SameBut.update ..)) (by rw [sizeLine_eq, List.size_toArray]; omega) (by rw [sizeLine_eq, Array.size_push, List.size_toArray]; omega)
  rw [Heap.get?_update_self _ ho rfl]
  simp [Obj.mapSeq]

theorem PatIn.same {h h' : Heap} {l : Addr} (X : PatIn h) (hs : Heap.SameBut l h h') (h1 : l ≠ 36) (h2 : l ≠ 35) : PatIn h' :=
  ⟨(hs.2 36 (Ne.symm h1)).trans X.p, (hs.2 35 (Ne.symm h2)).trans X.c⟩
end

theorem cat_toList (ps : List (Array UInt8)) (b : Array UInt8) (r : List UInt8) : cat (ps ++ [b]) ++ r.toArray = cat ps ++ (b.toList ++ r).toArray := by
  rw [cat_snoc]
  apply Array.toList_inj.mp
  simp

theorem meets_join {l : Addr} {t₀ : Tok} : Meets (Builtin.«bytes.join» ⟨[.bytes #[] t₀, .ref l], []⟩) (fun _ R s => ∃ P ps n, s.heap.get? l = some { cls := .type "list", data := .seq (P : List Value).toArray n } ∧ Pcs P ps ∧ (cat ps).size ≤ 16777216 ∧ ∀ t k, R (.ok (.ret (.bytes (cat ps) t))) { s with toks := k }) := by
  refine .of_wp fun prog w A R s hS => ?_
  obtain ⟨P, ps, n, ho, hp, hsz, h⟩ := hS
  exact wpAny_join ho hp hsz fun t k => ⟨_, rfl, h t k⟩

theorem num_nat (start : Nat) : ((start : Int)).toNat = start := rfl

theorem loop_end {prog : Program} {w : World} {A : Around} {R : Result → Shared → Prop} {l : Addr} {s : Shared} {P : List Value} {ps : List (Array UInt8)} {e : Nat} {j : Value} {t₀ : Tok} {F : Value → Sem PySem.Fin} (hj : j = .bytes #[] t₀)
    (ho : s.heap.get? l = some { cls := .type "list", data := .seq P.toArray e }) (hp : Pcs P ps) (hc : (cat ps).size ≤ 16777216) (hF : ∀ v, F v = ret v)
    (h : ∀ t tk, R (.ok (.ret (.bytes (cat ps) t))) { s with toks := tk }) :
    wpAny (model prog w) A.in1 (seqItems? (.ref l) >>= fun x => if (x.getD #[]).isEmpty = true then (pure j >>= F) else (call (.builtin (if (1 == 0) = true then "str.join" else "bytes.join")) [j, .ref l] >>= F))
      (fun fin s' => match fin with | .done f => R (.ok f) s' | .again c' => c'.quiet = true ∧ codeAny (model prog w) A c' R s') (fun e s' => R (.error e) s') s := by
  subst hj
  refine wpAny_bind (wpAny_seqItems ho rfl ?_)
  dsimp only [Option.getD]
  by_cases hz : P.toArray.isEmpty = true
  · refine if_yes hz (wpAny_bind (wpAny_pure ?_))
    rw [hF]
    have hP : P = [] := by simpa using hz
    subst hP
    cases hp
    exact wpAny_pure (h t₀ s.toks)
  · refine if_no hz (wpAny_bind ?_)
    show wpAny _ _ (call (.builtin "bytes.join") [.bytes #[] t₀, .ref l]) _ _ _
    refine call_meets slot_bytes_join (typeIs_bytes _ _ _) entry_bytes_join (args_bytes_join_2 _ _) meets_join ⟨P, ps, e, ho, hp, hc, fun t k => ?_⟩
    show wpAny _ _ (F _) _ _ _
    rw [hF]
    exact wpAny_pure (h t k)

theorem sub_loop {prog : Program} {w : World} {A : Around} {R : Result → Shared → Prop} {b : Array UInt8} {tb tr : Tok} {l : Addr} (hsz : b.size ≤ 1048576) (hl1 : l ≠ 36) (hl2 : l ≠ 35) :
    ∀ (k : Nat) (s : Shared) (P : List Value) (ps : List (Array UInt8)) (n e start : Nat), b.size < start + k → start ≤ b.size → PatIn s.heap →
      s.heap.get? l = some { cls := .type "list", data := .seq P.toArray e } → Pcs P ps → P.length ≤ 2 * start → (cat ps).size ≤ 2 * start →
      (∀ h' t tk, Heap.SameBut l s.heap h' → R (.ok (.ret (.bytes (cat ps ++ (qf b (b.size + 1) start).toArray) t))) { s with heap := h', toks := tk }) →
      codeAny (model prog w) A (.builtin "re.Pattern.sub.loop" ⟨[.ref 36, .bytes b tb, .bytes #[46, 46] tr, rawInt 0, rawInt 0, rawInt n, rawInt start, rawInt start, .bool false, .ref l, .bool false], []⟩) R s := by
  intro k
  induction k with
  | zero => intro s P ps n e start hk hst; omega
  | succ k ih =>
    intro s P ps n e start hk hst X ho hp hP hc h
    have hs : (codes b).size = b.size := Array.size_map ..
    refine codeAny_builtin entry_pat_loop ?_
    rw [Around.under_plainId plain_pat_loop]
    show wpAny _ _ (reWholeTarget (.ref 36) (.bytes b tb) >>= fun t => _) _ _ s
    refine wpAny_bind (wpAny_wholeTarget X ?_)
    refine if_yes rfl ?_
    refine wpAny_bind (wpAny_litOk ?_)
    dsimp only
    refine wpAny_bind ?_
    refine if_no (by intro q; cases q) ?_
    refine wpAny_nextFound rfl rfl (by show start ≤ (codes b).size; rw [hs]; exact hst) (by show (codes b).size ≤ _; rw [hs]; exact hsz) (fun m p hn h1 h2 => ?_) (fun hn => ?_)
    · have hn : nextHit (codes b) (codes b).size ((codes b).size + 1) start = some p := hn
      rw [hs] at hn
      obtain ⟨q1, q2, q3⟩ := next_some b (b.size + 1) start p (by omega) (by rw [hs]; exact hn)
      have again_ : ∀ (s₁ : Shared) (P₁ : List Value) (ps₁ : List (Array UInt8)) (e₁ : Nat), Heap.SameBut l s.heap s₁.heap → s₁ = { s with heap := s₁.heap, toks := s₁.toks } →
          s₁.heap.get? l = some { cls := .type "list", data := .seq P₁.toArray e₁ } → Pcs P₁ ps₁ → P₁.length ≤ 2 * start + 1 → cat ps₁ = cat ps ++ b.extract start p →
          wpAny (model prog w) A.in1 (updateSeq l (·.push (.bytes #[46, 46] tr)) >>= fun _ => again (Code.builtin "re.Pattern.sub.loop" ⟨[.ref 36, .bytes b tb, .bytes #[46, 46] tr, rawInt 0, rawInt 0, rawInt ((n : Int) + 1), rawInt m.handed, rawInt m.handed, .bool (m.handed == m.start), .ref l, .bool false], []⟩))
            (fun fin s' => match fin with | .done f => R (.ok f) s' | .again c' => c'.quiet = true ∧ codeAny (model prog w) A c' R s') (fun e s' => R (.error e) s') s₁ := by
        intro s₁ P₁ ps₁ e₁ hb es ho₁ hp₁ hlen hcat
        refine wpAny_bind (wpAny_push ho₁ (by omega) fun h' n' ho' hb' => ?_)
        refine wpAny_pure ⟨plainId_quiet plain_pat_loop _, ?_⟩
        rw [h1, h2, show (p + 1 == p) = false from by simp]
        have hcat' : cat (ps₁ ++ [#[46, 46]]) = cat ps ++ b.extract start p ++ #[46, 46] := by rw [cat_snoc, hcat]
        refine ih { s₁ with heap := h' } (P₁ ++ [.bytes #[46, 46] tr]) (ps₁ ++ [#[46, 46]]) (n + 1) n' (p + 1) (by omega) (by omega) ((X.same hb hl1 hl2).same hb' hl1 hl2) ho' (hp₁.append .one) (by rw [List.length_append, List.length_singleton]; omega) ?_ ?_
        · rw [hcat', Array.size_append, Array.size_append, Array.size_extract]
          show (cat ps).size + _ + 2 ≤ _
          omega
        · intro h'' t tk hb''
          have hh := h h'' t tk ((hb.trans hb').trans hb'')
          rw [es]
          rw [q3] at hh
          rw [hcat']
          have e3 : cat ps ++ b.extract start p ++ #[46, 46] ++ (qf b (b.size + 1) (p + 1)).toArray = cat ps ++ ((b.extract start p).toList ++ [46, 46] ++ qf b (b.size + 1) (p + 1)).toArray := by
            apply Array.toList_inj.mp
            simp
          rw [e3]
          exact hh
      dsimp only
      rw [num_nat]
      by_cases hlt : start < m.start
      · refine if_yes hlt ?_
        refine wpAny_bind (wpAny_slice hsz ?_)
        refine wpAny_bind (wpAny_push ho (by omega) fun h' n' ho' hb' => ?_)
        refine if_yes rfl (wpAny_bind (wpAny_pure (if_yes rfl ?_)))
        exact again_ { s with heap := h', toks := s.toks + 1 } _ (ps ++ [b.extract start m.start]) n' hb' rfl ho' (hp.append .one) (by rw [List.length_append, List.length_singleton]; omega) (by rw [cat_snoc, h1])
      · refine if_no hlt ?_
        refine if_yes rfl (wpAny_bind (wpAny_pure (if_yes rfl ?_)))
        refine again_ s P ps e (Heap.SameBut.refl ..) rfl ho hp (by omega) ?_
        have : start = p := by omega
        subst this
        apply Array.toList_inj.mp
        simp
    · have hn : nextHit (codes b) (codes b).size ((codes b).size + 1) start = none := hn
      rw [hs] at hn
      have q := next_none b (b.size + 1) start (by omega) hst (by rw [hs]; exact hn)
      dsimp only
      rw [num_nat]
      have hj : ∀ t, Value.bytes (b.extract 0 0) t = Value.bytes #[] t := fun t => by
        congr 1
        apply Array.toList_inj.mp
        simp
      by_cases hlt : start < (codes b).size
      · refine if_yes hlt ?_
        refine wpAny_bind (wpAny_slice hsz ?_)
        refine wpAny_bind (wpAny_push ho (by omega) fun h' n' ho' hb' => ?_)
        refine wpAny_bind (wpAny_slice hsz ?_)
        refine loop_end (hj _) ho' (hp.append .one) ?_ (fun v => rfl) fun t tk => ?_
        · rw [cat_snoc, Array.size_append, Array.size_extract]; omega
        · have hh := h h' t tk hb'
          rw [q] at hh
          rw [cat_snoc]
          rw [hs]
          have e3 : cat ps ++ b.extract start b.size = cat ps ++ ((b.extract start b.size).toList).toArray := by
            apply Array.toList_inj.mp
            simp
          rw [e3]
          exact hh
      · refine if_no hlt ?_
        refine wpAny_bind (wpAny_slice hsz ?_)
        refine loop_end (hj _) ho hp (by omega) (fun v => rfl) fun t tk => ?_
        have hh := h s.heap t tk (Heap.SameBut.refl ..)
        rw [q] at hh
        have : start = b.size := by omega
        subst this
        have e3 : cat ps ++ ((b.extract b.size b.size).toList).toArray = cat ps := by
          apply Array.toList_inj.mp
          simp
        rw [e3] at hh
        exact hh

/-- _quote_periods, octet by octet -/
def quoted (b : Array UInt8) : Array UInt8 := (qf b (b.size + 1) 0).toArray

theorem call_sub {prog : Program} {w : World} {A : Around} {E : Value → Shared → Prop} {s : Shared} {b : Array UInt8} {tb tr : Tok} {h₀ : Heap} {L : Addr} {m : PySem.Str → Option Value} {news : List (Addr × Obj)} {Q : Value → Shared → Prop}
    (X : PatIn s.heap) (hsz : b.size ≤ 1048576) (F : Fr h₀ L s.heap m) (N : News h₀ L s.heap news)
    (h : ∀ h' t k, Fr h₀ L h' m → News h₀ L h' news → Q (.bytes (quoted b) t) { s with heap := h', toks := k }) :
    wpAny (model prog w) A (call (.builtin "re.Pattern.sub") [.ref 36, .bytes #[46, 46] tr, .bytes b tb]) Q E s := by
  refine wpAny_call (codeAny_call_builtin slot_pat_sub.plain entry_pat_sub (slot_pat_sub.check _ _ _ _ _ _ _ _ ⟨_, X.p, rfl⟩ (args_pat_sub _ _ _) ?_))
  show wpAny _ _ (reNamed "re.Pattern.sub" "sub" ["repl", "string", "count"] 2 [.bytes #[46, 46] tr, .bytes b tb] [] >>= fun r => _) _ _ s
  refine wpAny_bind (wpAny_of_eq (a := [some (.bytes #[46, 46] tr), some (.bytes b tb), none]) rfl ?_)
  dsimp only
  refine wpAny_bind (wpAny_pure ?_)
  refine wpAny_bind (wpAny_specialOf (T := "bytes") (typeIs_bytes _ _ _) bytes_nocall ?_)
  refine if_no (by intro q; cases q) ?_
  refine wpAny_bind (wpAny_of_eq (a := none) rfl ?_)
  refine wpAny_bind (wpAny_of_eq KBy.quiet_eq ?_)
  refine wpAny_bind (wpAny_pure ?_)
  refine if_no (by intro q; cases q) ?_
  refine if_yes (by decide +kernel) ?_
  refine wpAny_bind (wpAny_pure ?_)
  refine wpAny_bind (wpAny_holding (wpAny_wholeTarget X ?_))
  refine if_no (by intro q; cases q) ?_
  refine wpAny_bind (wpAny_newObj_type ?_ (by show (#[] : Array Value).size ≤ sizeLine; exact Nat.zero_le _))
  refine wpAny_pure ⟨plainId_quiet plain_pat_loop _, ?_⟩
  have h36 : s.heap.objs.size ≠ 36 := Nat.ne_of_gt (Heap.lt_size X.p)
  have h35 : s.heap.objs.size ≠ 35 := Nat.ne_of_gt (Heap.lt_size X.c)
  refine sub_loop (tb := tb) (tr := tr) hsz h36 h35 (b.size + 1) { s with heap := s.heap.push _ } [] [] 0 0 0 (by omega) (Nat.zero_le _) ⟨Heap.get?_push_of_some _ X.p, Heap.get?_push_of_some _ X.c⟩ (Heap.get?_push_size _ rfl) .nil (Nat.zero_le _) (Nat.zero_le _) ?_
  intro h' t tk hb
  have hk : ∀ a o, s.heap.get? a = some o → h'.get? a = some o := fun a o e => by
    rw [hb.2 a (Nat.ne_of_lt (Heap.lt_size e))]
    exact Heap.get?_push_of_some _ e
  have e : cat [] ++ (qf b (b.size + 1) 0).toArray = quoted b := Array.empty_append
  rw [e]
  exact h h' t tk (F.keptAll hk) (N.grown hk)
end Mine

end
section
open PySem PySem.W PyProof.Rows
namespace Mine
set_option maxRecDepth 100000

theorem runs_toks {M : Model} {Γ : Ctx} {p : Pos} {t : Sem PySem.Fin} {fs : List PySem.Frame} {s : Shared} {e : End} {s' : Shared} (h : Runs M Γ p t fs s e s') : s.toks ≤ s'.toks := by
  induction h with
  | done => exact Nat.le_refl _
  | raise => exact Nat.le_refl _
  | yield => exact Nat.le_refl _
  | fresh _ ih => exact Nat.le_trans (Nat.le_succ _) ih
  | call _ _ i1 i2 => exact Nat.le_trans i1 i2
  | resumeFresh _ _ _ _ i1 i2 => exact Nat.le_trans i1 i2
  | resumeSuspended _ _ _ _ i1 i2 => exact Nat.le_trans i1 i2
  | segRet _ _ i1 i2 => exact Nat.le_trans i1 i2
  | segGen _ _ i1 i2 => exact Nat.le_trans i1 i2
  | segSuspGen _ _ _ _ i1 i2 => exact Nat.le_trans i1 i2
  | _ => first | assumption | (rename_i ih; exact ih)

theorem wakes_toks {M : Model} {Γ : Ctx} {p : Pos} {g : Nat} {r : Resume} {s : Shared} {res : GenResult} {s' : Shared} (h : Wakes M Γ p g r s res s') : s.toks ≤ s'.toks := by
  unfold Wakes at h
  split at h
  · exact h.elim
  · split at h
    · obtain ⟨e₁, s₁, hr, _, _, rfl⟩ := h
      have q := runs_toks hr; exact q
    · obtain ⟨_, rfl⟩ := h; exact Nat.le_refl _
    · obtain ⟨_, rfl⟩ := h; exact Nat.le_refl _
  · obtain ⟨e₁, s₁, hr, _, _, rfl⟩ := h
    have q := runs_toks hr; exact q
  · obtain ⟨_, rfl⟩ := h; exact Nat.le_refl _
  · obtain ⟨_, rfl⟩ := h; exact Nat.le_refl _

theorem wp_toks {α : Type} (M : Model) (Γ : Ctx) (E : Value → Pos → Shared → Prop) : ∀ (t : Sem α) (Q : α → Pos → Shared → Prop) (p : Pos) (s : Shared) (n : Nat), n ≤ s.toks →
    Sem.wp M Γ t (fun a p' s' => n ≤ s'.toks → Q a p' s') E p s → Sem.wp M Γ t Q E p s := by
  intro t
  induction t with
  | pure a => intro Q p s n hn h; exact h hn
  | raise e => intro Q p s n hn h; exact h
  | unsupported w => intro Q p s n hn h; exact h
  | finish e => intro Q p s n hn h; exact h
  | rule t k ih => intro Q p s n hn h; exact ih () Q p s n hn h
  | «at» p' k ih => intro Q p s n hn h; exact ih () Q p' s n hn h
  | load a part k ih => intro Q p s n hn h; obtain ⟨o, ho, h⟩ := h; exact ⟨o, ho, ih o Q p s n hn h⟩
  | update a part f k ih => intro Q p s n hn h; exact ⟨h.1, ih () Q p _ n hn h.2⟩
  | alloc o k ih => intro Q p s n hn h; exact ih _ Q p _ n hn h
  | loadIfAlive a k ih => intro Q p s n hn h; exact ih _ Q p s n hn h
  | point l k ih => intro Q p s n hn h; exact ih () Q p s n hn h
  | register a k ih => intro Q p s n hn h; exact h
  | fresh k ih => intro Q p s n hn h; exact ih _ Q p _ n (Nat.le_succ_of_le hn) h
  | ask k ih => intro Q p s n hn h; exact ih _ Q p s n hn h
  | choose src m k ih => intro Q p s n hn h; exact ⟨h.1, ih _ Q p _ n hn h.2⟩
  | os q l k ih => intro Q p s n hn h; exact ih _ Q p _ n hn h
  | call c hd g l k ih =>
    intro Q p s n hn h
    obtain ⟨r, s', hr, h⟩ := h
    exact ⟨r, s', hr, ih r Q p s' n (Nat.le_trans hn (runs_toks hr)) h⟩
  | handled own k ih => intro Q p s n hn h; exact ih _ Q p s n hn h
  | newGen c k ih => intro Q p s n hn h; exact ih _ Q p _ n hn h
  | genState g k ih => intro Q p s n hn h; obtain ⟨st, hs, h⟩ := h; exact ⟨st, hs, ih _ Q p s n hn h⟩
  | resume g r l k ih =>
    intro Q p s n hn h
    obtain ⟨res, s', hr, h⟩ := h
    exact ⟨res, s', hr, ih res Q p s' n (Nat.le_trans hn (wakes_toks hr)) h⟩
  | yield v g l k ih => intro Q p s n hn h; exact h
  | stack k ih => intro Q p s n hn h; exact ih _ Q p s n hn h
  | fork c k ih => intro Q p s n hn h; exact h
  | thread k ih => intro Q p s n hn h; exact ih _ Q p s n hn h
  | await a t d l k ih => intro Q p s n hn h; exact h

/-- the numbering of values never falls: what comes behind a tree may lean on it -/
theorem wpAny_later {α : Type} {M : Model} {A : Around} {E : Value → Shared → Prop} {s : Shared} {t : Sem α} {Q : α → Shared → Prop} (n : Nat) (hn : n ≤ s.toks)
    (h : wpAny M A t (fun a s' => n ≤ s'.toks → Q a s') E s) : wpAny M A t Q E s := fun Γ p hΓ => wp_toks M Γ _ t _ p s n hn (h Γ p hΓ)
end Mine

end
section
open PySem PySem.W PyProof.Rows PySem.Spec
namespace Mine
set_option maxRecDepth 100000

section
variable {prog : Program} {w : World} {A : Around} {E : Value → Shared → Prop} {s : Shared} {env : Env} {Q : Flow → Shared → Prop}

/-- a for, turn by turn, over a word of the whole state -/
theorem For_gen {target iter : PySem.Expr} {body : List Stmt} {pos : Pos} (hs : ∀ x, foldedSetIterable iter env x = pure x) (hE : PassesOwn (model prog w) A env E)
    (h : wpAny (model prog w) A (eval iter env) (fun x s₁ => wpAny (model prog w) A (pyIter x) (fun it s₂ => ∃ (n : Nat) (Inv : Nat → Shared → Prop), Inv 0 s₂ ∧ (∀ v, letOwnedTupleGo target it v = pure ()) ∧
      (∀ i s₃, i < n → Inv i s₃ → wpAny (model prog w) A (pyNext it) (fun r s₄ => ∃ v, r = some v ∧ wpAny (model prog w) A (assign target env v) (fun _ s₅ => wpAny (model prog w) A (execs body env) (fun f s₆ => match f with
        | .ret v => Q (.ret v) s₆
        | .brk => Q .next s₆
        | _ => Inv (i + 1) s₆) E s₅) E s₄) E s₃) ∧
      (∀ s₃, Inv n s₃ → wpAny (model prog w) A (pyNext it) (fun r s₄ => r = none ∧ Q .next s₄) E s₃)) E s₁) E s) :
    wpAny (model prog w) A (exec (.For target iter body [] pos) env) Q E s := by
  refine wpAny_For (wpAny_mono h (fun xv s₁ h₁ => wpAny_mono h₁ (fun it s₂ h₂ => ?_) fun _ _ e => e) fun _ _ e => e) hs
  obtain ⟨n, Inv, h0, hlt, turn, done⟩ := h₂
  refine codeAny_forLoop (fun k s' => ∃ i, i ≤ n ∧ k = n - i ∧ Inv i s') ?_ n ⟨0, Nat.zero_le _, rfl, h0⟩ hlt
  rintro k s' ⟨i, hi, rfl, hinv⟩
  by_cases hlt : i < n
  · refine wpAny_passesOwn hE (wpAny_mono (turn i s' hlt hinv) (fun r s₄ h₄ => ?_) fun _ _ e => e)
    obtain ⟨v, rfl, h₄⟩ := h₄
    refine wpAny_passesOwn hE (wpAny_mono h₄ (fun _ s₅ h₅ => ?_) fun _ _ e => e)
    refine wpAny_passesOwn hE (wpAny_mono h₅ (fun f s₆ h₆ => ?_) fun _ _ e => e)
    cases f with
    | ret v => exact h₆
    | brk => exact h₆
    | next => exact ⟨n - (i + 1), by omega, i + 1, hlt, rfl, h₆⟩
    | cont => exact ⟨n - (i + 1), by omega, i + 1, hlt, rfl, h₆⟩
  · have : i = n := by omega
    subst this
    refine wpAny_passesOwn hE (wpAny_mono (done s' hinv) (fun r s₄ h₄ => ?_) fun _ _ e => e)
    obtain ⟨rfl, h₄⟩ := h₄
    exact wpAny_execs_nil h₄

/-- an iterator that walks a known row, with the numbers of what it hands on -/
structure WalksT (prog : Program) (w : World) (A : Around) (I : Addr) (fp wr : List Addr) (n : Nat) (P : Nat → Nat → Nat → Value → Prop) (St : Nat → Heap → Prop) : Prop where
  sub : ∀ b ∈ wr, b ∈ fp
  frame : ∀ i h h', St i h → (∀ b ∈ fp, ∀ o, h.get? b = some o → h'.get? b = some o) → St i h'
  item : ∀ i (s : Shared) (Q : Option Value → Shared → Prop) (E : Value → Shared → Prop), i < n → St i s.heap →
    (∀ v h' tk, s.toks ≤ tk → P i s.toks tk v → St (i + 1) h' → (∀ b o, b ∉ wr → s.heap.get? b = some o → h'.get? b = some o) → Q (some v) { s with heap := h', toks := tk }) → wpAny (model prog w) A (pyNext (.ref I)) Q E s
  done : ∀ (s : Shared) (Q : Option Value → Shared → Prop) (E : Value → Shared → Prop), St n s.heap →
    (∀ h' tk, s.toks ≤ tk → (∀ b o, b ∉ wr → s.heap.get? b = some o → h'.get? b = some o) → Q none { s with heap := h', toks := tk }) → wpAny (model prog w) A (pyNext (.ref I)) Q E s

theorem WalksT.of {I : Addr} {fp wr : List Addr} {n : Nat} {P : Nat → Value → Prop} {St : Nat → Heap → Prop} (W : Walks prog w A I fp wr n P St) : WalksT prog w A I fp wr n (fun i _ _ v => P i v) St where
  sub := W.sub
  frame := W.frame
  item := fun i s Q E hi st hQ => wpAny_later s.toks (Nat.le_refl _) (W.item i s _ E hi st fun v h' tk hP hst hk hle => hQ v h' tk hle hP hst hk)
  done := fun s Q E st hQ => wpAny_later s.toks (Nat.le_refl _) (W.done s _ E st fun h' tk hk hle => hQ h' tk hle hk)

/-- a sign, and the number that it bears: not below the count ahead, below the count behind -/
def SignT (x : Str) (i a b : Nat) (v : Value) : Prop := ∃ c u, x.cps[i]? = some c ∧ v = .str ⟨#[c]⟩ u ∧ a ≤ u ∧ u < b

theorem walksT_ascii (hh : A.handled = none) (I : Addr) (x : Str) (t : Tok) : WalksT prog w A I [I] [I] x.cps.size (SignT x) (fun i h => h.IsStrIter I "str_ascii_iterator" x t i) where
  sub := fun _ hb => hb
  frame := fun _ _ _ st hk => let ⟨o, ho, r⟩ := st; ⟨o, hk I (by simp) o ho, r⟩
  item := fun i s Q E hi st hQ => by
    refine wpAny_pyNext_ascii_item st (c := x.cps[i]) (by simp [hi]) fun h' hit' hs' => ?_
    exact hQ _ h' (s.toks + 1) (Nat.le_succ _) ⟨_, _, by simp [hi], rfl, Nat.le_refl _, Nat.lt_succ_self _⟩ hit' fun b o hb e => hs'.extBut b o (fun h => hb (by simp [h])) e
  done := fun s Q E st hQ => wpAny_pyNext_ascii_end hh st (by simp) fun h' he' => hQ h' s.toks (Nat.le_refl _) fun b o hb e => he' b o (fun h => hb (by simp [h])) e
theorem walksT_wide (hh : A.handled = none) (I : Addr) (x : Str) (t : Tok) : WalksT prog w A I [I] [I] x.cps.size (SignT x) (fun i h => h.IsStrIter I "str_iterator" x t i) where
  sub := fun _ hb => hb
  frame := fun _ _ _ st hk => let ⟨o, ho, r⟩ := st; ⟨o, hk I (by simp) o ho, r⟩
  item := fun i s Q E hi st hQ => by
    refine wpAny_pyNext_wide_item st (c := x.cps[i]) (by simp [hi]) fun h' hit' hs' => ?_
    exact hQ _ h' (s.toks + 1) (Nat.le_succ _) ⟨_, _, by simp [hi], rfl, Nat.le_refl _, Nat.lt_succ_self _⟩ hit' fun b o hb e => hs'.extBut b o (fun h => hb (by simp [h])) e
  done := fun s Q E st hQ => wpAny_pyNext_wide_end hh st (by simp) fun h' he' => hQ h' s.toks (Nat.le_refl _) fun b o hb e => he' b o (fun h => hb (by simp [h])) e

/-- what a turn of a loop over one name must leave -/
def TurnEndT (h₀ : Heap) (L : Addr) (J : (Str → Option Value) → Prop) (need : List (Addr × Obj)) (s₁ s₂ : Shared) : Prop :=
  ∃ h' tk m', s₂ = { s₁ with heap := h', toks := tk } ∧ Fr h₀ L h' m' ∧ News h₀ L h' need ∧ J m'
def TurnT (h₀ : Heap) (L : Addr) (J : (Str → Option Value) → Prop) (need : List (Addr × Obj)) (s₁ : Shared) (Q : Flow → Shared → Prop) (f : Flow) (s₂ : Shared) : Prop :=
  match f with
  | .ret v => Q (.ret v) s₂
  | .brk => Q .next s₂
  | _ => TurnEndT h₀ L J need s₁ s₂
theorem TurnEndT.intro {h₀ : Heap} {L : Addr} {J : (Str → Option Value) → Prop} {need : List (Addr × Obj)} {s₁ : Shared} {h' : Heap} {tk : Nat} {m' : Str → Option Value} (F : Fr h₀ L h' m') (N : News h₀ L h' need) (j : J m') : TurnEndT h₀ L J need s₁ { s₁ with heap := h', toks := tk } := ⟨h', tk, m', rfl, F, N, j⟩

theorem For_walk {x : Str} {px pos : Pos} {iter : PySem.Expr} {body : List Stmt} {h₀ : Heap} {m₀ : Str → Option Value} {news : List (Addr × Obj)} (lo : Nat) (J : Nat → (Str → Option Value) → Prop) {v : Value} {n : Nat} {P : Nat → Nat → Nat → Value → Prop}
    (F : Fr h₀ env.locals s.heap m₀) (N : News h₀ env.locals s.heap news) (hlo : lo ≤ s.toks) (hx : env.kindOf x = some .local) (hp : (env.scope.kind == .class || (env.scope.kind == .module && env.locals != env.globals)) = false)
    (hs : ∀ x, foldedSetIterable iter env x = pure x) (hE : PassesOwn (model prog w) A env E)
    (hname : ∀ R : Value → Shared → Prop, R v s → wpAny (model prog w) A (eval iter env) R E s)
    (hiter : ∀ R : Value → Shared → Prop, (∀ (o : Obj) (fp wr : List Addr) (St : Nat → Heap → Prop), (∀ b ∈ fp, b = s.heap.objs.size ∨ (h₀.get? b).isSome = true ∨ b ∈ news.map (·.1)) → (∀ b ∈ wr, b = s.heap.objs.size) → WalksT prog w A s.heap.objs.size fp wr n P St → St 0 (s.heap.push o) → R (.ref s.heap.objs.size) { s with heap := s.heap.push o }) → wpAny (model prog w) A (pyIter v) R E s)
    (h0 : J 0 m₀)
    (turn : ∀ i u a b m₁ h tk own, i < n → lo ≤ a → a ≤ b → b ≤ tk → P i a b u → J i m₁ → Fr h₀ env.locals h (fun y => if y = x then some u else m₁ y) → News h₀ env.locals h (news ++ own) →
      wpAny (model prog w) A (execs body env) (TurnT h₀ env.locals (J (i + 1)) (news ++ own) { s with heap := h, toks := tk } Q) E { s with heap := h, toks := tk })
    (done : ∀ m₁ h tk, lo ≤ tk → J n m₁ → Fr h₀ env.locals h m₁ → News h₀ env.locals h news → Q .next { s with heap := h, toks := tk }) :
    wpAny (model prog w) A (exec (.For (.Name x px) iter body [] pos) env) Q E s := by
  refine For_gen hs hE (hname _ (hiter _ fun o fp wr St hfp hwr W hst => ?_))
  have hI0 : h₀.get? s.heap.objs.size = none := next_is_new F
  have hLI : env.locals ≠ s.heap.objs.size := Nat.ne_of_lt F.ns.lt
  have hnI : ∀ p ∈ news, p.1 ≠ s.heap.objs.size := fun p hp => Nat.ne_of_lt (Heap.lt_size (N p hp).1)
  have hLh : h₀.get? env.locals = none := Heap.get?_none_of_le F.above
  have hLf : env.locals ∉ fp := fun hb => by
    rcases hfp _ hb with e | e | e
    · exact hLI e
    · rw [hLh] at e; cases e
    · obtain ⟨p, hp, e⟩ := List.mem_map.mp e
      exact (N p hp).2.1 e
  refine ⟨n, fun i s' => ∃ h tk m, s' = { s with heap := h, toks := tk } ∧ lo ≤ tk ∧ St i h ∧ Fr h₀ env.locals h m ∧ News h₀ env.locals h news ∧ J i m, ⟨_, s.toks, m₀, rfl, hlo, hst, F.push _, fun p hp => ⟨Heap.get?_push_of_some _ (N p hp).1, (N p hp).2⟩, h0⟩, fun _ => rfl, ?_, ?_⟩
  · rintro i _ hi ⟨h, tk, m, rfl, hle, hst, F₁, N₁, hj⟩
    refine wpAny_later tk (Nat.le_refl _) (W.item i _ _ _ hi hst fun u h' tk' hle' hP hst' hk => fun _ => ⟨u, rfl, ?_⟩)
    have keepI : ∀ b o, b ≠ s.heap.objs.size → h.get? b = some o → h'.get? b = some o := fun b o hb e => hk b o (fun hw => hb (hwr b hw)) e
    have F₂ : Fr h₀ env.locals h' m := by
      obtain ⟨oL, a1, a2, hL, a3⟩ := F₁.ns
      exact ⟨⟨oL, a1, a2, keepI _ _ hLI hL, a3⟩, fun b ob e => keepI b ob (fun q => by rw [q, hI0] at e; cases e) (F₁.keep b ob e), F₁.above⟩
    have N₂ : News h₀ env.locals h' news := fun p hp => ⟨keepI _ _ (hnI p hp) (N₁ p hp).1, (N₁ p hp).2⟩
    refine wpAny_assign_Name (wpAny_storeName_local hx F₂.ns (fun h₂ hn₂ hs₂ => ?_) hp)
    have F₃ := F₂.set hn₂ hs₂
    have hst₂ : St (i + 1) h₂ := W.frame _ _ _ hst' fun b hb o e => (hs₂.2 b fun q => hLf (q ▸ hb)).trans e
    have NI : News h₀ env.locals h₂ (ownOf h₀ fp h₂) := news_ownOf hLf
    refine wpAny_later tk (by show tk ≤ tk' + 1; exact Nat.le_succ_of_le hle') (wpAny_mono (turn i u tk tk' m h₂ (tk' + 1) (ownOf h₀ fp h₂) hi hle hle' (Nat.le_succ _) hP hj F₃ ((N₂.set hs₂).append NI)) (fun f s₃ h₃ => ?_) fun _ _ e => e)
    have fin : TurnEndT h₀ env.locals (J (i + 1)) (news ++ ownOf h₀ fp h₂) { s with heap := h₂, toks := tk' + 1 } s₃ → tk ≤ s₃.toks → ∃ h tk m, s₃ = { s with heap := h, toks := tk } ∧ lo ≤ tk ∧ St (i + 1) h ∧ Fr h₀ env.locals h m ∧ News h₀ env.locals h news ∧ J (i + 1) m := by
      rintro ⟨h₄, tk₄, m₄, rfl, F₄, N₄, hj₄⟩ hle₄
      refine ⟨h₄, tk₄, m₄, rfl, Nat.le_trans hle hle₄, ?_, F₄, fun p hp => N₄ p (List.mem_append_left _ hp), hj₄⟩
      · refine W.frame _ _ _ hst₂ fun b hb o e => ?_
        cases hn : h₀.get? b with
        | some o₀ =>
          have : o₀ = o := by have := F₃.keep b o₀ hn; rw [e] at this; exact (Option.some.inj this).symm
          exact this ▸ F₄.keep b o₀ hn
        | none => exact (N₄ (b, o) (List.mem_append_right _ (mem_ownOf hb hn e))).1
    cases f with
    | ret v => exact fun _ => h₃
    | brk => exact fun _ => h₃
    | next => exact fun hle₄ => fin h₃ hle₄
    | cont => exact fun hle₄ => fin h₃ hle₄
  · rintro _ ⟨h, tk, m, rfl, hle, hst, F₁, N₁, hj⟩
    refine W.done _ _ _ hst fun h' tk' hle' hk => ⟨rfl, ?_⟩
    have keepI : ∀ b o, b ≠ s.heap.objs.size → h.get? b = some o → h'.get? b = some o := fun b o hb e => hk b o (fun hw => hb (hwr b hw)) e
    have F₂ : Fr h₀ env.locals h' m := by
      obtain ⟨oL, a1, a2, hL, a3⟩ := F₁.ns
      exact ⟨⟨oL, a1, a2, keepI _ _ hLI hL, a3⟩, fun b ob e => keepI b ob (fun q => by rw [q, hI0] at e; cases e) (F₁.keep b ob e), F₁.above⟩
    exact done m h' tk' (Nat.le_trans hle hle') hj F₂ fun p hp => ⟨keepI _ _ (hnI p hp) (N₁ p hp).1, (N₁ p hp).2⟩
end
end Mine

end
section
open PySem PySem.W PyProof.Rows PySem.Spec
namespace Mine
set_option maxRecDepth 100000

section
variable {prog : Program} {w : World} {A : Around} {E : Value → Shared → Prop} {s : Shared} {env : Env} {Q : Flow → Shared → Prop} {h₀ : Heap} {news : List (Addr × Obj)}

theorem iter_str (hh : A.handled = none) (xt : Str) (tx : Tok) : ∀ R : Value → Shared → Prop, (∀ (o : Obj) (fp wr : List Addr) (St : Nat → Heap → Prop), (∀ b ∈ fp, b = s.heap.objs.size ∨ (h₀.get? b).isSome = true ∨ b ∈ news.map (·.1)) → (∀ b ∈ wr, b = s.heap.objs.size) → WalksT prog w A s.heap.objs.size fp wr xt.cps.size (SignT xt) St → St 0 (s.heap.push o) → R (.ref s.heap.objs.size) { s with heap := s.heap.push o }) →
    wpAny (model prog w) A (pyIter (.str xt tx)) R E s := by
  intro R hR
  cases ha : xt.cps.all (· < 128)
  · exact wpAny_pyIter_wide ha (hR _ _ _ _ (fun b hb => .inl (List.mem_singleton.mp hb)) (fun b hb => List.mem_singleton.mp hb) (walksT_wide hh _ xt tx) ⟨_, Heap.get?_push_size _ rfl, rfl, rfl⟩)
  · exact wpAny_pyIter_ascii ha (hR _ _ _ _ (fun b hb => .inl (List.mem_singleton.mp hb)) (fun b hb => List.mem_singleton.mp hb) (walksT_ascii hh _ xt tx) ⟨_, Heap.get?_push_size _ rfl, rfl, rfl⟩)

def ByteT (b : Array UInt8) (i p q : Nat) (v : Value) : Prop := ∃ c u, b[i]? = some c ∧ v = .int ((c.toNat : Nat) : Int) u ∧ p ≤ u ∧ u < q
theorem walksT_bytes (hh : A.handled = none) (I : Addr) (b : Array UInt8) (t : Tok) : WalksT prog w A I [I] [I] b.size (ByteT b) (fun i h => KBw.IsBytesIter h I b t i) where
  sub := fun _ hb => hb
  frame := fun _ _ _ st hk => let ⟨o, ho, r⟩ := st; ⟨o, hk I (by simp) o ho, r⟩
  item := fun i s Q E hi st hQ => by
    refine KBw.next_item st (c := b[i]) (by simp [hi]) fun h' hit' hs' => ?_
    exact hQ _ h' (s.toks + 1) (Nat.le_succ _) ⟨_, _, by simp [hi], rfl, Nat.le_refl _, Nat.lt_succ_self _⟩ hit' fun b o hb e => hs'.extBut b o (fun h => hb (by simp [h])) e
  done := fun s Q E st hQ => KBw.next_end hh st (by simp) fun h' he' => hQ h' s.toks (Nat.le_refl _) fun b o hb e => he' b o (fun h => hb (by simp [h])) e
theorem iter_bytes (hh : A.handled = none) (b : Array UInt8) (tx : Tok) : ∀ R : Value → Shared → Prop, (∀ (o : Obj) (fp wr : List Addr) (St : Nat → Heap → Prop), (∀ b ∈ fp, b = s.heap.objs.size ∨ (h₀.get? b).isSome = true ∨ b ∈ news.map (·.1)) → (∀ b ∈ wr, b = s.heap.objs.size) → WalksT prog w A s.heap.objs.size fp wr b.size (ByteT b) St → St 0 (s.heap.push o) → R (.ref s.heap.objs.size) { s with heap := s.heap.push o }) →
    wpAny (model prog w) A (pyIter (.bytes b tx)) R E s := by
  intro R hR
  exact KBw.pyIter_bytes (hR _ _ _ _ (fun b hb => .inl (List.mem_singleton.mp hb)) (fun b hb => List.mem_singleton.mp hb) (walksT_bytes hh _ b tx) ⟨_, Heap.get?_push_size _ rfl, rfl, rfl⟩)
theorem iter_list (hh : A.handled = none) {l : Addr} {vs : List Value} {k : Nat} (hl : s.heap.get? l = some { cls := .type "list", data := .seq vs.toArray k }) (hm : l ∈ news.map (·.1)) : ∀ R : Value → Shared → Prop, (∀ (o : Obj) (fp wr : List Addr) (St : Nat → Heap → Prop), (∀ b ∈ fp, b = s.heap.objs.size ∨ (h₀.get? b).isSome = true ∨ b ∈ news.map (·.1)) → (∀ b ∈ wr, b = s.heap.objs.size) → WalksT prog w A s.heap.objs.size fp wr vs.toArray.size (fun i _ _ v => vs.toArray[i]? = some v) St → St 0 (s.heap.push o) → R (.ref s.heap.objs.size) { s with heap := s.heap.push o }) →
    wpAny (model prog w) A (pyIter (.ref l)) R E s := by
  intro R hR
  have hL : s.heap.IsList l vs.toArray := ⟨_, hl, rfl, _, rfl⟩
  have hne : l ≠ s.heap.objs.size := Nat.ne_of_lt (Heap.lt_size hl)
  refine wpAny_pyIter_list hL (hR _ _ _ _ (fun b hb => ?_) (fun b hb => List.mem_singleton.mp hb) (WalksT.of (Walks.list hh s.heap.objs.size l hne vs.toArray)) ⟨⟨_, Heap.get?_push_size _ rfl, rfl, rfl⟩, hL.at fun o e => Heap.get?_push_of_some _ e⟩)
  rcases List.mem_cons.mp hb with e | e
  · exact .inl e
  · exact .inr (.inr (List.mem_singleton.mp e ▸ hm))

/-- one name that holds an int is told at each turn -/
theorem For_acc1 {x y : Str} {px pos : Pos} {iter : PySem.Expr} {body : List Stmt} {m₀ : Str → Option Value} (lo : Nat) (c : Nat → Int) {v : Value} {n : Nat} {P : Nat → Nat → Nat → Value → Prop}
    (F : Fr h₀ env.locals s.heap m₀) (N : News h₀ env.locals s.heap news) (hlo : lo ≤ s.toks) (hx : env.kindOf x = some .local) (hp : (env.scope.kind == .class || (env.scope.kind == .module && env.locals != env.globals)) = false)
    (hs : ∀ x, foldedSetIterable iter env x = pure x) (hE : PassesOwn (model prog w) A env E)
    (hname : ∀ R : Value → Shared → Prop, R v s → wpAny (model prog w) A (eval iter env) R E s)
    (hiter : ∀ R : Value → Shared → Prop, (∀ (o : Obj) (fp wr : List Addr) (St : Nat → Heap → Prop), (∀ b ∈ fp, b = s.heap.objs.size ∨ (h₀.get? b).isSome = true ∨ b ∈ news.map (·.1)) → (∀ b ∈ wr, b = s.heap.objs.size) → WalksT prog w A s.heap.objs.size fp wr n P St → St 0 (s.heap.push o) → R (.ref s.heap.objs.size) { s with heap := s.heap.push o }) → wpAny (model prog w) A (pyIter v) R E s)
    (h0 : ∃ t, m₀ y = some (.int (c 0) t))
    (turn : ∀ i u a b ty h tk own, i < n → lo ≤ a → a ≤ b → b ≤ tk → P i a b u → Fr h₀ env.locals h (fun z => if z = x then some u else if z = y then some (.int (c i) ty) else m₀ z) → News h₀ env.locals h (news ++ own) →
      wpAny (model prog w) A (execs body env) (TurnT h₀ env.locals (fun m' => (∃ t, m' y = some (.int (c (i + 1)) t)) ∧ ∀ z, z ≠ x → z ≠ y → m' z = m₀ z) (news ++ own) { s with heap := h, toks := tk } Q) E { s with heap := h, toks := tk })
    (done : ∀ (u : Str → Option Value) ty h tk, lo ≤ tk → Fr h₀ env.locals h (fun z => if z = x then u z else if z = y then some (.int (c n) ty) else m₀ z) → News h₀ env.locals h news → Q .next { s with heap := h, toks := tk }) :
    wpAny (model prog w) A (exec (.For (.Name x px) iter body [] pos) env) Q E s := by
  refine For_walk lo (fun i m' => (∃ t, m' y = some (.int (c i) t)) ∧ ∀ z, z ≠ x → z ≠ y → m' z = m₀ z) F N hlo hx hp hs hE hname hiter ⟨h0, fun _ _ _ => rfl⟩ ?_ ?_
  · rintro i u a b m₁ h tk own hi h1 h2 h3 hP ⟨⟨ty, hy⟩, hm⟩ F₁ N₁
    have e : (fun z => if z = x then some u else m₁ z) = fun z => if z = x then some u else if z = y then some (.int (c i) ty) else m₀ z := by
      funext z
      by_cases q1 : z = x
      · simp [q1]
      · simp only [if_neg q1]
        by_cases q2 : z = y
        · subst q2; simp [hy]
        · simp only [if_neg q2]; exact hm z q1 q2
    rw [e] at F₁
    exact turn i u a b ty h tk own hi h1 h2 h3 hP F₁ N₁
  · rintro m₁ h tk hle ⟨⟨ty, hy⟩, hm⟩ F₁ N₁
    refine done m₁ ty h tk hle ?_ N₁
    have e : (fun z => if z = x then m₁ z else if z = y then some (.int (c n) ty) else m₀ z) = m₁ := by
      funext z
      by_cases q1 : z = x
      · simp [q1]
      · simp only [if_neg q1]
        by_cases q2 : z = y
        · subst q2; simp [hy]
        · simp only [if_neg q2]; exact (hm z q1 q2).symm
    rw [e]; exact F₁
end

section
variable {M : Model} {A : Around} {E : Value → Shared → Prop} {s : Shared}
theorem is_str {x y : Str} {t u : Tok} {Q : Value → Shared → Prop} (hb : NoneBooked s.heap) (ht : t ≠ 0) (hu : u ≠ 0) (htu : t ≠ u) (h : ∀ c : Bool, (c = true → x = y) → Q (.bool c) s) :
    wpAny M A (compareOp .Is (.str x t) (.str y u)) Q E s := by
  have h0 : (t == 0 || u == 0) = false := by simp [ht, hu]
  show wpAny M A (isSame (.str x t) (.str y u) >>= fun c => pure (.bool c)) Q E s
  by_cases e : x = y
  · exact wpAny_bind (wpAny_isSame_str h0 hb fun b => wpAny_pure (h b fun _ => e))
  · exact wpAny_bind (wpAny_of_eq (isSame_str_other x y t u h0 (by simpa using htu) (by simpa using e)) (wpAny_pure (h false fun q => by cases q)))
theorem is_int {x y : Int} {t u : Tok} {Q : Value → Shared → Prop} (hx : smallInt x = true) (ht : t ≠ 0) (hu : u ≠ 0) (htu : t ≠ u) (h : Q (.bool (x == y)) s) :
    wpAny M A (compareOp .Is (.int x t) (.int y u)) Q E s := by
  have h0 : (t == 0 || u == 0) = false := by simp [ht, hu]
  show wpAny M A (isSame (.int x t) (.int y u) >>= fun c => pure (.bool c)) Q E s
  refine wpAny_bind ?_
  show wpAny M A (if (x == y && smallInt x) = true then isSame.cachedInt t u else isSame.created (x == y) t u) _ E s
  by_cases e : x = y
  · rw [if_pos (by simp [e]; rw [← e]; exact hx)]
    unfold isSame.cachedInt
    rw [if_neg (by rw [h0]; exact Bool.false_ne_true)]
    refine wpAny_bind (wpAny_rule (wpAny_pure (wpAny_pure ?_)))
    rw [show (x == y) = true from by simpa using e] at h
    exact h
  · have e' : (x == y) = false := by simpa using e
    rw [e', if_neg (by simp)]
    unfold isSame.created
    rw [if_neg (by rw [h0]; exact Bool.false_ne_true), if_neg (by simpa using htu), if_pos (by rfl)]
    refine wpAny_pure (wpAny_pure ?_)
    rw [e'] at h
    exact h
end
end Mine

end
section
open PySem PySem.W PyProof.Rows PySem.Spec
namespace Mine
set_option maxRecDepth 100000

section
variable {M : Model} {A : Around} {E : Value → Shared → Prop} {s : Shared} {env : Env} {Q : Flow → Shared → Prop}
theorem wp_execs_append {Γ : PySem.Ctx} {E : Value → Pos → Shared → Prop} {Q : Flow → Pos → Shared → Prop} {rest : List Stmt} : ∀ {pre : List Stmt} {p : Pos} {s : Shared}, Sem.wp M Γ (execs pre env) (fun f p' s' => match f with | .next => Sem.wp M Γ (execs rest env) Q E p' s' | f => Q f p' s') E p s → Sem.wp M Γ (execs (pre ++ rest) env) Q E p s
  | [], _, _, h => h
  | st :: r, p, s, h => by
    rw [execs_cons, Sem.wp_bind'] at h
    rw [List.cons_append, execs_cons, Sem.wp_bind']
    refine Sem.wp_mono M Γ _ (fun f p' s' h' => ?_) (fun _ _ _ h' => h') _ _ h
    cases f with
    | next => exact wp_execs_append (pre := r) h'
    | brk => exact h'
    | cont => exact h'
    | ret v => exact h'
theorem execs_append {pre rest : List Stmt} (h : wpAny M A (execs pre env) (fun f s' => match f with | .next => wpAny M A (execs rest env) Q E s' | f => Q f s') E s) : wpAny M A (execs (pre ++ rest) env) Q E s := fun Γ p hΓ => by
  refine wp_execs_append (Sem.wp_mono M Γ _ (fun f p' s' h' => ?_) (fun _ _ _ h' => h') _ _ (h Γ p hΓ))
  cases f with
  | next => exact h' Γ p' hΓ
  | brk => exact h'
  | cont => exact h'
  | ret v => exact h'
/-- a block cut in two: the first part must reach a word, the second starts from it -/
theorem seg (pre rest : List Stmt) (Inv : Shared → Prop) (h1 : ∀ Rest : Shared → Prop, (∀ s', Inv s' → Rest s') → wpAny M A (execs pre env) (fun f s' => match f with | .next => Rest s' | f => Q f s') E s)
    (h2 : ∀ s', Inv s' → wpAny M A (execs rest env) Q E s') : wpAny M A (execs (pre ++ rest) env) Q E s := execs_append (h1 _ h2)
theorem segN {l : List Stmt} (k : Nat) (Inv : Shared → Prop) (h1 : ∀ Rest : Shared → Prop, (∀ s', Inv s' → Rest s') → wpAny M A (execs (l.take k) env) (fun f s' => match f with | .next => Rest s' | f => Q f s') E s)
    (h2 : ∀ s', Inv s' → wpAny M A (execs (l.drop k) env) Q E s') : wpAny M A (execs l env) Q E s := by
  rw [← List.take_append_drop k l]
  exact seg _ _ Inv h1 h2
end

section
variable {prog : Program} {w : World} {A : Around} {E : Value → Shared → Prop} {s : Shared} {env : Env} {Q : Flow → Shared → Prop}
/-- a while, turn by turn, over a word of the whole state and a number that falls -/
theorem While_gen {test : PySem.Expr} {body : List Stmt} {pos : Pos} (Inv : Nat → Shared → Prop) (n : Nat) (hE : PassesOwn (model prog w) A env E) (h0 : Inv n s)
    (turn : ∀ k s₁, Inv k s₁ → ∀ Again : Shared → Prop, (∀ m s₃, m < k → Inv m s₃ → Again s₃) → wpAny (model prog w) A (isTrue test env (eval test env)) (fun b s₂ => if b then wpAny (model prog w) A (execs body env) (fun f s₃ => match f with
        | .ret v => Q (.ret v) s₃
        | .brk => Q .next s₃
        | _ => Again s₃) E s₂ else Q .next s₂) E s₁) : wpAny (model prog w) A (exec (.While test body [] pos) env) Q E s := by
  refine wpAny_While (codeAny_whileLoop Inv (fun k s₁ hI => ?_) n h0)
  refine wpAny_passesOwn hE (wpAny_mono (turn k s₁ hI (fun s₃ => ∃ m, m < k ∧ Inv m s₃) (fun m s₃ h1 h2 => ⟨m, h1, h2⟩)) (fun b s₂ h₂ => ?_) fun _ _ e => e)
  cases b with
  | true =>
    refine wpAny_passesOwn hE (wpAny_mono h₂ (fun f s₃ h₃ => ?_) fun _ _ e => e)
    cases f with
    | ret v => exact h₃
    | brk => exact h₃
    | next => exact h₃
    | cont => exact h₃
  | false => exact wpAny_execs_nil h₂
end

/-- an end kept shut -/
theorem shut {α : Type} {M : Model} {A : Around} {E : Value → Shared → Prop} {s : Shared} {t : Sem α} {Q : α → Shared → Prop} (h : ∀ Q' : α → Shared → Prop, (∀ a s, Q a s → Q' a s) → wpAny M A t Q' E s) : wpAny M A t Q E s := h Q fun _ _ x => x

/-- what a frame is known to hold may be told anew over the rest -/
theorem fr_re1 {h₀ h : Heap} {L : Addr} {M : Str → Option Value} {a : Str} {va : Value} (F : Fr h₀ L h M) (ha : M a = some va) : Fr h₀ L h (fun y => if y = a then some va else M y) := by
  have e : (fun y => if y = a then some va else M y) = M := by
    funext y
    by_cases q : y = a
    · subst q; simp [ha]
    · simp [q]
  rw [e]; exact F
theorem fr_re2 {h₀ h : Heap} {L : Addr} {M : Str → Option Value} {a b : Str} {va vb : Value} (F : Fr h₀ L h M) (ha : M a = some va) (hb : M b = some vb) : Fr h₀ L h (fun y => if y = a then some va else if y = b then some vb else M y) :=
  fr_re1 (fr_re1 F hb) (by split <;> simp_all)
theorem fr_re3 {h₀ h : Heap} {L : Addr} {M : Str → Option Value} {a b c : Str} {va vb vc : Value} (F : Fr h₀ L h M) (ha : M a = some va) (hb : M b = some vb) (hc : M c = some vc) : Fr h₀ L h (fun y => if y = a then some va else if y = b then some vb else if y = c then some vc else M y) :=
  fr_re1 (fr_re2 F hb hc) (by (repeat' split) <;> simp_all)
theorem fr_re4 {h₀ h : Heap} {L : Addr} {M : Str → Option Value} {a b c d : Str} {va vb vc vd : Value} (F : Fr h₀ L h M) (ha : M a = some va) (hb : M b = some vb) (hc : M c = some vc) (hd : M d = some vd) : Fr h₀ L h (fun y => if y = a then some va else if y = b then some vb else if y = c then some vc else if y = d then some vd else M y) :=
  fr_re1 (fr_re3 F hb hc hd) (by (repeat' split) <;> simp_all)
end Mine

end
section
open PySem PySem.W PyProof.Rows
namespace Mine
set_option maxRecDepth 100000
set_option maxHeartbeats 8000000

noncomputable abbrev PG : Program := PySem.Challenge.rw_wn0017_01.row.prog
noncomputable abbrev KK (w : World) : Frag := hd.heap_39 w.params
noncomputable abbrev LL : List Str := looseW hd.view_39 [Str.ofString "_twin_re_1"]

theorem patIn_of {w : World} {h : Heap} (X : (KK w).In h) : PatIn h := ⟨X _ _ (by rfl), X _ _ (by rfl)⟩

section
variable {prog : Program} {w w' : World} {A : Around} {E : Value → Shared → Prop} {s : Shared} {h₀ : Heap} {L : Addr} {m : PySem.Str → Option Value} {news : List (Addr × Obj)}
theorem meth_sub {M : Model} {pl : Sem Bool} {Q : Value × List Value → Shared → Prop} (F : Fr h₀ L s.heap m) (X : (KK w').In h₀) (h : Q (.builtin "re.Pattern.sub", [.ref 36]) s) : wpAny M A (getMethod (.ref 36) (Str.ofString "sub") pl) Q E s :=
  getMethod_builtin ⟨_, F.keep _ _ (patIn_of X).p, rfl⟩ plainAttrs_pat slot_pat_sub type_pat_sub (fun a e => by cases e; exact ⟨_, F.keep _ _ (patIn_of X).p, rfl⟩) h
theorem callsub_K {b : Array UInt8} {tb tr : Tok} {Q : Value → Shared → Prop} (X : (KK w').In h₀) (F : Fr h₀ L s.heap m) (N : News h₀ L s.heap news) (hsz : b.size ≤ 1048576)
    (h : ∀ h' t k, Fr h₀ L h' m → News h₀ L h' news → Q (.bytes (quoted b) t) { s with heap := h', toks := k }) :
    wpAny (model prog w) A (call (.builtin "re.Pattern.sub") [.ref 36, .bytes #[46, 46] tr, .bytes b tb]) Q E s :=
  call_sub ⟨F.keep _ _ (patIn_of X).p, F.keep _ _ (patIn_of X).c⟩ hsz F N h
end

theorem at_int {a b : Int} {t : Tok} (h : a = b) : some (Value.int a t) = some (Value.int b t) := by rw [h]
theorem at_str {a b : Str} {t : Tok} (h : a = b) : some (Value.str a t) = some (Value.str b t) := by rw [h]
theorem lookup1 (a : Str) (v : Value) : (fun y => List.lookup y [(a, v)]) = fun y => if y = a then some v else none := by
  funext y
  by_cases h : y = a
  · subst h; simp
  · have : (y == a) = false := by simpa using h
    simp [List.lookup_cons, this, h]
theorem lookup2 (a b : Str) (v w : Value) : (fun y => List.lookup y [(a, v), (b, w)]) = fun y => if y = a then some v else if y = b then some w else none := by
  funext y
  by_cases h : y = a
  · subst h; simp
  · have h' : (y == a) = false := by simpa using h
    by_cases g : y = b
    · subst g; simp [List.lookup_cons, h', h]
    · have g' : (y == b) = false := by simpa using g
      simp [List.lookup_cons, h', g', h, g]

abbrev CtrAllN (rd ru : Nat) (w : World) (mg mb : Str → Option Value) (mean : ExcName → Option Value) (f : Addr) (news : List (Addr × Obj)) (pre : Shared → Prop) (vs : List Value) (ret : (Q : Value → Shared → Prop) → (h₀ : Heap) → (L : Addr) → (m : Str → Option Value) → (s : Shared) → Prop) : Prop :=
  ∀ (dp un : Nat) (gd : Option (List Code)) (cn : Str) (cs : Scope) (a : Addr) (ccd : Value) (cl : List (Str × Addr)) (outer : List Env) (A₀ : Around) (base h₀ : Heap) (L : Addr) (m : Str → Option Value) (s : Shared) (Q E : Value → Shared → Prop),
    Below A₀ base outer h₀ → Fr h₀ L s.heap m → (hd.heap_39 w.params).In h₀ → News h₀ L s.heap news → Top hd.view_39 LL mean mg mb h₀ → cs.kind = .function →
    pre s → dp + rd < recursionLimit → un + ru < cLine → ret Q h₀ L m s →
      wpAny (model PySem.Challenge.rw_wn0017_01.row.prog w) (ktrTop dp un gd cn cs L a ccd cl outer) (call (.ref f) vs) Q E s

abbrev CtrAll (w : World) (mg mb : Str → Option Value) (mean : ExcName → Option Value) (f : Addr) (news : List (Addr × Obj)) (pre : Shared → Prop) (vs : List Value) (ret : (Q : Value → Shared → Prop) → (h₀ : Heap) → (L : Addr) → (m : Str → Option Value) → (s : Shared) → Prop) : Prop :=
  ∀ (dp un : Nat) (gd : Option (List Code)) (cn : Str) (cs : Scope) (a : Addr) (ccd : Value) (cl : List (Str × Addr)) (outer : List Env) (A₀ : Around) (base h₀ : Heap) (L : Addr) (m : Str → Option Value) (s : Shared) (Q E : Value → Shared → Prop),
    Below A₀ base outer h₀ → Fr h₀ L s.heap m → (hd.heap_39 w.params).In h₀ → News h₀ L s.heap news → Top hd.view_39 LL mean mg mb h₀ → cs.kind = .function →
    pre s → dp + 9 < recursionLimit → un + 40 < cLine → ret Q h₀ L m s →
      wpAny (model PySem.Challenge.rw_wn0017_01.row.prog w) (ktrTop dp un gd cn cs L a ccd cl outer) (call (.ref f) vs) Q E s

abbrev RetV (news : List (Addr × Obj)) (R : Tok → Value) (Q : Value → Shared → Prop) (h₀ : Heap) (L : Addr) (m : Str → Option Value) (s : Shared) : Prop :=
  ∀ (t : Tok) (h' : Heap) (tk' : Nat), Fr h₀ L h' m → News h₀ L h' news → Q (R t) { s with heap := h', toks := tk' }

theorem booked_of {w : World} {h : Heap} (X : (KK w).In h) (T : ∃ mc, h.Ns cStatics mc) : NoneBooked h := by
  obtain ⟨mc, G⟩ := T
  refine ⟨mc, G, ?_⟩
  obtain ⟨o, es, ep, ho, hd, _, hf⟩ := G
  have := X 2 _ (by rfl)
  rw [show cStatics = 2 from rfl] at ho
  rw [this] at ho
  cases ho
  cases hd
  rw [← hf]
  rfl
theorem booked_K {w : World} {h₀ h : Heap} {p : Program} {loose : List Str} {mean : ExcName → Option Value} {mg mb : Str → Option Value} (X : (KK w).In h₀) (T : Top p loose mean mg mb h₀) (hk : ∀ b o, h₀.get? b = some o → h.get? b = some o) : NoneBooked h :=
  booked_of (Frag.In.keeps X hk) (let ⟨mc, q, _⟩ := T.nodigits; ⟨mc, q.keeps hk⟩)
end Mine

end
section
open PySem PySem.W PyProof.Rows
namespace Mine
set_option maxRecDepth 100000
set_option maxHeartbeats 8000000
local macro_rules | `(tactic| walk_at "getMethod ref") => `(tactic| (k_here; (with_reducible rename Fr _ _ _ _ => lF'); (with_reducible rename Frag.In _ _ => lX'); refine meth_sub lF' (by k_asm) ?_))
local macro_rules | `(tactic| walk_at "call builtin:re.Pattern.sub") => `(tactic| (k_here; refine' callsub_K ?k1 ?k2 ?k3 ?k4 ?_; (case k1 => k_asm); (case k2 => k_asm); (case k3 => k_asm); (case k4 => assumption); intro h' t' k' F' N'))

theorem ctr_qp (w : World) (mg mb : Str → Option Value) (mean : ExcName → Option Value) (news : List (Addr × Obj)) (b : Array UInt8) (t : Tok) : CtrAll w mg mb mean 43 news (fun _ => b.size ≤ 1048576) [.bytes b t] (RetV news (fun t => .bytes (quoted b) t)) := by
  unfold CtrAll; k_fill
  intros; rename_i hret
  refine wpAny_call ?_
  k_dflt cell_enter
  k_steps
  exact hret _ _ _ (by assumption) (by assumption)
end Mine

end
section
local macro_rules | `(tactic| walk_at "pad 0") => `(tactic| skip)
local macro_rules | `(tactic| walk_at "pad 1") => `(tactic| skip)
local macro_rules | `(tactic| walk_at "pad 2") => `(tactic| skip)
open PySem PySem.W PyProof.Rows
namespace Mine
set_option maxRecDepth 100000
set_option maxHeartbeats 8000000

theorem tok_ne {a b c : Nat} (h1 : a + 1 ≤ b) (h2 : b ≤ c) : c ≠ a := by omega
theorem tok_pos {a b c : Nat} (h1 : a + 1 ≤ b) (h2 : b ≤ c) : c ≠ 0 := by omega
local macro_rules | `(tactic| walk_at "compareOp Is") => `(tactic| (k_here; (with_reducible show wpAny _ _ (compareOp CmpOp.Is (Value.str _ _) (Value.str _ _)) _ _ _); (with_reducible rename Fr _ _ _ _ => lF'); refine is_str (booked_K (by k_asm) (by k_asm) (Fr.keep lF')) (tok_pos (by assumption) (by assumption)) (by assumption) (tok_ne (by assumption) (by assumption)) ?_; intro c' hc'))
theorem cnt_yes {x : Str} {i c : Nat} (hc : x.cps[i]? = some c) (h : (⟨#[c]⟩ : Str) = Str.ofString "\"") : (((x.cps.toList.take i).count 34 : Nat) : Int) + 1 = (((x.cps.toList.take (i + 1)).count 34 : Nat) : Int) := by
  have hl : x.cps.toList[i]? = some c := by simpa using hc
  have e : c = 34 := by
    have h2 : (#[c] : Array Nat) = #[34] := congrArg Str.cps (h.trans (by decide +kernel : Str.ofString "\"" = ⟨#[34]⟩))
    simpa using h2
  rw [List.take_add_one, hl, e]
  simp
theorem cnt_no {x : Str} {i c : Nat} (hc : x.cps[i]? = some c) (h : ((⟨#[c]⟩ : Str) == Str.ofString "\"") = false) : (((x.cps.toList.take i).count 34 : Nat) : Int) = (((x.cps.toList.take (i + 1)).count 34 : Nat) : Int) := by
  have hl : x.cps.toList[i]? = some c := by simpa using hc
  have e : c ≠ 34 := by
    rintro rfl
    rw [show (Str.ofString "\"") = (⟨#[34]⟩ : Str) from by decide +kernel] at h
    simp at h
  rw [List.take_add_one, hl]
  simp [List.count_append, List.count_cons, e]
theorem fin1 {m' : Str → Option Value} {y : Str} {k k' : Int} {tk : Tok} (h : m' y = some (.int k' tk)) (e : k' = k) : ∃ t, m' y = some (.int k t) := ⟨tk, e ▸ h⟩

theorem ctr_cs (w : World) (mg mb : Str → Option Value) (mean : ExcName → Option Value) (news : List (Addr × Obj)) (x : Str) (t u : Tok) : CtrAll w mg mb mean 131 news (fun s => x.length ≤ 1048576 ∧ u ≠ 0 ∧ u < s.toks) [.str x t, .str (Str.ofString "\"") u] (RetV news (fun t => .int (x.cps.toList.count 34) t)) := by
  unfold CtrAll; k_fill
  intro dp un gd cn cs a ccd cl outer A₀ base h₀ L m s Q E B F X N T hk hpre hroom hun hret
  obtain ⟨hlen, hu0, hus⟩ := hpre
  refine wpAny_call ?_
  k_dflt cell_enter
  refine PySem.wpAny_execs_cons (wpAny_later (u + 1) (Nat.le_trans hus (Nat.le_add_right ..)) ?_)
  walk1; walk1; walk1
  intro hTok
  dsimp only
  refine PySem.wpAny_execs_cons ?_
  rename Fr _ _ _ _ => F₁
  rename News _ _ _ _ => N₁
  refine For_acc1 (y := Str.ofString "count") (u + 1) (fun i => (((x.cps.toList.take i).count 34 : Nat) : Int)) F₁ N₁ hTok rfl rfl (by intro _; rfl) (by passes_own) (fun R h => by k_dflt (exact ld F₁ rfl h)) (iter_str rfl x t) ⟨_, rfl⟩ ?_ ?_
  · rintro i v a b ty h tk own hi h1 h2 h3 ⟨c, kT, hc, rfl, h4, h5⟩ F₂ N₂
    k_steps
    all_goals (dsimp only [TurnT]; refine' TurnEndT.intro ?F ?N ?J; (case F => k_asm); (case N => k_asm); case J => (refine ⟨⟨_, Eq.trans (b := some (Value.int _ _)) rfl (congrArg (fun z => some (Value.int z _)) ?e1)⟩, ?e2⟩; (case e2 => k_same); (case e1 => first | exact cnt_no hc (by assumption) | exact cnt_yes hc (eq_of_beq (by assumption)) | (rename (_ = true → _) => q; exact cnt_yes hc (q (by assumption))))))
  · intro v ty h tk hle F₂ N₂
    k_steps
    have e : List.take x.cps.size x.cps.toList = x.cps.toList := List.take_of_length_le (by simp)
    rw [e]
    exact hret _ _ _ (by k_asm) (by k_asm)
end Mine

end
section
local macro_rules | `(tactic| walk_at "pad 0") => `(tactic| skip)
local macro_rules | `(tactic| walk_at "pad 1") => `(tactic| skip)
local macro_rules | `(tactic| walk_at "pad 2") => `(tactic| skip)
local macro_rules | `(tactic| walk_at "pad 3") => `(tactic| skip)
local macro_rules | `(tactic| walk_at "pad 4") => `(tactic| skip)
local macro_rules | `(tactic| walk_at "pad 5") => `(tactic| skip)
open PySem PySem.W PyProof.Rows
namespace Mine
set_option maxRecDepth 100000
set_option maxHeartbeats 8000000

theorem byte_small (c : UInt8) : smallInt ((c.toNat : Nat) : Int) = true := by
  have := c.toNat_lt
  unfold smallInt
  simp only [Bool.and_eq_true, decide_eq_true_eq]
  omega
theorem btok_ne {a b c : Nat} (h1 : a + 1 ≤ b) (h2 : b ≤ c) : c ≠ a := by omega
theorem btok_pos {a b c : Nat} (h1 : a + 1 ≤ b) (h2 : b ≤ c) : c ≠ 0 := by omega
theorem cntb_yes {x : Array UInt8} {i : Nat} {c : UInt8} (hc : x[i]? = some c) (h : ((c.toNat : Nat) : Int) = 46) : (((x.toList.take i).count 46 : Nat) : Int) + 1 = (((x.toList.take (i + 1)).count 46 : Nat) : Int) := by
  have hl : x.toList[i]? = some c := by simpa using hc
  have e : c = 46 := by
    apply UInt8.toNat_inj.mp
    show c.toNat = 46
    omega
  rw [List.take_add_one, hl, e]
  simp
theorem cntb_no {x : Array UInt8} {i : Nat} {c : UInt8} (hc : x[i]? = some c) (h : ((c.toNat : Nat) : Int) ≠ 46) : (((x.toList.take i).count 46 : Nat) : Int) = (((x.toList.take (i + 1)).count 46 : Nat) : Int) := by
  have hl : x.toList[i]? = some c := by simpa using hc
  have e : c ≠ 46 := by
    rintro rfl
    exact h rfl
  rw [List.take_add_one, hl]
  simp [List.count_append, e]
local macro_rules | `(tactic| walk_at "compareOp Is") => `(tactic| (k_here; (with_reducible show wpAny _ _ (compareOp CmpOp.Is (Value.int _ _) (Value.int _ _)) _ _ _); refine is_int (byte_small _) (btok_pos (by assumption) (by assumption)) (by assumption) (btok_ne (by assumption) (by assumption)) ?_))

theorem ctr_cb (w : World) (mg mb : Str → Option Value) (mean : ExcName → Option Value) (news : List (Addr × Obj)) (x : Array UInt8) (t u : Tok) : CtrAll w mg mb mean 131 news (fun s => x.size ≤ 1048576 ∧ u ≠ 0 ∧ u < s.toks) [.bytes x t, .int 46 u] (RetV news (fun t => .int (x.toList.count 46) t)) := by
  unfold CtrAll; k_fill
  intro dp un gd cn cs a ccd cl outer A₀ base h₀ L m s Q E B F X N T hk hpre hroom hun hret
  obtain ⟨hlen, hu0, hus⟩ := hpre
  refine wpAny_call ?_
  k_dflt cell_enter
  refine PySem.wpAny_execs_cons (wpAny_later (u + 1) (Nat.le_trans hus (Nat.le_add_right ..)) ?_)
  walk1; walk1; walk1
  intro hTok
  dsimp only
  refine PySem.wpAny_execs_cons ?_
  rename Fr _ _ _ _ => F₁
  rename News _ _ _ _ => N₁
  refine For_acc1 (y := Str.ofString "count") (u + 1) (fun i => (((x.toList.take i).count 46 : Nat) : Int)) F₁ N₁ hTok rfl rfl (by intro _; rfl) (by passes_own) (fun R h => by k_dflt (exact ld F₁ rfl h)) (iter_bytes rfl x t) ⟨_, rfl⟩ ?_ ?_
  · rintro i v a b ty h tk own hi h1 h2 h3 ⟨c, kT, hc, rfl, h4, h5⟩ F₂ N₂
    k_steps
    all_goals (dsimp only [TurnT]; refine' TurnEndT.intro ?F ?N ?J; (case F => k_asm); (case N => k_asm); case J => (refine ⟨⟨_, Eq.trans (b := some (Value.int _ _)) rfl (congrArg (fun z => some (Value.int z _)) ?e1)⟩, ?e2⟩; (case e2 => k_same); (case e1 => first | exact cntb_yes hc (by assumption) | exact cntb_no hc (by assumption))))
  · intro v ty h tk hle F₂ N₂
    k_steps
    have e : List.take x.size x.toList = x.toList := List.take_of_length_le (by simp)
    rw [e]
    exact hret _ _ _ (by k_asm) (by k_asm)
end Mine

end
section
local macro_rules | `(tactic| walk_at "pad 0") => `(tactic| skip)
local macro_rules | `(tactic| walk_at "pad 1") => `(tactic| skip)
local macro_rules | `(tactic| walk_at "pad 2") => `(tactic| skip)
local macro_rules | `(tactic| walk_at "pad 3") => `(tactic| skip)
local macro_rules | `(tactic| walk_at "pad 4") => `(tactic| skip)
local macro_rules | `(tactic| walk_at "pad 5") => `(tactic| skip)
local macro_rules | `(tactic| walk_at "pad 6") => `(tactic| skip)
local macro_rules | `(tactic| walk_at "pad 7") => `(tactic| skip)
local macro_rules | `(tactic| walk_at "pad 8") => `(tactic| skip)
open PySem PySem.W PyProof.Rows
namespace Mine
set_option maxRecDepth 100000
set_option maxHeartbeats 8000000

def reply (n : Nat) : Str := ⟨([50, 53, 55, 32, 34] ++ List.replicate n 34 ++ [122]).toArray⟩
def told (n : Nat) : Str := ⟨(List.replicate (n / 2) 34 ++ (if n % 2 = 0 then [122] else [])).toArray⟩
def quotes (j : Nat) : Str := ⟨(List.replicate j 34).toArray⟩
theorem reply_len (n : Nat) : (reply n).length = n + 6 := by
  simp [reply, Str.length]
theorem quotes_len (n : Nat) : (quotes n).length = n := by
  simp [quotes, Str.length]
theorem told_len (n : Nat) : (told n).length ≤ n + 1 := by
  unfold told Str.length
  simp only [List.size_toArray, List.length_append, List.length_replicate]
  split <;> simp <;> omega
theorem reply_q {n k : Nat} {i : Int} (hk : k < n) (hi : i = 5 + (k : Int)) : Txt.item (reply n) i = Str.ofString "\"" := by
  rw [item_at (n := 5 + k) (by omega) (by rw [reply_len]; omega) (by omega), show Str.ofString "\"" = ⟨#[34]⟩ from by decide +kernel]
  congr 2
  unfold reply
  have : ([50, 53, 55, 32, 34] ++ List.replicate n 34 ++ [122])[5 + k]? = some 34 := by
    rw [List.getElem?_append_left (by simp; omega), List.getElem?_append_right (by simp)]
    simp [hk]
  simp only [Array.getD_eq_getD_getElem?, List.getElem?_toArray, this]
  rfl
theorem reply_z {n : Nat} {i : Int} (hi : i = 5 + (n : Int)) : Txt.item (reply n) i = Str.ofString "z" := by
  rw [item_at (n := 5 + n) (by omega) (by rw [reply_len]; omega) (by omega), show Str.ofString "z" = ⟨#[122]⟩ from by decide +kernel]
  congr 2
  unfold reply
  have : ([50, 53, 55, 32, 34] ++ List.replicate n 34 ++ [122])[5 + n]? = some 122 := by
    rw [List.getElem?_append_right (by simp; omega)]
    simp
    rw [show 5 + n - (n + 1 + 1 + 1 + 1 + 1) = 0 from by omega]
    rfl
  simp only [Array.getD_eq_getD_getElem?, List.getElem?_toArray, this]
  rfl
section
variable {M : Model} {A : Around} {E : Value → Shared → Prop}
theorem item_eq {prog : Program} {w : World} {s : Shared} {value slice : PySem.Expr} {x v : Str} {t : Tok} {Q : Value → Shared → Prop} {i : Int} {u : Tok} (he : Txt.item x i = v) (hr : fitsSsize i = true) (h1 : -(x.length : Int) ≤ i) (h2 : i < x.length)
    (h : Q (.str v s.toks) { s with toks := s.toks + 1 })
    (hs : subscripted slice false (.str x t) (.int i u) = operate [.str x t, .int i u] (getItem (.str x t) (.int i u)) := by with_unfolding_all rfl)
    (ht : ∀ r, letTemporaryGo value (.str x t) r = pure () := by intro _; with_unfolding_all rfl) :
    wpAny (model prog w) A (subscriptTail value slice (.str x t) (.int i u)) Q E s := item_str hr h1 h2 (fun _ => by rw [he]; exact h) hs ht
end
local macro_rules | `(tactic| walk_at "subscriptTail Name Name str int") => `(tactic| (refine' item_eq ?he ?hr ?h1 ?h2 ?_; (case he => assumption); (case hr => exact fitsSsize_of (N := 9223372036854775808) (by omega) (by omega) (Int.le_refl _)); (case h1 => omega); (case h2 => omega)))
theorem quotes_snoc (j : Nat) : quotes j ++ Str.ofString "\"" = quotes (j + 1) := by
  rw [show Str.ofString "\"" = ⟨#[34]⟩ from by decide +kernel]
  apply Str.ext'
  rw [Str.cps_append]
  apply Array.toList_inj.mp
  simp [quotes, List.replicate_succ']
theorem told_even (j : Nat) : quotes j ++ Str.ofString "z" = told (2 * j) := by
  rw [show Str.ofString "z" = ⟨#[122]⟩ from by decide +kernel]
  apply Str.ext'
  rw [Str.cps_append]
  apply Array.toList_inj.mp
  simp [quotes, told]
theorem told_odd (j : Nat) : quotes j = told (2 * j + 1) := by
  unfold quotes told
  rw [show (2 * j + 1) / 2 = j from by omega, show (2 * j + 1) % 2 = 1 from by omega]
  simp
theorem reply_3 (n : Nat) : Txt.slice (reply n) none (some 3) = Str.ofString "257" := by
  have h := eq_of_beq (slice_closes_toL (x := reply n) (j := 3) (by omega) (by rw [reply_len]; omega))
  rw [h, show Str.ofString "257" = ⟨#[50, 53, 55]⟩ from by decide +kernel]
  simp [reply]
theorem reply_35 (n : Nat) : Txt.slice (reply n) (some 3) (some 5) = Str.ofString " \"" := by
  have h := eq_of_beq (slice_closesL (x := reply n) (i := 3) (j := 5) (by omega) (by omega) (by rw [reply_len]; omega))
  rw [h, show Str.ofString " \"" = ⟨#[32, 34]⟩ from by decide +kernel]
  simp [reply]

def ParseInv (s : Shared) (g : Heap) (L : Addr) (news : List (Addr × Obj)) (x : Str) (t : Tok) (n k : Nat) (s' : Shared) : Prop :=
  ∃ (h : Heap) (tk : Nat) (u : Str → Option Value) (i : Nat) (d : Str), s' = { s with heap := h, toks := tk } ∧ Fr g L h u ∧ News g L h news ∧ (∃ ti, u (Str.ofString "i") = some (.int (i : Int) ti)) ∧ (∃ td, u (Str.ofString "dirname") = some (.str d td)) ∧
    (∃ tn, u (Str.ofString "n") = some (.int ((x.length : Nat) : Int) tn)) ∧ u (Str.ofString "resp") = some (.str x t) ∧ ((∃ j, 2 * j ≤ n ∧ i = 5 + 2 * j ∧ d = quotes j) ∨ (i = n + 6 ∧ d = told n)) ∧ k = n + 6 - i
theorem ParseInv.mk {s : Shared} {g : Heap} {L : Addr} {news : List (Addr × Obj)} {x : Str} {t : Tok} {n k : Nat} {h : Heap} {tk : Nat} {u : Str → Option Value} {i : Nat} {d : Str} (F : Fr g L h u) (N : News g L h news) (hi : ∃ ti, u (Str.ofString "i") = some (.int (i : Int) ti)) (hd : ∃ td, u (Str.ofString "dirname") = some (.str d td))
    (hn : ∃ tn, u (Str.ofString "n") = some (.int ((x.length : Nat) : Int) tn)) (hr : u (Str.ofString "resp") = some (.str x t)) (hc : (∃ j, 2 * j ≤ n ∧ i = 5 + 2 * j ∧ d = quotes j) ∨ (i = n + 6 ∧ d = told n)) (hk : k = n + 6 - i) : ParseInv s g L news x t n k { s with heap := h, toks := tk } :=
  ⟨h, tk, u, i, d, rfl, F, N, hi, hd, hn, hr, hc, hk⟩

theorem ctr_parse (w : World) (mg mb : Str → Option Value) (mean : ExcName → Option Value) (news : List (Addr × Obj)) (n : Nat) (x : Str) (t : Tok) (hx : x = reply n) : CtrAll w mg mb mean 75 news (fun s => n ≤ 1000) [.str x t] (RetV news (fun t => .str (told n) t)) := by
  unfold CtrAll; k_fill
  intro dp un gd cn cs a ccd cl outer A₀ base h₀ L m s Q E B F X N T hk hpre hroom hun hret
  have hl : x.length = n + 6 := by rw [hx]; exact reply_len n
  have hlen : x.length ≤ 1048576 := by omega
  have h3 : Txt.slice x none (some 3) = Str.ofString "257" := by rw [hx]; exact reply_3 n
  have h5 : Txt.slice x (some 3) (some 5) = Str.ofString " \"" := by rw [hx]; exact reply_35 n
  refine wpAny_call ?_
  k_dflt cell_enter
  rename_i g L1 h1 FG F1 N1 B1 X1 T1
  replace F1 : Fr g L1 h1 (fun y => List.lookup y [(Str.ofString "resp", Value.str x t)]) := F1
  rw [lookup1] at F1
  refine segN 5 (fun s' => ∃ h tk t1 t2 t3, s' = { s with heap := h, toks := tk } ∧ Fr g L1 h (fun y => if y = Str.ofString "n" then some (.int ((x.length : Nat) : Int) t1) else if y = Str.ofString "i" then some (.int 5 t2) else if y = Str.ofString "dirname" then some (.str (Str.ofString "") t3) else if y = Str.ofString "resp" then some (.str x t) else none) ∧ News g L1 h news) ?_ ?_
  · simp only [List.take_succ_cons, List.take_zero]
    intro Rest hRest
    k_steps
    · exfalso; rename (_ = true) => q; rw [h3] at q; exact absurd q (by decide +kernel)
    · exfalso; rename (_ = true) => q; rw [h5] at q; exact absurd q (by decide +kernel)
    · exact hRest _ ⟨_, _, _, _, _, rfl, by k_asm, by k_asm⟩
  · simp only [List.drop_succ_cons, List.drop_zero]
    rintro s' ⟨h2, tk, t1, t2, t3, rfl, F2, N2⟩
    refine segN 1 (fun s' => ∃ (h : Heap) (tk : Nat) (u : Str → Option Value), s' = { s with heap := h, toks := tk } ∧ Fr g L1 h u ∧ News g L1 h news ∧ ∃ td, u (Str.ofString "dirname") = some (.str (told n) td)) ?_ ?_
    · simp only [List.take_succ_cons, List.take_zero]
      intro Rest hRest
      refine PySem.wpAny_execs_cons ?_
      refine While_gen (ParseInv s g L1 news x t n) (n + 1) (by passes_own) ?_ ?_
      · exact ParseInv.mk F2 N2 (i := 5) (d := quotes 0) ⟨_, rfl⟩ ⟨_, rfl⟩ ⟨_, rfl⟩ rfl (.inl ⟨0, Nat.zero_le _, rfl, rfl⟩) rfl
      · rintro k s₁ ⟨h, tk, u, i, d, rfl, F3, N3, ⟨ti, hi⟩, ⟨td, hd⟩, ⟨tn, hn⟩, hr, hcase, rfl⟩ Again hAgain
        clear F1 F2 N1 N2
        have F3 := fr_re4 F3 hi hd hn hr
        rcases hcase with ⟨j, hj, rfl, rfl⟩ | ⟨rfl, rfl⟩
        · have hq := quotes_len j
          have hq1 : (quotes j).length ≤ 1048576 := by omega
          rcases (by omega : 2 * j = n ∨ 2 * j + 1 = n ∨ 2 * j + 2 ≤ n) with hn | hn | hn
          · have e1 : Txt.item x ((5 + 2 * j : Nat) : Int) = Str.ofString "z" := by rw [hx]; exact reply_z (by omega)
            k_steps
            refine' hAgain 0 _ (by omega) (ParseInv.mk (i := n + 6) (d := told n) ?F ?N ?a1 ?a2 ?a3 ?a4 (.inr ⟨rfl, rfl⟩) (by omega))
            case F => k_asm
            case N => k_asm
            case a1 => exact ⟨_, Eq.trans (b := some (Value.int _ _)) rfl (at_int (by omega))⟩
            case a2 => exact ⟨_, Eq.trans (b := some (Value.str _ _)) rfl (at_str (by rw [← hn]; exact told_even j))⟩
            case a3 => exact ⟨_, rfl⟩
            case a4 => rfl
          · have e1 : Txt.item x ((5 + 2 * j : Nat) : Int) = Str.ofString "\"" := by rw [hx]; exact reply_q (k := 2 * j) (by omega) (by omega)
            have e2 : Txt.item x (((5 + 2 * j : Nat) : Int) + 1) = Str.ofString "z" := by rw [hx]; exact reply_z (by omega)
            k_steps
            refine' hRest _ ⟨_, _, _, rfl, ?F, ?N, ?a2⟩
            case F => k_asm
            case N => k_asm
            case a2 => exact ⟨_, Eq.trans (b := some (Value.str _ _)) rfl (at_str (by rw [← hn]; exact told_odd j))⟩
          · have e1 : Txt.item x ((5 + 2 * j : Nat) : Int) = Str.ofString "\"" := by rw [hx]; exact reply_q (k := 2 * j) (by omega) (by omega)
            have e2 : Txt.item x (((5 + 2 * j : Nat) : Int) + 1) = Str.ofString "\"" := by rw [hx]; exact reply_q (k := 2 * j + 1) (by omega) (by omega)
            k_steps
            refine' hAgain (n + 6 - (5 + 2 * (j + 1))) _ (by omega) (ParseInv.mk (i := 5 + 2 * (j + 1)) (d := quotes (j + 1)) ?F ?N ?a1 ?a2 ?a3 ?a4 (.inl ⟨j + 1, by omega, rfl, rfl⟩) rfl)
            case F => k_asm
            case N => k_asm
            case a1 => exact ⟨_, Eq.trans (b := some (Value.int _ _)) rfl (at_int (by omega))⟩
            case a2 => exact ⟨_, Eq.trans (b := some (Value.str _ _)) rfl (at_str (quotes_snoc j))⟩
            case a3 => exact ⟨_, rfl⟩
            case a4 => rfl
        · k_steps
          exact hRest _ ⟨_, _, _, rfl, by k_asm, by k_asm, ⟨_, rfl⟩⟩
    · simp only [List.drop_succ_cons, List.drop_zero]
      rintro s' ⟨h3, tk, u, rfl, F3, N3, ⟨td, hd⟩⟩
      clear F1 F2 N1 N2
      have F3 := fr_re1 F3 hd
      k_steps
      exact hret _ _ _ (by k_asm) (by k_asm)
end Mine

end
section
local macro_rules | `(tactic| walk_at "pad 0") => `(tactic| skip)
local macro_rules | `(tactic| walk_at "pad 1") => `(tactic| skip)
local macro_rules | `(tactic| walk_at "pad 2") => `(tactic| skip)
local macro_rules | `(tactic| walk_at "pad 3") => `(tactic| skip)
local macro_rules | `(tactic| walk_at "pad 4") => `(tactic| skip)
local macro_rules | `(tactic| walk_at "pad 5") => `(tactic| skip)
local macro_rules | `(tactic| walk_at "pad 6") => `(tactic| skip)
local macro_rules | `(tactic| walk_at "pad 7") => `(tactic| skip)
local macro_rules | `(tactic| walk_at "pad 8") => `(tactic| skip)
local macro_rules | `(tactic| walk_at "pad 9") => `(tactic| skip)
local macro_rules | `(tactic| walk_at "pad 10") => `(tactic| skip)
local macro_rules | `(tactic| walk_at "pad 11") => `(tactic| skip)
open PySem PySem.W PyProof.Rows
namespace Mine
set_option maxRecDepth 100000
set_option maxHeartbeats 8000000

def sgn (b : Bool) : Nat := if b then 45 else 122
def word (ws : List Bool) : Str := ⟨(ws.map sgn).toArray⟩
def rstep (c : Int) (T : Int × Int × Int) (p : Bool × Nat) : Int × Int × Int := if p.1 then (T.1 * 3, T.2.1 * 3 + c * 2 ^ p.2, T.2.2 * 11) else T
def reck (c : Int) (ws : List Bool) : Int × Int × Int := ws.zipIdx.foldl (rstep c) (1, 0, 1)
def reckRest (c : Int) (ws : List Bool) : Int := -((reck c ws).2.1 * (reck c ws).2.2)
abbrev tup3 (a b c : Int) (t u v : Tok) : Obj := { cls := .type "tuple", data := .seq #[.int a t, .int b u, .int c v] }

theorem reck_snoc (c : Int) (ws : List Bool) (b : Bool) : reck c (ws ++ [b]) = rstep c (reck c ws) (b, ws.length) := by
  unfold reck
  rw [List.zipIdx_append, List.foldl_append]
  simp
theorem reck_take {c : Int} {ws : List Bool} {i : Nat} {b : Bool} (h : ws[i]? = some b) : reck c (ws.take (i + 1)) = rstep c (reck c (ws.take i)) (b, i) := by
  have hi : i < ws.length := (List.getElem?_eq_some_iff.mp h).1
  rw [List.take_add_one, h]
  show reck c (ws.take i ++ [b]) = _
  rw [reck_snoc, List.length_take, Nat.min_eq_left (Nat.le_of_lt hi)]
theorem reck_bound {c : Int} {ws : List Bool} (h0 : 0 ≤ c) (h1 : c ≤ 5) (hl : ws.length ≤ 4) : 0 ≤ (reck c ws).1 ∧ (reck c ws).1 ≤ 81 ∧ 0 ≤ (reck c ws).2.1 ∧ (reck c ws).2.1 ≤ 1000 ∧ 0 ≤ (reck c ws).2.2 ∧ (reck c ws).2.2 ≤ 14641 := by
  rcases ws with _ | ⟨a, _ | ⟨b, _ | ⟨d, _ | ⟨e, _ | ⟨f, r⟩⟩⟩⟩⟩
  · simp [reck]
  · cases a <;> (simp [reck, rstep]; try omega)
  · cases a <;> cases b <;> (simp [reck, rstep]; try omega)
  · cases a <;> cases b <;> cases d <;> (simp [reck, rstep]; try omega)
  · cases a <;> cases b <;> cases d <;> cases e <;> (simp [reck, rstep]; try omega)
  · exact absurd hl (by simp)
theorem word_sign {ws : List Bool} {i : Nat} {a : Str} (h : (signs (word ws))[i]? = some a) : ∃ b, ws[i]? = some b ∧ a = (if b then Str.ofString "-" else Str.ofString "z") := by
  simp only [signs, word, List.map_map, List.getElem?_map] at h
  cases e : ws[i]? with
  | none => rw [e] at h; cases h
  | some b =>
    rw [e] at h
    refine ⟨b, rfl, ?_⟩
    have h' : (⟨#[sgn b]⟩ : Str) = a := Option.some.inj h
    rw [← h']
    cases b <;> decide +kernel

def ReckJ (c : Int) (ws : List Bool) (u : Tok) (led : List (Addr × Obj)) (i : Nat) (m : Str → Option Value) (nx : List (Addr × Obj)) : Prop :=
  nx = led ∧ (∃ t, m (Str.ofString "top") = some (.int (reck c (ws.take i)).1 t)) ∧ (∃ t, m (Str.ofString "plus") = some (.int (reck c (ws.take i)).2.1 t)) ∧ (∃ t, m (Str.ofString "back") = some (.int (reck c (ws.take i)).2.2 t)) ∧ m (Str.ofString "c") = some (.int c u)

local macro_rules | `(tactic| walk_at "call ref") => `(tactic| (k_here; refine wpAny_call ?_; k_dflt cell_enter))

theorem ctr_reck (w : World) (mg mb : Str → Option Value) (mean : ExcName → Option Value) (news : List (Addr × Obj)) (x : Str) (ws : List Bool) (hx : x = word ws) (hw : ws.length = 4) (c : Int) (t u : Tok) (hc0 : 0 ≤ c) (hc1 : c ≤ 5) : CtrAll w mg mb mean 138 news (fun s => True) [.str x t, .int c u]
    (fun Q h₀ L m s => ∀ (y : Addr) (t1 t2 t3 : Tok) (h' : Heap) (tk' : Nat), Fr h₀ L h' m → News h₀ L h' ((y, tup3 (reck c ws).1 (reck c ws).2.1 (reckRest c ws) t1 t2 t3) :: news) → Q (.ref y) { s with heap := h', toks := tk' }) := by
  unfold CtrAll; k_fill
  intro dp un gd cn cs a ccd cl outer A₀ base h₀ L m s Q E B F X N T hk hpre hroom hun hret
  refine wpAny_call ?_
  k_dflt cell_enter
  have hkk : ScopeKind.function = ScopeKind.function := rfl
  k_steps
  rename PairSrcL _ _ _ _ _ _ _ _ _ _ _ _ => S'
  rename Fr _ _ _ _ => F1
  rename News _ _ _ _ => N1
  refine S'.at _ rfl _ _ _ _ (ReckJ c ws u _) ⟨rfl, ⟨_, rfl⟩, ⟨_, rfl⟩, ⟨_, rfl⟩, rfl⟩ ?_ ?_
  · rintro i a ti v m₁ news₁ s₁ own ⟨h, tk, rfl⟩ ha hv ⟨rfl, ⟨t1, h1⟩, ⟨t2, h2⟩, ⟨t3, h3⟩, h4⟩ hadr hoff F₂ N₂
    clear S' F1 N1
    obtain ⟨tv, rfl⟩ := ItemKind.str_is hv
    rw [hx] at ha
    obtain ⟨b, hb, rfl⟩ := word_sign ha
    have hi : i < 4 := by have := (List.getElem?_eq_some_iff.mp hb).1; omega
    have F₃ := fr_re4 (a := Str.ofString "top") (b := Str.ofString "plus") (c := Str.ofString "back") (d := Str.ofString "c") F₂ h1 h2 h3 h4
    obtain ⟨g1, g2, g3, g4, g5, g6⟩ := reck_bound (ws := ws.take i) hc0 hc1 (by rw [List.length_take]; omega)
    have hr := reck_take (c := c) hb
    clear F₂
    refine shut fun Q' hQ' => ?_
    cases b with
    | false =>
      simp only [Bool.false_eq_true, if_false] at *
      k_steps
      refine hQ' _ _ (LoopStep3.next (LoopStep2.intro (by k_asm) (by k_asm) rfl ?_))
      refine ⟨rfl, ?_, ?_, ?_, rfl⟩ <;> rw [hr] <;> exact ⟨_, rfl⟩
    | true =>
      simp only [if_true] at *
      have hkk : ScopeKind.function = ScopeKind.function := rfl
      k_steps
      refine hQ' _ _ (LoopStep3.next (LoopStep2.intro (by k_asm) (by k_asm) rfl ?_))
      refine ⟨rfl, ?_, ?_, ?_, rfl⟩ <;> rw [hr]
      · exact ⟨_, rfl⟩
      · refine ⟨_, Eq.trans (b := some (Value.int _ _)) rfl (at_int ?_)⟩
        show _ = (reck c (ws.take i)).2.1 * 3 + c * 2 ^ i
        rw [Int.one_mul, Int.toNat_natCast]
      · exact ⟨_, rfl⟩
  · intro h' tk m' news' F₂ N₂ _ hJ
    clear S' F1 N1
    obtain ⟨rfl, ⟨t1, h1⟩, ⟨t2, h2⟩, ⟨t3, h3⟩, h4⟩ := hJ
    rw [hx, signs_length, show (word ws).length = ws.length from by simp [word, Str.length], List.take_length] at h1 h2 h3
    have F₃ := fr_re4 (a := Str.ofString "top") (b := Str.ofString "plus") (c := Str.ofString "back") (d := Str.ofString "c") F₂ h1 h2 h3 h4
    obtain ⟨g1, g2, g3, g4, g5, g6⟩ := reck_bound (ws := ws) hc0 hc1 (by omega)
    clear F₂
    k_steps
    rename News h₀ L _ _ => NN
    exact hret _ _ _ _ _ _ (by k_asm) (fun p hp => by
      rcases List.mem_cons.mp hp with e | hp
      · exact e ▸ NN _ (.head _)
      · exact NN _ (.tail _ (.tail _ hp)))
end Mine

end
section
open PySem PySem.W PyProof.Rows
namespace Mine
set_option maxRecDepth 100000

/-! ## the mail, in plain Lean -/
def nextOf (k n : Nat) : Nat := if n % 2 = 0 then n / 2 else n / 2 + n + k
def rowOf (k n : Nat) : List UInt8 := if n % 2 = 0 then 122 :: List.replicate (n / 2) 46 else List.replicate (n / 2 + n + k) 46
def mailOf (k : Nat) (ns : List Nat) : List UInt8 := ns.flatMap fun n => rowOf k n ++ [10]

def qz : Bool → List UInt8 → List UInt8
  | _, [] => []
  | st, c :: r => (if st && c == 46 then [46, 46] else [c]) ++ qz (c == 10) r

theorem codes_getD (b : Array UInt8) (p : Nat) (h : p < b.size) : (codes b).getD p 0 = (b.getD p 0).toNat := by
  simp only [codes, Array.getD_eq_getD_getElem?, Array.getElem?_map]
  rw [Array.getElem?_eq_getElem h]
  rfl
theorem toNat_beq (c : UInt8) (n : Nat) (m : UInt8) (h : m.toNat = n) : (c.toNat == n) = (c == m) := by
  subst h
  by_cases e : c = m
  · rw [e, beq_self_eq_true, beq_self_eq_true]
  · have : c.toNat ≠ m.toNat := fun q => e (UInt8.toNat_inj.mp q)
    rw [beq_eq_false_iff_ne.mpr this, beq_eq_false_iff_ne.mpr e]
def atStart (b : Array UInt8) (p : Nat) : Bool := p == 0 || b.getD (p - 1) 0 == 10
theorem qf_qz (b : Array UInt8) : ∀ (k p : Nat), b.size ≤ p + k → qf b k p = qz (atStart b p) (b.toList.drop p)
  | 0, p, h => by
    rw [List.drop_eq_nil_of_le (by simpa using h)]
    rfl
  | k + 1, p, h => by
    unfold qf
    by_cases hp : p < b.size
    · rw [if_pos hp, qf_qz b k (p + 1) (by omega), List.drop_eq_getElem_cons (l := b.toList) (i := p) (by simpa using hp)]
      have e : b.toList[p] = b.getD p 0 := by simp [Array.getD, hp]
      rw [e]
      have e1 : hit (codes b) p = (atStart b p && b.getD p 0 == 46) := by
        unfold hit atStart
        rw [codes_getD b p hp, toNat_beq _ 46 46 rfl]
        by_cases h0 : p = 0
        · subst h0; rfl
        · rw [codes_getD b (p - 1) (by omega), toNat_beq _ 10 10 rfl]
      have e2 : atStart b (p + 1) = (b.getD p 0 == 10) := by simp [atStart]
      rw [e1, e2]
      rfl
    · rw [if_neg hp, List.drop_eq_nil_of_le (by simpa using hp)]
      rfl
theorem quoted_qz (b : Array UInt8) : quoted b = (qz true b.toList).toArray := by
  unfold quoted
  rw [qf_qz b (b.size + 1) 0 (by omega)]
  rfl

theorem qz_plain (l rest : List UInt8) (h : ∀ c ∈ l, c ≠ 10) : qz false (l ++ 10 :: rest) = l ++ 10 :: qz true rest := by
  induction l with
  | nil => rfl
  | cons c r ih =>
    have hc : (c == 10) = false := by simpa using h c (List.mem_cons_self ..)
    show (if false && c == 46 then [46, 46] else [c]) ++ qz (c == 10) (r ++ 10 :: rest) = _
    rw [hc, ih fun x hx => h x (List.mem_cons_of_mem _ hx)]
    rfl
theorem row_no10 (k n : Nat) : ∀ c ∈ rowOf k n, c ≠ 10 := by
  intro c hc
  unfold rowOf at hc
  split at hc
  · rcases List.mem_cons.mp hc with e | e
    · subst e; decide
    · rw [List.eq_of_mem_replicate e]; decide
  · rw [List.eq_of_mem_replicate hc]; decide
theorem qz_row (k n : Nat) (rest : List UInt8) : qz true (rowOf k n ++ 10 :: rest) = rowOf (k + 1) n ++ 10 :: qz true rest := by
  have h := row_no10 k n
  by_cases hn : n % 2 = 0
  · have e : rowOf k n = 122 :: List.replicate (n / 2) 46 := by unfold rowOf; rw [if_pos hn]
    have e' : rowOf (k + 1) n = 122 :: List.replicate (n / 2) 46 := by unfold rowOf; rw [if_pos hn]
    rw [e] at h
    rw [e, e']
    show [122] ++ qz false (List.replicate (n / 2) 46 ++ 10 :: rest) = _
    rw [qz_plain _ _ fun c hc => h c (List.mem_cons_of_mem _ hc)]
    rfl
  · have e : rowOf k n = 46 :: List.replicate (n / 2 + n + k - 1) 46 := by
      unfold rowOf
      rw [if_neg hn, ← List.replicate_succ]
      congr 1
      omega
    have e' : rowOf (k + 1) n = 46 :: 46 :: List.replicate (n / 2 + n + k - 1) 46 := by
      unfold rowOf
      rw [if_neg hn, ← List.replicate_succ, ← List.replicate_succ]
      congr 1
      omega
    rw [e] at h
    rw [e, e']
    show [46, 46] ++ qz false (List.replicate (n / 2 + n + k - 1) 46 ++ 10 :: rest) = _
    rw [qz_plain _ _ fun c hc => h c (List.mem_cons_of_mem _ hc)]
    rfl
theorem qz_mail (k : Nat) (ns : List Nat) : qz true (mailOf k ns) = mailOf (k + 1) ns := by
  induction ns with
  | nil => rfl
  | cons n r ih =>
    have e : ∀ j, mailOf j (n :: r) = rowOf j n ++ 10 :: mailOf j r := fun j => by simp [mailOf]
    rw [e, e, qz_row, ih]
theorem quoted_mail (k : Nat) (ns : List Nat) : quoted (mailOf k ns).toArray = (mailOf (k + 1) ns).toArray := by
  rw [quoted_qz]
  show (qz true (mailOf k ns)).toArray = _
  rw [qz_mail]
theorem row_len (k n : Nat) : (rowOf k n).length ≤ n / 2 + n + k + 1 := by
  unfold rowOf
  split
  · simp; omega
  · simp
theorem row_count (k n : Nat) : (rowOf k n).count 46 = nextOf k n := by
  unfold rowOf nextOf
  split
  · simp
  · simp
theorem mail_len (k : Nat) (ns : List Nat) (h : ∀ n ∈ ns, n ≤ 1000) : (mailOf k ns).length ≤ ns.length * (1502 + k) := by
  induction ns with
  | nil => simp [mailOf]
  | cons n r ih =>
    have e : mailOf k (n :: r) = rowOf k n ++ 10 :: mailOf k r := by simp [mailOf]
    have h1 := row_len k n
    have h2 := h n (List.mem_cons_self ..)
    have h3 := ih fun x hx => h x (List.mem_cons_of_mem _ hx)
    rw [e, List.length_append, List.length_cons, List.length_cons, Nat.add_mul]
    omega

/-! ## split by 10 -/
open PySem.Builtin.Bytes
def cut10 : List UInt8 → List (List UInt8)
  | [] => [[]]
  | c :: r => if c == 10 then [] :: cut10 r else match cut10 r with
    | [] => [[c]]
    | p :: ps => (c :: p) :: ps
theorem cut10_row (l rest : List UInt8) (h : ∀ c ∈ l, c ≠ 10) : cut10 (l ++ 10 :: rest) = l :: cut10 rest := by
  induction l with
  | nil => rfl
  | cons c r ih =>
    have hc : (c == 10) = false := by simpa using h c (List.mem_cons_self ..)
    show (if (c == 10) = true then _ else (match cut10 (r ++ 10 :: rest) with | [] => [[c]] | p :: ps => (c :: p) :: ps)) = _
    rw [hc, if_neg Bool.false_ne_true, ih fun x hx => h x (List.mem_cons_of_mem _ hx)]
theorem cut10_mail (k : Nat) (ns : List Nat) : cut10 (mailOf k ns) = ns.map (rowOf k) ++ [[]] := by
  induction ns with
  | nil => rfl
  | cons n r ih =>
    have e : mailOf k (n :: r) = rowOf k n ++ 10 :: mailOf k r := by simp [mailOf]
    rw [e, cut10_row _ _ (row_no10 k n), ih]
    rfl
end Mine

end
section
open PySem PySem.W PyProof.Rows
namespace Mine
set_option maxRecDepth 100000
open PySem.Builtin.Bytes

def posF (b : Array UInt8) : Nat → Nat → List Nat
  | 0, _ => []
  | k + 1, p => if b.getD p 0 == 10 then p :: posF b k (p + 1) else posF b k (p + 1)
def ostep (b sub : Array UInt8) (acc : List Nat × Nat) (i : Nat) : List Nat × Nat := if i ≥ acc.2 && b.extract i (i + sub.size) == sub then (i :: acc.1, i + sub.size) else acc
theorem occ_eq (b sub : Array UInt8) (start stop : Nat) : occurrences b sub start stop = (((List.range (stop + 1 - (start + sub.size))).map (· + start)).foldl (ostep b sub) ([], 0)).1.reverse := rfl
theorem extract_one (b : Array UInt8) (p : Nat) (h : p < b.size) : (b.extract p (p + 1) == #[10]) = (b.getD p 0 == 10) := by
  have e : b.extract p (p + 1) = #[b.getD p 0] := by
    apply Array.toList_inj.mp
    simp only [Array.toList_extract, List.extract_eq_take_drop]
    rw [List.drop_eq_getElem_cons (l := b.toList) (i := p) (by simpa using h), show p + 1 - p = 0 + 1 from by omega, List.take_succ_cons]
    simp [Array.getD, h]
  rw [e, Bool.eq_iff_iff]
  simp
theorem occ_fold (b : Array UInt8) : ∀ (k p e : Nat) (acc : List Nat), e ≤ p → p + k = b.size → (((List.range' p k).foldl (ostep b #[10]) (acc, e)).1) = (posF b k p).reverse ++ acc
  | 0, p, e, acc, _, _ => rfl
  | k + 1, p, e, acc, he, hk => by
    rw [List.range'_succ, List.foldl_cons]
    have h1 : ostep b #[10] (acc, e) p = if (b.getD p 0 == 10) = true then (p :: acc, p + 1) else (acc, e) := by
      unfold ostep
      have : (decide (p ≥ e)) = true := by simpa using he
      show (if (decide (p ≥ e) && (b.extract p (p + 1) == #[10])) = true then _ else _) = _
      rw [this, Bool.true_and, extract_one b p (by omega)]
      rfl
    rw [h1]
    unfold posF
    split
    · rw [occ_fold b k (p + 1) (p + 1) _ (Nat.le_refl _) (by omega)]
      simp
    · exact occ_fold b k (p + 1) e _ (by omega) (by omega)
theorem occ10 (b : Array UInt8) : occurrences b #[10] 0 b.size = posF b b.size 0 := by
  rw [occ_eq]
  have e : (List.range (b.size + 1 - (0 + (#[10] : Array UInt8).size))).map (· + 0) = List.range' 0 b.size := by
    show (List.range (b.size + 1 - (0 + 1))).map (· + 0) = _
    rw [show b.size + 1 - (0 + 1) = b.size from by omega, List.range_eq_range']
    simp
  rw [e, occ_fold b b.size 0 0 [] (Nat.le_refl _) (by omega)]
  simp

def prep (x : List UInt8) : List (List UInt8) → List (List UInt8)
  | [] => [x]
  | y :: ys => (x ++ y) :: ys
def bstep (b : Array UInt8) (st : Array (Array UInt8) × Nat) (p : Nat) : Array (Array UInt8) × Nat := (st.1.push (b.extract st.2 p), p + 1)
def bend (b : Array UInt8) (st : Array (Array UInt8) × Nat) : List (Array UInt8) := (st.1.push (b.extract st.2 b.size)).toList
theorem between_eq (b : Array UInt8) (places : List Nat) : between b 1 places = bend b (places.foldl (bstep b) (#[], 0)) := rfl
theorem cut10_ne (l : List UInt8) : ∃ p ps, cut10 l = p :: ps := by
  cases l with
  | nil => exact ⟨_, _, rfl⟩
  | cons c r =>
    unfold cut10
    split
    · exact ⟨_, _, rfl⟩
    · split
      · exact ⟨_, _, rfl⟩
      · exact ⟨_, _, rfl⟩
theorem between_fold (b : Array UInt8) : ∀ (k p last : Nat) (parts : Array (Array UInt8)), last ≤ p → p + k = b.size →
    bend b ((posF b k p).foldl (bstep b) (parts, last)) = parts.toList ++ (prep ((b.toList.drop last).take (p - last)) (cut10 (b.toList.drop p))).map List.toArray
  | 0, p, last, parts, hl, hk => by
    have hp : p = b.size := by omega
    subst hp
    rw [List.drop_eq_nil_of_le (i := b.size) (by simp)]
    show (parts.push (b.extract last b.size)).toList = parts.toList ++ [((b.toList.drop last).take (b.size - last) ++ []).toArray]
    rw [Array.toList_push, List.append_nil]
    congr 2
    apply Array.toList_inj.mp
    simp [List.extract_eq_take_drop]
  | k + 1, p, last, parts, hl, hk => by
    have hp : p < b.toList.length := by simp; omega
    have hd : b.toList.drop p = b.getD p 0 :: b.toList.drop (p + 1) := by
      rw [List.drop_eq_getElem_cons (l := b.toList) (i := p) hp]
      congr 1
      have : p < b.size := by omega
      simp [Array.getD, this]
    unfold posF
    rw [hd]
    by_cases h10 : (b.getD p 0 == 10) = true
    · rw [if_pos h10, List.foldl_cons]
      show bend b ((posF b k (p + 1)).foldl (bstep b) (parts.push (b.extract last p), p + 1)) = _
      rw [between_fold b k (p + 1) (p + 1) _ (Nat.le_refl _) (by omega), Nat.sub_self, List.take_zero, Array.toList_push]
      have e1 : cut10 (b.getD p 0 :: b.toList.drop (p + 1)) = [] :: cut10 (b.toList.drop (p + 1)) := by
        show (if (b.getD p 0 == 10) = true then _ else _) = _
        rw [if_pos h10]
      rw [e1]
      obtain ⟨q, qs, e2⟩ := cut10_ne (b.toList.drop (p + 1))
      rw [e2]
      simp only [prep, List.nil_append, List.append_nil, List.map_cons, List.append_assoc, List.singleton_append]
      congr 2
      apply Array.toList_inj.mp
      simp [List.extract_eq_take_drop]
    · rw [if_neg h10, between_fold b k (p + 1) last parts (by omega) (by omega)]
      obtain ⟨q, qs, e2⟩ := cut10_ne (b.toList.drop (p + 1))
      have e1 : cut10 (b.getD p 0 :: b.toList.drop (p + 1)) = (b.getD p 0 :: q) :: qs := by
        show (if (b.getD p 0 == 10) = true then _ else (match cut10 (b.toList.drop (p + 1)) with | [] => _ | p :: ps => _)) = _
        rw [if_neg h10, e2]
      rw [e1, e2]
      simp only [prep]
      have e3 : (b.toList.drop last).take (p + 1 - last) = (b.toList.drop last).take (p - last) ++ [b.getD p 0] := by
        rw [show p + 1 - last = (p - last) + 1 from by omega, List.take_add_one, List.getElem?_drop, show last + (p - last) = p from by omega, List.getElem?_eq_getElem hp]
        have : p < b.size := by omega
        simp [Array.getD, this]
      rw [e3]
      simp
theorem split10 (b : Array UInt8) : between b 1 (occurrences b #[10] 0 b.size) = (cut10 b.toList).map List.toArray := by
  rw [occ10, between_eq, between_fold b b.size 0 0 #[] (Nat.le_refl _) (by omega)]
  obtain ⟨q, qs, e2⟩ := cut10_ne b.toList
  simp [prep, e2]
theorem occ_mail_ne (k n : Nat) (r : List Nat) : (occurrences (mailOf k (n :: r)).toArray #[10] 0 (mailOf k (n :: r)).toArray.size).isEmpty = false := by
  cases h : occurrences (mailOf k (n :: r)).toArray #[10] 0 (mailOf k (n :: r)).toArray.size with
  | cons a l => rfl
  | nil =>
    have e := split10 (mailOf k (n :: r)).toArray
    rw [h] at e
    have e2 := congrArg List.length e
    rw [List.length_map] at e2
    have e3 : (cut10 (mailOf k (n :: r))).length = r.length + 2 := by rw [cut10_mail]; simp
    have e4 : (between (mailOf k (n :: r)).toArray 1 []).length = 1 := rfl
    rw [e4] at e2
    have e5 : (cut10 (mailOf k (n :: r)).toArray.toList).length = r.length + 2 := e3
    omega
end Mine

end
section
open PySem PySem.W PyProof.Rows
namespace Mine
set_option maxRecDepth 100000
open PySem.Builtin PySem.Builtin.Bytes

section
variable {M : Model} {A : Around} {E : Value → Shared → Prop}
theorem wpAny_news : ∀ (ps : List (Array UInt8)) (s : Shared) (Q : List Value → Shared → Prop), (∀ p ∈ ps, p.size ≤ 1048576) → (∀ vs k, Pcs vs ps → Q vs { s with toks := k }) → wpAny M A (ps.mapM (Kind.new .bytes)) Q E s
  | [], s, Q, _, h => by
    rw [List.mapM_nil]
    exact wpAny_pure (h [] s.toks .nil)
  | p :: r, s, Q, hs, h => by
    rw [List.mapM_cons]
    refine wpAny_bind ?_
    show wpAny M A (mkBytes p) _ E s
    refine wpAny_mkBytes ?_ (by rw [sizeLine_eq]; exact Nat.le_trans (hs p (List.mem_cons_self ..)) (by decide))
    refine wpAny_bind (wpAny_news r _ _ (fun q hq => hs q (List.mem_cons_of_mem _ hq)) fun vs k hv => ?_)
    exact wpAny_pure (h _ _ (.cons hv))

theorem posF_len (b : Array UInt8) : ∀ k p, (posF b k p).length ≤ k
  | 0, _ => Nat.le_refl _
  | k + 1, p => by
    unfold posF
    split
    · have := posF_len b k (p + 1); simp; omega
    · have := posF_len b k (p + 1); omega

theorem wpAny_split {b : Array UInt8} {t u : Tok} {s : Shared} {Q : PySem.Fin → Shared → Prop} (hne : (occurrences b #[10] 0 b.size).isEmpty = false) (hsz : b.size ≤ 1048576)
    (h : ∀ vs k h', Pcs vs ((cut10 b.toList).map List.toArray) → h' = s.heap.push { cls := .type "list", data := .seq vs.toArray } → Q (.done (.ret (.ref s.heap.objs.size))) { s with heap := h', toks := k })
    (hlen : (cut10 b.toList).length ≤ 1048576) (hpl : ∀ p ∈ cut10 b.toList, p.length ≤ 1048576) : wpAny M A (splitM .bytes "split" false ⟨[.bytes b t, .bytes #[10] u], []⟩) Q E s := by
  show wpAny M A (Bytes.bindOptional _ "split" ["sep", "maxsplit"] [.bytes #[10] u] [] >>= fun r => _) Q E s
  refine wpAny_bind (wpAny_of_eq (a := [some (.bytes #[10] u), none]) rfl ?_)
  dsimp only
  refine wpAny_bind (wpAny_pure ?_)
  refine wpAny_bind (wpAny_of_eq (a := b) rfl ?_)
  refine wpAny_bind ?_
  show wpAny M A (Bytes.buffer? _ (.bytes #[10] u) >>= fun r => _) _ E s
  refine wpAny_bind (wpAny_of_eq KBy.buffer_eq ?_)
  dsimp only
  refine wpAny_pure ?_
  refine if_no (by intro q; cases q) ?_
  have hle : (occurrences b #[10] 0 b.size).length ≤ b.size + 1 := by
    rw [occ10]
    exact Nat.le_succ_of_le (posF_len b b.size 0)
  have e : (if (false = true) then occurrencesFromRight b #[10] (if (-1 : Int) < 0 then b.size + 1 else (-1 : Int).toNat) else (occurrences b #[10] 0 b.size).take (if (-1 : Int) < 0 then b.size + 1 else (-1 : Int).toNat)) = occurrences b #[10] 0 b.size := by
    rw [if_neg Bool.false_ne_true, if_pos (by decide), List.take_of_length_le hle]
  rw [e]
  refine if_no (by rw [hne]; exact Bool.false_ne_true) ?_
  refine wpAny_bind ?_
  show wpAny M A ((between b 1 (occurrences b #[10] 0 b.size)).mapM (Kind.new .bytes)) _ E s
  rw [split10]
  refine wpAny_news _ _ _ (fun p hp => ?_) fun vs k hv => ?_
  · obtain ⟨l, hl, rfl⟩ := List.mem_map.mp hp
    rw [List.size_toArray]
    exact hpl l hl
  · refine wpAny_bind (wpAny_newObj_type (wpAny_pure (h vs k _ hv rfl)) ?_)
    show vs.toArray.size ≤ sizeLine
    rw [List.size_toArray, hv.len, List.length_map, sizeLine_eq]
    omega
end

section
variable {prog : Program} {w : World} {A : Around} {E : Value → Shared → Prop} {s : Shared} {h₀ : Heap} {L : Addr} {m : PySem.Str → Option Value} {news : List (Addr × Obj)}
theorem meth_split {M : Model} {b : Array UInt8} {t : Tok} {pl : Sem Bool} {Q : Value × List Value → Shared → Prop} (h : Q (.builtin "bytes.split", [.bytes b t]) s) : wpAny M A (getMethod (.bytes b t) (PySem.Str.ofString "split") pl) Q E s :=
  getMethod_builtin (typeIs_bytes _ _ _) FB.plainAttrs_bytes slot_bytes_split type_bytes_split (fun a e => by cases e) h
theorem split_K {b : Array UInt8} {t u : Tok} {Q : Value → Shared → Prop} (F : Fr h₀ L s.heap m) (N : News h₀ L s.heap news) {k : Nat} {n : Nat} {r : List Nat} (hb : b = (mailOf k (n :: r)).toArray) (hk : k ≤ 1000) (hr : r.length ≤ 10) (hn : ∀ x ∈ n :: r, x ≤ 1000)
    (h : ∀ h' l vs k', Fr h₀ L h' m → News h₀ L h' ((l, { cls := .type "list", data := .seq vs.toArray }) :: news) → Pcs vs (((n :: r).map (rowOf k) ++ [[]]).map List.toArray) → Q (.ref l) { s with heap := h', toks := k' }) :
    wpAny (model prog w) A (call (.builtin "bytes.split") [.bytes b t, .bytes #[10] u]) Q E s := by
  subst hb
  have hsz : (mailOf k (n :: r)).length ≤ 1048576 := by
    have := mail_len k (n :: r) hn
    have h2 : (n :: r).length * (1502 + k) ≤ 11 * 2502 := Nat.mul_le_mul (by simp; omega) (by omega)
    omega
  have h1 : (cut10 (mailOf k (n :: r))).length ≤ 1048576 := by rw [cut10_mail]; simp; omega
  have h2 : ∀ p ∈ cut10 (mailOf k (n :: r)), p.length ≤ 1048576 := by
    intro p hp
    rw [cut10_mail] at hp
    rcases List.mem_append.mp hp with hp | hp
    · obtain ⟨x, hx, rfl⟩ := List.mem_map.mp hp
      have := row_len k x
      have := hn x hx
      omega
    · rw [List.mem_singleton.mp hp]; simp
  have M1 : Meets (Builtin.«bytes.split» ⟨[.bytes (mailOf k (n :: r)).toArray t, .bytes #[10] u], []⟩) (fun _ R s => ∀ vs k' h', Pcs vs ((cut10 (mailOf k (n :: r))).map List.toArray) → h' = s.heap.push { cls := .type "list", data := .seq vs.toArray } → R (.ok (.ret (.ref s.heap.objs.size))) { s with heap := h', toks := k' }) :=
    .of_wp fun prog w A R s hS => wpAny_split (occ_mail_ne k n r) hsz (fun vs k' h' hv hh => ⟨_, rfl, hS vs k' h' hv hh⟩) h1 h2
  refine call_meets slot_bytes_split (typeIs_bytes _ _ _) entry_bytes_split (args_bytes_split_2 _ _) M1 fun vs k' h' hv hh => ?_
  subst hh
  rw [cut10_mail] at hv
  exact h _ _ vs k' (F.push _) (N.push F _) hv
end
end Mine

end
section
open PySem PySem.W PyProof.Rows
namespace Mine
set_option maxRecDepth 100000

theorem one_quote : Str.ofString "\"" = ⟨#[34]⟩ := by decide +kernel
theorem one_z : Str.ofString "z" = ⟨#[122]⟩ := by decide +kernel
theorem flat_one (c : Nat) : ∀ (n : Nat) (acc : Array Nat), (List.replicate n (#[c] : Array Nat)).foldl (· ++ ·) acc = acc ++ (List.replicate n c).toArray
  | 0, acc => by simp
  | n + 1, acc => by
    rw [List.replicate_succ, List.foldl_cons, flat_one c n]
    apply Array.toList_inj.mp
    simp [List.replicate_succ]
theorem txt_mul (n : Nat) : Txt.mul (Str.ofString "\"") (n : Int) = quotes n := by
  unfold Txt.mul
  rw [one_quote]
  by_cases h : (n : Int) < 1
  · have : n = 0 := by omega
    subst this
    rw [if_pos h]
    rfl
  · rw [if_neg h]
    by_cases h1 : ((n : Int) == 1 || (⟨#[34]⟩ : Str).length == 0) = true
    · rw [if_pos h1]
      have : n = 1 := by
        have e : ((⟨#[34]⟩ : Str).length == 0) = false := rfl
        rw [e, Bool.or_false] at h1
        have := eq_of_beq h1
        omega
      subst this
      rfl
    · rw [if_neg h1]
      apply Str.ext'
      show (List.replicate ((n : Int)).toNat #[34]).foldl (· ++ ·) #[] = (List.replicate n 34).toArray
      rw [Int.toNat_natCast, flat_one]
      simp
theorem reply_made (n : Nat) : Str.ofString "257 \"" ++ quotes n ++ Str.ofString "z" = reply n := by
  rw [one_z, show Str.ofString "257 \"" = ⟨#[50, 53, 55, 32, 34]⟩ from by decide +kernel]
  apply Str.ext'
  rw [Str.cps_append, Str.cps_append]
  apply Array.toList_inj.mp
  simp [quotes, reply]
theorem told_count (n : Nat) : (told n).cps.toList.count 34 = n / 2 := by
  unfold told
  show ((List.replicate (n / 2) 34 ++ (if n % 2 = 0 then [122] else [])).count 34) = _
  rw [List.count_append]
  split <;> simp
theorem told_has (n : Nat) : Txt.contains (told n) (Str.ofString "z") = decide (n % 2 = 0) := by
  rw [one_z]
  unfold Txt.contains
  rw [StrLaws.found_one]
  have e : (122 ∈ (told n).cps.toList) ↔ n % 2 = 0 := by
    show 122 ∈ (List.replicate (n / 2) 34 ++ (if n % 2 = 0 then [122] else [])) ↔ _
    rw [List.mem_append]
    constructor
    · rintro (h | h)
      · exact absurd (List.eq_of_mem_replicate h) (by decide)
      · by_cases hn : n % 2 = 0
        · exact hn
        · rw [if_neg hn] at h; cases h
    · intro hn
      rw [if_pos hn]
      exact .inr (List.mem_singleton.mpr rfl)
  exact decide_eq_decide.mpr e
section
variable {prog : Program} {w : World} {A : Around} {E : Value → Shared → Prop} {s : Shared}
theorem mul_quotes {n : Nat} {t u : Tok} {Q : Value → Shared → Prop} (hn : n ≤ 100000) (h : ∀ t' k, Q (.str (quotes n) t') { s with toks := k }) : wpAny (model prog w) A (binaryOp .Mult (.str (Str.ofString "\"") t) (.int (n : Int) u)) Q E s :=
  SB.mul (mulOk_of 1 100000 (by decide) (by omega) (by omega) (by decide) (by decide)) fun t' k => by rw [txt_mul]; exact h t' k

/-- the next statement may lean on the numbering being past 0 -/
theorem exec_cons_tok {M : Model} {env : Env} {st : Stmt} {rest : List Stmt} {Q : Flow → Shared → Prop} (hn : 1 ≤ s.toks)
    (h : wpAny M A (exec st env) (fun f s' => match f with | .next => ∀ tk, 1 ≤ tk → wpAny M A (execs rest env) Q E { s' with toks := tk } | f => Q f s') E s) : wpAny M A (execs (st :: rest) env) Q E s := by
  refine PySem.wpAny_execs_cons (wpAny_later 1 hn (wpAny_mono h (fun f s' h' => ?_) fun _ _ e => e))
  intro hle
  cases f with
  | next => exact h' s'.toks hle
  | brk => exact h'
  | cont => exact h'
  | ret v => exact h'
theorem add_strs {x y : Str} {t u : Tok} {Q : Value → Shared → Prop} (hsz : x.length + y.length ≤ 100000) (h : ∀ t' k, Q (.str (x ++ y) t') { s with toks := k }) : wpAny (model prog w) A (binaryOp .Add (.str x t) (.str y u)) Q E s :=
  PyProof.Rows.add_str h (by rw [sizeLine_eq]; omega)
theorem add_byts {x y : Array UInt8} {t u : Tok} {Q : Value → Shared → Prop} (hsz : x.size + y.size ≤ 100000) (h : ∀ t' k, Q (.bytes (x ++ y) t') { s with toks := k }) : wpAny (model prog w) A (binaryOp .Add (.bytes x t) (.bytes y u)) Q E s :=
  KBy.add_bytes (by omega) h
def dots (n : Nat) : Array UInt8 := (List.replicate n 46).toArray
theorem dots_size (n : Nat) : (dots n).size = n := by simp [dots]
theorem flat_dots : ∀ n : Nat, (List.replicate n [(46 : UInt8)]).flatten = List.replicate n 46
  | 0 => rfl
  | n + 1 => by rw [List.replicate_succ, List.flatten_cons, flat_dots n, List.replicate_succ]; rfl
theorem mul_dots {n : Nat} {i : Int} {t u : Tok} {Q : Value → Shared → Prop} (hi : i = (n : Int)) (hn : n ≤ 100000) (h : ∀ t' k, Q (.bytes (dots n) t') { s with toks := k }) : wpAny (model prog w) A (binaryOp .Mult (.bytes #[46] t) (.int i u)) Q E s := by
  subst hi
  refine PySem.W.bytes_mul_any (b := [46]) (by simp) (by omega) (by omega) (by decide) fun t' k => ?_
  have e : ((List.replicate ((n : Int)).toNat [46]).flatten).toArray = dots n := by
    unfold dots
    rw [Int.toNat_natCast]
    rw [flat_dots]
  rw [e]
  exact h t' k
end

def oddsOf (ns : List Nat) : List Bool := ns.map fun n => n % 2 != 0
def shownOf (ns : List Nat) : Str := word (oddsOf ns)
theorem shown_len (ns : List Nat) : (shownOf ns).length = ns.length := by simp [shownOf, oddsOf, word, Str.length]
theorem shown_snoc (ns : List Nat) (n : Nat) : shownOf (ns ++ [n]) = shownOf ns ++ (if n % 2 = 0 then Str.ofString "z" else Str.ofString "-") := by
  rw [one_z, show Str.ofString "-" = ⟨#[45]⟩ from by decide +kernel]
  apply Str.ext'
  by_cases h : n % 2 = 0
  · rw [if_pos h, Str.cps_append]
    apply Array.toList_inj.mp
    simp [shownOf, oddsOf, word, sgn, h]
  · rw [if_neg h, Str.cps_append]
    have h1 : n % 2 = 1 := by omega
    apply Array.toList_inj.mp
    simp [shownOf, oddsOf, word, sgn, h1]
theorem mail_snoc (k : Nat) (ns : List Nat) (n : Nat) : mailOf k (ns ++ [n]) = mailOf k ns ++ (rowOf k n ++ [10]) := by
  simp [mailOf]
end Mine

end
section
open PySem PySem.W PyProof.Rows
namespace Mine
set_option maxRecDepth 100000

theorem len_z : (Str.ofString "z").length = 1 := by decide +kernel
theorem len_d : (Str.ofString "-").length = 1 := by decide +kernel
theorem len_h : (Str.ofString "257 \"").length = 5 := by decide +kernel
theorem len_e : (Str.ofString "").length = 0 := by decide +kernel

theorem ctr_parse' (w : World) (mg mb : Str → Option Value) (mean : ExcName → Option Value) (news : List (Addr × Obj)) (n : Nat) (t : Tok) :
    CtrAll w mg mb mean 75 news (fun s => n ≤ 1000) [.str (Str.ofString "257 \"" ++ quotes n ++ Str.ofString "z") t] (RetV news (fun t => .str (told n) t)) :=
  ctr_parse w mg mb mean news n _ t (reply_made n)
theorem ctr_told (w : World) (mg mb : Str → Option Value) (mean : ExcName → Option Value) (news : List (Addr × Obj)) (n : Nat) (t u : Tok) :
    CtrAll w mg mb mean 131 news (fun s => n ≤ 1000 ∧ u ≠ 0 ∧ u < s.toks) [.str (told n) t, .str (Str.ofString "\"") u] (RetV news (fun t => .int ((n / 2 : Nat) : Int) t)) := by
  intro dp un gd cn cs a ccd cl outer A₀ base h₀ L m s Q E B F X N T hk hpre hroom hun hret
  refine ctr_cs w mg mb mean news (told n) t u dp un gd cn cs a ccd cl outer A₀ base h₀ L m s Q E B F X N T hk ⟨?_, hpre.2⟩ hroom hun ?_
  · have := told_len n; have := hpre.1; omega
  · intro t' h' tk' F' N'
    have := hret t' h' tk' F' N'
    rw [told_count]
    exact this
theorem ctr_row (w : World) (mg mb : Str → Option Value) (mean : ExcName → Option Value) (news : List (Addr × Obj)) (k n : Nat) (t u : Tok) :
    CtrAll w mg mb mean 131 news (fun s => (n ≤ 1000 ∧ k ≤ 1000) ∧ u ≠ 0 ∧ u < s.toks) [.bytes (rowOf k n).toArray t, .int 46 u] (RetV news (fun t => .int ((nextOf k n : Nat) : Int) t)) := by
  intro dp un gd cn cs a ccd cl outer A₀ base h₀ L m s Q E B F X N T hk hpre hroom hun hret
  refine ctr_cb w mg mb mean news (rowOf k n).toArray t u dp un gd cn cs a ccd cl outer A₀ base h₀ L m s Q E B F X N T hk ⟨?_, hpre.2⟩ hroom hun ?_
  · rw [List.size_toArray]; have := row_len k n; have := hpre.1; omega
  · intro t' h' tk' F' N'
    have := hret t' h' tk' F' N'
    show Q (.int (((rowOf k n).count 46 : Nat) : Int) t') _
    rw [row_count]
    exact this
theorem ctr_quote (w : World) (mg mb : Str → Option Value) (mean : ExcName → Option Value) (news : List (Addr × Obj)) (j : Nat) (ns : List Nat) (t : Tok) :
    CtrAll w mg mb mean 43 news (fun s => (mailOf j ns).length ≤ 1048576) [.bytes (mailOf j ns).toArray t] (RetV news (fun t => .bytes (mailOf (j + 1) ns).toArray t)) := by
  intro dp un gd cn cs a ccd cl outer A₀ base h₀ L m s Q E B F X N T hk hpre hroom hun hret
  refine ctr_qp w mg mb mean news _ t dp un gd cn cs a ccd cl outer A₀ base h₀ L m s Q E B F X N T hk (by rw [List.size_toArray]; exact hpre) hroom hun ?_
  intro t' h' tk' F' N'
  have := hret t' h' tk' F' N'
  rw [quoted_mail]
  exact this
section
variable {prog : Program} {w : World} {A : Around} {E : Value → Shared → Prop} {s : Shared}
theorem in_told_even {n : Nat} {t u : Tok} {Q : Value → Shared → Prop} (hn : n % 2 = 0) (h : Q (.bool true) s) : wpAny (model prog w) A (compareOp .In (.str (Str.ofString "z") u) (.str (told n) t)) Q E s := by
  refine PyProof.Rows.in_str ?_
  have e := told_has n
  unfold Txt.contains at e
  rw [e, decide_eq_true hn]
  exact h
theorem in_told_odd {n : Nat} {t u : Tok} {Q : Value → Shared → Prop} (hn : n % 2 = 1) (h : Q (.bool false) s) : wpAny (model prog w) A (compareOp .In (.str (Str.ofString "z") u) (.str (told n) t)) Q E s := by
  refine PyProof.Rows.in_str ?_
  have e := told_has n
  unfold Txt.contains at e
  rw [e, decide_eq_false (by omega)]
  exact h
theorem ne_told_even {n : Nat} {t u : Tok} {Q : Value → Shared → Prop} (hn : n % 2 = 0) (h : Q (.bool false) s) : wpAny (model prog w) A (compareOp .NotEq (.str (told n) t) (.str (quotes (n / 2) ++ Str.ofString "z") u)) Q E s := by
  refine ne_str ?_
  have e : told n = quotes (n / 2) ++ Str.ofString "z" := by rw [told_even]; congr 1; omega
  rw [← e, bne_self_eq_false]
  exact h
theorem ne_told_odd {n : Nat} {t u : Tok} {Q : Value → Shared → Prop} (hn : n % 2 = 1) (h : Q (.bool false) s) : wpAny (model prog w) A (compareOp .NotEq (.str (told n) t) (.str (quotes (n / 2) ++ Str.ofString "") u)) Q E s := by
  refine ne_str ?_
  have e : told n = quotes (n / 2) ++ Str.ofString "" := by
    have e1 : quotes (n / 2) ++ Str.ofString "" = quotes (n / 2) := by
      apply Str.ext'
      rw [Str.cps_append]
      exact Array.append_empty
    rw [e1, told_odd]; congr 1; omega
  rw [← e, bne_self_eq_false]
  exact h
theorem mul_dots1 {n : Nat} {t u : Tok} {Q : Value → Shared → Prop} (hn : n ≤ 100000) (h : ∀ t' k, Q (.bytes (dots n) t') { s with toks := k }) : wpAny (model prog w) A (binaryOp .Mult (.bytes #[46] t) (.int (n : Int) u)) Q E s := mul_dots rfl hn h
theorem mul_dots2 {n m : Nat} {t u : Tok} {Q : Value → Shared → Prop} (hn : n + m ≤ 100000) (h : ∀ t' k, Q (.bytes (dots (n + m)) t') { s with toks := k }) : wpAny (model prog w) A (binaryOp .Mult (.bytes #[46] t) (.int ((n : Int) + (m : Int)) u)) Q E s := mul_dots (by omega) hn h
end
theorem tok_pre {n tk : Nat} (hn : n ≤ 1000) (h : 1 ≤ tk) : n ≤ 1000 ∧ tk ≠ 0 ∧ tk < tk + 1 := ⟨hn, by omega, by omega⟩
theorem at_byts {a b : Array UInt8} {t : Tok} (h : a = b) : some (Value.bytes a t) = some (Value.bytes b t) := by rw [h]
theorem mail_even {k n : Nat} {ns : List Nat} (hn : n % 2 = 0) : (mailOf k ns).toArray ++ #[122] ++ dots (n / 2) ++ #[10] = (mailOf k (ns ++ [n])).toArray := by
  apply Array.toList_inj.mp
  rw [mail_snoc]
  simp [dots, rowOf, hn]
theorem mail_odd {n : Nat} {ns : List Nat} (hn : n % 2 = 1) : (mailOf 0 ns).toArray ++ dots (n / 2 + n) ++ #[10] = (mailOf 0 (ns ++ [n])).toArray := by
  apply Array.toList_inj.mp
  rw [mail_snoc]
  simp [dots, rowOf, hn]
theorem take_snoc {α : Type} {l : List α} {i : Nat} {x : α} (h : l[i]? = some x) : l.take (i + 1) = l.take i ++ [x] := by
  rw [List.take_add_one, h]
  rfl
end Mine

end
section
open PySem PySem.W PyProof.Rows PySem.Spec
namespace Mine
set_option maxRecDepth 100000

section
variable {prog : Program} {w : World} {A : Around} {E : Value → Shared → Prop} {s : Shared} {env : Env} {Q : Flow → Shared → Prop}
theorem For_at {x : Str} {px : Pos} {body : List Stmt} {h₀ : Heap} {m₀ : Str → Option Value} {news : List (Addr × Obj)} (lo : Nat) (J : Nat → (Str → Option Value) → Prop) {v : Value} {n : Nat} {P : Nat → Nat → Nat → Value → Prop}
    (F : Fr h₀ env.locals s.heap m₀) (N : News h₀ env.locals s.heap news) (hlo : lo ≤ s.toks) (hx : env.kindOf x = some .local) (hp : (env.scope.kind == .class || (env.scope.kind == .module && env.locals != env.globals)) = false)
    (hiter : ∀ R : Value → Shared → Prop, (∀ (o : Obj) (fp wr : List Addr) (St : Nat → Heap → Prop), (∀ b ∈ fp, b = s.heap.objs.size ∨ (h₀.get? b).isSome = true ∨ b ∈ news.map (·.1)) → (∀ b ∈ wr, b = s.heap.objs.size) → WalksT prog w A s.heap.objs.size fp wr n P St → St 0 (s.heap.push o) → R (.ref s.heap.objs.size) { s with heap := s.heap.push o }) → wpAny (model prog w) A (pyIter v) R E s)
    (h0 : J 0 m₀)
    (turn : ∀ i u a b m₁ h tk own, i < n → lo ≤ a → a ≤ b → b ≤ tk → P i a b u → J i m₁ → Fr h₀ env.locals h (fun y => if y = x then some u else m₁ y) → News h₀ env.locals h (news ++ own) →
      wpAny (model prog w) A (execs body env) (TurnT h₀ env.locals (J (i + 1)) (news ++ own) { s with heap := h, toks := tk } Q) E { s with heap := h, toks := tk })
    (done : ∀ m₁ h tk, lo ≤ tk → J n m₁ → Fr h₀ env.locals h m₁ → News h₀ env.locals h news → Q .next { s with heap := h, toks := tk }) :
    wpAny (model prog w) A (pyIter v) (fun it s₂ => ∃ (n : Nat) (Inv : Nat → Shared → Prop), Inv 0 s₂ ∧ (∀ v, letOwnedTupleGo (.Name x px) it v = pure ()) ∧
      (∀ i s₃, i < n → Inv i s₃ → wpAny (model prog w) A (pyNext it) (fun r s₄ => ∃ v, r = some v ∧ wpAny (model prog w) A (assign (.Name x px) env v) (fun _ s₅ => wpAny (model prog w) A (execs body env) (fun f s₆ => match f with
        | .ret v => Q (.ret v) s₆
        | .brk => Q .next s₆
        | _ => Inv (i + 1) s₆) E s₅) E s₄) E s₃) ∧
      (∀ s₃, Inv n s₃ → wpAny (model prog w) A (pyNext it) (fun r s₄ => r = none ∧ Q .next s₄) E s₃)) E s := by
  refine hiter _ fun o fp wr St hfp hwr W hst => ?_
  have hI0 : h₀.get? s.heap.objs.size = none := next_is_new F
  have hLI : env.locals ≠ s.heap.objs.size := Nat.ne_of_lt F.ns.lt
  have hnI : ∀ p ∈ news, p.1 ≠ s.heap.objs.size := fun p hp => Nat.ne_of_lt (Heap.lt_size (N p hp).1)
  have hLh : h₀.get? env.locals = none := Heap.get?_none_of_le F.above
  have hLf : env.locals ∉ fp := fun hb => by
    rcases hfp _ hb with e | e | e
    · exact hLI e
    · rw [hLh] at e; cases e
    · obtain ⟨p, hp, e⟩ := List.mem_map.mp e
      exact (N p hp).2.1 e
  refine ⟨n, fun i s' => ∃ h tk m, s' = { s with heap := h, toks := tk } ∧ lo ≤ tk ∧ St i h ∧ Fr h₀ env.locals h m ∧ News h₀ env.locals h news ∧ J i m, ⟨_, s.toks, m₀, rfl, hlo, hst, F.push _, fun p hp => ⟨Heap.get?_push_of_some _ (N p hp).1, (N p hp).2⟩, h0⟩, fun _ => rfl, ?_, ?_⟩
  · rintro i _ hi ⟨h, tk, m, rfl, hle, hst, F₁, N₁, hj⟩
    refine wpAny_later tk (Nat.le_refl _) (W.item i _ _ _ hi hst fun u h' tk' hle' hP hst' hk => fun _ => ⟨u, rfl, ?_⟩)
    have keepI : ∀ b o, b ≠ s.heap.objs.size → h.get? b = some o → h'.get? b = some o := fun b o hb e => hk b o (fun hw => hb (hwr b hw)) e
    have F₂ : Fr h₀ env.locals h' m := by
      obtain ⟨oL, a1, a2, hL, a3⟩ := F₁.ns
      exact ⟨⟨oL, a1, a2, keepI _ _ hLI hL, a3⟩, fun b ob e => keepI b ob (fun q => by rw [q, hI0] at e; cases e) (F₁.keep b ob e), F₁.above⟩
    have N₂ : News h₀ env.locals h' news := fun p hp => ⟨keepI _ _ (hnI p hp) (N₁ p hp).1, (N₁ p hp).2⟩
    refine wpAny_assign_Name (wpAny_storeName_local hx F₂.ns (fun h₂ hn₂ hs₂ => ?_) hp)
    have F₃ := F₂.set hn₂ hs₂
    have hst₂ : St (i + 1) h₂ := W.frame _ _ _ hst' fun b hb o e => (hs₂.2 b fun q => hLf (q ▸ hb)).trans e
    have NI : News h₀ env.locals h₂ (ownOf h₀ fp h₂) := news_ownOf hLf
    refine wpAny_later tk (by show tk ≤ tk' + 1; exact Nat.le_succ_of_le hle') (wpAny_mono (turn i u tk tk' m h₂ (tk' + 1) (ownOf h₀ fp h₂) hi hle hle' (Nat.le_succ _) hP hj F₃ ((N₂.set hs₂).append NI)) (fun f s₃ h₃ => ?_) fun _ _ e => e)
    have fin : TurnEndT h₀ env.locals (J (i + 1)) (news ++ ownOf h₀ fp h₂) { s with heap := h₂, toks := tk' + 1 } s₃ → tk ≤ s₃.toks → ∃ h tk m, s₃ = { s with heap := h, toks := tk } ∧ lo ≤ tk ∧ St (i + 1) h ∧ Fr h₀ env.locals h m ∧ News h₀ env.locals h news ∧ J (i + 1) m := by
      rintro ⟨h₄, tk₄, m₄, rfl, F₄, N₄, hj₄⟩ hle₄
      refine ⟨h₄, tk₄, m₄, rfl, Nat.le_trans hle hle₄, ?_, F₄, fun p hp => N₄ p (List.mem_append_left _ hp), hj₄⟩
      · refine W.frame _ _ _ hst₂ fun b hb o e => ?_
        cases hn : h₀.get? b with
        | some o₀ =>
          have : o₀ = o := by have := F₃.keep b o₀ hn; rw [e] at this; exact (Option.some.inj this).symm
          exact this ▸ F₄.keep b o₀ hn
        | none => exact (N₄ (b, o) (List.mem_append_right _ (mem_ownOf hb hn e))).1
    cases f with
    | ret v => exact fun _ => h₃
    | brk => exact fun _ => h₃
    | next => exact fun hle₄ => fin h₃ hle₄
    | cont => exact fun hle₄ => fin h₃ hle₄
  · rintro _ ⟨h, tk, m, rfl, hle, hst, F₁, N₁, hj⟩
    refine W.done _ _ _ hst fun h' tk' hle' hk => ⟨rfl, ?_⟩
    have keepI : ∀ b o, b ≠ s.heap.objs.size → h.get? b = some o → h'.get? b = some o := fun b o hb e => hk b o (fun hw => hb (hwr b hw)) e
    have F₂ : Fr h₀ env.locals h' m := by
      obtain ⟨oL, a1, a2, hL, a3⟩ := F₁.ns
      exact ⟨⟨oL, a1, a2, keepI _ _ hLI hL, a3⟩, fun b ob e => keepI b ob (fun q => by rw [q, hI0] at e; cases e) (F₁.keep b ob e), F₁.above⟩
    exact done m h' tk' (Nat.le_trans hle hle') hj F₂ fun p hp => ⟨keepI _ _ (hnI p hp) (N₁ p hp).1, (N₁ p hp).2⟩

/-- for over range(n) -/
theorem For_range {x : Str} {px pos : Pos} {iter : PySem.Expr} {body : List Stmt} {h₀ : Heap} {m₀ : Str → Option Value} {news : List (Addr × Obj)} (lo : Nat) (J : Nat → (Str → Option Value) → Prop) (n : Nat) (hn : n ≤ 1000) (hh : A.handled = none) (_F : Fr h₀ env.locals s.heap m₀) (_N : News h₀ env.locals s.heap news)
    (hlo : lo ≤ s.toks) (hx : env.kindOf x = some .local) (hp : (env.scope.kind == .class || (env.scope.kind == .module && env.locals != env.globals)) = false)
    (hs : ∀ x, foldedSetIterable iter env x = pure x) (hE : PassesOwn (model prog w) A env E)
    (hname : ∀ R : Value → Shared → Prop, (∀ r h1 tk1 t u v, IsRange h1 r 0 (n : Int) 1 t u v → Fr h₀ env.locals h1 m₀ → News h₀ env.locals h1 news → R (.ref r) { s with heap := h1, toks := tk1 }) → wpAny (model prog w) A (eval iter env) R E s)
    (h0 : J 0 m₀)
    (turn : ∀ i u m₁ h tk own, i < n → lo ≤ tk → J i m₁ → Fr h₀ env.locals h (fun y => if y = x then some (.int (i : Int) u) else m₁ y) → News h₀ env.locals h (news ++ own) →
      wpAny (model prog w) A (execs body env) (TurnT h₀ env.locals (J (i + 1)) (news ++ own) { s with heap := h, toks := tk } Q) E { s with heap := h, toks := tk })
    (done : ∀ m₁ h tk, lo ≤ tk → J n m₁ → Fr h₀ env.locals h m₁ → News h₀ env.locals h news → Q .next { s with heap := h, toks := tk }) :
    wpAny (model prog w) A (exec (.For (.Name x px) iter body [] pos) env) Q E s := by
  refine For_gen hs hE (wpAny_mono (wpAny_later lo hlo (hname _ fun r h1 tk1 t u v hr F1 N1 hl1 => ?_)) (fun _ _ e => e) fun _ _ e => e)
  refine For_at (s := { s with heap := h1, toks := tk1 }) lo J F1 N1 hl1 hx hp (n := n) (P := fun i _ _ v => ∃ t, v = .int (0 + (i : Int) * 1) t) (fun R hR => wpAny_pyIter_range hr (small_one (by decide) (by decide) (by omega) (by omega)) ?_) h0 ?_ done
  · refine hR _ _ _ _ (fun b hb => .inl (List.mem_singleton.mp hb)) (fun b hb => List.mem_singleton.mp hb) (WalksT.of (Walks.range hh h1.objs.size 0 1 n)) ?_
    have hsz : Builtin.Range.rangeSize 0 (n : Int) 1 = (n : Int) := by rw [rangeSize_one]; split <;> omega
    have e1 : ((0 : Int) + ((0 : Nat) : Int) * 1) = 0 := by simp
    have e2 : ((n : Int) - ((0 : Nat) : Int)) = Builtin.Range.rangeSize 0 (n : Int) 1 := by rw [hsz]; simp
    show IsRangeIter _ _ (0 + ((0 : Nat) : Int) * 1) ((n : Int) - ((0 : Nat) : Int)) 1
    rw [e1, e2]
    exact Heap.get?_push_size _ rfl
  · rintro i _ a b m₁ h tk own hi h1 h2 h3 ⟨t, rfl⟩ hj F2 N2
    rw [show (0 + (i : Int) * 1) = (i : Int) by omega] at F2
    exact turn i t m₁ h tk own hi (by omega) hj F2 N2
end
end Mine

end
section
open PySem PySem.W PyProof.Rows PySem.Spec
namespace Mine
set_option maxRecDepth 100000

def CompTurn (h₀ : Heap) (L : Addr) (m : Str → Option Value) (need : List (Addr × Obj)) (G : List Value → Prop) (vs : List Value) (s₁ : Shared) (y : Value) (s₂ : Shared) : Prop :=
  ∃ h' tk, s₂ = { s₁ with heap := h', toks := tk } ∧ Fr h₀ L h' m ∧ News h₀ L h' need ∧ G (vs ++ [y])
theorem CompTurn.intro {h₀ : Heap} {L : Addr} {m : Str → Option Value} {need : List (Addr × Obj)} {G : List Value → Prop} {vs : List Value} {s₁ : Shared} {y : Value} {h' : Heap} {tk : Nat} (F : Fr h₀ L h' m) (N : News h₀ L h' need) (g : G (vs ++ [y])) : CompTurn h₀ L m need G vs s₁ y { s₁ with heap := h', toks := tk } := ⟨h', tk, rfl, F, N, g⟩

def mapSet (set : Option Str) (v : Value) (m : Str → Option Value) : Str → Option Value := match set with | none => m | some y => fun z => if z = y then some v else m z
/-- what is asked at the value that a comprehension goes over -/
def CompAt (prog : Program) (w : World) (A : Around) (E : Value → Shared → Prop) (env : Env) (scope : Scope) (cl : List (Str × Addr)) (x : Str) (elt : PySem.Expr) (h₀ : Heap) (lo : Nat) (set : Option Str) (Q : Value → Shared → Prop) (v : Value) (s : Shared) : Prop :=
  ∃ (n : Nat) (P : Nat → Nat → Nat → Value → Prop) (m : Str → Option Value) (news : List (Addr × Obj)) (G : Nat → List Value → Prop),
    Fr h₀ env.locals s.heap m ∧ News h₀ env.locals s.heap news ∧ lo ≤ s.toks ∧ n ≤ 1000 ∧
    (∀ R : Value → Shared → Prop, (∀ (o : Obj) (fp wr : List Addr) (St : Nat → Heap → Prop), (∀ b ∈ fp, b = s.heap.objs.size ∨ (h₀.get? b).isSome = true ∨ b ∈ news.map (·.1)) → (∀ b ∈ wr, b = s.heap.objs.size) → WalksT prog w A s.heap.objs.size fp wr n P St → St 0 (s.heap.push o) → (∀ I h, (∃ i, St i h) → I = s.heap.objs.size → ∀ tk, ∀ Q' E', Q' (.ref I) { s with heap := h, toks := tk } → wpAny (model prog w) A (pyIter (.ref I)) Q' E' { s with heap := h, toks := tk }) → R (.ref s.heap.objs.size) { s with heap := s.heap.push o }) → wpAny (model prog w) A (pyIter v) R E s) ∧
    G 0 [] ∧
    (∀ C i u a b vs mc h tk own E', i < n → lo ≤ a → a ≤ b → b ≤ tk → P i a b u → G i vs → Fr h₀ env.locals h m → News h₀ env.locals h (news ++ own) → h.Ns C mc → mc x = some u → (∀ h', News h₀ env.locals h' (news ++ own) → h'.Ns C mc) →
      wpAny (model prog w) A (eval elt (compEnvC scope cl C env)) (CompTurn h₀ env.locals m (news ++ own) (G (i + 1)) vs { s with heap := h, toks := tk }) E' { s with heap := h, toks := tk }) ∧
    (∀ D h tk vs e, lo ≤ tk → G n vs → Fr h₀ env.locals h (mapSet set (.ref D) m) → News h₀ env.locals h ((D, { cls := .type "list", data := .seq vs.toArray e }) :: news) → Q (.ref D) { s with heap := h, toks := tk })

theorem CompAt.intro {prog : Program} {w : World} {A : Around} {E : Value → Shared → Prop} {env : Env} {scope : Scope} {cl : List (Str × Addr)} {x : Str} {elt : PySem.Expr} {h₀ : Heap} {lo : Nat} {set : Option Str} {Q : Value → Shared → Prop} {v : Value} {s : Shared}
    (n : Nat) (P : Nat → Nat → Nat → Value → Prop) {m : Str → Option Value} {news : List (Addr × Obj)} (G : Nat → List Value → Prop)
    (F : Fr h₀ env.locals s.heap m) (N : News h₀ env.locals s.heap news) (hlo : lo ≤ s.toks) (hn : n ≤ 1000)
    (hiter : ∀ R : Value → Shared → Prop, (∀ (o : Obj) (fp wr : List Addr) (St : Nat → Heap → Prop), (∀ b ∈ fp, b = s.heap.objs.size ∨ (h₀.get? b).isSome = true ∨ b ∈ news.map (·.1)) → (∀ b ∈ wr, b = s.heap.objs.size) → WalksT prog w A s.heap.objs.size fp wr n P St → St 0 (s.heap.push o) → (∀ I h, (∃ i, St i h) → I = s.heap.objs.size → ∀ tk, ∀ Q' E', Q' (.ref I) { s with heap := h, toks := tk } → wpAny (model prog w) A (pyIter (.ref I)) Q' E' { s with heap := h, toks := tk }) → R (.ref s.heap.objs.size) { s with heap := s.heap.push o }) → wpAny (model prog w) A (pyIter v) R E s)
    (g0 : G 0 [])
    (turn : ∀ C i u a b vs mc h tk own E', i < n → lo ≤ a → a ≤ b → b ≤ tk → P i a b u → G i vs → Fr h₀ env.locals h m → News h₀ env.locals h (news ++ own) → h.Ns C mc → mc x = some u → (∀ h', News h₀ env.locals h' (news ++ own) → h'.Ns C mc) →
      wpAny (model prog w) A (eval elt (compEnvC scope cl C env)) (CompTurn h₀ env.locals m (news ++ own) (G (i + 1)) vs { s with heap := h, toks := tk }) E' { s with heap := h, toks := tk })
    (done : ∀ D h tk vs e, lo ≤ tk → G n vs → Fr h₀ env.locals h (mapSet set (.ref D) m) → News h₀ env.locals h ((D, { cls := .type "list", data := .seq vs.toArray e }) :: news) → Q (.ref D) { s with heap := h, toks := tk }) :
    CompAt prog w A E env scope cl x elt h₀ lo set Q v s := ⟨n, P, m, news, G, F, N, hlo, hn, hiter, g0, turn, done⟩

section
variable {prog : Program} {w : World} {A : Around} {E : Value → Shared → Prop} {s : Shared} {env : Env} {Q : Value → Shared → Prop}
theorem comp_loop {h₀ : Heap} {scope : Scope} {cl : List (Str × Addr)} {x : Str} {px : Pos} {elt iter : PySem.Expr} {pos : Pos} {lo n : Nat} {P : Nat → Nat → Nat → Value → Prop} {m : Str → Option Value} {news : List (Addr × Obj)} {G : Nat → List Value → Prop} {I D C : Addr} {fp wr : List Addr} {St : Nat → Heap → Prop} {R : Result → Shared → Prop} {mc : Str → Option Value}
    (W : WalksT prog w A I fp wr n P St) (hkind : scope.kind = .function) (hx : scope.names.lookup x = some .local) (hn : n ≤ 1000) (hlo : lo ≤ s.toks) (hst : St 0 s.heap)
    (F : Fr h₀ env.locals s.heap m) (N : News h₀ env.locals s.heap news) (hC : s.heap.Ns C mc) (hD : s.heap.PlainList D #[])
    (hfp : ∀ b ∈ fp, b = I ∨ (h₀.get? b).isSome = true ∨ b ∈ news.map (·.1)) (hwr : ∀ b ∈ wr, b = I) (hI0 : h₀.get? I = none) (hC0 : h₀.get? C = none) (hD0 : h₀.get? D = none)
    (hLI : env.locals ≠ I) (hLC : env.locals ≠ C) (hLD : env.locals ≠ D) (hDC : D ≠ C) (hDI : D ≠ I) (hCI : C ≠ I) (hnI : ∀ p ∈ news, p.1 ≠ I) (hnC : ∀ p ∈ news, p.1 ≠ C) (hnD : ∀ p ∈ news, p.1 ≠ D)
    (g0 : G 0 [])
    (turn : ∀ C i u a b vs mc h tk own E', i < n → lo ≤ a → a ≤ b → b ≤ tk → P i a b u → G i vs → Fr h₀ env.locals h m → News h₀ env.locals h (news ++ own) → h.Ns C mc → mc x = some u → (∀ h', News h₀ env.locals h' (news ++ own) → h'.Ns C mc) →
      wpAny (model prog w) A (eval elt (compEnvC scope cl C env)) (CompTurn h₀ env.locals m (news ++ own) (G (i + 1)) vs { s with heap := h, toks := tk }) E' { s with heap := h, toks := tk })
    (done : ∀ h tk vs e mc, lo ≤ tk → G n vs → Fr h₀ env.locals h m → News h₀ env.locals h ((D, { cls := .type "list", data := .seq vs.toArray e }) :: news) → h.Ns C mc → R (.ok .next) { s with heap := h, toks := tk }) :
    codeAny (model prog w) A (.compLoop (.ListComp elt [⟨.Name x px, iter, [], 0⟩] scope pos) 0 (.ref I) (.ref D) (compEnvC scope cl C env)) R s := by
  have hLh : h₀.get? env.locals = none := Heap.get?_none_of_le F.above
  have notFp : ∀ b, b ≠ I → h₀.get? b = none → (∀ p ∈ news, p.1 ≠ b) → b ∉ fp := fun b h1 h2 h3 hb => by
    rcases hfp _ hb with e | e | e
    · exact h1 e
    · rw [h2] at e; cases e
    · obtain ⟨p, hp, e⟩ := List.mem_map.mp e
      exact h3 p hp e
  have hLf : env.locals ∉ fp := notFp _ hLI hLh fun p hp => (N p hp).2.1
  have hCf : C ∉ fp := notFp _ hCI hC0 hnC
  have hDf : D ∉ fp := notFp _ hDI hD0 hnD
  refine codeAny_compLoop_list (fun k s' => ∃ i h tk mc vs, k = n - i ∧ i ≤ n ∧ s' = { s with heap := h, toks := tk } ∧ lo ≤ tk ∧ St i h ∧ Fr h₀ env.locals h m ∧ News h₀ env.locals h news ∧ h.PlainList D vs.toArray ∧ h.Ns C mc ∧ vs.length = i ∧ G i vs) ?_ n ⟨0, s.heap, s.toks, mc, [], rfl, Nat.zero_le _, rfl, hlo, hst, F, N, hD, hC, rfl, g0⟩
  rintro k _ ⟨i, h, tk, mc, vs, rfl, hi, rfl, hle, hst, F₁, N₁, hD₁, hC₁, hl, hg⟩
  by_cases hlt : i < n
  · refine wpAny_later tk (Nat.le_refl _) (W.item i _ _ _ hlt hst fun u h' tk' hle' hP hst' hk => fun _ => ?_)
    have keepI : ∀ b o, b ≠ I → h.get? b = some o → h'.get? b = some o := fun b o hb e => hk b o (fun hw => hb (hwr b hw)) e
    have F₂ : Fr h₀ env.locals h' m := by
      obtain ⟨oL, a1, a2, hL, a3⟩ := F₁.ns
      exact ⟨⟨oL, a1, a2, keepI _ _ hLI hL, a3⟩, fun b ob e => keepI b ob (fun q => by rw [q, hI0] at e; cases e) (F₁.keep b ob e), F₁.above⟩
    have N₂ : News h₀ env.locals h' news := fun p hp => ⟨keepI _ _ (hnI p hp) (N₁ p hp).1, (N₁ p hp).2⟩
    have hC₂ : h'.Ns C mc := hC₁.at' fun o e => keepI _ _ hCI e
    have hD₂ : h'.PlainList D vs.toArray := hD₁.at fun o e => keepI _ _ hDI e
    refine wpAny_assign_Name (wpAny_storeName_local (lookup_relabel_local hx) hC₂ (fun h₂ hn₂ hs₂ => ?_) (by simp [compEnvC, relabel, hkind]))
    have hs₂ : Heap.SameBut C h' h₂ := hs₂
    have F₃ : Fr h₀ env.locals h₂ m := ⟨F₂.ns.sameBut hs₂ hLC, fun b o e => hs₂.extBut b o (fun q => by rw [q, hC0] at e; cases e) (F₂.keep b o e), F₂.above⟩
    have N₃ : News h₀ env.locals h₂ news := fun p hp => ⟨hs₂.extBut _ _ (hnC p hp) (N₂ p hp).1, (N₂ p hp).2⟩
    have hst₂ : St (i + 1) h₂ := W.frame _ _ _ hst' fun b hb o e => hs₂.extBut b o (fun q => hCf (q ▸ hb)) e
    obtain ⟨eD, hD₃⟩ : h₂.PlainList D vs.toArray := hD₂.at fun o e => hs₂.extBut D o hDC e
    obtain ⟨oC, es, ep, hC₃, hC₄⟩ := hn₂
    have NI : News h₀ env.locals h₂ (ownOf h₀ fp h₂) := news_ownOf hLf
    have NC : News h₀ env.locals h₂ [(C, oC), (D, { cls := .type "list", data := .seq vs.toArray eD })] := by
      intro p hp
      rcases List.mem_cons.mp hp with rfl | hp
      · exact ⟨hC₃, Ne.symm hLC, hC0⟩
      · rcases List.mem_cons.mp hp with rfl | hp
        · exact ⟨hD₃, Ne.symm hLD, hD0⟩
        · cases hp
    have nsC : ∀ h', News h₀ env.locals h' (news ++ (ownOf h₀ fp h₂ ++ [(C, oC), (D, { cls := .type "list", data := .seq vs.toArray eD })])) → h'.Ns C (fun y => if y = x then some u else mc y) := fun h' N' =>
      ⟨oC, es, ep, (N' (C, oC) (List.mem_append_right _ (List.mem_append_right _ (.head _)))).1, hC₄⟩
    refine wpAny_later tk (by show tk ≤ tk' + 1; exact Nat.le_succ_of_le hle') (wpAny_mono (turn C i u tk tk' vs _ h₂ (tk' + 1) _ _ hlt hle hle' (Nat.le_succ _) hP hg F₃ (N₃.append (NI.append NC)) ⟨oC, es, ep, hC₃, hC₄⟩ (by simp) nsC) (fun y s₃ h₃ hle₄ => ?_) fun _ _ e => e)
    obtain ⟨h₄, tk₄, rfl, F₄, N₄, hg₄⟩ := h₃
    have hD₄ : h₄.PlainList D vs.toArray := ⟨eD, (N₄ (D, { cls := .type "list", data := .seq vs.toArray eD }) (List.mem_append_right _ (List.mem_append_right _ (.tail _ (.head _))))).1⟩
    refine wpAny_list_append_plain (hsz := by rw [List.size_toArray, hl, sizeLine_eq]; omega) hD₄ fun h₅ hD₅ hs₅ => ?_
    have F₅ : Fr h₀ env.locals h₅ m := ⟨F₄.ns.sameBut hs₅ hLD, fun b o e => hs₅.extBut b o (fun q => by rw [q, hD0] at e; cases e) (F₄.keep b o e), F₄.above⟩
    refine ⟨n - (i + 1), by omega, i + 1, h₅, tk₄, _, vs ++ [y], rfl, hlt, rfl, Nat.le_trans hle hle₄, ?_, F₅, fun p hp => ⟨hs₅.extBut _ _ (hnD p hp) (N₄ p (List.mem_append_left _ hp)).1, (N₄ p (List.mem_append_left _ hp)).2⟩, by simpa using hD₅, (nsC h₄ N₄).sameBut hs₅ (Ne.symm hDC), by simp [hl], hg₄⟩
    refine W.frame _ _ _ hst₂ fun b hb o e => hs₅.extBut b o (fun q => hDf (q ▸ hb)) ?_
    cases hn : h₀.get? b with
    | some o₀ =>
      have : o₀ = o := by have := F₃.keep b o₀ hn; rw [e] at this; exact (Option.some.inj this).symm
      exact this ▸ F₄.keep b o₀ hn
    | none => exact (N₄ (b, o) (List.mem_append_right _ (List.mem_append_left _ (mem_ownOf hb hn e)))).1
  · have : i = n := by omega
    subst this
    refine W.done _ _ _ hst fun h' tk' hle' hk => ?_
    have keepI : ∀ b o, b ≠ I → h.get? b = some o → h'.get? b = some o := fun b o hb e => hk b o (fun hw => hb (hwr b hw)) e
    have F₂ : Fr h₀ env.locals h' m := by
      obtain ⟨oL, a1, a2, hL, a3⟩ := F₁.ns
      exact ⟨⟨oL, a1, a2, keepI _ _ hLI hL, a3⟩, fun b ob e => keepI b ob (fun q => by rw [q, hI0] at e; cases e) (F₁.keep b ob e), F₁.above⟩
    obtain ⟨e, hD₂⟩ : h'.PlainList D vs.toArray := hD₁.at fun o e => keepI _ _ hDI e
    refine done h' tk' vs e mc (Nat.le_trans hle hle') hg F₂ (fun p hp => ?_) (hC₁.at' fun o e => keepI _ _ hCI e)
    rcases List.mem_cons.mp hp with rfl | hp
    · exact ⟨hD₂, Ne.symm hLD, hD0⟩
    · exact ⟨keepI _ _ (hnI p hp) (N₁ p hp).1, (N₁ p hp).2⟩

theorem comp_core {h₀ : Heap} {scope : Scope} {cl : List (Str × Addr)} {x : Str} {px : Pos} {elt iter : PySem.Expr} {pos : Pos} {lo : Nat} {set : Option Str} {v : Value} {RR : Value → Addr → Result → Shared → Prop}
    (hcell : ∀ y ∈ scope.names, y.2 ≠ .cell) (hkind : scope.kind = .function) (hx : scope.names.lookup x = some .local)
    (h : CompAt prog w A E env scope cl x elt h₀ lo set Q v s)
    (hRR : ∀ D C m mc h tk o, Fr h₀ env.locals h m → News h₀ env.locals h [(D, o)] → h.Ns C mc → env.locals ≠ C → D ≠ C → h₀.get? C = none →
      (∀ h' tk', tk ≤ tk' → (∃ h₁, Heap.SameBut env.locals h h₁ ∧ h₁.Ns env.locals (mapSet set (.ref D) m) ∧ Heap.SameBut C h₁ h') ∨ (set = none ∧ Heap.SameBut C h h') → Q (.ref D) { s with heap := h', toks := tk' }) → RR (.ref D) C (.ok .next) { s with heap := h, toks := tk }) :
    wpAny (model prog w) A (pyIter v) (fun it s₂ => wpAny (model prog w) A (newList []) (fun acc s₃ => wpAny (model prog w) A (newFunctionEnv scope env.globals cl [] env.qual none .none (some env)) (fun cenv s₄ =>
      codeAny (model prog w) A (.compStart (.ListComp elt [⟨.Name x px, iter, [], 0⟩] scope pos) 0 it acc { cenv with scope := relabel scope env }) (RR acc cenv.locals) s₄) E s₃) E s₂) E s := by
  obtain ⟨n, P, m, news, G, F, N, hlo, hn, hiter, g0, turn, done⟩ := h
  refine hiter _ fun o fp wr St hfp hwr W hst hself => ?_
  refine wpAny_newObj_type (wpAny_newFunctionEnv hcell (by intro y hy; simp at hy) (fun h₁ hns₁ hsb₁ => ?_) hkind)
  dsimp only at hns₁ hsb₁ ⊢
  have F1 : Fr h₀ env.locals (s.heap.push o) m := F.push o
  have N1 : News h₀ env.locals (s.heap.push o) news := N.pushKeep o
  have hLI : env.locals < s.heap.objs.size := F.ns.lt
  have hnI : ∀ p ∈ news, p.1 < s.heap.objs.size := fun p hp => Heap.lt_size (N p hp).1
  have hI0 : h₀.get? s.heap.objs.size = none := next_is_new F
  have hD0 : h₀.get? (s.heap.push o).objs.size = none := next_is_new F1
  have hID : s.heap.objs.size < (s.heap.push o).objs.size := by rw [Heap.size_push]; exact Nat.lt_succ_self _
  generalize s.heap.push o = H1 at *
  generalize s.heap.objs.size = I at *
  have N2 := N1.push F1 { cls := .type "list", dict := none, data := .seq ([] : List Value).toArray }
  have F2 := F1.push { cls := .type "list", dict := none, data := .seq ([] : List Value).toArray }
  have hC0 := next_is_new F2
  have hDC : H1.objs.size < (H1.push { cls := .type "list", dict := none, data := .seq ([] : List Value).toArray }).objs.size := by rw [Heap.size_push]; exact Nat.lt_succ_self _
  have hk12 : ∀ b ob, H1.get? b = some ob → (H1.push { cls := .type "list", dict := none, data := .seq ([] : List Value).toArray }).get? b = some ob := fun b ob e => Heap.get?_push_of_some _ e
  generalize H1.push { cls := .type "list", dict := none, data := .seq ([] : List Value).toArray } = H2 at *
  have old : ∀ b o, H1.get? b = some o → h₁.get? b = some o := fun b ob e => hsb₁.extBut b ob (Nat.ne_of_lt (Nat.lt_trans (Heap.lt_size e) hDC)) (Heap.get?_push_of_some _ (hk12 b ob e))
  have F3 : Fr h₀ env.locals h₁ m := F1.keeps old
  have N3 : News h₀ env.locals h₁ news := N1.grown old
  have hD3 : h₁.PlainList H1.objs.size #[] := ⟨_, hsb₁.extBut _ _ (Nat.ne_of_lt hDC) (Heap.get?_push_of_some _ (N2 _ (.head _)).1)⟩
  have hst₁ : St 0 h₁ := W.frame _ _ _ hst fun b _ o e => old b o e
  generalize hD : H1.objs.size = D at *
  generalize hC : H2.objs.size = C at *
  have loop : codeAny (model prog w) A (.compLoop (.ListComp elt [⟨.Name x px, iter, [], 0⟩] scope pos) 0 (.ref I) (.ref D) (compEnvC scope cl C env)) (RR (.ref D) C) { s with heap := h₁ } := by
    refine comp_loop (s := { s with heap := h₁ }) (G := G) W hkind hx hn hlo hst₁ F3 N3 hns₁ hD3 hfp hwr hI0 hC0 hD0 (Nat.ne_of_lt hLI) (Nat.ne_of_lt (Nat.lt_trans hLI (Nat.lt_trans hID hDC))) (Nat.ne_of_lt (Nat.lt_trans hLI hID)) (Nat.ne_of_lt hDC) (Ne.symm (Nat.ne_of_lt hID)) (Ne.symm (Nat.ne_of_lt (Nat.lt_trans hID hDC))) (fun p hp => Nat.ne_of_lt (hnI p hp)) (fun p hp => Nat.ne_of_lt (Nat.lt_trans (hnI p hp) (Nat.lt_trans hID hDC))) (fun p hp => Nat.ne_of_lt (Nat.lt_trans (hnI p hp) hID)) g0 turn ?_
    intro h tk vs e mc hle hg F4 N4 hC4
    refine hRR _ _ m mc h tk _ F4 (fun p hp => N4 p (by rcases List.mem_cons.mp hp with rfl | hp; exact .head _; cases hp)) hC4 (Nat.ne_of_lt (Nat.lt_trans hLI (Nat.lt_trans hID hDC))) (Nat.ne_of_lt hDC) hC0 fun h' tk' hlt hh => ?_
    have hnC : ∀ p ∈ (D, ({ cls := .type "list", data := .seq vs.toArray e } : Obj)) :: news, p.1 ≠ C := fun p hp => by
      rcases List.mem_cons.mp hp with rfl | hp
      · exact Nat.ne_of_lt hDC
      · exact Nat.ne_of_lt (Nat.lt_trans (hnI p hp) (Nat.lt_trans hID hDC))
    rcases hh with ⟨h₂, hs2, hn2, hs3⟩ | ⟨rfl, hs3⟩
    · have F5 : Fr h₀ env.locals h₂ _ := F4.set hn2 hs2
      have N5 := N4.set hs2
      refine done D h' tk' vs e (Nat.le_trans hle hlt) hg ⟨F5.ns.sameBut hs3 (Nat.ne_of_lt (Nat.lt_trans hLI (Nat.lt_trans hID hDC))), fun b o e => hs3.extBut b o (fun q => by rw [q, hC0] at e; cases e) (F5.keep b o e), F5.above⟩ fun p hp => ⟨hs3.extBut _ _ (hnC p hp) (N5 p hp).1, (N5 p hp).2⟩
    · refine done D h' tk' vs e (Nat.le_trans hle hlt) hg ⟨F4.ns.sameBut hs3 (Nat.ne_of_lt (Nat.lt_trans hLI (Nat.lt_trans hID hDC))), fun b o e => hs3.extBut b o (fun q => by rw [q, hC0] at e; cases e) (F4.keep b o e), F4.above⟩ fun p hp => ⟨hs3.extBut _ _ (hnC p hp) (N4 p hp).1, (N4 p hp).2⟩
  exact codeAny_compStart_list loop (hself I _ ⟨0, hst₁⟩ rfl _ _ _ loop)

theorem Comp_walk {h₀ : Heap} {scope : Scope} {cl : List (Str × Addr)} {x : Str} {px : Pos} {elt iter : PySem.Expr} {pos : Pos} (lo : Nat)
    (hclos : closureFor scope env = pure cl) (hcell : ∀ y ∈ scope.names, y.2 ≠ .cell) (hkind : scope.kind = .function)
    (hnames : ∀ y ∈ scope.names, y.2 = .local → scope.names.lookup y.1 = some .local) (hx : scope.names.lookup x = some .local) (hs : ∀ x, foldedSetIterable iter env x = pure x)
    (h : wpAny (model prog w) A (eval iter env) (CompAt prog w A E env scope cl x elt h₀ lo none Q) E s) :
    wpAny (model prog w) A (eval (.ListComp elt [⟨.Name x px, iter, [], 0⟩] scope pos) env) Q E s := by
  rw [eval_ListComp]
  refine wpAny_comprehension_free (use := none) rfl hs hclos hkind hnames (wpAny_mono h (fun v s₁ h₁ => comp_core (RR := fun acc C => compPost (model prog w) A E none Q acc C) hcell hkind hx h₁ ?_) fun _ _ e => e)
  intro D C m mc h tk o F N hC hLC hDC hC0 hfin
  exact ⟨mc, hC, fun h' hs => hfin h' tk (Nat.le_refl _) (.inr ⟨rfl, hs⟩)⟩
theorem Assign_Comp_walk {h₀ : Heap} {scope : Scope} {cl : List (Str × Addr)} {x y : Str} {px py : Pos} {elt iter : PySem.Expr} {pos spos : Pos} {Q : Flow → Shared → Prop} (lo : Nat)
    (hsw : swapsWith (.ListComp elt [⟨.Name x px, iter, [], 0⟩] scope pos) (some (.Name y py)) spos.line env = pure true)
    (hclos : closureFor scope env = pure cl) (hcell : ∀ y ∈ scope.names, y.2 ≠ .cell) (hkind : scope.kind = .function)
    (hnames : ∀ y ∈ scope.names, y.2 = .local → scope.names.lookup y.1 = some .local) (hx : scope.names.lookup x = some .local)
    (hy : env.kindOf y = some .local) (hp : (env.scope.kind == .class || (env.scope.kind == .module && env.locals != env.globals)) = false) (hs : ∀ x, foldedSetIterable iter env x = pure x)
    (h : wpAny (model prog w) A (eval iter env) (CompAt prog w A E env scope cl x elt h₀ lo (some y) fun _ s' => Q .next s') E s) :
    wpAny (model prog w) A (exec (.Assign [.Name y py] (.ListComp elt [⟨.Name x px, iter, [], 0⟩] scope pos) spos) env) Q E s := by
  rw [exec_Assign_Name_used _ _ _ _ hsw]
  refine wpAny_bind (wpAny_standAt (wpAny_bind ?_))
  show wpAny _ A (do let _ ← comprehension (.ListComp elt [⟨.Name x px, iter, [], 0⟩] scope pos) scope env _ (newList []) false (eval iter env) (some (assign (.Name y py) env))) _ _ s
  refine wpAny_bind (wpAny_mono (wpAny_comprehension_free (use := some (assign (.Name y py) env)) (Q := fun _ s' => Q .next s') rfl hs hclos hkind hnames
    (wpAny_mono h (fun v s₁ h₁ => comp_core (RR := fun acc C => compPost (model prog w) A E (some (assign (.Name y py) env)) (fun _ s' => Q .next s') acc C) hcell hkind hx h₁ ?_) fun _ _ e => e)) (fun _ s' hq => wpAny_pure (wpAny_pure hq)) fun _ _ e => e)
  intro D C m mc h tk o F N hC hLC hDC hC0 hfin
  show wpAny _ A (assign (.Name y py) env (.ref D)) _ _ _
  refine wpAny_assign_Name (wpAny_storeName_local hy F.ns (fun h₂ hn₂ hs₂ => ?_) hp)
  exact ⟨mc, hC.sameBut hs₂ (Ne.symm hLC), fun h₃ hs₃ => hfin h₃ _ (Nat.le_succ _) (.inl ⟨h₂, hs₂, hn₂, hs₃⟩)⟩

/-- the two sources -/
theorem comp_list {news : List (Addr × Obj)} {h₀ : Heap} (hh : A.handled = none) {l : Addr} {vs : List Value} {k : Nat} (hl : s.heap.get? l = some { cls := .type "list", data := .seq vs.toArray k }) (hm : l ∈ news.map (·.1)) :
    ∀ R : Value → Shared → Prop, (∀ (o : Obj) (fp wr : List Addr) (St : Nat → Heap → Prop), (∀ b ∈ fp, b = s.heap.objs.size ∨ (h₀.get? b).isSome = true ∨ b ∈ news.map (·.1)) → (∀ b ∈ wr, b = s.heap.objs.size) → WalksT prog w A s.heap.objs.size fp wr vs.length (fun i _ _ v => vs[i]? = some v) St → St 0 (s.heap.push o) → (∀ I h, (∃ i, St i h) → I = s.heap.objs.size → ∀ tk, ∀ Q' E', Q' (.ref I) { s with heap := h, toks := tk } → wpAny (model prog w) A (pyIter (.ref I)) Q' E' { s with heap := h, toks := tk }) → R (.ref s.heap.objs.size) { s with heap := s.heap.push o }) → wpAny (model prog w) A (pyIter (.ref l)) R E s := by
  intro R hR
  have hL : s.heap.IsList l vs.toArray := ⟨_, hl, rfl, _, rfl⟩
  have hne : l ≠ s.heap.objs.size := Nat.ne_of_lt (Heap.lt_size hl)
  have W := Walks.list (prog := prog) (w := w) (A := A) hh s.heap.objs.size l hne vs.toArray
  have WT := WalksT.of W
  simp only [List.size_toArray, List.getElem?_toArray] at WT
  refine wpAny_pyIter_list hL (hR _ _ _ _ (fun b hb => ?_) (fun b hb => List.mem_singleton.mp hb) WT ⟨⟨_, Heap.get?_push_size _ rfl, rfl, rfl⟩, hL.at fun o e => Heap.get?_push_of_some _ e⟩ ?_)
  · rcases List.mem_cons.mp hb with e | e
    · exact .inl e
    · exact .inr (.inr (List.mem_singleton.mp e ▸ hm))
  · rintro _ h ⟨i, st⟩ rfl tk Q' E' q
    exact W.self i _ _ _ st q
theorem comp_range {news : List (Addr × Obj)} {h₀ : Heap} (hh : A.handled = none) {r : Addr} {n : Nat} {t u v : Tok} (hn : n ≤ 1000) (hr : IsRange s.heap r 0 (n : Int) 1 t u v) :
    ∀ R : Value → Shared → Prop, (∀ (o : Obj) (fp wr : List Addr) (St : Nat → Heap → Prop), (∀ b ∈ fp, b = s.heap.objs.size ∨ (h₀.get? b).isSome = true ∨ b ∈ news.map (·.1)) → (∀ b ∈ wr, b = s.heap.objs.size) → WalksT prog w A s.heap.objs.size fp wr n (fun i _ _ v => ∃ t, v = .int (0 + (i : Int) * 1) t) St → St 0 (s.heap.push o) → (∀ I h, (∃ i, St i h) → I = s.heap.objs.size → ∀ tk, ∀ Q' E', Q' (.ref I) { s with heap := h, toks := tk } → wpAny (model prog w) A (pyIter (.ref I)) Q' E' { s with heap := h, toks := tk }) → R (.ref s.heap.objs.size) { s with heap := s.heap.push o }) → wpAny (model prog w) A (pyIter (.ref r)) R E s := by
  intro R hR
  have W := Walks.range (prog := prog) (w := w) (A := A) hh s.heap.objs.size 0 1 n
  refine wpAny_pyIter_range hr (small_one (by decide) (by decide) (by omega) (by omega)) (hR _ _ _ _ (fun b hb => .inl (List.mem_singleton.mp hb)) (fun b hb => List.mem_singleton.mp hb) (WalksT.of W) ?_ ?_)
  · have hsz : Builtin.Range.rangeSize 0 (n : Int) 1 = (n : Int) := by rw [rangeSize_one]; split <;> omega
    have e1 : ((0 : Int) + ((0 : Nat) : Int) * 1) = 0 := by simp
    have e2 : ((n : Int) - ((0 : Nat) : Int)) = Builtin.Range.rangeSize 0 (n : Int) 1 := by rw [hsz]; simp
    show IsRangeIter _ _ (0 + ((0 : Nat) : Int) * 1) ((n : Int) - ((0 : Nat) : Int)) 1
    rw [e1, e2]
    exact Heap.get?_push_size _ rfl
  · rintro _ h ⟨i, st⟩ rfl tk Q' E' q
    exact W.self i _ _ _ st q
end
end Mine

end
section
open PySem PySem.W PyProof.Rows PySem.Spec
namespace Mine
set_option maxRecDepth 100000

/-- a zip of a text and a list, under way -/
structure ZipS (h : Heap) (z TI TO i1 i2 l : Addr) (f0 : Value) (x : Str) (t : Tok) (ys : Array Value) (k : Nat) : Prop where
  hz : IsZip h z TI TO f0
  hI : IsPair h TI (.ref i1) (.ref i2)
  hO : ∃ a b, IsPair h TO a b
  h1 : h.IsStrIter i1 "str_ascii_iterator" x t k
  h2 : h.IsListIter i2 l k
  hl : h.IsList l ys

theorem ZipS.at {h h' : Heap} {z TI TO i1 i2 l : Addr} {f0 : Value} {x : Str} {t : Tok} {ys : Array Value} {k : Nat} (S : ZipS h z TI TO i1 i2 l f0 x t ys k) (hk : ∀ b ∈ [z, TI, TO, i1, i2, l], ∀ o, h.get? b = some o → h'.get? b = some o) : ZipS h' z TI TO i1 i2 l f0 x t ys k where
  hz := hk z (by simp) _ S.hz
  hI := hk TI (by simp) _ S.hI
  hO := let ⟨a, b, e⟩ := S.hO; ⟨a, b, hk TO (by simp) _ e⟩
  h1 := let ⟨o, e, r⟩ := S.h1; ⟨o, hk i1 (by simp) _ e, r⟩
  h2 := S.h2.at fun o e => hk i2 (by simp) o e
  hl := S.hl.at fun o e => hk l (by simp) o e

theorem striter_at {h h' : Heap} {a : Addr} {c : String} {x : Str} {t : Tok} {k : Nat} (S : h.IsStrIter a c x t k) (hk : ∀ o, h.get? a = some o → h'.get? a = some o) : h'.IsStrIter a c x t k := let ⟨o, e, r⟩ := S; ⟨o, hk _ e, r⟩

section
variable {prog : Program} {w : World} {A : Around} {E : Value → Shared → Prop} {s : Shared}
theorem zipS_item {z TI TO i1 i2 l : Addr} {x : Str} {t : Tok} {ys : Array Value} {k c : Nat} {y : Value} {Q : Value → Shared → Prop} (D : ZipApart z TI TO i1 i2 l l) (S : ZipS s.heap z TI TO i1 i2 l .none x t ys k) (hx : x.cps[k]? = some c) (hy : ys[k]? = some y)
    (hQ : ∀ h', ZipS h' z TI TO i1 i2 l (rawInt s.heap.objs.size) x t ys (k + 1) → IsPair h' s.heap.objs.size (.str ⟨#[c]⟩ s.toks) y →
      (∀ b o, b ∉ [z, TO, i1, i2] → s.heap.get? b = some o → h'.get? b = some o) → Q (.ref s.heap.objs.size) { s with heap := h', toks := s.toks + 1 }) :
    wpAny (model prog w) A (Builtin.«zip.__next__» ⟨[.ref z], []⟩) (fun fin s' => ∃ v, fin = .done (.ret v) ∧ Q v s') E s := by
  obtain ⟨hz, hI, ⟨a, b, hO⟩, h1, h2, hl⟩ := S
  show wpAny _ _ (field (.ref z) 2 >>= _) _ _ _
  refine wpAny_bind (wpAny_field hz rfl (x := .bool false) rfl ?_)
  show wpAny _ _ (field (.ref z) 3 >>= _) _ _ _
  refine wpAny_bind (wpAny_field hz rfl (x := .ref TI) rfl (wpAny_bind (wpAny_seqItems hI rfl ?_)))
  show wpAny _ _ (Builtin.SmallTypes.ownedTupleIsFree (.ref z) >>= _) _ _ _
  refine wpAny_bind ?_
  unfold Builtin.SmallTypes.ownedTupleIsFree
  refine wpAny_bind (wpAny_field hz rfl (x := .none) rfl (wpAny_pure ?_))
  simp only [if_true]
  refine wpAny_bind (wpAny_rule (wpAny_bind (wpAny_field hz rfl (x := .ref TO) rfl (wpAny_bind (wpAny_setField_rec hz (by simp) fun g1 hz1 hs1 => ?_)))))
  replace hz1 : IsZip g1 z TI TO .ellipsis := hz1
  refine wpAny_bind ?_
  simp only [List.zipIdx_cons, List.zipIdx_nil, List.forIn_cons, List.forIn_nil]
  refine wpAny_bind (wpAny_bind (wpAny_onRaise ?_))
  show wpAny _ _ (Builtin.SmallTypes.nextOf (.ref i1) >>= _) _ _ _
  refine wpAny_bind (wpAny_nextOf_ascii_item (striter_at h1 fun o e => hs1.extBut _ o D.i1z e) hx fun g2 h12 hs2 => wpAny_pure ?_)
  have hO2 : IsPair g2 TO a b := hs2.extBut _ _ D.TOi1 (hs1.extBut _ _ D.TOz hO)
  refine wpAny_bind (wpAny_seqItems hO2 rfl (wpAny_bind (wpAny_updateSeq_pair hO2 fun g3 hO3 hs3 => ?_)))
  replace hO3 : IsPair g3 TO (.str ⟨#[c]⟩ s.toks) b := hO3
  refine wpAny_bind (wpAny_letGo (wpAny_pure (wpAny_bind (wpAny_bind (wpAny_onRaise ?_)))))
  show wpAny _ _ (Builtin.SmallTypes.nextOf (.ref i2) >>= _) _ _ _
  have k3 : ∀ b o, b ≠ z → b ≠ i1 → b ≠ TO → s.heap.get? b = some o → g3.get? b = some o := fun b o c1 c2 c3 e => hs3.extBut _ _ c3 (hs2.extBut _ _ c2 (hs1.extBut _ _ c1 e))
  refine wpAny_bind (wpAny_nextOf_list_item (h2.at fun o e => k3 _ o D.i2z D.i12.symm D.TOi2.symm e) (hl.at fun o e => k3 _ o D.l2z D.l2i1 D.l2TO e) hy fun g4 h24 hs4 => wpAny_pure ?_)
  have hO4 : IsPair g4 TO (.str ⟨#[c]⟩ s.toks) b := hs4.extBut _ _ D.TOi2 hO3
  refine wpAny_bind (wpAny_seqItems hO4 rfl (wpAny_bind (wpAny_updateSeq_pair hO4 fun g5 hO5 hs5 => ?_)))
  replace hO5 : IsPair g5 TO (.str ⟨#[c]⟩ s.toks) y := hO5
  refine wpAny_bind (wpAny_letGo (wpAny_pure (wpAny_pure (wpAny_bind (wpAny_seqItems hO5 rfl (wpAny_bind (wpAny_newTuple ?_)))))))
  have hsz : g5.objs.size = s.heap.objs.size := by rw [hs5.1, hs4.1, hs3.1, hs2.1, hs1.1]
  have hz5 : IsZip g5 z TI TO .ellipsis := hs5.extBut _ _ D.TOz.symm (hs4.extBut _ _ D.i2z.symm (hs3.extBut _ _ D.TOz.symm (hs2.extBut _ _ D.i1z.symm hz1)))
  have h15 : g5.IsStrIter i1 "str_ascii_iterator" x t (k + 1) := striter_at h12 fun o e => hs5.extBut _ _ D.TOi1.symm (hs4.extBut _ _ D.i12 (hs3.extBut _ _ D.TOi1.symm e))
  have h25 : g5.IsListIter i2 l (k + 1) := h24.at fun o e => hs5.extBut _ _ D.TOi2.symm e
  have hzlt : z < g5.objs.size := Heap.lt_size hz5
  show wpAny _ _ (Builtin.SmallTypes.ownedTupleHandOut (.ref z) (.ref g5.objs.size) >>= _) _ _ _
  refine wpAny_bind ?_
  unfold Builtin.SmallTypes.ownedTupleHandOut
  have hz6 : IsZip (g5.push { cls := .type "tuple", data := .seq #[.str ⟨#[c]⟩ s.toks, y] }) z TI TO .ellipsis := Heap.get?_push_of_some _ hz5
  refine wpAny_bind (wpAny_setField_rec hz6 (by simp) fun g7 hz7 hs7 => ?_)
  replace hz7 : IsZip g7 z TI TO (rawInt g5.objs.size) := hz7
  refine wpAny_setField_rec hz7 (by simp) fun g8 hz8 hs8 => ?_
  replace hz8 : IsZip g8 z TI TO (rawInt g5.objs.size) := hz8
  have up : ∀ b o, b ≠ z → g5.get? b = some o → g8.get? b = some o := fun b o c1 e => hs8.extBut _ _ c1 (hs7.extBut _ _ c1 (Heap.get?_push_of_some _ e))
  have hT8 : IsPair g8 g5.objs.size (.str ⟨#[c]⟩ s.toks) y := hs8.extBut _ _ (Nat.ne_of_gt hzlt) (hs7.extBut _ _ (Nat.ne_of_gt hzlt) (Heap.get?_push_size _ rfl))
  rw [hsz] at hz8 hT8
  refine wpAny_pure ⟨_, rfl, ?_⟩
  show Q (.ref g5.objs.size) _
  rw [hsz]
  have keep : ∀ b o, b ≠ z → b ≠ TO → b ≠ i1 → b ≠ i2 → s.heap.get? b = some o → g8.get? b = some o := fun b o c1 c2 c3 c4 e => up b o c1 (hs5.extBut _ _ c2 (hs4.extBut _ _ c4 (k3 b o c1 c3 c2 e)))
  refine hQ g8 ⟨hz8, keep _ _ D.TIz D.TITO D.TIi1 D.TIi2 hI, ⟨_, _, up _ _ D.TOz hO5⟩, striter_at h15 fun o e => up _ o D.i1z e, h25.at fun o e => up _ o D.i2z e, hl.at fun o e => keep _ o D.l2z D.l2TO D.l2i1 D.l2i2 e⟩ hT8 fun b o hb e => ?_
  simp only [List.mem_cons, List.not_mem_nil, or_false, not_or] at hb
  exact keep b o hb.1 hb.2.1 hb.2.2.1 hb.2.2.2 e

theorem zipS_end {z TI TO i1 i2 l : Addr} {x : Str} {t : Tok} {ys : Array Value} {k : Nat} {Q : Fin → Shared → Prop} (hh : A.handled = none) (D : ZipApart z TI TO i1 i2 l l) (S : ZipS s.heap z TI TO i1 i2 l .none x t ys k) (hx : x.cps[k]? = none)
    (hE : ∀ h' e, (∀ b o, b ∉ [z, TO, i1, i2] → s.heap.get? b = some o → h'.get? b = some o) → (∃ o, h'.get? e = some o ∧ o.cls = .type "StopIteration") → E (.ref e) { s with heap := h' }) :
    wpAny (model prog w) A (Builtin.«zip.__next__» ⟨[.ref z], []⟩) Q E s := by
  obtain ⟨hz, hI, ⟨a, b, hO⟩, h1, h2, hl⟩ := S
  show wpAny _ _ (field (.ref z) 2 >>= _) _ _ _
  refine wpAny_bind (wpAny_field hz rfl (x := .bool false) rfl ?_)
  show wpAny _ _ (field (.ref z) 3 >>= _) _ _ _
  refine wpAny_bind (wpAny_field hz rfl (x := .ref TI) rfl (wpAny_bind (wpAny_seqItems hI rfl ?_)))
  show wpAny _ _ (Builtin.SmallTypes.ownedTupleIsFree (.ref z) >>= _) _ _ _
  refine wpAny_bind ?_
  unfold Builtin.SmallTypes.ownedTupleIsFree
  refine wpAny_bind (wpAny_field hz rfl (x := .none) rfl (wpAny_pure ?_))
  simp only [if_true]
  refine wpAny_bind (wpAny_rule (wpAny_bind (wpAny_field hz rfl (x := .ref TO) rfl (wpAny_bind (wpAny_setField_rec hz (by simp) fun g1 hz1 hs1 => ?_)))))
  replace hz1 : IsZip g1 z TI TO .ellipsis := hz1
  refine wpAny_bind ?_
  simp only [List.zipIdx_cons, List.zipIdx_nil, List.forIn_cons, List.forIn_nil]
  refine wpAny_bind (wpAny_bind (wpAny_onRaise ?_))
  show wpAny _ _ (Builtin.SmallTypes.nextOf (.ref i1) >>= _) _ _ _
  refine wpAny_bind (wpAny_nextOf_ascii_end hh (striter_at h1 fun o e => hs1.extBut _ o D.i1z e) hx fun g2 e hs2 he => ?_)
  obtain ⟨oe, hoe, hce⟩ := he
  have hz2 : IsZip g2 z TI TO .ellipsis := hs2 _ _ D.i1z.symm hz1
  have hez : e ≠ z := fun q => by subst q; rw [hz2] at hoe; cases hoe; simp at hce
  refine wpAny_setField_rec hz2 (by simp) fun g3 _ hs3 => hE g3 e (fun b o hb q => ?_) ⟨oe, hs3.extBut _ _ hez hoe, hce⟩
  simp only [List.mem_cons, List.not_mem_nil, or_false, not_or] at hb
  exact hs3.extBut _ _ hb.1 (hs2 _ _ hb.2.2.1 (hs1.extBut _ _ hb.1 q))
end
end Mine

end
section
open PySem PySem.W PyProof.Rows PySem.Spec
namespace Mine
set_option maxRecDepth 100000
set_option maxHeartbeats 1000000

abbrev zs1 (h : Heap) (x : Str) (t : Tok) : Heap := h.push { cls := .type "str_ascii_iterator", data := .fields #[.str x t, .int 0 0] }
abbrev zs2 (h : Heap) (x : Str) (t : Tok) (l : Addr) : Heap := (zs1 h x t).push { cls := .type "list_iterator", data := .fields #[.ref l, .int 0 0] }
abbrev zs3 (h : Heap) (x : Str) (t : Tok) (l : Addr) : Heap := (zs2 h x t l).push { cls := .type "tuple", data := .seq #[.ref h.objs.size, .ref (zs1 h x t).objs.size] }
abbrev zs4 (h : Heap) (x : Str) (t : Tok) (l : Addr) : Heap := (zs3 h x t l).push { cls := .type "tuple", data := .seq #[.none, .none] }
abbrev zs5 (h : Heap) (x : Str) (t : Tok) (l : Addr) : Heap := (zs4 h x t l).push { cls := .type "zip", data := .fields #[.none, .bool false, .bool false, .ref (zs2 h x t l).objs.size, .ref (zs3 h x t l).objs.size] }

theorem meets_zip_str (x : Str) (t : Tok) (l : Addr) (ys : Array Value) (ha : x.cps.all (· < 128) = true) :
    Meets (Builtin.«zip.__new__» ⟨[.type "zip", .str x t, .ref l], []⟩) (fun _ R s => s.heap.IsList l ys ∧ R (.ok (.ret (.ref (zs4 s.heap x t l).objs.size))) { s with heap := zs5 s.heap x t l }) :=
  .of_wp fun prog w A R s h => by
    obtain ⟨hp, g, d, tk, os⟩ := s; obtain ⟨hl, h⟩ := h
    have hsub := sub_zip
    have hL : Heap.IsList (Shared.heap ⟨hp.push { cls := .type "str_ascii_iterator", data := .fields #[.str x t, .int 0 0] }, g, d, tk, os⟩) l ys := Heap.IsList.push hl _
    wp_walk using wpAny_pyIter_ascii ha, wpAny_pyIter_list hL
    exact ⟨_, rfl, h⟩

section
variable {prog : Program} {w : World} {A : Around} {E : Value → Shared → Prop} {s : Shared}
theorem call_zip_str {x : Str} {t : Tok} {l : Addr} {ys : Array Value} {Q : Value → Shared → Prop} (ha : x.cps.all (· < 128) = true) (hl : s.heap.IsList l ys)
    (h : ∀ h', ZipS h' (s.heap.objs.size + 4) (s.heap.objs.size + 2) (s.heap.objs.size + 3) s.heap.objs.size (s.heap.objs.size + 1) l .none x t ys 0 → (∀ c o, s.heap.get? c = some o → h'.get? c = some o) → Q (.ref (s.heap.objs.size + 4)) { s with heap := h' }) :
    wpAny (model prog w) A (call (.type "zip") [.str x t, .ref l]) Q E s := by
  refine callType_new F.called_zip (by decide) (F.typeCall_zip_2 _ _) (F.newCall_zip_2 _ _) (fun obj => F.args_object_init_3 obj _ _) F.entry_zip_new (meets_zip_str x t l ys ha) ⟨hl, ?_⟩
  have z1 : (zs1 s.heap x t).objs.size = s.heap.objs.size + 1 := Heap.size_push ..
  have z2 : (zs2 s.heap x t l).objs.size = s.heap.objs.size + 2 := by rw [Heap.size_push, z1]
  have z3 : (zs3 s.heap x t l).objs.size = s.heap.objs.size + 3 := by rw [Heap.size_push, z2]
  have z4 : (zs4 s.heap x t l).objs.size = s.heap.objs.size + 4 := by rw [Heap.size_push, z3]
  have up : ∀ {h : Heap} {c : Addr} {o o' : Obj}, h.get? c = some o → (h.push o').get? c = some o := fun e => Heap.get?_push_of_some _ e
  have g5 : (zs5 s.heap x t l).get? (zs4 s.heap x t l).objs.size = some _ := Heap.get?_push_size _ rfl
  have g4 : (zs5 s.heap x t l).get? (zs3 s.heap x t l).objs.size = some _ := up (Heap.get?_push_size _ rfl)
  have g3 : (zs5 s.heap x t l).get? (zs2 s.heap x t l).objs.size = some _ := up (up (Heap.get?_push_size _ rfl))
  have g2 : (zs5 s.heap x t l).get? (zs1 s.heap x t).objs.size = some _ := up (up (up (Heap.get?_push_size _ rfl)))
  have g1 : (zs5 s.heap x t l).get? s.heap.objs.size = some _ := up (up (up (up (Heap.get?_push_size _ rfl))))
  show _ ∧ _
  rw [z2, z3, z4] at g5
  rw [z1, z2] at g3
  rw [z3] at g4
  rw [z1] at g2
  rw [z4]
  exact ⟨⟨_, g5, rfl⟩, h _ ⟨g5, g3, ⟨_, _, g4⟩, ⟨_, g1, rfl, rfl⟩, ⟨_, g2, rfl, rfl⟩, hl.at fun o e => up (up (up (up (up e))))⟩ fun c o e => up (up (up (up (up e))))⟩

theorem next_zipS {z TI TO i1 i2 l : Addr} {x : Str} {t : Tok} {ys : Array Value} {k c : Nat} {y : Value} {Q : Option Value → Shared → Prop} (D : ZipApart z TI TO i1 i2 l l) (S : ZipS s.heap z TI TO i1 i2 l .none x t ys k) (hx : x.cps[k]? = some c) (hy : ys[k]? = some y)
    (hQ : ∀ h', ZipS h' z TI TO i1 i2 l (rawInt s.heap.objs.size) x t ys (k + 1) → IsPair h' s.heap.objs.size (.str ⟨#[c]⟩ s.toks) y →
      (∀ b o, b ∉ [z, TO, i1, i2] → s.heap.get? b = some o → h'.get? b = some o) → Q (some (.ref s.heap.objs.size)) { s with heap := h', toks := s.toks + 1 }) :
    wpAny (model prog w) A (pyNext (.ref z)) Q E s := by
  have hT : s.TypeIs (.ref z) "zip" := ⟨_, S.hz, rfl⟩
  unfold pyNext
  exact wpAny_bind (wpAny_attempt (wpAny_callSpecial?_slot (name := Str.ofString "__next__") hT F.slot_zip_next (wpAny_call_entry F.slot_zip_next hT F.entry_zip_next
    (zipS_item D S hx hy fun h' a1 a2 a3 => wpAny_pure (hQ h' a1 a2 a3)) (F.args_zip_next_1 _))))
theorem end_zipS {z TI TO i1 i2 l : Addr} {x : Str} {t : Tok} {ys : Array Value} {k : Nat} {Q : Option Value → Shared → Prop} (hh : A.handled = none) (D : ZipApart z TI TO i1 i2 l l) (S : ZipS s.heap z TI TO i1 i2 l .none x t ys k) (hx : x.cps[k]? = none)
    (hQ : ∀ h', (∀ b o, b ∉ [z, TO, i1, i2] → s.heap.get? b = some o → h'.get? b = some o) → Q none { s with heap := h' }) : wpAny (model prog w) A (pyNext (.ref z)) Q E s := by
  have hT : s.TypeIs (.ref z) "zip" := ⟨_, S.hz, rfl⟩
  unfold pyNext
  refine wpAny_bind (wpAny_attempt (wpAny_callSpecial?_slot (name := Str.ofString "__next__") hT F.slot_zip_next (wpAny_call_entry F.slot_zip_next hT F.entry_zip_next (zipS_end hh D S hx fun h' e hk he => ?_) (F.args_zip_next_1 _))))
  obtain ⟨o, ho, hc⟩ := he
  exact wpAny_bind (wpAny_isInstance (T := "StopIteration") (b := true) ⟨o, ho, hc⟩ isSubtype_stop (wpAny_pure (hQ _ hk)))

theorem walks_zipS (hh : A.handled = none) {z TI TO i1 i2 l : Addr} (D : ZipApart z TI TO i1 i2 l l) (x : Str) (t : Tok) (ys : Array Value) (hn : x.cps.size = ys.size) :
    PySem.WalksT prog w A z [z, TI, TO, i1, i2, l] [z, TO, i1, i2] x.cps.size (fun i vals => ∃ c u y, x.cps[i]? = some c ∧ ys[i]? = some y ∧ vals = #[.str ⟨#[c]⟩ u, y])
      (fun i h => ZipS h z TI TO i1 i2 l .none x t ys i) (fun i T h => ZipS h z TI TO i1 i2 l (rawInt T) x t ys (i + 1) ∧ T ∉ [z, TO, i1, i2]) where
  sub := fun b hb => by simp at hb ⊢; rcases hb with rfl | rfl | rfl | rfl <;> simp
  frame := fun i h h' S hk => S.at hk
  item := fun i s Q E hi S hQ => by
    have hiy : i < ys.size := hn ▸ hi
    refine next_zipS D S (Array.getElem?_eq_getElem hi) (Array.getElem?_eq_getElem hiy) fun h' S' hp hk => ?_
    have lt : ∀ {b o}, s.heap.get? b = some o → s.heap.objs.size ≠ b := fun e => Nat.ne_of_gt (Heap.lt_size e)
    refine hQ s.heap.objs.size _ h' _ ⟨_, _, _, Array.getElem?_eq_getElem hi, Array.getElem?_eq_getElem hiy, rfl⟩ (Nat.le_refl _) ⟨_, hp, rfl, _, rfl⟩ ⟨S', fun hm => ?_⟩ hk
    obtain ⟨hz, _, ⟨_, _, hO⟩, ⟨_, e1, _⟩, ⟨_, e2, _⟩, _⟩ := S
    simp only [List.mem_cons, List.not_mem_nil, or_false] at hm
    rcases hm with e | e | e | e
    · exact lt hz e
    · exact lt hO e
    · exact lt e1 e
    · exact lt e2 e
  go := fun elts k pos i T s Q E hm hQ => by
    obtain ⟨S, _⟩ := hm
    refine wpAny_letOwnedTupleGo_zip S.hz fun h' hz' hs' => hQ h' ⟨hz', hs'.extBut _ _ D.TIz S.hI, let ⟨a, b, e⟩ := S.hO; ⟨a, b, hs'.extBut _ _ D.TOz e⟩, striter_at S.h1 fun o e => hs'.extBut _ _ D.i1z e, S.h2.extBut hs'.extBut D.i2z, S.hl.extBut hs'.extBut D.l2z⟩ fun b o hb e => hs'.extBut _ _ (fun q => hb (by simp [q])) e
  apart := fun i T h hm => hm.2
  done := fun s Q E S hQ => end_zipS hh D S (Array.getElem?_eq_none (Nat.le_refl _)) fun h' hk => hQ h' s.toks hk
  self := fun i s Q E S hQ => wpAny_pyIter_zip S.hz hQ
end
end Mine

end
section
open PySem PySem.W PyProof.Rows PySem.Spec
namespace Mine
set_option maxRecDepth 100000

def ZipSrc (prog : Program) (w : World) (A : Around) (E : Value → Shared → Prop) (h₀ : Heap) (L : Addr) (x : Str) (ys : Array Value) (xv : Value) (s : Shared) (m : Str → Option Value) (news : List (Addr × Obj)) : Prop :=
  ∀ env : Env, env.locals = L → ∀ (xi xc : Str) (body : List Stmt) (Q : Flow → Shared → Prop) (J : Nat → (Str → Option Value) → Prop), J 0 m →
    (∀ (i c : Nat) u y m₁ s₁ own, (∃ h tk, s₁ = { s with heap := h, toks := tk }) → i < x.cps.size → x.cps[i]? = some c → ys[i]? = some y → J i m₁ →
      Fr h₀ env.locals s₁.heap (fun z => if z = xc then some y else if z = xi then some (.str ⟨#[c]⟩ u) else m₁ z) → News h₀ env.locals s₁.heap (own ++ news) →
      wpAny (model prog w) A (execs body env) (LoopStep3 h₀ env.locals own news (fun m' n' => n' = news ∧ J (i + 1) m') s₁ (fun v s' => Q (.ret v) s') fun s' => Q .next s') E s₁) →
    (∀ h' tk m', Fr h₀ env.locals h' m' → News h₀ env.locals h' news → J x.cps.size m' → Q .next { s with heap := h', toks := tk }) →
    wpAny (model prog w) A (pyIter xv) (fun it s₂ => PairAt3 prog w A h₀ env xi xc body Q E it s₂) E s

section
variable {prog : Program} {w : World} {A : Around} {E : Value → Shared → Prop} {s : Shared} {h₀ : Heap} {L : Addr} {m : Str → Option Value} {news : List (Addr × Obj)}
theorem zip_src {x : Str} {t : Tok} {l : Addr} {ys : List Value} {k : Nat} {Q : Value → Shared → Prop} (hh : A.handled = none) (ha : x.cps.all (· < 128) = true) (hn : x.cps.size = ys.length) (F : Fr h₀ L s.heap m) (N : News h₀ L s.heap news) (hm : (l, { cls := .type "list", data := .seq ys.toArray k }) ∈ news)
    (h : ∀ h' e, Fr h₀ L h' m → News h₀ L h' news → ZipSrc prog w A E h₀ L x ys.toArray (.ref e) { s with heap := h' } m news → Q (.ref e) { s with heap := h' }) :
    wpAny (model prog w) A (call (.type "zip") [.str x t, .ref l]) Q E s := by
  have hl : s.heap.IsList l ys.toArray := ⟨_, (N _ hm).1, rfl, _, rfl⟩
  have hll : l < s.heap.objs.size := Heap.lt_size (N _ hm).1
  have hLs : L < s.heap.objs.size := F.ns.lt
  have hab : h₀.objs.size ≤ L := F.above
  refine call_zip_str ha hl fun h' S hk => ?_
  have F' : Fr h₀ L h' m := F.keeps hk
  have N' : News h₀ L h' news := N.grown hk
  refine h h' _ F' N' fun env hL xi xc body Q J h0 step done => ?_
  subst hL
  have D := zipApart_new hll hll
  have W := walks_zipS (prog := prog) (w := w) hh D x t ys.toArray (by rw [hn, List.size_toArray])
  have nw : ∀ k, h₀.get? (s.heap.objs.size + k) = none := fun k => Heap.get?_none_of_le (Nat.le_trans hab (Nat.le_trans (Nat.le_of_lt hLs) (Nat.le_add_right _ k)))
  have hnews : ∀ q ∈ news, q.1 < s.heap.objs.size := fun q hq => Heap.lt_size (N q hq).1
  refine W.self 0 _ _ _ S ⟨_, _, _, _, _, _, _, (fun i v0 v1 => ∃ c u, x.cps[i]? = some c ∧ ys.toArray[i]? = some v1 ∧ v0 = .str ⟨#[c]⟩ u), m, news, (fun i m' n' => n' = news ∧ J i m'), rfl, W, ?_, ?_, ?_, ?_, S, F', N', ⟨rfl, h0⟩, ?_, ?_⟩
  · rintro i vals ⟨c, u, y, hc, hy, rfl⟩
    exact ⟨_, _, rfl, c, u, hc, hy, rfl⟩
  · intro hm'
    simp only [List.mem_cons, List.not_mem_nil, or_false] at hm'
    have up : ∀ k, env.locals ≠ s.heap.objs.size + k := fun k e => Nat.ne_of_lt (Nat.lt_of_lt_of_le hLs (Nat.le_add_right _ k)) e
    rcases hm' with e | e | e | e | e | e
    · exact up 4 e
    · exact up 2 e
    · exact up 3 e
    · exact up 0 e
    · exact up 1 e
    · exact (N _ hm).2.1 e.symm
  · intro b hb
    simp only [List.mem_cons, List.not_mem_nil, or_false] at hb
    rcases hb with rfl | rfl | rfl | rfl
    · exact nw 4
    · exact nw 3
    · exact nw 0
    · exact nw 1
  · intro p hp hm'
    have hq1 := hnews p hp
    simp only [List.mem_cons, List.not_mem_nil, or_false] at hm'
    have dn : ∀ k, p.1 ≠ s.heap.objs.size + k := fun k e => Nat.ne_of_lt (Nat.lt_of_lt_of_le hq1 (Nat.le_add_right _ k)) e
    rcases hm' with e | e | e | e
    · exact dn 4 e
    · exact dn 3 e
    · exact dn 0 e
    · exact dn 1 e
  · rintro i v0 v1 m₁ news₁ s₁ own hs₁ hi ⟨c, u, hc, hy, rfl⟩ ⟨rfl, hJ⟩ _ hsub F₁ N₁
    exact step i c u v1 m₁ s₁ own hs₁ hi hc hy hJ F₁ N₁
  · rintro h' tk m' news' F₁ N₁ _ ⟨rfl, hJ⟩
    exact done h' tk m' F₁ N₁ hJ
end
end Mine

end
section
local macro_rules | `(tactic| walk_at "pad 0") => `(tactic| skip)
local macro_rules | `(tactic| walk_at "pad 1") => `(tactic| skip)
local macro_rules | `(tactic| walk_at "pad 2") => `(tactic| skip)
local macro_rules | `(tactic| walk_at "pad 3") => `(tactic| skip)
local macro_rules | `(tactic| walk_at "pad 4") => `(tactic| skip)
local macro_rules | `(tactic| walk_at "pad 5") => `(tactic| skip)
local macro_rules | `(tactic| walk_at "pad 6") => `(tactic| skip)
local macro_rules | `(tactic| walk_at "pad 7") => `(tactic| skip)
local macro_rules | `(tactic| walk_at "pad 8") => `(tactic| skip)
local macro_rules | `(tactic| walk_at "pad 9") => `(tactic| skip)
local macro_rules | `(tactic| walk_at "pad 10") => `(tactic| skip)
local macro_rules | `(tactic| walk_at "pad 11") => `(tactic| skip)
local macro_rules | `(tactic| walk_at "pad 12") => `(tactic| skip)
local macro_rules | `(tactic| walk_at "pad 13") => `(tactic| skip)
local macro_rules | `(tactic| walk_at "pad 14") => `(tactic| skip)
open PySem PySem.W PyProof.Rows
namespace Mine
set_option maxRecDepth 100000
set_option maxHeartbeats 8000000

abbrev lst3 (a b d : Int) (t u v : Tok) (e : Nat) : Obj := listOf #[.int a t, .int b u, .int d v] e

def GoneInv (s : Shared) (g : Heap) (L : Addr) (news : List (Addr × Obj)) (ns : List Nat) (j k : Nat) (u : Tok) (s' : Shared) : Prop :=
  ∃ (h : Heap) (tk : Nat) (m : Str → Option Value), s' = { s with heap := h, toks := tk } ∧ 1 ≤ tk ∧ Fr g L h m ∧ News g L h news ∧ (∃ t, m (Str.ofString "shown") = some (.str (shownOf ns) t)) ∧ (∃ t, m (Str.ofString "mail") = some (.bytes (mailOf j ns).toArray t)) ∧ m (Str.ofString "sendings") = some (.int (k : Int) u)

def SizeInv (s : Shared) (g : Heap) (L : Addr) (news : List (Addr × Obj)) (ns : List Nat) (a b d : Nat) (k : Nat) (s' : Shared) : Prop :=
  ∃ (h : Heap) (tk : Nat) (m : Str → Option Value) (z : Addr) (t1 t2 t3 : Tok) (e : Nat), s' = { s with heap := h, toks := tk } ∧ 1 ≤ tk ∧ Fr g L h m ∧ News g L h ((z, lst3 (nextOf k a) (nextOf k b) (nextOf k d) t1 t2 t3 e) :: news) ∧ (∃ t, m (Str.ofString "shown") = some (.str (shownOf [a, b, d]) t)) ∧ (∃ t, m (Str.ofString "mail") = some (.bytes (mailOf k [a, b, d]).toArray t)) ∧ m (Str.ofString "sizes") = some (.ref z)

theorem get3 {a b d i : Nat} {ta tb td : Tok} {v : Value} (h : (#[Value.int (a : Int) ta, .int (b : Int) tb, .int (d : Int) td] : Array Value)[i]? = some v) : ∃ n t, v = .int ((n : Nat) : Int) t ∧ [a, b, d][i]? = some n := by
  rcases i with _ | _ | _ | i
  · exact ⟨a, ta, (Option.some.inj h).symm, rfl⟩
  · exact ⟨b, tb, (Option.some.inj h).symm, rfl⟩
  · exact ⟨d, td, (Option.some.inj h).symm, rfl⟩
  · simp at h

inductive Nts : List Value → List Nat → Prop
  | nil : Nts [] []
  | cons {n : Nat} {t : Tok} {P : List Value} {ps : List Nat} : Nts P ps → Nts (.int (n : Int) t :: P) (n :: ps)
theorem Nts.snoc {vs : List Value} {ns : List Nat} {n : Nat} {t : Tok} (h : Nts vs ns) : Nts (vs ++ [.int (n : Int) t]) (ns ++ [n]) := by
  induction h with
  | nil => exact .cons .nil
  | cons _ ih => exact .cons ih
theorem nts3 {vs : List Value} {p q r : Nat} (h : Nts vs [p, q, r]) : ∃ t1 t2 t3, vs = [.int (p : Int) t1, .int (q : Int) t2, .int (r : Int) t3] := by
  cases h with | cons h => cases h with | cons h => cases h with | cons h => cases h; exact ⟨_, _, _, rfl⟩
theorem getr {k a b d i : Nat} {ta tb td : Tok} {v : Value} (h : [Value.bytes (rowOf k a).toArray ta, .bytes (rowOf k b).toArray tb, .bytes (rowOf k d).toArray td][i]? = some v) : ∃ n t, v = .bytes (rowOf k n).toArray t ∧ [a, b, d][i]? = some n := by
  rcases i with _ | _ | _ | i
  · exact ⟨a, ta, (Option.some.inj h).symm, rfl⟩
  · exact ⟨b, tb, (Option.some.inj h).symm, rfl⟩
  · exact ⟨d, td, (Option.some.inj h).symm, rfl⟩
  · simp at h
theorem tok_pre2 {n k tk : Nat} (hn : n ≤ 1000) (hk : k ≤ 3) (h : 1 ≤ tk) : (n ≤ 1000 ∧ k ≤ 1000) ∧ tk ≠ 0 ∧ tk < tk + 1 := ⟨⟨hn, by omega⟩, by omega, by omega⟩
theorem pcs4 {vs : List Value} {p q r o : Array UInt8} (h : Pcs vs [p, q, r, o]) : ∃ t1 t2 t3 t4, vs = [.bytes p t1, .bytes q t2, .bytes r t3, .bytes o t4] := by
  cases h with | cons h => cases h with | cons h => cases h with | cons h => cases h with | cons h => cases h; exact ⟨_, _, _, _, rfl⟩
theorem split_mail {prog : Program} {w : World} {A : Around} {E : Value → Shared → Prop} {s : Shared} {h₀ : Heap} {L : Addr} {m : Str → Option Value} {news : List (Addr × Obj)} {t v : Tok} {k a b d : Nat} {Q : Value → Shared → Prop} (F : Fr h₀ L s.heap m) (N : News h₀ L s.heap news) (hk : k ≤ 3) (ha : a ≤ 1000) (hb : b ≤ 1000) (hd : d ≤ 1000)
    (h : ∀ h' l t1 t2 t3 t4 k', Fr h₀ L h' m → News h₀ L h' ((l, listOf #[.bytes (rowOf k a).toArray t1, .bytes (rowOf k b).toArray t2, .bytes (rowOf k d).toArray t3, .bytes #[] t4] 0) :: news) → Q (.ref l) { s with heap := h', toks := k' }) :
    wpAny (model prog w) A (call (.builtin "bytes.split") [.bytes (mailOf k [a, b, d]).toArray t, .bytes #[10] v]) Q E s := by
  refine split_K F N rfl (by omega) (by simp) (by intro x hx; simp at hx; omega) fun h' l vs k' F' N' hv => ?_
  obtain ⟨t1, t2, t3, t4, rfl⟩ := pcs4 hv
  exact h h' l t1 t2 t3 t4 k' F' N'
local macro_rules | `(tactic| walk_at "getMethod bytes") => `(tactic| (k_here; refine meth_split ?_))
local macro_rules | `(tactic| walk_at "call builtin:bytes.split") => `(tactic| (k_here; (with_reducible rename Fr _ _ _ _ => lF'); (with_reducible rename News _ _ _ _ => lN'); refine split_mail lF' lN' (by assumption) (by assumption) (by assumption) (by assumption) ?_; intro _ _ _ _ _ _ _ _ _))

theorem shown3 (a b d : Nat) : (shownOf [a, b, d]).cps.size = 3 := shown_len [a, b, d]
theorem shown_ascii (ns : List Nat) : (shownOf ns).cps.all (· < 128) = true := by
  simp only [shownOf, oddsOf, word]
  simp [sgn]
  intro n _
  split <;> decide
theorem sign_at {ns : List Nat} {i c n : Nat} (h : (shownOf ns).cps[i]? = some c) (hn : ns[i]? = some n) : (⟨#[c]⟩ : Str) = if n % 2 = 0 then Str.ofString "z" else Str.ofString "-" := by
  simp only [shownOf, oddsOf, word, List.map_map, List.getElem?_toArray, List.getElem?_map, hn, Option.map_some] at h
  cases h
  by_cases h0 : n % 2 = 0
  · have : (n % 2 == 1) = false := by simp [h0]
    simp [sgn, h0, one_z]
  · have : n % 2 = 1 := by omega
    simp only [Function.comp, if_neg h0]
    rw [show Str.ofString "-" = ⟨#[45]⟩ from by decide +kernel]
    simp [sgn, this]
theorem whole_even {k n : Nat} {ns : List Nat} (hn : n % 2 = 0) : (mailOf k ns).toArray ++ #[122] ++ dots (nextOf k n) ++ #[10] = (mailOf k (ns ++ [n])).toArray := by
  rw [show nextOf k n = n / 2 from by simp [nextOf, hn]]
  exact mail_even hn
theorem whole_odd {k n : Nat} {ns : List Nat} (hn : n % 2 = 1) : (mailOf k ns).toArray ++ #[] ++ dots (nextOf k n) ++ #[10] = (mailOf k (ns ++ [n])).toArray := by
  apply Array.toList_inj.mp
  rw [mail_snoc]
  simp [dots, rowOf, nextOf, hn]
theorem next_bound {k n : Nat} (hk : k ≤ 3) (hn : n ≤ 1000) : nextOf k n ≤ 1600 := by
  unfold nextOf
  split <;> omega
theorem getn {k a b d i : Nat} {ta tb td : Tok} {v : Value} (h : (#[Value.int (nextOf k a : Int) ta, .int (nextOf k b : Int) tb, .int (nextOf k d : Int) td] : Array Value)[i]? = some v) : ∃ n t, v = .int ((nextOf k n : Nat) : Int) t ∧ [a, b, d][i]? = some n := by
  rcases i with _ | _ | _ | i
  · exact ⟨a, ta, (Option.some.inj h).symm, rfl⟩
  · exact ⟨b, tb, (Option.some.inj h).symm, rfl⟩
  · exact ⟨d, td, (Option.some.inj h).symm, rfl⟩
  · simp at h
theorem ne_same {prog : Program} {w : World} {A : Around} {E : Value → Shared → Prop} {s : Shared} {x : Array UInt8} {t u : Tok} {Q : Value → Shared → Prop} (h : Q (.bool false) s) : wpAny (model prog w) A (compareOp .NotEq (.bytes x t) (.bytes x u)) Q E s := by
  refine ne_bytes ?_
  rw [bne_self_eq_false]
  exact h
def WholeJ (a b d k : Nat) (z : Addr) (i : Nat) (m : Str → Option Value) : Prop :=
  (∃ t, m (Str.ofString "shown") = some (.str (shownOf [a, b, d]) t)) ∧ (∃ t, m (Str.ofString "mail") = some (.bytes (mailOf k [a, b, d]).toArray t)) ∧ m (Str.ofString "sizes") = some (.ref z) ∧ (∃ t, m (Str.ofString "whole") = some (.bytes (mailOf k ([a, b, d].take i)).toArray t))
local macro_rules | `(tactic| walk_at "call type:zip") => `(tactic| (k_here; (with_reducible rename Fr _ _ _ _ => lF'); (with_reducible rename News _ _ _ _ => lN'); refine zip_src (ys := [_, _, _]) rfl (shown_ascii _) (shown3 _ _ _) lF' lN' (.head _) ?_; intro _ _ _ _ _))
local macro_rules | `(tactic| walk_at "compareOp NotEq bytes bytes") => `(tactic| (k_here; refine ne_same ?_))

local macro_rules | `(tactic| walk_at "execs cons") => `(tactic| (k_here; refine exec_cons_tok (by assumption) ?_))
local macro_rules | `(tactic| walk_at "binaryOp Mult str int") => `(tactic| (k_here; refine mul_quotes (by omega) ?_; intro _ _))
local macro_rules | `(tactic| walk_at "binaryOp Add str str") => `(tactic| (k_here; refine add_strs (by (simp only [Str.length_append, quotes_len, shown_len, len_z, len_d, len_h, len_e, List.length_take, List.length_cons, List.length_nil]; omega)) ?_; intro _ _))
local macro_rules | `(tactic| walk_at "compareOp In str str") => `(tactic| (k_here; first | refine in_told_even (by assumption) ?_ | refine in_told_odd (by assumption) ?_))
local macro_rules | `(tactic| walk_at "compareOp NotEq str str") => `(tactic| (k_here; first | refine ne_told_even (by assumption) ?_ | refine ne_told_odd (by assumption) ?_))
local macro_rules | `(tactic| walk_at "binaryOp Add bytes bytes") => `(tactic| (k_here; refine add_byts (by (simp only [Array.size_append, List.size_toArray, dots_size, List.length_cons, List.length_nil]; omega)) ?_; intro _ _))
local macro_rules | `(tactic| walk_at "binaryOp Mult bytes int") => `(tactic| (k_here; first | (refine mul_dots1 (by omega) ?_; intro _ _) | (refine mul_dots2 (by omega) ?_; intro _ _)))
local macro_rules | `(tactic| walk_at "call ref") => `(tactic| (k_here; first
  | (k_dflt (refine' ctr_parse' _ _ _ _ _ _ _ _ _ _ _ _ _ _ _ _ _ _ _ _ _ _ _ _ (by k_asm) (by k_asm) (by k_asm) (by k_asm) (by k_asm) (by first | exact rfl | assumption) (by dsimp only; omega) (by dsimp only [Around.deeper]; omega) (by dsimp only [Around.deeper]; omega) ?_); intro t9 h9 tk9 F9 N9; (try dsimp only))
  | (k_dflt (refine' ctr_told _ _ _ _ _ _ _ _ _ _ _ _ _ _ _ _ _ _ _ _ _ _ _ _ _ (by k_asm) (by k_asm) (by k_asm) (by k_asm) (by k_asm) (by first | exact rfl | assumption) (by exact tok_pre (by assumption) (by assumption)) (by dsimp only [Around.deeper]; omega) (by dsimp only [Around.deeper]; omega) ?_); intro t9 h9 tk9 F9 N9; (try dsimp only))
  | (k_dflt (refine' ctr_quote _ _ _ _ _ _ _ _ _ _ _ _ _ _ _ _ _ _ _ _ _ _ _ _ _ (by k_asm) (by k_asm) (by k_asm) (by k_asm) (by k_asm) (by first | exact rfl | assumption) (by dsimp only; omega) (by dsimp only [Around.deeper]; omega) (by dsimp only [Around.deeper]; omega) ?_); intro t9 h9 tk9 F9 N9; (try dsimp only))
  | (k_dflt (refine' ctr_row _ _ _ _ _ _ _ _ _ _ _ _ _ _ _ _ _ _ _ _ _ _ _ _ _ _ (by k_asm) (by k_asm) (by k_asm) (by k_asm) (by k_asm) (by first | exact rfl | assumption) (by exact tok_pre2 (by assumption) (by assumption) (by assumption)) (by dsimp only [Around.deeper]; omega) (by dsimp only [Around.deeper]; omega) ?_); intro t9 h9 tk9 F9 N9; (try dsimp only))
  | (refine wpAny_call ?_; k_dflt cell_enter)))

theorem ctr_gone (w : World) (mg mb : Str → Option Value) (mean : ExcName → Option Value) (news : List (Addr × Obj)) (l : Addr) (e : Nat) (a b d k : Nat) (ta tb td u : Tok) (hm : (l, lst3 a b d ta tb td e) ∈ news) (ha : a ≤ 1000) (hb : b ≤ 1000) (hd : d ≤ 1000) (hk : k ≤ 3) :
    CtrAllN 30 120 w mg mb mean 143 news (fun s => 1 ≤ s.toks) [.ref l, .int (k : Int) u]
    (fun Q h₀ L m s => ∀ (y z : Addr) (t t1 t2 t3 : Tok) (e' : Nat) (h' : Heap) (tk' : Nat), Fr h₀ L h' m → News h₀ L h' ((y, { cls := .type "tuple", data := .seq #[.str (shownOf [a, b, d]) t, .ref z] }) :: (z, lst3 (nextOf k a) (nextOf k b) (nextOf k d) t1 t2 t3 e') :: news) → Q (.ref y) { s with heap := h', toks := tk' }) := by
  unfold CtrAllN; k_fill
  intro dp un gd cn cs aa ccd cl outer A₀ base h₀ L m s Q E B F X N T hkk hpre hroom hun hret
  refine wpAny_call ?_
  k_dflt cell_enter
  rename_i g L1 h1 FG F1 N1 B1 X1 T1
  have hkk2 : ScopeKind.function = ScopeKind.function := rfl
  refine segN 3 (GoneInv s g L1 news [a, b, d] 0 k u) ?_ ?_
  · simp only [List.take_succ_cons, List.take_zero]
    intro Rest hRest
    refine exec_cons_tok (Nat.le_trans hpre (Nat.le_add_right ..)) ?_
    walk1; walk1; walk1
    intro tk1 htk1
    refine exec_cons_tok htk1 ?_
    walk1; walk1; walk1
    intro tk2 htk2
    rename Fr _ _ _ _ => F2
    rename News _ _ _ _ => N2
    refine PySem.wpAny_execs_cons ?_
    refine For_walk 1 (fun i m => (∃ t, m (Str.ofString "shown") = some (.str (shownOf ([a, b, d].take i)) t)) ∧ (∃ t, m (Str.ofString "mail") = some (.bytes (mailOf 0 ([a, b, d].take i)).toArray t)) ∧ m (Str.ofString "sendings") = some (.int (k : Int) u))
      F2 N2 htk2 rfl rfl (by intro _; rfl) (by passes_own) (fun R h => by k_dflt (exact ld F2 rfl h)) (iter_list (vs := [.int (a : Int) ta, .int (b : Int) tb, .int (d : Int) td]) rfl (N2 _ hm).1 (List.mem_map_of_mem hm)) ⟨⟨_, rfl⟩, ⟨_, rfl⟩, rfl⟩ ?_ ?_
    · rintro i v p q m₁ h tk own hi h1 h2 h3 hP ⟨⟨t1, g1⟩, ⟨t2, g2⟩, g3⟩ F3 N3
      clear F2 N2
      obtain ⟨n, tn, rfl, hn⟩ := get3 hP
      have hn1 : n ≤ 1000 := by
        have := List.mem_of_getElem? hn
        simp at this
        omega
      have htk3 : 1 ≤ tk := by omega
      have F4 := fr_re3 (a := Str.ofString "shown") (b := Str.ofString "mail") (c := Str.ofString "sendings") F3 g1 g2 g3
      clear F3
      refine shut fun Q' hQ' => ?_
      have hpar : n % 2 = 0 ∨ n % 2 = 1 := by omega
      have hlen := shown_len ([a, b, d].take i)
      have hml := mail_len 0 ([a, b, d].take i) (fun x hx => by
        have := List.mem_of_mem_take hx
        simp at this
        omega)
      have hml2 : ([a, b, d].take i).length * (1502 + 0) ≤ 3 * 1502 := Nat.mul_le_mul (by rw [List.length_take]; simp; omega) (Nat.le_refl _)
      have hs := take_snoc hn
      rcases hpar with hpar | hpar
      · k_steps
        refine hQ' _ _ ?_
        dsimp only [TurnT]
        refine' TurnEndT.intro ?F ?N ?J
        case F => k_asm
        case N => k_asm
        case J => exact ⟨⟨_, Eq.trans (b := some (Value.str _ _)) rfl (at_str (by rw [hs, shown_snoc, if_pos hpar]))⟩, ⟨_, Eq.trans (b := some (Value.bytes _ _)) rfl (at_byts (by rw [hs]; exact mail_even hpar))⟩, rfl⟩
      · k_steps
        refine hQ' _ _ ?_
        dsimp only [TurnT]
        refine' TurnEndT.intro ?F ?N ?J
        case F => k_asm
        case N => k_asm
        case J => exact ⟨⟨_, Eq.trans (b := some (Value.str _ _)) rfl (at_str (by rw [hs, shown_snoc, if_neg (by omega)]))⟩, ⟨_, Eq.trans (b := some (Value.bytes _ _)) rfl (at_byts (by rw [hs]; exact mail_odd hpar))⟩, rfl⟩
    · rintro m₁ h tk htk ⟨⟨t1, g1⟩, ⟨t2, g2⟩, g3⟩ F3 N3
      exact PySem.wpAny_execs_nil (hRest _ ⟨_, _, _, rfl, htk, F3, N3, ⟨_, g1⟩, ⟨_, g2⟩, g3⟩)
  · rintro s2 ⟨h, tk, m2, rfl, htk, F2, N2, ⟨t1, g1⟩, ⟨t2, g2⟩, g3⟩
    have F3 := fr_re3 (a := Str.ofString "shown") (b := Str.ofString "mail") (c := Str.ofString "sendings") F2 g1 g2 g3
    clear F2
    refine segN 1 (GoneInv s g L1 news [a, b, d] k k u) ?_ ?_
    · simp only [List.drop_succ_cons, List.drop_zero, List.take_succ_cons, List.take_zero]
      intro Rest hRest
      refine PySem.wpAny_execs_cons ?_
      refine For_range 1 (fun i m => (∃ t, m (Str.ofString "shown") = some (.str (shownOf [a, b, d]) t)) ∧ (∃ t, m (Str.ofString "mail") = some (.bytes (mailOf i [a, b, d]).toArray t)) ∧ m (Str.ofString "sendings") = some (.int (k : Int) u))
        k (by omega) rfl F3 N2 htk rfl rfl (by intro _; rfl) (by passes_own) ?_ ?_ ?_ ?_
      · intro R hR
        k_steps
        exact hR _ _ _ _ _ _ (by assumption) (by k_asm) (by k_asm)
      · exact ⟨⟨_, rfl⟩, ⟨_, rfl⟩, rfl⟩
      · rintro i v m₁ h tk own hi h1 ⟨⟨t1, g1⟩, ⟨t2, g2⟩, g3⟩ F3 N3
        have F4 := fr_re3 (a := Str.ofString "shown") (b := Str.ofString "mail") (c := Str.ofString "sendings") F3 g1 g2 g3
        clear F3
        refine shut fun Q' hQ' => ?_
        have hml := mail_len i [a, b, d] (fun x hx => by
          simp at hx
          omega)
        have hml2 : [a, b, d].length * (1502 + i) ≤ 3 * 1505 := Nat.mul_le_mul (by simp) (by omega)
        k_steps
        refine hQ' _ _ ?_
        dsimp only [TurnT]
        refine' TurnEndT.intro ?F ?N ?J
        case F => k_asm
        case N => k_asm
        case J => exact ⟨⟨_, rfl⟩, ⟨_, rfl⟩, rfl⟩
      · rintro m₁ h tk htk ⟨⟨t1, g1⟩, ⟨t2, g2⟩, g3⟩ F3 N3
        exact PySem.wpAny_execs_nil (hRest _ ⟨_, _, _, rfl, htk, F3, N3, ⟨_, g1⟩, ⟨_, g2⟩, g3⟩)
    · rintro s3 ⟨h3, tk3, m3, rfl, htk3, F4, N4, ⟨t3, g4⟩, ⟨t4, g5⟩, g6⟩
      have F5 := fr_re3 (a := Str.ofString "shown") (b := Str.ofString "mail") (c := Str.ofString "sendings") F4 g4 g5 g6
      clear F4
      refine segN 1 (SizeInv s g L1 news [a, b, d] a b d k) ?_ ?_
      · simp only [List.drop_succ_cons, List.drop_zero, List.take_succ_cons, List.take_zero]
        intro Rest hRest
        refine PySem.wpAny_execs_cons ?_
        refine Assign_Comp_walk (h₀ := g) 1 (by with_unfolding_all rfl) (by with_unfolding_all rfl) (by decide) rfl (by decide) rfl rfl rfl (by intro _; rfl) ?_
        refine wpAny_later 1 htk3 (shut fun Q' hQ' => ?_)
        k_steps
        refine hQ' _ _ ?_
        intro hle
        clear hQ' Q'
        rename Fr _ _ _ _ => F6
        rename News _ _ _ _ => N6
        refine CompAt.intro 3 _ (fun i vs => Nts vs (([a, b, d].take i).map (nextOf k))) F6 N6 hle (by decide) (comp_list (vs := [_, _, _]) rfl (N6 _ (.head _)).1 (.head _)) .nil ?_ ?_
        · intro C i v p q vs mc h tk own E' hi h1 h2 h3 hP hG F7 N7 hC hmc hnC
          obtain ⟨n, tn, rfl, hn⟩ := getr hP
          have hn1 : n ≤ 1000 := by
            have := List.mem_of_getElem? hn
            simp at this
            omega
          have htk9 : 1 ≤ tk := by omega
          refine shut fun Q' hQ' => ?_
          k_steps
          exact hQ' _ _ (CompTurn.intro (by k_asm) (by k_asm) (by rw [take_snoc hn, List.map_append]; exact Nts.snoc hG))
        · intro D h tk vs e htk hG F8 N8
          obtain ⟨t1, t2, t3, rfl⟩ := nts3 hG
          dsimp only [mapSet] at F8
          exact PySem.wpAny_execs_nil (hRest _ ⟨_, _, _, D, _, _, _, _, rfl, htk, F8, fun p hp => N8 p (by
            rcases List.mem_cons.mp hp with rfl | hp
            · exact .head _
            · exact .tail _ (.tail _ (.tail _ hp))), ⟨_, rfl⟩, ⟨_, rfl⟩, rfl⟩)
      · rintro s4 ⟨h4, tk4, m4, z, y1, y2, y3, e4, rfl, htk4, F9, N9, ⟨t5, g7⟩, ⟨t6, g8⟩, g9⟩
        have F10 := fr_re3 (a := Str.ofString "shown") (b := Str.ofString "mail") (c := Str.ofString "sizes") F9 g7 g8 g9
        clear F9
        simp only [List.drop_succ_cons, List.drop_zero]
        k_steps
        rename ZipSrc _ _ _ _ _ _ _ _ _ _ _ _ => S'
        rename Fr _ _ _ _ => F11
        rename News _ _ _ _ => N11
        refine S' _ rfl _ _ _ _ (WholeJ a b d k z) ⟨⟨_, rfl⟩, ⟨_, rfl⟩, rfl, ⟨_, rfl⟩⟩ ?_ ?_
        · rintro i c uu v m₁ s₁ own ⟨h, tk, rfl⟩ hi hc hv ⟨⟨t1, j1⟩, ⟨t2, j2⟩, j3, ⟨t4, j4⟩⟩ F12 N12
          clear S' F11 N11
          obtain ⟨n, tn, rfl, hn⟩ := getn hv
          have hn1 : n ≤ 1000 := by
            have := List.mem_of_getElem? hn
            simp at this
            omega
          have hb1 : nextOf k n ≤ 1600 := next_bound hk hn1
          rw [sign_at hc hn] at F12
          have F13 := fr_re4 (a := Str.ofString "shown") (b := Str.ofString "mail") (c := Str.ofString "sizes") (d := Str.ofString "whole") F12 j1 j2 j3 j4
          clear F12
          have hs := take_snoc hn
          have hml := mail_len k ([a, b, d].take i) (fun x hx => by
            have := List.mem_of_mem_take hx
            simp at this
            omega)
          have hml2 : ([a, b, d].take i).length * (1502 + k) ≤ 3 * 1505 := Nat.mul_le_mul (by rw [List.length_take]; simp; omega) (by omega)
          refine shut fun Q' hQ' => ?_
          have hpar : n % 2 = 0 ∨ n % 2 = 1 := by omega
          rcases hpar with hpar | hpar
          · rw [if_pos hpar] at F13
            k_steps
            refine hQ' _ _ (LoopStep3.next (LoopStep2.intro (by k_asm) (by k_asm) rfl ⟨rfl, ⟨_, rfl⟩, ⟨_, rfl⟩, rfl, ⟨_, Eq.trans (b := some (Value.bytes _ _)) rfl (at_byts (by rw [hs]; exact whole_even hpar))⟩⟩))
          · rw [if_neg (by omega)] at F13
            k_steps
            refine hQ' _ _ (LoopStep3.next (LoopStep2.intro (by k_asm) (by k_asm) rfl ⟨rfl, ⟨_, rfl⟩, ⟨_, rfl⟩, rfl, ⟨_, Eq.trans (b := some (Value.bytes _ _)) rfl (at_byts (by rw [hs]; exact whole_odd hpar))⟩⟩))
        · rintro h' tk m' F12 N12 ⟨⟨t1, j1⟩, ⟨t2, j2⟩, j3, ⟨t4, j4⟩⟩
          clear S' F11 N11
          rw [shown3] at j4
          simp only [List.take_succ_cons, List.take_zero] at j4
          have F13 := fr_re4 (a := Str.ofString "shown") (b := Str.ofString "mail") (c := Str.ofString "sizes") (d := Str.ofString "whole") F12 j1 j2 j3 j4
          clear F12
          k_steps
          exact hret _ _ _ _ _ _ _ _ _ (by k_asm) (by k_asm)
end Mine

end
section
open PySem PySem.W PyProof.Rows PySem.Spec
namespace Mine
set_option maxRecDepth 100000

section
variable {M : Model} {A : Around} {E : Value → Shared → Prop} {s : Shared} {env : Env}
theorem Assign_shut {x pos' value pos} {Q : Flow → Shared → Prop} (h : ∀ Q' : Value → Shared → Prop, (∀ v s', wpAny M A (storeName env x v) (fun _ s'' => Q .next s'') E s' → Q' v s') → wpAny M A (eval value env) Q' E s)
    (hs : swapsWith value (some (.Name x pos')) pos.line env = pure false := by rfl) :
    wpAny M A (exec (.Assign [.Name x pos'] value pos) env) Q E s := wpAny_Assign_Name (h _ fun _ _ q => q) hs
end

section
variable {M : Model} {A : Around} {E : Value → Shared → Prop} {s : Shared} {name : Str} {scope : Scope} {L a : Addr} {cd : Value} {h₀ : Heap} {m : Str → Option Value} {news : List (Addr × Obj)}
theorem st_cell {x : Str} {c : Addr} {o : Obj} {v₀ : Option Value} {v : Value} (keep : List (Addr × Obj)) {Q : Unit → Shared → Prop} (F : Fr h₀ L s.heap m) (N : News h₀ L s.heap news)
    (hc : (cellsFrom (L + 1) scope.names []).lookup x = some c) (hm : (c, o) ∈ news) (hd : o.data = .cell v₀) (hkeep : ∀ p ∈ keep, p ∈ news ∧ p.1 ≠ c)
    (h : ∀ h' o', Fr h₀ L h' m → News h₀ L h' ((c, o') :: keep) → o'.data = .cell (some v) → Q () { s with heap := h' })
    (hk : scope.kind = .function := by rfl) (hl : (envOfC name scope L a cd).kindOf x = some .cell := by rfl) :
    wpAny M A (storeName (envOfC name scope L a cd) x v) Q E s := by
  have hmem := N (c, o) hm
  refine wpAny_storeName_cell hk hl hc ⟨o, hmem.1, hd⟩ fun h' hv hs => ?_
  obtain ⟨o', ho', hd'⟩ := hv
  refine h h' o' ⟨F.ns.sameBut hs (Ne.symm hmem.2.1), fun b ob e => (hs.2 b (fun q => ?_)).trans (F.keep b ob e), F.above⟩ (fun p hp => ?_) hd'
  · rw [q, hmem.2.2] at e; cases e
  · rcases List.mem_cons.mp hp with rfl | hp
    · exact ⟨ho', hmem.2⟩
    · obtain ⟨h1, h2⟩ := hkeep p hp
      exact ⟨(hs.2 p.1 h2).trans (N p h1).1, (N p h1).2⟩
end

theorem news_sub {h₀ h : Heap} {L : Addr} {a b : List (Addr × Obj)} (N : News h₀ L h a) (hs : ∀ p ∈ b, p ∈ a) : News h₀ L h b := fun p hp => N p (hs p hp)
theorem ne31 (L : Addr) : L + 1 + 1 + 1 ≠ L + 1 := Nat.ne_of_gt (Nat.lt_succ_of_lt (Nat.lt_succ_self _))
theorem ne21 (L : Addr) : L + 1 + 1 ≠ L + 1 := Nat.ne_of_gt (Nat.lt_succ_self _)
theorem ne32 (L : Addr) : L + 1 + 1 + 1 ≠ L + 1 + 1 := Nat.ne_of_gt (Nat.lt_succ_self _)
section
variable {M : Model} {A : Around} {E : Value → Shared → Prop} {s : Shared} {name : Str} {scope : Scope} {L a : Addr} {cd : Value} {h₀ : Heap} {m : Str → Option Value} {news : List (Addr × Obj)}
theorem st_D {x : Str} {oS oW oD : Obj} {v₀ : Option Value} {v : Value} (rest : List (Addr × Obj)) {Q : Unit → Shared → Prop} (F : Fr h₀ L s.heap m) (N : News h₀ L s.heap news)
    (hc : (cellsFrom (L + 1) scope.names []).lookup x = some (L + 1)) (mS : (L + 1 + 1 + 1, oS) ∈ news) (mW : (L + 1 + 1, oW) ∈ news) (mD : (L + 1, oD) ∈ news) (hd : oD.data = .cell v₀) (hrest : ∀ p ∈ rest, p ∈ news ∧ p.1 ≠ L + 1)
    (h : ∀ h' o', Fr h₀ L h' m → News h₀ L h' ((L + 1 + 1 + 1, oS) :: (L + 1 + 1, oW) :: (L + 1, o') :: rest) → o'.data = .cell (some v) → Q () { s with heap := h' })
    (hk : scope.kind = .function := by rfl) (hl : (envOfC name scope L a cd).kindOf x = some .cell := by rfl) :
    wpAny M A (storeName (envOfC name scope L a cd) x v) Q E s := by
  refine st_cell ((L + 1 + 1 + 1, oS) :: (L + 1 + 1, oW) :: rest) F N hc mD hd (fun p hp => ?_) (fun h' o' F' N' d' => h h' o' F' (news_sub N' fun p hp => ?_) d') hk hl
  · rcases List.mem_cons.mp hp with rfl | hp
    · exact ⟨mS, ne31 L⟩
    · rcases List.mem_cons.mp hp with rfl | hp
      · exact ⟨mW, ne21 L⟩
      · exact hrest p hp
  · simp only [List.mem_cons] at hp ⊢
    rcases hp with e | e | e | e
    · exact .inr (.inl e)
    · exact .inr (.inr (.inl e))
    · exact .inl e
    · exact .inr (.inr (.inr e))
theorem st_W {x : Str} {oS oW oD : Obj} {v₀ : Option Value} {v : Value} (rest : List (Addr × Obj)) {Q : Unit → Shared → Prop} (F : Fr h₀ L s.heap m) (N : News h₀ L s.heap news)
    (hc : (cellsFrom (L + 1) scope.names []).lookup x = some (L + 1 + 1)) (mS : (L + 1 + 1 + 1, oS) ∈ news) (mW : (L + 1 + 1, oW) ∈ news) (mD : (L + 1, oD) ∈ news) (hd : oW.data = .cell v₀) (hrest : ∀ p ∈ rest, p ∈ news ∧ p.1 ≠ L + 1 + 1)
    (h : ∀ h' o', Fr h₀ L h' m → News h₀ L h' ((L + 1 + 1 + 1, oS) :: (L + 1 + 1, o') :: (L + 1, oD) :: rest) → o'.data = .cell (some v) → Q () { s with heap := h' })
    (hk : scope.kind = .function := by rfl) (hl : (envOfC name scope L a cd).kindOf x = some .cell := by rfl) :
    wpAny M A (storeName (envOfC name scope L a cd) x v) Q E s := by
  refine st_cell ((L + 1 + 1 + 1, oS) :: (L + 1, oD) :: rest) F N hc mW hd (fun p hp => ?_) (fun h' o' F' N' d' => h h' o' F' (news_sub N' fun p hp => ?_) d') hk hl
  · rcases List.mem_cons.mp hp with rfl | hp
    · exact ⟨mS, ne32 L⟩
    · rcases List.mem_cons.mp hp with rfl | hp
      · exact ⟨mD, (ne21 L).symm⟩
      · exact hrest p hp
  · simp only [List.mem_cons] at hp ⊢
    rcases hp with e | e | e | e
    · exact .inr (.inl e)
    · exact .inl e
    · exact .inr (.inr (.inl e))
    · exact .inr (.inr (.inr e))
theorem st_S {x : Str} {oS oW oD : Obj} {v₀ : Option Value} {v : Value} (rest : List (Addr × Obj)) {Q : Unit → Shared → Prop} (F : Fr h₀ L s.heap m) (N : News h₀ L s.heap news)
    (hc : (cellsFrom (L + 1) scope.names []).lookup x = some (L + 1 + 1 + 1)) (mS : (L + 1 + 1 + 1, oS) ∈ news) (mW : (L + 1 + 1, oW) ∈ news) (mD : (L + 1, oD) ∈ news) (hd : oS.data = .cell v₀) (hrest : ∀ p ∈ rest, p ∈ news ∧ p.1 ≠ L + 1 + 1 + 1)
    (h : ∀ h' o', Fr h₀ L h' m → News h₀ L h' ((L + 1 + 1 + 1, o') :: (L + 1 + 1, oW) :: (L + 1, oD) :: rest) → o'.data = .cell (some v) → Q () { s with heap := h' })
    (hk : scope.kind = .function := by rfl) (hl : (envOfC name scope L a cd).kindOf x = some .cell := by rfl) :
    wpAny M A (storeName (envOfC name scope L a cd) x v) Q E s := by
  refine st_cell ((L + 1 + 1, oW) :: (L + 1, oD) :: rest) F N hc mS hd (fun p hp => ?_) h hk hl
  rcases List.mem_cons.mp hp with rfl | hp
  · exact ⟨mW, (ne32 L).symm⟩
  · rcases List.mem_cons.mp hp with rfl | hp
    · exact ⟨mD, (ne31 L).symm⟩
    · exact hrest p hp
end
theorem one_rest {q : Addr × Obj} {news : List (Addr × Obj)} {c : Addr} (h1 : q ∈ news) (h2 : q.1 ≠ c) : ∀ p ∈ [q], p ∈ news ∧ p.1 ≠ c := fun p hp => by
  rw [List.mem_singleton.mp hp]; exact ⟨h1, h2⟩

/-- the state of the law's own text: its three cells and what else is known -/
def LS (s : Shared) (g : Heap) (L : Addr) (lo : Nat) (vS vW vD : Option Value) (rest : List (Addr × Obj)) (m : Str → Option Value) (s' : Shared) : Prop :=
  ∃ h tk oS oW oD, s' = { s with heap := h, toks := tk } ∧ lo ≤ tk ∧ Fr g L h m ∧ News g L h ((L + 1 + 1 + 1, oS) :: (L + 1 + 1, oW) :: (L + 1, oD) :: rest) ∧ oS.data = .cell vS ∧ oW.data = .cell vW ∧ oD.data = .cell vD

theorem drawn_cases {ys : List Value} {ns : List Int} (h : IntsAre ys (List.map (fun k' : Int => k'.fmod (10 ^ Int.toNat 6)) (List.take 4 ns))) :
    ys = [] ∨ (∃ (a : Nat) (t : Tok), a < 1000000 ∧ ys = [.int (a : Int) t]) ∨ (∃ (a b : Nat) (t u : Tok), a < 1000000 ∧ b < 1000000 ∧ ys = [.int (a : Int) t, .int (b : Int) u]) ∨
    (∃ (a b c : Nat) (t u v : Tok), a < 1000000 ∧ b < 1000000 ∧ c < 1000000 ∧ ys = [.int (a : Int) t, .int (b : Int) u, .int (c : Int) v]) ∨
    (∃ (a b c d : Nat) (t u v z : Tok), a < 1000000 ∧ b < 1000000 ∧ c < 1000000 ∧ d < 1000000 ∧ ys = [.int (a : Int) t, .int (b : Int) u, .int (c : Int) v, .int (d : Int) z]) := by
  have e : (10 : Int) ^ Int.toNat 6 = 1000000 := by decide
  rw [e] at h
  have hb : ∀ x : Int, ∃ n : Nat, n < 1000000 ∧ x.fmod 1000000 = (n : Int) := fun x => by
    have h1 := Int.fmod_nonneg_of_pos x (b := 1000000) (by decide)
    have h2 := Int.fmod_lt_of_pos x (b := 1000000) (by decide)
    exact ⟨(x.fmod 1000000).toNat, by omega, by omega⟩
  rcases ns with _ | ⟨p, _ | ⟨q, _ | ⟨r, _ | ⟨t, ns⟩⟩⟩⟩
  · cases h; exact .inl rfl
  · obtain ⟨a, ha, ea⟩ := hb p
    simp only [List.take_succ_cons, List.take_zero, List.take_nil, List.map_cons, List.map_nil, ea] at h
    cases h with | cons _ _ h => cases h; exact .inr (.inl ⟨a, _, ha, rfl⟩)
  · obtain ⟨a, ha, ea⟩ := hb p
    obtain ⟨b, hb', eb⟩ := hb q
    simp only [List.take_succ_cons, List.take_zero, List.take_nil, List.map_cons, List.map_nil, ea, eb] at h
    cases h with | cons _ _ h => cases h with | cons _ _ h => cases h; exact .inr (.inr (.inl ⟨a, b, _, _, ha, hb', rfl⟩))
  · obtain ⟨a, ha, ea⟩ := hb p
    obtain ⟨b, hb', eb⟩ := hb q
    obtain ⟨c, hc, ec⟩ := hb r
    simp only [List.take_succ_cons, List.take_zero, List.take_nil, List.map_cons, List.map_nil, ea, eb, ec] at h
    cases h with | cons _ _ h => cases h with | cons _ _ h => cases h with | cons _ _ h => cases h; exact .inr (.inr (.inr (.inl ⟨a, b, c, _, _, _, ha, hb', hc, rfl⟩)))
  · obtain ⟨a, ha, ea⟩ := hb p
    obtain ⟨b, hb', eb⟩ := hb q
    obtain ⟨c, hc, ec⟩ := hb r
    obtain ⟨d, hd, ed⟩ := hb t
    simp only [List.take_succ_cons, List.take_zero, List.map_cons, List.map_nil, ea, eb, ec, ed] at h
    cases h with | cons _ _ h => cases h with | cons _ _ h => cases h with | cons _ _ h => cases h with | cons _ _ h => cases h; exact .inr (.inr (.inr (.inr ⟨a, b, c, d, _, _, _, _, ha, hb', hc, hd, rfl⟩)))
section
variable {prog : Program} {w : World} {A : Around} {E : Value → Shared → Prop} {s : Shared} {h₀ : Heap} {L : Addr} {news : List (Addr × Obj)}
theorem len_news {l : Addr} {items : Array Value} {k : Nat} {Q : Value → Shared → Prop} (N : News h₀ L s.heap news) (hm : (l, ({ cls := .type "list", data := .seq items k } : Obj)) ∈ news) (hfit : items.size < 1000000)
    (h : Q (.int (items.size : Int) (s.toks + 1)) { s with toks := s.toks + 1 + 1 }) : wpAny (model prog w) A (call (.builtin "len") [.ref l]) Q E s :=
  PyProof.Rows.len_list ⟨_, (N _ hm).1, rfl, _, rfl⟩ (by omega) h
end
section
variable {prog : Program} {w : World} {A : Around} {E : Value → Shared → Prop} {s : Shared} {env : Env} {Q : Value → Shared → Prop}
theorem Comp_walkF {h₀ : Heap} {m : Str → Option Value} {scope : Scope} {cl : List (Str × Addr)} {x : Str} {px : Pos} {elt iter : PySem.Expr} {pos : Pos} (lo : Nat) (_F : Fr h₀ env.locals s.heap m)
    (hclos : closureFor scope env = pure cl) (hcell : ∀ y ∈ scope.names, y.2 ≠ .cell) (hkind : scope.kind = .function)
    (hnames : ∀ y ∈ scope.names, y.2 = .local → scope.names.lookup y.1 = some .local) (hx : scope.names.lookup x = some .local) (hs : ∀ x, foldedSetIterable iter env x = pure x)
    (h : wpAny (model prog w) A (eval iter env) (CompAt prog w A E env scope cl x elt h₀ lo none Q) E s) :
    wpAny (model prog w) A (eval (.ListComp elt [⟨.Name x px, iter, [], 0⟩] scope pos) env) Q E s := Comp_walk lo hclos hcell hkind hnames hx hs h
end
section
variable {M : Model} {A : Around} {E : Value → Shared → Prop} {s : Shared} {L : Addr} {h₀ : Heap} {news : List (Addr × Obj)} {env : Env}
theorem ld_compcell {x : Str} {pos : Pos} {c C : Addr} {o : Obj} {v : Value} {scope : Scope} {cl : List (Str × Addr)} {Q : Value → Shared → Prop} (N : News h₀ L s.heap news) (hm : (c, o) ∈ news) (hd : o.data = .cell (some v)) (hc : cl.lookup x = some c)
    (hk : scope.kind = .function) (hl : (compEnvC scope cl C env).kindOf x = some .cell) (hdb : (x == ("__debug__" : Str)) = false) (h : Q v s) :
    wpAny M A (eval (.Name x pos) (compEnvC scope cl C env)) Q E s := wpAny_Name (wpAny_loadName_cell hk hl hc ⟨o, N.get hm, hd⟩ h) hdb
end
/-- a row of single signs -/
inductive Sts : List Value → List Bool → Prop
  | nil : Sts [] []
  | cons {b : Bool} {t : Tok} {P : List Value} {ps : List Bool} : Sts P ps → Sts (.str (if b then Str.ofString "-" else Str.ofString "z") t :: P) (b :: ps)
theorem Sts.snoc {vs : List Value} {bs : List Bool} {b : Bool} {t : Tok} (h : Sts vs bs) : Sts (vs ++ [.str (if b then Str.ofString "-" else Str.ofString "z") t]) (bs ++ [b]) := by
  induction h with
  | nil => exact .cons .nil
  | cons _ ih => exact .cons ih
theorem sts4 {vs : List Value} {a b c d : Bool} (h : Sts vs [a, b, c, d]) : ∃ t1 t2 t3 t4, vs = [.str (if a then Str.ofString "-" else Str.ofString "z") t1, .str (if b then Str.ofString "-" else Str.ofString "z") t2, .str (if c then Str.ofString "-" else Str.ofString "z") t3, .str (if d then Str.ofString "-" else Str.ofString "z") t4] := by
  cases h with | cons h => cases h with | cons h => cases h with | cons h => cases h with | cons h => cases h; exact ⟨_, _, _, _, rfl⟩
end Mine

end
section
open PySem PySem.W PyProof.Rows PySem.Spec
namespace Mine
set_option maxRecDepth 100000
def wbit (n i : Nat) : Bool := n / 2 ^ i % 2 == 1
def wishOf (n : Nat) : List Bool := [wbit n 0, wbit n 1, wbit n 2, wbit n 3]
theorem wish_get {n i : Nat} (h : i < 4) : (wishOf n)[i]? = some (wbit n i) := by
  rcases i with _ | _ | _ | _ | i
  · rfl
  · rfl
  · rfl
  · rfl
  · omega
abbrev sg (b : Bool) : Str := if b then Str.ofString "-" else Str.ofString "z"
theorem join4 (a b c d : Bool) : JoinOk (Str.ofString "") [sg a, sg b, sg c, sg d] = true ∧ Txt.join (Str.ofString "") [sg a, sg b, sg c, sg d] = word [a, b, c, d] := by
  cases a <;> cases b <;> cases c <;> cases d <;> decide +kernel
section
variable {prog : Program} {w : World} {A : Around} {E : Value → Shared → Prop} {s : Shared} {h₀ : Heap} {L : Addr} {news : List (Addr × Obj)}
theorem join_signs {l : Addr} {a b c d : Bool} {t t1 t2 t3 t4 : Tok} {k : Nat} {Q : Value → Shared → Prop} (N : News h₀ L s.heap news)
    (hm : (l, ({ cls := .type "list", data := .seq #[.str (sg a) t1, .str (sg b) t2, .str (sg c) t3, .str (sg d) t4] k } : Obj)) ∈ news)
    (h : ∀ t' k, Q (.str (word [a, b, c, d]) t') { s with toks := k }) : wpAny (model prog w) A (call (.builtin "str.join") [.str (Str.ofString "") t, .ref l]) Q E s := by
  obtain ⟨j1, j2⟩ := join4 a b c d
  refine SC.join (l := [(sg a, t1), (sg b, t2), (sg c, t3), (sg d, t4)]) ⟨_, (N _ hm).1, rfl, _, rfl⟩ rfl j1 fun t' k => ?_
  have := h t' k
  rw [← j2] at this
  exact this
end
theorem sts_snoc_z {vs : List Value} {n i : Nat} {t : Tok} (h : Sts vs ((wishOf n).take i)) (hi : i < 4) (hb : Int.fmod (Int.fdiv (n : Int) (2 ^ i)) 2 = 0) : Sts (vs ++ [.str (Str.ofString "z") t]) ((wishOf n).take (i + 1)) := by
  rw [take_snoc (wish_get hi)]
  have e : wbit n i = false := by
    unfold wbit
    rw [Int.fmod_eq_emod_of_nonneg _ (by decide), Int.fdiv_eq_ediv_of_nonneg _ (Int.le_of_lt (Int.pow_pos (by decide)))] at hb
    have : ((n / 2 ^ i % 2 : Nat) : Int) = 0 := by rw [← hb]; push_cast; rfl
    have : n / 2 ^ i % 2 = 0 := by omega
    simp [this]
  rw [e]
  exact Sts.snoc (b := false) h
theorem sts_snoc_d {vs : List Value} {n i : Nat} {t : Tok} (h : Sts vs ((wishOf n).take i)) (hi : i < 4) (hb : ¬ Int.fmod (Int.fdiv (n : Int) (2 ^ i)) 2 = 0) : Sts (vs ++ [.str (Str.ofString "-") t]) ((wishOf n).take (i + 1)) := by
  rw [take_snoc (wish_get hi)]
  have e : wbit n i = true := by
    unfold wbit
    rw [Int.fmod_eq_emod_of_nonneg _ (by decide), Int.fdiv_eq_ediv_of_nonneg _ (Int.le_of_lt (Int.pow_pos (by decide)))] at hb
    have : ¬ ((n / 2 ^ i % 2 : Nat) : Int) = 0 := by intro q; apply hb; rw [← q]; push_cast; rfl
    have : n / 2 ^ i % 2 = 1 := by omega
    simp [this]
  rw [e]
  exact Sts.snoc (b := true) h
end Mine

end
section
open PySem PySem.W PyProof.Rows PySem.Spec
namespace Mine
set_option maxRecDepth 100000

section
variable {M : Model} {A : Around} {E : Value → Shared → Prop} {env : Env} {Q : Flow → Shared → Prop}
/-- a part of a block, from word to word: nothing of it stands in what follows -/
theorem segI {l : List Stmt} {I : Shared → Prop} (k : Nat) (J : Shared → Prop) (h1 : ∀ s, I s → ∀ Rest : Shared → Prop, (∀ s', J s' → Rest s') → wpAny M A (execs (l.take k) env) (fun f s' => match f with | .next => Rest s' | f => Q f s') E s)
    (h2 : ∀ s', J s' → wpAny M A (execs (l.drop k) env) Q E s') : ∀ s, I s → wpAny M A (execs l env) Q E s := fun s hs => segN k J (h1 s hs) h2
end

abbrev rIt (x l c : Int) : Obj := { cls := .type "range_iterator", dict := none, data := .fields #[rawInt x, rawInt l, rawInt c], slots := #[] }
/-- not a cell -/
def NC (o : Obj) : Prop := ∀ v, o.data ≠ .cell v
def NoIt (led : List (Addr × Obj)) : Prop := ∀ p ∈ led, ∀ x l c, p.2 ≠ rIt x l c
theorem NoIt.nil : NoIt [] := fun _ h => nomatch h
theorem NoIt.cons {a : Addr} {o : Obj} {led : List (Addr × Obj)} (h1 : ∀ x l c, o ≠ rIt x l c) (h2 : NoIt led) : NoIt ((a, o) :: led) := fun p hp => by
  rcases List.mem_cons.mp hp with rfl | hp
  · exact h1
  · exact h2 p hp
theorem noit_list {vs : Array Value} {k : Nat} : ∀ x l c, ({ cls := .type "list", data := .seq vs k } : Obj) ≠ rIt x l c := fun _ _ _ h => by simp [rIt] at h
theorem noit_listOf {vs : Array Value} {k : Nat} : ∀ x l c, W.listOf vs k ≠ rIt x l c := fun _ _ _ h => by simp [rIt, W.listOf] at h
theorem noit_cell {o : Obj} {v : Option Value} (hd : o.data = .cell v) : ∀ x l c, o ≠ rIt x l c := fun _ _ _ h => by rw [h] at hd; cases hd

def TurnEndN (h₀ : Heap) (L : Addr) (J : (Str → Option Value) → List (Addr × Obj) → Prop) (own : List (Addr × Obj)) (s₁ s₂ : Shared) : Prop :=
  ∃ h' tk m' led' news', s₂ = { s₁ with heap := h', toks := tk } ∧ Fr h₀ L h' m' ∧ News h₀ L h' news' ∧ (∀ p ∈ led', p ∈ news') ∧ (∀ p ∈ own, p ∈ news') ∧ J m' led'
def TurnN (h₀ : Heap) (L : Addr) (J : (Str → Option Value) → List (Addr × Obj) → Prop) (own : List (Addr × Obj)) (s₁ : Shared) (Q : Flow → Shared → Prop) (f : Flow) (s₂ : Shared) : Prop :=
  match f with
  | .ret v => Q (.ret v) s₂
  | .brk => Q .next s₂
  | _ => TurnEndN h₀ L J own s₁ s₂

section
variable {prog : Program} {w : World} {A : Around} {E : Value → Shared → Prop} {s : Shared} {env : Env} {Q : Flow → Shared → Prop}
/-- for over range(n), the ledger turning too -/
theorem For_rangeN {x : Str} {px pos : Pos} {iter : PySem.Expr} {body : List Stmt} {h₀ : Heap} {m₀ : Str → Option Value} {news : List (Addr × Obj)} (lo : Nat) (J : Nat → (Str → Option Value) → List (Addr × Obj) → Prop) (n : Nat) (hn : n ≤ 1000) (hh : A.handled = none)
    (hlo : lo ≤ s.toks) (hx : env.kindOf x = some .local) (hp : (env.scope.kind == .class || (env.scope.kind == .module && env.locals != env.globals)) = false)
    (hs : ∀ x, foldedSetIterable iter env x = pure x) (hE : PassesOwn (model prog w) A env E)
    (hname : ∀ R : Value → Shared → Prop, (∀ r h1 tk1 t u v, IsRange h1 r 0 (n : Int) 1 t u v → Fr h₀ env.locals h1 m₀ → News h₀ env.locals h1 news → R (.ref r) { s with heap := h1, toks := tk1 }) → wpAny (model prog w) A (eval iter env) R E s)
    (hJ : ∀ i m led, J i m led → NoIt led) (h0 : J 0 m₀ news)
    (turn : ∀ i u m₁ led h tk own, i < n → lo ≤ tk → (∀ p ∈ own, NC p.2) → J i m₁ led → Fr h₀ env.locals h (fun y => if y = x then some (.int (i : Int) u) else m₁ y) → News h₀ env.locals h (led ++ own) →
      wpAny (model prog w) A (execs body env) (TurnN h₀ env.locals (J (i + 1)) own { s with heap := h, toks := tk } Q) E { s with heap := h, toks := tk })
    (done : ∀ m₁ led h tk, lo ≤ tk → J n m₁ led → Fr h₀ env.locals h m₁ → News h₀ env.locals h led → Q .next { s with heap := h, toks := tk }) :
    wpAny (model prog w) A (exec (.For (.Name x px) iter body [] pos) env) Q E s := by
  refine For_gen hs hE (wpAny_mono (wpAny_later lo hlo (hname _ fun r h1 tk1 t u v hr F1 N1 hl1 => ?_)) (fun _ _ e => e) fun _ _ e => e)
  have hl1 : lo ≤ tk1 := hl1
  refine wpAny_pyIter_range (s := { s with heap := h1, toks := tk1 }) hr (small_one (by decide) (by decide) (by omega) (by omega)) ?_
  have hsz : Builtin.Range.rangeSize 0 (n : Int) 1 = (n : Int) := by rw [rangeSize_one]; split <;> omega
  rw [hsz]
  have hI0 : h₀.get? h1.objs.size = none := next_is_new F1
  have hLI : env.locals ≠ h1.objs.size := Nat.ne_of_lt F1.ns.lt
  refine ⟨n, fun i s' => ∃ h tk m led, s' = { s with heap := h, toks := tk } ∧ lo ≤ tk ∧ IsRangeIter h h1.objs.size ((i : Nat) : Int) ((n : Int) - ((i : Nat) : Int)) 1 ∧ Fr h₀ env.locals h m ∧ News h₀ env.locals h led ∧ J i m led,
    ⟨_, tk1, m₀, news, rfl, hl1, ?_, F1.push _, fun p hp => ⟨Heap.get?_push_of_some _ (N1 p hp).1, (N1 p hp).2⟩, h0⟩, fun _ => rfl, ?_, ?_⟩
  · rw [show ((n : Int) - ((0 : Nat) : Int)) = (n : Int) by simp]
    exact Heap.get?_push_size _ rfl
  · rintro i _ hi ⟨h, tk, m, led, rfl, hle, hit, F₁, N₁, hj⟩
    have nI : ∀ p ∈ led, p.1 ≠ h1.objs.size := fun p hp q => by
      have := (N₁ p hp).1
      rw [q] at this
      exact hJ _ _ _ hj p hp _ _ _ (Option.some.inj (this.symm.trans hit))
    refine wpAny_pyNext_range_item (s := { s with heap := h, toks := tk }) hit (by omega) fun h' hit' hs' => ⟨_, rfl, ?_⟩
    dsimp only at hit' hs' ⊢
    have keepI : ∀ b o, b ≠ h1.objs.size → h.get? b = some o → h'.get? b = some o := fun b o hb e => hs'.extBut b o hb e
    have F₂ : Fr h₀ env.locals h' m := by
      obtain ⟨oL, a1, a2, hL, a3⟩ := F₁.ns
      exact ⟨⟨oL, a1, a2, keepI _ _ hLI hL, a3⟩, fun b ob e => keepI b ob (fun q => by rw [q, hI0] at e; cases e) (F₁.keep b ob e), F₁.above⟩
    have N₂ : News h₀ env.locals h' led := fun p hp => ⟨keepI _ _ (nI p hp) (N₁ p hp).1, (N₁ p hp).2⟩
    refine wpAny_assign_Name (wpAny_storeName_local hx F₂.ns (fun h₂ hn₂ hs₂ => ?_) hp)
    have F₃ := F₂.set hn₂ hs₂
    have hit₂ : IsRangeIter h₂ h1.objs.size (((i : Nat) : Int) + 1) ((n : Int) - ((i : Nat) : Int) - 1) 1 := hs₂.extBut _ _ (Ne.symm hLI) hit'
    have N₃ : News h₀ env.locals h₂ (led ++ [(h1.objs.size, rIt (((i : Nat) : Int) + 1) ((n : Int) - ((i : Nat) : Int) - 1) 1)]) := by
      intro p hp
      rcases List.mem_append.mp hp with hp | hp
      · exact N₂.set hs₂ p hp
      · rw [List.mem_singleton.mp hp]
        exact ⟨hit₂, Ne.symm hLI, hI0⟩
    refine wpAny_later tk (by show tk ≤ tk + 1 + 1; omega) (wpAny_mono (turn i _ m led h₂ (tk + 1 + 1) _ hi (by omega) (fun p hp v => by rw [List.mem_singleton.mp hp]; exact fun q => nomatch q) hj F₃ N₃) (fun f s₃ h₃ => ?_) fun _ _ e => e)
    have fin : TurnEndN h₀ env.locals (J (i + 1)) [(h1.objs.size, rIt (((i : Nat) : Int) + 1) ((n : Int) - ((i : Nat) : Int) - 1) 1)] { s with heap := h₂, toks := tk + 1 + 1 } s₃ → tk ≤ s₃.toks →
        ∃ h tk m led, s₃ = { s with heap := h, toks := tk } ∧ lo ≤ tk ∧ IsRangeIter h h1.objs.size ((i + 1 : Nat) : Int) ((n : Int) - ((i + 1 : Nat) : Int)) 1 ∧ Fr h₀ env.locals h m ∧ News h₀ env.locals h led ∧ J (i + 1) m led := by
      rintro ⟨h₄, tk₄, m₄, led₄, news₄, rfl, F₄, N₄, hn1, hn2, hj₄⟩ hle₄
      refine ⟨h₄, tk₄, m₄, led₄, rfl, Nat.le_trans hle hle₄, ?_, F₄, fun p hp => N₄ p (hn1 p hp), hj₄⟩
      have := (N₄ _ (hn2 _ (.head _))).1
      rw [show ((i + 1 : Nat) : Int) = ((i : Nat) : Int) + 1 by push_cast; rfl, show (n : Int) - (((i : Nat) : Int) + 1) = (n : Int) - ((i : Nat) : Int) - 1 by omega]
      exact this
    cases f with
    | ret v => exact fun _ => h₃
    | brk => exact fun _ => h₃
    | next => exact fun hle₄ => fin h₃ hle₄
    | cont => exact fun hle₄ => fin h₃ hle₄
  · rintro _ ⟨h, tk, m, led, rfl, hle, hit, F₁, N₁, hj⟩
    have nI : ∀ p ∈ led, p.1 ≠ h1.objs.size := fun p hp q => by
      have := (N₁ p hp).1
      rw [q] at this
      exact hJ _ _ _ hj p hp _ _ _ (Option.some.inj (this.symm.trans hit))
    refine wpAny_pyNext_range_end (s := { s with heap := h, toks := tk }) hh hit (by omega) fun h' he' => ⟨rfl, ?_⟩
    have keepI : ∀ b o, b ≠ h1.objs.size → h.get? b = some o → h'.get? b = some o := fun b o hb e => he' b o hb e
    have F₂ : Fr h₀ env.locals h' m := by
      obtain ⟨oL, a1, a2, hL, a3⟩ := F₁.ns
      exact ⟨⟨oL, a1, a2, keepI _ _ hLI hL, a3⟩, fun b ob e => keepI b ob (fun q => by rw [q, hI0] at e; cases e) (F₁.keep b ob e), F₁.above⟩
    exact done m led h' tk hle hj F₂ fun p hp => ⟨keepI _ _ (nI p hp) (N₁ p hp).1, (N₁ p hp).2⟩
end
end Mine

end
section
open PySem PySem.W PyProof.Rows PySem.Spec
namespace Mine
set_option maxRecDepth 100000
def itN (k : Nat) : Nat → Nat → Nat
  | 0, n => n
  | i + 1, n => nextOf k (itN k i n)
def pars (k i n : Nat) : List Bool := (List.range i).map fun j => itN k j n % 2 != 0
def thirdI (k n : Nat) : Int := 1 + Int.fmod (reckRest (2 * (k : Int) - 1) (wishOf n) - 1) 16
def third (k n : Nat) : Nat := (thirdI k n).toNat
theorem third_cast (k n : Nat) : thirdI k n = ((third k n : Nat) : Int) := by
  have h1 := Int.fmod_nonneg_of_pos (reckRest (2 * (k : Int) - 1) (wishOf n) - 1) (b := 16) (by decide)
  unfold third
  have : 0 ≤ thirdI k n := by unfold thirdI; omega
  omega
theorem third_le (k n : Nat) : third k n ≤ 16 := by
  have h2 := Int.fmod_lt_of_pos (reckRest (2 * (k : Int) - 1) (wishOf n) - 1) (b := 16) (by decide)
  have := third_cast k n
  unfold thirdI at this
  omega

abbrev drawn4 (d0 d1 d2 d3 : Nat) (t0 t1 t2 t3 : Tok) : Obj := W.listOf #[.int (d0 : Int) t0, .int (d1 : Int) t1, .int (d2 : Int) t2, .int (d3 : Int) t3] 0
/-- a name is known to hold -/
abbrev HasI (m : Str → Option Value) (x : String) (i : Int) : Prop := ∃ t, m (Str.ofString x) = some (.int i t)
abbrev HasS (m : Str → Option Value) (x : String) (v : Str) : Prop := ∃ t, m (Str.ofString x) = some (.str v t)
/-- at the start -/
def I0 (S : Shared) (la : Addr) (s' : Shared) : Prop := LS S S.heap S.heap.objs.size 0 none none none [] (fun y => if y = Str.ofString "script" then some (.ref la) else none) s'
/-- after the fourth statement (c) -/
def I4 (S : Shared) (s' : Shared) : Prop :=
  ∃ (D : Addr) (d0 d1 d2 d3 : Nat) (t0 t1 t2 t3 : Tok) (k : Nat) (m : Str → Option Value), (1 ≤ k ∧ k ≤ 3) ∧ d0 < 1000000 ∧ d1 < 1000000 ∧ d2 < 1000000 ∧
    LS S S.heap S.heap.objs.size 1 none none (some (.ref D)) [(D, drawn4 d0 d1 d2 d3 t0 t1 t2 t3)] m s' ∧ HasI m "sendings" k ∧ HasI m "c" (2 * (k : Int) - 1)
/-- and the wish -/
def I5 (S : Shared) (s' : Shared) : Prop :=
  ∃ (D : Addr) (d0 d1 d2 d3 : Nat) (t0 t1 t2 t3 : Tok) (k : Nat) (m : Str → Option Value), (1 ≤ k ∧ k ≤ 3) ∧ d0 < 1000000 ∧ d1 < 1000000 ∧ d2 < 1000000 ∧
    LS S S.heap S.heap.objs.size 1 none none (some (.ref D)) [(D, drawn4 d0 d1 d2 d3 t0 t1 t2 t3)] m s' ∧ HasI m "sendings" k ∧ HasI m "c" (2 * (k : Int) - 1) ∧ HasS m "wish" (word (wishOf d2))
/-- and the rest -/
def I6 (S : Shared) (s' : Shared) : Prop :=
  ∃ (D : Addr) (d0 d1 d2 d3 : Nat) (t0 t1 t2 t3 : Tok) (k : Nat) (m : Str → Option Value), (1 ≤ k ∧ k ≤ 3) ∧ d0 < 1000000 ∧ d1 < 1000000 ∧ d2 < 1000000 ∧
    LS S S.heap S.heap.objs.size 1 none none (some (.ref D)) [(D, drawn4 d0 d1 d2 d3 t0 t1 t2 t3)] m s' ∧ HasI m "sendings" k ∧ HasI m "c" (2 * (k : Int) - 1) ∧ HasS m "wish" (word (wishOf d2)) ∧
    HasI m "rest" (reckRest (2 * (k : Int) - 1) (wishOf d2))
/-- the three first numbers -/
def I7 (S : Shared) (s' : Shared) : Prop :=
  ∃ (D Z : Addr) (a b d2 : Nat) (t0 t1 t2 : Tok) (e : Nat) (k : Nat) (m : Str → Option Value), (1 ≤ k ∧ k ≤ 3) ∧ (1 ≤ a ∧ a ≤ 32) ∧ (1 ≤ b ∧ b ≤ 32) ∧
    LS S S.heap S.heap.objs.size 1 none none (some (.ref D)) [(Z, lst3 (a : Int) (b : Int) ((third k d2 : Nat) : Int) t0 t1 t2 e)] m s' ∧ HasI m "sendings" k ∧ HasI m "c" (2 * (k : Int) - 1) ∧ HasS m "wish" (word (wishOf d2)) ∧
    m (Str.ofString "first") = some (.ref Z)
theorem reckRest_bound {k : Nat} {ws : List Bool} (k1 : 1 ≤ k) (k3 : k ≤ 3) (hw : ws.length = 4) : -14641000 ≤ reckRest (2 * (k : Int) - 1) ws ∧ reckRest (2 * (k : Int) - 1) ws ≤ 0 := by
  obtain ⟨g1, g2, g3, g4, g5, g6⟩ := reck_bound (c := 2 * (k : Int) - 1) (ws := ws) (by omega) (by omega) (by omega)
  have h1 := Int.mul_nonneg g3 g5
  have h2 := Int.mul_le_mul g4 g6 g5 (by decide)
  unfold reckRest
  omega
end Mine

end
section
open PySem PySem.W PyProof.Rows PySem.Spec
namespace Mine
set_option maxRecDepth 100000
theorem ne_of_data {h₀ h : Heap} {L : Addr} {news : List (Addr × Obj)} {a b : Addr} {o o2 : Obj} (N : News h₀ L h news) (h1 : (a, o) ∈ news) (h2 : (b, o2) ∈ news) (hne : o.data ≠ o2.data) : a ≠ b := fun e => by
  have e1 := (N _ h1).1
  have e2 := (N _ h2).1
  dsimp only at e1 e2
  rw [e, e2] at e1
  exact hne (by rw [Option.some.inj e1])
theorem nc_list {vs : Array Value} {k : Nat} : NC (W.listOf vs k) := fun _ q => nomatch q
def Sqs (news rest : List (Addr × Obj)) : Prop := ∀ p ∈ rest, p ∈ news ∧ NC p.2
theorem Sqs.own {news own : List (Addr × Obj)} (h : ∀ p ∈ own, p ∈ news) (q : ∀ p ∈ own, NC p.2) : Sqs news own := fun p hp => ⟨h p hp, q p hp⟩
theorem Sqs.nil {news : List (Addr × Obj)} : Sqs news [] := fun _ h => nomatch h
theorem Sqs.cons {news rest : List (Addr × Obj)} {a : Addr} {o : Obj} (h : (a, o) ∈ news) (q : NC o) (hr : Sqs news rest) : Sqs news ((a, o) :: rest) := fun p hp => by
  rcases List.mem_cons.mp hp with rfl | hp
  · exact ⟨h, q⟩
  · exact hr p hp
section
variable {M : Model} {A : Around} {E : Value → Shared → Prop} {s : Shared} {name : Str} {scope : Scope} {L a : Addr} {cd : Value} {h₀ : Heap} {m : Str → Option Value} {news : List (Addr × Obj)}
theorem st_W2 {x : Str} {oS oW oD : Obj} {v₀ : Option Value} {v : Value} (rest : List (Addr × Obj)) {Q : Unit → Shared → Prop} (F : Fr h₀ L s.heap m) (N : News h₀ L s.heap news)
    (hc : (cellsFrom (L + 1) scope.names []).lookup x = some (L + 1 + 1)) (mS : (L + 1 + 1 + 1, oS) ∈ news) (mW : (L + 1 + 1, oW) ∈ news) (mD : (L + 1, oD) ∈ news) (hd : oW.data = .cell v₀) (hrest : Sqs news rest)
    (h : ∀ h' o', Fr h₀ L h' m → News h₀ L h' ((L + 1 + 1 + 1, oS) :: (L + 1 + 1, o') :: (L + 1, oD) :: rest) → o'.data = .cell (some v) → Q () { s with heap := h' })
    (hk : scope.kind = .function := by rfl) (hl : (envOfC name scope L a cd).kindOf x = some .cell := by rfl) :
    wpAny M A (storeName (envOfC name scope L a cd) x v) Q E s :=
  st_W rest F N hc mS mW mD hd (fun p hp => ⟨(hrest p hp).1, ne_of_data N (hrest p hp).1 mW (by rw [hd]; exact (hrest p hp).2 _)⟩) h hk hl
theorem st_S2 {x : Str} {oS oW oD : Obj} {v₀ : Option Value} {v : Value} (rest : List (Addr × Obj)) {Q : Unit → Shared → Prop} (F : Fr h₀ L s.heap m) (N : News h₀ L s.heap news)
    (hc : (cellsFrom (L + 1) scope.names []).lookup x = some (L + 1 + 1 + 1)) (mS : (L + 1 + 1 + 1, oS) ∈ news) (mW : (L + 1 + 1, oW) ∈ news) (mD : (L + 1, oD) ∈ news) (hd : oS.data = .cell v₀) (hrest : Sqs news rest)
    (h : ∀ h' o', Fr h₀ L h' m → News h₀ L h' ((L + 1 + 1 + 1, o') :: (L + 1 + 1, oW) :: (L + 1, oD) :: rest) → o'.data = .cell (some v) → Q () { s with heap := h' })
    (hk : scope.kind = .function := by rfl) (hl : (envOfC name scope L a cd).kindOf x = some .cell := by rfl) :
    wpAny M A (storeName (envOfC name scope L a cd) x v) Q E s :=
  st_S rest F N hc mS mW mD hd (fun p hp => ⟨(hrest p hp).1, ne_of_data N (hrest p hp).1 mS (by rw [hd]; exact (hrest p hp).2 _)⟩) h hk hl
end
theorem first_news {g h : Heap} {L l a1 a2 a3 : Addr} {oS oW oD : Obj} {x : Addr × Obj} {d0 d1 d2 d3 k : Nat} {t u v : Tok}
    (N : News g L h [(l, W.listOf #[Value.int (1 + ([(d0 : Int), (d1 : Int), (d2 : Int), (d3 : Int)].getD (Int.toNat 0) 0).fmod 32) t, .int (1 + ([(d0 : Int), (d1 : Int), (d2 : Int), (d3 : Int)].getD (Int.toNat 1) 0).fmod 32) u, .int (1 + (reckRest (2 * (k : Int) - 1) (wishOf d2) - 1).fmod 16) v] 0), (a1, oS), (a2, oW), (a3, oD), x]) :
    News g L h [(a1, oS), (a2, oW), (a3, oD), (l, lst3 ((1 + d0 % 32 : Nat) : Int) ((1 + d1 % 32 : Nat) : Int) ((third k d2 : Nat) : Int) t u v 0)] := by
  have e0 : (1 + ([(d0 : Int), (d1 : Int), (d2 : Int), (d3 : Int)].getD (Int.toNat 0) 0).fmod 32) = ((1 + d0 % 32 : Nat) : Int) := by
    show 1 + (d0 : Int).fmod 32 = _
    rw [Int.fmod_eq_emod_of_nonneg _ (by decide)]; push_cast; rfl
  have e1 : (1 + ([(d0 : Int), (d1 : Int), (d2 : Int), (d3 : Int)].getD (Int.toNat 1) 0).fmod 32) = ((1 + d1 % 32 : Nat) : Int) := by
    show 1 + (d1 : Int).fmod 32 = _
    rw [Int.fmod_eq_emod_of_nonneg _ (by decide)]; push_cast; rfl
  have e2 : (1 + (reckRest (2 * (k : Int) - 1) (wishOf d2) - 1).fmod 16) = ((third k d2 : Nat) : Int) := third_cast k d2
  rw [e0, e1, e2] at N
  refine news_sub N fun p hp => ?_
  simp only [List.mem_cons, List.not_mem_nil, or_false] at hp ⊢
  rcases hp with e | e | e | e
  · exact .inr (.inl e)
  · exact .inr (.inr (.inl e))
  · exact .inr (.inr (.inr (.inl e)))
  · exact .inl e
/-- a row of texts -/
inductive Tts : List Value → List Str → Prop
  | nil : Tts [] []
  | cons {x : Str} {t : Tok} {P : List Value} {ps : List Str} : Tts P ps → Tts (.str x t :: P) (x :: ps)
theorem Tts.snoc {vs : List Value} {ns : List Str} {x : Str} {t : Tok} (h : Tts vs ns) : Tts (vs ++ [.str x t]) (ns ++ [x]) := by
  induction h with
  | nil => exact .cons .nil
  | cons _ ih => exact .cons ih
theorem tts3 {vs : List Value} {p q r : Str} (h : Tts vs [p, q, r]) : ∃ t1 t2 t3, vs = [.str p t1, .str q t2, .str r t3] := by
  cases h with | cons h => cases h with | cons h => cases h with | cons h => cases h; exact ⟨_, _, _, rfl⟩
/-- where it stands in the context, the walk keeps count of the numbering -/
def TokMark : Prop := True
theorem len_three {prog : Program} {w : World} {A : Around} {E : Value → Shared → Prop} {s : Shared} {h₀ : Heap} {L l : Addr} {news : List (Addr × Obj)} {x y z : Value} {k : Nat} {Q : Value → Shared → Prop} (N : News h₀ L s.heap news) (hm : (l, W.listOf #[x, y, z] k) ∈ news)
    (h : Q (.int 3 (s.toks + 1)) { s with toks := s.toks + 1 + 1 }) : wpAny (model prog w) A (call (.builtin "len") [.ref l]) Q E s := len_news N hm (by show 3 < _; decide) h
abbrev strs3 (a b c : Str) (t u v : Tok) (e : Nat) : Obj := W.listOf #[.str a t, .str b u, .str c v] e
/-- what the reading starts from -/
def I9 (S : Shared) (s' : Shared) : Prop :=
  ∃ (D Z W : Addr) (a b d2 : Nat) (t0 t1 t2 u0 u1 u2 : Tok) (e eW : Nat) (k : Nat) (m : Str → Option Value), (1 ≤ k ∧ k ≤ 3) ∧ (1 ≤ a ∧ a ≤ 32) ∧ (1 ≤ b ∧ b ≤ 32) ∧
    LS S S.heap S.heap.objs.size 1 none (some (.ref W)) (some (.ref D)) [(W, strs3 (Str.ofString "") (Str.ofString "") (Str.ofString "") u0 u1 u2 eW), (Z, lst3 (a : Int) (b : Int) ((third k d2 : Nat) : Int) t0 t1 t2 e)] m s' ∧ HasI m "sendings" k ∧ HasI m "c" (2 * (k : Int) - 1) ∧ HasS m "wish" (word (wishOf d2)) ∧
    m (Str.ofString "first") = some (.ref Z) ∧ m (Str.ofString "numbers") = some (.ref Z)
/-- the state of the reading, j of it done -/
def ReadJ (L D Z : Addr) (a b c d2 : Nat) (t0 t1 t2 : Tok) (e k : Nat) (j : Nat) (m : Str → Option Value) (led : List (Addr × Obj)) : Prop :=
  ∃ (W Y : Addr) (oS oW oD : Obj) (vS : Option Value) (u0 u1 u2 y0 y1 y2 : Tok) (eW eY : Nat),
    led = [(L + 1 + 1 + 1, oS), (L + 1 + 1, oW), (L + 1, oD), (W, strs3 (word (pars k j a)) (word (pars k j b)) (word (pars k j c)) u0 u1 u2 eW), (Y, lst3 (itN k j a : Nat) (itN k j b : Nat) (itN k j c : Nat) y0 y1 y2 eY), (Z, lst3 (a : Int) (b : Int) (c : Int) t0 t1 t2 e)] ∧
    oS.data = .cell vS ∧ oW.data = .cell (some (.ref W)) ∧ oD.data = .cell (some (.ref D)) ∧ HasI m "sendings" k ∧ HasI m "c" (2 * (k : Int) - 1) ∧ HasS m "wish" (word (wishOf d2)) ∧
    m (Str.ofString "first") = some (.ref Z) ∧ m (Str.ofString "numbers") = some (.ref Y)
theorem ReadJ.noit {L D Z : Addr} {a b c d2 : Nat} {t0 t1 t2 : Tok} {e k j : Nat} {m : Str → Option Value} {led : List (Addr × Obj)} (h : ReadJ L D Z a b c d2 t0 t1 t2 e k j m led) : NoIt led := by
  obtain ⟨W, Y, oS, oW, oD, vS, u0, u1, u2, y0, y1, y2, eW, eY, rfl, h1, h2, h3, -⟩ := h
  exact .cons (noit_cell h1) (.cons (noit_cell h2) (.cons (noit_cell h3) (.cons noit_listOf (.cons noit_listOf (.cons noit_listOf .nil)))))
theorem word_nil : word [] = Str.ofString "" := by decide +kernel
theorem read_start {g h : Heap} {L D Z W : Addr} {a b c d2 k e eW : Nat} {t0 t1 t2 u0 u1 u2 : Tok} {uS uW uD : Obj} {vS : Option Value} {m : Str → Option Value}
    (N : News g L h [(L + 1 + 1 + 1, uS), (L + 1 + 1, uW), (L + 1, uD), (W, strs3 (Str.ofString "") (Str.ofString "") (Str.ofString "") u0 u1 u2 eW), (Z, lst3 (a : Int) (b : Int) (c : Int) t0 t1 t2 e)])
    (vS : uS.data = .cell vS) (vW : uW.data = .cell (some (.ref W))) (vD : uD.data = .cell (some (.ref D))) (g1 : HasI m "sendings" k) (g2 : HasI m "c" (2 * (k : Int) - 1)) (g3 : HasS m "wish" (word (wishOf d2))) (g4 : m (Str.ofString "first") = some (.ref Z)) (g5 : m (Str.ofString "numbers") = some (.ref Z)) :
    ∃ led, News g L h led ∧ ReadJ L D Z a b c d2 t0 t1 t2 e k 0 m led := by
  refine ⟨_, ?_, W, Z, uS, uW, uD, _, u0, u1, u2, t0, t1, t2, eW, e, rfl, vS, vW, vD, g1, g2, g3, g4, g5⟩
  rw [← word_nil] at N
  intro p hp
  refine N p ?_
  simp only [List.mem_cons, List.not_mem_nil, or_false] at hp ⊢
  rcases hp with e | e | e | e | e | e
  · exact .inl e
  · exact .inr (.inl e)
  · exact .inr (.inr (.inl e))
  · exact .inr (.inr (.inr (.inl e)))
  · exact .inr (.inr (.inr (.inr e)))
  · exact .inr (.inr (.inr (.inr e)))
theorem nextOf_le {k n B : Nat} (hk : k ≤ 3) (hn : n ≤ B) : nextOf k n ≤ 2 * B + 3 := by
  unfold nextOf
  split <;> omega
theorem itN_le {k n : Nat} (hk : k ≤ 3) (hn : n ≤ 32) : ∀ i, i ≤ 4 → itN k i n ≤ 1000 := by
  have h0 : itN k 0 n ≤ 32 := hn
  have h1 : itN k 1 n ≤ 67 := nextOf_le hk h0
  have h2 : itN k 2 n ≤ 137 := nextOf_le hk h1
  have h3 : itN k 3 n ≤ 277 := nextOf_le hk h2
  have h4 : itN k 4 n ≤ 557 := nextOf_le hk h3
  intro i hi
  rcases i with _ | _ | _ | _ | _ | i
  · exact Nat.le_trans h0 (by decide)
  · exact Nat.le_trans h1 (by decide)
  · exact Nat.le_trans h2 (by decide)
  · exact Nat.le_trans h3 (by decide)
  · exact Nat.le_trans h4 (by decide)
  · omega
theorem gone_call {w : World} {mg mb : Str → Option Value} {mean : ExcName → Option Value} {news : List (Addr × Obj)} {l : Addr} {e a b d k : Nat} {ta tb td u : Tok}
    {dp un : Nat} {gd : Option (List Code)} {cn : Str} {cs : Scope} {aa : Addr} {ccd : Value} {cl : List (Str × Addr)} {outer : List Env} {A₀ : Around} {base h₀ : Heap} {L : Addr} {m : Str → Option Value} {s : Shared} {Q E : Value → Shared → Prop}
    (B : Below A₀ base outer h₀) (F : Fr h₀ L s.heap m) (X : (hd.heap_39 w.params).In h₀) (N : News h₀ L s.heap news) (T : Top hd.view_39 LL mean mg mb h₀) (hkk : cs.kind = .function)
    (hm : (l, lst3 a b d ta tb td e) ∈ news) (ha : a ≤ 1000) (hb : b ≤ 1000) (hd : d ≤ 1000) (hk : k ≤ 3) (hpre : 1 ≤ s.toks) (hroom : dp + 30 < recursionLimit) (hun : un + 120 < cLine)
    (hret : ∀ (y z : Addr) (t t1 t2 t3 : Tok) (e' : Nat) (h' : Heap) (tk' : Nat), Fr h₀ L h' m → News h₀ L h' ((y, { cls := .type "tuple", data := .seq #[.str (shownOf [a, b, d]) t, .ref z] }) :: (z, lst3 (nextOf k a) (nextOf k b) (nextOf k d) t1 t2 t3 e') :: news) → Q (.ref y) { s with heap := h', toks := tk' }) :
    wpAny (model PySem.Challenge.rw_wn0017_01.row.prog w) (ktrTop dp un gd cn cs L aa ccd cl outer) (call (.ref 143) [.ref l, .int (k : Int) u]) Q E s :=
  ctr_gone w mg mb mean news l e a b d k ta tb td u hm ha hb hd hk dp un gd cn cs aa ccd cl outer A₀ base h₀ L m s Q E B F X N T hkk hpre hroom hun hret
/-- what the checks start from -/
def I10 (S : Shared) (s' : Shared) : Prop :=
  ∃ (D Z : Addr) (a b d2 : Nat) (t0 t1 t2 : Tok) (e : Nat) (k : Nat) (h : Heap) (tk : Nat) (m : Str → Option Value) (led : List (Addr × Obj)), (1 ≤ k ∧ k ≤ 3) ∧ (1 ≤ a ∧ a ≤ 32) ∧ (1 ≤ b ∧ b ≤ 32) ∧
    s' = { S with heap := h, toks := tk } ∧ 1 ≤ tk ∧ Fr S.heap S.heap.objs.size h m ∧ News S.heap S.heap.objs.size h led ∧ ReadJ S.heap.objs.size D Z a b (third k d2) d2 t0 t1 t2 e k 4 m led
end Mine

end
section
open PySem PySem.W PyProof.Rows PySem.Spec PySem.Calls
namespace Mine
set_option maxRecDepth 100000
theorem pars_succ (k i n : Nat) : pars k (i + 1) n = pars k i n ++ [itN k i n % 2 != 0] := by
  unfold pars
  rw [List.range_succ, List.map_append]
  rfl
theorem pars_len (k i n : Nat) : (pars k i n).length = i := by simp [pars]
theorem pars_le100 {k i n : Nat} (h : i ≤ 100) : (pars k i n).length ≤ 100 := by rw [pars_len]; exact h
theorem word_len (ws : List Bool) : (word ws).length = ws.length := by simp [word, Str.length]
theorem sg_len (b : Bool) : (sg b).length = 1 := by cases b <;> decide +kernel
theorem sg_is (b : Bool) : sg b = ⟨#[sgn b]⟩ := by cases b <;> decide +kernel
theorem word_snoc (ws : List Bool) (b : Bool) : word (ws ++ [b]) = word ws ++ sg b := by
  rw [sg_is]
  apply Str.ext'
  rw [Str.cps_append]
  apply Array.toList_inj.mp
  simp [word]
theorem seqIx {j n : Nat} (h : j < n) : seqIndex? (j : Int) n = some j := by
  unfold seqIndex?
  have h0 : ¬ ((j : Int) < 0) := by omega
  rw [if_neg h0]
  have h1 : (decide (0 ≤ (j : Int)) && decide ((j : Int) < (n : Int))) = true := by
    rw [Bool.and_eq_true, decide_eq_true_eq, decide_eq_true_eq]; omega
  simp only [h1, if_true, Int.toNat_natCast]
theorem get_both {α β : Type} {f : α → β → Prop} {a b c n : α} {x y z : β} {j : Nat} (h : [a, b, c][j]? = some n) (h1 : f a x) (h2 : f b y) (h3 : f c z) : ∃ v, [x, y, z][j]? = some v ∧ f n v := by
  rcases j with _ | _ | _ | j
  · cases h; exact ⟨_, rfl, h1⟩
  · cases h; exact ⟨_, rfl, h2⟩
  · cases h; exact ⟨_, rfl, h3⟩
  · simp at h
theorem get_str {a b c n : Nat} {f : Nat → Str} {t u v : Tok} {j : Nat} (h : [a, b, c][j]? = some n) : ∃ t', [Value.str (f a) t, .str (f b) u, .str (f c) v][j]? = some (.str (f n) t') := by
  obtain ⟨v, h1, t', rfl⟩ := get_both (f := fun n v => ∃ t', v = Value.str (f n) t') (x := .str (f a) t) (y := .str (f b) u) (z := .str (f c) v) h ⟨_, rfl⟩ ⟨_, rfl⟩ ⟨_, rfl⟩
  exact ⟨t', h1⟩
theorem get_int {a b c n : Nat} {f : Nat → Nat} {t u v : Tok} {j : Nat} (h : [a, b, c][j]? = some n) : ∃ t', [Value.int (f a : Nat) t, .int (f b : Nat) u, .int (f c : Nat) v][j]? = some (.int ((f n : Nat) : Int) t') := by
  obtain ⟨v, h1, t', rfl⟩ := get_both (f := fun n v => ∃ t', v = Value.int ((f n : Nat) : Int) t') (x := .int (f a : Nat) t) (y := .int (f b : Nat) u) (z := .int (f c : Nat) v) h ⟨_, rfl⟩ ⟨_, rfl⟩ ⟨_, rfl⟩
  exact ⟨t', h1⟩
theorem get_odd {a b c n : Nat} {f : Nat → Nat} {j : Nat} (h : [a, b, c][j]? = some n) : (oddsOf [f a, f b, f c])[j]? = some (f n % 2 != 0) := by
  rcases j with _ | _ | _ | j
  · cases h; rfl
  · cases h; rfl
  · cases h; rfl
  · simp at h
theorem get_three {α : Type} {a b c : α} {j : Nat} (h : j < 3) : ∃ n, [a, b, c][j]? = some n ∧ (n = a ∨ n = b ∨ n = c) := by
  rcases j with _ | _ | _ | j
  · exact ⟨_, rfl, .inl rfl⟩
  · exact ⟨_, rfl, .inr (.inl rfl)⟩
  · exact ⟨_, rfl, .inr (.inr rfl)⟩
  · omega
section
variable {prog : Program} {w : World} {A : Around} {E : Value → Shared → Prop} {s : Shared} {h₀ : Heap} {L : Addr} {news : List (Addr × Obj)}
theorem item_word {value slice : PySem.Expr} {ws : List Bool} {t u : Tok} {j : Nat} {b : Bool} {Q : Value → Shared → Prop} (hb : ws[j]? = some b) (hl : ws.length ≤ 100) (h : ∀ t' k, Q (.str (sg b) t') { s with toks := k })
    (hs : subscripted slice false (.str (word ws) t) (.int (j : Int) u) = operate [.str (word ws) t, .int (j : Int) u] (getItem (.str (word ws) t) (.int (j : Int) u)) := by with_unfolding_all rfl) :
    wpAny (model prog w) A (subscriptTail value slice (.str (word ws) t) (.int (j : Int) u)) Q E s := by
  have hj : j < ws.length := (List.getElem?_eq_some_iff.mp hb).1
  refine tail_any (typeIs_str s _ t) F.slot_str_getitem.lookup (P.getItem_str (c := sgn b) ?_ ?_ ?_) hs
  · rw [Bool.or_eq_false_iff, decide_eq_false_iff_not, decide_eq_false_iff_not]; omega
  · rw [word_len, seqIx hj]
    simp [word, hb]
  · rw [← sg_is]; exact h _ _
theorem item_three {value slice : PySem.Expr} {l : Addr} {x y z v : Value} {e j : Nat} {u : Tok} {Q : Value → Shared → Prop} (N : News h₀ L s.heap news) (hm : (l, W.listOf #[x, y, z] e) ∈ news) (hv : [x, y, z][j]? = some v) (h : Q v s)
    (hs : subscripted slice false (.ref l) (.int (j : Int) u) = operate [.ref l, .int (j : Int) u] (getItem (.ref l) (.int (j : Int) u)) := by with_unfolding_all rfl) :
    wpAny (model prog w) A (subscriptTail value slice (.ref l) (.int (j : Int) u)) Q E s := by
  have hl : s.heap.IsList l ([x, y, z] : List Value).toArray := ⟨_, (N _ hm).1, rfl, _, rfl⟩
  have hj : j < 3 := (List.getElem?_eq_some_iff.mp hv).1
  exact tail_any hl.typeIs slot_list_getitem.lookup (wpAny_getItem_list hl (by omega) (by omega) (by simpa using hv) h) hs
theorem add_word {ws : List Bool} {b : Bool} {t u : Tok} {Q : Value → Shared → Prop} (hl : ws.length ≤ 100) (h : ∀ t' k, Q (.str (word (ws ++ [b])) t') { s with toks := k }) : wpAny (model prog w) A (binaryOp .Add (.str (word ws) t) (.str (sg b) u)) Q E s := by
  rw [word_snoc] at h
  exact add_strs (by rw [word_len, sg_len]; omega) h
end
end Mine

end
section
open PySem PySem.W PyProof.Rows PySem.Spec PySem.Calls
namespace Mine
set_option maxRecDepth 100000
/-! ## the plain law -/
theorem wish_law_b : ∀ k : Fin 4, 1 ≤ k.val → ∀ a b c d : Bool, pars k.val 4 (1 + Int.fmod (reckRest (2 * (k.val : Int) - 1) [a, b, c, d] - 1) 16).toNat = [a, b, c, d] := by decide +kernel
theorem wish_law {k n : Nat} (k1 : 1 ≤ k) (k3 : k ≤ 3) : pars k 4 (third k n) = wishOf n := wish_law_b ⟨k, by omega⟩ k1 _ _ _ _
theorem reck_law_b : ∀ k : Fin 4, 1 ≤ k.val → ∀ n : Fin 33, 16 * ((itN k.val 4 n.val : Nat) : Int) = (reck (2 * (k.val : Int) - 1) (pars k.val 4 n.val)).1 * ((n.val : Nat) : Int) + (reck (2 * (k.val : Int) - 1) (pars k.val 4 n.val)).2.1 ∧
    Int.fmod (reckRest (2 * (k.val : Int) - 1) (pars k.val 4 n.val)) 16 = Int.fmod ((n.val : Nat) : Int) 16 := by decide +kernel
theorem reck_law {k n : Nat} (k1 : 1 ≤ k) (k3 : k ≤ 3) (hn : n ≤ 32) : 16 * ((itN k 4 n : Nat) : Int) = (reck (2 * (k : Int) - 1) (pars k 4 n)).1 * (n : Int) + (reck (2 * (k : Int) - 1) (pars k 4 n)).2.1 ∧
    Int.fmod (reckRest (2 * (k : Int) - 1) (pars k 4 n)) 16 = Int.fmod (n : Int) 16 := reck_law_b ⟨k, by omega⟩ k1 ⟨n, by omega⟩
theorem itN_shift (k : Nat) : ∀ i n, itN k i (nextOf k n) = itN k (i + 1) n
  | 0, _ => rfl
  | i + 1, n => by
    show nextOf k (itN k i (nextOf k n)) = nextOf k (itN k (i + 1) n)
    rw [itN_shift k i n]
theorem pars_cons (k i n : Nat) : pars k (i + 1) n = (n % 2 != 0) :: pars k i (nextOf k n) := by
  unfold pars
  rw [List.range_succ_eq_map, List.map_cons, List.map_map]
  show _ :: _ = _ :: _
  congr 1
  refine List.map_congr_left fun j _ => ?_
  show (itN k (j + 1) n % 2 != 0) = _
  rw [itN_shift]
theorem odd_eq {x y : Nat} : ((x % 2 != 0) = (y % 2 != 0)) ↔ x % 2 = y % 2 := by
  rcases Nat.mod_two_eq_zero_or_one x with hx | hx <;> rcases Nat.mod_two_eq_zero_or_one y with hy | hy <;> simp [hx, hy]
theorem agree_cons {k i x y : Nat} : pars k (i + 1) x = pars k (i + 1) y ↔ x % 2 = y % 2 ∧ pars k i (nextOf k x) = pars k i (nextOf k y) := by
  rw [pars_cons, pars_cons, List.cons.injEq, odd_eq]
theorem agree0 {k x y : Nat} : pars k 0 x = pars k 0 y := rfl
theorem agree1 {k x y : Nat} : pars k 1 x = pars k 1 y ↔ x % 2 = y % 2 := by
  rw [agree_cons]; exact ⟨fun h => h.1, fun h => ⟨h, rfl⟩⟩
theorem agree2 {k x y : Nat} : pars k 2 x = pars k 2 y ↔ x % 4 = y % 4 := by
  rw [agree_cons, agree1]; unfold nextOf; split <;> split <;> omega
theorem agree3 {k x y : Nat} : pars k 3 x = pars k 3 y ↔ x % 8 = y % 8 := by
  rw [agree_cons, agree2]; unfold nextOf; split <;> split <;> omega
theorem agree4 {k x y : Nat} : pars k 4 x = pars k 4 y ↔ x % 16 = y % 16 := by
  rw [agree_cons, agree3]; unfold nextOf; split <;> split <;> omega
theorem apart_law {k p x y : Nat} (hp : p ≤ 4) (h : pars k p x = pars k p y) : Int.fmod ((x : Int) - (y : Int)) (2 ^ p) = 0 := by
  rw [Int.fmod_eq_emod_of_nonneg _ (Int.le_of_lt (Int.pow_pos (by decide)))]
  have : p = 0 ∨ p = 1 ∨ p = 2 ∨ p = 3 ∨ p = 4 := by omega
  rcases this with rfl | rfl | rfl | rfl | rfl
  · simp
  · rw [agree1] at h; omega
  · rw [agree2] at h; omega
  · rw [agree3] at h; omega
  · rw [agree4] at h; omega
theorem apart_law2 {k p x y : Nat} (hp : p < 4) (h : pars k (p + 1) x ≠ pars k (p + 1) y) : Int.fmod ((x : Int) - (y : Int)) (2 ^ (p + 1)) ≠ 0 := by
  rw [Int.fmod_eq_emod_of_nonneg _ (Int.le_of_lt (Int.pow_pos (by decide)))]
  have : p = 0 ∨ p = 1 ∨ p = 2 ∨ p = 3 := by omega
  rcases this with rfl | rfl | rfl | rfl
  · rw [Ne, agree1] at h; omega
  · rw [Ne, agree2] at h; omega
  · rw [Ne, agree3] at h; omega
  · rw [Ne, agree4] at h; omega
end Mine

end
section
open PySem PySem.W PyProof.Rows PySem.Spec PySem.Calls
namespace Mine
set_option maxRecDepth 100000
section
variable {prog : Program} {w : World} {A : Around} {E : Value → Shared → Prop} {s : Shared} {h₀ : Heap} {L : Addr} {news : List (Addr × Obj)}
theorem item_last {value slice : PySem.Expr} {l : Addr} {x y z : Value} {e : Nat} {u : Tok} {Q : Value → Shared → Prop} (N : News h₀ L s.heap news) (hm : (l, W.listOf #[x, y, z] e) ∈ news) (h : Q z s)
    (hs : subscripted slice false (.ref l) (.int 2 u) = operate [.ref l, .int 2 u] (getItem (.ref l) (.int 2 u)) := by with_unfolding_all rfl) :
    wpAny (model prog w) A (subscriptTail value slice (.ref l) (.int 2 u)) Q E s := item_three (j := 2) N hm rfl h hs
theorem ne_str_no {x y : Str} {t u : Tok} {Q : Value → Shared → Prop} (e : x = y) (h : Q (.bool false) s) : wpAny (model prog w) A (compareOp .NotEq (.str x t) (.str y u)) Q E s := by
  subst e
  refine ne_str ?_
  rw [bne_self_eq_false]
  exact h
theorem eq_sg_yes {a b : Bool} {t u : Tok} {Q : Value → Shared → Prop} (e : a = b) (h : Q (.bool true) s) : wpAny (model prog w) A (compareOp .Eq (.str (sg a) t) (.str (sg b) u)) Q E s := by
  subst e
  refine eq_str ?_
  rw [beq_self_eq_true]
  exact h
theorem eq_sg_no {a b : Bool} {t u : Tok} {Q : Value → Shared → Prop} (e : a ≠ b) (h : Q (.bool false) s) : wpAny (model prog w) A (compareOp .Eq (.str (sg a) t) (.str (sg b) u)) Q E s := by
  refine eq_str ?_
  have : (sg a == sg b) = false := by
    rw [beq_eq_false_iff_ne]
    cases a <;> cases b <;> first | (exact absurd rfl e) | decide +kernel
  rw [this]
  exact h
theorem ne_int_no {x y : Int} {t u : Tok} {Q : Value → Shared → Prop} (e : x = y) (h : Q (.bool false) s) : wpAny (model prog w) A (compareOp .NotEq (.int x t) (.int y u)) Q E s := by
  subst e
  refine PyProof.Rows.ne_int ?_
  rw [bne_self_eq_false]
  exact h
theorem eq_int_no {x y : Int} {t u : Tok} {Q : Value → Shared → Prop} (e : x ≠ y) (h : Q (.bool false) s) : wpAny (model prog w) A (compareOp .Eq (.int x t) (.int y u)) Q E s := by
  refine PyProof.Rows.eq_int ?_
  rw [beq_eq_false_iff_ne.mpr e]
  exact h
end
/-- the state of the checks: all that the reading left, as one -/
def ChkM (Z Y : Addr) (k d2 : Nat) (m : Str → Option Value) : Prop := HasI m "c" (2 * (k : Int) - 1) ∧ HasS m "wish" (word (wishOf d2)) ∧ m (Str.ofString "first") = some (.ref Z) ∧ m (Str.ofString "numbers") = some (.ref Y)
/-- the checks' ledger -/
abbrev ChkL (L W Y Z : Addr) (a b c k : Nat) (oS oW oD : Obj) (u0 u1 u2 y0 y1 y2 t0 t1 t2 : Tok) (eW eY e : Nat) : List (Addr × Obj) :=
  [(L + 1 + 1 + 1, oS), (L + 1 + 1, oW), (L + 1, oD), (W, strs3 (word (pars k 4 a)) (word (pars k 4 b)) (word (pars k 4 c)) u0 u1 u2 eW), (Y, lst3 (itN k 4 a : Nat) (itN k 4 b : Nat) (itN k 4 c : Nat) y0 y1 y2 eY), (Z, lst3 (a : Int) (b : Int) (c : Int) t0 t1 t2 e)]
/-- a sign for the walk: the checks -/
def ChkMark : Prop := True
/-- a pair under comparison: p signs are told alike -/
def PairI (S : Shared) (h₀ : Heap) (L : Addr) (led : List (Addr × Obj)) (Z Y : Addr) (k d2 i j : Nat) (ui uj : Tok) (p : Nat) (s' : Shared) : Prop :=
  ∃ h tk m, s' = { S with heap := h, toks := tk } ∧ Fr h₀ L h m ∧ News h₀ L h led ∧ ChkM Z Y k d2 m ∧ m (Str.ofString "k") = some (.int (i : Int) ui) ∧ m (Str.ofString "other") = some (.int (j : Int) uj) ∧ HasI m "alike" p
theorem pars_get {k i p n : Nat} (h : p < i) : (pars k i n)[p]? = some (itN k p n % 2 != 0) := by
  unfold pars
  rw [List.getElem?_map, List.getElem?_range h]
  rfl
theorem agree_snoc {k p x y : Nat} (h : pars k p x = pars k p y) (e : (itN k p x % 2 != 0) = (itN k p y % 2 != 0)) : pars k (p + 1) x = pars k (p + 1) y := by
  rw [pars_succ, pars_succ, h, e]
theorem differ_snoc {k p x y : Nat} (h : pars k p x = pars k p y) (e : (itN k p x % 2 != 0) ≠ (itN k p y % 2 != 0)) : pars k (p + 1) x ≠ pars k (p + 1) y := by
  rw [pars_succ, pars_succ, h]
  intro q
  exact e (by simpa using q)
def I11 (S : Shared) (s' : Shared) : Prop :=
  ∃ (D W Y Z : Addr) (a b c d2 k : Nat) (oS oW oD : Obj) (vS : Option Value) (u0 u1 u2 y0 y1 y2 t0 t1 t2 : Tok) (eW eY e : Nat) (h : Heap) (tk : Nat) (m : Str → Option Value), (1 ≤ k ∧ k ≤ 3) ∧ a ≤ 32 ∧ b ≤ 32 ∧ c ≤ 32 ∧ c = third k d2 ∧
    s' = { S with heap := h, toks := tk } ∧ 1 ≤ tk ∧ Fr S.heap S.heap.objs.size h m ∧ News S.heap S.heap.objs.size h (ChkL S.heap.objs.size W Y Z a b c k oS oW oD u0 u1 u2 y0 y1 y2 t0 t1 t2 eW eY e) ∧
    oS.data = .cell vS ∧ oW.data = .cell (some (.ref W)) ∧ oD.data = .cell (some (.ref D)) ∧ ChkM Z Y k d2 m
theorem I11.of {S s' : Shared} (h : I10 S s') : I11 S s' := by
  obtain ⟨D, Z, a, b, d2, t0, t1, t2, e, k, h, tk, m, led, hk, ⟨a1, a2⟩, ⟨b1, b2⟩, rfl, htk, F, N, W, Y, oS, oW, oD, vS, u0, u1, u2, y0, y1, y2, eW, eY, rfl, h1, h2, h3, g0, g1, g2, g3, g4⟩ := h
  exact ⟨D, W, Y, Z, a, b, _, d2, k, oS, oW, oD, vS, u0, u1, u2, y0, y1, y2, t0, t1, t2, eW, eY, e, h, tk, m, hk, a2, b2, Nat.le_trans (third_le k d2) (by decide), rfl, rfl, htk, F, N, h1, h2, h3, g1, g2, g3, g4⟩
end Mine

end
section
local macro_rules | `(tactic| walk_at "pad 0") => `(tactic| skip)
local macro_rules | `(tactic| walk_at "pad 1") => `(tactic| skip)
local macro_rules | `(tactic| walk_at "pad 2") => `(tactic| skip)
local macro_rules | `(tactic| walk_at "pad 3") => `(tactic| skip)
local macro_rules | `(tactic| walk_at "pad 4") => `(tactic| skip)
local macro_rules | `(tactic| walk_at "pad 5") => `(tactic| skip)
local macro_rules | `(tactic| walk_at "pad 6") => `(tactic| skip)
local macro_rules | `(tactic| walk_at "pad 7") => `(tactic| skip)
local macro_rules | `(tactic| walk_at "pad 8") => `(tactic| skip)
local macro_rules | `(tactic| walk_at "pad 9") => `(tactic| skip)
local macro_rules | `(tactic| walk_at "pad 10") => `(tactic| skip)
local macro_rules | `(tactic| walk_at "pad 11") => `(tactic| skip)
local macro_rules | `(tactic| walk_at "pad 12") => `(tactic| skip)
local macro_rules | `(tactic| walk_at "pad 13") => `(tactic| skip)
local macro_rules | `(tactic| walk_at "pad 14") => `(tactic| skip)
local macro_rules | `(tactic| walk_at "pad 15") => `(tactic| skip)
local macro_rules | `(tactic| walk_at "pad 16") => `(tactic| skip)
local macro_rules | `(tactic| walk_at "pad 17") => `(tactic| skip)
local macro_rules | `(tactic| walk_at "pad 18") => `(tactic| skip)
local macro_rules | `(tactic| walk_at "pad 19") => `(tactic| skip)
local macro_rules | `(tactic| walk_at "pad 20") => `(tactic| skip)
local macro_rules | `(tactic| walk_at "pad 21") => `(tactic| skip)
local macro_rules | `(tactic| walk_at "pad 22") => `(tactic| skip)
local macro_rules | `(tactic| walk_at "pad 23") => `(tactic| skip)
local macro_rules | `(tactic| walk_at "pad 24") => `(tactic| skip)
local macro_rules | `(tactic| walk_at "pad 25") => `(tactic| skip)
local macro_rules | `(tactic| walk_at "pad 26") => `(tactic| skip)
local macro_rules | `(tactic| walk_at "pad 27") => `(tactic| skip)
local macro_rules | `(tactic| walk_at "pad 28") => `(tactic| skip)
local macro_rules | `(tactic| walk_at "pad 29") => `(tactic| skip)
local macro_rules | `(tactic| walk_at "pad 30") => `(tactic| skip)
local macro_rules | `(tactic| walk_at "pad 31") => `(tactic| skip)
local macro_rules | `(tactic| walk_at "pad 32") => `(tactic| skip)
local macro_rules | `(tactic| walk_at "pad 33") => `(tactic| skip)
local macro_rules | `(tactic| walk_at "pad 34") => `(tactic| skip)
local macro_rules | `(tactic| walk_at "pad 35") => `(tactic| skip)
local macro_rules | `(tactic| walk_at "pad 36") => `(tactic| skip)
local macro_rules | `(tactic| walk_at "pad 37") => `(tactic| skip)
local macro_rules | `(tactic| walk_at "pad 38") => `(tactic| skip)
local macro_rules | `(tactic| walk_at "pad 39") => `(tactic| skip)
open PySem PySem.W PyProof.Rows
namespace Mine
set_option maxRecDepth 100000
set_option maxHeartbeats 100000000
local macro_rules | `(tactic| walk_at "call builtin:len") => `(tactic| (k_here; (with_reducible rename News _ _ _ _ => lN'); k_dflt (refine len_news lN' (by first | news_mem | exact .tail _ (.tail _ (.tail _ (.tail _ (.head _)))) | exact .tail _ (.tail _ (.tail _ (.tail _ (.tail _ (.head _)))))) (by first | decide | (simp; done)) ?_); (try dsimp only [List.size_toArray, List.length_cons, List.length_nil])))
local macro_rules | `(tactic| walk_at "eval ListComp") => `(tactic| (k_here; (with_reducible show wpAny _ _ (eval (Expr.ListComp _ [⟨_, Expr.Call _ _ _ _, _, _⟩] _ _) _) _ _ _); (with_reducible rename Fr _ _ _ _ => lF'); k_dflt (refine Comp_walkF 1 lF' (by with_unfolding_all rfl) (by decide) rfl (by decide) rfl (by intro _; rfl) (wpAny_later 1 (by first | omega | (dsimp only; omega)) ?_))))
local macro_rules | `(tactic| walk_at "call builtin:str.join") => `(tactic| (k_here; (with_reducible rename News _ _ _ _ => lN'); k_dflt (refine join_signs lN' (.head _) ?_); intro _ _))
local macro_rules | `(tactic| walk_at "call ref") => `(tactic| (k_here; first
  | (k_dflt (refine' ctr_reck _ _ _ _ _ _ _ rfl rfl _ _ _ (by omega) (by omega) _ _ _ _ _ _ _ _ _ _ _ _ _ _ _ _ _ (by k_asm) (by k_asm) (by k_asm) (by k_asm) (by k_asm) (by first | exact rfl | assumption) trivial (by decide) (by decide) ?_); intro y9 t91 t92 t93 h9 tk9 F9 N9; (try dsimp only))))
local macro_rules | `(tactic| walk_at "call ref") => `(tactic| (k_here; (k_dflt (refine' gone_call (by k_asm) (by k_asm) (by k_asm) (by k_asm) (by k_asm) (by first | exact rfl | assumption) (by exact .tail _ (.tail _ (.tail _ (.tail _ (.head _))))) (by assumption) (by assumption) (by assumption) (by assumption) (by first | assumption | (dsimp only; omega)) (by decide) (by decide) ?_); intro y9 z9 t90 t91 t92 t93 e9 h9 tk9 F9 N9; (try dsimp only))))
local macro_rules | `(tactic| walk_at "execs cons") => `(tactic| (k_here; (with_reducible rename TokMark => tkM'); refine exec_cons_tok (by first | assumption | (dsimp only; omega)) ?_))
local macro_rules | `(tactic| walk_at "call builtin:len") => `(tactic| (k_here; (with_reducible rename News _ _ _ _ => lN'); k_dflt (refine len_three lN' (by exact .tail _ (.tail _ (.tail _ (.tail _ (.head _))))) ?_)))
local macro_rules | `(tactic| walk_at "subscriptTail") => `(tactic| (k_here; (with_reducible show wpAny _ _ (subscriptTail _ _ (Value.ref _) (Value.int (Nat.cast _) _)) _ _ _); (with_reducible rename News _ _ _ _ => lN'); k_dflt (refine item_three lN' (by first | exact .head _ | exact .tail _ (.head _) | exact .tail _ (.tail _ (.head _)) | exact .tail _ (.tail _ (.tail _ (.head _))) | exact .tail _ (.tail _ (.tail _ (.tail _ (.head _)))) | exact .tail _ (.tail _ (.tail _ (.tail _ (.tail _ (.head _))))) | exact .tail _ (.tail _ (.tail _ (.tail _ (.tail _ (.tail _ (.head _))))))) (by assumption) ?_)))
local macro_rules | `(tactic| walk_at "subscriptTail Name Name ref int") => `(tactic| (k_here; (with_reducible show wpAny _ _ (subscriptTail _ _ (Value.ref _) (Value.int (Nat.cast _) _)) _ _ _); (with_reducible rename News _ _ _ _ => lN'); k_dflt (refine item_three lN' (by first | exact .head _ | exact .tail _ (.head _) | exact .tail _ (.tail _ (.head _)) | exact .tail _ (.tail _ (.tail _ (.head _))) | exact .tail _ (.tail _ (.tail _ (.tail _ (.head _)))) | exact .tail _ (.tail _ (.tail _ (.tail _ (.tail _ (.head _))))) | exact .tail _ (.tail _ (.tail _ (.tail _ (.tail _ (.tail _ (.head _))))))) (by assumption) ?_)))
local macro_rules | `(tactic| walk_at "subscriptTail Name Name str int") => `(tactic| (k_here; (with_reducible show wpAny _ _ (subscriptTail _ _ (Value.str _ _) (Value.int (Nat.cast _) _)) _ _ _); k_dflt (refine item_word (by assumption) (by assumption) ?_); intro _ _))
local macro_rules | `(tactic| walk_at "subscriptTail Subscript Name str int") => `(tactic| (k_here; (with_reducible show wpAny _ _ (subscriptTail _ _ (Value.str _ _) (Value.int (Nat.cast _) _)) _ _ _); k_dflt (refine item_word (by assumption) (by assumption) ?_); intro _ _))
local macro_rules | `(tactic| walk_at "binaryOp Add str str") => `(tactic| (k_here; k_dflt (refine add_word (by assumption) ?_); intro _ _))
local macro_rules | `(tactic| walk_at "subscriptTail Name Constant ref int") => `(tactic| (k_here; (with_reducible rename ChkMark => mk'); (with_reducible rename News _ _ _ _ => lN'); k_dflt (refine item_last lN' (by exact .tail _ (.tail _ (.tail _ (.head _)))) ?_)))
local macro_rules | `(tactic| walk_at "compareOp NotEq str str") => `(tactic| (k_here; k_dflt (refine ne_str_no (by assumption) ?_)))
local macro_rules | `(tactic| walk_at "compareOp Eq str str") => `(tactic| (k_here; k_dflt (first | refine eq_sg_yes (by assumption) ?_ | refine eq_sg_no (by assumption) ?_)))
local macro_rules | `(tactic| walk_at "compareOp NotEq int int") => `(tactic| (k_here; (with_reducible rename ChkMark => mk'); k_dflt (refine ne_int_no (by assumption) ?_)))
local macro_rules | `(tactic| walk_at "compareOp Eq int int") => `(tactic| (k_here; (with_reducible rename ChkMark => mk'); k_dflt (refine eq_int_no (by assumption) ?_)))
theorem law_walk : ∀ _ : Unit, PySem.Challenge.rw_wn0017_01.Holds := fun _ => hd (by
  k_go0
  rename_i s₀ s₁ mg mb G Y fa o1 pm doc ho hg KX X V GL T B TE TW bm bo M cdo cda hcd ns hs hlay0 hL0 hr0 hl2 ad1 ad2 la vs ad3 hL ra w1 r0 hI hr hcond hc2 K0 hD h₁ tk₁ F oS oW oD dS dW dD N0 X0
  clear hD X0 hr hl2 hr0 hlay0
  have F' : Fr _ _ h₁ (fun y => if y = Str.ofString "script" then some (.ref la) else none) := F
  have dS' : oS.data = .cell none := dS
  have dW' : oW.data = .cell none := dW
  have dD' : oD.data = .cell none := dD
  clear F dS dW dD
  clear hcd M TW TE B GL V X Y G ra w1 r0 hs hL0 hc2
  dsimp only
  refine shut fun Q' hQ' => ?_
  have hI0 : I0 s₁ la ⟨h₁, s₁.gens, s₁.drawn, tk₁, s₁.os⟩ := ⟨_, _, _, _, _, rfl, Nat.zero_le _, F', N0, dS', dW', dD'⟩
  clear N0 dS' dW' dD' F'
  revert hI0
  generalize (⟨h₁, s₁.gens, s₁.drawn, tk₁, s₁.os⟩ : Shared) = s
  revert s
  clear h₁ tk₁ oS oW oD
  refine segI 4 (I4 s₁) ?_ ?_
  · rintro _ ⟨h₁, tk₁, oS, oW, oD, rfl, -, F', N0, dS', dW', dD'⟩ Rest hRest
    simp only [List.take_succ_cons, List.take_zero]
    refine shut fun Q3 hQ3 => ?_
    refine segN 1 (fun s' => ∃ (D : Addr) (ys : List Value), LS s₁ s₁.heap s₁.heap.objs.size 0 none none (some (.ref D)) [(D, LCg.lst ys)] (fun y => if y = Str.ofString "script" then some (.ref la) else none) s' ∧ IntsAre ys (List.map (fun k' => k'.fmod (10 ^ Int.toNat 6)) (List.take 4 ns))) ?_ ?_
    · simp only [List.take_succ_cons, List.take_zero]
      intro Rest hRest
      refine PySem.wpAny_execs_cons (Assign_shut fun Q2 hQ2 => ?_)
      k_steps
      refine hQ2 _ _ ?_
      rename Fr _ _ _ _ => F1
      rename News _ _ _ _ => N1
      rename IntsAre _ _ => I1
      rename List Value => ys
      rename_i D2 hh2 tk2 o12
      exact st_D [(D2, LCg.lst ys)] F1 N1 rfl (.tail _ (.tail _ (.head _))) (.tail _ (.tail _ (.tail _ (.head _)))) (.tail _ (.tail _ (.tail _ (.tail _ (.head _))))) dD' (one_rest (.head _) (Ne.symm o12.2.2.2))
        fun h' o' F2 N2 d2 => PySem.wpAny_execs_nil (hRest _ ⟨_, _, ⟨_, _, _, _, _, rfl, Nat.zero_le _, F2, N2, dS', dW', d2⟩, I1⟩)
    · rintro s2 ⟨D, ys, ⟨h2, tk2, pS, pW, pD, rfl, hlo2, F2, N2, eS, eW, eD⟩, I2⟩
      clear dS' dW' dD' F' N0
      refine segN 1 (fun s' => ∃ (D : Addr) (d0 d1 d2 d3 : Nat) (t0 t1 t2 t3 : Tok), (d0 < 1000000 ∧ d1 < 1000000 ∧ d2 < 1000000 ∧ d3 < 1000000) ∧ LS s₁ s₁.heap s₁.heap.objs.size 1 none none (some (.ref D)) [(D, drawn4 d0 d1 d2 d3 t0 t1 t2 t3)] (fun y => if y = Str.ofString "script" then some (.ref la) else none) s') ?_ ?_
      · simp only [List.drop_succ_cons, List.drop_zero, List.take_succ_cons, List.take_zero]
        intro Rest hRest
        refine PySem.wpAny_execs_cons (Assign_shut fun Q2 hQ2 => ?_)
        rcases drawn_cases I2 with rfl | ⟨a, ta, ha, rfl⟩ | ⟨a, b, ta, tb, ha, hb, rfl⟩ | ⟨a, b, c, ta, tb, tc, ha, hb, hc, rfl⟩ | ⟨a, b, c, d, ta, tb, tc, td, ha, hb, hc, hd, rfl⟩
        all_goals clear I2
        all_goals k_steps
        all_goals refine hQ2 _ _ ?_
        all_goals rename Fr _ _ _ _ => F3
        all_goals rename News _ _ _ _ => N3
        all_goals rename_i D3 hh3 l3
        all_goals refine wpAny_later 1 (Nat.succ_le_succ (Nat.zero_le _)) ?_
        all_goals refine st_D [(D3, _)] F3 N3 rfl (.tail _ (.tail _ (.tail _ (.head _)))) (.tail _ (.tail _ (.tail _ (.tail _ (.head _))))) (.tail _ (.tail _ (.tail _ (.tail _ (.tail _ (.head _)))))) eD (one_rest (.head _) (Nat.ne_of_gt l3.2.2.2.2.1)) fun h' o' F4 N4 d4 hle => PySem.wpAny_execs_nil (hRest _ ⟨_, _, _, _, _, _, _, _, _, ⟨?_, ?_, ?_, ?_⟩, ⟨_, _, _, _, _, rfl, hle, F4, N4, eS, eW, d4⟩⟩)
        all_goals first | assumption | decide
      · rintro s3 ⟨D, d0, d1, d2, d3, t0, t1, t2, t3, ⟨b0, b1, b2, b3⟩, ⟨h3, tk3, qS, qW, qD, rfl, hlo3, F3, N3, eS, eW, eD⟩⟩
        simp only [List.drop_succ_cons, List.drop_zero]
        refine wpAny_later 1 hlo3 ?_
        k_steps
        refine hQ3 _ _ ?_
        rename Fr _ _ _ _ => F4
        rename News _ _ _ _ => N4
        rename 1 ≤ _ => hle
        have ek : (1 : Int) + Int.fmod (d3 : Int) 3 = ((1 + d3 % 3 : Nat) : Int) := by
          rw [Int.fmod_eq_emod_of_nonneg _ (by decide)]; omega
        refine hRest _ ⟨D, d0, d1, d2, d3, _, _, _, _, 1 + d3 % 3, _, ⟨by omega, by omega⟩, b0, b1, b2, ⟨_, _, _, _, _, rfl, hle, F4, N4, eS, eW, eD⟩, ?_, ?_⟩
        · exact ⟨_, Eq.trans (b := some (Value.int _ _)) rfl (at_int ek)⟩
        · exact ⟨_, Eq.trans (b := some (Value.int _ _)) rfl (at_int (by rw [← ek]; rfl))⟩
  simp only [List.drop_succ_cons, List.drop_zero]
  refine segI 1 (I5 s₁) ?_ ?_
  · rintro _ ⟨D, d0, d1, d2, d3, t0, t1, t2, t3, k, m4, ⟨k1, k3⟩, b0, b1, b2, ⟨h4, tk4, uS, uW, uD, rfl, hlo4, F4, N4, vS, vW, vD⟩, ⟨ts, g1⟩, ⟨tc, g2⟩⟩ Rest hRest
    have F5 := fr_re2 (a := Str.ofString "sendings") (b := Str.ofString "c") F4 g1 g2
    clear F4
    simp only [List.take_succ_cons, List.take_zero]
    refine wpAny_later 1 hlo4 ?_
    refine PySem.wpAny_execs_cons (Assign_shut fun Q2 hQ2 => ?_)
    k_steps
    rename Fr _ _ _ _ => F6
    rename News _ _ _ _ => N6
    refine CompAt.intro 4 _ (fun i vs => Sts vs ((wishOf d2).take i)) F6 N6 (by assumption) (by decide) (comp_range rfl (by decide) (by assumption)) .nil ?_ ?_
    · rintro C i v p q vs mc h tk own E' hi h1 h2 h3 ⟨t, rfl⟩ hG F7 N7 hC hmc hnC
      rw [show (0 + (i : Int) * 1) = (i : Int) by omega] at hmc
      refine shut fun Q' hQ' => ?_
      k_steps
      all_goals refine hQ' _ _ (CompTurn.intro (by k_asm) (by k_asm) ?_)
      · rename Int.fmod _ 2 = 0 => hz
        exact sts_snoc_z hG hi hz
      · rename Int.fmod _ 2 ≠ 0 => hz
        exact sts_snoc_d hG hi hz
    · intro D2 h tk vs e htk hG F8 N8
      obtain ⟨t1, t2, t3, t4, rfl⟩ := sts4 hG
      dsimp only [mapSet] at F8
      k_steps
      refine hQ2 _ _ ?_
      k_steps
      rename Fr _ _ _ _ => F9
      rename News _ _ _ _ => N9
      rename 1 ≤ _ => hle
      exact hRest _ ⟨D, d0, d1, d2, d3, _, _, _, _, k, _, ⟨k1, k3⟩, b0, b1, b2, ⟨_, _, uS, uW, uD, rfl, hle, F9, news_sub N9 (fun p hp => .tail _ hp), vS, vW, vD⟩, ⟨_, rfl⟩, ⟨_, rfl⟩, ⟨_, rfl⟩⟩
  simp only [List.drop_succ_cons, List.drop_zero]
  refine segI 1 (I6 s₁) ?_ ?_
  · rintro _ ⟨D, d0, d1, d2, d3, t0, t1, t2, t3, k, m4, ⟨k1, k3⟩, b0, b1, b2, ⟨h4, tk4, uS, uW, uD, rfl, hlo4, F4, N4, vS, vW, vD⟩, ⟨ts, g1⟩, ⟨tc, g2⟩, ⟨tw, g3⟩⟩ Rest hRest
    have F5 := fr_re3 (a := Str.ofString "sendings") (b := Str.ofString "c") (c := Str.ofString "wish") F4 g1 g2 g3
    clear F4
    simp only [List.take_succ_cons, List.take_zero]
    refine wpAny_later 1 hlo4 ?_
    have hc0 : (0 : Int) ≤ 2 * (k : Int) - 1 := by omega
    have hc1 : 2 * (k : Int) - 1 ≤ 5 := by omega
    k_steps
    rename Fr _ _ _ _ => F9
    rename News _ _ _ _ => N9
    rename 1 ≤ _ => hle
    exact hRest _ ⟨D, d0, d1, d2, d3, _, _, _, _, k, _, ⟨k1, k3⟩, b0, b1, b2, ⟨_, _, uS, uW, uD, rfl, hle, F9, news_sub N9 (fun p hp => .tail _ hp), vS, vW, vD⟩, ⟨_, rfl⟩, ⟨_, rfl⟩, ⟨_, rfl⟩, ⟨_, rfl⟩⟩
  simp only [List.drop_succ_cons, List.drop_zero]
  refine segI 1 (I7 s₁) ?_ ?_
  · rintro _ ⟨D, d0, d1, d2, d3, t0, t1, t2, t3, k, m4, ⟨k1, k3⟩, b0, b1, b2, ⟨h4, tk4, uS, uW, uD, rfl, hlo4, F4, N4, vS, vW, vD⟩, ⟨ts, g1⟩, ⟨tc, g2⟩, ⟨tw, g3⟩, ⟨tr, g4⟩⟩ Rest hRest
    have F5 := fr_re4 (a := Str.ofString "sendings") (b := Str.ofString "c") (c := Str.ofString "wish") (d := Str.ofString "rest") F4 g1 g2 g3 g4
    clear F4
    simp only [List.take_succ_cons, List.take_zero]
    refine wpAny_later 1 hlo4 ?_
    have hr := reckRest_bound (ws := wishOf d2) k1 k3 rfl
    k_steps
    rename Fr _ _ _ _ => F9
    rename News _ _ _ _ => N9
    rename 1 ≤ _ => hle
    exact hRest _ ⟨D, _, 1 + d0 % 32, 1 + d1 % 32, d2, _, _, _, _, k, _, ⟨k1, k3⟩, ⟨by omega, by omega⟩, ⟨by omega, by omega⟩, ⟨_, _, uS, uW, uD, rfl, hle, F9, first_news N9, vS, vW, vD⟩, ⟨_, rfl⟩, ⟨_, rfl⟩, ⟨_, rfl⟩, rfl⟩
  simp only [List.drop_succ_cons, List.drop_zero]
  refine segI 2 (I9 s₁) ?_ ?_
  · rintro _ ⟨D, Z, a, b, d2, t0, t1, t2, e, k, m4, ⟨k1, k3⟩, ba, bb, ⟨h4, tk4, uS, uW, uD, rfl, hlo4, F4, N4, vS, vW, vD⟩, ⟨ts, g1⟩, ⟨tc, g2⟩, ⟨tw, g3⟩, g4⟩ Rest hRest
    have F5 := fr_re4 (a := Str.ofString "sendings") (b := Str.ofString "c") (c := Str.ofString "wish") (d := Str.ofString "first") F4 g1 g2 g3 g4
    clear F4
    simp only [List.take_succ_cons, List.take_zero]
    refine wpAny_later 1 hlo4 ?_
    refine PySem.wpAny_execs_cons (Assign_shut fun Q2 hQ2 => ?_)
    k_steps
    refine hQ2 _ _ ?_
    clear hQ2 Q2
    rename Fr _ _ _ _ => F6
    rename News _ _ _ _ => N6
    refine st_W2 [_, _] F6 N6 rfl (.tail _ (.head _)) (.tail _ (.tail _ (.head _))) (.tail _ (.tail _ (.tail _ (.head _)))) vW (.cons (.head _) nc_list (.cons (.tail _ (.tail _ (.tail _ (.tail _ (.head _))))) nc_list .nil)) fun h' o' F7 N7 d7 => ?_
    clear N6 F6
    k_steps
    rename Fr _ _ _ _ => F9
    rename News _ _ _ _ => N9
    rename 1 ≤ _ => hle
    exact hRest _ ⟨D, Z, _, a, b, d2, _, _, _, _, _, _, _, _, k, _, ⟨k1, k3⟩, ba, bb, ⟨_, _, uS, o', uD, rfl, hle, F9, N9, vS, d7, vD⟩, ⟨_, rfl⟩, ⟨_, rfl⟩, ⟨_, rfl⟩, rfl, rfl⟩
  simp only [List.drop_succ_cons, List.drop_zero]
  refine segI 1 (I10 s₁) ?_ ?_
  · rintro _ ⟨D, Z, W, a, b, d2, t0, t1, t2, u0, u1, u2, e, eW, k, m4, ⟨k1, k3⟩, ba, bb, ⟨h4, tk4, uS, uW, uD, rfl, hlo4, F4, N4, vS, vW, vD⟩, g1, g2, g3, g4, g5⟩ Rest hRest
    simp only [List.take_succ_cons, List.take_zero]
    have hc := third_le k d2
    generalize hcc : third k d2 = c at *
    obtain ⟨led, N5, j0⟩ := read_start N4 vS vW vD g1 g2 g3 g4 g5
    clear N4 vS vW vD g1 g2 g3 g4 g5
    refine PySem.wpAny_execs_cons ?_
    refine For_rangeN (h₀ := s₁.heap) 1 (ReadJ s₁.heap.objs.size D Z a b c d2 t0 t1 t2 e k) 4 (by decide) rfl (m₀ := m4) (news := led) hlo4 rfl rfl (by intro _; rfl) (by passes_own) ?_ (fun i m led h => h.noit) j0 ?_ ?_
    · intro R hR
      k_steps
      exact hR _ _ _ _ _ _ (by assumption) (by k_asm) (by k_asm)
    · clear N5 j0 F4
      rintro i u m₁ led h tk own hi htk hown ⟨Wi, Y, oS, oW, oD, vSi, u0, u1, u2, y0, y1, y2, eW, eY, rfl, dS, dW, dD, ⟨ts, j1⟩, ⟨tc, j2⟩, ⟨tw, j3⟩, j4, j5⟩ F5 N5
      have F6 := fr_re1 (a := Str.ofString "numbers") (fr_re4 (a := Str.ofString "sendings") (b := Str.ofString "c") (c := Str.ofString "wish") (d := Str.ofString "first") F5 j1 j2 j3 j4) j5
      clear F5
      have ha := itN_le k3 ba.2 i (by omega)
      have hb := itN_le k3 bb.2 i (by omega)
      have hd := itN_le (n := c) k3 (by omega) i (by omega)
      refine shut fun Q3 hQ3 => ?_
      have mark : TokMark := trivial
      k_steps
      rename Fr _ _ _ _ => F7
      rename News _ _ _ _ => N7
      refine st_S2 ([(Wi, _), (_, _), (Z, _)] ++ own) F7 N7 rfl (.tail _ (.tail _ (.head _))) (.tail _ (.tail _ (.tail _ (.head _)))) (.tail _ (.tail _ (.tail _ (.tail _ (.head _))))) dS (.cons (.tail _ (.tail _ (.tail _ (.tail _ (.tail _ (.head _)))))) nc_list (.cons (.tail _ (.head _)) nc_list (.cons (.tail _ (.tail _ (.tail _ (.tail _ (.tail _ (.tail _ (.tail _ (.head _)))))))) nc_list (.own (fun p hp => .tail _ (.tail _ (.tail _ (.tail _ (.tail _ (.tail _ (.tail _ (.tail _ hp)))))))) hown)))) fun h' o' F8 N8 d8 => ?_
      clear F7 N7
      k_steps
      rename Fr _ _ _ _ => F9
      rename News _ _ _ _ => N9
      refine CompAt.intro 3 _ (fun j vs => Tts vs ([word (pars k (i + 1) a), word (pars k (i + 1) b), word (pars k (i + 1) c)].take j)) F9 N9 (by assumption) (by decide) (comp_range rfl (by decide) (by assumption)) .nil ?_ ?_
      · rintro C j v p q vs mc h tk own2 E' hj h1 h2 h3 ⟨t, rfl⟩ hG F10 N10 hC hmc hnC
        rw [show (0 + (j : Int) * 1) = (j : Int) by omega] at hmc
        refine shut fun Q4 hQ4 => ?_
        rename TokMark => mark
        clear mark N9 F9
        obtain ⟨n, hn, -⟩ := get_three (a := a) (b := b) (c := c) hj
        have hw : ∃ t', [Value.str (word (pars k i a)) u0, .str (word (pars k i b)) u1, .str (word (pars k i c)) u2][j]? = some (.str (word (pars k i n)) t') := get_str (f := fun n => word (pars k i n)) hn
        obtain ⟨tw, hw⟩ := hw
        have ho : (oddsOf [itN k i a, itN k i b, itN k i c])[j]? = some (itN k i n % 2 != 0) := get_odd (f := itN k i) hn
        have ho3 : (oddsOf [itN k i a, itN k i b, itN k i c]).length ≤ 100 := by show 3 ≤ 100; decide
        have hp3 : (pars k i n).length ≤ 100 := pars_le100 (by omega)
        have hx : [word (pars k (i + 1) a), word (pars k (i + 1) b), word (pars k (i + 1) c)][j]? = some (word (pars k (i + 1) n)) := by
          obtain ⟨v, h1, rfl⟩ := get_both (f := fun n v => v = word (pars k (i + 1) n)) hn rfl rfl rfl
          exact h1
        k_steps
        refine hQ4 _ _ (CompTurn.intro (by k_asm) (by k_asm) ?_)
        rw [take_snoc hx, ← pars_succ]
        exact Tts.snoc hG
      · intro D2 h tk vs e2 htk hG F10 N10
        obtain ⟨w0, w1, w2, rfl⟩ := tts3 hG
        dsimp only [mapSet] at F10
        refine st_W2 ([(D2, _), (_, _), (Z, _)] ++ own) F10 N10 rfl (.tail _ (.head _)) (.tail _ (.tail _ (.head _))) (.tail _ (.tail _ (.tail _ (.head _)))) dW (.cons (.head _) nc_list (.cons (.tail _ (.tail _ (.tail _ (.tail _ (.tail _ (.head _)))))) nc_list (.cons (.tail _ (.tail _ (.tail _ (.tail _ (.tail _ (.tail _ (.head _))))))) nc_list (.own (fun p hp => .tail _ (.tail _ (.tail _ (.tail _ (.tail _ (.tail _ (.tail _ hp))))))) hown)))) fun h2 o2 F11 N11 d11 => ?_
        clear F10 N10
        k_steps
        refine hQ3 _ _ ?_
        dsimp only [TurnN]
        exact ⟨_, _, _, [_, _, _, _, _, _], _, rfl, F11, N11, (by intro p hp; exact List.mem_append_left own hp), (fun p hp => .tail _ (.tail _ (.tail _ (.tail _ (.tail _ (.tail _ hp)))))), ⟨D2, _, o', o2, oD, _, _, _, _, _, _, _, _, _, rfl, d8, d11, dD, ⟨_, rfl⟩, ⟨_, rfl⟩, ⟨_, rfl⟩, rfl, rfl⟩⟩
    · intro m₁ led h tk htk j4 F5 N5
      exact PySem.wpAny_execs_nil (hRest _ ⟨D, Z, a, b, d2, t0, t1, t2, e, k, h, tk, m₁, led, ⟨k1, k3⟩, ba, bb, rfl, htk, F5, N5, by rw [hcc]; exact j4⟩)
  simp only [List.drop_succ_cons, List.drop_zero]
  refine segI 1 (I11 s₁) ?_ ?_
  · rintro s5 h10 Rest hRest
    obtain ⟨D, W, Y, Z, a, b, c, d2, k, oS, oW, oD, vS, u0, u1, u2, y0, y1, y2, t0, t1, t2, eW, eY, e, h, tk, m, ⟨k1, k3⟩, ha, hb, hc, hcc, rfl, htk, F, N, dS, dW, dD, ⟨tc, g1⟩, ⟨tw, g2⟩, g3, g4⟩ := I11.of h10
    clear h10
    have F2 := fr_re4 (a := Str.ofString "c") (b := Str.ofString "wish") (c := Str.ofString "first") (d := Str.ofString "numbers") F g1 g2 g3 g4
    clear F
    simp only [List.take_succ_cons, List.take_zero]
    refine wpAny_later 1 htk ?_
    have hw : word (pars k 4 c) = word (wishOf d2) := by rw [hcc, wish_law k1 k3]
    have mark : ChkMark := trivial
    k_steps
    rename 1 ≤ _ => hle
    rename News _ _ _ _ => N
    exact hRest _ ⟨D, W, Y, Z, a, b, c, d2, k, oS, oW, oD, vS, _, _, _, _, _, _, _, _, _, _, _, _, _, _, _, ⟨k1, k3⟩, ha, hb, hc, hcc, rfl, hle, F2, N, dS, dW, dD, ⟨_, rfl⟩, ⟨_, rfl⟩, rfl, rfl⟩
  simp only [List.drop_succ_cons, List.drop_zero]
  refine segI 1 (I11 s₁) ?_ ?_
  · rintro _ ⟨D, W, Y, Z, a, b, c, d2, k, oS, oW, oD, vS, u0, u1, u2, y0, y1, y2, t0, t1, t2, eW, eY, e, h, tk, m, ⟨k1, k3⟩, ha, hb, hc, hcc, rfl, htk, F, N, dS, dW, dD, hchk⟩ Rest hRest
    simp only [List.take_succ_cons, List.take_zero]
    refine PySem.wpAny_execs_cons ?_
    refine For_range (h₀ := s₁.heap) 1 (fun _ m => ChkM Z Y k d2 m) 3 (by decide) rfl F N htk rfl rfl (by intro _; rfl) (by passes_own) ?_ hchk ?_ ?_
    · intro R hR
      k_steps
      exact hR _ _ _ _ _ _ (by assumption) (by k_asm) (by k_asm)
    · clear N F hchk
      rintro i ui m₁ h tk own hi htk hchk F N
      refine shut fun Q3 hQ3 => ?_
      refine PySem.wpAny_execs_cons ?_
      refine For_range (h₀ := s₁.heap) 1 (fun _ m => ChkM Z Y k d2 m ∧ m (Str.ofString "k") = some (.int (i : Int) ui)) i (by omega) rfl F N htk rfl rfl (by intro _; rfl) (by passes_own) ?_ ⟨hchk, rfl⟩ ?_ ?_
      · intro R hR
        k_steps
        exact hR _ _ _ _ _ _ (by assumption) (by k_asm) (by k_asm)
      · clear N F hchk
        rintro j uj m₂ h2 tk2 own2 hj htk2 ⟨⟨⟨tc, g1⟩, ⟨tw, g2⟩, g3, g4⟩, gk⟩ F2 N2
        refine shut fun Q4 hQ4 => ?_
        obtain ⟨x, hx, hxx⟩ := get_three (a := a) (b := b) (c := c) hi
        obtain ⟨y, hy, hyy⟩ := get_three (a := a) (b := b) (c := c) (Nat.lt_trans hj hi)
        have hx32 : x ≤ 32 := by omega
        have hy32 : y ≤ 32 := by omega
        clear hxx hyy
        have hw1 : ∃ t', [Value.str (word (pars k 4 a)) u0, .str (word (pars k 4 b)) u1, .str (word (pars k 4 c)) u2][i]? = some (.str (word (pars k 4 x)) t') := get_str (f := fun n => word (pars k 4 n)) hx
        have hw2 : ∃ t', [Value.str (word (pars k 4 a)) u0, .str (word (pars k 4 b)) u1, .str (word (pars k 4 c)) u2][j]? = some (.str (word (pars k 4 y)) t') := get_str (f := fun n => word (pars k 4 n)) hy
        have hf1 : ∃ t', [Value.int (a : Int) t0, .int (b : Int) t1, .int (c : Int) t2][i]? = some (.int (x : Int) t') := get_int (f := fun n => n) hx
        have hf2 : ∃ t', [Value.int (a : Int) t0, .int (b : Int) t1, .int (c : Int) t2][j]? = some (.int (y : Int) t') := get_int (f := fun n => n) hy
        obtain ⟨tw1, hw1⟩ := hw1
        obtain ⟨tw2, hw2⟩ := hw2
        obtain ⟨tf1, hf1⟩ := hf1
        obtain ⟨tf2, hf2⟩ := hf2
        have hl1 : (pars k 4 x).length ≤ 100 := pars_le100 (by decide)
        have hl2 : (pars k 4 y).length ≤ 100 := pars_le100 (by decide)
        refine segN 1 (PairI s₁ s₁.heap s₁.heap.objs.size (ChkL s₁.heap.objs.size W Y Z a b c k oS oW oD u0 u1 u2 y0 y1 y2 t0 t1 t2 eW eY e ++ own ++ own2) Z Y k d2 i j ui uj 0) ?_ ?_
        · have F3 := fr_re1 (a := Str.ofString "k") (fr_re4 (a := Str.ofString "c") (b := Str.ofString "wish") (c := Str.ofString "first") (d := Str.ofString "numbers") F2 g1 g2 g3 g4) gk
          clear F2
          simp only [List.take_succ_cons, List.take_zero]
          intro Rest hRest
          k_steps
          exact hRest _ ⟨_, _, _, rfl, by k_asm, by k_asm, ⟨⟨_, rfl⟩, ⟨_, rfl⟩, rfl, rfl⟩, rfl, rfl, ⟨_, rfl⟩⟩
        · clear F2 N2 g1 g2 g3 g4 gk
          intro s6 h6
          simp only [List.drop_succ_cons, List.drop_zero]
          refine segN 1 (fun s' => ∃ p, p ≤ 4 ∧ pars k p x = pars k p y ∧ (p < 4 → pars k (p + 1) x ≠ pars k (p + 1) y) ∧ PairI s₁ s₁.heap s₁.heap.objs.size (ChkL s₁.heap.objs.size W Y Z a b c k oS oW oD u0 u1 u2 y0 y1 y2 t0 t1 t2 eW eY e ++ own ++ own2) Z Y k d2 i j ui uj p s') ?_ ?_
          · simp only [List.take_succ_cons, List.take_zero]
            intro Rest hRest
            refine PySem.wpAny_execs_cons ?_
            refine While_gen (fun q s' => ∃ p, q = 4 - p ∧ p ≤ 4 ∧ pars k p x = pars k p y ∧ PairI s₁ s₁.heap s₁.heap.objs.size (ChkL s₁.heap.objs.size W Y Z a b c k oS oW oD u0 u1 u2 y0 y1 y2 t0 t1 t2 eW eY e ++ own ++ own2) Z Y k d2 i j ui uj p s') 4 (by passes_own) ⟨0, rfl, by decide, rfl, h6⟩ ?_
            clear h6
            rintro q _ ⟨p, rfl, hp4, hpe, h, tk, m, rfl, F, N, ⟨⟨tc, g1⟩, ⟨tw, g2⟩, g3, g4⟩, gk, go, ⟨ta, ga⟩⟩ Again hA
            have F3 := fr_re3 (a := Str.ofString "k") (b := Str.ofString "other") (c := Str.ofString "alike") (fr_re4 (a := Str.ofString "c") (b := Str.ofString "wish") (c := Str.ofString "first") (d := Str.ofString "numbers") F g1 g2 g3 g4) gk go ga
            clear F
            refine shut fun Q5 hQ5 => ?_
            rcases Nat.lt_or_ge p 4 with hp | hp
            · have b1 := pars_get (k := k) (n := x) hp
              have b2 := pars_get (k := k) (n := y) hp
              by_cases hb : (itN k p x % 2 != 0) = (itN k p y % 2 != 0)
              · k_steps
                refine hQ5 _ _ ?_
                simp only [if_true]
                k_steps
                exact hA (4 - (p + 1)) _ (by omega) ⟨p + 1, rfl, hp, agree_snoc hpe hb, _, _, _, rfl, by k_asm, by k_asm, ⟨⟨_, rfl⟩, ⟨_, rfl⟩, rfl, rfl⟩, rfl, rfl, ⟨_, Eq.trans (b := some (Value.int _ _)) rfl (at_int (by push_cast; rfl))⟩⟩
              · k_steps
                exact hQ5 false _ (PySem.wpAny_execs_nil (hRest _ ⟨p, hp4, hpe, fun _ => differ_snoc hpe hb, _, _, _, rfl, by k_asm, by k_asm, ⟨⟨_, rfl⟩, ⟨_, rfl⟩, rfl, rfl⟩, rfl, rfl, ⟨_, rfl⟩⟩))
            · k_steps
              exact hQ5 false _ (PySem.wpAny_execs_nil (hRest _ ⟨p, hp4, hpe, fun h => absurd h (by omega), _, _, _, rfl, by k_asm, by k_asm, ⟨⟨_, rfl⟩, ⟨_, rfl⟩, rfl, rfl⟩, rfl, rfl, ⟨_, rfl⟩⟩))
          · clear h6
            rintro s7 ⟨p, hp4, hpe, hpn, h, tk, m, rfl, F, N, ⟨⟨tc, g1⟩, ⟨tw, g2⟩, g3, g4⟩, gk, go, ⟨ta, ga⟩⟩
            have F3 := fr_re3 (a := Str.ofString "k") (b := Str.ofString "other") (c := Str.ofString "alike") (fr_re4 (a := Str.ofString "c") (b := Str.ofString "wish") (c := Str.ofString "first") (d := Str.ofString "numbers") F g1 g2 g3 g4) gk go ga
            clear F
            have e1 : Int.fmod ((x : Int) - (y : Int)) (2 ^ (Int.toNat (p : Int))) = 0 := apart_law hp4 hpe
            simp only [List.drop_succ_cons, List.drop_zero]
            rcases Nat.lt_or_ge p 4 with hp | hp
            · have e2 : Int.fmod ((x : Int) - (y : Int)) (2 ^ (Int.toNat ((p : Int) + 1))) ≠ 0 := apart_law2 hp (hpn hp)
              have mark : ChkMark := trivial
              iterate 20 walk1
              (try dsimp only)
              iterate 20 walk1
              (try dsimp only)
              iterate 15 walk1
              (try dsimp only)
              repeat' walk1
              exact hQ4 _ _ (TurnEndT.intro (by k_asm) (by k_asm) ⟨⟨⟨_, rfl⟩, ⟨_, rfl⟩, rfl, rfl⟩, rfl⟩)
            · have mark : ChkMark := trivial
              iterate 20 walk1
              (try dsimp only)
              iterate 20 walk1
              (try dsimp only)
              repeat' walk1
              exact hQ4 _ _ (TurnEndT.intro (by k_asm) (by k_asm) ⟨⟨⟨_, rfl⟩, ⟨_, rfl⟩, rfl, rfl⟩, rfl⟩)
      · intro m₂ h2 tk2 htk2 hj F2 N2
        refine PySem.wpAny_execs_nil (hQ3 _ _ ?_)
        exact TurnEndT.intro F2 N2 hj.1
    · intro m₁ h tk htk hchk F N
      exact PySem.wpAny_execs_nil (hRest _ ⟨D, W, Y, Z, a, b, c, d2, k, oS, oW, oD, vS, u0, u1, u2, y0, y1, y2, t0, t1, t2, eW, eY, e, h, tk, m₁, ⟨k1, k3⟩, ha, hb, hc, hcc, rfl, htk, F, N, dS, dW, dD, hchk⟩)
  simp only [List.drop_succ_cons, List.drop_zero]
  refine segI 1 (I11 s₁) ?_ ?_
  · rintro _ ⟨D, W, Y, Z, a, b, c, d2, k, oS, oW, oD, vS, u0, u1, u2, y0, y1, y2, t0, t1, t2, eW, eY, e, h, tk, m, ⟨k1, k3⟩, ha, hb, hc, hcc, rfl, htk, F, N, dS, dW, dD, hchk⟩ Rest hRest
    simp only [List.take_succ_cons, List.take_zero]
    refine PySem.wpAny_execs_cons ?_
    refine For_range (h₀ := s₁.heap) 1 (fun _ m => ChkM Z Y k d2 m) 3 (by decide) rfl F N htk rfl rfl (by intro _; rfl) (by passes_own) ?_ hchk ?_ ?_
    · intro R hR
      k_steps
      exact hR _ _ _ _ _ _ (by assumption) (by k_asm) (by k_asm)
    · clear N F hchk
      rintro i ui m₁ h tk own hi htk ⟨⟨tc, g1⟩, ⟨tw, g2⟩, g3, g4⟩ F N
      have F3 := fr_re4 (a := Str.ofString "c") (b := Str.ofString "wish") (c := Str.ofString "first") (d := Str.ofString "numbers") F g1 g2 g3 g4
      clear F
      refine shut fun Q3 hQ3 => ?_
      obtain ⟨x, hx, hxx⟩ := get_three (a := a) (b := b) (c := c) hi
      have hx32 : x ≤ 32 := by omega
      clear hxx
      have hw1 : ∃ t', [Value.str (word (pars k 4 a)) u0, .str (word (pars k 4 b)) u1, .str (word (pars k 4 c)) u2][i]? = some (.str (word (pars k 4 x)) t') := get_str (f := fun n => word (pars k 4 n)) hx
      have hf1 : ∃ t', [Value.int (a : Int) t0, .int (b : Int) t1, .int (c : Int) t2][i]? = some (.int (x : Int) t') := get_int (f := fun n => n) hx
      have hn1 : ∃ t', [Value.int ((itN k 4 a : Nat) : Int) y0, .int ((itN k 4 b : Nat) : Int) y1, .int ((itN k 4 c : Nat) : Int) y2][i]? = some (.int ((itN k 4 x : Nat) : Int) t') := get_int (f := itN k 4) hx
      obtain ⟨tw1, hw1⟩ := hw1
      obtain ⟨tf1, hf1⟩ := hf1
      obtain ⟨tn1, hn1⟩ := hn1
      have hlen : (pars k 4 x).length = 4 := pars_len k 4 x
      obtain ⟨e1, e2⟩ := reck_law k1 k3 hx32
      obtain ⟨r1, r2⟩ := reckRest_bound k1 k3 hlen
      obtain ⟨q1, q2, q3, q4, q5, q6⟩ := reck_bound (c := 2 * (k : Int) - 1) (ws := pars k 4 x) (by omega) (by omega) (by omega)
      have hi4 := itN_le k3 hx32 4 (by decide)
      have p1 := Int.mul_nonneg q1 (Int.natCast_nonneg x)
      have p2 := Int.mul_le_mul q2 (show (x : Int) ≤ 32 by omega) (Int.natCast_nonneg x) (by decide)
      have mark : ChkMark := trivial
      iterate 40 walk1
      dsimp only
      iterate 20 walk1
      dsimp only
      iterate 15 walk1
      (try dsimp only)
      repeat' walk1
      rename Fr _ _ _ _ => F9
      rename News _ _ _ _ => N9
      exact hQ3 _ _ (TurnEndT.intro F9 (news_sub N9 (fun p hp => .tail _ hp)) ⟨⟨_, rfl⟩, ⟨_, rfl⟩, rfl, rfl⟩)
    · intro m₁ h tk htk hchk F N
      exact PySem.wpAny_execs_nil (hRest _ ⟨D, W, Y, Z, a, b, c, d2, k, oS, oW, oD, vS, u0, u1, u2, y0, y1, y2, t0, t1, t2, eW, eY, e, h, tk, m₁, ⟨k1, k3⟩, ha, hb, hc, hcc, rfl, htk, F, N, dS, dW, dD, hchk⟩)
  simp only [List.drop_succ_cons, List.drop_zero]
  rintro _ ⟨D, W, Y, Z, a, b, c, d2, k, oS, oW, oD, vS, u0, u1, u2, y0, y1, y2, t0, t1, t2, eW, eY, e, h, tk, m, -, -, -, -, -, rfl, -, F, N, -, -, -, -⟩
  k_steps
  refine hQ' _ _ ?_
  k_steps)
end Mine

end
set_option maxRecDepth 100000 in
set_option maxHeartbeats 8000000 in
theorem PySem.Challenge.cw_wn0017_01_holds : PySem.Challenge.rw_wn0017_01.Holds := by
  exact Mine.law_walk ()
