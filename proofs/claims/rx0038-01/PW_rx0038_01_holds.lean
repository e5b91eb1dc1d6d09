import PyProof.Rows.All
import Wide.All
import OpenK.AllK
import Wide.FinOn
import PyProof.AttrMissHeap
import PySem.Challenge.RW_rx0038_01
set_option Elab.async false
set_option maxRecDepth 100000
set_option compiler.extract_closed false
set_option linter.all false
namespace Mine
section PartA1
open PySem PySem.Sre

def ipC : Array Nat := #[14, 8, 1, 2, 4294967295, 1, 1, 46, 0, 16, 46, 24, 9, 1, 4294967295, 13, 4, 8, 0, 0, 1, 6, 5, 1]

def dcount (T : Array Nat) : Nat → Nat → Nat
  | 0, _ => 0
  | n + 1, p => if isDigit (T.getD p 0) then 1 + dcount T n (p + 1) else 0

theorem accepts_ip (c : Nat) (seen : Seen) : ∃ seen', accepts ipC 15 c seen = .ok (isDigit c, seen') := by
  cases h : isDigit c with
  | true => exact ⟨_, by
      show inSet ipC c 24 17 true seen = _
      unfold inSet
      show ((category 0 c) >>= fun b => if b then _ else _) = _
      simp only [category, h]
      rfl⟩
  | false => exact ⟨_, by
      show inSet ipC c 24 17 true seen = _
      unfold inSet
      show ((category 0 c) >>= fun b => if b then _ else _) = _
      simp only [category, h]
      rfl⟩

theorem run_ip (T : Array Nat) : ∀ n p found seen, ∃ seen', Sre.run ipC T 15 n p found seen = .ok (found + dcount T n p, seen')
  | 0, p, found, seen => ⟨seen, rfl⟩
  | n + 1, p, found, seen => by
    obtain ⟨s1, h1⟩ := accepts_ip (T.getD p 0) seen
    cases h : isDigit (T.getD p 0) with
    | true =>
      obtain ⟨s2, h2⟩ := run_ip T n (p + 1) (found + 1) s1
      refine ⟨s2, ?_⟩
      unfold Sre.run
      rw [h1, h]
      show Sre.run ipC T 15 n (p + 1) (found + 1) s1 = _
      rw [h2]
      simp only [dcount, h, if_true]
      congr 2
      omega
    | false =>
      refine ⟨s1, ?_⟩
      unfold Sre.run
      rw [h1, h]
      simp only [dcount, h]
      rfl

def iter : Nat → M → M
  | 0, m => m
  | n + 1, m => iter n m.step

theorem step_done {m : M} (h : m.outcome.isSome = true) : m.step = m := by unfold M.step; rw [if_pos h]
theorem iter_done {m : M} (h : m.outcome.isSome = true) : ∀ n, iter n m = m
  | 0 => rfl
  | n + 1 => by show iter n m.step = m; rw [step_done h]; exact iter_done h n
theorem runFor_iter : ∀ (n : Nat) (m : M), m.runFor n = iter n m
  | 0, _ => rfl
  | n + 1, m => by
    unfold M.runFor
    split
    · rename_i h; exact (iter_done h _).symm
    · exact runFor_iter n m.step
theorem iter_add : ∀ (a b : Nat) (m : M), iter (a + b) m = iter b (iter a m)
  | 0, b, m => by rw [Nat.zero_add]; rfl
  | a + 1, b, m => by rw [Nat.add_right_comm]; exact iter_add a b m.step

def oc (b : Bool) : Sre.Outcome := if b then .matched else .failed
def Ends (m : M) (b : Bool) (n : Nat) : Prop := ∃ k, k ≤ n ∧ (iter k m).outcome = some (oc b)

theorem Ends.step {m : M} {b : Bool} {n : Nat} (h : Ends m.step b n) : Ends m b (n + 1) := by
  obtain ⟨k, hk, e⟩ := h
  exact ⟨k + 1, Nat.succ_le_succ hk, e⟩
theorem Ends.le {m : M} {b : Bool} {n n' : Nat} (h : Ends m b n) (hn : n ≤ n') : Ends m b n' := by
  obtain ⟨k, hk, e⟩ := h
  exact ⟨k, Nat.le_trans hk hn, e⟩

def fr0 (s : Nat) (ob : Bool) : Sre.Frame := { wait := .nextStart, pc := 9, pos := s, outermost := ob }
def fr1 (p c : Nat) (ob : Bool) : Sre.Frame := { wait := .giveBack, pc := 11, pos := p, outermost := ob, count := c, kept := { lastmark := -1, lastindex := -1, whole := false, marks := #[] } }

/-- the machine at a place of the code, within the attempt at s -/
def St (T : Array Nat) (s : Nat) (ob : Bool) (pc pos handed : Nat) (frames : List Sre.Frame) (answer : Option Bool) (seen : Seen) : M :=
  { code := ipC, text := T, lim := T.size, start := s, lastStart := T.size, wholeText := false, mustAdvance := false, pc, pos, handed, outermost := ob,
    marks := #[], lastmark := -1, lastindex := -1, loops := #[], inner := none, frames, weight := frames.length, answer, seen, outcome := none }

section
variable {T : Array Nat} {s pos handed : Nat} {ob : Bool} {seen : Seen} {frames : List Sre.Frame}

theorem st_fail_end {pc : Nat} : Ends (St T s ob pc pos handed [] (some false) seen) false 1 := ⟨1, Nat.le_refl _, rfl⟩
theorem st_ok_end {pc : Nat} : Ends (St T s ob pc pos handed [fr0 s ob] (some true) seen) true 2 := ⟨2, Nat.le_refl _, rfl⟩

/-- the attempt at s has failed: the next, or the end -/
theorem st_next {pc : Nat} : (St T s ob pc pos handed [fr0 s ob] (some false) seen).step =
    if s < T.size then St T (s + 1) false 9 (s + 1) (s + 1) [fr0 (s + 1) false] none seen else St T s ob 9 s handed [] (some false) seen := by
  show (if s < T.size then _ else _ : M) = _
  split <;> rfl

theorem st_lit : (St T s ob 9 pos handed frames none seen).step =
    if pos ≥ T.size then (St T s ob 9 pos handed frames (some false) (seen.add 16)) else
    if T.getD pos 0 = 46 then St T s ob 11 (pos + 1) handed frames none (seen.add 16) else St T s ob 9 pos handed frames (some false) (seen.add 16) := by
  show (if pos ≥ T.size then _ else (match (accepts ipC 9 (T.getD pos 0) (seen.add 16)) with | .error why => _ | .ok (false, seen) => _ | .ok (true, seen) => _) : M) = _
  split
  · rfl
  · rw [show accepts ipC 9 (T.getD pos 0) (seen.add 16) = .ok (T.getD pos 0 == 46, seen.add 16) from rfl]
    split
    · rename_i e; cases e
    · rename_i e; injection e with e; injection e with e1 e2; subst e2
      rw [if_neg (by simpa using e1)]
      rfl
    · rename_i e; injection e with e; injection e with e1 e2; subst e2
      rw [if_pos (by simpa using e1)]
      rfl

def dk (T : Array Nat) (pos : Nat) : Nat := dcount T (min 4294967295 (T.size - pos)) pos

theorem dcount_le (T : Array Nat) : ∀ n p, dcount T n p ≤ n
  | 0, _ => Nat.le_refl _
  | n + 1, p => by
    unfold dcount
    split
    · have := dcount_le T n (p + 1); omega
    · omega
theorem dk_le : dk T pos ≤ T.size - pos := Nat.le_trans (dcount_le _ _ _) (Nat.min_le_right _ _)
theorem dcount_dig (T : Array Nat) : ∀ n p j, j < dcount T n p → isDigit (T.getD (p + j) 0) = true
  | 0, _, j, h => absurd h (Nat.not_lt_zero _)
  | n + 1, p, j, h => by
    unfold dcount at h
    split at h
    · rename_i hd
      cases j with
      | zero => exact hd
      | succ j =>
        have := dcount_dig T n (p + 1) j (by omega)
        rw [show p + (j + 1) = p + 1 + j by omega]
        exact this
    · exact absurd h (Nat.not_lt_zero _)

theorem st_rep (hp : pos ≤ T.size) : ∃ seen' pc', (St T s ob 11 pos handed [fr0 s ob] none seen).step =
    if dk T pos = 0 then St T s ob pc' pos handed [fr0 s ob] (some false) seen' else St T s ob 21 (pos + dk T pos) (pos + dk T pos) [fr1 (pos + dk T pos) (dk T pos) ob, fr0 s ob] none seen' := by
  have hs : (St T s ob 11 pos handed [fr0 s ob] none seen).step =
    if ((1 : Nat) : Int) > (T.size : Int) - pos then St T s ob 11 pos handed [fr0 s ob] (some false) (seen.add 24) else
    (match Sre.run ipC T 15 (min 4294967295 ((T.size : Int) - pos).toNat) pos 0 ((seen.add 24).add 13) with
    | .error why => M.stick { St T s ob 11 pos handed [fr0 s ob] none seen with seen := seen.add 24 } why
    | .ok (n, seen') => if n < 1 then St T s ob 11 pos handed [fr0 s ob] (some false) seen' else
        St T s ob 21 (pos + n) (pos + n) [fr1 (pos + n) n ob, fr0 s ob] none seen') := rfl
  rw [hs]
  by_cases h : ((1 : Nat) : Int) > (T.size : Int) - pos
  · rw [if_pos h]
    have : dk T pos = 0 := by have := dk_le (T := T) (pos := pos); omega
    exact ⟨_, _, by rw [if_pos this]⟩
  · rw [if_neg h]
    obtain ⟨s1, h1⟩ := run_ip T (min 4294967295 ((T.size : Int) - pos).toNat) pos 0 ((seen.add 24).add 13)
    rw [h1]
    have e : ((T.size : Int) - pos).toNat = T.size - pos := by omega
    rw [e, Nat.zero_add]
    refine ⟨s1, 11, ?_⟩
    show (if dk T pos < 1 then _ else _) = _
    by_cases h0 : dk T pos = 0
    · rw [if_pos h0, if_pos (by omega)]
    · rw [if_neg h0, if_neg (by omega)]
      rfl

def atEnd (T : Array Nat) (p : Nat) : Bool := p == T.size || (p + 1 == T.size && T.getD p 0 == 10)

theorem st_at : ∃ seen', (St T s ob 21 pos handed frames none seen).step =
    if atEnd T pos = true then St T s ob 23 pos handed frames none seen' else St T s ob 21 pos handed frames (some false) seen' :=
  ⟨(seen.add 6).add 48, rfl⟩
theorem st_succ : (St T s ob 23 pos handed frames none seen).step = St T s ob 23 pos pos frames (some true) (seen.add 1) := by
  cases ob <;> rfl
theorem st_gb_yes {pc p c : Nat} : (St T s ob pc pos handed [fr1 p c ob, fr0 s ob] (some true) seen).step = St T s ob 11 p handed [fr0 s ob] (some true) seen := rfl
theorem st_gb_no {pc p c : Nat} (hc : 0 < c) : (St T s ob pc pos handed [fr1 p c ob, fr0 s ob] (some false) seen).step =
    if c = 1 then St T s ob 11 p handed [fr0 s ob] (some false) seen else St T s ob 21 (p - 1) (p - 1) [fr1 (p - 1) (c - 1) ob, fr0 s ob] none seen := by
  have hs : (St T s ob pc pos handed [fr1 p c ob, fr0 s ob] (some false) seen).step =
    if (c : Int) - 1 < (1 : Nat) then St T s ob 11 p handed [fr0 s ob] (some false) seen else
      St T s ob 21 (p - 1) (p - 1) [{ wait := .giveBack, pc := 11, pos := p - 1, outermost := ob, count := (c : Int) - 1, kept := { lastmark := -1, lastindex := -1, whole := false, marks := #[] } }, fr0 s ob] none seen := rfl
  rw [hs]
  by_cases h : c = 1
  · rw [if_pos h, if_pos (by omega)]
  · rw [if_neg h, if_neg (by omega)]
    have e : (c : Int) - 1 = ((c - 1 : Nat) : Int) := by omega
    rw [e]
    rfl

theorem gb_fail {b : Bool} {N : Nat} (k : ∀ pc pos handed seen, Ends (St T s ob pc pos handed [fr0 s ob] (some false) seen) b N) :
    ∀ c p, 0 < c → (∀ j, j < c → atEnd T (p - j) = false) → ∀ seen, Ends (St T s ob 21 p p [fr1 p c ob, fr0 s ob] none seen) b (N + 2 * c)
  | 0, _, h, _, _ => absurd h (Nat.lt_irrefl _)
  | c + 1, p, _, ha, seen => by
    refine (Ends.step ?_ : Ends _ b ((N + 2 * c + 1) + 1)).le (by omega)
    obtain ⟨s1, e⟩ := st_at (T := T) (s := s) (ob := ob) (pos := p) (handed := p) (frames := [fr1 p (c + 1) ob, fr0 s ob]) (seen := seen)
    rw [e, if_neg (by rw [show p = p - 0 from rfl, ha 0 (by omega)]; decide)]
    refine Ends.step ?_
    rw [st_gb_no (Nat.succ_pos _)]
    by_cases h : c + 1 = 1
    · rw [if_pos h]
      exact (k _ _ _ _).le (by omega)
    · rw [if_neg h]
      exact gb_fail k c (p - 1) (by omega) (fun j hj => by rw [show p - 1 - j = p - (j + 1) by omega]; exact ha _ (by omega)) s1

def hitAt (T : Array Nat) (t : Nat) : Bool := decide (t < T.size) && (T.getD t 0 == 46) && decide (0 < dk T (t + 1)) && atEnd T (t + 1 + dk T (t + 1))
def anyHit (T : Array Nat) : Nat → Nat → Bool
  | 0, _ => false
  | n + 1, t => hitAt T t || anyHit T n (t + 1)

theorem st_search : ∀ n t ob seen, t + n = T.size → Ends (St T t ob 9 t t [fr0 t ob] none seen) (anyHit T n t) ((n + 1) * (2 * T.size + 10))
  | n, t, ob, seen, hn => by
    have next : ∀ pc pos handed seen, hitAt T t = false → Ends (St T t ob pc pos handed [fr0 t ob] (some false) seen) (anyHit T n t) (n * (2 * T.size + 10) + 2) := by
      intro pc pos handed seen hh
      refine Ends.step ?_
      rw [st_next]
      cases n with
      | zero =>
        rw [if_neg (by omega)]
        exact st_fail_end.le (by omega)
      | succ n =>
        rw [if_pos (by omega)]
        show Ends _ (hitAt T t || anyHit T n (t + 1)) _
        rw [hh]
        exact (st_search n (t + 1) false seen (by omega)).le (by omega)
    have hmul : (n + 1) * (2 * T.size + 10) = n * (2 * T.size + 10) + (2 * T.size + 10) := by rw [Nat.succ_mul]
    rw [hmul]
    generalize hN : n * (2 * T.size + 10) = N at next ⊢
    refine (Ends.step ?_ : Ends _ _ ((N + 2 * T.size + 9) + 1)).le (by omega)
    rw [st_lit]
    by_cases h1 : t ≥ T.size
    · rw [if_pos h1]
      exact (next _ _ _ _ (by unfold hitAt; rw [decide_eq_false (by omega)]; rfl)).le (by omega)
    rw [if_neg h1]
    by_cases h2 : T.getD t 0 = 46
    · rw [if_pos h2]
      refine (Ends.step ?_ : Ends _ _ ((N + 2 * T.size + 8) + 1)).le (by omega)
      obtain ⟨s1, pc1, e1⟩ := st_rep (T := T) (s := t) (ob := ob) (pos := t + 1) (handed := t) (seen := seen.add 16) (by omega)
      rw [e1]
      by_cases h3 : dk T (t + 1) = 0
      · rw [if_pos h3]
        exact (next _ _ _ _ (by unfold hitAt; rw [h3, decide_eq_false (Nat.lt_irrefl 0)]; simp)).le (by omega)
      · rw [if_neg h3]
        have hk := dk_le (T := T) (pos := t + 1)
        by_cases h4 : atEnd T (t + 1 + dk T (t + 1)) = true
        · have hh : hitAt T t = true := by
            unfold hitAt
            rw [h4, h2, decide_eq_true (by omega : t < T.size), decide_eq_true (by omega : 0 < dk T (t + 1))]; rfl
          have ha : anyHit T n t = true := by
            cases n with
            | zero => omega
            | succ n => show (hitAt T t || _) = true; rw [hh]; rfl
          rw [ha]
          refine (Ends.step ?_ : Ends _ _ (5 + 1)).le (by omega)
          obtain ⟨s2, e2⟩ := st_at (T := T) (s := t) (ob := ob) (pos := t + 1 + dk T (t + 1)) (handed := t + 1 + dk T (t + 1)) (frames := [fr1 (t + 1 + dk T (t + 1)) (dk T (t + 1)) ob, fr0 t ob]) (seen := s1)
          rw [e2, if_pos h4]
          refine Ends.step ?_
          rw [st_succ]
          refine Ends.step ?_
          rw [st_gb_yes]
          exact st_ok_end.le (by omega)
        · have hh : hitAt T t = false := by
            unfold hitAt
            rw [show atEnd T (t + 1 + dk T (t + 1)) = false by simpa using h4]
            simp
          refine (gb_fail (fun pc pos handed seen => next pc pos handed seen hh) (dk T (t + 1)) _ (by omega) (fun j hj => ?_) s1).le (by omega)
          cases j with
          | zero => simpa using h4
          | succ j =>
            have hd := dcount_dig T _ (t + 1) (dk T (t + 1) - (j + 1)) (show _ < dk T (t + 1) by omega)
            rw [show t + 1 + dk T (t + 1) - (j + 1) = t + 1 + (dk T (t + 1) - (j + 1)) by omega]
            unfold atEnd
            have hne : T.getD (t + 1 + (dk T (t + 1) - (j + 1))) 0 ≠ 10 := by
              intro e
              rw [e] at hd
              exact absurd hd (by decide)
            simp only [Bool.or_eq_false_iff, beq_eq_false_iff_ne, Bool.and_eq_false_imp, beq_iff_eq]
            exact ⟨by omega, fun _ => hne⟩
    · rw [if_neg h2]
      exact (next _ _ _ _ (by unfold hitAt; rw [beq_false_of_ne h2]; simp)).le (by omega)

theorem search_ends (T : Array Nat) : Ends (forSearch ipC T 0 0 T.size false) (decide (2 ≤ T.size) && anyHit T T.size 0) ((T.size + 1) * (2 * T.size + 10)) := by
  have h9 : (T.size + 1) * (2 * T.size + 10) ≥ 1 := Nat.mul_pos (by omega) (by omega)
  by_cases h : 2 ≤ T.size
  · have e : forSearch ipC T 0 0 T.size false = St T 0 true 9 0 0 [fr0 0 true] none (({} : Seen).add 14) := by
      show (if ((decide (0 > T.size)) || decide (T.size - 0 < 2)) = true then _ else _ : M) = _
      rw [if_neg (by simp; omega)]
      rfl
    rw [e, decide_eq_true h]
    exact st_search T.size 0 true _ (by omega)
  · rw [decide_eq_false h]
    have e : (forSearch ipC T 0 0 T.size false).step.outcome = some (oc false) := by
      have : forSearch ipC T 0 0 T.size false = M.say (St T 0 true 9 0 0 [] none (({} : Seen).add 14) |> fun m => { m with lastStart := 0 }) false := by
        show (if ((decide (0 > T.size)) || decide (T.size - 0 < 2)) = true then _ else _ : M) = _
        rw [if_pos (by simp; omega)]
        rfl
      rw [this]
      rfl
    exact ⟨1, h9, e⟩

end
end PartA1
section PartA2
open PySem PySem.Sre PySem.Builtin.Re PyProof.Rows

section
variable {M : Model} {A : Around} {E : Value → Shared → Prop} {s : Shared}

theorem drive_wp {Q : Sre.M → Shared → Prop} : ∀ (turns n : Nat) (m : Sre.M), n < turns → (iter (4 * n) m).outcome.isSome = true → (∀ m', (∃ k, iter k m = m') → m'.outcome = (iter (4 * n) m).outcome → Q m' s) →
    wpAny M A (reDrive turns m) Q E s
  | 0, n, m, h, _, _ => absurd h (Nat.not_lt_zero _)
  | turns + 1, n, m, h, ho, hQ => by
    unfold reDrive
    show wpAny M A (if (m.runFor 4).outcome.isSome = true then pure (m.runFor 4) else (rule "sre.turn" >>= fun _ => reDrive turns (m.runFor 4))) Q E s
    rw [runFor_iter]
    by_cases h4 : (iter 4 m).outcome.isSome = true
    · rw [if_pos h4]
      refine wpAny_pure (hQ _ ⟨4, rfl⟩ ?_)
      cases n with
      | zero =>
        have : iter 4 m = m := iter_done ho 4
        rw [this]; rfl
      | succ n =>
        rw [show 4 * (n + 1) = 4 + 4 * n by omega, iter_add, iter_done h4]
    · rw [if_neg h4]
      refine wpAny_bind (wpAny_rule ?_)
      cases n with
      | zero => exact absurd (by rw [iter_done (m := m) ho]; exact ho) h4
      | succ n =>
        have e : iter (4 * (n + 1)) m = iter (4 * n) (iter 4 m) := by rw [show 4 * (n + 1) = 4 + 4 * n by omega, iter_add]
        rw [e] at ho hQ
        exact drive_wp turns n _ (by omega) ho fun m' ⟨k, hk⟩ he => hQ m' ⟨4 + k, by rw [iter_add]; exact hk⟩ he

theorem seen_wp {m : Sre.M} {Q : PUnit → Shared → Prop} (h : Q PUnit.unit s) :
    ∀ l : List Nat, wpAny M A (forIn l PUnit.unit fun i _ => do
      if m.seen.has i then rule (Sre.names.getD i "")
      pure (ForInStep.yield PUnit.unit)) Q E s
  | [] => by
    rw [List.forIn_nil]
    exact wpAny_pure h
  | i :: l => by
    have ih := seen_wp (m := m) h l
    rw [List.forIn_cons]
    by_cases hi : m.seen.has i = true
    · rw [if_pos hi]
      exact wpAny_bind (wpAny_bind (wpAny_rule (wpAny_pure ih)))
    · rw [if_neg hi]
      exact wpAny_bind (wpAny_pure ih)

theorem toEnd_wp {m : Sre.M} {b : Bool} {N : Nat} {Q : Option Sre.M → Shared → Prop} (he : Ends m b N) (hN : N < 2 ^ 64) (h : ∀ m', (∃ k, iter k m = m') → Q (if b then some m' else none) s) :
    wpAny M A (reRunToEnd m) Q E s := by
  obtain ⟨k, hk, e⟩ := he
  unfold reRunToEnd
  have e4 : (iter (4 * k) m) = iter k m := by
    rw [show 4 * k = k + 3 * k by omega, iter_add, iter_done (by rw [e]; rfl)]
  refine wpAny_bind (drive_wp _ k m (by omega) (by rw [e4, e]; rfl) fun m' hm' hm => ?_)
  rw [e4, e] at hm
  have fin : wpAny M A (match m'.outcome with
      | some .matched => pure (some m')
      | some .failed => pure none
      | some (.stuck why) => unsupported s!"_sre:{why}"
      | none => unsupported "internal:sre:no-outcome") Q E s := by
    rw [hm]
    have := h m' hm'
    cases b with
    | true => exact wpAny_pure this
    | false => exact wpAny_pure this
  exact wpAny_bind (seen_wp fin _)
end

theorem slot_search : Slot "re.Pattern" "search" "re.Pattern.search" :=
  .of (owner := "re.Pattern") (n := "search") (by rw [typeLookup_type, builtinLookup_eq_fast]; kernel_rfl) (by decide +kernel) (by decide +kernel) (by decide +kernel)
    (by first | exact .inl (by decide +kernel) | exact .inr (by decide +kernel)) (by rw [isSubtype_type]; kernel_rfl)
theorem type_search : typeOf (.builtin "re.Pattern.search") = pure (.type "method_descriptor") := by show builtinType _ = _; rw [builtinType_eq_fast]; kernel_rfl
theorem entry_search : entryFor table "re.Pattern.search" = some Builtin.«re.Pattern.search» := entryFor_of_tree (by kernel_rfl)
theorem plainAttrs_pat : PlainAttrs "re.Pattern" :=
  ⟨⟨"object.__getattribute__", by rw [typeLookup_type, builtinLookup_eq_fast]; kernel_rfl, by decide +kernel⟩, by rw [typeLookup_type, builtinLookup_eq_fast]; kernel_rfl⟩
theorem owner_pat : Manifest.owners.lookup (String.ofList ['n', 'r', 'e', 't', 't', 'a', 'P', '.', 'e', 'r'].reverse) = some Manifest.sig_re_Pattern := by kernel_rfl
theorem args_search (a b : Value) : argsOk "re.Pattern.search" ⟨[a, b], []⟩ := by
  unfold argsOk; rw [signature?_of (id := "re.Pattern.search") (n := ['h', 'c', 'r', 'a', 'e', 's']) (o := ['n', 'r', 'e', 't', 't', 'a', 'P', '.', 'e', 'r']) (by kernel_rfl) owner_pat]; kernel_rfl

/-- IPV4's two objects -/
def ipItems : Array Value := #[.int 14 0, .int 8 0, .int 1 0, .int 2 0, .int 4294967295 0, .int 1 0, .int 1 0, .int 46 0, .int 0 0, .int 16 0, .int 46 0, .int 24 0, .int 9 0, .int 1 0, .int 4294967295 0, .int 13 0, .int 4 0, .int 8 0, .int 0 0, .int 0 0, .int 1 0, .int 6 0, .int 5 0, .int 1 0]

section
variable {prog : Program} {w : World} {A : Around} {E : Value → Shared → Prop} {s : Shared}

theorem getMethod_pat {a : Addr} {o : Obj} {name : Str} {id : String} {pl : Sem Bool} {Q : Value × List Value → Shared → Prop} (ho : s.heap.get? a = some o) (hc : o.cls = .type "re.Pattern") (hd : o.dict = none)
    (slot : Slot "re.Pattern" name id) (hty : typeOf (.builtin id) = pure (.type "method_descriptor")) (h : Q (.builtin id, [.ref a]) s) : wpAny (model prog w) A (getMethod (.ref a) name pl) Q E s :=
  getMethod_builtin ⟨o, ho, hc⟩ plainAttrs_pat slot hty (fun b e => by cases e; exact ⟨o, ho, hd⟩) h

def matchObj (x : Value) (a : Addr) (lim li : Int) (tu : Addr) : Obj := { cls := .type "re.Match", data := .fields #[x, .ref a, .int 0 0, .int lim 0, .int li 0, .ref tu] }

def spanObj (st hd : Nat) : Obj := { cls := .type "tuple", data := .seq #[rawInt st, rawInt hd] }
def anyIp (T : Array Nat) : Bool := decide (2 ≤ T.size) && anyHit T T.size 0

theorem search_wp {a c : Addr} {o : Obj} {oc : Obj} {p0 p1 p3 p4 : Value} {nn : Nat} {x : Str} {t : Tok} {Q : Value → Shared → Prop} (ho : s.heap.get? a = some o) (hcl : o.cls = .type "re.Pattern")
    (hd : o.data = .fields #[p0, p1, .int 0 0, p3, p4, .ref c, .int 0 0]) (hoc : s.heap.get? c = some oc) (hdc : oc.data = .seq ipItems nn)
    (hx : x.length ≤ 100000)
    (h1 : anyIp x.cps = true → ∀ st hd li, Q (.ref (s.heap.push (spanObj st hd)).objs.size) { s with heap := (s.heap.push (spanObj st hd)).push (matchObj (.str x t) a x.cps.size li s.heap.objs.size) })
    (h0 : anyIp x.cps = false → Q .none s) :
    wpAny (model prog w) A (call (.builtin "re.Pattern.search") [.ref a, .str x t]) Q E s := by
  refine wpAny_call (codeAny_call_builtin slot_search.plain entry_search (slot_search.check _ _ _ _ _ _ _ _ ⟨o, ho, hcl⟩ (args_search _ _) ?_))
  show wpAny _ _ (reTarget "re.Pattern.search" "search" ⟨[.ref a, .str x t], []⟩ >>= fun t => reAnswer t (Sre.forSearch t.code t.text t.groups t.pos t.lim false)) _ _ s
  refine wpAny_bind ?_
  show wpAny _ _ (reNamed "re.Pattern.search" "search" ["string", "pos", "endpos"] 1 [.str x t] [] >>= _) _ _ s
  rw [show reNamed "re.Pattern.search" "search" ["string", "pos", "endpos"] 1 [.str x t] [] = pure [some (.str x t), none, none] from rfl]
  refine wpAny_bind (wpAny_pure ?_)
  show wpAny _ _ (fieldsOf (.ref a) >>= _) _ _ s
  refine wpAny_bind (wpAny_fieldsOf ho hd ?_)
  show wpAny _ _ (reTextOf (.str x t) >>= _) _ _ s
  rw [show reTextOf (.str x t) = pure (x.cps, 0) from rfl]
  refine wpAny_bind (wpAny_pure ?_)
  show wpAny _ _ (reNoCollectionInside (.str x t) 0 >>= _) _ _ s
  rw [show reNoCollectionInside (.str x t) 0 = pure () from rfl]
  refine wpAny_bind (wpAny_pure ?_)
  show wpAny _ _ (reRawItems (.ref c) >>= _) _ _ s
  refine wpAny_bind ?_
  show wpAny _ _ (seqItems? (.ref c) >>= _) _ _ s
  refine wpAny_bind (wpAny_seqItems hoc hdc (wpAny_pure (wpAny_pure ?_)))
  have hsz : x.cps.size = x.length := rfl
  have e1 : min (((2 : Int) ^ 63 - 1)).toNat x.cps.size = x.cps.size := Nat.min_eq_right (by rw [hsz]; exact Nat.le_trans hx (by decide))
  dsimp only
  rw [show Array.map (fun x => x.toNat) (Array.map reRawOf ((some ipItems).getD #[])) = ipC by simp [ipItems, reRawOf, ipC], show reRawNat (#[p0, p1, Value.int 0 0, p3, p4, Value.ref c, Value.int 0 0].getD 2 Value.none) = 0 from rfl]
  rw [e1, show min (0 : Int).toNat x.cps.size = 0 from Nat.min_eq_left (Nat.zero_le _)]
  unfold reAnswer
  refine wpAny_bind (toEnd_wp (search_ends x.cps) ?_ fun m' _ => ?_)
  · have : (x.cps.size + 1) * (2 * x.cps.size + 10) ≤ 100001 * 200010 := Nat.mul_le_mul (by omega) (by omega)
    omega
  · by_cases hb : anyIp x.cps = true
    · have hb' : (decide (2 ≤ x.cps.size) && anyHit x.cps x.cps.size 0) = true := hb
      rw [hb']
      dsimp only [if_true]
      refine wpAny_bind ?_
      show wpAny _ _ (newTuple [rawInt m'.start, rawInt m'.handed] >>= fun tu => newFields "re.Match" [.str x t, .ref a, rawInt 0, rawInt x.cps.size, rawInt m'.lastindex, tu]) _ _ s
      refine wpAny_bind (wpAny_newObj_type ?_ (by show 2 ≤ sizeLine; rw [sizeLine_eq]; omega))
      refine wpAny_newObj_type ?_ (by show 6 ≤ sizeLine + 2; rw [sizeLine_eq]; omega)
      exact wpAny_pure (h1 hb m'.start m'.handed m'.lastindex)
    · have hb' : (decide (2 ≤ x.cps.size) && anyHit x.cps x.cps.size 0) = false := by simpa [anyIp] using hb
      rw [hb']
      exact wpAny_pure (h0 hb')

theorem search_N {h₀ : Heap} {L : Addr} {m : Str → Option Value} {news : List (Addr × Obj)} {a c : Addr} {o : Obj} {oc : Obj} {p0 p1 p3 p4 : Value} {nn : Nat} {x : Str} {t : Tok} {Q : Value → Shared → Prop}
    (F : Fr h₀ L s.heap m) (N : News h₀ L s.heap news) (ho : s.heap.get? a = some o) (hcl : o.cls = .type "re.Pattern")
    (hd : o.data = .fields #[p0, p1, .int 0 0, p3, p4, .ref c, .int 0 0]) (hoc : s.heap.get? c = some oc) (hdc : oc.data = .seq ipItems nn)
    (hx : x.length ≤ 100000)
    (h1 : anyIp x.cps = true → ∀ q h' li tu, Fr h₀ L h' m → News h₀ L h' ((q, matchObj (.str x t) a x.cps.size li tu) :: news) → Q (.ref q) { s with heap := h' })
    (h0 : anyIp x.cps = false → Q .none s) :
    wpAny (model prog w) A (call (.builtin "re.Pattern.search") [.ref a, .str x t]) Q E s :=
  search_wp ho hcl hd hoc hdc hx (fun hb st hd li => by
    have F1 := F.push (spanObj st hd)
    have N1 := News.push F N (spanObj st hd)
    have N2 := News.push F1 N1 (matchObj (.str x t) a x.cps.size li s.heap.objs.size)
    have N3 : News h₀ L ((s.heap.push (spanObj st hd)).push (matchObj (.str x t) a x.cps.size li s.heap.objs.size)) (((s.heap.push (spanObj st hd)).objs.size, matchObj (.str x t) a x.cps.size li s.heap.objs.size) :: news) := fun p hp => by
      rcases List.mem_cons.mp hp with rfl | hp
      · exact N2 _ (.head _)
      · exact N2 _ (.tail _ (.tail _ hp))
    exact h1 hb _ _ li s.heap.objs.size (F1.push _) N3) h0

theorem truthy_match {q : Addr} {o : Obj} {Q : Bool → Shared → Prop} (ho : s.heap.get? q = some o) (hc : o.cls = .type "re.Match") (h : Q true s) : wpAny (model prog w) A (truthy (.ref q)) Q E s := by
  have hT : s.TypeIs (.ref q) "re.Match" := ⟨o, ho, hc⟩
  unfold truthy
  refine wpAny_bind (wpAny_callSpecial?_none hT (by rw [typeLookup_type, builtinLookup_eq_fast]; kernel_rfl) ?_)
  refine wpAny_bind (wpAny_specialOf (r := none) hT (by rw [typeLookup_type, builtinLookup_eq_fast]; kernel_rfl) ?_)
  exact wpAny_pure h
end
end PartA2
end Mine
open PySem PySem.W PyProof.Rows PySem.Spec PySem.Calls
namespace Mine
/-- the objects of the top that the walk knows: the defs' parts are read off the row itself -/
noncomputable def kTop : Params → Frag := (fun (n43 : Str) (p43 : Arguments) (b43 : List Stmt) (d43 : List Expr) (r43 : Option Expr) (t43 : List TypeParam) (s43 : Scope) (o43 : Option Scope) (q43 : Str) (x43 : Pos) (_e43 : PySem.Challenge.rw_rx0038_01.row.prog.main.body[3]? = some (Stmt.FunctionDef n43 p43 b43 d43 r43 t43 s43 o43 q43 x43))
  (n50 : Str) (p50 : Arguments) (b50 : List Stmt) (d50 : List Expr) (r50 : Option Expr) (t50 : List TypeParam) (s50 : Scope) (o50 : Option Scope) (q50 : Str) (x50 : Pos) (_e50 : PySem.Challenge.rw_rx0038_01.row.prog.main.body[4]? = some (Stmt.FunctionDef n50 p50 b50 d50 r50 t50 s50 o50 q50 x50))
  (n57 : Str) (p57 : Arguments) (b57 : List Stmt) (d57 : List Expr) (r57 : Option Expr) (t57 : List TypeParam) (s57 : Scope) (o57 : Option Scope) (q57 : Str) (x57 : Pos) (_e57 : PySem.Challenge.rw_rx0038_01.row.prog.main.body[5]? = some (Stmt.FunctionDef n57 p57 b57 d57 r57 t57 s57 o57 q57 x57))
  (n64 : Str) (p64 : Arguments) (b64 : List Stmt) (d64 : List Expr) (r64 : Option Expr) (t64 : List TypeParam) (s64 : Scope) (o64 : Option Scope) (q64 : Str) (x64 : Pos) (_e64 : PySem.Challenge.rw_rx0038_01.row.prog.main.body[6]? = some (Stmt.FunctionDef n64 p64 b64 d64 r64 t64 s64 o64 q64 x64))
  (n81 : Str) (p81 : Arguments) (b81 : List Stmt) (d81 : List Expr) (r81 : Option Expr) (t81 : List TypeParam) (s81 : Scope) (o81 : Option Scope) (q81 : Str) (x81 : Pos) (_e81 : PySem.Challenge.rw_rx0038_01.row.prog.main.body[10]? = some (Stmt.FunctionDef n81 p81 b81 d81 r81 t81 s81 o81 q81 x81))
  (n88 : Str) (p88 : Arguments) (b88 : List Stmt) (d88 : List Expr) (r88 : Option Expr) (t88 : List TypeParam) (s88 : Scope) (o88 : Option Scope) (q88 : Str) (x88 : Pos) (_e88 : PySem.Challenge.rw_rx0038_01.row.prog.main.body[12]? = some (Stmt.FunctionDef n88 p88 b88 d88 r88 t88 s88 o88 q88 x88))
  (n95 : Str) (p95 : Arguments) (b95 : List Stmt) (d95 : List Expr) (r95 : Option Expr) (t95 : List TypeParam) (s95 : Scope) (o95 : Option Scope) (q95 : Str) (x95 : Pos) (_e95 : PySem.Challenge.rw_rx0038_01.row.prog.main.body[14]? = some (Stmt.FunctionDef n95 p95 b95 d95 r95 t95 s95 o95 q95 x95))
  (n102 : Str) (p102 : Arguments) (b102 : List Stmt) (d102 : List Expr) (r102 : Option Expr) (t102 : List TypeParam) (s102 : Scope) (o102 : Option Scope) (q102 : Str) (x102 : Pos) (_e102 : PySem.Challenge.rw_rx0038_01.row.prog.main.body[15]? = some (Stmt.FunctionDef n102 p102 b102 d102 r102 t102 s102 o102 q102 x102))
  (n107 : Str) (p107 : Arguments) (b107 : List Stmt) (d107 : List Expr) (r107 : Option Expr) (t107 : List TypeParam) (s107 : Scope) (o107 : Option Scope) (q107 : Str) (x107 : Pos) (_e107 : PySem.Challenge.rw_rx0038_01.row.prog.main.body[16]? = some (Stmt.FunctionDef n107 p107 b107 d107 r107 t107 s107 o107 q107 x107))
  (n112 : Str) (p112 : Arguments) (b112 : List Stmt) (d112 : List Expr) (r112 : Option Expr) (t112 : List TypeParam) (s112 : Scope) (o112 : Option Scope) (q112 : Str) (x112 : Pos) (_e112 : PySem.Challenge.rw_rx0038_01.row.prog.main.body[17]? = some (Stmt.FunctionDef n112 p112 b112 d112 r112 t112 s112 o112 q112 x112))
  (n119 : Str) (p119 : Arguments) (b119 : List Stmt) (d119 : List Expr) (r119 : Option Expr) (t119 : List TypeParam) (s119 : Scope) (o119 : Option Scope) (q119 : Str) (x119 : Pos) (_e119 : PySem.Challenge.rw_rx0038_01.row.prog.main.body[18]? = some (Stmt.FunctionDef n119 p119 b119 d119 r119 t119 s119 o119 q119 x119))
  (n124 : Str) (p124 : Arguments) (b124 : List Stmt) (d124 : List Expr) (r124 : Option Expr) (t124 : List TypeParam) (s124 : Scope) (o124 : Option Scope) (q124 : Str) (x124 : Pos) (_e124 : PySem.Challenge.rw_rx0038_01.row.prog.main.body[19]? = some (Stmt.FunctionDef n124 p124 b124 d124 r124 t124 s124 o124 q124 x124))
  (n131 : Str) (p131 : Arguments) (b131 : List Stmt) (d131 : List Expr) (r131 : Option Expr) (t131 : List TypeParam) (s131 : Scope) (o131 : Option Scope) (q131 : Str) (x131 : Pos) (_e131 : PySem.Challenge.rw_rx0038_01.row.prog.main.body[20]? = some (Stmt.FunctionDef n131 p131 b131 d131 r131 t131 s131 o131 q131 x131))
  (n136 : Str) (p136 : Arguments) (b136 : List Stmt) (d136 : List Expr) (r136 : Option Expr) (t136 : List TypeParam) (s136 : Scope) (o136 : Option Scope) (q136 : Str) (x136 : Pos) (_e136 : PySem.Challenge.rw_rx0038_01.row.prog.main.body[21]? = some (Stmt.FunctionDef n136 p136 b136 d136 r136 t136 s136 o136 q136 x136)) => fun (P : Params) => ((nat_lit 3, { cls := Value.type "dict", data := Data.dict #[{ hash := PyData.keyHash P (Str.ofString "__name__"), key := Value.str (Str.ofString "__name__") 165, val := Value.str (Str.ofString "law_rx0038_01") 560 }, { hash := PyData.keyHash P (Str.ofString "__doc__"), key := Value.str (Str.ofString "__doc__") 166, val := Value.none }, { hash := PyData.keyHash P (Str.ofString "__package__"), key := Value.str (Str.ofString "__package__") 167, val := Value.none }, { hash := PyData.keyHash P (Str.ofString "__loader__"), key := Value.str (Str.ofString "__loader__") 168, val := Value.builtin "__main__.__loader__#\x6fpaque" }, { hash := PyData.keyHash P (Str.ofString "__spec__"), key := Value.str (Str.ofString "__spec__") 169, val := Value.none }, { hash := PyData.keyHash P (Str.ofString "__annotations__"), key := Value.str (Str.ofString "__annotations__") 170, val := Value.ref 6 }, { hash := PyData.keyHash P (Str.ofString "__builtins__"), key := Value.str (Str.ofString "__builtins__") 171, val := Value.ref 4 }, { hash := PyData.keyHash P (Str.ofString "__file__"), key := Value.str (Str.ofString "__file__") 173, val := Value.str (Str.ofString "/claim/cut.py") 172 }, { hash := PyData.keyHash P (Str.ofString "__cached__"), key := Value.str (Str.ofString "__cached__") 174, val := Value.none }, { hash := PyData.keyHash P (Str.ofString "_sre"), key := Value.str (Str.ofString "_sre") 275, val := Value.ref 12 }, { hash := PyData.keyHash P (Str.ofString "IPV4_RE"), key := Value.str (Str.ofString "IPV4_RE") 313, val := Value.ref 36 }, { hash := PyData.keyHash P (Str.ofString "is_HDN"), key := Value.str (Str.ofString "is_HDN") 320, val := Value.ref 43 }, { hash := PyData.keyHash P (Str.ofString "liberal_is_HDN"), key := Value.str (Str.ofString "liberal_is_HDN") 327, val := Value.ref 50 }, { hash := PyData.keyHash P (Str.ofString "user_domain_match"), key := Value.str (Str.ofString "user_domain_match") 336, val := Value.ref 57 }, { hash := PyData.keyHash P (Str.ofString "reach"), key := Value.str (Str.ofString "reach") 345, val := Value.ref 64 }, { hash := PyData.keyHash P (Str.ofString "_twin_re_1"), key := Value.str (Str.ofString "_twin_re_1") 383, val := Value.ref 69 }, { hash := PyData.keyHash P (Str.ofString "_special_chars_map"), key := Value.str (Str.ofString "_special_chars_map") 531, val := Value.ref 71 }, { hash := PyData.keyHash P (Str.ofString "escape"), key := Value.str (Str.ofString "escape") 538, val := Value.ref 81 }, { hash := PyData.keyHash P (Str.ofString "_translate"), key := Value.str (Str.ofString "_translate") 559, val := Value.ref 88 }, { hash := PyData.keyHash P (Str.ofString "_law_text"), key := Value.str (Str.ofString "_law_text") 570, val := Value.ref 95 }, { hash := PyData.keyHash P (Str.ofString "_law_takes"), key := Value.str (Str.ofString "_law_takes") 578, val := Value.ref 102 }, { hash := PyData.keyHash P (Str.ofString "_law_fits"), key := Value.str (Str.ofString "_law_fits") 584, val := Value.ref 107 }, { hash := PyData.keyHash P (Str.ofString "_law_figures"), key := Value.str (Str.ofString "_law_figures") 590, val := Value.ref 112 }, { hash := PyData.keyHash P (Str.ofString "_law_named"), key := Value.str (Str.ofString "_law_named") 597, val := Value.ref 119 }, { hash := PyData.keyHash P (Str.ofString "_law_told"), key := Value.str (Str.ofString "_law_told") 603, val := Value.ref 124 }, { hash := PyData.keyHash P (Str.ofString "_law_reach"), key := Value.str (Str.ofString "_law_reach") 610, val := Value.ref 131 }, { hash := PyData.keyHash P (Str.ofString "law"), key := Value.str (Str.ofString "law") 616, val := Value.ref 136 }] 27 }) ::
   (nat_lit 35, { cls := Value.type "tuple", data := Data.seq #[Value.int 14 0, Value.int 8 0, Value.int 1 0, Value.int 2 0, Value.int 4294967295 0, Value.int 1 0, Value.int 1 0, Value.int 46 0, Value.int 0 0, Value.int 16 0, Value.int 46 0, Value.int 24 0, Value.int 9 0, Value.int 1 0, Value.int 4294967295 0, Value.int 13 0, Value.int 4 0, Value.int 8 0, Value.int 0 0, Value.int 0 0, Value.int 1 0, Value.int 6 0, Value.int 5 0, Value.int 1 0] }) ::
   (nat_lit 36, { cls := Value.type "re.Pattern", data := Data.fields #[Value.str (Str.ofString "\\.\\d+$") 285, Value.int 256 312, Value.int 0 0, Value.none, Value.none, Value.ref 35, Value.int 0 0] }) ::
   (nat_lit 37, { cls := Value.type "tuple", data := Data.seq #[] }) ::
   (nat_lit 39, { cls := Value.type "tuple", data := Data.seq #[Value.str (Str.ofString "text") 317] }) ::
   (nat_lit 40, { cls := Value.type "tuple", data := Data.seq #[] }) ::
   (nat_lit 42, { cls := Value.type "code", data := Data.fields #[Value.str (Str.ofString "is_HDN") 314, Value.str (Str.ofString "is_HDN") 315, Value.str (Str.ofString "/claim/cut.py") 316, Value.int 4 0, Value.int 1 0, Value.int 0 0, Value.int 0 0, Value.int 3 0, Value.ref 37, Value.bool true, Value.int 276 0, Value.ref 38, Value.none, Value.ref 39, Value.ref 40, Value.ref 41, Value.int 318 0, Value.int 4 0, Value.str (Str.ofString "/claim/cut.py") 319] }) ::
   (nat_lit 43, { cls := Value.type "function", data := Data.func { name := Str.ofString "is_HDN", qualname := Str.ofString "is_HDN", params := p43, body := FuncBody.stmts b43, scope := s43, globals := 3, closure := [], defaults := Value.none, kwdefaults := Value.none, pyModule := Value.str (Str.ofString "cpy313.http.cookiejar") 282, code := Value.ref 42 } }) ::
   (nat_lit 44, { cls := Value.type "tuple", data := Data.seq #[] }) ::
   (nat_lit 46, { cls := Value.type "tuple", data := Data.seq #[Value.str (Str.ofString "text") 324] }) ::
   (nat_lit 47, { cls := Value.type "tuple", data := Data.seq #[] }) ::
   (nat_lit 49, { cls := Value.type "code", data := Data.fields #[Value.str (Str.ofString "liberal_is_HDN") 321, Value.str (Str.ofString "liberal_is_HDN") 322, Value.str (Str.ofString "/claim/cut.py") 323, Value.int 12 0, Value.int 1 0, Value.int 0 0, Value.int 0 0, Value.int 3 0, Value.ref 44, Value.bool true, Value.int 276 0, Value.ref 45, Value.none, Value.ref 46, Value.ref 47, Value.ref 48, Value.int 325 0, Value.int 12 0, Value.str (Str.ofString "/claim/cut.py") 326] }) ::
   (nat_lit 50, { cls := Value.type "function", data := Data.func { name := Str.ofString "liberal_is_HDN", qualname := Str.ofString "liberal_is_HDN", params := p50, body := FuncBody.stmts b50, scope := s50, globals := 3, closure := [], defaults := Value.none, kwdefaults := Value.none, pyModule := Value.str (Str.ofString "cpy313.http.cookiejar") 282, code := Value.ref 49 } }) ::
   (nat_lit 51, { cls := Value.type "tuple", data := Data.seq #[] }) ::
   (nat_lit 53, { cls := Value.type "tuple", data := Data.seq #[Value.str (Str.ofString "A") 331, Value.str (Str.ofString "B") 332, Value.str (Str.ofString "initial_dot") 333] }) ::
   (nat_lit 54, { cls := Value.type "tuple", data := Data.seq #[] }) ::
   (nat_lit 56, { cls := Value.type "code", data := Data.fields #[Value.str (Str.ofString "user_domain_match") 328, Value.str (Str.ofString "user_domain_match") 329, Value.str (Str.ofString "/claim/cut.py") 330, Value.int 16 0, Value.int 2 0, Value.int 0 0, Value.int 0 0, Value.int 3 0, Value.ref 51, Value.bool true, Value.int 276 0, Value.ref 52, Value.none, Value.ref 53, Value.ref 54, Value.ref 55, Value.int 334 0, Value.int 16 0, Value.str (Str.ofString "/claim/cut.py") 335] }) ::
   (nat_lit 57, { cls := Value.type "function", data := Data.func { name := Str.ofString "user_domain_match", qualname := Str.ofString "user_domain_match", params := p57, body := FuncBody.stmts b57, scope := s57, globals := 3, closure := [], defaults := Value.none, kwdefaults := Value.none, pyModule := Value.str (Str.ofString "cpy313.http.cookiejar") 282, code := Value.ref 56 } }) ::
   (nat_lit 58, { cls := Value.type "tuple", data := Data.seq #[] }) ::
   (nat_lit 60, { cls := Value.type "tuple", data := Data.seq #[Value.str (Str.ofString "h") 340, Value.str (Str.ofString "i") 341, Value.str (Str.ofString "b") 342] }) ::
   (nat_lit 61, { cls := Value.type "tuple", data := Data.seq #[] }) ::
   (nat_lit 63, { cls := Value.type "code", data := Data.fields #[Value.str (Str.ofString "reach") 337, Value.str (Str.ofString "reach") 338, Value.str (Str.ofString "/claim/cut.py") 339, Value.int 29 0, Value.int 1 0, Value.int 0 0, Value.int 0 0, Value.int 3 0, Value.ref 58, Value.bool true, Value.int 276 0, Value.ref 59, Value.none, Value.ref 60, Value.ref 61, Value.ref 62, Value.int 343 0, Value.int 29 0, Value.str (Str.ofString "/claim/cut.py") 344] }) ::
   (nat_lit 64, { cls := Value.type "function", data := Data.func { name := Str.ofString "reach", qualname := Str.ofString "reach", params := p64, body := FuncBody.stmts b64, scope := s64, globals := 3, closure := [], defaults := Value.none, kwdefaults := Value.none, pyModule := Value.str (Str.ofString "cpy313.http.cookiejar") 282, code := Value.ref 63 } }) ::
   (nat_lit 68, { cls := Value.type "tuple", data := Data.seq #[Value.int 14 0, Value.int 14 0, Value.int 4 0, Value.int 1 0, Value.int 1 0, Value.int 9 0, Value.int 0 0, Value.int 64 0, Value.int 0 0, Value.int 1342177280 0, Value.int 0 0, Value.int 0 0, Value.int 0 0, Value.int 0 0, Value.int 0 0, Value.int 17 0, Value.int 0 0, Value.int 13 0, Value.int 11 0, Value.int 9 0, Value.int 0 0, Value.int 64 0, Value.int 0 0, Value.int 1342177280 0, Value.int 0 0, Value.int 0 0, Value.int 0 0, Value.int 0 0, Value.int 0 0, Value.int 17 0, Value.int 1 0, Value.int 1 0] }) ::
   (nat_lit 69, { cls := Value.type "re.Pattern", data := Data.fields #[Value.str (Str.ofString "([&~|])") 347, Value.int 32 382, Value.int 1 0, Value.none, Value.none, Value.ref 68, Value.int 0 0] }) ::
   (nat_lit 71, { cls := Value.type "dict", data := Data.dict #[{ hash := 40, key := Value.int 40 387, val := Value.str (Str.ofString "\\(") 391 }, { hash := 41, key := Value.int 41 393, val := Value.str (Str.ofString "\\)") 397 }, { hash := 91, key := Value.int 91 399, val := Value.str (Str.ofString "\\[") 403 }, { hash := 93, key := Value.int 93 405, val := Value.str (Str.ofString "\\]") 409 }, { hash := 123, key := Value.int 123 411, val := Value.str (Str.ofString "\\{") 415 }, { hash := 125, key := Value.int 125 417, val := Value.str (Str.ofString "\\}") 421 }, { hash := 63, key := Value.int 63 423, val := Value.str (Str.ofString "\\?") 427 }, { hash := 42, key := Value.int 42 429, val := Value.str (Str.ofString "\\*") 433 }, { hash := 43, key := Value.int 43 435, val := Value.str (Str.ofString "\\+") 439 }, { hash := 45, key := Value.int 45 441, val := Value.str (Str.ofString "\\-") 445 }, { hash := 124, key := Value.int 124 447, val := Value.str (Str.ofString "\\|") 451 }, { hash := 94, key := Value.int 94 453, val := Value.str (Str.ofString "\\^") 457 }, { hash := 36, key := Value.int 36 459, val := Value.str (Str.ofString "\\$") 463 }, { hash := 92, key := Value.int 92 465, val := Value.str (Str.ofString "\\\\") 469 }, { hash := 46, key := Value.int 46 471, val := Value.str (Str.ofString "\\.") 475 }, { hash := 38, key := Value.int 38 477, val := Value.str (Str.ofString "\\&") 481 }, { hash := 126, key := Value.int 126 483, val := Value.str (Str.ofString "\\~") 487 }, { hash := 35, key := Value.int 35 489, val := Value.str (Str.ofString "\\#") 493 }, { hash := 32, key := Value.int 32 495, val := Value.str (Str.ofString "\\ ") 499 }, { hash := 9, key := Value.int 9 501, val := Value.str (Str.ofString "\\\t") 505 }, { hash := 10, key := Value.int 10 507, val := Value.str (Str.ofString "\\\n") 511 }, { hash := 13, key := Value.int 13 513, val := Value.str (Str.ofString "\\\x0d") 517 }, { hash := 11, key := Value.int 11 519, val := Value.str (Str.ofString "\\\x0b") 523 }, { hash := 12, key := Value.int 12 525, val := Value.str (Str.ofString "\\\x0c") 529 }] 24 }) ::
   (nat_lit 75, { cls := Value.type "tuple", data := Data.seq #[] }) ::
   (nat_lit 77, { cls := Value.type "tuple", data := Data.seq #[Value.str (Str.ofString "pattern") 535] }) ::
   (nat_lit 78, { cls := Value.type "tuple", data := Data.seq #[] }) ::
   (nat_lit 80, { cls := Value.type "code", data := Data.fields #[Value.str (Str.ofString "escape") 532, Value.str (Str.ofString "escape") 533, Value.str (Str.ofString "/claim/cut.py") 534, Value.int 40 0, Value.int 1 0, Value.int 0 0, Value.int 0 0, Value.int 3 0, Value.ref 75, Value.bool true, Value.int 276 0, Value.ref 76, Value.none, Value.ref 77, Value.ref 78, Value.ref 79, Value.int 536 0, Value.int 40 0, Value.str (Str.ofString "/claim/cut.py") 537] }) ::
   (nat_lit 81, { cls := Value.type "function", data := Data.func { name := Str.ofString "escape", qualname := Str.ofString "escape", params := p81, body := FuncBody.stmts b81, scope := s81, globals := 3, closure := [], defaults := Value.none, kwdefaults := Value.none, pyModule := Value.str (Str.ofString "re") 384, code := Value.ref 80 } }) ::
   (nat_lit 82, { cls := Value.type "tuple", data := Data.seq #[] }) ::
   (nat_lit 84, { cls := Value.type "tuple", data := Data.seq #[Value.str (Str.ofString "pat") 544, Value.str (Str.ofString "STAR") 545, Value.str (Str.ofString "QUESTION_MARK") 546, Value.str (Str.ofString "res") 547, Value.str (Str.ofString "add") 548, Value.str (Str.ofString "i") 549, Value.str (Str.ofString "n") 550, Value.str (Str.ofString "c") 551, Value.str (Str.ofString "j") 552, Value.str (Str.ofString "stuff") 553, Value.str (Str.ofString "chunks") 554, Value.str (Str.ofString "k") 555, Value.str (Str.ofString "chunk") 556] }) ::
   (nat_lit 85, { cls := Value.type "tuple", data := Data.seq #[] }) ::
   (nat_lit 87, { cls := Value.type "code", data := Data.fields #[Value.str (Str.ofString "_translate") 541, Value.str (Str.ofString "_translate") 542, Value.str (Str.ofString "/claim/cut.py") 543, Value.int 47 0, Value.int 3 0, Value.int 0 0, Value.int 0 0, Value.int 3 0, Value.ref 82, Value.bool true, Value.int 276 0, Value.ref 83, Value.none, Value.ref 84, Value.ref 85, Value.ref 86, Value.int 557 0, Value.int 47 0, Value.str (Str.ofString "/claim/cut.py") 558] }) ::
   (nat_lit 88, { cls := Value.type "function", data := Data.func { name := Str.ofString "_translate", qualname := Str.ofString "_translate", params := p88, body := FuncBody.stmts b88, scope := s88, globals := 3, closure := [], defaults := Value.none, kwdefaults := Value.none, pyModule := Value.str (Str.ofString "cpy313.fnmatch") 539, code := Value.ref 87 } }) ::
   (nat_lit 89, { cls := Value.type "tuple", data := Data.seq #[] }) ::
   (nat_lit 91, { cls := Value.type "tuple", data := Data.seq #[Value.str (Str.ofString "script") 565, Value.str (Str.ofString "signs") 566, Value.str (Str.ofString "x") 567] }) ::
   (nat_lit 92, { cls := Value.type "tuple", data := Data.seq #[] }) ::
   (nat_lit 94, { cls := Value.type "code", data := Data.fields #[Value.str (Str.ofString "_law_text") 562, Value.str (Str.ofString "_law_text") 563, Value.str (Str.ofString "/claim/cut.py") 564, Value.int 110 0, Value.int 1 0, Value.int 0 0, Value.int 0 0, Value.int 3 0, Value.ref 89, Value.bool true, Value.int 276 0, Value.ref 90, Value.none, Value.ref 91, Value.ref 92, Value.ref 93, Value.int 568 0, Value.int 110 0, Value.str (Str.ofString "/claim/cut.py") 569] }) ::
   (nat_lit 95, { cls := Value.type "function", data := Data.func { name := Str.ofString "_law_text", qualname := Str.ofString "_law_text", params := p95, body := FuncBody.stmts b95, scope := s95, globals := 3, closure := [], defaults := Value.none, kwdefaults := Value.none, pyModule := Value.str (Str.ofString "law_rx0038_01") 560, code := Value.ref 94 } }) ::
   (nat_lit 96, { cls := Value.type "tuple", data := Data.seq #[] }) ::
   (nat_lit 98, { cls := Value.type "tuple", data := Data.seq #[Value.str (Str.ofString "part") 574, Value.str (Str.ofString "sign") 575] }) ::
   (nat_lit 99, { cls := Value.type "tuple", data := Data.seq #[] }) ::
   (nat_lit 101, { cls := Value.type "code", data := Data.fields #[Value.str (Str.ofString "_law_takes") 571, Value.str (Str.ofString "_law_takes") 572, Value.str (Str.ofString "/claim/cut.py") 573, Value.int 115 0, Value.int 2 0, Value.int 0 0, Value.int 0 0, Value.int 3 0, Value.ref 96, Value.bool true, Value.int 276 0, Value.ref 97, Value.none, Value.ref 98, Value.ref 99, Value.ref 100, Value.int 576 0, Value.int 115 0, Value.str (Str.ofString "/claim/cut.py") 577] }) ::
   (nat_lit 102, { cls := Value.type "function", data := Data.func { name := Str.ofString "_law_takes", qualname := Str.ofString "_law_takes", params := p102, body := FuncBody.stmts b102, scope := s102, globals := 3, closure := [], defaults := Value.none, kwdefaults := Value.none, pyModule := Value.str (Str.ofString "law_rx0038_01") 560, code := Value.ref 101 } }) ::
   (nat_lit 103, { cls := Value.type "tuple", data := Data.seq #[] }) ::
   (nat_lit 106, { cls := Value.type "code", data := Data.fields #[Value.str (Str.ofString "_law_fits") 579, Value.str (Str.ofString "_law_fits") 580, Value.str (Str.ofString "/claim/cut.py") 581, Value.int 121 0, Value.int 2 0, Value.int 0 0, Value.int 0 0, Value.int 3 0, Value.ref 103, Value.bool true, Value.int 276 0, Value.ref 104, Value.none, Value.none, Value.none, Value.ref 105, Value.int 582 0, Value.int 121 0, Value.str (Str.ofString "/claim/cut.py") 583] }) ::
   (nat_lit 107, { cls := Value.type "function", data := Data.func { name := Str.ofString "_law_fits", qualname := Str.ofString "_law_fits", params := p107, body := FuncBody.stmts b107, scope := s107, globals := 3, closure := [], defaults := Value.none, kwdefaults := Value.none, pyModule := Value.str (Str.ofString "law_rx0038_01") 560, code := Value.ref 106 } }) ::
   (nat_lit 108, { cls := Value.type "tuple", data := Data.seq #[] }) ::
   (nat_lit 111, { cls := Value.type "code", data := Data.fields #[Value.str (Str.ofString "_law_figures") 585, Value.str (Str.ofString "_law_figures") 586, Value.str (Str.ofString "/claim/cut.py") 587, Value.int 130 0, Value.int 1 0, Value.int 0 0, Value.int 0 0, Value.int 3 0, Value.ref 108, Value.bool true, Value.int 276 0, Value.ref 109, Value.none, Value.none, Value.none, Value.ref 110, Value.int 588 0, Value.int 130 0, Value.str (Str.ofString "/claim/cut.py") 589] }) ::
   (nat_lit 112, { cls := Value.type "function", data := Data.func { name := Str.ofString "_law_figures", qualname := Str.ofString "_law_figures", params := p112, body := FuncBody.stmts b112, scope := s112, globals := 3, closure := [], defaults := Value.none, kwdefaults := Value.none, pyModule := Value.str (Str.ofString "law_rx0038_01") 560, code := Value.ref 111 } }) ::
   (nat_lit 113, { cls := Value.type "tuple", data := Data.seq #[] }) ::
   (nat_lit 115, { cls := Value.type "tuple", data := Data.seq #[Value.str (Str.ofString "text") 594] }) ::
   (nat_lit 116, { cls := Value.type "tuple", data := Data.seq #[] }) ::
   (nat_lit 118, { cls := Value.type "code", data := Data.fields #[Value.str (Str.ofString "_law_named") 591, Value.str (Str.ofString "_law_named") 592, Value.str (Str.ofString "/claim/cut.py") 593, Value.int 133 0, Value.int 1 0, Value.int 0 0, Value.int 0 0, Value.int 3 0, Value.ref 113, Value.bool true, Value.int 276 0, Value.ref 114, Value.none, Value.ref 115, Value.ref 116, Value.ref 117, Value.int 595 0, Value.int 133 0, Value.str (Str.ofString "/claim/cut.py") 596] }) ::
   (nat_lit 119, { cls := Value.type "function", data := Data.func { name := Str.ofString "_law_named", qualname := Str.ofString "_law_named", params := p119, body := FuncBody.stmts b119, scope := s119, globals := 3, closure := [], defaults := Value.none, kwdefaults := Value.none, pyModule := Value.str (Str.ofString "law_rx0038_01") 560, code := Value.ref 118 } }) ::
   (nat_lit 120, { cls := Value.type "tuple", data := Data.seq #[] }) ::
   (nat_lit 123, { cls := Value.type "code", data := Data.fields #[Value.str (Str.ofString "_law_told") 598, Value.str (Str.ofString "_law_told") 599, Value.str (Str.ofString "/claim/cut.py") 600, Value.int 135 0, Value.int 2 0, Value.int 0 0, Value.int 0 0, Value.int 3 0, Value.ref 120, Value.bool true, Value.int 276 0, Value.ref 121, Value.none, Value.none, Value.none, Value.ref 122, Value.int 601 0, Value.int 135 0, Value.str (Str.ofString "/claim/cut.py") 602] }) ::
   (nat_lit 124, { cls := Value.type "function", data := Data.func { name := Str.ofString "_law_told", qualname := Str.ofString "_law_told", params := p124, body := FuncBody.stmts b124, scope := s124, globals := 3, closure := [], defaults := Value.none, kwdefaults := Value.none, pyModule := Value.str (Str.ofString "law_rx0038_01") 560, code := Value.ref 123 } }) ::
   (nat_lit 125, { cls := Value.type "tuple", data := Data.seq #[] }) ::
   (nat_lit 127, { cls := Value.type "tuple", data := Data.seq #[Value.str (Str.ofString "host") 607] }) ::
   (nat_lit 128, { cls := Value.type "tuple", data := Data.seq #[] }) ::
   (nat_lit 130, { cls := Value.type "code", data := Data.fields #[Value.str (Str.ofString "_law_reach") 604, Value.str (Str.ofString "_law_reach") 605, Value.str (Str.ofString "/claim/cut.py") 606, Value.int 142 0, Value.int 1 0, Value.int 0 0, Value.int 0 0, Value.int 3 0, Value.ref 125, Value.bool true, Value.int 276 0, Value.ref 126, Value.none, Value.ref 127, Value.ref 128, Value.ref 129, Value.int 608 0, Value.int 142 0, Value.str (Str.ofString "/claim/cut.py") 609] }) ::
   (nat_lit 131, { cls := Value.type "function", data := Data.func { name := Str.ofString "_law_reach", qualname := Str.ofString "_law_reach", params := p131, body := FuncBody.stmts b131, scope := s131, globals := 3, closure := [], defaults := Value.none, kwdefaults := Value.none, pyModule := Value.str (Str.ofString "law_rx0038_01") 560, code := Value.ref 130 } }) ::
   (nat_lit 132, { cls := Value.type "tuple", data := Data.seq #[] }) ::
   (nat_lit 135, { cls := Value.type "code", data := Data.fields #[Value.str (Str.ofString "law") 611, Value.str (Str.ofString "law") 612, Value.str (Str.ofString "/claim/cut.py") 613, Value.int 146 0, Value.int 1 0, Value.int 0 0, Value.int 0 0, Value.int 3 0, Value.ref 132, Value.bool true, Value.int 276 0, Value.ref 133, Value.none, Value.none, Value.none, Value.ref 134, Value.int 614 0, Value.int 146 0, Value.str (Str.ofString "/claim/cut.py") 615] }) ::
   (nat_lit 136, { cls := Value.type "function", data := Data.func { name := Str.ofString "law", qualname := Str.ofString "law", params := p136, body := FuncBody.stmts b136, scope := s136, globals := 3, closure := [], defaults := Value.none, kwdefaults := Value.none, pyModule := Value.str (Str.ofString "law_rx0038_01") 560, code := Value.ref 135 } }) :: [] : Frag))
  _ _ _ _ _ _ _ _ _ _ rfl
  _ _ _ _ _ _ _ _ _ _ rfl
  _ _ _ _ _ _ _ _ _ _ rfl
  _ _ _ _ _ _ _ _ _ _ rfl
  _ _ _ _ _ _ _ _ _ _ rfl
  _ _ _ _ _ _ _ _ _ _ rfl
  _ _ _ _ _ _ _ _ _ _ rfl
  _ _ _ _ _ _ _ _ _ _ rfl
  _ _ _ _ _ _ _ _ _ _ rfl
  _ _ _ _ _ _ _ _ _ _ rfl
  _ _ _ _ _ _ _ _ _ _ rfl
  _ _ _ _ _ _ _ _ _ _ rfl
  _ _ _ _ _ _ _ _ _ _ rfl
  _ _ _ _ _ _ _ _ _ _ rfl
abbrev kAdrs : List Addr := (3 :: 35 :: 36 :: 37 :: 39 :: 40 :: 42 :: 43 :: 44 :: 46 :: 47 :: 49 :: 50 :: 51 :: 53 :: 54 :: 56 :: 57 :: 58 :: 60 :: 61 :: 63 :: 64 :: 68 :: 69 :: 71 :: 75 :: 77 :: 78 :: 80 :: 81 :: 82 :: 84 :: 85 :: 87 :: 88 :: 89 :: 91 :: 92 :: 94 :: 95 :: 96 :: 98 :: 99 :: 101 :: 102 :: 103 :: 106 :: 107 :: 108 :: 111 :: 112 :: 113 :: 115 :: 116 :: 118 :: 119 :: 120 :: 123 :: 124 :: 125 :: 127 :: 128 :: 130 :: 131 :: 132 :: 135 :: 136 :: [])
theorem kTop_adrs : ∀ P : Params, (kTop P).map (·.1) = (3 :: 35 :: 36 :: 37 :: 39 :: 40 :: 42 :: 43 :: 44 :: 46 :: 47 :: 49 :: 50 :: 51 :: 53 :: 54 :: 56 :: 57 :: 58 :: 60 :: 61 :: 63 :: 64 :: 68 :: 69 :: 71 :: 75 :: 77 :: 78 :: 80 :: 81 :: 82 :: 84 :: 85 :: 87 :: 88 :: 89 :: 91 :: 92 :: 94 :: 95 :: 96 :: 98 :: 99 :: 101 :: 102 :: 103 :: 106 :: 107 :: 108 :: 111 :: 112 :: 113 :: 115 :: 116 :: 118 :: 119 :: 120 :: 123 :: 124 :: 125 :: 127 :: 128 :: 130 :: 131 :: 132 :: 135 :: 136 :: []) := fun _ => by kernel_rfl
/-- the top's statements that the walk sees: all but the names of the texts -/
noncomputable def qTop : Program := PySem.W.view PySem.Challenge.rw_rx0038_01.row.prog [0, 2, 3, 4, 5, 6, 7, 9, 10, 12, 14, 15, 16, 17, 18, 19, 20, 21]
abbrev cP : Program := PySem.Challenge.rw_rx0038_01.row.prog
/-- the parts of the def that stands at a place of the text, read off the row -/
noncomputable def fnP (i : Nat) : Arguments := match cP.main.body[i]? with | some (.FunctionDef _ p _ _ _ _ _ _ _ _) => p | _ => { posonlyargs := [], args := [], vararg := none, kwonlyargs := [], kw_defaults := [], kwarg := none, defaults := [] }
noncomputable def fnB (i : Nat) : List Stmt := match cP.main.body[i]? with | some (.FunctionDef _ _ b _ _ _ _ _ _ _) => b | _ => []
noncomputable def fnS (i : Nat) : Scope := match cP.main.body[i]? with | some (.FunctionDef _ _ _ _ _ _ s _ _ _) => s | _ => { kind := .module, names := [], isGenerator := false, isCoroutine := false }
noncomputable def uo0 : Params → Obj := fun P => { cls := PySem.Value.type "dict", data := PySem.Data.dict #[{ hash := PySem.PyData.keyHash P (PySem.Str.ofString "__name__"), key := PySem.Value.str (PySem.Str.ofString "__name__") 1, val := PySem.Value.str (PySem.Str.ofString "builtins") 160 }, { hash := PySem.PyData.keyHash P (PySem.Str.ofString "__doc__"), key := PySem.Value.str (PySem.Str.ofString "__doc__") 2, val := PySem.Value.builtin "builtins.__doc__:str#\x6fpaque" }, { hash := PySem.PyData.keyHash P (PySem.Str.ofString "__package__"), key := PySem.Value.str (PySem.Str.ofString "__package__") 3, val := PySem.Value.builtin "builtins.__package__:str#\x6fpaque" }, { hash := PySem.PyData.keyHash P (PySem.Str.ofString "__loader__"), key := PySem.Value.str (PySem.Str.ofString "__loader__") 4, val := PySem.Value.builtin "builtins.__loader__:shared#\x6fpaque" }, { hash := PySem.PyData.keyHash P (PySem.Str.ofString "__spec__"), key := PySem.Value.str (PySem.Str.ofString "__spec__") 5, val := PySem.Value.builtin "builtins.__spec__#\x6fpaque" }, { hash := PySem.PyData.keyHash P (PySem.Str.ofString "__build_class__"), key := PySem.Value.str (PySem.Str.ofString "__build_class__") 6, val := PySem.Value.builtin "__build_class__" }, { hash := PySem.PyData.keyHash P (PySem.Str.ofString "__import__"), key := PySem.Value.str (PySem.Str.ofString "__import__") 7, val := PySem.Value.builtin "__import__" }, { hash := PySem.PyData.keyHash P (PySem.Str.ofString "abs"), key := PySem.Value.str (PySem.Str.ofString "abs") 8, val := PySem.Value.builtin "abs" }, { hash := PySem.PyData.keyHash P (PySem.Str.ofString "all"), key := PySem.Value.str (PySem.Str.ofString "all") 9, val := PySem.Value.builtin "all" }, { hash := PySem.PyData.keyHash P (PySem.Str.ofString "any"), key := PySem.Value.str (PySem.Str.ofString "any") 10, val := PySem.Value.builtin "any" }, { hash := PySem.PyData.keyHash P (PySem.Str.ofString "ascii"), key := PySem.Value.str (PySem.Str.ofString "ascii") 11, val := PySem.Value.builtin "ascii" }, { hash := PySem.PyData.keyHash P (PySem.Str.ofString "bin"), key := PySem.Value.str (PySem.Str.ofString "bin") 12, val := PySem.Value.builtin "bin" }, { hash := PySem.PyData.keyHash P (PySem.Str.ofString "breakpoint"), key := PySem.Value.str (PySem.Str.ofString "breakpoint") 13, val := PySem.Value.builtin "breakpoint" }, { hash := PySem.PyData.keyHash P (PySem.Str.ofString "callable"), key := PySem.Value.str (PySem.Str.ofString "callable") 14, val := PySem.Value.builtin "callable" }, { hash := PySem.PyData.keyHash P (PySem.Str.ofString "chr"), key := PySem.Value.str (PySem.Str.ofString "chr") 15, val := PySem.Value.builtin "chr" }, { hash := PySem.PyData.keyHash P (PySem.Str.ofString "compile"), key := PySem.Value.str (PySem.Str.ofString "compile") 16, val := PySem.Value.builtin "compile" }, { hash := PySem.PyData.keyHash P (PySem.Str.ofString "delattr"), key := PySem.Value.str (PySem.Str.ofString "delattr") 17, val := PySem.Value.builtin "delattr" }, { hash := PySem.PyData.keyHash P (PySem.Str.ofString "dir"), key := PySem.Value.str (PySem.Str.ofString "dir") 18, val := PySem.Value.builtin "dir" }, { hash := PySem.PyData.keyHash P (PySem.Str.ofString "divmod"), key := PySem.Value.str (PySem.Str.ofString "divmod") 19, val := PySem.Value.builtin "divmod" }, { hash := PySem.PyData.keyHash P (PySem.Str.ofString "eval"), key := PySem.Value.str (PySem.Str.ofString "eval") 20, val := PySem.Value.builtin "eval" }, { hash := PySem.PyData.keyHash P (PySem.Str.ofString "exec"), key := PySem.Value.str (PySem.Str.ofString "exec") 21, val := PySem.Value.builtin "exec" }, { hash := PySem.PyData.keyHash P (PySem.Str.ofString "format"), key := PySem.Value.str (PySem.Str.ofString "format") 22, val := PySem.Value.builtin "format" }, { hash := PySem.PyData.keyHash P (PySem.Str.ofString "getattr"), key := PySem.Value.str (PySem.Str.ofString "getattr") 23, val := PySem.Value.builtin "getattr" }, { hash := PySem.PyData.keyHash P (PySem.Str.ofString "globals"), key := PySem.Value.str (PySem.Str.ofString "globals") 24, val := PySem.Value.builtin "globals" }, { hash := PySem.PyData.keyHash P (PySem.Str.ofString "hasattr"), key := PySem.Value.str (PySem.Str.ofString "hasattr") 25, val := PySem.Value.builtin "hasattr" }, { hash := PySem.PyData.keyHash P (PySem.Str.ofString "hash"), key := PySem.Value.str (PySem.Str.ofString "hash") 26, val := PySem.Value.builtin "hash" }, { hash := PySem.PyData.keyHash P (PySem.Str.ofString "hex"), key := PySem.Value.str (PySem.Str.ofString "hex") 27, val := PySem.Value.builtin "hex" }, { hash := PySem.PyData.keyHash P (PySem.Str.ofString "id"), key := PySem.Value.str (PySem.Str.ofString "id") 28, val := PySem.Value.builtin "id" }, { hash := PySem.PyData.keyHash P (PySem.Str.ofString "input"), key := PySem.Value.str (PySem.Str.ofString "input") 29, val := PySem.Value.builtin "input" }, { hash := PySem.PyData.keyHash P (PySem.Str.ofString "isinstance"), key := PySem.Value.str (PySem.Str.ofString "isinstance") 30, val := PySem.Value.builtin "isinstance" }, { hash := PySem.PyData.keyHash P (PySem.Str.ofString "issubclass"), key := PySem.Value.str (PySem.Str.ofString "issubclass") 31, val := PySem.Value.builtin "issubclass" }, { hash := PySem.PyData.keyHash P (PySem.Str.ofString "iter"), key := PySem.Value.str (PySem.Str.ofString "iter") 32, val := PySem.Value.builtin "iter" }, { hash := PySem.PyData.keyHash P (PySem.Str.ofString "aiter"), key := PySem.Value.str (PySem.Str.ofString "aiter") 33, val := PySem.Value.builtin "aiter" }, { hash := PySem.PyData.keyHash P (PySem.Str.ofString "len"), key := PySem.Value.str (PySem.Str.ofString "len") 34, val := PySem.Value.builtin "len" }, { hash := PySem.PyData.keyHash P (PySem.Str.ofString "locals"), key := PySem.Value.str (PySem.Str.ofString "locals") 35, val := PySem.Value.builtin "locals" }, { hash := PySem.PyData.keyHash P (PySem.Str.ofString "max"), key := PySem.Value.str (PySem.Str.ofString "max") 36, val := PySem.Value.builtin "max" }, { hash := PySem.PyData.keyHash P (PySem.Str.ofString "min"), key := PySem.Value.str (PySem.Str.ofString "min") 37, val := PySem.Value.builtin "min" }, { hash := PySem.PyData.keyHash P (PySem.Str.ofString "next"), key := PySem.Value.str (PySem.Str.ofString "next") 38, val := PySem.Value.builtin "next" }, { hash := PySem.PyData.keyHash P (PySem.Str.ofString "anext"), key := PySem.Value.str (PySem.Str.ofString "anext") 39, val := PySem.Value.builtin "anext" }, { hash := PySem.PyData.keyHash P (PySem.Str.ofString "oct"), key := PySem.Value.str (PySem.Str.ofString "oct") 40, val := PySem.Value.builtin "oct" }, { hash := PySem.PyData.keyHash P (PySem.Str.ofString "ord"), key := PySem.Value.str (PySem.Str.ofString "ord") 41, val := PySem.Value.builtin "ord" }, { hash := PySem.PyData.keyHash P (PySem.Str.ofString "pow"), key := PySem.Value.str (PySem.Str.ofString "pow") 42, val := PySem.Value.builtin "pow" }, { hash := PySem.PyData.keyHash P (PySem.Str.ofString "print"), key := PySem.Value.str (PySem.Str.ofString "print") 43, val := PySem.Value.builtin "print" }, { hash := PySem.PyData.keyHash P (PySem.Str.ofString "repr"), key := PySem.Value.str (PySem.Str.ofString "repr") 44, val := PySem.Value.builtin "repr" }, { hash := PySem.PyData.keyHash P (PySem.Str.ofString "round"), key := PySem.Value.str (PySem.Str.ofString "round") 45, val := PySem.Value.builtin "round" }, { hash := PySem.PyData.keyHash P (PySem.Str.ofString "setattr"), key := PySem.Value.str (PySem.Str.ofString "setattr") 46, val := PySem.Value.builtin "setattr" }, { hash := PySem.PyData.keyHash P (PySem.Str.ofString "sorted"), key := PySem.Value.str (PySem.Str.ofString "sorted") 47, val := PySem.Value.builtin "sorted" }, { hash := PySem.PyData.keyHash P (PySem.Str.ofString "sum"), key := PySem.Value.str (PySem.Str.ofString "sum") 48, val := PySem.Value.builtin "sum" }, { hash := PySem.PyData.keyHash P (PySem.Str.ofString "vars"), key := PySem.Value.str (PySem.Str.ofString "vars") 49, val := PySem.Value.builtin "vars" }, { hash := PySem.PyData.keyHash P (PySem.Str.ofString "None"), key := PySem.Value.str (PySem.Str.ofString "None") 50, val := PySem.Value.none }, { hash := PySem.PyData.keyHash P (PySem.Str.ofString "Ellipsis"), key := PySem.Value.str (PySem.Str.ofString "Ellipsis") 51, val := PySem.Value.ellipsis }, { hash := PySem.PyData.keyHash P (PySem.Str.ofString "NotImplemented"), key := PySem.Value.str (PySem.Str.ofString "NotImplemented") 52, val := PySem.Value.notImplemented }, { hash := PySem.PyData.keyHash P (PySem.Str.ofString "False"), key := PySem.Value.str (PySem.Str.ofString "False") 53, val := PySem.Value.bool Bool.false }, { hash := PySem.PyData.keyHash P (PySem.Str.ofString "True"), key := PySem.Value.str (PySem.Str.ofString "True") 54, val := PySem.Value.bool Bool.true }, { hash := PySem.PyData.keyHash P (PySem.Str.ofString "bool"), key := PySem.Value.str (PySem.Str.ofString "bool") 55, val := PySem.Value.type "bool" }, { hash := PySem.PyData.keyHash P (PySem.Str.ofString "memoryview"), key := PySem.Value.str (PySem.Str.ofString "memoryview") 56, val := PySem.Value.type "memoryview" }, { hash := PySem.PyData.keyHash P (PySem.Str.ofString "bytearray"), key := PySem.Value.str (PySem.Str.ofString "bytearray") 57, val := PySem.Value.type "bytearray" }, { hash := PySem.PyData.keyHash P (PySem.Str.ofString "bytes"), key := PySem.Value.str (PySem.Str.ofString "bytes") 58, val := PySem.Value.type "bytes" }, { hash := PySem.PyData.keyHash P (PySem.Str.ofString "classmethod"), key := PySem.Value.str (PySem.Str.ofString "classmethod") 59, val := PySem.Value.type "classmethod" }, { hash := PySem.PyData.keyHash P (PySem.Str.ofString "complex"), key := PySem.Value.str (PySem.Str.ofString "complex") 60, val := PySem.Value.type "complex" }, { hash := PySem.PyData.keyHash P (PySem.Str.ofString "dict"), key := PySem.Value.str (PySem.Str.ofString "dict") 61, val := PySem.Value.type "dict" }, { hash := PySem.PyData.keyHash P (PySem.Str.ofString "enumerate"), key := PySem.Value.str (PySem.Str.ofString "enumerate") 62, val := PySem.Value.type "enumerate" }, { hash := PySem.PyData.keyHash P (PySem.Str.ofString "filter"), key := PySem.Value.str (PySem.Str.ofString "filter") 63, val := PySem.Value.type "filter" }, { hash := PySem.PyData.keyHash P (PySem.Str.ofString "float"), key := PySem.Value.str (PySem.Str.ofString "float") 64, val := PySem.Value.type "float" }, { hash := PySem.PyData.keyHash P (PySem.Str.ofString "frozenset"), key := PySem.Value.str (PySem.Str.ofString "frozenset") 65, val := PySem.Value.type "frozenset" }, { hash := PySem.PyData.keyHash P (PySem.Str.ofString "property"), key := PySem.Value.str (PySem.Str.ofString "property") 66, val := PySem.Value.type "property" }, { hash := PySem.PyData.keyHash P (PySem.Str.ofString "int"), key := PySem.Value.str (PySem.Str.ofString "int") 67, val := PySem.Value.type "int" }, { hash := PySem.PyData.keyHash P (PySem.Str.ofString "list"), key := PySem.Value.str (PySem.Str.ofString "list") 68, val := PySem.Value.type "list" }, { hash := PySem.PyData.keyHash P (PySem.Str.ofString "map"), key := PySem.Value.str (PySem.Str.ofString "map") 69, val := PySem.Value.type "map" }, { hash := PySem.PyData.keyHash P (PySem.Str.ofString "object"), key := PySem.Value.str (PySem.Str.ofString "object") 70, val := PySem.Value.type "object" }, { hash := PySem.PyData.keyHash P (PySem.Str.ofString "range"), key := PySem.Value.str (PySem.Str.ofString "range") 71, val := PySem.Value.type "range" }, { hash := PySem.PyData.keyHash P (PySem.Str.ofString "reversed"), key := PySem.Value.str (PySem.Str.ofString "reversed") 72, val := PySem.Value.type "reversed" }, { hash := PySem.PyData.keyHash P (PySem.Str.ofString "set"), key := PySem.Value.str (PySem.Str.ofString "set") 73, val := PySem.Value.type "set" }, { hash := PySem.PyData.keyHash P (PySem.Str.ofString "slice"), key := PySem.Value.str (PySem.Str.ofString "slice") 74, val := PySem.Value.type "slice" }, { hash := PySem.PyData.keyHash P (PySem.Str.ofString "staticmethod"), key := PySem.Value.str (PySem.Str.ofString "staticmethod") 75, val := PySem.Value.type "staticmethod" }, { hash := PySem.PyData.keyHash P (PySem.Str.ofString "str"), key := PySem.Value.str (PySem.Str.ofString "str") 76, val := PySem.Value.type "str" }, { hash := PySem.PyData.keyHash P (PySem.Str.ofString "super"), key := PySem.Value.str (PySem.Str.ofString "super") 77, val := PySem.Value.type "super" }, { hash := PySem.PyData.keyHash P (PySem.Str.ofString "tuple"), key := PySem.Value.str (PySem.Str.ofString "tuple") 78, val := PySem.Value.type "tuple" }, { hash := PySem.PyData.keyHash P (PySem.Str.ofString "type"), key := PySem.Value.str (PySem.Str.ofString "type") 79, val := PySem.Value.type "type" }, { hash := PySem.PyData.keyHash P (PySem.Str.ofString "zip"), key := PySem.Value.str (PySem.Str.ofString "zip") 80, val := PySem.Value.type "zip" }, { hash := PySem.PyData.keyHash P (PySem.Str.ofString "__debug__"), key := PySem.Value.str (PySem.Str.ofString "__debug__") 81, val := PySem.Value.bool Bool.true }, { hash := PySem.PyData.keyHash P (PySem.Str.ofString "BaseException"), key := PySem.Value.str (PySem.Str.ofString "BaseException") 82, val := PySem.Value.type "BaseException" }, { hash := PySem.PyData.keyHash P (PySem.Str.ofString "BaseExceptionGroup"), key := PySem.Value.str (PySem.Str.ofString "BaseExceptionGroup") 83, val := PySem.Value.type "BaseExceptionGroup" }, { hash := PySem.PyData.keyHash P (PySem.Str.ofString "Exception"), key := PySem.Value.str (PySem.Str.ofString "Exception") 84, val := PySem.Value.type "Exception" }, { hash := PySem.PyData.keyHash P (PySem.Str.ofString "GeneratorExit"), key := PySem.Value.str (PySem.Str.ofString "GeneratorExit") 85, val := PySem.Value.type "GeneratorExit" }, { hash := PySem.PyData.keyHash P (PySem.Str.ofString "KeyboardInterrupt"), key := PySem.Value.str (PySem.Str.ofString "KeyboardInterrupt") 86, val := PySem.Value.type "KeyboardInterrupt" }, { hash := PySem.PyData.keyHash P (PySem.Str.ofString "SystemExit"), key := PySem.Value.str (PySem.Str.ofString "SystemExit") 87, val := PySem.Value.type "SystemExit" }, { hash := PySem.PyData.keyHash P (PySem.Str.ofString "ArithmeticError"), key := PySem.Value.str (PySem.Str.ofString "ArithmeticError") 88, val := PySem.Value.type "ArithmeticError" }, { hash := PySem.PyData.keyHash P (PySem.Str.ofString "AssertionError"), key := PySem.Value.str (PySem.Str.ofString "AssertionError") 89, val := PySem.Value.type "AssertionError" }, { hash := PySem.PyData.keyHash P (PySem.Str.ofString "AttributeError"), key := PySem.Value.str (PySem.Str.ofString "AttributeError") 90, val := PySem.Value.type "AttributeError" }, { hash := PySem.PyData.keyHash P (PySem.Str.ofString "BufferError"), key := PySem.Value.str (PySem.Str.ofString "BufferError") 91, val := PySem.Value.type "BufferError" }, { hash := PySem.PyData.keyHash P (PySem.Str.ofString "EOFError"), key := PySem.Value.str (PySem.Str.ofString "EOFError") 92, val := PySem.Value.type "EOFError" }, { hash := PySem.PyData.keyHash P (PySem.Str.ofString "ImportError"), key := PySem.Value.str (PySem.Str.ofString "ImportError") 93, val := PySem.Value.type "ImportError" }, { hash := PySem.PyData.keyHash P (PySem.Str.ofString "LookupError"), key := PySem.Value.str (PySem.Str.ofString "LookupError") 94, val := PySem.Value.type "LookupError" }, { hash := PySem.PyData.keyHash P (PySem.Str.ofString "MemoryError"), key := PySem.Value.str (PySem.Str.ofString "MemoryError") 95, val := PySem.Value.type "MemoryError" }, { hash := PySem.PyData.keyHash P (PySem.Str.ofString "NameError"), key := PySem.Value.str (PySem.Str.ofString "NameError") 96, val := PySem.Value.type "NameError" }, { hash := PySem.PyData.keyHash P (PySem.Str.ofString "OSError"), key := PySem.Value.str (PySem.Str.ofString "OSError") 97, val := PySem.Value.type "OSError" }, { hash := PySem.PyData.keyHash P (PySem.Str.ofString "ReferenceError"), key := PySem.Value.str (PySem.Str.ofString "ReferenceError") 98, val := PySem.Value.type "ReferenceError" }, { hash := PySem.PyData.keyHash P (PySem.Str.ofString "RuntimeError"), key := PySem.Value.str (PySem.Str.ofString "RuntimeError") 99, val := PySem.Value.type "RuntimeError" }, { hash := PySem.PyData.keyHash P (PySem.Str.ofString "StopAsyncIteration"), key := PySem.Value.str (PySem.Str.ofString "StopAsyncIteration") 100, val := PySem.Value.type "StopAsyncIteration" }, { hash := PySem.PyData.keyHash P (PySem.Str.ofString "StopIteration"), key := PySem.Value.str (PySem.Str.ofString "StopIteration") 101, val := PySem.Value.type "StopIteration" }, { hash := PySem.PyData.keyHash P (PySem.Str.ofString "SyntaxError"), key := PySem.Value.str (PySem.Str.ofString "SyntaxError") 102, val := PySem.Value.type "SyntaxError" }, { hash := PySem.PyData.keyHash P (PySem.Str.ofString "SystemError"), key := PySem.Value.str (PySem.Str.ofString "SystemError") 103, val := PySem.Value.type "SystemError" }, { hash := PySem.PyData.keyHash P (PySem.Str.ofString "TypeError"), key := PySem.Value.str (PySem.Str.ofString "TypeError") 104, val := PySem.Value.type "TypeError" }, { hash := PySem.PyData.keyHash P (PySem.Str.ofString "ValueError"), key := PySem.Value.str (PySem.Str.ofString "ValueError") 105, val := PySem.Value.type "ValueError" }, { hash := PySem.PyData.keyHash P (PySem.Str.ofString "Warning"), key := PySem.Value.str (PySem.Str.ofString "Warning") 106, val := PySem.Value.type "Warning" }, { hash := PySem.PyData.keyHash P (PySem.Str.ofString "FloatingPointError"), key := PySem.Value.str (PySem.Str.ofString "FloatingPointError") 107, val := PySem.Value.type "FloatingPointError" }, { hash := PySem.PyData.keyHash P (PySem.Str.ofString "OverflowError"), key := PySem.Value.str (PySem.Str.ofString "OverflowError") 108, val := PySem.Value.type "OverflowError" }, { hash := PySem.PyData.keyHash P (PySem.Str.ofString "ZeroDivisionError"), key := PySem.Value.str (PySem.Str.ofString "ZeroDivisionError") 109, val := PySem.Value.type "ZeroDivisionError" }, { hash := PySem.PyData.keyHash P (PySem.Str.ofString "BytesWarning"), key := PySem.Value.str (PySem.Str.ofString "BytesWarning") 110, val := PySem.Value.type "BytesWarning" }, { hash := PySem.PyData.keyHash P (PySem.Str.ofString "DeprecationWarning"), key := PySem.Value.str (PySem.Str.ofString "DeprecationWarning") 111, val := PySem.Value.type "DeprecationWarning" }, { hash := PySem.PyData.keyHash P (PySem.Str.ofString "EncodingWarning"), key := PySem.Value.str (PySem.Str.ofString "EncodingWarning") 112, val := PySem.Value.type "EncodingWarning" }, { hash := PySem.PyData.keyHash P (PySem.Str.ofString "FutureWarning"), key := PySem.Value.str (PySem.Str.ofString "FutureWarning") 113, val := PySem.Value.type "FutureWarning" }, { hash := PySem.PyData.keyHash P (PySem.Str.ofString "ImportWarning"), key := PySem.Value.str (PySem.Str.ofString "ImportWarning") 114, val := PySem.Value.type "ImportWarning" }, { hash := PySem.PyData.keyHash P (PySem.Str.ofString "PendingDeprecationWarning"), key := PySem.Value.str (PySem.Str.ofString "PendingDeprecationWarning") 115, val := PySem.Value.type "PendingDeprecationWarning" }, { hash := PySem.PyData.keyHash P (PySem.Str.ofString "ResourceWarning"), key := PySem.Value.str (PySem.Str.ofString "ResourceWarning") 116, val := PySem.Value.type "ResourceWarning" }, { hash := PySem.PyData.keyHash P (PySem.Str.ofString "RuntimeWarning"), key := PySem.Value.str (PySem.Str.ofString "RuntimeWarning") 117, val := PySem.Value.type "RuntimeWarning" }, { hash := PySem.PyData.keyHash P (PySem.Str.ofString "SyntaxWarning"), key := PySem.Value.str (PySem.Str.ofString "SyntaxWarning") 118, val := PySem.Value.type "SyntaxWarning" }, { hash := PySem.PyData.keyHash P (PySem.Str.ofString "UnicodeWarning"), key := PySem.Value.str (PySem.Str.ofString "UnicodeWarning") 119, val := PySem.Value.type "UnicodeWarning" }, { hash := PySem.PyData.keyHash P (PySem.Str.ofString "UserWarning"), key := PySem.Value.str (PySem.Str.ofString "UserWarning") 120, val := PySem.Value.type "UserWarning" }, { hash := PySem.PyData.keyHash P (PySem.Str.ofString "BlockingIOError"), key := PySem.Value.str (PySem.Str.ofString "BlockingIOError") 121, val := PySem.Value.type "BlockingIOError" }, { hash := PySem.PyData.keyHash P (PySem.Str.ofString "ChildProcessError"), key := PySem.Value.str (PySem.Str.ofString "ChildProcessError") 122, val := PySem.Value.type "ChildProcessError" }, { hash := PySem.PyData.keyHash P (PySem.Str.ofString "ConnectionError"), key := PySem.Value.str (PySem.Str.ofString "ConnectionError") 123, val := PySem.Value.type "ConnectionError" }, { hash := PySem.PyData.keyHash P (PySem.Str.ofString "FileExistsError"), key := PySem.Value.str (PySem.Str.ofString "FileExistsError") 124, val := PySem.Value.type "FileExistsError" }, { hash := PySem.PyData.keyHash P (PySem.Str.ofString "FileNotFoundError"), key := PySem.Value.str (PySem.Str.ofString "FileNotFoundError") 125, val := PySem.Value.type "FileNotFoundError" }, { hash := PySem.PyData.keyHash P (PySem.Str.ofString "InterruptedError"), key := PySem.Value.str (PySem.Str.ofString "InterruptedError") 126, val := PySem.Value.type "InterruptedError" }, { hash := PySem.PyData.keyHash P (PySem.Str.ofString "IsADirectoryError"), key := PySem.Value.str (PySem.Str.ofString "IsADirectoryError") 127, val := PySem.Value.type "IsADirectoryError" }, { hash := PySem.PyData.keyHash P (PySem.Str.ofString "NotADirectoryError"), key := PySem.Value.str (PySem.Str.ofString "NotADirectoryError") 128, val := PySem.Value.type "NotADirectoryError" }, { hash := PySem.PyData.keyHash P (PySem.Str.ofString "PermissionError"), key := PySem.Value.str (PySem.Str.ofString "PermissionError") 129, val := PySem.Value.type "PermissionError" }, { hash := PySem.PyData.keyHash P (PySem.Str.ofString "ProcessLookupError"), key := PySem.Value.str (PySem.Str.ofString "ProcessLookupError") 130, val := PySem.Value.type "ProcessLookupError" }, { hash := PySem.PyData.keyHash P (PySem.Str.ofString "TimeoutError"), key := PySem.Value.str (PySem.Str.ofString "TimeoutError") 131, val := PySem.Value.type "TimeoutError" }, { hash := PySem.PyData.keyHash P (PySem.Str.ofString "IndentationError"), key := PySem.Value.str (PySem.Str.ofString "IndentationError") 132, val := PySem.Value.type "IndentationError" }, { hash := PySem.PyData.keyHash P (PySem.Str.ofString "_IncompleteInputError"), key := PySem.Value.str (PySem.Str.ofString "_IncompleteInputError") 133, val := PySem.Value.type "_IncompleteInputError" }, { hash := PySem.PyData.keyHash P (PySem.Str.ofString "IndexError"), key := PySem.Value.str (PySem.Str.ofString "IndexError") 134, val := PySem.Value.type "IndexError" }, { hash := PySem.PyData.keyHash P (PySem.Str.ofString "KeyError"), key := PySem.Value.str (PySem.Str.ofString "KeyError") 135, val := PySem.Value.type "KeyError" }, { hash := PySem.PyData.keyHash P (PySem.Str.ofString "ModuleNotFoundError"), key := PySem.Value.str (PySem.Str.ofString "ModuleNotFoundError") 136, val := PySem.Value.type "ModuleNotFoundError" }, { hash := PySem.PyData.keyHash P (PySem.Str.ofString "NotImplementedError"), key := PySem.Value.str (PySem.Str.ofString "NotImplementedError") 137, val := PySem.Value.type "NotImplementedError" }, { hash := PySem.PyData.keyHash P (PySem.Str.ofString "PythonFinalizationError"), key := PySem.Value.str (PySem.Str.ofString "PythonFinalizationError") 138, val := PySem.Value.type "PythonFinalizationError" }, { hash := PySem.PyData.keyHash P (PySem.Str.ofString "RecursionError"), key := PySem.Value.str (PySem.Str.ofString "RecursionError") 139, val := PySem.Value.type "RecursionError" }, { hash := PySem.PyData.keyHash P (PySem.Str.ofString "UnboundLocalError"), key := PySem.Value.str (PySem.Str.ofString "UnboundLocalError") 140, val := PySem.Value.type "UnboundLocalError" }, { hash := PySem.PyData.keyHash P (PySem.Str.ofString "UnicodeError"), key := PySem.Value.str (PySem.Str.ofString "UnicodeError") 141, val := PySem.Value.type "UnicodeError" }, { hash := PySem.PyData.keyHash P (PySem.Str.ofString "BrokenPipeError"), key := PySem.Value.str (PySem.Str.ofString "BrokenPipeError") 142, val := PySem.Value.type "BrokenPipeError" }, { hash := PySem.PyData.keyHash P (PySem.Str.ofString "ConnectionAbortedError"), key := PySem.Value.str (PySem.Str.ofString "ConnectionAbortedError") 143, val := PySem.Value.type "ConnectionAbortedError" }, { hash := PySem.PyData.keyHash P (PySem.Str.ofString "ConnectionRefusedError"), key := PySem.Value.str (PySem.Str.ofString "ConnectionRefusedError") 144, val := PySem.Value.type "ConnectionRefusedError" }, { hash := PySem.PyData.keyHash P (PySem.Str.ofString "ConnectionResetError"), key := PySem.Value.str (PySem.Str.ofString "ConnectionResetError") 145, val := PySem.Value.type "ConnectionResetError" }, { hash := PySem.PyData.keyHash P (PySem.Str.ofString "TabError"), key := PySem.Value.str (PySem.Str.ofString "TabError") 146, val := PySem.Value.type "TabError" }, { hash := PySem.PyData.keyHash P (PySem.Str.ofString "UnicodeDecodeError"), key := PySem.Value.str (PySem.Str.ofString "UnicodeDecodeError") 147, val := PySem.Value.type "UnicodeDecodeError" }, { hash := PySem.PyData.keyHash P (PySem.Str.ofString "UnicodeEncodeError"), key := PySem.Value.str (PySem.Str.ofString "UnicodeEncodeError") 148, val := PySem.Value.type "UnicodeEncodeError" }, { hash := PySem.PyData.keyHash P (PySem.Str.ofString "UnicodeTranslateError"), key := PySem.Value.str (PySem.Str.ofString "UnicodeTranslateError") 149, val := PySem.Value.type "UnicodeTranslateError" }, { hash := PySem.PyData.keyHash P (PySem.Str.ofString "ExceptionGroup"), key := PySem.Value.str (PySem.Str.ofString "ExceptionGroup") 150, val := PySem.Value.type "ExceptionGroup" }, { hash := PySem.PyData.keyHash P (PySem.Str.ofString "EnvironmentError"), key := PySem.Value.str (PySem.Str.ofString "EnvironmentError") 151, val := PySem.Value.type "OSError" }, { hash := PySem.PyData.keyHash P (PySem.Str.ofString "IOError"), key := PySem.Value.str (PySem.Str.ofString "IOError") 152, val := PySem.Value.type "OSError" }, { hash := PySem.PyData.keyHash P (PySem.Str.ofString "open"), key := PySem.Value.str (PySem.Str.ofString "open") 153, val := PySem.Value.builtin "open" }, { hash := PySem.PyData.keyHash P (PySem.Str.ofString "quit"), key := PySem.Value.str (PySem.Str.ofString "quit") 154, val := PySem.Value.builtin "builtins.quit#\x6fpaque" }, { hash := PySem.PyData.keyHash P (PySem.Str.ofString "exit"), key := PySem.Value.str (PySem.Str.ofString "exit") 155, val := PySem.Value.builtin "builtins.exit#\x6fpaque" }, { hash := PySem.PyData.keyHash P (PySem.Str.ofString "copyright"), key := PySem.Value.str (PySem.Str.ofString "copyright") 156, val := PySem.Value.builtin "builtins.copyright#\x6fpaque" }, { hash := PySem.PyData.keyHash P (PySem.Str.ofString "credits"), key := PySem.Value.str (PySem.Str.ofString "credits") 157, val := PySem.Value.builtin "builtins.credits#\x6fpaque" }, { hash := PySem.PyData.keyHash P (PySem.Str.ofString "license"), key := PySem.Value.str (PySem.Str.ofString "license") 158, val := PySem.Value.builtin "builtins.license#\x6fpaque" }, { hash := PySem.PyData.keyHash P (PySem.Str.ofString "help"), key := PySem.Value.str (PySem.Str.ofString "help") 159, val := PySem.Value.builtin "builtins.help#\x6fpaque" }] 159 }
noncomputable def uo1 : Params → Obj := fun P => { cls := PySem.Value.type "dict", data := PySem.Data.dict #[{ hash := PySem.PyData.keyHash P (PySem.Str.ofString "builtins"), key := PySem.Value.str (PySem.Str.ofString "builtins") 162, val := PySem.Value.ref 4 }, { hash := PySem.PyData.keyHash P (PySem.Str.ofString "__main__"), key := PySem.Value.str (PySem.Str.ofString "__main__") 163, val := PySem.Value.ref 5 }, { hash := PySem.PyData.keyHash P (PySem.Str.ofString "_sre"), key := PySem.Value.str (PySem.Str.ofString "_sre") 244, val := PySem.Value.ref 12 }] 3 }
noncomputable def uo2 : Params → Obj := fun P => { cls := PySem.Value.none, data := PySem.Data.dict #[{ hash := PySem.PyData.keyHash P (PySem.Str.ofString "\x69mport.loaded._sre"), key := PySem.Value.str (PySem.Str.ofString "\x69mport.loaded._sre") 183, val := PySem.Value.bool Bool.true }, { hash := PySem.PyData.keyHash P (PySem.Str.ofString "class._frozen_importlib.BuiltinImporter"), key := PySem.Value.str (PySem.Str.ofString "class._frozen_importlib.BuiltinImporter") 185, val := PySem.Value.ref 14 }, { hash := PySem.PyData.keyHash P (PySem.Str.ofString "watched.\x69mport"), key := PySem.Value.str (PySem.Str.ofString "watched.\x69mport") 206, val := PySem.Value.ref 18 }, { hash := PySem.PyData.keyHash P (PySem.Str.ofString "class._frozen_importlib.ModuleSpec"), key := PySem.Value.str (PySem.Str.ofString "class._frozen_importlib.ModuleSpec") 216, val := PySem.Value.ref 22 }, { hash := PySem.PyData.keyHash P (PySem.Str.ofString "sys.modules.booked-epoch"), key := PySem.Value.str (PySem.Str.ofString "sys.modules.booked-epoch") 245, val := PySem.Value.int 3 0 }, { hash := PySem.PyData.keyHash P (PySem.Str.ofString "\x69mport.later-laid._sre"), key := PySem.Value.str (PySem.Str.ofString "\x69mport.later-laid._sre") 270, val := PySem.Value.bool Bool.true }, { hash := PySem.PyData.keyHash P (PySem.Str.ofString "watched.library"), key := PySem.Value.str (PySem.Str.ofString "watched.library") 272, val := PySem.Value.ref 27 }, { hash := PySem.PyData.keyHash P (PySem.Str.ofString "watched.library-objects"), key := PySem.Value.str (PySem.Str.ofString "watched.library-objects") 0, val := PySem.Value.str (PySem.Str.ofString "\x0c") 0 }, { hash := PySem.PyData.keyHash P (PySem.Str.ofString "watched.library-deep._sre"), key := PySem.Value.str (PySem.Str.ofString "watched.library-deep._sre") 273, val := PySem.Value.str (PySem.Str.ofString "\x04\x00\x00\x0b\x04\x00\x00\x0b\x04\x00\x00\x03\x04\x00\x00\x0b\x08\x04dict\x02") 0 }] 9 }
noncomputable def uo3 : Params → Obj := fun P => { cls := PySem.Value.type "dict", data := PySem.Data.dict #[{ hash := PySem.PyData.keyHash P (PySem.Str.ofString "__name__"), key := PySem.Value.str (PySem.Str.ofString "__name__") 165, val := PySem.Value.str (PySem.Str.ofString "__main__") 164 }, { hash := PySem.PyData.keyHash P (PySem.Str.ofString "__doc__"), key := PySem.Value.str (PySem.Str.ofString "__doc__") 166, val := PySem.Value.none }, { hash := PySem.PyData.keyHash P (PySem.Str.ofString "__package__"), key := PySem.Value.str (PySem.Str.ofString "__package__") 167, val := PySem.Value.none }, { hash := PySem.PyData.keyHash P (PySem.Str.ofString "__loader__"), key := PySem.Value.str (PySem.Str.ofString "__loader__") 168, val := PySem.Value.builtin "__main__.__loader__#\x6fpaque" }, { hash := PySem.PyData.keyHash P (PySem.Str.ofString "__spec__"), key := PySem.Value.str (PySem.Str.ofString "__spec__") 169, val := PySem.Value.none }, { hash := PySem.PyData.keyHash P (PySem.Str.ofString "__annotations__"), key := PySem.Value.str (PySem.Str.ofString "__annotations__") 170, val := PySem.Value.ref 6 }, { hash := PySem.PyData.keyHash P (PySem.Str.ofString "__builtins__"), key := PySem.Value.str (PySem.Str.ofString "__builtins__") 171, val := PySem.Value.ref 4 }, { hash := PySem.PyData.keyHash P (PySem.Str.ofString "__file__"), key := PySem.Value.str (PySem.Str.ofString "__file__") 173, val := PySem.Value.str (PySem.Str.ofString "/claim/cut.py") 172 }, { hash := PySem.PyData.keyHash P (PySem.Str.ofString "__cached__"), key := PySem.Value.str (PySem.Str.ofString "__cached__") 174, val := PySem.Value.none }, { hash := PySem.PyData.keyHash P (PySem.Str.ofString "_sre"), key := PySem.Value.str (PySem.Str.ofString "_sre") 275, val := PySem.Value.ref 12 }] 10 }
noncomputable def uo4 : Params → Obj := fun P => { cls := PySem.Value.type "module", dict := Option.some 0 }
noncomputable def uo5 : Params → Obj := fun P => { cls := PySem.Value.type "module", dict := Option.some 3 }
noncomputable def uo6 : Params → Obj := fun P => { cls := PySem.Value.type "dict", data := PySem.Data.dict #[] }
noncomputable def uo7 : Params → Obj := fun P => { cls := PySem.Value.type "tuple", data := PySem.Data.seq #[] }
noncomputable def uo8 : Params → Obj := fun P => { cls := PySem.Value.none, data := PySem.Data.fields #[] }
noncomputable def uo9 : Params → Obj := fun P => { cls := PySem.Value.type "code", data := PySem.Data.fields #[PySem.Value.str (PySem.Str.ofString "<module>") 176, PySem.Value.str (PySem.Str.ofString "<module>") 177, PySem.Value.str (PySem.Str.ofString "/claim/cut.py") 178, PySem.Value.int 1 0, PySem.Value.int 0 0, PySem.Value.int 0 0, PySem.Value.int 0 0, PySem.Value.int 0 0, PySem.Value.ref 7, PySem.Value.bool Bool.false, PySem.Value.int 175 0, PySem.Value.ref 8, PySem.Value.none, PySem.Value.none, PySem.Value.none, PySem.Value.none, PySem.Value.int 179 0, PySem.Value.int 1 0, PySem.Value.str (PySem.Str.ofString "/claim/cut.py") 180] }
noncomputable def uo10 : Params → Obj := fun P => { cls := PySem.Value.type "frame", slots := #[Option.some (PySem.Value.ref 9), Option.some (PySem.Value.ref 3), Option.some (PySem.Value.ref 3), Option.none, Option.some (PySem.Value.str (PySem.Str.ofString "__main__") 164), Option.none, Option.some (PySem.Value.ref 0)] }
noncomputable def uo11 : Params → Obj := fun P => { cls := PySem.Value.type "dict", data := PySem.Data.dict #[{ hash := PySem.PyData.keyHash P (PySem.Str.ofString "__name__"), key := PySem.Value.str (PySem.Str.ofString "__name__") 247, val := PySem.Value.str (PySem.Str.ofString "_sre") 246 }, { hash := PySem.PyData.keyHash P (PySem.Str.ofString "__doc__"), key := PySem.Value.str (PySem.Str.ofString "__doc__") 248, val := PySem.Value.none }, { hash := PySem.PyData.keyHash P (PySem.Str.ofString "__package__"), key := PySem.Value.str (PySem.Str.ofString "__package__") 250, val := PySem.Value.str (PySem.Str.ofString "") 249 }, { hash := PySem.PyData.keyHash P (PySem.Str.ofString "__loader__"), key := PySem.Value.str (PySem.Str.ofString "__loader__") 251, val := PySem.Value.builtin "off-the-table:_sre.__loader__:shared#\x6fpaque" }, { hash := PySem.PyData.keyHash P (PySem.Str.ofString "__spec__"), key := PySem.Value.str (PySem.Str.ofString "__spec__") 252, val := PySem.Value.builtin "off-the-table:_sre.__spec__:shared#\x6fpaque" }, { hash := PySem.PyData.keyHash P (PySem.Str.ofString "compile"), key := PySem.Value.str (PySem.Str.ofString "compile") 253, val := PySem.Value.builtin "_sre.compile" }, { hash := PySem.PyData.keyHash P (PySem.Str.ofString "template"), key := PySem.Value.str (PySem.Str.ofString "template") 254, val := PySem.Value.builtin "off-the-table:_sre.template:shared#\x6fpaque" }, { hash := PySem.PyData.keyHash P (PySem.Str.ofString "getcodesize"), key := PySem.Value.str (PySem.Str.ofString "getcodesize") 255, val := PySem.Value.builtin "off-the-table:_sre.getcodesize:shared#\x6fpaque" }, { hash := PySem.PyData.keyHash P (PySem.Str.ofString "ascii_iscased"), key := PySem.Value.str (PySem.Str.ofString "ascii_iscased") 256, val := PySem.Value.builtin "off-the-table:_sre.ascii_iscased:shared#\x6fpaque" }, { hash := PySem.PyData.keyHash P (PySem.Str.ofString "unicode_iscased"), key := PySem.Value.str (PySem.Str.ofString "unicode_iscased") 257, val := PySem.Value.builtin "off-the-table:_sre.unicode_iscased:shared#\x6fpaque" }, { hash := PySem.PyData.keyHash P (PySem.Str.ofString "ascii_tolower"), key := PySem.Value.str (PySem.Str.ofString "ascii_tolower") 258, val := PySem.Value.builtin "off-the-table:_sre.ascii_tolower:shared#\x6fpaque" }, { hash := PySem.PyData.keyHash P (PySem.Str.ofString "unicode_tolower"), key := PySem.Value.str (PySem.Str.ofString "unicode_tolower") 259, val := PySem.Value.builtin "off-the-table:_sre.unicode_tolower:shared#\x6fpaque" }, { hash := PySem.PyData.keyHash P (PySem.Str.ofString "MAGIC"), key := PySem.Value.str (PySem.Str.ofString "MAGIC") 261, val := PySem.Value.int 20230612 260 }, { hash := PySem.PyData.keyHash P (PySem.Str.ofString "CODESIZE"), key := PySem.Value.str (PySem.Str.ofString "CODESIZE") 263, val := PySem.Value.int 4 262 }, { hash := PySem.PyData.keyHash P (PySem.Str.ofString "MAXREPEAT"), key := PySem.Value.str (PySem.Str.ofString "MAXREPEAT") 265, val := PySem.Value.int 4294967295 264 }, { hash := PySem.PyData.keyHash P (PySem.Str.ofString "MAXGROUPS"), key := PySem.Value.str (PySem.Str.ofString "MAXGROUPS") 267, val := PySem.Value.int 1073741823 266 }, { hash := PySem.PyData.keyHash P (PySem.Str.ofString "copyright"), key := PySem.Value.str (PySem.Str.ofString "copyright") 269, val := PySem.Value.str (PySem.Str.ofString " SRE 2.2.2 Copyright (c) 1997-2002 by Secret Labs AB ") 268 }] 17 }
noncomputable def uo12 : Params → Obj := fun P => { cls := PySem.Value.type "module", dict := Option.some 11 }
noncomputable def uo13 : Params → Obj := fun P => { cls := PySem.Value.type "dict", data := PySem.Data.dict #[{ hash := PySem.PyData.keyHash P (PySem.Str.ofString "__module__"), key := PySem.Value.str (PySem.Str.ofString "__module__") 189, val := PySem.Value.str (PySem.Str.ofString "_frozen_importlib") 186 }, { hash := PySem.PyData.keyHash P (PySem.Str.ofString "__firstlineno__"), key := PySem.Value.str (PySem.Str.ofString "__firstlineno__") 190, val := PySem.Value.int 971 187 }, { hash := PySem.PyData.keyHash P (PySem.Str.ofString "__doc__"), key := PySem.Value.str (PySem.Str.ofString "__doc__") 191, val := PySem.Value.builtin "_frozen_importlib.BuiltinImporter.__doc__:str#\x6fpaque" }, { hash := PySem.PyData.keyHash P (PySem.Str.ofString "_ORIGIN"), key := PySem.Value.str (PySem.Str.ofString "_ORIGIN") 192, val := PySem.Value.str (PySem.Str.ofString "built-in") 188 }, { hash := PySem.PyData.keyHash P (PySem.Str.ofString "find_spec"), key := PySem.Value.str (PySem.Str.ofString "find_spec") 193, val := PySem.Value.builtin "_frozen_importlib.BuiltinImporter.find_spec#\x6fpaque" }, { hash := PySem.PyData.keyHash P (PySem.Str.ofString "create_module"), key := PySem.Value.str (PySem.Str.ofString "create_module") 194, val := PySem.Value.builtin "_frozen_importlib.BuiltinImporter.create_module#\x6fpaque" }, { hash := PySem.PyData.keyHash P (PySem.Str.ofString "exec_module"), key := PySem.Value.str (PySem.Str.ofString "exec_module") 195, val := PySem.Value.builtin "_frozen_importlib.BuiltinImporter.exec_module#\x6fpaque" }, { hash := PySem.PyData.keyHash P (PySem.Str.ofString "get_code"), key := PySem.Value.str (PySem.Str.ofString "get_code") 196, val := PySem.Value.builtin "_frozen_importlib.BuiltinImporter.get_code#\x6fpaque" }, { hash := PySem.PyData.keyHash P (PySem.Str.ofString "get_source"), key := PySem.Value.str (PySem.Str.ofString "get_source") 197, val := PySem.Value.builtin "_frozen_importlib.BuiltinImporter.get_source#\x6fpaque" }, { hash := PySem.PyData.keyHash P (PySem.Str.ofString "is_package"), key := PySem.Value.str (PySem.Str.ofString "is_package") 198, val := PySem.Value.builtin "_frozen_importlib.BuiltinImporter.is_package#\x6fpaque" }, { hash := PySem.PyData.keyHash P (PySem.Str.ofString "load_module"), key := PySem.Value.str (PySem.Str.ofString "load_module") 199, val := PySem.Value.builtin "_frozen_importlib.BuiltinImporter.load_module#\x6fpaque" }, { hash := PySem.PyData.keyHash P (PySem.Str.ofString "__static_attributes__"), key := PySem.Value.str (PySem.Str.ofString "__static_attributes__") 200, val := PySem.Value.ref 15 }, { hash := PySem.PyData.keyHash P (PySem.Str.ofString "__dict__"), key := PySem.Value.str (PySem.Str.ofString "__dict__") 202, val := PySem.Value.ref 16 }, { hash := PySem.PyData.keyHash P (PySem.Str.ofString "__weakref__"), key := PySem.Value.str (PySem.Str.ofString "__weakref__") 204, val := PySem.Value.ref 17 }] 14 }
noncomputable def uo14 : Params → Obj := fun P => { cls := PySem.Value.type "type", data := PySem.Data.cls { name := PySem.Str.ofString "BuiltinImporter", bases := [PySem.Value.type "object"], mro := [PySem.Value.ref 14, PySem.Value.type "object"], ns := 13, qualname := PySem.Str.ofString "BuiltinImporter" } }
noncomputable def uo15 : Params → Obj := fun P => { cls := PySem.Value.type "tuple", data := PySem.Data.seq #[] }
noncomputable def uo16 : Params → Obj := fun P => { cls := PySem.Value.type "getset_descriptor", data := PySem.Data.fields #[PySem.Value.str (PySem.Str.ofString "__dict__") 201, PySem.Value.ref 14, PySem.Value.builtin "function.__dict__", PySem.Value.builtin "function.__dict__#set"] }
noncomputable def uo17 : Params → Obj := fun P => { cls := PySem.Value.type "getset_descriptor", data := PySem.Data.fields #[PySem.Value.str (PySem.Str.ofString "__weakref__") 203, PySem.Value.ref 14, PySem.Value.builtin "ExceptionGroup.__weakref__", PySem.Value.none] }
noncomputable def uo18 : Params → Obj := fun P => { cls := PySem.Value.none, data := PySem.Data.seq #[PySem.Value.int 13 0, PySem.Value.str (PySem.Str.mk (Array.mk (6 :: 189 :: 10 :: 95 :: 95 :: 109 :: 111 :: 100 :: 117 :: 108 :: 101 :: 95 :: 95 :: 6 :: 186 :: 17 :: 95 :: 102 :: 114 :: 111 :: 122 :: 101 :: 110 :: 95 :: 105 :: 109 :: 112 :: 111 :: 114 :: 116 :: 108 :: 105 :: 98 :: 6 :: 190 :: 15 :: 95 :: 95 :: 102 :: 105 :: 114 :: 115 :: 116 :: 108 :: 105 :: 110 :: 101 :: 110 :: 111 :: 95 :: 95 :: 4 :: 187 :: 0 :: 971 :: 6 :: 191 :: 7 :: 95 :: 95 :: 100 :: 111 :: 99 :: 95 :: 95 :: 9 :: 52 :: 95 :: 102 :: 114 :: 111 :: 122 :: 101 :: 110 :: 95 :: 105 :: 109 :: 112 :: 111 :: 114 :: 116 :: 108 :: 105 :: 98 :: 46 :: 66 :: 117 :: 105 :: 108 :: 116 :: 105 :: 110 :: 73 :: 109 :: 112 :: 111 :: 114 :: 116 :: 101 :: 114 :: 46 :: 95 :: 95 :: 100 :: 111 :: 99 :: 95 :: 95 :: 58 :: 115 :: 116 :: 114 :: 35 :: 111 :: 112 :: 97 :: 113 :: 117 :: 101 :: 6 :: 192 :: 7 :: 95 :: 79 :: 82 :: 73 :: 71 :: 73 :: 78 :: 6 :: 188 :: 8 :: 98 :: 117 :: 105 :: 108 :: 116 :: 45 :: 105 :: 110 :: 6 :: 193 :: 9 :: 102 :: 105 :: 110 :: 100 :: 95 :: 115 :: 112 :: 101 :: 99 :: 9 :: 50 :: 95 :: 102 :: 114 :: 111 :: 122 :: 101 :: 110 :: 95 :: 105 :: 109 :: 112 :: 111 :: 114 :: 116 :: 108 :: 105 :: 98 :: 46 :: 66 :: 117 :: 105 :: 108 :: 116 :: 105 :: 110 :: 73 :: 109 :: 112 :: 111 :: 114 :: 116 :: 101 :: 114 :: 46 :: 102 :: 105 :: 110 :: 100 :: 95 :: 115 :: 112 :: 101 :: 99 :: 35 :: 111 :: 112 :: 97 :: 113 :: 117 :: 101 :: 6 :: 194 :: 13 :: 99 :: 114 :: 101 :: 97 :: 116 :: 101 :: 95 :: 109 :: 111 :: 100 :: 117 :: 108 :: 101 :: 9 :: 54 :: 95 :: 102 :: 114 :: 111 :: 122 :: 101 :: 110 :: 95 :: 105 :: 109 :: 112 :: 111 :: 114 :: 116 :: 108 :: 105 :: 98 :: 46 :: 66 :: 117 :: 105 :: 108 :: 116 :: 105 :: 110 :: 73 :: 109 :: 112 :: 111 :: 114 :: 116 :: 101 :: 114 :: 46 :: 99 :: 114 :: 101 :: 97 :: 116 :: 101 :: 95 :: 109 :: 111 :: 100 :: 117 :: 108 :: 101 :: 35 :: 111 :: 112 :: 97 :: 113 :: 117 :: 101 :: 6 :: 195 :: 11 :: 101 :: 120 :: 101 :: 99 :: 95 :: 109 :: 111 :: 100 :: 117 :: 108 :: 101 :: 9 :: 52 :: 95 :: 102 :: 114 :: 111 :: 122 :: 101 :: 110 :: 95 :: 105 :: 109 :: 112 :: 111 :: 114 :: 116 :: 108 :: 105 :: 98 :: 46 :: 66 :: 117 :: 105 :: 108 :: 116 :: 105 :: 110 :: 73 :: 109 :: 112 :: 111 :: 114 :: 116 :: 101 :: 114 :: 46 :: 101 :: 120 :: 101 :: 99 :: 95 :: 109 :: 111 :: 100 :: 117 :: 108 :: 101 :: 35 :: 111 :: 112 :: 97 :: 113 :: 117 :: 101 :: 6 :: 196 :: 8 :: 103 :: 101 :: 116 :: 95 :: 99 :: 111 :: 100 :: 101 :: 9 :: 49 :: 95 :: 102 :: 114 :: 111 :: 122 :: 101 :: 110 :: 95 :: 105 :: 109 :: 112 :: 111 :: 114 :: 116 :: 108 :: 105 :: 98 :: 46 :: 66 :: 117 :: 105 :: 108 :: 116 :: 105 :: 110 :: 73 :: 109 :: 112 :: 111 :: 114 :: 116 :: 101 :: 114 :: 46 :: 103 :: 101 :: 116 :: 95 :: 99 :: 111 :: 100 :: 101 :: 35 :: 111 :: 112 :: 97 :: 113 :: 117 :: 101 :: 6 :: 197 :: 10 :: 103 :: 101 :: 116 :: 95 :: 115 :: 111 :: 117 :: 114 :: 99 :: 101 :: 9 :: 51 :: 95 :: 102 :: 114 :: 111 :: 122 :: 101 :: 110 :: 95 :: 105 :: 109 :: 112 :: 111 :: 114 :: 116 :: 108 :: 105 :: 98 :: 46 :: 66 :: 117 :: 105 :: 108 :: 116 :: 105 :: 110 :: 73 :: 109 :: 112 :: 111 :: 114 :: 116 :: 101 :: 114 :: 46 :: 103 :: 101 :: 116 :: 95 :: 115 :: 111 :: 117 :: 114 :: 99 :: 101 :: 35 :: 111 :: 112 :: 97 :: 113 :: 117 :: 101 :: 6 :: 198 :: 10 :: 105 :: 115 :: 95 :: 112 :: 97 :: 99 :: 107 :: 97 :: 103 :: 101 :: 9 :: 51 :: 95 :: 102 :: 114 :: 111 :: 122 :: 101 :: 110 :: 95 :: 105 :: 109 :: 112 :: 111 :: 114 :: 116 :: 108 :: 105 :: 98 :: 46 :: 66 :: 117 :: 105 :: 108 :: 116 :: 105 :: 110 :: 73 :: 109 :: 112 :: 111 :: 114 :: 116 :: 101 :: 114 :: 46 :: 105 :: 115 :: 95 :: 112 :: 97 :: 99 :: 107 :: 97 :: 103 :: 101 :: 35 :: 111 :: 112 :: 97 :: 113 :: 117 :: 101 :: 6 :: 199 :: 11 :: 108 :: 111 :: 97 :: 100 :: 95 :: 109 :: 111 :: 100 :: 117 :: 108 :: 101 :: 9 :: 52 :: 95 :: 102 :: 114 :: 111 :: 122 :: 101 :: 110 :: 95 :: 105 :: 109 :: 112 :: 111 :: 114 :: 116 :: 108 :: 105 :: 98 :: 46 :: 66 :: 117 :: 105 :: 108 :: 116 :: 105 :: 110 :: 73 :: 109 :: 112 :: 111 :: 114 :: 116 :: 101 :: 114 :: 46 :: 108 :: 111 :: 97 :: 100 :: 95 :: 109 :: 111 :: 100 :: 117 :: 108 :: 101 :: 35 :: 111 :: 112 :: 97 :: 113 :: 117 :: 101 :: 6 :: 200 :: 21 :: 95 :: 95 :: 115 :: 116 :: 97 :: 116 :: 105 :: 99 :: 95 :: 97 :: 116 :: 116 :: 114 :: 105 :: 98 :: 117 :: 116 :: 101 :: 115 :: 95 :: 95 :: 4 :: 0 :: 0 :: 15 :: 6 :: 202 :: 8 :: 95 :: 95 :: 100 :: 105 :: 99 :: 116 :: 95 :: 95 :: 4 :: 0 :: 0 :: 16 :: 6 :: 204 :: 11 :: 95 :: 95 :: 119 :: 101 :: 97 :: 107 :: 114 :: 101 :: 102 :: 95 :: 95 :: 4 :: 0 :: 0 :: 17 :: []))) 0, PySem.Value.bool Bool.true, PySem.Value.bool Bool.true, PySem.Value.str (PySem.Str.ofString "") 205, PySem.Value.int 21 0, PySem.Value.str (PySem.Str.mk (Array.mk (6 :: 227 :: 10 :: 95 :: 95 :: 109 :: 111 :: 100 :: 117 :: 108 :: 101 :: 95 :: 95 :: 6 :: 217 :: 17 :: 95 :: 102 :: 114 :: 111 :: 122 :: 101 :: 110 :: 95 :: 105 :: 109 :: 112 :: 111 :: 114 :: 116 :: 108 :: 105 :: 98 :: 6 :: 228 :: 15 :: 95 :: 95 :: 102 :: 105 :: 114 :: 115 :: 116 :: 108 :: 105 :: 110 :: 101 :: 110 :: 111 :: 95 :: 95 :: 4 :: 218 :: 0 :: 562 :: 6 :: 229 :: 7 :: 95 :: 95 :: 100 :: 111 :: 99 :: 95 :: 95 :: 9 :: 47 :: 95 :: 102 :: 114 :: 111 :: 122 :: 101 :: 110 :: 95 :: 105 :: 109 :: 112 :: 111 :: 114 :: 116 :: 108 :: 105 :: 98 :: 46 :: 77 :: 111 :: 100 :: 117 :: 108 :: 101 :: 83 :: 112 :: 101 :: 99 :: 46 :: 95 :: 95 :: 100 :: 111 :: 99 :: 95 :: 95 :: 58 :: 115 :: 116 :: 114 :: 35 :: 111 :: 112 :: 97 :: 113 :: 117 :: 101 :: 6 :: 230 :: 8 :: 95 :: 95 :: 105 :: 110 :: 105 :: 116 :: 95 :: 95 :: 9 :: 44 :: 95 :: 102 :: 114 :: 111 :: 122 :: 101 :: 110 :: 95 :: 105 :: 109 :: 112 :: 111 :: 114 :: 116 :: 108 :: 105 :: 98 :: 46 :: 77 :: 111 :: 100 :: 117 :: 108 :: 101 :: 83 :: 112 :: 101 :: 99 :: 46 :: 95 :: 95 :: 105 :: 110 :: 105 :: 116 :: 95 :: 95 :: 35 :: 111 :: 112 :: 97 :: 113 :: 117 :: 101 :: 6 :: 231 :: 8 :: 95 :: 95 :: 114 :: 101 :: 112 :: 114 :: 95 :: 95 :: 9 :: 44 :: 95 :: 102 :: 114 :: 111 :: 122 :: 101 :: 110 :: 95 :: 105 :: 109 :: 112 :: 111 :: 114 :: 116 :: 108 :: 105 :: 98 :: 46 :: 77 :: 111 :: 100 :: 117 :: 108 :: 101 :: 83 :: 112 :: 101 :: 99 :: 46 :: 95 :: 95 :: 114 :: 101 :: 112 :: 114 :: 95 :: 95 :: 35 :: 111 :: 112 :: 97 :: 113 :: 117 :: 101 :: 6 :: 232 :: 6 :: 95 :: 95 :: 101 :: 113 :: 95 :: 95 :: 9 :: 42 :: 95 :: 102 :: 114 :: 111 :: 122 :: 101 :: 110 :: 95 :: 105 :: 109 :: 112 :: 111 :: 114 :: 116 :: 108 :: 105 :: 98 :: 46 :: 77 :: 111 :: 100 :: 117 :: 108 :: 101 :: 83 :: 112 :: 101 :: 99 :: 46 :: 95 :: 95 :: 101 :: 113 :: 95 :: 95 :: 35 :: 111 :: 112 :: 97 :: 113 :: 117 :: 101 :: 6 :: 233 :: 6 :: 99 :: 97 :: 99 :: 104 :: 101 :: 100 :: 9 :: 42 :: 95 :: 102 :: 114 :: 111 :: 122 :: 101 :: 110 :: 95 :: 105 :: 109 :: 112 :: 111 :: 114 :: 116 :: 108 :: 105 :: 98 :: 46 :: 77 :: 111 :: 100 :: 117 :: 108 :: 101 :: 83 :: 112 :: 101 :: 99 :: 46 :: 99 :: 97 :: 99 :: 104 :: 101 :: 100 :: 35 :: 111 :: 112 :: 97 :: 113 :: 117 :: 101 :: 6 :: 234 :: 6 :: 112 :: 97 :: 114 :: 101 :: 110 :: 116 :: 9 :: 42 :: 95 :: 102 :: 114 :: 111 :: 122 :: 101 :: 110 :: 95 :: 105 :: 109 :: 112 :: 111 :: 114 :: 116 :: 108 :: 105 :: 98 :: 46 :: 77 :: 111 :: 100 :: 117 :: 108 :: 101 :: 83 :: 112 :: 101 :: 99 :: 46 :: 112 :: 97 :: 114 :: 101 :: 110 :: 116 :: 35 :: 111 :: 112 :: 97 :: 113 :: 117 :: 101 :: 6 :: 235 :: 12 :: 104 :: 97 :: 115 :: 95 :: 108 :: 111 :: 99 :: 97 :: 116 :: 105 :: 111 :: 110 :: 9 :: 48 :: 95 :: 102 :: 114 :: 111 :: 122 :: 101 :: 110 :: 95 :: 105 :: 109 :: 112 :: 111 :: 114 :: 116 :: 108 :: 105 :: 98 :: 46 :: 77 :: 111 :: 100 :: 117 :: 108 :: 101 :: 83 :: 112 :: 101 :: 99 :: 46 :: 104 :: 97 :: 115 :: 95 :: 108 :: 111 :: 99 :: 97 :: 116 :: 105 :: 111 :: 110 :: 35 :: 111 :: 112 :: 97 :: 113 :: 117 :: 101 :: 6 :: 236 :: 21 :: 95 :: 95 :: 115 :: 116 :: 97 :: 116 :: 105 :: 99 :: 95 :: 97 :: 116 :: 116 :: 114 :: 105 :: 98 :: 117 :: 116 :: 101 :: 115 :: 95 :: 95 :: 4 :: 0 :: 0 :: 23 :: 6 :: 238 :: 8 :: 95 :: 95 :: 100 :: 105 :: 99 :: 116 :: 95 :: 95 :: 4 :: 0 :: 0 :: 24 :: 6 :: 240 :: 11 :: 95 :: 95 :: 119 :: 101 :: 97 :: 107 :: 114 :: 101 :: 102 :: 95 :: 95 :: 4 :: 0 :: 0 :: 25 :: 6 :: 241 :: 8 :: 95 :: 95 :: 104 :: 97 :: 115 :: 104 :: 95 :: 95 :: 0 :: []))) 0, PySem.Value.bool Bool.true, PySem.Value.bool Bool.true, PySem.Value.str (PySem.Str.ofString "") 242] 1 }
noncomputable def uo19 : Params → Obj := fun P => { cls := PySem.Value.type "list", data := PySem.Data.seq #[] }
noncomputable def uo20 : Params → Obj := fun P => { cls := PySem.Value.type "dict", data := PySem.Data.dict #[{ hash := PySem.PyData.keyHash P (PySem.Str.ofString "name"), key := PySem.Value.str (PySem.Str.ofString "name") 208, val := PySem.Value.str (PySem.Str.ofString "_sre") 207 }, { hash := PySem.PyData.keyHash P (PySem.Str.ofString "loader"), key := PySem.Value.str (PySem.Str.ofString "loader") 209, val := PySem.Value.ref 14 }, { hash := PySem.PyData.keyHash P (PySem.Str.ofString "origin"), key := PySem.Value.str (PySem.Str.ofString "origin") 210, val := PySem.Value.str (PySem.Str.ofString "built-in") 184 }, { hash := PySem.PyData.keyHash P (PySem.Str.ofString "loader_state"), key := PySem.Value.str (PySem.Str.ofString "loader_state") 211, val := PySem.Value.none }, { hash := PySem.PyData.keyHash P (PySem.Str.ofString "submodule_search_locations"), key := PySem.Value.str (PySem.Str.ofString "submodule_search_locations") 212, val := PySem.Value.none }, { hash := PySem.PyData.keyHash P (PySem.Str.ofString "_uninitialized_submodules"), key := PySem.Value.str (PySem.Str.ofString "_uninitialized_submodules") 213, val := PySem.Value.ref 19 }, { hash := PySem.PyData.keyHash P (PySem.Str.ofString "_set_fileattr"), key := PySem.Value.str (PySem.Str.ofString "_set_fileattr") 214, val := PySem.Value.bool Bool.false }, { hash := PySem.PyData.keyHash P (PySem.Str.ofString "_cached"), key := PySem.Value.str (PySem.Str.ofString "_cached") 215, val := PySem.Value.none }, { hash := PySem.PyData.keyHash P (PySem.Str.ofString "_initializing"), key := PySem.Value.str (PySem.Str.ofString "_initializing") 243, val := PySem.Value.bool Bool.false }] 9 }
noncomputable def uo21 : Params → Obj := fun P => { cls := PySem.Value.type "dict", data := PySem.Data.dict #[{ hash := PySem.PyData.keyHash P (PySem.Str.ofString "__module__"), key := PySem.Value.str (PySem.Str.ofString "__module__") 227, val := PySem.Value.str (PySem.Str.ofString "_frozen_importlib") 217 }, { hash := PySem.PyData.keyHash P (PySem.Str.ofString "__firstlineno__"), key := PySem.Value.str (PySem.Str.ofString "__firstlineno__") 228, val := PySem.Value.int 562 218 }, { hash := PySem.PyData.keyHash P (PySem.Str.ofString "__doc__"), key := PySem.Value.str (PySem.Str.ofString "__doc__") 229, val := PySem.Value.builtin "_frozen_importlib.ModuleSpec.__doc__:str#\x6fpaque" }, { hash := PySem.PyData.keyHash P (PySem.Str.ofString "__init__"), key := PySem.Value.str (PySem.Str.ofString "__init__") 230, val := PySem.Value.builtin "_frozen_importlib.ModuleSpec.__init__#\x6fpaque" }, { hash := PySem.PyData.keyHash P (PySem.Str.ofString "__repr__"), key := PySem.Value.str (PySem.Str.ofString "__repr__") 231, val := PySem.Value.builtin "_frozen_importlib.ModuleSpec.__repr__#\x6fpaque" }, { hash := PySem.PyData.keyHash P (PySem.Str.ofString "__eq__"), key := PySem.Value.str (PySem.Str.ofString "__eq__") 232, val := PySem.Value.builtin "_frozen_importlib.ModuleSpec.__eq__#\x6fpaque" }, { hash := PySem.PyData.keyHash P (PySem.Str.ofString "cached"), key := PySem.Value.str (PySem.Str.ofString "cached") 233, val := PySem.Value.builtin "_frozen_importlib.ModuleSpec.cached#\x6fpaque" }, { hash := PySem.PyData.keyHash P (PySem.Str.ofString "parent"), key := PySem.Value.str (PySem.Str.ofString "parent") 234, val := PySem.Value.builtin "_frozen_importlib.ModuleSpec.parent#\x6fpaque" }, { hash := PySem.PyData.keyHash P (PySem.Str.ofString "has_location"), key := PySem.Value.str (PySem.Str.ofString "has_location") 235, val := PySem.Value.builtin "_frozen_importlib.ModuleSpec.has_location#\x6fpaque" }, { hash := PySem.PyData.keyHash P (PySem.Str.ofString "__static_attributes__"), key := PySem.Value.str (PySem.Str.ofString "__static_attributes__") 236, val := PySem.Value.ref 23 }, { hash := PySem.PyData.keyHash P (PySem.Str.ofString "__dict__"), key := PySem.Value.str (PySem.Str.ofString "__dict__") 238, val := PySem.Value.ref 24 }, { hash := PySem.PyData.keyHash P (PySem.Str.ofString "__weakref__"), key := PySem.Value.str (PySem.Str.ofString "__weakref__") 240, val := PySem.Value.ref 25 }, { hash := PySem.PyData.keyHash P (PySem.Str.ofString "__hash__"), key := PySem.Value.str (PySem.Str.ofString "__hash__") 241, val := PySem.Value.none }] 13 }
noncomputable def uo22 : Params → Obj := fun P => { cls := PySem.Value.type "type", data := PySem.Data.cls { name := PySem.Str.ofString "ModuleSpec", bases := [PySem.Value.type "object"], mro := [PySem.Value.ref 22, PySem.Value.type "object"], ns := 21, qualname := PySem.Str.ofString "ModuleSpec" } }
noncomputable def uo23 : Params → Obj := fun P => { cls := PySem.Value.type "tuple", data := PySem.Data.seq #[PySem.Value.str (PySem.Str.ofString "_cached") 219, PySem.Value.str (PySem.Str.ofString "_set_fileattr") 220, PySem.Value.str (PySem.Str.ofString "_uninitialized_submodules") 221, PySem.Value.str (PySem.Str.ofString "loader") 222, PySem.Value.str (PySem.Str.ofString "loader_state") 223, PySem.Value.str (PySem.Str.ofString "name") 224, PySem.Value.str (PySem.Str.ofString "origin") 225, PySem.Value.str (PySem.Str.ofString "submodule_search_locations") 226] }
noncomputable def uo24 : Params → Obj := fun P => { cls := PySem.Value.type "getset_descriptor", data := PySem.Data.fields #[PySem.Value.str (PySem.Str.ofString "__dict__") 237, PySem.Value.ref 22, PySem.Value.builtin "function.__dict__", PySem.Value.builtin "function.__dict__#set"] }
noncomputable def uo25 : Params → Obj := fun P => { cls := PySem.Value.type "getset_descriptor", data := PySem.Data.fields #[PySem.Value.str (PySem.Str.ofString "__weakref__") 239, PySem.Value.ref 22, PySem.Value.builtin "ExceptionGroup.__weakref__", PySem.Value.none] }
noncomputable def uo26 : Params → Obj := fun P => { cls := PySem.Value.ref 22, dict := Option.some 20 }
noncomputable def uo27 : Params → Obj := fun P => { cls := PySem.Value.none, data := PySem.Data.seq #[PySem.Value.int 11 0, PySem.Value.str { cps := #[6, 247, 8, 95, 95, 110, 97, 109, 101, 95, 95, 6, 246, 4, 95, 115, 114, 101, 6, 248, 7, 95, 95, 100, 111, 99, 95, 95, 0, 6, 250, 11, 95, 95, 112, 97, 99, 107, 97, 103, 101, 95, 95, 6, 249, 0, 6, 251, 10, 95, 95, 108, 111, 97, 100, 101, 114, 95, 95, 4, 0, 0, 14, 6, 252, 8, 95, 95, 115, 112, 101, 99, 95, 95, 4, 0, 0, 26, 6, 253, 7, 99, 111, 109, 112, 105, 108, 101, 9, 12, 95, 115, 114, 101, 46, 99, 111, 109, 112, 105, 108, 101, 6, 254, 8, 116, 101, 109, 112, 108, 97, 116, 101, 9, 13, 95, 115, 114, 101, 46, 116, 101, 109, 112, 108, 97, 116, 101, 6, 255, 11, 103, 101, 116, 99, 111, 100, 101, 115, 105, 122, 101, 9, 16, 95, 115, 114, 101, 46, 103, 101, 116, 99, 111, 100, 101, 115, 105, 122, 101, 6, 256, 13, 97, 115, 99, 105, 105, 95, 105, 115, 99, 97, 115, 101, 100, 9, 18, 95, 115, 114, 101, 46, 97, 115, 99, 105, 105, 95, 105, 115, 99, 97, 115, 101, 100, 6, 257, 15, 117, 110, 105, 99, 111, 100, 101, 95, 105, 115, 99, 97, 115, 101, 100, 9, 20, 95, 115, 114, 101, 46, 117, 110, 105, 99, 111, 100, 101, 95, 105, 115, 99, 97, 115, 101, 100, 6, 258, 13, 97, 115, 99, 105, 105, 95, 116, 111, 108, 111, 119, 101, 114, 9, 18, 95, 115, 114, 101, 46, 97, 115, 99, 105, 105, 95, 116, 111, 108, 111, 119, 101, 114, 6, 259, 15, 117, 110, 105, 99, 111, 100, 101, 95, 116, 111, 108, 111, 119, 101, 114, 9, 20, 95, 115, 114, 101, 46, 117, 110, 105, 99, 111, 100, 101, 95, 116, 111, 108, 111, 119, 101, 114, 6, 261, 5, 77, 65, 71, 73, 67, 4, 260, 0, 20230612, 6, 263, 8, 67, 79, 68, 69, 83, 73, 90, 69, 4, 262, 0, 4, 6, 265, 9, 77, 65, 88, 82, 69, 80, 69, 65, 84, 4, 264, 0, 4294967295, 6, 267, 9, 77, 65, 88, 71, 82, 79, 85, 80, 83, 4, 266, 0, 1073741823, 6, 269, 9, 99, 111, 112, 121, 114, 105, 103, 104, 116, 6, 268, 53, 32, 83, 82, 69, 32, 50, 46, 50, 46, 50, 32, 67, 111, 112, 121, 114, 105, 103, 104, 116, 32, 40, 99, 41, 32, 49, 57, 57, 55, 45, 50, 48, 48, 50, 32, 98, 121, 32, 83, 101, 99, 114, 101, 116, 32, 76, 97, 98, 115, 32, 65, 66, 32] } 0, PySem.Value.bool Bool.true, PySem.Value.bool Bool.false, PySem.Value.str (PySem.Str.ofString "_sre") 271] }
noncomputable def hs_z : Params → Heap := fun P => Heap.mk (Array.mk (uo0 P :: uo1 P :: uo2 P :: uo3 P :: uo4 P :: uo5 P :: uo6 P :: uo7 P :: uo8 P :: uo9 P :: uo10 P :: uo11 P :: uo12 P :: uo13 P :: uo14 P :: uo15 P :: uo16 P :: uo17 P :: uo18 P :: uo19 P :: uo20 P :: uo21 P :: uo22 P :: uo23 P :: uo24 P :: uo25 P :: uo26 P :: uo27 P :: [])) ({ })
noncomputable def st_z (w : World) (os : OsState) : Shared := ⟨hs_z w.params, Array.mk [], ({ } : Drawn), nat_lit 276, os⟩
noncomputable def uo28 : Params → Obj := fun P => { cls := PySem.Value.type "tuple", data := PySem.Data.seq #[] }
noncomputable def uo29 : Params → Obj := fun P => { cls := PySem.Value.none, data := PySem.Data.fields #[] }
noncomputable def uo30 : Params → Obj := fun P => { cls := PySem.Value.type "code", data := PySem.Data.fields #[PySem.Value.str (PySem.Str.ofString "<module>") 277, PySem.Value.str (PySem.Str.ofString "<module>") 278, PySem.Value.str (PySem.Str.ofString "/claim/cut.py") 279, PySem.Value.int 1 0, PySem.Value.int 0 0, PySem.Value.int 0 0, PySem.Value.int 0 0, PySem.Value.int 0 0, PySem.Value.ref 28, PySem.Value.bool Bool.false, PySem.Value.int 276 0, PySem.Value.ref 29, PySem.Value.none, PySem.Value.none, PySem.Value.none, PySem.Value.none, PySem.Value.int 280 0, PySem.Value.int 1 0, PySem.Value.str (PySem.Str.ofString "/claim/cut.py") 281] }
noncomputable def uo31 : Params → Obj := fun P => { cls := PySem.Value.type "frame", slots := #[Option.some (PySem.Value.ref 30), Option.some (PySem.Value.ref 3), Option.some (PySem.Value.ref 3), Option.none, Option.some (PySem.Value.str (PySem.Str.ofString "__main__") 164), Option.none, Option.some (PySem.Value.ref 0)] }
noncomputable def hs_a : Params → Heap := fun P => Heap.mk (Array.mk (uo0 P :: uo1 P :: uo2 P :: uo3 P :: uo4 P :: uo5 P :: uo6 P :: uo7 P :: uo8 P :: uo9 P :: uo10 P :: uo11 P :: uo12 P :: uo13 P :: uo14 P :: uo15 P :: uo16 P :: uo17 P :: uo18 P :: uo19 P :: uo20 P :: uo21 P :: uo22 P :: uo23 P :: uo24 P :: uo25 P :: uo26 P :: uo27 P :: uo28 P :: uo29 P :: uo30 P :: uo31 P :: [])) ({ })
noncomputable def st_a (w : World) (os : OsState) : Shared := ⟨hs_a w.params, Array.mk [], ({ } : Drawn), nat_lit 282, os⟩
noncomputable def hs_b : Params → Heap := fun P => Heap.mk (Array.mk (uo0 P :: uo1 P :: uo2 P :: uo3 P :: uo4 P :: uo5 P :: uo6 P :: uo7 P :: uo8 P :: uo9 P :: uo10 P :: uo11 P :: uo12 P :: uo13 P :: uo14 P :: uo15 P :: uo16 P :: uo17 P :: uo18 P :: uo19 P :: uo20 P :: uo21 P :: uo22 P :: uo23 P :: uo24 P :: uo25 P :: uo26 P :: uo27 P :: uo28 P :: uo29 P :: uo30 P :: uo31 P :: [])) ({ })
noncomputable def st_b (w : World) (os : OsState) : Shared := ⟨hs_b w.params, Array.mk [], ({ } : Drawn), nat_lit 282, os⟩
noncomputable def uo32 : Params → Obj := fun P => { cls := PySem.Value.type "dict", data := PySem.Data.dict #[{ hash := PySem.PyData.keyHash P (PySem.Str.ofString "__name__"), key := PySem.Value.str (PySem.Str.ofString "__name__") 165, val := PySem.Value.str (PySem.Str.ofString "re") 384 }, { hash := PySem.PyData.keyHash P (PySem.Str.ofString "__doc__"), key := PySem.Value.str (PySem.Str.ofString "__doc__") 166, val := PySem.Value.none }, { hash := PySem.PyData.keyHash P (PySem.Str.ofString "__package__"), key := PySem.Value.str (PySem.Str.ofString "__package__") 167, val := PySem.Value.none }, { hash := PySem.PyData.keyHash P (PySem.Str.ofString "__loader__"), key := PySem.Value.str (PySem.Str.ofString "__loader__") 168, val := PySem.Value.builtin "__main__.__loader__#\x6fpaque" }, { hash := PySem.PyData.keyHash P (PySem.Str.ofString "__spec__"), key := PySem.Value.str (PySem.Str.ofString "__spec__") 169, val := PySem.Value.none }, { hash := PySem.PyData.keyHash P (PySem.Str.ofString "__annotations__"), key := PySem.Value.str (PySem.Str.ofString "__annotations__") 170, val := PySem.Value.ref 6 }, { hash := PySem.PyData.keyHash P (PySem.Str.ofString "__builtins__"), key := PySem.Value.str (PySem.Str.ofString "__builtins__") 171, val := PySem.Value.ref 4 }, { hash := PySem.PyData.keyHash P (PySem.Str.ofString "__file__"), key := PySem.Value.str (PySem.Str.ofString "__file__") 173, val := PySem.Value.str (PySem.Str.ofString "/claim/cut.py") 172 }, { hash := PySem.PyData.keyHash P (PySem.Str.ofString "__cached__"), key := PySem.Value.str (PySem.Str.ofString "__cached__") 174, val := PySem.Value.none }, { hash := PySem.PyData.keyHash P (PySem.Str.ofString "_sre"), key := PySem.Value.str (PySem.Str.ofString "_sre") 275, val := PySem.Value.ref 12 }, { hash := PySem.PyData.keyHash P (PySem.Str.ofString "IPV4_RE"), key := PySem.Value.str (PySem.Str.ofString "IPV4_RE") 313, val := PySem.Value.ref 36 }, { hash := PySem.PyData.keyHash P (PySem.Str.ofString "is_HDN"), key := PySem.Value.str (PySem.Str.ofString "is_HDN") 320, val := PySem.Value.ref 43 }, { hash := PySem.PyData.keyHash P (PySem.Str.ofString "liberal_is_HDN"), key := PySem.Value.str (PySem.Str.ofString "liberal_is_HDN") 327, val := PySem.Value.ref 50 }, { hash := PySem.PyData.keyHash P (PySem.Str.ofString "user_domain_match"), key := PySem.Value.str (PySem.Str.ofString "user_domain_match") 336, val := PySem.Value.ref 57 }, { hash := PySem.PyData.keyHash P (PySem.Str.ofString "reach"), key := PySem.Value.str (PySem.Str.ofString "reach") 345, val := PySem.Value.ref 64 }, { hash := PySem.PyData.keyHash P (PySem.Str.ofString "_twin_re_1"), key := PySem.Value.str (PySem.Str.ofString "_twin_re_1") 383, val := PySem.Value.ref 69 }] 16 }
noncomputable def uo33 : Params → Obj := fun P => { cls := PySem.Value.none, data := PySem.Data.fields #[PySem.Value.int 4 0, PySem.Value.int 0 0, PySem.Value.ref 42, PySem.Value.int 12 0, PySem.Value.int 0 0, PySem.Value.ref 49, PySem.Value.int 16 0, PySem.Value.int 0 0, PySem.Value.ref 56, PySem.Value.int 29 0, PySem.Value.int 0 0, PySem.Value.ref 63] }
noncomputable def uo34 : Params → Obj := fun P => { cls := PySem.Value.type "list", data := PySem.Data.seq #[PySem.Value.int 14 287, PySem.Value.int 8 288, PySem.Value.int 1 289, PySem.Value.int 2 290, PySem.Value.int 4294967295 291, PySem.Value.int 1 292, PySem.Value.int 1 293, PySem.Value.int 46 294, PySem.Value.int 0 295, PySem.Value.int 16 296, PySem.Value.int 46 297, PySem.Value.int 24 298, PySem.Value.int 9 299, PySem.Value.int 1 300, PySem.Value.int 4294967295 301, PySem.Value.int 13 302, PySem.Value.int 4 303, PySem.Value.int 8 304, PySem.Value.int 0 305, PySem.Value.int 0 306, PySem.Value.int 1 307, PySem.Value.int 6 308, PySem.Value.int 5 309, PySem.Value.int 1 310] }
noncomputable def uo35 : Params → Obj := fun P => { cls := PySem.Value.type "dict", data := PySem.Data.dict #[] }
noncomputable def uo36 : Params → Obj := fun P => { cls := PySem.Value.type "tuple", data := PySem.Data.seq #[PySem.Value.none] }
noncomputable def uo37 : Params → Obj := fun P => { cls := PySem.Value.type "tuple", data := PySem.Data.seq #[PySem.Value.int 14 0, PySem.Value.int 8 0, PySem.Value.int 1 0, PySem.Value.int 2 0, PySem.Value.int 4294967295 0, PySem.Value.int 1 0, PySem.Value.int 1 0, PySem.Value.int 46 0, PySem.Value.int 0 0, PySem.Value.int 16 0, PySem.Value.int 46 0, PySem.Value.int 24 0, PySem.Value.int 9 0, PySem.Value.int 1 0, PySem.Value.int 4294967295 0, PySem.Value.int 13 0, PySem.Value.int 4 0, PySem.Value.int 8 0, PySem.Value.int 0 0, PySem.Value.int 0 0, PySem.Value.int 1 0, PySem.Value.int 6 0, PySem.Value.int 5 0, PySem.Value.int 1 0] }
noncomputable def uo38 : Params → Obj := fun P => { cls := PySem.Value.type "re.Pattern", data := PySem.Data.fields #[PySem.Value.str (PySem.Str.ofString "\\.\\d+$") 285, PySem.Value.int 256 312, PySem.Value.int 0 0, PySem.Value.none, PySem.Value.none, PySem.Value.ref 35, PySem.Value.int 0 0] }
noncomputable def uo39 : Params → Obj := fun P => { cls := PySem.Value.type "tuple", data := PySem.Data.seq #[] }
noncomputable def uo40 : Params → Obj := fun P => { cls := PySem.Value.none, data := PySem.Data.fields #[] }
noncomputable def uo41 : Params → Obj := fun P => { cls := PySem.Value.type "tuple", data := PySem.Data.seq #[PySem.Value.str (PySem.Str.ofString "text") 317] }
noncomputable def uo42 : Params → Obj := fun P => { cls := PySem.Value.type "tuple", data := PySem.Data.seq #[] }
noncomputable def uo43 : Params → Obj := fun P => { cls := PySem.Value.none, data := PySem.Data.func { name := PySem.Str.ofString "is_HDN", qualname := PySem.Str.ofString "is_HDN", params := fnP 3, body := PySem.FuncBody.stmts (fnB 3), scope := fnS 3, globals := 0, closure := [], defaults := PySem.Value.none, kwdefaults := PySem.Value.none } }
noncomputable def uo44 : Params → Obj := fun P => { cls := PySem.Value.type "code", data := PySem.Data.fields #[PySem.Value.str (PySem.Str.ofString "is_HDN") 314, PySem.Value.str (PySem.Str.ofString "is_HDN") 315, PySem.Value.str (PySem.Str.ofString "/claim/cut.py") 316, PySem.Value.int 4 0, PySem.Value.int 1 0, PySem.Value.int 0 0, PySem.Value.int 0 0, PySem.Value.int 3 0, PySem.Value.ref 37, PySem.Value.bool Bool.true, PySem.Value.int 276 0, PySem.Value.ref 38, PySem.Value.none, PySem.Value.ref 39, PySem.Value.ref 40, PySem.Value.ref 41, PySem.Value.int 318 0, PySem.Value.int 4 0, PySem.Value.str (PySem.Str.ofString "/claim/cut.py") 319] }
noncomputable def uo45 : Params → Obj := fun P => { cls := PySem.Value.type "function", data := PySem.Data.func { name := PySem.Str.ofString "is_HDN", qualname := PySem.Str.ofString "is_HDN", params := fnP 3, body := PySem.FuncBody.stmts (fnB 3), scope := fnS 3, globals := 3, closure := [], defaults := PySem.Value.none, kwdefaults := PySem.Value.none, pyModule := PySem.Value.str (PySem.Str.ofString "cpy313.http.cookiejar") 282, code := PySem.Value.ref 42 } }
noncomputable def uo46 : Params → Obj := fun P => { cls := PySem.Value.type "tuple", data := PySem.Data.seq #[] }
noncomputable def uo47 : Params → Obj := fun P => { cls := PySem.Value.none, data := PySem.Data.fields #[] }
noncomputable def uo48 : Params → Obj := fun P => { cls := PySem.Value.type "tuple", data := PySem.Data.seq #[PySem.Value.str (PySem.Str.ofString "text") 324] }
noncomputable def uo49 : Params → Obj := fun P => { cls := PySem.Value.type "tuple", data := PySem.Data.seq #[] }
noncomputable def uo50 : Params → Obj := fun P => { cls := PySem.Value.none, data := PySem.Data.func { name := PySem.Str.ofString "liberal_is_HDN", qualname := PySem.Str.ofString "liberal_is_HDN", params := fnP 4, body := PySem.FuncBody.stmts (fnB 4), scope := fnS 3, globals := 0, closure := [], defaults := PySem.Value.none, kwdefaults := PySem.Value.none } }
noncomputable def uo51 : Params → Obj := fun P => { cls := PySem.Value.type "code", data := PySem.Data.fields #[PySem.Value.str (PySem.Str.ofString "liberal_is_HDN") 321, PySem.Value.str (PySem.Str.ofString "liberal_is_HDN") 322, PySem.Value.str (PySem.Str.ofString "/claim/cut.py") 323, PySem.Value.int 12 0, PySem.Value.int 1 0, PySem.Value.int 0 0, PySem.Value.int 0 0, PySem.Value.int 3 0, PySem.Value.ref 44, PySem.Value.bool Bool.true, PySem.Value.int 276 0, PySem.Value.ref 45, PySem.Value.none, PySem.Value.ref 46, PySem.Value.ref 47, PySem.Value.ref 48, PySem.Value.int 325 0, PySem.Value.int 12 0, PySem.Value.str (PySem.Str.ofString "/claim/cut.py") 326] }
noncomputable def uo52 : Params → Obj := fun P => { cls := PySem.Value.type "function", data := PySem.Data.func { name := PySem.Str.ofString "liberal_is_HDN", qualname := PySem.Str.ofString "liberal_is_HDN", params := fnP 4, body := PySem.FuncBody.stmts (fnB 4), scope := fnS 3, globals := 3, closure := [], defaults := PySem.Value.none, kwdefaults := PySem.Value.none, pyModule := PySem.Value.str (PySem.Str.ofString "cpy313.http.cookiejar") 282, code := PySem.Value.ref 49 } }
noncomputable def uo53 : Params → Obj := fun P => { cls := PySem.Value.type "tuple", data := PySem.Data.seq #[] }
noncomputable def uo54 : Params → Obj := fun P => { cls := PySem.Value.none, data := PySem.Data.fields #[] }
noncomputable def uo55 : Params → Obj := fun P => { cls := PySem.Value.type "tuple", data := PySem.Data.seq #[PySem.Value.str (PySem.Str.ofString "A") 331, PySem.Value.str (PySem.Str.ofString "B") 332, PySem.Value.str (PySem.Str.ofString "initial_dot") 333] }
noncomputable def uo56 : Params → Obj := fun P => { cls := PySem.Value.type "tuple", data := PySem.Data.seq #[] }
noncomputable def uo57 : Params → Obj := fun P => { cls := PySem.Value.none, data := PySem.Data.func { name := PySem.Str.ofString "user_domain_match", qualname := PySem.Str.ofString "user_domain_match", params := fnP 5, body := PySem.FuncBody.stmts (fnB 5), scope := fnS 5, globals := 0, closure := [], defaults := PySem.Value.none, kwdefaults := PySem.Value.none } }
noncomputable def uo58 : Params → Obj := fun P => { cls := PySem.Value.type "code", data := PySem.Data.fields #[PySem.Value.str (PySem.Str.ofString "user_domain_match") 328, PySem.Value.str (PySem.Str.ofString "user_domain_match") 329, PySem.Value.str (PySem.Str.ofString "/claim/cut.py") 330, PySem.Value.int 16 0, PySem.Value.int 2 0, PySem.Value.int 0 0, PySem.Value.int 0 0, PySem.Value.int 3 0, PySem.Value.ref 51, PySem.Value.bool Bool.true, PySem.Value.int 276 0, PySem.Value.ref 52, PySem.Value.none, PySem.Value.ref 53, PySem.Value.ref 54, PySem.Value.ref 55, PySem.Value.int 334 0, PySem.Value.int 16 0, PySem.Value.str (PySem.Str.ofString "/claim/cut.py") 335] }
noncomputable def uo59 : Params → Obj := fun P => { cls := PySem.Value.type "function", data := PySem.Data.func { name := PySem.Str.ofString "user_domain_match", qualname := PySem.Str.ofString "user_domain_match", params := fnP 5, body := PySem.FuncBody.stmts (fnB 5), scope := fnS 5, globals := 3, closure := [], defaults := PySem.Value.none, kwdefaults := PySem.Value.none, pyModule := PySem.Value.str (PySem.Str.ofString "cpy313.http.cookiejar") 282, code := PySem.Value.ref 56 } }
noncomputable def uo60 : Params → Obj := fun P => { cls := PySem.Value.type "tuple", data := PySem.Data.seq #[] }
noncomputable def uo61 : Params → Obj := fun P => { cls := PySem.Value.none, data := PySem.Data.fields #[] }
noncomputable def uo62 : Params → Obj := fun P => { cls := PySem.Value.type "tuple", data := PySem.Data.seq #[PySem.Value.str (PySem.Str.ofString "h") 340, PySem.Value.str (PySem.Str.ofString "i") 341, PySem.Value.str (PySem.Str.ofString "b") 342] }
noncomputable def uo63 : Params → Obj := fun P => { cls := PySem.Value.type "tuple", data := PySem.Data.seq #[] }
noncomputable def uo64 : Params → Obj := fun P => { cls := PySem.Value.none, data := PySem.Data.func { name := PySem.Str.ofString "reach", qualname := PySem.Str.ofString "reach", params := fnP 6, body := PySem.FuncBody.stmts (fnB 6), scope := fnS 6, globals := 0, closure := [], defaults := PySem.Value.none, kwdefaults := PySem.Value.none } }
noncomputable def uo65 : Params → Obj := fun P => { cls := PySem.Value.type "code", data := PySem.Data.fields #[PySem.Value.str (PySem.Str.ofString "reach") 337, PySem.Value.str (PySem.Str.ofString "reach") 338, PySem.Value.str (PySem.Str.ofString "/claim/cut.py") 339, PySem.Value.int 29 0, PySem.Value.int 1 0, PySem.Value.int 0 0, PySem.Value.int 0 0, PySem.Value.int 3 0, PySem.Value.ref 58, PySem.Value.bool Bool.true, PySem.Value.int 276 0, PySem.Value.ref 59, PySem.Value.none, PySem.Value.ref 60, PySem.Value.ref 61, PySem.Value.ref 62, PySem.Value.int 343 0, PySem.Value.int 29 0, PySem.Value.str (PySem.Str.ofString "/claim/cut.py") 344] }
noncomputable def uo66 : Params → Obj := fun P => { cls := PySem.Value.type "function", data := PySem.Data.func { name := PySem.Str.ofString "reach", qualname := PySem.Str.ofString "reach", params := fnP 6, body := PySem.FuncBody.stmts (fnB 6), scope := fnS 6, globals := 3, closure := [], defaults := PySem.Value.none, kwdefaults := PySem.Value.none, pyModule := PySem.Value.str (PySem.Str.ofString "cpy313.http.cookiejar") 282, code := PySem.Value.ref 63 } }
noncomputable def uo67 : Params → Obj := fun P => { cls := PySem.Value.type "list", data := PySem.Data.seq #[PySem.Value.int 14 349, PySem.Value.int 14 350, PySem.Value.int 4 351, PySem.Value.int 1 352, PySem.Value.int 1 353, PySem.Value.int 9 354, PySem.Value.int 0 355, PySem.Value.int 64 356, PySem.Value.int 0 357, PySem.Value.int 1342177280 358, PySem.Value.int 0 359, PySem.Value.int 0 360, PySem.Value.int 0 361, PySem.Value.int 0 362, PySem.Value.int 0 363, PySem.Value.int 17 364, PySem.Value.int 0 365, PySem.Value.int 13 366, PySem.Value.int 11 367, PySem.Value.int 9 368, PySem.Value.int 0 369, PySem.Value.int 64 370, PySem.Value.int 0 371, PySem.Value.int 1342177280 372, PySem.Value.int 0 373, PySem.Value.int 0 374, PySem.Value.int 0 375, PySem.Value.int 0 376, PySem.Value.int 0 377, PySem.Value.int 17 378, PySem.Value.int 1 379, PySem.Value.int 1 380] }
noncomputable def uo68 : Params → Obj := fun P => { cls := PySem.Value.type "dict", data := PySem.Data.dict #[] }
noncomputable def uo69 : Params → Obj := fun P => { cls := PySem.Value.type "tuple", data := PySem.Data.seq #[PySem.Value.none, PySem.Value.none] }
noncomputable def uo70 : Params → Obj := fun P => { cls := PySem.Value.type "tuple", data := PySem.Data.seq #[PySem.Value.int 14 0, PySem.Value.int 14 0, PySem.Value.int 4 0, PySem.Value.int 1 0, PySem.Value.int 1 0, PySem.Value.int 9 0, PySem.Value.int 0 0, PySem.Value.int 64 0, PySem.Value.int 0 0, PySem.Value.int 1342177280 0, PySem.Value.int 0 0, PySem.Value.int 0 0, PySem.Value.int 0 0, PySem.Value.int 0 0, PySem.Value.int 0 0, PySem.Value.int 17 0, PySem.Value.int 0 0, PySem.Value.int 13 0, PySem.Value.int 11 0, PySem.Value.int 9 0, PySem.Value.int 0 0, PySem.Value.int 64 0, PySem.Value.int 0 0, PySem.Value.int 1342177280 0, PySem.Value.int 0 0, PySem.Value.int 0 0, PySem.Value.int 0 0, PySem.Value.int 0 0, PySem.Value.int 0 0, PySem.Value.int 17 0, PySem.Value.int 1 0, PySem.Value.int 1 0] }
noncomputable def uo71 : Params → Obj := fun P => { cls := PySem.Value.type "re.Pattern", data := PySem.Data.fields #[PySem.Value.str (PySem.Str.ofString "([&~|])") 347, PySem.Value.int 32 382, PySem.Value.int 1 0, PySem.Value.none, PySem.Value.none, PySem.Value.ref 68, PySem.Value.int 0 0] }
noncomputable def hs_c : Params → Heap := fun P => Heap.mk (Array.mk (uo0 P :: uo1 P :: uo2 P :: uo32 P :: uo4 P :: uo5 P :: uo6 P :: uo7 P :: uo8 P :: uo9 P :: uo10 P :: uo11 P :: uo12 P :: uo13 P :: uo14 P :: uo15 P :: uo16 P :: uo17 P :: uo18 P :: uo19 P :: uo20 P :: uo21 P :: uo22 P :: uo23 P :: uo24 P :: uo25 P :: uo26 P :: uo27 P :: uo28 P :: uo33 P :: uo30 P :: uo31 P :: uo34 P :: uo35 P :: uo36 P :: uo37 P :: uo38 P :: uo39 P :: uo40 P :: uo41 P :: uo42 P :: uo43 P :: uo44 P :: uo45 P :: uo46 P :: uo47 P :: uo48 P :: uo49 P :: uo50 P :: uo51 P :: uo52 P :: uo53 P :: uo54 P :: uo55 P :: uo56 P :: uo57 P :: uo58 P :: uo59 P :: uo60 P :: uo61 P :: uo62 P :: uo63 P :: uo64 P :: uo65 P :: uo66 P :: uo67 P :: uo68 P :: uo69 P :: uo70 P :: uo71 P :: [])) ({ })
noncomputable def st_c (w : World) (os : OsState) : Shared := ⟨hs_c w.params, Array.mk [], ({ } : Drawn), nat_lit 386, os⟩
noncomputable def uo72 : Params → Obj := fun P => { cls := PySem.Value.type "dict", data := PySem.Data.dict #[{ hash := PySem.PyData.keyHash P (PySem.Str.ofString "__name__"), key := PySem.Value.str (PySem.Str.ofString "__name__") 165, val := PySem.Value.str (PySem.Str.ofString "re") 384 }, { hash := PySem.PyData.keyHash P (PySem.Str.ofString "__doc__"), key := PySem.Value.str (PySem.Str.ofString "__doc__") 166, val := PySem.Value.none }, { hash := PySem.PyData.keyHash P (PySem.Str.ofString "__package__"), key := PySem.Value.str (PySem.Str.ofString "__package__") 167, val := PySem.Value.none }, { hash := PySem.PyData.keyHash P (PySem.Str.ofString "__loader__"), key := PySem.Value.str (PySem.Str.ofString "__loader__") 168, val := PySem.Value.builtin "__main__.__loader__#\x6fpaque" }, { hash := PySem.PyData.keyHash P (PySem.Str.ofString "__spec__"), key := PySem.Value.str (PySem.Str.ofString "__spec__") 169, val := PySem.Value.none }, { hash := PySem.PyData.keyHash P (PySem.Str.ofString "__annotations__"), key := PySem.Value.str (PySem.Str.ofString "__annotations__") 170, val := PySem.Value.ref 6 }, { hash := PySem.PyData.keyHash P (PySem.Str.ofString "__builtins__"), key := PySem.Value.str (PySem.Str.ofString "__builtins__") 171, val := PySem.Value.ref 4 }, { hash := PySem.PyData.keyHash P (PySem.Str.ofString "__file__"), key := PySem.Value.str (PySem.Str.ofString "__file__") 173, val := PySem.Value.str (PySem.Str.ofString "/claim/cut.py") 172 }, { hash := PySem.PyData.keyHash P (PySem.Str.ofString "__cached__"), key := PySem.Value.str (PySem.Str.ofString "__cached__") 174, val := PySem.Value.none }, { hash := PySem.PyData.keyHash P (PySem.Str.ofString "_sre"), key := PySem.Value.str (PySem.Str.ofString "_sre") 275, val := PySem.Value.ref 12 }, { hash := PySem.PyData.keyHash P (PySem.Str.ofString "IPV4_RE"), key := PySem.Value.str (PySem.Str.ofString "IPV4_RE") 313, val := PySem.Value.ref 36 }, { hash := PySem.PyData.keyHash P (PySem.Str.ofString "is_HDN"), key := PySem.Value.str (PySem.Str.ofString "is_HDN") 320, val := PySem.Value.ref 43 }, { hash := PySem.PyData.keyHash P (PySem.Str.ofString "liberal_is_HDN"), key := PySem.Value.str (PySem.Str.ofString "liberal_is_HDN") 327, val := PySem.Value.ref 50 }, { hash := PySem.PyData.keyHash P (PySem.Str.ofString "user_domain_match"), key := PySem.Value.str (PySem.Str.ofString "user_domain_match") 336, val := PySem.Value.ref 57 }, { hash := PySem.PyData.keyHash P (PySem.Str.ofString "reach"), key := PySem.Value.str (PySem.Str.ofString "reach") 345, val := PySem.Value.ref 64 }, { hash := PySem.PyData.keyHash P (PySem.Str.ofString "_twin_re_1"), key := PySem.Value.str (PySem.Str.ofString "_twin_re_1") 383, val := PySem.Value.ref 69 }, { hash := PySem.PyData.keyHash P (PySem.Str.ofString "_special_chars_map"), key := PySem.Value.str (PySem.Str.ofString "_special_chars_map") 531, val := PySem.Value.ref 71 }] 17 }
noncomputable def uo73 : Params → Obj := fun P => { cls := PySem.Value.type "bytes_iterator", data := PySem.Data.fields #[PySem.Value.none, PySem.Value.int 24 0] }
noncomputable def uo74 : Params → Obj := fun P => { cls := PySem.Value.type "dict", data := PySem.Data.dict #[{ hash := 40, key := PySem.Value.int 40 387, val := PySem.Value.str (PySem.Str.ofString "\\(") 391 }, { hash := 41, key := PySem.Value.int 41 393, val := PySem.Value.str (PySem.Str.ofString "\\)") 397 }, { hash := 91, key := PySem.Value.int 91 399, val := PySem.Value.str (PySem.Str.ofString "\\[") 403 }, { hash := 93, key := PySem.Value.int 93 405, val := PySem.Value.str (PySem.Str.ofString "\\]") 409 }, { hash := 123, key := PySem.Value.int 123 411, val := PySem.Value.str (PySem.Str.ofString "\\{") 415 }, { hash := 125, key := PySem.Value.int 125 417, val := PySem.Value.str (PySem.Str.ofString "\\}") 421 }, { hash := 63, key := PySem.Value.int 63 423, val := PySem.Value.str (PySem.Str.ofString "\\?") 427 }, { hash := 42, key := PySem.Value.int 42 429, val := PySem.Value.str (PySem.Str.ofString "\\*") 433 }, { hash := 43, key := PySem.Value.int 43 435, val := PySem.Value.str (PySem.Str.ofString "\\+") 439 }, { hash := 45, key := PySem.Value.int 45 441, val := PySem.Value.str (PySem.Str.ofString "\\-") 445 }, { hash := 124, key := PySem.Value.int 124 447, val := PySem.Value.str (PySem.Str.ofString "\\|") 451 }, { hash := 94, key := PySem.Value.int 94 453, val := PySem.Value.str (PySem.Str.ofString "\\^") 457 }, { hash := 36, key := PySem.Value.int 36 459, val := PySem.Value.str (PySem.Str.ofString "\\$") 463 }, { hash := 92, key := PySem.Value.int 92 465, val := PySem.Value.str (PySem.Str.ofString "\\\\") 469 }, { hash := 46, key := PySem.Value.int 46 471, val := PySem.Value.str (PySem.Str.ofString "\\.") 475 }, { hash := 38, key := PySem.Value.int 38 477, val := PySem.Value.str (PySem.Str.ofString "\\&") 481 }, { hash := 126, key := PySem.Value.int 126 483, val := PySem.Value.str (PySem.Str.ofString "\\~") 487 }, { hash := 35, key := PySem.Value.int 35 489, val := PySem.Value.str (PySem.Str.ofString "\\#") 493 }, { hash := 32, key := PySem.Value.int 32 495, val := PySem.Value.str (PySem.Str.ofString "\\ ") 499 }, { hash := 9, key := PySem.Value.int 9 501, val := PySem.Value.str (PySem.Str.ofString "\\\t") 505 }, { hash := 10, key := PySem.Value.int 10 507, val := PySem.Value.str (PySem.Str.ofString "\\\n") 511 }, { hash := 13, key := PySem.Value.int 13 513, val := PySem.Value.str (PySem.Str.ofString "\\\x0d") 517 }, { hash := 11, key := PySem.Value.int 11 519, val := PySem.Value.str (PySem.Str.ofString "\\\x0b") 523 }, { hash := 12, key := PySem.Value.int 12 525, val := PySem.Value.str (PySem.Str.ofString "\\\x0c") 529 }] 24 }
noncomputable def uo75 : Params → Obj := fun P => { cls := PySem.Value.type "dict", data := PySem.Data.dict #[] 2 }
noncomputable def uo76 : Params → Obj := fun P => { cls := PySem.Value.type "tuple", data := PySem.Data.seq #[] }
noncomputable def uo77 : Params → Obj := fun P => { cls := PySem.Value.type "StopIteration", data := PySem.Data.fields #[PySem.Value.ref 73, PySem.Value.none, PySem.Value.none, PySem.Value.none, PySem.Value.bool Bool.false, PySem.Value.none] }
noncomputable def hs_d : Params → Heap := fun P => Heap.mk (Array.mk (uo0 P :: uo1 P :: uo2 P :: uo72 P :: uo4 P :: uo5 P :: uo6 P :: uo7 P :: uo8 P :: uo9 P :: uo10 P :: uo11 P :: uo12 P :: uo13 P :: uo14 P :: uo15 P :: uo16 P :: uo17 P :: uo18 P :: uo19 P :: uo20 P :: uo21 P :: uo22 P :: uo23 P :: uo24 P :: uo25 P :: uo26 P :: uo27 P :: uo28 P :: uo33 P :: uo30 P :: uo31 P :: uo34 P :: uo35 P :: uo36 P :: uo37 P :: uo38 P :: uo39 P :: uo40 P :: uo41 P :: uo42 P :: uo43 P :: uo44 P :: uo45 P :: uo46 P :: uo47 P :: uo48 P :: uo49 P :: uo50 P :: uo51 P :: uo52 P :: uo53 P :: uo54 P :: uo55 P :: uo56 P :: uo57 P :: uo58 P :: uo59 P :: uo60 P :: uo61 P :: uo62 P :: uo63 P :: uo64 P :: uo65 P :: uo66 P :: uo67 P :: uo68 P :: uo69 P :: uo70 P :: uo71 P :: uo73 P :: uo74 P :: uo75 P :: uo76 P :: uo77 P :: [])) ({ })
noncomputable def st_d (w : World) (os : OsState) : Shared := ⟨hs_d w.params, Array.mk [], ({ } : Drawn), nat_lit 532, os⟩
noncomputable def uo78 : Params → Obj := fun P => { cls := PySem.Value.type "dict", data := PySem.Data.dict #[{ hash := PySem.PyData.keyHash P (PySem.Str.ofString "__name__"), key := PySem.Value.str (PySem.Str.ofString "__name__") 165, val := PySem.Value.str (PySem.Str.ofString "law_rx0038_01") 560 }, { hash := PySem.PyData.keyHash P (PySem.Str.ofString "__doc__"), key := PySem.Value.str (PySem.Str.ofString "__doc__") 166, val := PySem.Value.none }, { hash := PySem.PyData.keyHash P (PySem.Str.ofString "__package__"), key := PySem.Value.str (PySem.Str.ofString "__package__") 167, val := PySem.Value.none }, { hash := PySem.PyData.keyHash P (PySem.Str.ofString "__loader__"), key := PySem.Value.str (PySem.Str.ofString "__loader__") 168, val := PySem.Value.builtin "__main__.__loader__#\x6fpaque" }, { hash := PySem.PyData.keyHash P (PySem.Str.ofString "__spec__"), key := PySem.Value.str (PySem.Str.ofString "__spec__") 169, val := PySem.Value.none }, { hash := PySem.PyData.keyHash P (PySem.Str.ofString "__annotations__"), key := PySem.Value.str (PySem.Str.ofString "__annotations__") 170, val := PySem.Value.ref 6 }, { hash := PySem.PyData.keyHash P (PySem.Str.ofString "__builtins__"), key := PySem.Value.str (PySem.Str.ofString "__builtins__") 171, val := PySem.Value.ref 4 }, { hash := PySem.PyData.keyHash P (PySem.Str.ofString "__file__"), key := PySem.Value.str (PySem.Str.ofString "__file__") 173, val := PySem.Value.str (PySem.Str.ofString "/claim/cut.py") 172 }, { hash := PySem.PyData.keyHash P (PySem.Str.ofString "__cached__"), key := PySem.Value.str (PySem.Str.ofString "__cached__") 174, val := PySem.Value.none }, { hash := PySem.PyData.keyHash P (PySem.Str.ofString "_sre"), key := PySem.Value.str (PySem.Str.ofString "_sre") 275, val := PySem.Value.ref 12 }, { hash := PySem.PyData.keyHash P (PySem.Str.ofString "IPV4_RE"), key := PySem.Value.str (PySem.Str.ofString "IPV4_RE") 313, val := PySem.Value.ref 36 }, { hash := PySem.PyData.keyHash P (PySem.Str.ofString "is_HDN"), key := PySem.Value.str (PySem.Str.ofString "is_HDN") 320, val := PySem.Value.ref 43 }, { hash := PySem.PyData.keyHash P (PySem.Str.ofString "liberal_is_HDN"), key := PySem.Value.str (PySem.Str.ofString "liberal_is_HDN") 327, val := PySem.Value.ref 50 }, { hash := PySem.PyData.keyHash P (PySem.Str.ofString "user_domain_match"), key := PySem.Value.str (PySem.Str.ofString "user_domain_match") 336, val := PySem.Value.ref 57 }, { hash := PySem.PyData.keyHash P (PySem.Str.ofString "reach"), key := PySem.Value.str (PySem.Str.ofString "reach") 345, val := PySem.Value.ref 64 }, { hash := PySem.PyData.keyHash P (PySem.Str.ofString "_twin_re_1"), key := PySem.Value.str (PySem.Str.ofString "_twin_re_1") 383, val := PySem.Value.ref 69 }, { hash := PySem.PyData.keyHash P (PySem.Str.ofString "_special_chars_map"), key := PySem.Value.str (PySem.Str.ofString "_special_chars_map") 531, val := PySem.Value.ref 71 }, { hash := PySem.PyData.keyHash P (PySem.Str.ofString "escape"), key := PySem.Value.str (PySem.Str.ofString "escape") 538, val := PySem.Value.ref 81 }, { hash := PySem.PyData.keyHash P (PySem.Str.ofString "_translate"), key := PySem.Value.str (PySem.Str.ofString "_translate") 559, val := PySem.Value.ref 88 }, { hash := PySem.PyData.keyHash P (PySem.Str.ofString "_law_text"), key := PySem.Value.str (PySem.Str.ofString "_law_text") 570, val := PySem.Value.ref 95 }, { hash := PySem.PyData.keyHash P (PySem.Str.ofString "_law_takes"), key := PySem.Value.str (PySem.Str.ofString "_law_takes") 578, val := PySem.Value.ref 102 }, { hash := PySem.PyData.keyHash P (PySem.Str.ofString "_law_fits"), key := PySem.Value.str (PySem.Str.ofString "_law_fits") 584, val := PySem.Value.ref 107 }, { hash := PySem.PyData.keyHash P (PySem.Str.ofString "_law_figures"), key := PySem.Value.str (PySem.Str.ofString "_law_figures") 590, val := PySem.Value.ref 112 }, { hash := PySem.PyData.keyHash P (PySem.Str.ofString "_law_named"), key := PySem.Value.str (PySem.Str.ofString "_law_named") 597, val := PySem.Value.ref 119 }, { hash := PySem.PyData.keyHash P (PySem.Str.ofString "_law_told"), key := PySem.Value.str (PySem.Str.ofString "_law_told") 603, val := PySem.Value.ref 124 }, { hash := PySem.PyData.keyHash P (PySem.Str.ofString "_law_reach"), key := PySem.Value.str (PySem.Str.ofString "_law_reach") 610, val := PySem.Value.ref 131 }, { hash := PySem.PyData.keyHash P (PySem.Str.ofString "law"), key := PySem.Value.str (PySem.Str.ofString "law") 616, val := PySem.Value.ref 136 }] 27 }
noncomputable def uo79 : Params → Obj := fun P => { cls := PySem.Value.none, data := PySem.Data.fields #[PySem.Value.int 4 0, PySem.Value.int 0 0, PySem.Value.ref 42, PySem.Value.int 12 0, PySem.Value.int 0 0, PySem.Value.ref 49, PySem.Value.int 16 0, PySem.Value.int 0 0, PySem.Value.ref 56, PySem.Value.int 29 0, PySem.Value.int 0 0, PySem.Value.ref 63, PySem.Value.int 40 0, PySem.Value.int 0 0, PySem.Value.ref 80, PySem.Value.int 47 0, PySem.Value.int 0 0, PySem.Value.ref 87, PySem.Value.int 110 0, PySem.Value.int 0 0, PySem.Value.ref 94, PySem.Value.int 115 0, PySem.Value.int 0 0, PySem.Value.ref 101, PySem.Value.int 121 0, PySem.Value.int 0 0, PySem.Value.ref 106, PySem.Value.int 130 0, PySem.Value.int 0 0, PySem.Value.ref 111, PySem.Value.int 133 0, PySem.Value.int 0 0, PySem.Value.ref 118, PySem.Value.int 135 0, PySem.Value.int 0 0, PySem.Value.ref 123, PySem.Value.int 142 0, PySem.Value.int 0 0, PySem.Value.ref 130, PySem.Value.int 146 0, PySem.Value.int 0 0, PySem.Value.ref 135] }
noncomputable def uo80 : Params → Obj := fun P => { cls := PySem.Value.type "tuple", data := PySem.Data.seq #[] }
noncomputable def uo81 : Params → Obj := fun P => { cls := PySem.Value.none, data := PySem.Data.fields #[] }
noncomputable def uo82 : Params → Obj := fun P => { cls := PySem.Value.type "tuple", data := PySem.Data.seq #[PySem.Value.str (PySem.Str.ofString "pattern") 535] }
noncomputable def uo83 : Params → Obj := fun P => { cls := PySem.Value.type "tuple", data := PySem.Data.seq #[] }
noncomputable def uo84 : Params → Obj := fun P => { cls := PySem.Value.none, data := PySem.Data.func { name := PySem.Str.ofString "escape", qualname := PySem.Str.ofString "escape", params := fnP 10, body := PySem.FuncBody.stmts (fnB 10), scope := fnS 10, globals := 0, closure := [], defaults := PySem.Value.none, kwdefaults := PySem.Value.none } }
noncomputable def uo85 : Params → Obj := fun P => { cls := PySem.Value.type "code", data := PySem.Data.fields #[PySem.Value.str (PySem.Str.ofString "escape") 532, PySem.Value.str (PySem.Str.ofString "escape") 533, PySem.Value.str (PySem.Str.ofString "/claim/cut.py") 534, PySem.Value.int 40 0, PySem.Value.int 1 0, PySem.Value.int 0 0, PySem.Value.int 0 0, PySem.Value.int 3 0, PySem.Value.ref 75, PySem.Value.bool Bool.true, PySem.Value.int 276 0, PySem.Value.ref 76, PySem.Value.none, PySem.Value.ref 77, PySem.Value.ref 78, PySem.Value.ref 79, PySem.Value.int 536 0, PySem.Value.int 40 0, PySem.Value.str (PySem.Str.ofString "/claim/cut.py") 537] }
noncomputable def uo86 : Params → Obj := fun P => { cls := PySem.Value.type "function", data := PySem.Data.func { name := PySem.Str.ofString "escape", qualname := PySem.Str.ofString "escape", params := fnP 10, body := PySem.FuncBody.stmts (fnB 10), scope := fnS 10, globals := 3, closure := [], defaults := PySem.Value.none, kwdefaults := PySem.Value.none, pyModule := PySem.Value.str (PySem.Str.ofString "re") 384, code := PySem.Value.ref 80 } }
noncomputable def uo87 : Params → Obj := fun P => { cls := PySem.Value.type "tuple", data := PySem.Data.seq #[] }
noncomputable def uo88 : Params → Obj := fun P => { cls := PySem.Value.none, data := PySem.Data.fields #[] }
noncomputable def uo89 : Params → Obj := fun P => { cls := PySem.Value.type "tuple", data := PySem.Data.seq #[PySem.Value.str (PySem.Str.ofString "pat") 544, PySem.Value.str (PySem.Str.ofString "STAR") 545, PySem.Value.str (PySem.Str.ofString "QUESTION_MARK") 546, PySem.Value.str (PySem.Str.ofString "res") 547, PySem.Value.str (PySem.Str.ofString "add") 548, PySem.Value.str (PySem.Str.ofString "i") 549, PySem.Value.str (PySem.Str.ofString "n") 550, PySem.Value.str (PySem.Str.ofString "c") 551, PySem.Value.str (PySem.Str.ofString "j") 552, PySem.Value.str (PySem.Str.ofString "stuff") 553, PySem.Value.str (PySem.Str.ofString "chunks") 554, PySem.Value.str (PySem.Str.ofString "k") 555, PySem.Value.str (PySem.Str.ofString "chunk") 556] }
noncomputable def uo90 : Params → Obj := fun P => { cls := PySem.Value.type "tuple", data := PySem.Data.seq #[] }
noncomputable def uo91 : Params → Obj := fun P => { cls := PySem.Value.none, data := PySem.Data.func { name := PySem.Str.ofString "_translate", qualname := PySem.Str.ofString "_translate", params := fnP 12, body := PySem.FuncBody.stmts (fnB 12), scope := fnS 12, globals := 0, closure := [], defaults := PySem.Value.none, kwdefaults := PySem.Value.none } }
noncomputable def uo92 : Params → Obj := fun P => { cls := PySem.Value.type "code", data := PySem.Data.fields #[PySem.Value.str (PySem.Str.ofString "_translate") 541, PySem.Value.str (PySem.Str.ofString "_translate") 542, PySem.Value.str (PySem.Str.ofString "/claim/cut.py") 543, PySem.Value.int 47 0, PySem.Value.int 3 0, PySem.Value.int 0 0, PySem.Value.int 0 0, PySem.Value.int 3 0, PySem.Value.ref 82, PySem.Value.bool Bool.true, PySem.Value.int 276 0, PySem.Value.ref 83, PySem.Value.none, PySem.Value.ref 84, PySem.Value.ref 85, PySem.Value.ref 86, PySem.Value.int 557 0, PySem.Value.int 47 0, PySem.Value.str (PySem.Str.ofString "/claim/cut.py") 558] }
noncomputable def uo93 : Params → Obj := fun P => { cls := PySem.Value.type "function", data := PySem.Data.func { name := PySem.Str.ofString "_translate", qualname := PySem.Str.ofString "_translate", params := fnP 12, body := PySem.FuncBody.stmts (fnB 12), scope := fnS 12, globals := 3, closure := [], defaults := PySem.Value.none, kwdefaults := PySem.Value.none, pyModule := PySem.Value.str (PySem.Str.ofString "cpy313.fnmatch") 539, code := PySem.Value.ref 87 } }
noncomputable def uo94 : Params → Obj := fun P => { cls := PySem.Value.type "tuple", data := PySem.Data.seq #[] }
noncomputable def uo95 : Params → Obj := fun P => { cls := PySem.Value.none, data := PySem.Data.fields #[] }
noncomputable def uo96 : Params → Obj := fun P => { cls := PySem.Value.type "tuple", data := PySem.Data.seq #[PySem.Value.str (PySem.Str.ofString "script") 565, PySem.Value.str (PySem.Str.ofString "signs") 566, PySem.Value.str (PySem.Str.ofString "x") 567] }
noncomputable def uo97 : Params → Obj := fun P => { cls := PySem.Value.type "tuple", data := PySem.Data.seq #[] }
noncomputable def uo98 : Params → Obj := fun P => { cls := PySem.Value.none, data := PySem.Data.func { name := PySem.Str.ofString "_law_text", qualname := PySem.Str.ofString "_law_text", params := fnP 14, body := PySem.FuncBody.stmts (fnB 14), scope := fnS 14, globals := 0, closure := [], defaults := PySem.Value.none, kwdefaults := PySem.Value.none } }
noncomputable def uo99 : Params → Obj := fun P => { cls := PySem.Value.type "code", data := PySem.Data.fields #[PySem.Value.str (PySem.Str.ofString "_law_text") 562, PySem.Value.str (PySem.Str.ofString "_law_text") 563, PySem.Value.str (PySem.Str.ofString "/claim/cut.py") 564, PySem.Value.int 110 0, PySem.Value.int 1 0, PySem.Value.int 0 0, PySem.Value.int 0 0, PySem.Value.int 3 0, PySem.Value.ref 89, PySem.Value.bool Bool.true, PySem.Value.int 276 0, PySem.Value.ref 90, PySem.Value.none, PySem.Value.ref 91, PySem.Value.ref 92, PySem.Value.ref 93, PySem.Value.int 568 0, PySem.Value.int 110 0, PySem.Value.str (PySem.Str.ofString "/claim/cut.py") 569] }
noncomputable def uo100 : Params → Obj := fun P => { cls := PySem.Value.type "function", data := PySem.Data.func { name := PySem.Str.ofString "_law_text", qualname := PySem.Str.ofString "_law_text", params := fnP 14, body := PySem.FuncBody.stmts (fnB 14), scope := fnS 14, globals := 3, closure := [], defaults := PySem.Value.none, kwdefaults := PySem.Value.none, pyModule := PySem.Value.str (PySem.Str.ofString "law_rx0038_01") 560, code := PySem.Value.ref 94 } }
noncomputable def uo101 : Params → Obj := fun P => { cls := PySem.Value.type "tuple", data := PySem.Data.seq #[] }
noncomputable def uo102 : Params → Obj := fun P => { cls := PySem.Value.none, data := PySem.Data.fields #[] }
noncomputable def uo103 : Params → Obj := fun P => { cls := PySem.Value.type "tuple", data := PySem.Data.seq #[PySem.Value.str (PySem.Str.ofString "part") 574, PySem.Value.str (PySem.Str.ofString "sign") 575] }
noncomputable def uo104 : Params → Obj := fun P => { cls := PySem.Value.type "tuple", data := PySem.Data.seq #[] }
noncomputable def uo105 : Params → Obj := fun P => { cls := PySem.Value.none, data := PySem.Data.func { name := PySem.Str.ofString "_law_takes", qualname := PySem.Str.ofString "_law_takes", params := fnP 15, body := PySem.FuncBody.stmts (fnB 15), scope := fnS 15, globals := 0, closure := [], defaults := PySem.Value.none, kwdefaults := PySem.Value.none } }
noncomputable def uo106 : Params → Obj := fun P => { cls := PySem.Value.type "code", data := PySem.Data.fields #[PySem.Value.str (PySem.Str.ofString "_law_takes") 571, PySem.Value.str (PySem.Str.ofString "_law_takes") 572, PySem.Value.str (PySem.Str.ofString "/claim/cut.py") 573, PySem.Value.int 115 0, PySem.Value.int 2 0, PySem.Value.int 0 0, PySem.Value.int 0 0, PySem.Value.int 3 0, PySem.Value.ref 96, PySem.Value.bool Bool.true, PySem.Value.int 276 0, PySem.Value.ref 97, PySem.Value.none, PySem.Value.ref 98, PySem.Value.ref 99, PySem.Value.ref 100, PySem.Value.int 576 0, PySem.Value.int 115 0, PySem.Value.str (PySem.Str.ofString "/claim/cut.py") 577] }
noncomputable def uo107 : Params → Obj := fun P => { cls := PySem.Value.type "function", data := PySem.Data.func { name := PySem.Str.ofString "_law_takes", qualname := PySem.Str.ofString "_law_takes", params := fnP 15, body := PySem.FuncBody.stmts (fnB 15), scope := fnS 15, globals := 3, closure := [], defaults := PySem.Value.none, kwdefaults := PySem.Value.none, pyModule := PySem.Value.str (PySem.Str.ofString "law_rx0038_01") 560, code := PySem.Value.ref 101 } }
noncomputable def uo108 : Params → Obj := fun P => { cls := PySem.Value.type "tuple", data := PySem.Data.seq #[] }
noncomputable def uo109 : Params → Obj := fun P => { cls := PySem.Value.none, data := PySem.Data.fields #[] }
noncomputable def uo110 : Params → Obj := fun P => { cls := PySem.Value.none, data := PySem.Data.func { name := PySem.Str.ofString "_law_fits", qualname := PySem.Str.ofString "_law_fits", params := fnP 16, body := PySem.FuncBody.stmts (fnB 16), scope := fnS 16, globals := 0, closure := [], defaults := PySem.Value.none, kwdefaults := PySem.Value.none } }
noncomputable def uo111 : Params → Obj := fun P => { cls := PySem.Value.type "code", data := PySem.Data.fields #[PySem.Value.str (PySem.Str.ofString "_law_fits") 579, PySem.Value.str (PySem.Str.ofString "_law_fits") 580, PySem.Value.str (PySem.Str.ofString "/claim/cut.py") 581, PySem.Value.int 121 0, PySem.Value.int 2 0, PySem.Value.int 0 0, PySem.Value.int 0 0, PySem.Value.int 3 0, PySem.Value.ref 103, PySem.Value.bool Bool.true, PySem.Value.int 276 0, PySem.Value.ref 104, PySem.Value.none, PySem.Value.none, PySem.Value.none, PySem.Value.ref 105, PySem.Value.int 582 0, PySem.Value.int 121 0, PySem.Value.str (PySem.Str.ofString "/claim/cut.py") 583] }
noncomputable def uo112 : Params → Obj := fun P => { cls := PySem.Value.type "function", data := PySem.Data.func { name := PySem.Str.ofString "_law_fits", qualname := PySem.Str.ofString "_law_fits", params := fnP 16, body := PySem.FuncBody.stmts (fnB 16), scope := fnS 16, globals := 3, closure := [], defaults := PySem.Value.none, kwdefaults := PySem.Value.none, pyModule := PySem.Value.str (PySem.Str.ofString "law_rx0038_01") 560, code := PySem.Value.ref 106 } }
noncomputable def uo113 : Params → Obj := fun P => { cls := PySem.Value.type "tuple", data := PySem.Data.seq #[] }
noncomputable def uo114 : Params → Obj := fun P => { cls := PySem.Value.none, data := PySem.Data.fields #[] }
noncomputable def uo115 : Params → Obj := fun P => { cls := PySem.Value.none, data := PySem.Data.func { name := PySem.Str.ofString "_law_figures", qualname := PySem.Str.ofString "_law_figures", params := fnP 17, body := PySem.FuncBody.stmts (fnB 17), scope := fnS 17, globals := 0, closure := [], defaults := PySem.Value.none, kwdefaults := PySem.Value.none } }
noncomputable def uo116 : Params → Obj := fun P => { cls := PySem.Value.type "code", data := PySem.Data.fields #[PySem.Value.str (PySem.Str.ofString "_law_figures") 585, PySem.Value.str (PySem.Str.ofString "_law_figures") 586, PySem.Value.str (PySem.Str.ofString "/claim/cut.py") 587, PySem.Value.int 130 0, PySem.Value.int 1 0, PySem.Value.int 0 0, PySem.Value.int 0 0, PySem.Value.int 3 0, PySem.Value.ref 108, PySem.Value.bool Bool.true, PySem.Value.int 276 0, PySem.Value.ref 109, PySem.Value.none, PySem.Value.none, PySem.Value.none, PySem.Value.ref 110, PySem.Value.int 588 0, PySem.Value.int 130 0, PySem.Value.str (PySem.Str.ofString "/claim/cut.py") 589] }
noncomputable def uo117 : Params → Obj := fun P => { cls := PySem.Value.type "function", data := PySem.Data.func { name := PySem.Str.ofString "_law_figures", qualname := PySem.Str.ofString "_law_figures", params := fnP 17, body := PySem.FuncBody.stmts (fnB 17), scope := fnS 17, globals := 3, closure := [], defaults := PySem.Value.none, kwdefaults := PySem.Value.none, pyModule := PySem.Value.str (PySem.Str.ofString "law_rx0038_01") 560, code := PySem.Value.ref 111 } }
noncomputable def uo118 : Params → Obj := fun P => { cls := PySem.Value.type "tuple", data := PySem.Data.seq #[] }
noncomputable def uo119 : Params → Obj := fun P => { cls := PySem.Value.none, data := PySem.Data.fields #[] }
noncomputable def uo120 : Params → Obj := fun P => { cls := PySem.Value.type "tuple", data := PySem.Data.seq #[PySem.Value.str (PySem.Str.ofString "text") 594] }
noncomputable def uo121 : Params → Obj := fun P => { cls := PySem.Value.type "tuple", data := PySem.Data.seq #[] }
noncomputable def uo122 : Params → Obj := fun P => { cls := PySem.Value.none, data := PySem.Data.func { name := PySem.Str.ofString "_law_named", qualname := PySem.Str.ofString "_law_named", params := fnP 18, body := PySem.FuncBody.stmts (fnB 18), scope := fnS 18, globals := 0, closure := [], defaults := PySem.Value.none, kwdefaults := PySem.Value.none } }
noncomputable def uo123 : Params → Obj := fun P => { cls := PySem.Value.type "code", data := PySem.Data.fields #[PySem.Value.str (PySem.Str.ofString "_law_named") 591, PySem.Value.str (PySem.Str.ofString "_law_named") 592, PySem.Value.str (PySem.Str.ofString "/claim/cut.py") 593, PySem.Value.int 133 0, PySem.Value.int 1 0, PySem.Value.int 0 0, PySem.Value.int 0 0, PySem.Value.int 3 0, PySem.Value.ref 113, PySem.Value.bool Bool.true, PySem.Value.int 276 0, PySem.Value.ref 114, PySem.Value.none, PySem.Value.ref 115, PySem.Value.ref 116, PySem.Value.ref 117, PySem.Value.int 595 0, PySem.Value.int 133 0, PySem.Value.str (PySem.Str.ofString "/claim/cut.py") 596] }
noncomputable def uo124 : Params → Obj := fun P => { cls := PySem.Value.type "function", data := PySem.Data.func { name := PySem.Str.ofString "_law_named", qualname := PySem.Str.ofString "_law_named", params := fnP 18, body := PySem.FuncBody.stmts (fnB 18), scope := fnS 18, globals := 3, closure := [], defaults := PySem.Value.none, kwdefaults := PySem.Value.none, pyModule := PySem.Value.str (PySem.Str.ofString "law_rx0038_01") 560, code := PySem.Value.ref 118 } }
noncomputable def uo125 : Params → Obj := fun P => { cls := PySem.Value.type "tuple", data := PySem.Data.seq #[] }
noncomputable def uo126 : Params → Obj := fun P => { cls := PySem.Value.none, data := PySem.Data.fields #[] }
noncomputable def uo127 : Params → Obj := fun P => { cls := PySem.Value.none, data := PySem.Data.func { name := PySem.Str.ofString "_law_told", qualname := PySem.Str.ofString "_law_told", params := fnP 19, body := PySem.FuncBody.stmts (fnB 19), scope := fnS 19, globals := 0, closure := [], defaults := PySem.Value.none, kwdefaults := PySem.Value.none } }
noncomputable def uo128 : Params → Obj := fun P => { cls := PySem.Value.type "code", data := PySem.Data.fields #[PySem.Value.str (PySem.Str.ofString "_law_told") 598, PySem.Value.str (PySem.Str.ofString "_law_told") 599, PySem.Value.str (PySem.Str.ofString "/claim/cut.py") 600, PySem.Value.int 135 0, PySem.Value.int 2 0, PySem.Value.int 0 0, PySem.Value.int 0 0, PySem.Value.int 3 0, PySem.Value.ref 120, PySem.Value.bool Bool.true, PySem.Value.int 276 0, PySem.Value.ref 121, PySem.Value.none, PySem.Value.none, PySem.Value.none, PySem.Value.ref 122, PySem.Value.int 601 0, PySem.Value.int 135 0, PySem.Value.str (PySem.Str.ofString "/claim/cut.py") 602] }
noncomputable def uo129 : Params → Obj := fun P => { cls := PySem.Value.type "function", data := PySem.Data.func { name := PySem.Str.ofString "_law_told", qualname := PySem.Str.ofString "_law_told", params := fnP 19, body := PySem.FuncBody.stmts (fnB 19), scope := fnS 19, globals := 3, closure := [], defaults := PySem.Value.none, kwdefaults := PySem.Value.none, pyModule := PySem.Value.str (PySem.Str.ofString "law_rx0038_01") 560, code := PySem.Value.ref 123 } }
noncomputable def uo130 : Params → Obj := fun P => { cls := PySem.Value.type "tuple", data := PySem.Data.seq #[] }
noncomputable def uo131 : Params → Obj := fun P => { cls := PySem.Value.none, data := PySem.Data.fields #[] }
noncomputable def uo132 : Params → Obj := fun P => { cls := PySem.Value.type "tuple", data := PySem.Data.seq #[PySem.Value.str (PySem.Str.ofString "host") 607] }
noncomputable def uo133 : Params → Obj := fun P => { cls := PySem.Value.type "tuple", data := PySem.Data.seq #[] }
noncomputable def uo134 : Params → Obj := fun P => { cls := PySem.Value.none, data := PySem.Data.func { name := PySem.Str.ofString "_law_reach", qualname := PySem.Str.ofString "_law_reach", params := fnP 20, body := PySem.FuncBody.stmts (fnB 20), scope := fnS 20, globals := 0, closure := [], defaults := PySem.Value.none, kwdefaults := PySem.Value.none } }
noncomputable def uo135 : Params → Obj := fun P => { cls := PySem.Value.type "code", data := PySem.Data.fields #[PySem.Value.str (PySem.Str.ofString "_law_reach") 604, PySem.Value.str (PySem.Str.ofString "_law_reach") 605, PySem.Value.str (PySem.Str.ofString "/claim/cut.py") 606, PySem.Value.int 142 0, PySem.Value.int 1 0, PySem.Value.int 0 0, PySem.Value.int 0 0, PySem.Value.int 3 0, PySem.Value.ref 125, PySem.Value.bool Bool.true, PySem.Value.int 276 0, PySem.Value.ref 126, PySem.Value.none, PySem.Value.ref 127, PySem.Value.ref 128, PySem.Value.ref 129, PySem.Value.int 608 0, PySem.Value.int 142 0, PySem.Value.str (PySem.Str.ofString "/claim/cut.py") 609] }
noncomputable def uo136 : Params → Obj := fun P => { cls := PySem.Value.type "function", data := PySem.Data.func { name := PySem.Str.ofString "_law_reach", qualname := PySem.Str.ofString "_law_reach", params := fnP 20, body := PySem.FuncBody.stmts (fnB 20), scope := fnS 20, globals := 3, closure := [], defaults := PySem.Value.none, kwdefaults := PySem.Value.none, pyModule := PySem.Value.str (PySem.Str.ofString "law_rx0038_01") 560, code := PySem.Value.ref 130 } }
noncomputable def uo137 : Params → Obj := fun P => { cls := PySem.Value.type "tuple", data := PySem.Data.seq #[] }
noncomputable def uo138 : Params → Obj := fun P => { cls := PySem.Value.none, data := PySem.Data.fields #[] }
noncomputable def uo139 : Params → Obj := fun P => { cls := PySem.Value.none, data := PySem.Data.func { name := PySem.Str.ofString "law", qualname := PySem.Str.ofString "law", params := fnP 21, body := PySem.FuncBody.stmts (fnB 21), scope := fnS 21, globals := 0, closure := [], defaults := PySem.Value.none, kwdefaults := PySem.Value.none } }
noncomputable def uo140 : Params → Obj := fun P => { cls := PySem.Value.type "code", data := PySem.Data.fields #[PySem.Value.str (PySem.Str.ofString "law") 611, PySem.Value.str (PySem.Str.ofString "law") 612, PySem.Value.str (PySem.Str.ofString "/claim/cut.py") 613, PySem.Value.int 146 0, PySem.Value.int 1 0, PySem.Value.int 0 0, PySem.Value.int 0 0, PySem.Value.int 3 0, PySem.Value.ref 132, PySem.Value.bool Bool.true, PySem.Value.int 276 0, PySem.Value.ref 133, PySem.Value.none, PySem.Value.none, PySem.Value.none, PySem.Value.ref 134, PySem.Value.int 614 0, PySem.Value.int 146 0, PySem.Value.str (PySem.Str.ofString "/claim/cut.py") 615] }
noncomputable def uo141 : Params → Obj := fun P => { cls := PySem.Value.type "function", data := PySem.Data.func { name := PySem.Str.ofString "law", qualname := PySem.Str.ofString "law", params := fnP 21, body := PySem.FuncBody.stmts (fnB 21), scope := fnS 21, globals := 3, closure := [], defaults := PySem.Value.none, kwdefaults := PySem.Value.none, pyModule := PySem.Value.str (PySem.Str.ofString "law_rx0038_01") 560, code := PySem.Value.ref 135 } }
noncomputable def hs_e : Params → Heap := fun P => Heap.mk (Array.mk (uo0 P :: uo1 P :: uo2 P :: uo78 P :: uo4 P :: uo5 P :: uo6 P :: uo7 P :: uo8 P :: uo9 P :: uo10 P :: uo11 P :: uo12 P :: uo13 P :: uo14 P :: uo15 P :: uo16 P :: uo17 P :: uo18 P :: uo19 P :: uo20 P :: uo21 P :: uo22 P :: uo23 P :: uo24 P :: uo25 P :: uo26 P :: uo27 P :: uo28 P :: uo79 P :: uo30 P :: uo31 P :: uo34 P :: uo35 P :: uo36 P :: uo37 P :: uo38 P :: uo39 P :: uo40 P :: uo41 P :: uo42 P :: uo43 P :: uo44 P :: uo45 P :: uo46 P :: uo47 P :: uo48 P :: uo49 P :: uo50 P :: uo51 P :: uo52 P :: uo53 P :: uo54 P :: uo55 P :: uo56 P :: uo57 P :: uo58 P :: uo59 P :: uo60 P :: uo61 P :: uo62 P :: uo63 P :: uo64 P :: uo65 P :: uo66 P :: uo67 P :: uo68 P :: uo69 P :: uo70 P :: uo71 P :: uo73 P :: uo74 P :: uo75 P :: uo76 P :: uo77 P :: uo80 P :: uo81 P :: uo82 P :: uo83 P :: uo84 P :: uo85 P :: uo86 P :: uo87 P :: uo88 P :: uo89 P :: uo90 P :: uo91 P :: uo92 P :: uo93 P :: uo94 P :: uo95 P :: uo96 P :: uo97 P :: uo98 P :: uo99 P :: uo100 P :: uo101 P :: uo102 P :: uo103 P :: uo104 P :: uo105 P :: uo106 P :: uo107 P :: uo108 P :: uo109 P :: uo110 P :: uo111 P :: uo112 P :: uo113 P :: uo114 P :: uo115 P :: uo116 P :: uo117 P :: uo118 P :: uo119 P :: uo120 P :: uo121 P :: uo122 P :: uo123 P :: uo124 P :: uo125 P :: uo126 P :: uo127 P :: uo128 P :: uo129 P :: uo130 P :: uo131 P :: uo132 P :: uo133 P :: uo134 P :: uo135 P :: uo136 P :: uo137 P :: uo138 P :: uo139 P :: uo140 P :: uo141 P :: [])) ({ })
noncomputable def st_e (w : World) (os : OsState) : Shared := ⟨hs_e w.params, Array.mk [], ({ } : Drawn), nat_lit 617, os⟩
noncomputable def hs_f : Params → Heap := fun P => Heap.mk (Array.mk (uo0 P :: uo1 P :: uo2 P :: uo78 P :: uo4 P :: uo5 P :: uo6 P :: uo7 P :: uo8 P :: uo9 P :: uo10 P :: uo11 P :: uo12 P :: uo13 P :: uo14 P :: uo15 P :: uo16 P :: uo17 P :: uo18 P :: uo19 P :: uo20 P :: uo21 P :: uo22 P :: uo23 P :: uo24 P :: uo25 P :: uo26 P :: uo27 P :: uo28 P :: uo79 P :: uo30 P :: uo31 P :: uo34 P :: uo35 P :: uo36 P :: uo37 P :: uo38 P :: uo39 P :: uo40 P :: uo41 P :: uo42 P :: uo43 P :: uo44 P :: uo45 P :: uo46 P :: uo47 P :: uo48 P :: uo49 P :: uo50 P :: uo51 P :: uo52 P :: uo53 P :: uo54 P :: uo55 P :: uo56 P :: uo57 P :: uo58 P :: uo59 P :: uo60 P :: uo61 P :: uo62 P :: uo63 P :: uo64 P :: uo65 P :: uo66 P :: uo67 P :: uo68 P :: uo69 P :: uo70 P :: uo71 P :: uo73 P :: uo74 P :: uo75 P :: uo76 P :: uo77 P :: uo80 P :: uo81 P :: uo82 P :: uo83 P :: uo84 P :: uo85 P :: uo86 P :: uo87 P :: uo88 P :: uo89 P :: uo90 P :: uo91 P :: uo92 P :: uo93 P :: uo94 P :: uo95 P :: uo96 P :: uo97 P :: uo98 P :: uo99 P :: uo100 P :: uo101 P :: uo102 P :: uo103 P :: uo104 P :: uo105 P :: uo106 P :: uo107 P :: uo108 P :: uo109 P :: uo110 P :: uo111 P :: uo112 P :: uo113 P :: uo114 P :: uo115 P :: uo116 P :: uo117 P :: uo118 P :: uo119 P :: uo120 P :: uo121 P :: uo122 P :: uo123 P :: uo124 P :: uo125 P :: uo126 P :: uo127 P :: uo128 P :: uo129 P :: uo130 P :: uo131 P :: uo132 P :: uo133 P :: uo134 P :: uo135 P :: uo136 P :: uo137 P :: uo138 P :: uo139 P :: uo140 P :: uo141 P :: [])) ({ })
noncomputable def st_f (w : World) (os : OsState) : Shared := ⟨hs_f w.params, Array.mk [], ({ } : Drawn), nat_lit 617, os⟩
noncomputable def cBody : List Stmt := behindTheImports cP
noncomputable def cEnv : Env := { scope := cP.main.scope, locals := mainNs, globals := mainNs, cells := [], code := PySem.Value.ref 30, frame := some 31 }
noncomputable abbrev cCode : Code := Code.body cBody cEnv
def cQ : Pos := { line := 0, col := 0, endLine := 0, endCol := 0 }
abbrev cB : List Frame := [topFrame cQ]
def posA : Pos := { line := 0, col := 0, endLine := 0, endCol := 0 }
def posB : Pos := { line := 0, col := 0, endLine := 0, endCol := 0 }
def posC : Pos := { line := 38, col := 0, endLine := 38, endCol := 8 }
def posD : Pos := { line := 39, col := 0, endLine := 39, endCol := 18 }
def posE : Pos := { line := 146, col := 0, endLine := 158, endCol := 88 }
def cAnn : Option Value := Option.some (PySem.Value.ref 6)
theorem cut_open : ∀ w : World, (fencedOpening treeTable cP w 3836).map (fun s => (s.heap, s.gens, s.drawn, s.toks)) = some (hs_z w.params, Array.mk [], ({} : Drawn), (st_z w default).toks) := fun w => by kernel_rfl
theorem cut_size : ∀ w : World, ((hs_z w.params).isNs mainGlobals && (Array.mk [] : Array GenState).size == 0, (hs_z w.params).objs.size, (hs_z w.params).nsMap mainGlobals "__annotations__") = (true, 28, cAnn) := fun w => by kernel_rfl
theorem cut_pre : ∀ (w : World) (os : OsState), topGo treeTable cP w 28 cAnn 12 (st_z w os) (topStub cP) = some (st_a w os, ⟨denote treeTable cCode, cCode, posA, cB⟩) := fun w os => by kernel_rfl
theorem cut_block : ∀ (w : World) (os : OsState), segRun treeTable cP w 28 cAnn 1 1 (st_a w os) (blockOf cBody cEnv cCode posA cB) = some (.next, st_b w os, cCode, posB) := fun w os => by kernel_rfl
theorem cut_one : ∀ (w : World) (os : OsState), segRun treeTable cP w 28 cAnn 1 312 (st_b w os) (piecesOf (cBody.take 8) cEnv cCode posB cB) = some (.next, st_c w os, cCode, posC) := fun w os => by kernel_rfl
def CutTwo (w : World) : Prop := ∀ os : OsState, segRun treeTable cP w 28 cAnn 1 1312 (st_c w os) (piecesOf ((cBody.drop 8).take 1) cEnv cCode posC cB) = some (.next, st_d w os, cCode, posD)
theorem two_a : ∀ w : World, CutTwo ((w.withFollow "special-get-raises" false).withFollow "comprehension-iter-twice" false) := fun w os => by kernel_rfl
theorem two_b : ∀ w : World, CutTwo ((w.withFollow "special-get-raises" true).withFollow "comprehension-iter-twice" false) := fun w os => by kernel_rfl
theorem two_c : ∀ w : World, CutTwo ((w.withFollow "special-get-raises" false).withFollow "comprehension-iter-twice" true) := fun w os => by kernel_rfl
theorem two_d : ∀ w : World, CutTwo ((w.withFollow "special-get-raises" true).withFollow "comprehension-iter-twice" true) := fun w os => by kernel_rfl
theorem cut_two : ∀ w : World, CutTwo w := byRow2 "comprehension-iter-twice" (byRow2 "special-get-raises" (P := fun w => CutTwo (w.withFollow "comprehension-iter-twice" false)) two_a two_b) (byRow2 "special-get-raises" (P := fun w => CutTwo (w.withFollow "comprehension-iter-twice" true)) two_c two_d)
theorem cut_three : ∀ (w : World) (os : OsState), segRun treeTable cP w 28 cAnn 1 331 (st_d w os) (piecesOf ((cBody.drop 8).drop 1) cEnv cCode posD cB) = some (.next, st_e w os, cCode, posE) := fun w os => by kernel_rfl
theorem cut_fin : ∀ (w : World) (os : OsState), topRun treeTable cP w 28 cAnn 2 (st_e w os) ⟨doneF .next, cCode, posE, cB⟩ = some (st_f w os) := fun w os => by kernel_rfl
theorem rest_app {tb : String → Option Builtin} {p : Program} {w : World} {n : Nat} {ann : Option Value} {N : Nat} {s r : Shared} {b l : List Stmt} {env : Env} {c : Code} {pos : Pos} {B : List Frame} (e : l = b) (h : topRun tb p w n ann N s (restOf l env c pos B) = some r) : topRun tb p w n ann N s (restOf b env c pos B) = some r := e ▸ h
theorem body_cut (l : List Stmt) (j : Nat) : l.take j ++ ((l.drop j).take 1 ++ ((l.drop j).drop 1 ++ [])) = l := by rw [List.append_nil, List.take_append_drop, List.take_append_drop]
theorem cut_run (w : World) (os : OsState) : topRun treeTable cP w 28 cAnn (12 + (1 + (312 + (1312 + (331 + 2))))) (st_z w os) (topStub cP) = some (st_f w os) :=
  go_top (cut_pre w os) (piece_block (cut_block w os) (rest_app (body_cut cBody 8) (piece_app (cut_one w os) (piece_app (cut_two w os) (piece_app (cut_three w os) (piece_nil (cut_fin w os)))))))
theorem cut_looks : ∀ w : World, (fun os => ((staticsOk (importedModules cP.main.body) (hs_z w.params) (hs_f w.params) && namesBound cP (hs_f w.params) && gensDone (st_f w os) && laidKept (hs_z w.params) (hs_f w.params)),
    openSeen qTop [Str.ofString "IPV4_RE", Str.ofString "_twin_re_1", Str.ofString "_special_chars_map"] (importedModules cP.main.body) (fun s => xlAt qTop [] s && recOk PySem.Challenge.rw_rx0038_01.row.records s) true (st_f w os), Hook.obs (kmHook kTop (3 :: 35 :: 36 :: 37 :: 39 :: 40 :: 42 :: 43 :: 44 :: 46 :: 47 :: 49 :: 50 :: 51 :: 53 :: 54 :: 56 :: 57 :: 58 :: 60 :: 61 :: 63 :: 64 :: 68 :: 69 :: 71 :: 75 :: 77 :: 78 :: 80 :: 81 :: 82 :: 84 :: 85 :: 87 :: 88 :: 89 :: 91 :: 92 :: 94 :: 95 :: 96 :: 98 :: 99 :: 101 :: 102 :: 103 :: 106 :: 107 :: 108 :: 111 :: 112 :: 113 :: 115 :: 116 :: 118 :: 119 :: 120 :: 123 :: 124 :: 125 :: 127 :: 128 :: 130 :: 131 :: 132 :: 135 :: 136 :: []) kTop_adrs [83]) (st_f w os))) = fun _ => (true, openGood qTop [Str.ofString "IPV4_RE", Str.ofString "_twin_re_1", Str.ofString "_special_chars_map"], Hook.val (kmHook kTop (3 :: 35 :: 36 :: 37 :: 39 :: 40 :: 42 :: 43 :: 44 :: 46 :: 47 :: 49 :: 50 :: 51 :: 53 :: 54 :: 56 :: 57 :: 58 :: 60 :: 61 :: 63 :: 64 :: 68 :: 69 :: 71 :: 75 :: 77 :: 78 :: 80 :: 81 :: 82 :: 84 :: 85 :: 87 :: 88 :: 89 :: 91 :: 92 :: 94 :: 95 :: 96 :: 98 :: 99 :: 101 :: 102 :: 103 :: 106 :: 107 :: 108 :: 111 :: 112 :: 113 :: 115 :: 116 :: 118 :: 119 :: 120 :: 123 :: 124 :: 125 :: 127 :: 128 :: 130 :: 131 :: 132 :: 135 :: 136 :: []) kTop_adrs [83]) w) := fun w => by kernel_rfl
theorem left_top : LeftO cP qTop [Str.ofString "IPV4_RE", Str.ofString "_twin_re_1", Str.ofString "_special_chars_map"] (fun s => xlAt qTop [] s && recOk PySem.Challenge.rw_rx0038_01.row.records s) (Hook.obs (kmHook kTop (3 :: 35 :: 36 :: 37 :: 39 :: 40 :: 42 :: 43 :: 44 :: 46 :: 47 :: 49 :: 50 :: 51 :: 53 :: 54 :: 56 :: 57 :: 58 :: 60 :: 61 :: 63 :: 64 :: 68 :: 69 :: 71 :: 75 :: 77 :: 78 :: 80 :: 81 :: 82 :: 84 :: 85 :: 87 :: 88 :: 89 :: 91 :: 92 :: 94 :: 95 :: 96 :: 98 :: 99 :: 101 :: 102 :: 103 :: 106 :: 107 :: 108 :: 111 :: 112 :: 113 :: 115 :: 116 :: 118 :: 119 :: 120 :: 123 :: 124 :: 125 :: 127 :: 128 :: 130 :: 131 :: 132 :: 135 :: 136 :: []) kTop_adrs [83])) (Hook.val (kmHook kTop (3 :: 35 :: 36 :: 37 :: 39 :: 40 :: 42 :: 43 :: 44 :: 46 :: 47 :: 49 :: 50 :: 51 :: 53 :: 54 :: 56 :: 57 :: 58 :: 60 :: 61 :: 63 :: 64 :: 68 :: 69 :: 71 :: 75 :: 77 :: 78 :: 80 :: 81 :: 82 :: 84 :: 85 :: 87 :: 88 :: 89 :: 91 :: 92 :: 94 :: 95 :: 96 :: 98 :: 99 :: 101 :: 102 :: 103 :: 106 :: 107 :: 108 :: 111 :: 112 :: 113 :: 115 :: 116 :: 118 :: 119 :: 120 :: 123 :: 124 :: 125 :: 127 :: 128 :: 130 :: 131 :: 132 :: 135 :: 136 :: []) kTop_adrs [83])) 3836 :=
  LeftO.of_pieces (H₀ := hs_z) (H₁ := hs_f) (gs₀ := Array.mk []) (gs₁ := Array.mk []) cut_open cut_size cut_run (by decide) cut_looks
theorem fill_top (h : kTop = kTop) : PySem.Challenge.rw_rx0038_01 = PySem.Challenge.rw_rx0038_01 ∨ kTop = kTop := by
  k_fill
  exact Or.inr h
section
local macro_rules | `(tactic| walk_at "calm one") => `(tactic| skip)
theorem calm_B0 : False → False := by
  w_top off
  intro h
  walk1
local macro_rules | `(tactic| walk_at "calm two") => `(tactic| skip)
theorem calm2_B0 : False → False := by
  w_top off
  intro h
  walk1
end
abbrev LZ : List Str := [Str.ofString "IPV4_RE", Str.ofString "_twin_re_1", Str.ofString "_special_chars_map", Str.ofString "_sre", Str.ofString "is_HDN", Str.ofString "liberal_is_HDN", Str.ofString "user_domain_match", Str.ofString "reach", Str.ofString "escape", Str.ofString "_translate", Str.ofString "_law_text", Str.ofString "_law_takes", Str.ofString "_law_fits", Str.ofString "_law_figures", Str.ofString "_law_named", Str.ofString "_law_told", Str.ofString "_law_reach", Str.ofString "law"]

/-- what a def's call hands back, in any caller's frame, the caller's ledger kept -/
def Ctr (prog : Program) (w : World) (mean : ExcName → Option Value) (mg mb : Str → Option Value) (f : Addr) (need : Nat) (vs : List Value) (pre : Prop) (R : Tok → Value) : Prop :=
  ∀ (dp un : Nat) (gd : Option (List Code)) (cn : Str) (cs : Scope) (a : Addr) (ccd : Value) (cl : List (Str × Addr)) (outer : List Env) (A₀ : Around) (base h₀ : Heap) (L : Addr) (m : Str → Option Value) (news : List (Addr × Obj)) (s : Shared) (Q E : Value → Shared → Prop),
    Below A₀ base outer h₀ → Fr h₀ L s.heap m → (kTop w.params).In h₀ → News h₀ L s.heap news → Top topProg LZ mean mg mb h₀ → cs.kind = .function →
    pre → dp + need < recursionLimit → un + 8 * need < cLine → CbRet h₀ L m news s Q R →
      wpAny (model prog w) (ktrTop dp un gd cn cs L a ccd cl outer) (call (.ref f) vs) Q E s

section
variable {prog : Program} {w : World} {mean : ExcName → Option Value} {mg mb : Str → Option Value} {A : Around} {E : Value → Shared → Prop} {s : Shared} {h h₀ : Heap} {L : Addr} {m : Str → Option Value} {news : List (Addr × Obj)}

theorem ctr_call {f : Addr} {need : Nat} {vs : List Value} {pre : Prop} {R : Tok → Value} {dp un : Nat} {gd : Option (List Code)} {cn : Str} {cs : Scope} {a : Addr} {ccd : Value} {cl : List (Str × Addr)} {outer : List Env} {A₀ : Around} {base : Heap} {Q : Value → Shared → Prop}
    (C : Ctr prog w mean mg mb f need vs pre R) (B : Below A₀ base outer h₀) (F : Fr h₀ L s.heap m) (X : (kTop w.params).In h₀) (N : News h₀ L s.heap news) (T : Top topProg LZ mean mg mb h₀) (hk : cs.kind = .function)
    (hp : pre) (hd : dp + need < recursionLimit) (hu : un + 8 * need < cLine) (hr : ∀ (t : Tok) (h' : Heap) (tk' : Nat), Fr h₀ L h' m → News h₀ L h' news → Q (R t) { s with heap := h', toks := tk' }) :
    wpAny (model prog w) (ktrTop dp un gd cn cs L a ccd cl outer) (call (.ref f) vs) Q E s := C _ _ _ _ _ _ _ _ _ _ _ _ _ _ _ _ _ _ B F X N T hk hp hd hu hr

theorem at36 (X : (kTop w.params).In h) : h.get? 36 = some { cls := .type "re.Pattern", data := .fields #[.str (Str.ofString "\\.\\d+$") 285, .int 256 312, .int 0 0, .none, .none, .ref 35, .int 0 0] } := X _ _ (by with_unfolding_all rfl)
theorem at35 (X : (kTop w.params).In h) : h.get? 35 = some { cls := .type "tuple", data := .seq ipItems } := X _ _ (by with_unfolding_all rfl)

theorem gm_search {pl : Sem Bool} {Q : Value × List Value → Shared → Prop} (F : Fr h₀ L s.heap m) (X : (kTop w.params).In h₀) (h : Q (.builtin "re.Pattern.search", [.ref 36]) s) :
    wpAny (model prog w) A (getMethod (.ref 36) (Str.ofString "search") pl) Q E s := getMethod_pat (at36 (X.keeps F.keep)) rfl rfl slot_search type_search h

theorem call_search {x : Str} {t : Tok} {Q : Value → Shared → Prop} (F : Fr h₀ L s.heap m) (X : (kTop w.params).In h₀) (N : News h₀ L s.heap news) (hx : x.length ≤ 100000)
    (h1 : anyIp x.cps = true → ∀ q h' li tu, Fr h₀ L h' m → News h₀ L h' ((q, matchObj (.str x t) 36 x.cps.size li tu) :: news) → Q (.ref q) { s with heap := h' })
    (h0 : anyIp x.cps = false → Q .none s) :
    wpAny (model prog w) A (call (.builtin "re.Pattern.search") [.ref 36, .str x t]) Q E s :=
  search_N F N (at36 (X.keeps F.keep)) rfl rfl (at35 (X.keeps F.keep)) rfl hx h1 h0

theorem tr_match {q : Addr} {v : Value} {a : Addr} {lim li : Int} {tu : Addr} {Q : Bool → Shared → Prop} (N : News h₀ L s.heap news) (hm : (q, matchObj v a lim li tu) ∈ news) (h : Q true s) : wpAny (model prog w) A (truthy (.ref q)) Q E s :=
  truthy_match (N.get hm) rfl h
end

local macro_rules | `(tactic| walk_at "getMethod ref") => `(tactic| (k_here; k_dflt (refine' gm_search ?k1 ?k2 ?_; (case k1 => k_asm); (case k2 => k_asm); k_whole)))
local macro_rules | `(tactic| walk_at "call builtin:re.Pattern.search") => `(tactic| (k_here; k_dflt (refine' call_search ?k1 ?k2 ?k3 ?k4 ?_ ?_; (case k1 => k_asm); (case k2 => k_asm); (case k3 => k_asm); (case k4 => omega); k_whole); (all_goals intro hS)))
local macro_rules | `(tactic| walk_at "truthy ref") => `(tactic| (k_here; k_dflt (refine' tr_match ?k1 ?k2 ?_; (case k1 => k_asm); (case k2 => k_mem); k_whole)))
section PartC1
section
local macro_rules | `(tactic| walk_at "calm one") => `(tactic| skip)
theorem calm_C1 : False → False := by
  w_top off
  intro h
  walk1
local macro_rules | `(tactic| walk_at "calm two") => `(tactic| skip)
theorem calm2_C1 : False → False := by
  w_top off
  intro h
  walk1
end

section
variable {prog : Program} {w : World} {mean : ExcName → Option Value} {mg mb : Str → Option Value}

def libS (x : Str) : Bool := !anyIp x.cps
def hdnS (x : Str) : Bool := !anyIp x.cps && !(x == Str.ofString "") && !(Txt.item x 0 == Str.ofString ".") && !(Txt.item x (-1) == Str.ofString ".")
def udmS (x y : Str) : Bool :=
  if libS (Txt.lower x) && libS (Txt.lower y) then (if Txt.startswith (Txt.lower y) (Str.ofString ".") then Txt.endswith (Txt.lower x) (Txt.lower y) else Txt.lower x == Txt.lower y) else Txt.lower x == Txt.lower y
def reachS (x : Str) : Str :=
  if 0 ≤ Txt.find x (Str.ofString ".") then
    if hdnS x && (decide (0 ≤ Txt.find (Txt.slice x (some (Txt.find x (Str.ofString ".") + 1)) none) (Str.ofString ".")) || Txt.slice x (some (Txt.find x (Str.ofString ".") + 1)) none == Str.ofString "local") then
      Str.ofString "." ++ Txt.slice x (some (Txt.find x (Str.ofString ".") + 1)) none else x
  else x

theorem c_isHDN (x : Str) (t : Tok) : Ctr prog w mean mg mb 43 1 [.str x t] (x.length ≤ 1000) (fun _ => .bool (hdnS x)) := by
  intro dp un gd cn cs a ccd cl outer A₀ base h₀ L m news s Q E B F X N T hk hpre hdp hun hret
  refine wpAny_call ?_
  k_dflt (refine' code_def (binds := [(Str.ofString "text", Value.str x t)]) ?k1 ?k2 ?k3 ?k4 ?k5 ?kA ?kF ?kK ?k6 ?k7 ?k8 ?k9 ?kB ?_ ?c2 ?c3 ?c4 ?c5; (case kA => exact rfl); (case kF => exact rfl); (case kK => assumption); (case k1 => k_asm); (case k2 => k_asm); (case k3 => k_asm); (case k4 => k_asm); (case k5 => k_asm); (case k6 => k_is); (case k7 => k_is); (case k8 => ktr_room); (case k9 => exact BindsTo.of_eq rfl); (case c5 => decide); (case kB => exact locs rfl); (case c2 => exact rfl); (case c3 => exact rfl); (case c4 => exact rfl); k_whole; intro g' L' h' FG' F' N' B' X' T'; (try dsimp only [List.reverse_cons, List.reverse_nil, List.nil_append, List.cons_append] at F'); (try dsimp only); (try k_fold))
  k_steps
  all_goals exact cb_retB (Q := Q) hret (by simp only [hdnS, *]; rfl) (by assumption) (by first | assumption | exact cb_drop (by assumption) (by kcj_all))

theorem c_lib (x : Str) (t : Tok) : Ctr prog w mean mg mb 50 1 [.str x t] (x.length ≤ 1000) (fun _ => .bool (libS x)) := by
  intro dp un gd cn cs a ccd cl outer A₀ base h₀ L m news s Q E B F X N T hk hpre hdp hun hret
  refine wpAny_call ?_
  k_dflt (refine' code_def (binds := [(Str.ofString "text", Value.str x t)]) ?k1 ?k2 ?k3 ?k4 ?k5 ?kA ?kF ?kK ?k6 ?k7 ?k8 ?k9 ?kB ?_ ?c2 ?c3 ?c4 ?c5; (case kA => exact rfl); (case kF => exact rfl); (case kK => assumption); (case k1 => k_asm); (case k2 => k_asm); (case k3 => k_asm); (case k4 => k_asm); (case k5 => k_asm); (case k6 => k_is); (case k7 => k_is); (case k8 => ktr_room); (case k9 => exact BindsTo.of_eq rfl); (case c5 => decide); (case kB => exact locs rfl); (case c2 => exact rfl); (case c3 => exact rfl); (case c4 => exact rfl); k_whole; intro g' L' h' FG' F' N' B' X' T'; (try dsimp only [List.reverse_cons, List.reverse_nil, List.nil_append, List.cons_append] at F'); (try dsimp only); (try k_fold))
  k_steps
  all_goals exact cb_retB (Q := Q) hret (by simp only [libS, *]; rfl) (by assumption) (by first | assumption | exact cb_drop (by assumption) (by kcj_all))

end
local macro_rules | `(tactic| walk_at "call ref") => `(tactic| (k_here; k_dflt (refine' ctr_call (c_lib _ _) ?k1 ?k2 ?k3 ?k4 ?k5 ?kK ?kp ?kd ?ku ?_; (case k1 => k_asm); (case k2 => k_asm); (case k3 => k_asm); (case k4 => k_asm); (case k5 => k_asm); (case kK => first | exact rfl | assumption); (case kp => first | trivial | assumption | omega); (case kd => ktr_room); (case ku => ktr_units); k_whole); intro t9 h9 tk9 F9 N9; (try dsimp only); (try k_fold)))
local macro_rules | `(tactic| walk_at "call ref") => `(tactic| (k_here; k_dflt (refine' ctr_call (c_isHDN _ _) ?k1 ?k2 ?k3 ?k4 ?k5 ?kK ?kp ?kd ?ku ?_; (case k1 => k_asm); (case k2 => k_asm); (case k3 => k_asm); (case k4 => k_asm); (case k5 => k_asm); (case kK => first | exact rfl | assumption); (case kp => first | trivial | assumption | omega); (case kd => ktr_room); (case ku => ktr_units); k_whole); intro t9 h9 tk9 F9 N9; (try dsimp only); (try k_fold)))
section
variable {prog : Program} {w : World} {mean : ExcName → Option Value} {mg mb : Str → Option Value}

theorem c_udm (x y : Str) (t u : Tok) : Ctr prog w mean mg mb 57 2 [.str x t, .str y u] (x.length ≤ 300 ∧ y.length ≤ 300) (fun _ => .bool (udmS x y)) := by
  intro dp un gd cn cs a ccd cl outer A₀ base h₀ L m news s Q E B F X N T hk hpre hdp hun hret
  obtain ⟨hp1, hp2⟩ := hpre
  refine wpAny_call ?_
  k_dflt (refine' code_def (binds := [(Str.ofString "A", Value.str x t), (Str.ofString "B", Value.str y u)]) ?k1 ?k2 ?k3 ?k4 ?k5 ?kA ?kF ?kK ?k6 ?k7 ?k8 ?k9 ?kB ?_ ?c2 ?c3 ?c4 ?c5; (case kA => exact rfl); (case kF => exact rfl); (case kK => assumption); (case k1 => k_asm); (case k2 => k_asm); (case k3 => k_asm); (case k4 => k_asm); (case k5 => k_asm); (case k6 => k_is); (case k7 => k_is); (case k8 => ktr_room); (case k9 => exact BindsTo.of_eq rfl); (case c5 => decide); (case kB => exact locs rfl); (case c2 => exact rfl); (case c3 => exact rfl); (case c4 => exact rfl); k_whole; intro g' L' h' FG' F' N' B' X' T'; (try dsimp only [List.reverse_cons, List.reverse_nil, List.nil_append, List.cons_append] at F'); (try dsimp only); (try k_fold))
  k_steps
  all_goals exact cb_retB (Q := Q) hret (by simp only [udmS, *]; rfl) (by assumption) (by first | assumption | exact cb_drop (by assumption) (by kcj_all))

theorem c_reach (x : Str) (t : Tok) : Ctr prog w mean mg mb 64 2 [.str x t] (x.length ≤ 300) (fun u => .str (reachS x) u) := by
  intro dp un gd cn cs a ccd cl outer A₀ base h₀ L m news s Q E B F X N T hk hpre hdp hun hret
  refine wpAny_call ?_
  k_dflt (refine' code_def (binds := [(Str.ofString "h", Value.str x t)]) ?k1 ?k2 ?k3 ?k4 ?k5 ?kA ?kF ?kK ?k6 ?k7 ?k8 ?k9 ?kB ?_ ?c2 ?c3 ?c4 ?c5; (case kA => exact rfl); (case kF => exact rfl); (case kK => assumption); (case k1 => k_asm); (case k2 => k_asm); (case k3 => k_asm); (case k4 => k_asm); (case k5 => k_asm); (case k6 => k_is); (case k7 => k_is); (case k8 => ktr_room); (case k9 => exact BindsTo.of_eq rfl); (case c5 => decide); (case kB => exact locs rfl); (case c2 => exact rfl); (case c3 => exact rfl); (case c4 => exact rfl); k_whole; intro g' L' h' FG' F' N' B' X' T'; (try dsimp only [List.reverse_cons, List.reverse_nil, List.nil_append, List.cons_append] at F'); (try dsimp only); (try k_fold))
  k_steps
  all_goals exact cb_retS (Q := Q) hret (by simp only [reachS, *, if_true, if_false, Bool.true_and, Bool.false_and, Bool.or_true, Bool.false_or, Bool.true_or, decide_true, decide_false, not_true_eq_false, not_false_eq_true, Bool.false_eq_true]) (by assumption) (by first | assumption | exact cb_drop (by assumption) (by kcj_all))
end
end PartC1
section PartA3
open PySem PySem.W PyProof.Rows PySem.Spec PySem.Calls PySem.Builtin PySem.Builtin.Str
section
local macro_rules | `(tactic| walk_at "calm one") => `(tactic| skip)
theorem calm_A3 : False → False := by
  w_top off
  intro h
  walk1
local macro_rules | `(tactic| walk_at "calm two") => `(tactic| skip)
theorem calm2_A3 : False → False := by
  w_top off
  intro h
  walk1
end
def spK : List (Nat × Nat × Nat) := [(40, 387, 391), (41, 393, 397), (91, 399, 403), (93, 405, 409), (123, 411, 415), (125, 417, 421), (63, 423, 427), (42, 429, 433), (43, 435, 439), (45, 441, 445), (124, 447, 451), (94, 453, 457), (36, 459, 463), (92, 465, 469), (46, 471, 475), (38, 477, 481), (126, 483, 487), (35, 489, 493), (32, 495, 499), (9, 501, 505), (10, 507, 511), (13, 513, 517), (11, 519, 523), (12, 525, 529)]
def spEs : List DictEntry := spK.map fun p => ⟨(p.1 : Int), .int (p.1 : Int) p.2.1, .str ⟨#[92, p.1]⟩ p.2.2⟩
def spAt (c : Nat) : Option (Nat × Nat × Nat) := spK.find? fun p => p.1 == c
def isSp (c : Nat) : Bool := (spAt c).isSome
def escS (c : Nat) : Str := if isSp c then ⟨#[92, c]⟩ else ⟨#[c]⟩
section
variable {prog : Program} {w : World} {A : Around} {E : Value → Shared → Prop} {s : Shared} {h : Heap}
theorem at71 (X : (kTop w.params).In h) : h.get? 71 = some { cls := .type "dict", data := .dict spEs.toArray 24 } := X _ _ (by kernel_rfl)

def spF (k : Int) : Option Value := (spEs.find? fun e => Value.isInt k e.key).map (·.val)
theorem map71 (X : (kTop w.params).In h) : h.MapOf (intKind prog w) 71 spF :=
  ⟨_, spEs.toArray, 24, at71 X, ⟨rfl, rfl, rfl⟩, rfl, fun e he => by
    have he' : e ∈ spEs := by simpa using he
    unfold spEs at he'
    obtain ⟨p, hp, rfl⟩ := List.mem_map.mp he'
    refine ⟨(p.1 : Int), by simp [intKind, Value.isInt], ?_⟩
    have hall : ∀ p ∈ spK, ((p.1 : Nat) : Int) = hashInt (p.1 : Int) := by decide +kernel
    exact hall p hp, fun k => by
    show findBy Value.isInt spEs.toArray k = _
    unfold findBy spF
    rw [← Array.find?_toList]⟩
theorem spF_some {c : Nat} {p : Nat × Nat × Nat} (e : spAt c = some p) : spF (c : Int) = some (.str ⟨#[92, c]⟩ p.2.2) := by
  unfold spF spEs
  rw [List.find?_map]
  have : (spK.find? ((fun e => Value.isInt (c : Int) e.key) ∘ fun p => (⟨(p.1 : Int), .int (p.1 : Int) p.2.1, .str ⟨#[92, p.1]⟩ p.2.2⟩ : DictEntry))) = some p := by
    rw [← e]
    unfold spAt
    congr 1
    funext q
    show Value.isInt (c : Int) (.int (q.1 : Int) q.2.1) = (q.1 == c)
    simp only [Value.isInt]
    rw [Bool.eq_iff_iff]
    simp
    try omega
  rw [this]
  have hc : p.1 = c := by
    unfold spAt at e
    have := List.find?_some e
    simpa using this
  simp [hc]
theorem spF_none {c : Nat} (e : spAt c = none) : spF (c : Int) = none := by
  unfold spF spEs
  rw [List.find?_map]
  have : (spK.find? ((fun e => Value.isInt (c : Int) e.key) ∘ fun p => (⟨(p.1 : Int), .int (p.1 : Int) p.2.1, .str ⟨#[92, p.1]⟩ p.2.2⟩ : DictEntry))) = none := by
    rw [← e]
    unfold spAt
    congr 1
    funext q
    show Value.isInt (c : Int) (.int (q.1 : Int) q.2.1) = (q.1 == c)
    simp only [Value.isInt]
    rw [Bool.eq_iff_iff]
    simp
    try omega
  rw [this]; rfl

theorem lookup_wp {c : Nat} {Q : Mapped → Shared → Prop} (hh : A.handled = none) (X : (kTop w.params).In s.heap)
    (h1 : isSp c = true → ∀ tk, Q (.text ⟨#[92, c]⟩) { s with toks := tk })
    (h0 : isSp c = false → ∀ h' tk, (∀ b o, s.heap.get? b = some o → h'.get? b = some o) → Q .keep { s with heap := h', toks := tk }) :
    wpAny (model prog w) A (tableLookup (.ref 71) c) Q E s := by
  unfold tableLookup
  cases e : spAt c with
  | some p =>
    refine wpAny_bind (wpAny_attempt ?_)
    refine wpAny_bind (wpAny_mkInt ?_)
    refine wpAny_getItem_of (knd := intKind prog w) (k := (c : Int)) (by simp [intKind, Value.isInt]) (map71 (h := s.heap) X) (spF_some e) ?_
    exact wpAny_bind (wpAny_pure (wpAny_bind (wpAny_pure (wpAny_pure (h1 (by simp [isSp, e]) _)))))
  | none =>
    refine wpAny_bind (wpAny_attempt ?_)
    refine wpAny_bind (wpAny_mkInt ?_)
    refine wpAny_getItem_missing_of (knd := intKind prog w) (k := (c : Int)) (by simp [intKind, Value.isInt]) (by decide) hh (map71 (h := s.heap) X) (spF_none e) fun h' e' hn => ?_
    obtain ⟨ob, t, ho, hc, hdat⟩ := hn.there
    refine wpAny_bind (wpAny_isInstance (T := "KeyError") (b := true) ⟨ob, ho, hc⟩ (by rw [isSubtype_type]; kernel_rfl) ?_)
    exact wpAny_bind (wpAny_rule (wpAny_pure (h0 (by simp [isSp, e]) _ _ hn.keeps)))

theorem translate_wp {c : Nat} {t : Tok} {Q : Value → Shared → Prop} (hh : A.handled = none) (X : (kTop w.params).In s.heap)
    (h : ∀ h' tk t', (∀ b o, s.heap.get? b = some o → h'.get? b = some o) → Q (.str (escS c) t') { s with heap := h', toks := tk }) :
    wpAny (model prog w) A (call (.builtin "str.translate") [.str ⟨#[c]⟩ t, .ref 71]) Q E s := by
  refine wpAny_call (codeAny_call_builtin PySem.F.slot_str_translate.plain PySem.F.entry_str_translate (PySem.F.slot_str_translate.check _ _ _ _ _ _ _ _ (typeIs_str _ _ _) (PySem.F.args_str_translate_2 _ _) ?_))
  unfold Builtin.«str.translate»
  refine wpAny_bind ?_
  rw [show strOneArg "translate" ⟨[.str ⟨#[c]⟩ t, .ref 71], []⟩ = pure (.str ⟨#[c]⟩ t, ⟨#[c]⟩, .ref 71) from rfl]
  refine wpAny_pure ?_
  dsimp only
  rw [if_neg (show ¬ (Str.length ⟨#[c]⟩ == 0) = true from Bool.false_ne_true)]
  have hall : (#[c].all fun x => decide (x < 128)) = decide (c < 128) := by simp
  rw [hall, ← Array.forIn_toList]
  show wpAny _ _ (forIn [c] _ _ >>= _) _ _ _
  rw [List.forIn_cons]
  have ht : ∀ n, n ≤ 2 → tooLong n = false := fun n hn => by unfold tooLong; rw [sizeLine_eq]; exact decide_eq_false (by omega)
  have fin : ∀ (x : Str) (n : Nat) (s' : Shared), n ≤ 2 → x.length ≤ 2 → (∀ t', wants Q E (.ok (.ret (.str x t'))) { s' with toks := s'.toks + 1 }) →
      wpAny (model prog w) A.in1 (if tooLong n = true then (do unsupported "str.translate:memory"; retStr x) else retStr x)
        (fun fin s' => match fin with | .done f => wants Q E (.ok f) s' | .again c' => c'.quiet = true ∧ codeAny (model prog w) A c' (wants Q E) s') (fun e s' => wants Q E (.error e) s') s' := by
    intro x n s' hn hx hq
    rw [ht n hn, if_neg Bool.false_ne_true]
    exact wpAny_bind (wpAny_mkStr (wpAny_pure (hq _)) (by rw [sizeLine_eq]; omega))
  by_cases hc : c < 128
  · rw [decide_eq_true hc]
    refine wpAny_bind (wpAny_bind ?_)
    dsimp only
    rw [if_neg (show ¬ tooLong 0 = true by rw [ht 0 (by omega)]; exact Bool.false_ne_true), if_pos rfl]
    show wpAny _ _ (tableLookup (.ref 71) c >>= _) _ _ _
    refine wpAny_bind (lookup_wp hh X (fun hs tk => ?_) fun hs h' tk hk => ?_)
    · show wpAny _ _ (rule "str.translate.fast-road-left" >>= _) _ _ _
      refine wpAny_bind (wpAny_rule ?_)
      show wpAny _ _ (tableLookup (.ref 71) c >>= _) _ _ _
      refine wpAny_bind (lookup_wp (s := { s with toks := tk }) hh X (fun _ tk' => ?_) fun hs' => by rw [hs] at hs'; cases hs')
      refine wpAny_pure ?_
      show wpAny _ _ (forIn ([] : List Nat) _ _) _ _ _
      rw [List.forIn_nil]
      refine wpAny_pure ?_
      refine fin ⟨#[92, c]⟩ 2 _ (Nat.le_refl _) (by show 2 ≤ 2; omega) fun t' => ?_
      have := h s.heap (tk' + 1) t' (fun _ _ e => e)
      rw [escS, hs] at this
      exact this
    · show wpAny _ _ (pure _ >>= _) _ _ _
      refine wpAny_bind (wpAny_pure ?_)
      refine wpAny_pure ?_
      show wpAny _ _ (forIn ([] : List Nat) _ _) _ _ _
      rw [List.forIn_nil]
      refine wpAny_pure ?_
      refine fin ⟨#[c]⟩ 1 _ (by omega) (by show 1 ≤ 2; omega) fun t' => ?_
      have := h h' (tk + 1) t' hk
      rw [escS, hs] at this
      exact this
  · rw [decide_eq_false hc]
    refine wpAny_bind (wpAny_bind ?_)
    dsimp only
    rw [if_neg (show ¬ tooLong 0 = true by rw [ht 0 (by omega)]; exact Bool.false_ne_true), if_neg Bool.false_ne_true, if_neg Bool.false_ne_true]
    refine wpAny_bind (lookup_wp hh X (fun hs tk => ?_) fun hs h' tk hk => ?_)
    · refine wpAny_pure ?_
      show wpAny _ _ (forIn ([] : List Nat) _ _) _ _ _
      rw [List.forIn_nil]
      refine wpAny_pure ?_
      refine fin ⟨#[92, c]⟩ 2 _ (Nat.le_refl _) (by show 2 ≤ 2; omega) fun t' => ?_
      have := h s.heap (tk + 1) t' (fun _ _ e => e)
      rw [escS, hs] at this
      exact this
    · refine wpAny_pure ?_
      show wpAny _ _ (forIn ([] : List Nat) _ _) _ _ _
      rw [List.forIn_nil]
      refine wpAny_pure ?_
      refine fin ⟨#[c]⟩ 1 _ (by omega) (by show 1 ≤ 2; omega) fun t' => ?_
      have := h h' (tk + 1) t' hk
      rw [escS, hs] at this
      exact this
end
end PartA3
section
local macro_rules | `(tactic| walk_at "calm one") => `(tactic| skip)
theorem calm_C2 : False → False := by
  w_top off
  intro h
  walk1
local macro_rules | `(tactic| walk_at "calm two") => `(tactic| skip)
theorem calm2_C2 : False → False := by
  w_top off
  intro h
  walk1
end

section
variable {M : Model} {A : Around} {E : Value → Shared → Prop} {s : Shared}
theorem tk_wrap {α : Type} {t : Sem α} {Q : α → Shared → Prop} (h : wpAny M A t (fun a s' => s.toks ≤ s'.toks → Q a s') E s) : wpAny M A t Q E s :=
  wpAny_mono (wpAny_toks_of (Nat.le_refl _) h) (fun _ _ x => x.2 x.1) (fun _ _ x => x.2)
end
section
variable {prog : Program} {w : World} {A : Around} {E : Value → Shared → Prop} {s : Shared} {h₀ : Heap} {L : Addr} {m : Str → Option Value} {news : List (Addr × Obj)}
def escX (x : Str) : Str := escS (x.cps.getD 0 0)
theorem one_sign {x : Str} (h : x.length = 1) : x = ⟨#[x.cps.getD 0 0]⟩ := by
  obtain ⟨⟨l⟩⟩ := x
  match l, h with
  | [c], _ => rfl
theorem gm_translate {M : Model} {x : Str} {t : Tok} {pl : Sem Bool} {Q : Value × List Value → Shared → Prop} (h : Q (.builtin "str.translate", [.str x t]) s) : wpAny M A (getMethod (.str x t) "translate" pl) Q E s := by
  with_reducible exact GM.of (.str x t) (typeIs_str _ _ _) PySem.F.slot_str_translate PySem.F.type_str_translate GM.noRef h
theorem call_translate {x : Str} {t : Tok} {Q : Value → Shared → Prop} (hh : A.handled = none) (F : Fr h₀ L s.heap m) (X : (kTop w.params).In h₀) (N : News h₀ L s.heap news) (hx : x.length = 1)
    (h : ∀ h' tk t', Fr h₀ L h' m → News h₀ L h' news → Q (.str (escX x) t') { s with heap := h', toks := tk }) :
    wpAny (model prog w) A (call (.builtin "str.translate") [.str x t, .ref 71]) Q E s := by
  obtain ⟨c, rfl⟩ : ∃ c, x = ⟨#[c]⟩ := ⟨_, one_sign hx⟩
  have e : escX ⟨#[c]⟩ = escS c := congrArg escS rfl
  rw [e] at h
  exact translate_wp hh (X.keeps F.keep) fun h' tk t' hk => h h' tk t' (F.keeps hk) (N.grown hk)
end
def hasS (t y : Str) : Bool := !(Builtin.Str.occurrences t y 0 t.length 1).isEmpty
def takesS (p y : Str) : Bool :=
  if Txt.slice p none (some 2) == Str.ofString "[^" then !hasS (Txt.slice p (some 2) (some (-1))) y
  else if Txt.slice p none (some 1) == Str.ofString "[" then hasS (Txt.replace (Txt.slice p (some 1) (some (-1))) (Str.ofString "\\") (Str.ofString "")) y
  else y == Txt.slice p (some (-1)) none

local macro_rules | `(tactic| walk_at "subscriptTail Name Slice str ref") => `(tactic| (k_here; (fail_if_success (with_reducible show wpAny _ _ _ (fun _ s' => _ ≤ Shared.toks s' → _) _ _)); refine tk_wrap ?_))
local macro_rules | `(tactic| walk_at "forall") => `(tactic| (k_here; (with_reducible show (_ ≤ Shared.toks _ → _)); intro hTk; (try dsimp only at hTk)))
local macro_rules | `(tactic| walk_at "call builtin:str.replace") => `(tactic| (k_here; refine SC.replaceW (neN (by omega)) (neN (by omega)) (neN (by omega)) (by decide) (by omega) (by decide) ?_; intro _ _))
local macro_rules | `(tactic| walk_at "execs cons") => `(tactic| (k_here; refine wpAny_execs_cons ?_))
local macro_rules | `(tactic| walk_at "execs nil") => `(tactic| (k_here; refine wpAny_execs_nil ?_))
local macro_rules | `(tactic| walk_at "getMethod str") => `(tactic| (k_here; refine gm_translate ?_))
local macro_rules | `(tactic| walk_at "call builtin:str.translate") => `(tactic| (k_here; k_dflt (refine' call_translate ?k0 ?k1 ?k2 ?k3 ?k4 ?_; (case k0 => rfl); (case k1 => k_asm); (case k2 => k_asm); (case k3 => k_asm); (case k4 => omega); k_whole); intro h' tk' t' F' N'))
section
variable {prog : Program} {w : World} {mean : ExcName → Option Value} {mg mb : Str → Option Value}
set_option maxHeartbeats 2000000 in
theorem c_takes (x y : Str) (t u : Tok) : Ctr prog w mean mg mb 102 2 [.str x t, .str y u] (x.length ≤ 300 ∧ y.length ≤ 300) (fun _ => .bool (takesS x y)) := by
  intro dp un gd cn cs a ccd cl outer A₀ base h₀ L m news s Q E B F X N T hk hpre hdp hun hret
  obtain ⟨hp1, hp2⟩ := hpre
  refine wpAny_call ?_
  k_dflt (refine' code_def (binds := [(Str.ofString "part", Value.str x t), (Str.ofString "sign", Value.str y u)]) ?k1 ?k2 ?k3 ?k4 ?k5 ?kA ?kF ?kK ?k6 ?k7 ?k8 ?k9 ?kB ?_ ?c2 ?c3 ?c4 ?c5; (case kA => exact rfl); (case kF => exact rfl); (case kK => assumption); (case k1 => k_asm); (case k2 => k_asm); (case k3 => k_asm); (case k4 => k_asm); (case k5 => k_asm); (case k6 => k_is); (case k7 => k_is); (case k8 => ktr_room); (case k9 => exact BindsTo.of_eq rfl); (case c5 => decide); (case kB => exact locs rfl); (case c2 => exact rfl); (case c3 => exact rfl); (case c4 => exact rfl); k_whole; intro g' L' h' FG' F' N' B' X' T'; (try dsimp only [List.reverse_cons, List.reverse_nil, List.nil_append, List.cons_append] at F'); (try dsimp only); (try k_fold))
  k_steps
  all_goals exact cb_retB (Q := Q) hret (by simp only [takesS, hasS, *, Bool.not_not, if_true, Bool.false_eq_true, if_false]) (by assumption) (by first | assumption | exact cb_drop (by assumption) (by kcj_all))
theorem c_escape (x : Str) (t : Tok) : Ctr prog w mean mg mb 81 2 [.str x t] (x.length = 1) (fun t => .str (escX x) t) := by
  intro dp un gd cn cs a ccd cl outer A₀ base h₀ L m news s Q E B F X N T hk hpre hdp hun hret
  refine wpAny_call ?_
  k_dflt (refine' code_def (binds := [(Str.ofString "pattern", Value.str x t)]) ?k1 ?k2 ?k3 ?k4 ?k5 ?kA ?kF ?kK ?k6 ?k7 ?k8 ?k9 ?kB ?_ ?c2 ?c3 ?c4 ?c5; (case kA => exact rfl); (case kF => exact rfl); (case kK => assumption); (case k1 => k_asm); (case k2 => k_asm); (case k3 => k_asm); (case k4 => k_asm); (case k5 => k_asm); (case k6 => k_is); (case k7 => k_is); (case k8 => ktr_room); (case k9 => exact BindsTo.of_eq rfl); (case c5 => decide); (case kB => exact locs rfl); (case c2 => exact rfl); (case c3 => exact rfl); (case c4 => exact rfl); k_whole; intro g' L' h' FG' F' N' B' X' T'; (try dsimp only [List.reverse_cons, List.reverse_nil, List.nil_append, List.cons_append] at F'); (try dsimp only); (try k_fold))
  k_steps
  all_goals exact cb_retS (Q := Q) hret rfl (by assumption) (by first | assumption | exact cb_drop (by assumption) (by kcj_all))
end
section PartA4
open PySem PySem.W PyProof.Rows PySem.Spec PySem.Calls PySem.Builtin PySem.Builtin.ObjectAttr
section
local macro_rules | `(tactic| walk_at "calm one") => `(tactic| skip)
theorem calm_A4 : False → False := by
  w_top off
  intro h
  walk1
local macro_rules | `(tactic| walk_at "calm two") => `(tactic| skip)
theorem calm2_A4 : False → False := by
  w_top off
  intro h
  walk1
end
abbrev bmObj (l : Addr) : Obj := { cls := .type "builtin_function_or_method", data := .fields #[.builtin "list.append", .ref l] }

theorem slot_mdget : Slot "method_descriptor" "__get__" "method_descriptor.__get__" :=
  .of (owner := "method_descriptor") (n := "__get__") (by rw [typeLookup_type, builtinLookup_eq_fast]; kernel_rfl) (by decide +kernel) (by decide +kernel) (by decide +kernel)
    (by first | exact .inl (by decide +kernel) | exact .inr (by decide +kernel)) (by rw [isSubtype_type]; kernel_rfl)
theorem entry_mdget : entryFor table "method_descriptor.__get__" = some Builtin.«method_descriptor.__get__» := entryFor_of_tree (by kernel_rfl)
theorem args_mdget (a b c : Value) : argsOk "method_descriptor.__get__" ⟨[a, b, c], []⟩ := by
  unfold argsOk
  kernel_rfl
theorem type_append : typeOf (.builtin "list.append") = pure (.type "method_descriptor") := PySem.F.type_list_append
theorem md_set : typeLookup (.type "method_descriptor") "__set__" = pure none := by rw [typeLookup_type, builtinLookup_eq_fast]; kernel_rfl
theorem md_delete : typeLookup (.type "method_descriptor") "__delete__" = pure none := by rw [typeLookup_type, builtinLookup_eq_fast]; kernel_rfl
section
variable {prog : Program} {w : World} {A : Around} {E : Value → Shared → Prop} {s : Shared}

theorem md_get {l : Addr} {xs : Array Value} {n : Nat} {sl : Array (Option Value)} {R : Result → Shared → Prop} (ho : s.heap.get? l = some { cls := .type "list", dict := none, data := .seq xs n, slots := sl })
    (h : R (.ok (.ret (.ref s.heap.objs.size))) { s with heap := s.heap.push (bmObj l) }) : codeAny (model prog w) A (.call (.builtin "method_descriptor.__get__") ⟨[.builtin "list.append", .ref l, .type "list"], []⟩) R s := by
  obtain ⟨hh, g, dr, t, os⟩ := s
  have hl : isSubtype (.type "list") (.type "list") = pure true := by rw [isSubtype_type]; kernel_rfl
  refine codeAny_call_builtin slot_mdget.plain entry_mdget (slot_mdget.check _ _ _ _ _ _ _ _ PySem.F.type_list_append (args_mdget _ _ _) ?_)
  dsimp only at ho
  repeat k_node
  exact h

theorem oga_append {l : Addr} {xs : Array Value} {n : Nat} {sl : Array (Option Value)} {u : Tok} {Q : Value → Shared → Prop} (ho : s.heap.get? l = some { cls := .type "list", dict := none, data := .seq xs n, slots := sl })
    (h : Q (.ref s.heap.objs.size) { s with heap := s.heap.push (bmObj l) }) :
    wpAny (model prog w) A (call (.builtin "list.__getattribute__") [.ref l, .str (Str.ofString "append") u]) Q E s := by
  obtain ⟨hh, g, dr, t, os⟩ := s
  refine wpAny_call (codeAny_call_builtin PySem.F.slot_list_getattribute.plain am_entry_list_getattribute (PySem.F.slot_list_getattribute.check _ _ _ _ _ _ _ _ ⟨_, ho, rfl⟩ (PySem.F.args_list_getattribute_2 _ _) ?_))
  dsimp only at ho
  have hT : ∀ h tk', h = hh → (⟨h, g, dr, tk', os⟩ : Shared).TypeIs (.ref l) "list" := fun _ _ e => e ▸ ⟨_, ho, rfl⟩
  have hB : ∀ s : Shared, s.TypeIs (.builtin "list.append") "method_descriptor" := fun _ => PySem.F.type_list_append
  unfold Builtin.«object.__getattribute__»
  refine wpAny_bind (wpAny_pure ?_)
  refine wpAny_bind (wpAny_pure ?_)
  refine wpAny_bind (wpAny_typeOf (hT _ _ rfl) ?_)
  refine wpAny_bind ?_
  unfold find
  refine wpAny_bind (wpAny_of_eq PySem.F.slot_list_append.lookup ?_)
  refine wpAny_bind ?_
  show wpAny _ _ (specialOf (.builtin "list.append") "__get__") _ _ _
  refine wpAny_specialOf (hB _) slot_mdget.lookup ?_
  refine wpAny_bind ?_
  show wpAny _ _ (takesStores (.builtin "list.append") >>= _) _ _ _
  unfold takesStores
  refine wpAny_bind (wpAny_bind (wpAny_specialOf (hB _) md_set ?_))
  refine wpAny_bind (wpAny_specialOf (hB _) md_delete ?_)
  refine wpAny_pure ?_
  refine wpAny_pure ?_
  show wpAny _ _ (ownThenClass _ _ _ _) _ _ _
  refine wpAny_mono (Q := fun r s' => r = .bind (.builtin "method_descriptor.__get__") (.builtin "list.append") ∧ s' = ⟨hh, g, dr, t, os⟩) (E := fun _ _ => False) ?_ ?_ (fun _ _ z => z.elim)
  · unfold ownThenClass inOwnDict ObjectAttr.ownDict inDict
    repeat k_node
    exact ⟨rfl, rfl⟩
  · rintro _ _ ⟨rfl, rfl⟩
    show wpAny _ _ (holding [.builtin "list.append"] (call (.builtin "method_descriptor.__get__") [.builtin "list.append", .ref l, .type "list"]) >>= ret) _ _ _
    refine wpAny_bind (wpAny_holding (wpAny_call (md_get (s := ⟨hh, g, dr, t, os⟩) ho ?_)))
    exact wpAny_pure h

theorem getAttr_append {l : Addr} {xs : Array Value} {n : Nat} {sl : Array (Option Value)} {ex : Bool} {Q : Value → Shared → Prop} (ho : s.heap.get? l = some { cls := .type "list", dict := none, data := .seq xs n, slots := sl })
    (h : Q (.ref s.heap.objs.size) { s with heap := s.heap.push (bmObj l), toks := s.toks + 1 }) :
    wpAny (model prog w) A (getAttr (.ref l) (Str.ofString "append") ex) Q E s := by
  obtain ⟨hh, g, dr, t, os⟩ := s
  have hT : ∀ tk', (⟨hh, g, dr, tk', os⟩ : Shared).TypeIs (.ref l) "list" := fun _ => ⟨_, ho, rfl⟩
  unfold getAttr getAttrBy
  refine wpAny_bind (wpAny_mkText (wpAny_holding (wpAny_bind (wpAny_typeOf (hT _) (wpAny_bind (wpAny_of_eq PySem.F.slot_list_getattribute.lookup ?_))))))
  show wpAny _ _ (getAttrByItsOwn _ _ _ _ _ _) _ _ _
  unfold getAttrByItsOwn
  refine wpAny_bind (wpAny_pure ?_)
  refine wpAny_bind (wpAny_attempt (wpAny_holding ?_))
  unfold callGetattribute
  rw [show (ex && onTheHeap (.builtin "list.__getattribute__")) = false by cases ex <;> rfl, if_neg Bool.false_ne_true]
  unfold boundAndCalled
  rw [PySem.F.slot_list_getattribute.bind]
  refine wpAny_bind (wpAny_pure ?_)
  refine oga_append (s := ⟨hh, g, dr, t + 1, os⟩) ho ?_
  exact wpAny_pure h

theorem sig_append : ∃ sig, Manifest.signature? "list.append" = some sig ∧ ∀ (a b : Value), Bind.checkArgs "list.append" { sig with full := s!"{Bind.lastOf "list"}.{Bind.lastOf "list.append"}" } ⟨[a, b], []⟩ = pure () :=
  ⟨⟨.oneArg, "list.append", "append", .self, [⟨"object", .posOnly, true⟩]⟩, by kernel_rfl, fun a b => by kernel_rfl⟩

theorem call_bm {q l : Addr} {its : Array Value} {n : Nat} {x : Value} {Q : Value → Shared → Prop} (hq : s.heap.get? q = some (bmObj l)) (ho : s.heap.get? l = some { cls := .type "list", data := .seq its n })
    (h : ∀ h', Heap.SameBut l s.heap h' → h'.get? l = some { cls := .type "list", data := .seq (its.push x) (n + 1) } → Q .none { s with heap := h' })
    (hsz : its.size ≤ sizeLine) : wpAny (model prog w) A (call (.ref q) [x]) Q E s := by
  obtain ⟨sig, hs, hck⟩ := sig_append
  have hT : s.TypeIs (.ref l) "list" := ⟨_, ho, rfl⟩
  refine wpAny_call (codeAny_of_tree ?_)
  show wpAny _ _ (callAny (.ref q) ⟨[x], []⟩) _ _ _
  unfold callAny
  refine wpAny_bind (wpAny_load hq ?_)
  show wpAny _ _ (checkBoundCall "list.append" ⟨[.ref l, x], []⟩ >>= fun _ => again (.builtin "list.append" ⟨[.ref l, x], []⟩)) _ _ _
  refine wpAny_bind ?_
  unfold checkBoundCall
  rw [hs]
  dsimp only
  rw [show builtinKind "list.append" = some .method by decide +kernel]
  show wpAny _ _ (isInstance (.ref l) (.type "module") >>= _) _ _ _
  refine wpAny_bind (wpAny_isInstance (b := false) hT (by rw [isSubtype_type]; kernel_rfl) ?_)
  rw [show (Manifest.varargsMethods.contains "list.append" || false) = false by decide +kernel, if_neg Bool.false_ne_true]
  show wpAny _ _ (isType (.ref l) >>= _) _ _ _
  refine wpAny_bind (m := isType (.ref l)) (wpAny_bind (wpAny_loadPart ho (wpAny_pure ?_)))
  show wpAny _ _ (typeOf (.ref l) >>= _) _ _ _
  refine wpAny_bind (wpAny_typeOf hT ?_)
  show wpAny _ _ (Bind.checkArgs "list.append" { sig with full := s!"{Bind.lastOf "list"}.{Bind.lastOf "list.append"}" } ⟨[.ref l, x], []⟩) _ _ _
  rw [hck]
  refine wpAny_pure ?_
  refine wpAny_pure ?_
  refine ⟨Code.quiet_builtin _ (by decide +kernel), codeAny_builtin PySem.F.entry_list_append ?_⟩
  show wpAny _ _ (updateSeq l (·.push x) >>= fun _ => ret .none) _ _ s
  refine wpAny_bind (wpAny_updateSeq ho rfl (wpAny_pure (h _ (Heap.SameBut.update ..) ?_)))
  rw [Heap.get?_update_self _ ho (by rw [mapSeq_push]; rfl), mapSeq_push]
end
end PartA4
section
local macro_rules | `(tactic| walk_at "calm one") => `(tactic| skip)
theorem calm_B1 : False → False := by
  w_top off
  intro h
  walk1
local macro_rules | `(tactic| walk_at "calm two") => `(tactic| skip)
theorem calm2_B1 : False → False := by
  w_top off
  intro h
  walk1
end
def BmAt (h : Heap) (q l : Addr) : Prop := h.get? q = some (bmObj l)
section
variable {prog : Program} {w : World} {A : Around} {E : Value → Shared → Prop} {s : Shared} {h₀ : Heap} {L : Addr} {m : Str → Option Value} {news news' : List (Addr × Obj)}
theorem ga_append {l : Addr} {its : Array Value} {n : Nat} {ex : Bool} {Q : Value → Shared → Prop} (F : Fr h₀ L s.heap m) (N : News h₀ L s.heap news) (hm : (l, listOf its n) ∈ news)
    (h : ∀ q h', Fr h₀ L h' m → News h₀ L h' ((q, bmObj l) :: news) → (∀ p ∈ news, p.1 < q) → Q (.ref q) { s with heap := h', toks := s.toks + 1 }) :
    wpAny (model prog w) A (getAttr (.ref l) (Str.ofString "append") ex) Q E s :=
  getAttr_append (N.get hm) (h _ _ (F.push _) (N.push F _) fun p hp => Heap.lt_size (N p hp).1)
theorem callWith_bm {q l : Addr} {pos : Pos} {e : Expr} {rest : List Expr} {env : Env} {Q : Value → Shared → Prop} (_N : News h₀ L s.heap news) (_hq : (q, bmObj l) ∈ news)
    (h : wpAny (model prog w) A (spliced (backTo pos (starEach (e :: rest) env))) (fun vs s₁ => BmAt s₁.heap q l ∧ wpAny (model prog w) A (call (.ref q) ([] ++ vs)) Q E s₁) E s)
    (he : starEach (e :: rest) env = (false, eval e env) :: starEach rest env := by rfl) (hplain : (backTo pos (starEach rest env)).any (·.1) = false := by rfl) :
    wpAny (model prog w) A (callWith pos (.ref q) [] (backTo pos (starEach (e :: rest) env)) []) Q E s := by
  rw [he] at h ⊢
  exact callWith_of (P := fun h => BmAt h q l) (by show ((false || (backTo pos (starEach rest env)).any (·.1)) || false) = false; rw [hplain]; rfl)
    (fun h hb => ⟨.machine, .inr (.inl rfl), (Looks.ld (part := none) hb).andThen .now⟩) (evalArgs_plain h)
theorem call_bmN {q l : Addr} {its : Array Value} {n : Nat} {x : Value} {Q : Value → Shared → Prop} (F : Fr h₀ L s.heap m) (N : News h₀ L s.heap news) (hq : (q, bmObj l) ∈ news)
    (U : Upd l (listOf its n) (listOf (its.push x) (n + 1)) news news') (hsz : its.size ≤ sizeLine)
    (h : ∀ h', Fr h₀ L h' m → News h₀ L h' news' → Q .none { s with heap := h' }) : wpAny (model prog w) A (call (.ref q) [x]) Q E s := by
  obtain ⟨pre, post, rfl, rfl, a, b⟩ := U.split
  have z := N (l, listOf its n) (List.mem_append.mpr (.inr (.head _)))
  exact call_bm (N.get hq) z.1 (fun h' hs ho' => h h' (F.change hs z.2.1 z.2.2) (news_set N a b hs ho')) hsz
end
local macro_rules | `(tactic| walk_at "getAttr ref") => `(tactic| (k_here; k_dflt (refine' ga_append ?k1 ?k2 ?k3 ?_; (case k1 => k_asm); (case k2 => k_asm); (case k3 => k_mem); k_whole); intro q' h' F' N' l1; (try k_lt l1); (try k_sweep)))
local macro_rules | `(tactic| walk_at "callWith ref") => `(tactic| (k_here; k_dflt (refine' callWith_bm ?k1 ?k2 ?_; (case k1 => k_asm); (case k2 => k_mem); k_whole)))
local macro_rules | `(tactic| walk_at "And") => `(tactic| ((with_reducible show BmAt _ _ _ ∧ _); refine ⟨News.get (by k_asm) (by k_mem), ?_⟩; try dsimp only [List.nil_append, List.cons_append]))
local macro_rules | `(tactic| walk_at "call ref") => `(tactic| (k_here; k_dflt (refine' call_bmN ?k1 ?k2 ?k3 ?k4 ?k5 ?_; (case k1 => k_asm); (case k2 => k_asm); (case k3 => k_mem); (case k4 => k_upd); (case k5 => first | size_fits | (simp only [List.size_toArray]; omega)); k_whole); intro h' F' N'; (try k_sweep)))
section PartA5
open PySem PySem.W PyProof.Rows PySem.Spec PySem.Calls PySem.Sre PySem.Builtin.Re
section
local macro_rules | `(tactic| walk_at "calm one") => `(tactic| skip)
theorem calm_A5 : False → False := by
  w_top off
  intro h
  walk1
local macro_rules | `(tactic| walk_at "calm two") => `(tactic| skip)
theorem calm2_A5 : False → False := by
  w_top off
  intro h
  walk1
end
def twItems : Array Value := #[.int 14 0, .int 14 0, .int 4 0, .int 1 0, .int 1 0, .int 9 0, .int 0 0, .int 64 0, .int 0 0, .int 1342177280 0, .int 0 0, .int 0 0, .int 0 0, .int 0 0, .int 0 0, .int 17 0, .int 0 0, .int 13 0, .int 11 0, .int 9 0, .int 0 0, .int 64 0, .int 0 0, .int 1342177280 0, .int 0 0, .int 0 0, .int 0 0, .int 0 0, .int 0 0, .int 17 0, .int 1 0, .int 1 0]
def twC : Array Nat := #[14, 14, 4, 1, 1, 9, 0, 64, 0, 1342177280, 0, 0, 0, 0, 0, 17, 0, 13, 11, 9, 0, 64, 0, 1342177280, 0, 0, 0, 0, 0, 17, 1, 1]
theorem slot_sub : Slot "re.Pattern" "sub" "re.Pattern.sub" :=
  .of (owner := "re.Pattern") (n := "sub") (by rw [typeLookup_type, builtinLookup_eq_fast]; kernel_rfl) (by decide +kernel) (by decide +kernel) (by decide +kernel)
    (by first | exact .inl (by decide +kernel) | exact .inr (by decide +kernel)) (by rw [isSubtype_type]; kernel_rfl)
theorem type_sub : typeOf (.builtin "re.Pattern.sub") = pure (.type "method_descriptor") := by show builtinType _ = _; rw [builtinType_eq_fast]; kernel_rfl
theorem entry_sub : entryFor table "re.Pattern.sub" = some Builtin.«re.Pattern.sub» := entryFor_of_tree (by kernel_rfl)
theorem entry_subloop : entryFor table "re.Pattern.sub.loop" = some Builtin.«re.Pattern.sub.loop» := entryFor_of_tree (by kernel_rfl)
theorem args_sub (a b c : Value) : argsOk "re.Pattern.sub" ⟨[a, b, c], []⟩ := by
  unfold argsOk; rw [signature?_of (id := "re.Pattern.sub") (n := ['b', 'u', 's']) (o := ['n', 'r', 'e', 't', 't', 'a', 'P', '.', 'e', 'r']) (by kernel_rfl) owner_pat]; kernel_rfl
theorem fn_call : typeLookup (.type "function") "__call__" = pure (some (.builtin "function.__call__")) := by rw [typeLookup_type, builtinLookup_eq_fast]; kernel_rfl

def NoTw (x : Str) : Prop := ∃ k, k ≤ 100 ∧ (iter k (forSearch twC x.cps 1 0 x.cps.size false)).outcome = some (oc false)
theorem noTw1 : NoTw ⟨#[42]⟩ := ⟨100, by decide, by rfl⟩
theorem noTw2 : NoTw ⟨#[63]⟩ := ⟨100, by decide, by rfl⟩
theorem noTw3 : NoTw ⟨#[91]⟩ := ⟨100, by decide, by rfl⟩
theorem noTw4 : NoTw ⟨#[33, 46]⟩ := ⟨100, by decide, by rfl⟩
section
variable {prog : Program} {w : World} {A : Around} {E : Value → Shared → Prop} {s : Shared}

theorem whole_wp {a c : Addr} {o : Obj} {oc : Obj} {p0 p1 p3 p4 : Value} {nn : Nat} {x : Str} {t : Tok} {Q : ReTarget → Shared → Prop} (ho : s.heap.get? a = some o)
    (hd : o.data = .fields #[p0, p1, .int 1 0, p3, p4, .ref c, .int 0 0]) (hoc : s.heap.get? c = some oc) (hdc : oc.data = .seq twItems nn)
    (h : Q { pattern := .ref a, string := .str x t, code := twC, text := x.cps, kind := 0, groups := 1, pos := 0, lim := x.cps.size } s) :
    wpAny (model prog w) A (reWholeTarget (.ref a) (.str x t)) Q E s := by
  unfold reWholeTarget
  refine wpAny_bind (wpAny_fieldsOf ho hd ?_)
  show wpAny _ _ (reTextOf (.str x t) >>= _) _ _ s
  rw [show reTextOf (.str x t) = pure (x.cps, 0) from rfl]
  refine wpAny_bind (wpAny_pure ?_)
  show wpAny _ _ (reNoCollectionInside (.str x t) 0 >>= _) _ _ s
  rw [show reNoCollectionInside (.str x t) 0 = pure () from rfl]
  refine wpAny_bind (wpAny_pure ?_)
  show wpAny _ _ (reRawItems (.ref c) >>= _) _ _ s
  refine wpAny_bind ?_
  show wpAny _ _ (seqItems? (.ref c) >>= _) _ _ s
  refine wpAny_bind (wpAny_seqItems hoc hdc (wpAny_pure (wpAny_pure ?_)))
  rw [show Array.map (fun x => x.toNat) (Array.map reRawOf ((some twItems).getD #[])) = twC by simp [twItems, reRawOf, twC], show reRawNat (#[p0, p1, Value.int 1 0, p3, p4, Value.ref c, Value.int 0 0].getD 2 Value.none) = 1 from rfl]
  exact h

theorem join_one {l : Addr} {o : Obj} {n : Nat} {x y : Str} {t u : Tok} {Q : Value → Shared → Prop} (ho : s.heap.get? l = some o) (hc : o.cls = .type "list") (hd : o.data = .seq #[.str x t] n) (h : Q (.str x t) s) :
    wpAny (model prog w) A (call (.builtin "str.join") [.str y u, .ref l]) Q E s := by
  refine wpAny_call (codeAny_call_builtin PySem.F.slot_str_join.plain PySem.F.entry_str_join (PySem.F.slot_str_join.check _ _ _ _ _ _ _ _ (typeIs_str _ _ _) (PySem.F.args_str_join_2 _ _) ?_))
  unfold Builtin.«str.join»
  refine wpAny_bind ?_
  rw [show Builtin.Str.strOneArg "join" ⟨[.str y u, .ref l], []⟩ = pure (.str y u, y, .ref l) from rfl]
  refine wpAny_pure ?_
  dsimp only
  refine wpAny_bind (wpAny_typeOf ⟨o, ho, hc⟩ ?_)
  rw [if_pos (by decide)]
  refine wpAny_bind (wpAny_seqItems ho hd (wpAny_bind (wpAny_pure ?_)))
  exact wpAny_bind (wpAny_rule (wpAny_pure h))

theorem sub_wp {a c : Addr} {o : Obj} {oc : Obj} {p0 p1 p3 p4 : Value} {nn : Nat} {x : Str} {t : Tok} {lam : Addr} {ol : Obj} {Q : Value → Shared → Prop} (ho : s.heap.get? a = some o) (hcl : o.cls = .type "re.Pattern")
    (hd : o.data = .fields #[p0, p1, .int 1 0, p3, p4, .ref c, .int 0 0]) (hoc : s.heap.get? c = some oc) (hdc : oc.data = .seq twItems nn)
    (hl : s.heap.get? lam = some ol) (hlc : ol.cls = .type "function") (hx : x.length ≤ 1000) (hx1 : 1 ≤ x.length) (hno : NoTw x)
    (h : ∀ h' tk t', (∀ b o, s.heap.get? b = some o → h'.get? b = some o) → Q (.str x t') { s with heap := h', toks := tk }) :
    wpAny (model prog w) A (call (.builtin "re.Pattern.sub") [.ref a, .ref lam, .str x t]) Q E s := by
  refine wpAny_call (codeAny_call_builtin slot_sub.plain entry_sub (slot_sub.check _ _ _ _ _ _ _ _ ⟨o, ho, hcl⟩ (args_sub _ _ _) ?_))
  show wpAny _ _ (reNamed "re.Pattern.sub" "sub" ["repl", "string", "count"] 2 [.ref lam, .str x t] [] >>= _) _ _ s
  rw [show reNamed "re.Pattern.sub" "sub" ["repl", "string", "count"] 2 [.ref lam, .str x t] [] = pure [some (.ref lam), some (.str x t), none] from rfl]
  refine wpAny_bind (wpAny_pure ?_)
  show wpAny _ _ (specialOf (.ref lam) "__call__" >>= _) _ _ s
  refine wpAny_bind (wpAny_specialOf ⟨ol, hl, hlc⟩ fn_call ?_)
  show wpAny _ _ (pure false >>= _) _ _ s
  refine wpAny_bind (wpAny_pure ?_)
  show wpAny _ _ (pure (Value.ref lam, 1) >>= _) _ _ s
  refine wpAny_bind (wpAny_pure ?_)
  show wpAny _ _ (holding [.ref lam] (reWholeTarget (.ref a) (.str x t)) >>= _) _ _ s
  refine wpAny_bind (wpAny_holding (whole_wp ho hd hoc hdc ?_))
  show wpAny _ _ (reNotHeld "re.Pattern.sub" (.str x t) >>= _) _ _ s
  refine wpAny_bind (m := reNotHeld "re.Pattern.sub" (.str x t)) (wpAny_bind (wpAny_isInstance (b := false) (typeIs_str _ _ _) (by rw [isSubtype_type]; kernel_rfl) ?_))
  refine wpAny_pure ?_
  show wpAny _ _ (newList [] >>= _) _ _ s
  refine wpAny_bind (wpAny_newObj_type ?_ (by show 0 ≤ sizeLine; omega))
  have up : ∀ b o, s.heap.get? b = some o → (s.heap.push { cls := .type "list", data := .seq ([] : List Value).toArray }).get? b = some o := fun b o e => Heap.get?_push_of_some _ e
  have hlst := Heap.get?_push_size s.heap (o := { cls := .type "list", data := .seq ([] : List Value).toArray }) rfl
  refine wpAny_pure ⟨Code.quiet_builtin _ (by decide +kernel), codeAny_builtin entry_subloop ?_⟩
  show wpAny _ _ (reWholeTarget (.ref a) (.str x t) >>= _) _ _ _
  refine wpAny_bind (whole_wp (up _ _ ho) hd (up _ _ hoc) hdc ?_)
  show wpAny _ _ (reNextFound _ 0 false >>= _) _ _ _
  obtain ⟨k, hk, hend⟩ := hno
  refine wpAny_bind ?_
  show wpAny _ _ (reRunToEnd (forSearch twC x.cps 1 0 x.cps.size false)) _ _ _
  refine toEnd_wp (b := false) (N := 100) ⟨k, hk, hend⟩ (by decide) fun m' _ => ?_
  show wpAny _ _ (if (0 : Int).toNat < x.cps.size then _ else _) _ _ _
  have hsz : x.cps.size = x.length := rfl
  rw [if_pos (by rw [hsz]; show 0 < x.length; omega)]
  have hfull : x.cps.extract 0 x.cps.size = x.cps := by simp
  refine wpAny_bind ?_
  show wpAny _ _ (mkStr ⟨x.cps.extract 0 x.cps.size⟩) _ _ _
  rw [hfull]
  refine wpAny_mkStr ?_ (by rw [sizeLine_eq]; show x.length ≤ _; omega)
  have hfr : (Obj.mapSeq (fun xs => xs.push (.str x s.toks)) { cls := .type "list", data := .seq ([] : List Value).toArray }).isFreed = false := rfl
  have hl2 := Heap.get?_update_self (Obj.mapSeq fun xs => xs.push (.str x s.toks)) hlst hfr
  have up2 : ∀ b o, s.heap.get? b = some o → ((s.heap.push { cls := .type "list", data := .seq ([] : List Value).toArray }).update s.heap.objs.size (Obj.mapSeq fun xs => xs.push (.str x s.toks))).get? b = some o := fun b o e =>
    (Heap.get?_update_ne _ _ _ _ (fun q => by rw [q] at e; exact absurd (Heap.lt_size e) (Nat.lt_irrefl _))).trans (up b o e)
  refine wpAny_bind (wpAny_updateSeq hlst rfl ?_ (by show 0 ≤ sizeLine; omega) (by show 1 ≤ sizeLine + 1; omega))
  dsimp only
  generalize ((s.heap.push { cls := .type "list", data := .seq ([] : List Value).toArray }).update s.heap.objs.size (Obj.mapSeq fun xs => xs.push (.str x s.toks))) = H2 at hl2 up2 ⊢
  refine wpAny_bind ?_
  show wpAny _ _ (mkStr ⟨x.cps.extract 0 0⟩) _ _ _
  refine wpAny_mkStr ?_ (by rw [sizeLine_eq]; show (x.cps.extract 0 0).size ≤ _; simp)
  refine wpAny_bind (wpAny_seqItems hl2 rfl ?_)
  show wpAny _ _ (call (.builtin "str.join") [_, .ref s.heap.objs.size] >>= _) _ _ _
  refine wpAny_bind (join_one (n := 1) hl2 rfl rfl ?_)
  exact wpAny_pure (h _ _ _ up2)
end
end PartA5
section PartP1
section
local macro_rules | `(tactic| walk_at "calm one") => `(tactic| skip)
theorem calm_P1 : False → False := by
  w_top off
  intro h
  walk1
local macro_rules | `(tactic| walk_at "calm two") => `(tactic| skip)
theorem calm2_P1 : False → False := by
  w_top off
  intro h
  walk1
end
structure Blk (P : Prop) : Prop where
  out : P
theorem blk_out {P : Prop} (h : Blk P) : P := h.out

def BStep (h₀ : Heap) (L : Addr) (s : Shared) (J : Nat → (Str → Option Value) → List (Addr × Obj) → Prop) (Q : Flow → Shared → Prop) (n : Nat) (f : Flow) (s₃ : Shared) : Prop :=
  match f with
  | .next | .cont => Blk (∃ h' tk m₂ news₂ n', s₃ = { s with heap := h', toks := tk } ∧ Fr h₀ L h' m₂ ∧ News h₀ L h' news₂ ∧ n' < n ∧ J n' m₂ news₂)
  | .brk => Q .next s₃
  | .ret v => Q (.ret v) s₃
section
variable {prog : Program} {w : World} {A : Around} {E : Value → Shared → Prop} {Q : Flow → Shared → Prop} {s : Shared} {env : Env} {h₀ : Heap} {L : Addr}
theorem While_B {test : Expr} {body : List Stmt} {pos : Pos} {m : Str → Option Value} {news : List (Addr × Obj)} (J : Nat → (Str → Option Value) → List (Addr × Obj) → Prop) {n₀ : Nat}
    (F : Fr h₀ L s.heap m) (N : News h₀ L s.heap news) (hJ : J n₀ m news)
    (turn : ∀ n m₁ news₁ h₁ tk₁, Fr h₀ L h₁ m₁ → News h₀ L h₁ news₁ → J n m₁ news₁ →
      wpAny (model prog w) A (isTrue test env (eval test env)) (fun b s₂ =>
        if b = true then wpAny (model prog w) A (execs body env) (BStep h₀ L s J Q n) E s₂ else Q .next s₂) E { s with heap := h₁, toks := tk₁ })
    (hE : PassesOwn (model prog w) A env E := by passes_own) :
    wpAny (model prog w) A (exec (.While test body [] pos) env) Q E s := by
  refine While_inv2 J F N hJ (fun n m₁ news₁ h₁ tk₁ F₁ N₁ J₁ => ?_) hE
  refine wpAny_mono (turn n m₁ news₁ h₁ tk₁ F₁ N₁ J₁) (fun b s₂ h₂ => ?_) fun _ _ x => x
  cases b with
  | false => exact h₂
  | true =>
    simp only [if_true] at h₂ ⊢
    refine wpAny_mono h₂ (fun f s₃ h₃ => ?_) fun _ _ x => x
    cases f with
    | next => exact h₃.out
    | cont => exact h₃.out
    | brk => exact h₃
    | ret v => exact h₃
theorem While_C {test : Expr} {body : List Stmt} {pos : Pos} {m : Str → Option Value} {news : List (Addr × Obj)} (J : Nat → (Str → Option Value) → List (Addr × Obj) → Prop) {n₀ : Nat} {hh : Heap} {tt : Nat}
    (F : Fr h₀ L hh m) (N : News h₀ L hh news) (hJ : J n₀ m news)
    (turn : ∀ n m₁ news₁ h₁ tk₁, Fr h₀ L h₁ m₁ → News h₀ L h₁ news₁ → J n m₁ news₁ →
      wpAny (model prog w) A (isTrue test env (eval test env)) (fun b s₂ =>
        if b = true then wpAny (model prog w) A (execs body env) (BStep h₀ L s J Q n) E s₂ else Q .next s₂) E { s with heap := h₁, toks := tk₁ })
    (hE : PassesOwn (model prog w) A env E := by passes_own) :
    wpAny (model prog w) A (exec (.While test body [] pos) env) Q E { s with heap := hh, toks := tt } :=
  While_B (s := { s with heap := hh, toks := tt }) J F N hJ (fun n m₁ news₁ h₁ tk₁ F₁ N₁ J₁ => turn n m₁ news₁ h₁ tk₁ F₁ N₁ J₁) hE
theorem bstep_end {J : Nat → (Str → Option Value) → List (Addr × Obj) → Prop} {n n' : Nat} {h' : Heap} {tk : Nat} {m₂ : Str → Option Value} {news₁ news₂ : List (Addr × Obj)}
    (F : Fr h₀ L h' m₂) (N : News h₀ L h' news₁) (hs : ∀ p ∈ news₂, p ∈ news₁) (hn : n' < n) (hJ : J n' m₂ news₂) :
    Blk (∃ h'' tk' m₂ news₂ n', ({ s with heap := h', toks := tk } : Shared) = { s with heap := h'', toks := tk' } ∧ Fr h₀ L h'' m₂ ∧ News h₀ L h'' news₂ ∧ n' < n ∧ J n' m₂ news₂) :=
  ⟨h', tk, m₂, news₂, n', rfl, F, fun p hp => N p (hs p hp), hn, hJ⟩
theorem bstep_next {J : Nat → (Str → Option Value) → List (Addr × Obj) → Prop} {n n' : Nat} {h' : Heap} {tk : Nat} {m₂ : Str → Option Value} {news₂ : List (Addr × Obj)}
    (F : Fr h₀ L h' m₂) (N : News h₀ L h' news₂) (hn : n' < n) (hJ : J n' m₂ news₂) :
    BStep h₀ L s J Q n .next { s with heap := h', toks := tk } := bstep_end F N (fun _ hp => hp) hn hJ
end

/-- a glob's items as the law writes them -/
inductive PTok where
  | star
  | lit (c : Nat)
  | box (c : Nat)
  | nd
def PTok.txt : PTok → List Nat
  | .star => [42]
  | .lit c => [c]
  | .box c => [91, c, 93]
  | .nd => [91, 33, 46, 93]
def PTok.ok : PTok → Bool
  | .lit c => c != 42 && c != 63 && c != 91
  | .box c => c == 42 || c == 63 || c == 91
  | _ => true
def txts (ts : List PTok) : List Nat := ts.flatMap PTok.txt
def boxS (c : Nat) : Str := if c = 91 then ⟨#[91, 92, 91, 93]⟩ else ⟨#[91, c, 93]⟩
def ndS : Str := ⟨#[91, 94, 46, 93]⟩
def addPart (ps : List (Option Str)) : PTok → List (Option Str)
  | .star => if ps.getLast? = some none then ps else ps ++ [none]
  | .lit c => ps ++ [some (escS c)]
  | .box c => ps ++ [some (boxS c)]
  | .nd => ps ++ [some ndS]
def partsOf (ts : List PTok) : List (Option Str) := ts.foldl addPart []
def PartIs (sa : Addr) (v : Value) (p : Option Str) : Prop := match p with
  | none => v = .ref sa
  | some x => ∃ t, v = .str x t
inductive PartsAre (sa : Addr) : List Value → List (Option Str) → Prop
  | nil : PartsAre sa [] []
  | cons {v p vs ps} : PartIs sa v p → PartsAre sa vs ps → PartsAre sa (v :: vs) (p :: ps)
theorem PartsAre.length {sa : Addr} {vs : List Value} {ps : List (Option Str)} (h : PartsAre sa vs ps) : vs.length = ps.length := by
  induction h with
  | nil => rfl
  | cons _ _ ih => simp [ih]
theorem PartsAre.snoc {sa : Addr} {vs : List Value} {ps : List (Option Str)} {v : Value} {p : Option Str} (h : PartsAre sa vs ps) (hv : PartIs sa v p) : PartsAre sa (vs ++ [v]) (ps ++ [p]) := by
  induction h with
  | nil => exact .cons hv .nil
  | cons a _ ih => exact .cons a ih
theorem PartsAre.last {sa : Addr} : ∀ {vs : List Value} {ps : List (Option Str)}, PartsAre sa vs ps → (vs = [] ∧ ps = []) ∨ ∃ us v qs p, vs = us ++ [v] ∧ ps = qs ++ [p] ∧ PartsAre sa us qs ∧ PartIs sa v p
  | _, _, .nil => .inl ⟨rfl, rfl⟩
  | _, _, .cons (v := v) (p := p) hv r => by
    rcases r.last with ⟨rfl, rfl⟩ | ⟨us, v', qs, p', rfl, rfl, hr, hp⟩
    · exact .inr ⟨[], v, [], p, rfl, rfl, .nil, hv⟩
    · exact .inr ⟨v :: us, v', p :: qs, p', rfl, rfl, .cons hv hr, hp⟩

theorem addPart_len (ps : List (Option Str)) (t : PTok) : (addPart ps t).length ≤ ps.length + 1 := by
  cases t with
  | star => unfold addPart; dsimp only; split <;> simp
  | _ => simp [addPart]
theorem partsOf_snoc (ts : List PTok) (t : PTok) : partsOf (ts ++ [t]) = addPart (partsOf ts) t := by simp [partsOf]
theorem txt_pos (t : PTok) : 1 ≤ t.txt.length := by cases t <;> simp [PTok.txt]
theorem parts_len : ∀ (ts : List PTok) (ps : List (Option Str)), (ts.foldl addPart ps).length ≤ ps.length + (txts ts).length
  | [], _ => by simp [txts]
  | t :: r, ps => by
    have h1 := parts_len r (addPart ps t)
    have h2 := addPart_len ps t
    have h3 := txt_pos t
    have h4 : (txts (t :: r)).length = t.txt.length + (txts r).length := by simp [txts]
    show (r.foldl addPart (addPart ps t)).length ≤ _
    omega
theorem txts_append (a b : List PTok) : txts (a ++ b) = txts a ++ txts b := by simp [txts]
theorem txts_snoc (a : List PTok) (t : PTok) : txts (a ++ [t]) = txts a ++ t.txt := by simp [txts]

theorem news_tail {h₀ h : Heap} {L : Addr} {p : Addr × Obj} {l : List (Addr × Obj)} (N : News h₀ L h (p :: l)) : News h₀ L h l := fun q hq => N q (.tail _ hq)
theorem kstB_self {m : Str → Option Value} {ps : List (Str × Value)} (h : ∀ p ∈ ps, m p.1 = some p.2) : kstB m ps = m := by
  funext y
  exact kstB_eq h fun _ => rfl

/-- the table of nested code of `_translate`: before and after its lambda has been made once -/
def LamSt (nw : List (Addr × Obj)) : Prop :=
  nw = [(83, tabObj #[])] ∨ ∃ c' oc, nw = [(83, tabObj #[rawInt 93, rawInt 39, .ref c']), (c', oc)] ∧ 83 < c'
theorem lam_83 {nw : List (Addr × Obj)} (h : LamSt nw) : ∃ o, (83, o) ∈ nw := by
  rcases h with rfl | ⟨c', oc, rfl, _⟩
  · exact ⟨_, .head _⟩
  · exact ⟨_, .head _⟩
def Apart (own nw : List (Addr × Obj)) : Prop := ∀ p ∈ own, ∀ r ∈ nw, p.1 ≠ r.1
theorem apart_83 {own nw : List (Addr × Obj)} (hl : LamSt nw) (ha : Apart own nw) : ∀ p ∈ own, p.1 ≠ 83 := fun p hp => by
  obtain ⟨o, ho⟩ := lam_83 hl
  exact ha p hp _ ho
theorem off_trans {own news nw nw' : List (Addr × Obj)} {adr : List Addr} (h : OwnOff (news ++ nw) adr) (ha : Apart own nw') (hm : ∀ b ∈ adr, ∃ o, (b, o) ∈ own) : OwnOff (news ++ nw') adr := fun p hp b hb => by
  rcases List.mem_append.mp hp with hp | hp
  · exact h p (List.mem_append_left _ hp) b hb
  · obtain ⟨o, ho⟩ := hm b hb
    exact fun e => ha _ ho p hp e.symm
/-- the state between two turns of _translate's loop -/
def TJ (x : Str) (t : Tok) (sa : Addr) (u : Tok) (r q : Addr) (news : List (Addr × Obj)) (ts : List PTok) (n : Nat) (m : Str → Option Value) (nx : List (Addr × Obj)) : Prop :=
  ∃ done rest vs k ti tn f nw, ts = done ++ rest ∧ n = rest.length ∧ PartsAre sa vs (partsOf done) ∧ (nx = (q, bmObj r) :: (r, listOf vs.toArray k) :: (news ++ nw) ∧ LamSt nw ∧ OwnOff (news ++ nw) [r] ∧ Apart news nw) ∧
    m = kstB f [(Str.ofString "pat", .str x t), (Str.ofString "STAR", .ref sa), (Str.ofString "QUESTION_MARK", .str (Str.ofString ".") u), (Str.ofString "res", .ref r), (Str.ofString "add", .ref q),
      (Str.ofString "i", .int ((txts done).length : Int) ti), (Str.ofString "n", .int (x.length : Int) tn)]
theorem tj_intro {x : Str} {t : Tok} {sa : Addr} {u : Tok} {r q : Addr} {news : List (Addr × Obj)} {ts : List PTok} {n : Nat} {m : Str → Option Value} {nx : List (Addr × Obj)} {done rest : List PTok} {vs : List Value} {k : Nat} {ti tn : Tok} {nw : List (Addr × Obj)}
    (h1 : ts = done ++ rest) (h2 : n = rest.length) (h3 : PartsAre sa vs (partsOf done)) (h4 : nx = (q, bmObj r) :: (r, listOf vs.toArray k) :: (news ++ nw)) (hl : LamSt nw) (ho : OwnOff (news ++ nw) [r]) (ha : Apart news nw)
    (h5 : ∀ p ∈ [(Str.ofString "pat", Value.str x t), (Str.ofString "STAR", .ref sa), (Str.ofString "QUESTION_MARK", .str (Str.ofString ".") u), (Str.ofString "res", .ref r), (Str.ofString "add", .ref q),
      (Str.ofString "i", .int ((txts done).length : Int) ti), (Str.ofString "n", .int (x.length : Int) tn)], m p.1 = some p.2) : TJ x t sa u r q news ts n m nx :=
  ⟨done, rest, vs, k, ti, tn, m, nw, h1, h2, h3, ⟨h4, hl, ho, ha⟩, (kstB_self h5).symm⟩
end PartP1
section
local macro_rules | `(tactic| walk_at "calm one") => `(tactic| skip)
theorem calm_NL : False → False := by
  w_top off
  intro h
  walk1
local macro_rules | `(tactic| walk_at "calm two") => `(tactic| skip)
theorem calm2_NL : False → False := by
  w_top off
  intro h
  walk1
end
section
variable {prog : Program} {w : World} {A : Around} {E : Value → Shared → Prop} {s : Shared} {h₀ : Heap} {L : Addr} {news : List (Addr × Obj)}
theorem ne_nil {l b : Addr} {vs : List Value} {k k' : Nat} {Q : Value → Shared → Prop} (N : News h₀ L s.heap news) (hl : (l, listOf vs.toArray k) ∈ news) (hb : (b, listOf #[] k') ∈ news) (hu : A.units < cLine) (h : Q (.bool (!vs.isEmpty)) s) :
    wpAny (model prog w) A (compareOp .NotEq (.ref l) (.ref b)) Q E s := by
  have hl' : s.heap.IsList l vs.toArray := ⟨_, N.get hl, rfl, k, rfl⟩
  have hb' : s.heap.IsList b #[] := ⟨_, N.get hb, rfl, k', rfl⟩
  cases vs with
  | nil => exact SeqAt.RcNeAt.lists (e := fun _ => true) hl' hb' rfl hu (fun j h1 _ => absurd h1 (Nat.not_lt_zero _)) prog w E Q h
  | cons v vs => exact SeqAt.RcNeAt.lists_lengths hl' hb' (by simp) hu prog w E Q h
theorem eq_nil {l b : Addr} {its : Array Value} {Q : Value → Shared → Prop} (hl' : s.heap.IsList l its) (hb' : s.heap.IsList b #[]) (hu : A.units < cLine) (h : Q (.bool its.isEmpty) s) :
    wpAny (model prog w) A (compareOp .Eq (.ref l) (.ref b)) Q E s := by
  obtain ⟨vs⟩ := its
  cases vs with
  | nil => exact SeqAt.eq_listAt (e := fun _ => true) hl' hb' rfl hu (fun j h1 _ => absurd h1 (Nat.not_lt_zero _)) h
  | cons v vs => exact SeqAt.eq_list_lengthsAt hl' hb' (by simp) hu h
theorem cut_str {α : Sem Value} {m : Str → Option Value} {y : Str} {Q : Value → Shared → Prop} (F : Fr h₀ L s.heap m) (N : News h₀ L s.heap news)
    (h1 : wpAny (model prog w) A α (fun v s' => Blk (∃ h' tk t', v = .str y t' ∧ s' = { s with heap := h', toks := tk } ∧ Fr h₀ L h' m ∧ News h₀ L h' news)) E s)
    (h2 : ∀ h' tk t', Fr h₀ L h' m → News h₀ L h' news → Q (.str y t') { s with heap := h', toks := tk }) : wpAny (model prog w) A α Q E s :=
  wpAny_mono h1 (fun _ _ ⟨⟨h', tk, t', e1, e2, F', N'⟩⟩ => by subst e1; subst e2; exact h2 h' tk t' F' N') fun _ _ e => e
theorem eq_nilN {l b : Addr} {vs : List Value} {k k' : Nat} {Q : Value → Shared → Prop} (N : News h₀ L s.heap news) (hl : (l, listOf vs.toArray k) ∈ news) (hb : (b, listOf #[] k') ∈ news) (hu : A.units < cLine) (h : Q (.bool vs.isEmpty) s) :
    wpAny (model prog w) A (compareOp .Eq (.ref l) (.ref b)) Q E s :=
  eq_nil ⟨_, N.get hl, rfl, k, rfl⟩ ⟨_, N.get hb, rfl, k', rfl⟩ hu (by rw [List.isEmpty_toArray]; exact h)
theorem item0 {value slice : Expr} {l : Addr} {vs : List Value} {v : Value} {k : Nat} {u : Tok} {Q : Value → Shared → Prop} (N : News h₀ L s.heap news) (hm : (l, listOf (v :: vs).toArray k) ∈ news) (h : Q v s)
    (hs : subscripted slice false (.ref l) (.int 0 u) = operate [.ref l, .int 0 u] (getItem (.ref l) (.int 0 u)) := by with_unfolding_all rfl) :
    wpAny (model prog w) A (subscriptTail value slice (.ref l) (.int 0 u)) Q E s := by
  have hl : s.heap.IsList l (v :: vs).toArray := ⟨_, N.get hm, rfl, k, rfl⟩
  exact tail_any hl.typeIs slot_list_getitem.lookup (wpAny_getItem_list hl (by decide) (by simp) (by simp) h) hs
end
theorem comp_end0 {h₀ h' : Heap} {L I C D : Addr} {m : Str → Option Value} {s₁ : Shared} {oI oC oD : Obj} {S : List (Addr × Obj) → Prop} {rest : Value → List (Addr × Obj) → Prop} {y : Value} {tk : Nat} {news : List (Addr × Obj)}
    (F : Fr h₀ L h' m) (N : News h₀ L h' ((I, oI) :: (C, oC) :: (D, oD) :: news)) (off : LCg.Off3 I C D news) (hS : S news) (r : rest y news) :
    LCg.CompEnd h₀ L m s₁ I oI C oC D oD S rest y { s₁ with heap := h', toks := tk } := LCg.CompEnd.intro F N news (fun _ hp => hp) off hS r
theorem comp_end1 {h₀ h' : Heap} {L I C D : Addr} {m : Str → Option Value} {s₁ : Shared} {oI oC oD : Obj} {S : List (Addr × Obj) → Prop} {rest : Value → List (Addr × Obj) → Prop} {y : Value} {tk : Nat} {p : Addr × Obj} {news : List (Addr × Obj)}
    (F : Fr h₀ L h' m) (N : News h₀ L h' (p :: (I, oI) :: (C, oC) :: (D, oD) :: news)) (off : LCg.Off3 I C D news) (hS : S news) (r : rest y news) :
    LCg.CompEnd h₀ L m s₁ I oI C oC D oD S rest y { s₁ with heap := h', toks := tk } := LCg.CompEnd.intro F N news (fun _ hp => .tail _ hp) off hS r
theorem fold_filter (p : Int → Bool) : ∀ (ks l : List Int), ks.foldl (fun l k => if p k = true then l ++ [k] else l) l = l ++ ks.filter p
  | [], l => by simp
  | k :: ks, l => by
    rw [List.foldl_cons, fold_filter p ks]
    cases h : p k <;> simp [h]
local macro_rules | `(tactic| walk_at "CompEnd") => `(tactic| ((try dsimp only); k_dflt (first | (refine' comp_end0 ?F ?N ?off ?hS ?_; (case F => assumption); (case N => assumption); (case off => assumption); (case hS => first | exact trivial | exact .inr ⟨_, by k_mem, rfl, _, rfl⟩)) | (refine' comp_end1 ?F ?N ?off ?hS ?_; (case F => assumption); (case N => assumption); (case off => assumption); (case hS => first | exact trivial | exact .inr ⟨_, by k_mem, rfl, _, rfl⟩)))))
section PartC3
section
local macro_rules | `(tactic| walk_at "calm one") => `(tactic| skip)
theorem calm_C3 : False → False := by
  w_top off
  intro h
  walk1
local macro_rules | `(tactic| walk_at "calm two") => `(tactic| skip)
theorem calm2_C3 : False → False := by
  w_top off
  intro h
  walk1
end

theorem getD_len {ls : List Str} {n : Nat} (h : ∀ a, a ∈ ls → a.length ≤ n) (i : Nat) : (ls.getD i Str.empty).length ≤ n := by
  rw [List.getD_eq_getElem?_getD]
  cases e : ls[i]? with
  | none => exact Nat.zero_le _
  | some a => exact h a (List.mem_of_getElem? e)

local macro_rules | `(tactic| walk_at "pyIter str") => `(tactic| (k_here; (rename (∀ a, a ∈ _ → Str.length a ≤ _) => hAll); (rename Fr _ _ _ _ => F'); (rename News _ _ _ _ => N'); (with_reducible apply srcC_signsD); (case hh => with_unfolding_all rfl); (case F => with_unfolding_all exact F'); (case N => with_unfolding_all exact N'); (case hsz => (have hq := getD_len hAll; exact Nat.le_trans (hq _) (by rw [sizeLine_eq]; omega))); (case' g3 => intros); (case' g2 => (intros; (rename ItemKind.is _ _ _ => i'); (obtain ⟨_, e'⟩ := ItemKind.str_is i'; subst e'); (try (with_reducible refine wpAny_leafK ?_)))); (case' g1 => (intros; (rename ItemKind.is _ _ _ => i'); (obtain ⟨_, e'⟩ := ItemKind.str_is i'; subst e'); (try (with_reducible refine wpAny_leafK ?_)))))) 
local macro_rules | `(tactic| walk_at "eval IfExp") => `(tactic| (k_here; (fail_if_success (with_reducible show wpAny _ _ _ (fun _ _ => Blk _) _ _)); refine blk_out ?_))
local macro_rules | `(tactic| walk_at "compareOp Eq ref ref") => `(tactic| (k_here; k_dflt (refine' eq_nilN ?k1 ?k2 ?k3 ?k4 ?_; (case k1 => k_asm); (case k2 => k_mem); (case k3 => k_mem); (case k4 => ktr_units); k_whole)))
def baseS (x : Str) : Str := if (Txt.slice x (some (-1)) none == Str.ofString "\n") = true then Txt.slice x none (some (-1)) else x
def lastR (rows : List Str) : Str := rows.getD (-1 + (rows.length : Int)).toNat Str.empty
def figR (rows : List Str) : Bool := decide ((1 : Int) < (rows.length : Int)) && (lastR rows != Str.ofString "" && ((signs (lastR rows)).filter fun a => !!(Builtin.Str.occurrences (Str.ofString "0123456789") a 0 (Str.ofString "0123456789").length 1).isEmpty).isEmpty)
def figS (x : Str) : Bool := figR (Txt.split (baseS x) (Str.ofString "."))
theorem figR_a {rows : List Str} {n : Nat} (h0 : rows.length = n) {ys : List Value} (h1 : (1 : Int) < (n : Int)) (h2 : (lastR rows != Str.ofString "") = true) (hl : ys.length = ((signs (lastR rows)).filter fun a => !!(Builtin.Str.occurrences (Str.ofString "0123456789") a 0 (Str.ofString "0123456789").length 1).isEmpty).length) : ys.isEmpty = figR rows := by
  unfold figR
  rw [h0, h2, decide_eq_true h1, Bool.true_and, Bool.true_and]
  generalize List.filter _ (signs (lastR rows)) = zs at hl
  cases ys <;> cases zs <;> simp_all
theorem figR_b {rows : List Str} {n : Nat} (h0 : rows.length = n) (h1 : (1 : Int) < (n : Int)) (h2 : (lastR rows != Str.ofString "") = false) : (lastR rows != Str.ofString "") = figR rows := by
  unfold figR
  rw [h0, h2, decide_eq_true h1]; rfl
theorem figR_c {rows : List Str} {n : Nat} (h0 : rows.length = n) (h1 : ¬ (1 : Int) < (n : Int)) : decide ((1 : Int) < (n : Int)) = figR rows := by
  unfold figR
  rw [h0, decide_eq_false h1]; rfl
theorem slice_len (x : Str) (a b : Option Int) : (Txt.slice x a b).length ≤ x.length := Txt.slice_le x a b
theorem baseS_len (x : Str) : (baseS x).length ≤ x.length := by
  unfold baseS
  split
  · exact slice_len _ _ _
  · exact Nat.le_refl _
section
variable {prog : Program} {w : World} {mean : ExcName → Option Value} {mg mb : Str → Option Value}
set_option maxHeartbeats 4000000 in
theorem c_figures (x : Str) (t : Tok) : Ctr prog w mean mg mb 112 2 [.str x t] (x.length ≤ 300) (fun _ => .bool (figS x)) := by
  intro dp un gd cn cs a ccd cl outer A₀ base h₀ L m news s Q E B F X N T hk hpre hdp hun hret
  refine wpAny_call ?_
  k_dflt (refine' code_def (binds := [(Str.ofString "text", Value.str x t)]) ?k1 ?k2 ?k3 ?k4 ?k5 ?kA ?kF ?kK ?k6 ?k7 ?k8 ?k9 ?kB ?_ ?c2 ?c3 ?c4 ?c5; (case kA => exact rfl); (case kF => exact rfl); (case kK => assumption); (case k1 => k_asm); (case k2 => k_asm); (case k3 => k_asm); (case k4 => k_asm); (case k5 => k_asm); (case k6 => k_is); (case k7 => k_is); (case k8 => ktr_room); (case k9 => exact BindsTo.of_eq rfl); (case c5 => decide); (case kB => exact locs rfl); (case c2 => exact rfl); (case c3 => exact rfl); (case c4 => exact rfl); k_whole; intro g' L' h' FG' F' N' B' X' T'; (try dsimp only [List.reverse_cons, List.reverse_nil, List.nil_append, List.cons_append] at F'); (try dsimp only); (try k_fold))
  k_steps
  refine ⟨?_⟩
  (try dsimp only)
  rename Fr _ _ _ _ => lF
  rename News _ _ _ _ => lN
  refine cut_str (y := baseS x) lF lN ?_ ?_
  · k_steps
    · exact ⟨_, _, _, by unfold baseS; rw [if_pos (by assumption)], rfl, by assumption, by assumption⟩
    · exact ⟨_, _, _, by unfold baseS; rw [if_neg (ne_true_of_eq_false (by assumption))], rfl, by assumption, by assumption⟩
  · clear lF lN
    have hb := baseS_len x
    intro h1 tk1 t1 F1 N1
    k_steps
    · refine cb_retB (Q := Q) hret ?_ (by assumption) (by first | assumption | exact cb_drop (by assumption) (by kcj_all))
      rename (List.map _ _ = Txt.split _ _) => e1
      rename CarriedAll _ _ => e2
      have e3 := e2.length_eq
      rw [List.length_map] at e3
      show _ = figR _
      rw [← e1]
      exact figR_a (List.length_map ..) (by assumption) (by assumption) e3
    · refine cb_retB (Q := Q) hret ?_ (by assumption) (by first | assumption | exact cb_drop (by assumption) (by kcj_all))
      rename (List.map _ _ = Txt.split _ _) => e1
      show _ = figR _
      rw [← e1]
      exact figR_b (List.length_map ..) (by assumption) (by assumption)
    · refine cb_retB (Q := Q) hret ?_ (by assumption) (by first | assumption | exact cb_drop (by assumption) (by kcj_all))
      rename (List.map _ _ = Txt.split _ _) => e1
      show _ = figR _
      rw [← e1]
      exact figR_c (List.length_map ..) (by assumption)
end
end PartC3
section PartP2
section
local macro_rules | `(tactic| walk_at "calm one") => `(tactic| skip)
theorem calm_P2 : False → False := by
  w_top off
  intro h
  walk1
local macro_rules | `(tactic| walk_at "calm two") => `(tactic| skip)
theorem calm2_P2 : False → False := by
  w_top off
  intro h
  walk1
end
theorem item_nat {x : Str} {c i : Nat} (h : x.cps.toList[i]? = some c) : Txt.item x (i : Int) = ⟨#[c]⟩ := by
  have h' : x.cps[((i : Nat) : Int).toNat]? = some c := by rw [← Array.getElem?_toList]; exact h
  have e : Txt.charAt x (i : Int) = some c := StrLaws.at_nonneg (Int.natCast_nonneg _) h'
  unfold Txt.item
  rw [e]; rfl
theorem slice_nat {x : Str} {i j : Nat} {l : List Nat} (h1 : i ≤ j) (h2 : j ≤ x.length) (h : (x.cps.toList.drop i).take (j - i) = l) : Txt.slice x (some (i : Int)) (some (j : Int)) = ⟨l.toArray⟩ := by
  have e := slice_closesL (x := x) (i := (i : Int)) (j := (j : Int)) (by omega) (by omega) (by omega)
  have e2 := eq_of_beq e
  rw [e2, ← h]
  congr 4
  all_goals omega
theorem at_app {A B : List Nat} {c : Nat} {l : List Nat} (h : l = A ++ c :: B) : l[A.length]? = some c := by rw [h]; simp

theorem at_app1 {A B : List Nat} {c d : Nat} {l : List Nat} (h : l = A ++ d :: c :: B) : l[A.length + 1]? = some c := by rw [h]; simp
theorem at_app2 {A B : List Nat} {c d e : Nat} {l : List Nat} (h : l = A ++ d :: e :: c :: B) : l[A.length + 1 + 1]? = some c := by
  rw [h, List.getElem?_append_right (by omega)]
  rw [show A.length + 1 + 1 - A.length = 2 by omega]
  rfl
theorem at_app3 {A B : List Nat} {c d e f : Nat} {l : List Nat} (h : l = A ++ d :: e :: f :: c :: B) : l[A.length + 1 + 1 + 1]? = some c := by
  rw [h, List.getElem?_append_right (by omega)]
  rw [show A.length + 1 + 1 + 1 - A.length = 3 by omega]
  rfl
section
variable {x : Str} {t : Tok} {sa : Addr} {u : Tok} {r q : Addr} {news : List (Addr × Obj)} {ts : List PTok} {m : Str → Option Value} {done rest : List PTok} {tok : PTok} {vs : List Value} {k : Nat} {ti tn : Tok} {iv : Int} {nw : List (Addr × Obj)}
theorem tj_same (hl : LamSt nw) (hof : OwnOff (news ++ nw) [r]) (hap : Apart news nw) {its : Array Value} (hits : its = vs.toArray) (h1 : ts = done ++ tok :: rest) (hP : PartsAre sa vs (partsOf done)) (hs : partsOf (done ++ [tok]) = partsOf done)
    (m1 : m (Str.ofString "pat") = some (.str x t)) (m2 : m (Str.ofString "STAR") = some (.ref sa)) (m3 : m (Str.ofString "QUESTION_MARK") = some (.str (Str.ofString ".") u)) (m4 : m (Str.ofString "res") = some (.ref r)) (m5 : m (Str.ofString "add") = some (.ref q))
    (m6 : m (Str.ofString "i") = some (.int iv ti)) (m7 : m (Str.ofString "n") = some (.int (x.length : Int) tn)) (hiv : iv = ((txts done).length : Int) + (tok.txt.length : Int)) :
    TJ x t sa u r q news ts rest.length m ((q, bmObj r) :: (r, listOf its k) :: (news ++ nw)) := by
  rw [hits]
  refine tj_intro (done := done ++ [tok]) (rest := rest) (vs := vs) (ti := ti) (tn := tn) (by rw [h1]; simp) rfl (by rw [hs]; exact hP) rfl hl hof hap ?_
  intro p hp
  have hi : iv = ((txts (done ++ [tok])).length : Int) := by rw [txts_snoc, List.length_append]; omega
  simp only [List.mem_cons, List.not_mem_nil, or_false] at hp
  rcases hp with rfl | rfl | rfl | rfl | rfl | rfl | rfl
  · exact m1
  · exact m2
  · exact m3
  · exact m4
  · exact m5
  · rw [← hi]; exact m6
  · exact m7
theorem tj_push (hl : LamSt nw) (hof : OwnOff (news ++ nw) [r]) (hap : Apart news nw) {v : Value} {p : Option Str} {its : Array Value} (hits : its = vs.toArray.push v) (h1 : ts = done ++ tok :: rest) (hP : PartsAre sa vs (partsOf done)) (hs : partsOf (done ++ [tok]) = partsOf done ++ [p]) (hv : PartIs sa v p)
    (m1 : m (Str.ofString "pat") = some (.str x t)) (m2 : m (Str.ofString "STAR") = some (.ref sa)) (m3 : m (Str.ofString "QUESTION_MARK") = some (.str (Str.ofString ".") u)) (m4 : m (Str.ofString "res") = some (.ref r)) (m5 : m (Str.ofString "add") = some (.ref q))
    (m6 : m (Str.ofString "i") = some (.int iv ti)) (m7 : m (Str.ofString "n") = some (.int (x.length : Int) tn)) (hiv : iv = ((txts done).length : Int) + (tok.txt.length : Int)) :
    TJ x t sa u r q news ts rest.length m ((q, bmObj r) :: (r, listOf its k) :: (news ++ nw)) := by
  have e : vs.toArray.push v = (vs ++ [v]).toArray := by simp
  rw [hits, e]
  refine tj_intro (done := done ++ [tok]) (rest := rest) (vs := vs ++ [v]) (ti := ti) (tn := tn) (by rw [h1]; simp) rfl (by rw [hs]; exact hP.snoc hv) rfl hl hof hap ?_
  intro p hp
  have hi : iv = ((txts (done ++ [tok])).length : Int) := by rw [txts_snoc, List.length_append]; omega
  simp only [List.mem_cons, List.not_mem_nil, or_false] at hp
  rcases hp with rfl | rfl | rfl | rfl | rfl | rfl | rfl
  · exact m1
  · exact m2
  · exact m3
  · exact m4
  · exact m5
  · rw [← hi]; exact m6
  · exact m7
end
theorem bm_at {h₀ h : Heap} {L q l : Addr} {news : List (Addr × Obj)} (N : News h₀ L h news) (hm : (q, bmObj l) ∈ news) : BmAt h q l := News.get N hm
theorem truthy_listS {prog : Program} {w : World} {A : Around} {E : Value → Shared → Prop} {s : Shared} {h₀ : Heap} {L : Addr} {news : List (Addr × Obj)} {l : Addr} {us : List Value} {v : Value} {k : Nat} {Q : Bool → Shared → Prop} (N : News h₀ L s.heap news) (hm : (l, listOf (us ++ [v]).toArray k) ∈ news) (hsz : (us ++ [v]).length < 2 ^ 62)
    (h : Q true { s with toks := s.toks + 1 + 1 }) : wpAny (model prog w) A (truthy (.ref l)) Q E s :=
  wpAny_truthy_list (items := (us ++ [v]).toArray) ⟨_, N.get hm, rfl, k, rfl⟩ (by rw [List.size_toArray]; omega) (by
    have : (us ++ [v]).toArray.isEmpty = false := by rw [List.isEmpty_toArray]; cases us <;> rfl
    rw [this]; exact h)
theorem sign_ne {c d : Nat} (h : c ≠ d) : ((⟨#[c]⟩ : Str) == ⟨#[d]⟩) = false := by
  rw [beq_eq_false_iff_ne]
  intro e
  injection e with e
  injection e with e
  injection e with e
  exact h e
end PartP2
section
local macro_rules | `(tactic| walk_at "calm one") => `(tactic| skip)
theorem calm_B2 : False → False := by
  w_top off
  intro h
  walk1
local macro_rules | `(tactic| walk_at "calm two") => `(tactic| skip)
theorem calm2_B2 : False → False := by
  w_top off
  intro h
  walk1
end
section
variable {prog : Program} {w : World} {A : Around} {E : Value → Shared → Prop} {s : Shared} {h₀ : Heap} {L : Addr} {m : Str → Option Value} {news news' : List (Addr × Obj)} {h : Heap}
theorem item_known {value slice : Expr} {x y : Str} {t u : Tok} {i : Int} {Q : Value → Shared → Prop} (hx : Txt.item x i = y) (h0 : 0 ≤ i) (h1 : i < x.length) (hsz : x.length ≤ 100000) (h : Q (.str y s.toks) { s with toks := s.toks + 1 })
    (hs : subscripted slice false (.str x t) (.int i u) = operate [.str x t, .int i u] (getItem (.str x t) (.int i u)) := by with_unfolding_all rfl)
    (ht : ∀ r, letTemporaryGo value (.str x t) r = pure () := by intro _; with_unfolding_all rfl) :
    wpAny (model prog w) A (subscriptTail value slice (.str x t) (.int i u)) Q E s := by
  subst hx
  exact item_str (fitsSsize_of (N := 9223372036854775808) (by omega) (by omega) (Int.le_refl _)) (by omega) h1 (fun _ => h) hs ht
theorem slice_known {value slice : Expr} {x y : Str} {t : Tok} {i j : Int} {ui uj : Tok} {Q : Value → Shared → Prop} (hx : Txt.slice x (some i) (some j) = y) (hF : Fr h₀ L s.heap m) (hN : News h₀ L s.heap news)
    (h : ∀ h' t' k, Fr h₀ L h' m → News h₀ L h' news → Q (.str y t') { s with heap := h', toks := k })
    (hs : subscripted slice false (.str x t) (.ref s.heap.objs.size) = operate [.ref s.heap.objs.size, .str x t] (getItem (.str x t) (.ref s.heap.objs.size)) := by with_unfolding_all rfl)
    (ht : ∀ r, letTemporaryGo value (.str x t) r = pure () := by intro _; with_unfolding_all rfl) (hsz : x.length ≤ sizeLine := by size_fits) :
    wpAny (model prog w) A (subscriptTail value slice (.str x t) (.ref s.heap.objs.size)) Q E { s with heap := s.heap.push { cls := .type "slice", data := .fields #[.int i ui, .int j uj, .none] } } := by
  subst hx
  exact slice_strN_ss hF hN h hs ht hsz
theorem notin_known {x y : Str} {t u : Tok} {Q : Value → Shared → Prop} (h0 : (Builtin.Str.occurrences x y 0 x.length 1).isEmpty = true) (h : Q (.bool true) s) : wpAny (model prog w) A (compareOp .NotIn (.str y u) (.str x t)) Q E s := by
  refine PyProof.Rows.notIn_str ?_
  rw [h0]; exact h
theorem replace_same {x y z : Str} {t u v : Tok} {Q : Value → Shared → Prop} (hc : ((Builtin.Str.occurrences x y 0 x.length (x.length + 1)).isEmpty || (y.length == 0 && z.length == 0)) = true) (h : Q (.str x t) s) :
    wpAny (model prog w) A (call (.builtin "str.replace") [.str x t, .str y u, .str z v]) Q E s := by
  refine call_gives PySem.F.slot_str_replace (typeIs_str _ _ _) PySem.F.entry_str_replace (PySem.F.args_str_replace_3 _ _ _) (gives_str_replace x y z t u v fun hf => ?_) ?_
  · rw [hc] at hf; cases hf
  · rw [if_pos hc]; exact h
theorem truthy_listN {l : Addr} {vs : List Value} {k : Nat} {Q : Bool → Shared → Prop} (N : News h₀ L s.heap news) (hm : (l, listOf vs.toArray k) ∈ news) (hsz : vs.length < 2 ^ 62)
    (h : Q (!vs.isEmpty) { s with toks := s.toks + 1 + 1 }) : wpAny (model prog w) A (truthy (.ref l)) Q E s :=
  wpAny_truthy_list (items := vs.toArray) ⟨_, N.get hm, rfl, k, rfl⟩ (by rw [List.size_toArray]; omega) (by rw [List.isEmpty_toArray]; exact h)
theorem last_item {value slice : Expr} {l : Addr} {us : List Value} {v : Value} {k : Nat} {u : Tok} {Q : Value → Shared → Prop} (N : News h₀ L s.heap news) (hm : (l, listOf (us ++ [v]).toArray k) ∈ news) (h : Q v s)
    (hs : subscripted slice false (.ref l) (.int (-1) u) = operate [.ref l, .int (-1) u] (getItem (.ref l) (.int (-1) u)) := by with_unfolding_all rfl) :
    wpAny (model prog w) A (subscriptTail value slice (.ref l) (.int (-1) u)) Q E s := by
  have hl : s.heap.IsList l (us ++ [v]).toArray := ⟨_, N.get hm, rfl, k, rfl⟩
  refine tail_any hl.typeIs slot_list_getitem.lookup (wpAny_getItem_list_neg hl (by decide) (by simp; omega) (by decide) ?_ h) hs
  have e : ((-1 : Int) + ((us ++ [v]).toArray.size : Int)).toNat = us.length := by simp; omega
  rw [e]
  simp

theorem at69 (X : (kTop w.params).In h) : h.get? 69 = some { cls := .type "re.Pattern", data := .fields #[.str (Str.ofString "([&~|])") 347, .int 32 382, .int 1 0, .none, .none, .ref 68, .int 0 0] } := X _ _ (by with_unfolding_all rfl)
theorem at68 (X : (kTop w.params).In h) : h.get? 68 = some { cls := .type "tuple", data := .seq twItems } := X _ _ (by with_unfolding_all rfl)
theorem gm_sub {pl : Sem Bool} {Q : Value × List Value → Shared → Prop} (F : Fr h₀ L s.heap m) (X : (kTop w.params).In h₀) (h : Q (.builtin "re.Pattern.sub", [.ref 69]) s) :
    wpAny (model prog w) A (getMethod (.ref 69) (Str.ofString "sub") pl) Q E s := getMethod_pat (at69 (X.keeps F.keep)) rfl rfl slot_sub type_sub h
theorem call_sub {x : Str} {t : Tok} {lam : Addr} {ol : Obj} {Q : Value → Shared → Prop} (F : Fr h₀ L s.heap m) (X : (kTop w.params).In h₀) (N : News h₀ L s.heap news) (hm : (lam, ol) ∈ news) (hc : ol.cls = .type "function") (hno : NoTw x ∧ x.length ≤ 1000 ∧ 1 ≤ x.length)
    (h : ∀ h' tk t', Fr h₀ L h' m → News h₀ L h' news → Q (.str x t') { s with heap := h', toks := tk }) :
    wpAny (model prog w) A (call (.builtin "re.Pattern.sub") [.ref 69, .ref lam, .str x t]) Q E s :=
  sub_wp (at69 (X.keeps F.keep)) rfl rfl (at68 (X.keeps F.keep)) rfl (N.get hm) hc hno.2.1 hno.2.2 hno.1 fun h' tk t' hk => h h' tk t' (F.keeps hk) (N.grown hk)
end
theorem noTws : ∀ x : Str, x = ⟨#[42]⟩ ∨ x = ⟨#[63]⟩ ∨ x = ⟨#[91]⟩ ∨ x = ⟨#[33, 46]⟩ → NoTw x ∧ x.length ≤ 1000 ∧ 1 ≤ x.length := by
  rintro x (rfl | rfl | rfl | rfl)
  · exact ⟨noTw1, by decide, by decide⟩
  · exact ⟨noTw2, by decide, by decide⟩
  · exact ⟨noTw3, by decide, by decide⟩
  · exact ⟨noTw4, by decide, by decide⟩
local macro_rules | `(tactic| walk_at "subscriptTail Name Name str int") => `(tactic| (k_here; k_dflt (refine' item_known ?k1 ?k2 ?k3 ?k4 ?_; (case k1 => with_reducible assumption); (case k2 => omega); (case k3 => omega); (case k4 => omega); k_whole)))
local macro_rules | `(tactic| walk_at "subscriptTail Name Slice str ref") => `(tactic| (k_here; (rename (Txt.slice _ _ _ = _) => hSl); (with_reducible rename Fr _ _ _ _ => F'); (with_reducible rename News _ _ _ _ => N'); (refine slice_known (hsz := ?hsz) (s := ⟨_, _, _, _, _⟩) hSl F' N' ?_); (case hsz => (rw [sizeLine_eq]; omega)); intro _ _ _ _ _))
local macro_rules | `(tactic| walk_at "call builtin:str.replace") => `(tactic| (k_here; refine replace_same (by first | decide | decide +kernel) ?_))
local macro_rules | `(tactic| walk_at "truthy ref") => `(tactic| (k_here; k_dflt (refine' truthy_listN ?k1 ?k2 ?k3 ?_; (case k1 => k_asm); (case k2 => k_mem); (case k3 => first | omega | (simp only [List.length_append, List.length_cons, List.length_nil]; omega)); k_whole)))
local macro_rules | `(tactic| walk_at "subscriptTail Name UnaryOp ref int") => `(tactic| (k_here; k_dflt (refine' last_item ?k1 ?k2 ?_; (case k1 => k_asm); (case k2 => k_mem); k_whole)))
local macro_rules | `(tactic| walk_at "compareOp IsNot") => `(tactic| (k_here; (with_reducible show wpAny _ _ (compareOp CmpOp.IsNot (Value.str _ _) (Value.ref _)) _ _ _); refine wpAny_isNot_other (by rfl) (by intro x; cases x) ?_))
local macro_rules | `(tactic| walk_at "getMethod ref") => `(tactic| (k_here; k_dflt (refine' gm_sub ?k1 ?k2 ?_; (case k1 => k_asm); (case k2 => k_asm); k_whole)))
local macro_rules | `(tactic| walk_at "call builtin:re.Pattern.sub") => `(tactic| (k_here; k_dflt (refine' call_sub ?k1 ?k2 ?k3 ?k4 ?k5 ?k6 ?_; (case k1 => k_asm); (case k2 => k_asm); (case k3 => k_asm); (case k4 => k_mem); (case k5 => first | exact rfl | assumption); (case k6 => exact noTws _ (by first | exact .inl rfl | exact .inr (.inl rfl) | exact .inr (.inr (.inl rfl)) | exact .inr (.inr (.inr rfl)))); k_whole); intro h' tk' t' F' N'))
local macro_rules | `(tactic| walk_at "compareOp NotIn str str") => `(tactic| (k_here; refine notin_known (by decide +kernel) ?_))
section PartB3
section
local macro_rules | `(tactic| walk_at "calm one") => `(tactic| skip)
theorem calm_B3 : False → False := by
  w_top off
  intro h
  walk1
local macro_rules | `(tactic| walk_at "calm two") => `(tactic| skip)
theorem calm2_B3 : False → False := by
  w_top off
  intro h
  walk1
end
theorem updF_mid {d : Addr} {o : Obj} {post : List (Addr × Obj)} (h2 : ∀ p ∈ post, p.1 ≠ d) : ∀ (own : List (Addr × Obj)), (∀ p ∈ own, p.1 ≠ d) → UpdF d o (own ++ (d, o) :: post) (fun o' => own ++ (d, o') :: post)
  | [], _ => .head h2
  | p :: own, h => .tail (h p (.head _)) (updF_mid h2 own fun q hq => h q (.tail _ hq))
section
variable {M : Model} {A : Around} {E : Value → Shared → Prop} {s : Shared} {h₀ base : Heap} {L a : Addr} {m mg mb : Str → Option Value} {cn : Str} {cs : Scope} {cl : List (Str × Addr)} {own nw : List (Addr × Obj)}
  {p : Program} {loose : List Str} {mean : ExcName → Option Value} {params : Arguments} {body : Expr} {scope : Scope} {pos : Pos} {clos : List (Str × Addr)}
theorem lam_eval {Q : Value → Shared → Prop} (F : Fr h₀ L s.heap m) (N : News h₀ L s.heap (own ++ nw)) (T : Top p loose mean mg mb h₀) (C : CodeHd base 87 83) (hst : base.StaysIn h₀) (hl : LamSt nw) (ho : ∀ p ∈ own, p.1 ≠ 83)
    (hcl : closureFor scope (envX cn cs L a (.ref 87) cl) = pure clos) (hpl : pos.line = 93) (hpc : pos.col = 39) (hdef : defaultsOf params (envX cn cs L a (.ref 87) cl) = ([], []))
    (h : ∀ f o nw' h' tk, Fr h₀ L h' m → News h₀ L h' ((f, o) :: (own ++ nw')) → LamSt nw' → (∀ q ∈ own, ∀ r ∈ nw', q.1 ≠ r.1 ∨ ∃ r₀ ∈ nw, r₀.1 = r.1) → (∀ q ∈ own, q.1 < f) → o.cls = .type "function" → Q (.ref f) { s with heap := h', toks := tk }) :
    wpAny M A (eval (.Lambda params body scope pos) (envX cn cs L a (.ref 87) cl)) Q E s := by
  refine kla_eval hdef ?_
  rcases hl with rfl | ⟨c', oc, rfl, hlt⟩
  · refine kla_nest (ps := #[]) F N T (C.keeps hst) rfl (updF_mid (by simp) own ho) (by exact True.intro) (by rfl) hcl ?_
    intro f c' oc vs t ctv h' tk F' N' hd hv hq hcf
    have h83 : 83 < c' := hq _ (List.mem_append_right _ (.head _))
    refine h f (kla_obj "<lambda>" ((envX cn cs L a (.ref 87) cl).qual ++ "<lambda>") params body scope clos ((mg "__name__").getD .none) c' ctv) [(83, tabObj #[rawInt 93, rawInt 39, .ref c']), (c', oc)] h' tk F' (fun q hq => ?_) (.inr ⟨c', oc, rfl, h83⟩) (fun q hqo r hr => ?_) (fun q hqo => Nat.lt_trans (hq q (List.mem_append_left _ hqo)) hcf) rfl
    · rw [hpl, hpc] at N'
      rcases List.mem_cons.mp hq with rfl | hq
      · exact N' _ (.head _)
      · rcases List.mem_append.mp hq with hq | hq
        · exact N' _ (.tail _ (.tail _ (List.mem_append_left _ hq)))
        · rcases List.mem_cons.mp hq with rfl | hq
          · exact N' _ (.tail _ (.tail _ (List.mem_append_right _ (.head _))))
          · obtain rfl := List.mem_singleton.mp hq
            exact N' _ (.tail _ (.head _))
    · rcases List.mem_cons.mp hr with rfl | hr
      · exact .inl (ho q hqo)
      · obtain rfl := List.mem_singleton.mp hr
        exact .inl (Nat.ne_of_lt (hq q (List.mem_append_left _ hqo)))
  · refine kla_hit (ps := #[rawInt 93, rawInt 39, .ref c']) (c' := c') F N T (C.keeps hst) rfl (List.mem_append_right _ (.head _)) (by simp [TriplesOk, rawInt]) (by simp [codeAmong, rawInt, hpl, hpc]) hcl ?_
    intro f ctv h' tk F' N' hq
    exact h f (kla_obj "<lambda>" ((envX cn cs L a (.ref 87) cl).qual ++ "<lambda>") params body scope clos ((mg "__name__").getD .none) c' ctv) _ h' tk F' N' (.inr ⟨c', oc, rfl, hlt⟩) (fun q hqo r hr => .inr ⟨r, hr, rfl⟩) (fun q hqo => hq q (List.mem_append_left _ hqo)) rfl
theorem lam_turn {q r : Addr} {bq br : Obj} {news : List (Addr × Obj)} {Q : Value → Shared → Prop} (F : Fr h₀ L s.heap m) (N : News h₀ L s.heap ((q, bq) :: (r, br) :: (news ++ nw))) (T : Top p loose mean mg mb h₀) (C : CodeHd base 87 83) (hst : base.StaysIn h₀) (hl : LamSt nw)
    (hq : q ≠ 83) (hr : r ≠ 83) (hap : Apart news nw) (hof : OwnOff (news ++ nw) [r])
    (hcl : closureFor scope (envX cn cs L a (.ref 87) cl) = pure clos) (hpl : pos.line = 93) (hpc : pos.col = 39) (hdef : defaultsOf params (envX cn cs L a (.ref 87) cl) = ([], []))
    (h : ∀ f o nw' h' tk, Fr h₀ L h' m → News h₀ L h' ((f, o) :: (q, bq) :: (r, br) :: (news ++ nw')) → LamSt nw' → OwnOff (news ++ nw') [r] → Apart news nw' → @LT.lt Nat instLTNat r f → o.cls = .type "function" → Q (.ref f) { s with heap := h', toks := tk }) :
    wpAny M A (eval (.Lambda params body scope pos) (envX cn cs L a (.ref 87) cl)) Q E s := by
  refine lam_eval (own := (q, bq) :: (r, br) :: news) F N T C hst hl ?_ hcl hpl hpc hdef ?_
  · intro p hp
    rcases List.mem_cons.mp hp with rfl | hp
    · exact hq
    · rcases List.mem_cons.mp hp with rfl | hp
      · exact hr
      · exact apart_83 hl hap p hp
  · intro f o nw' h' tk F' N' hl' hn hlt hc
    refine h f o nw' h' tk F' N' hl' (fun p hp b hb => ?_) (fun p hp z hz => ?_) (hlt (r, br) (.tail _ (.head _))) hc
    · obtain rfl := List.mem_singleton.mp hb
      rcases List.mem_append.mp hp with hp | hp
      · exact hof p (List.mem_append_left _ hp) _ hb
      · rcases hn (b, br) (.tail _ (.head _)) p hp with e | ⟨r₀, h1, h2⟩
        · exact fun q => e q.symm
        · rw [← h2]; exact hof r₀ (List.mem_append_right _ h1) _ hb
    · rcases hn p (.tail _ (.tail _ hp)) z hz with e | ⟨r₀, h1, h2⟩
      · exact e
      · rw [← h2]; exact hap p hp r₀ h1
end
end PartB3
section PartV1
section
local macro_rules | `(tactic| walk_at "calm one") => `(tactic| skip)
theorem calm_V1 : False → False := by
  w_top off
  intro h
  walk1
local macro_rules | `(tactic| walk_at "calm two") => `(tactic| skip)
theorem calm2_V1 : False → False := by
  w_top off
  intro h
  walk1
end
/-- what a turn of a loop over a made list leaves -/
def VStep (h₀ : Heap) (L : Addr) (own : List (Addr × Obj)) (s : Shared) (Jn : (Str → Option Value) → List (Addr × Obj) → Prop) (f : Flow) (s₃ : Shared) : Prop :=
  match f with
  | .next => Blk (∃ h' tk m₂ news₂, s₃ = { s with heap := h', toks := tk } ∧ Fr h₀ L h' m₂ ∧ News h₀ L h' (news₂ ++ own) ∧ Apart news₂ own ∧ Jn m₂ news₂)
  | _ => False
section
variable {prog : Program} {w : World} {A : Around} {E : Value → Shared → Prop} {Q : Flow → Shared → Prop} {s : Shared} {env : Env} {h₀ : Heap}
theorem vstep_next {own news₂ : List (Addr × Obj)} {L : Addr} {Jn : (Str → Option Value) → List (Addr × Obj) → Prop} {h' : Heap} {tk : Nat} {m₂ : Str → Option Value}
    (F : Fr h₀ L h' m₂) (N : News h₀ L h' (news₂ ++ own)) (ha : Apart news₂ own) (hJ : Jn m₂ news₂) : VStep h₀ L own s Jn .next { s with heap := h', toks := tk } :=
  ⟨⟨h', tk, m₂, news₂, rfl, F, N, ha, hJ⟩⟩
theorem iter_vals {target : Expr} {body : List Stmt} {l : Addr} {vs : List Value} {k : Nat} {m₀ : Str → Option Value} {news : List (Addr × Obj)} (J : List Value → (Str → Option Value) → List (Addr × Obj) → Prop)
    (hh : A.handled = none) (F : Fr h₀ env.locals s.heap m₀) (N : News h₀ env.locals s.heap ((l, listOf vs.toArray k) :: news)) (hne : ∀ p ∈ news, p.1 ≠ l) (hj : J vs m₀ news)
    (hgo : ∀ it v, letOwnedTupleGo target it v = pure ())
    (turn : ∀ v rest m₁ news₁ own (s₁ : Shared), J (v :: rest) m₁ news₁ → Fr h₀ env.locals s₁.heap m₁ → News h₀ env.locals s₁.heap (news₁ ++ own) → Apart news₁ own →
      wpAny (model prog w) A (assign target env v) (fun _ s₃ => wpAny (model prog w) A (execs body env) (VStep h₀ env.locals own s₁ (J rest)) E s₃) E s₁)
    (done : ∀ m₁ news₁ h tk, J [] m₁ news₁ → Fr h₀ env.locals h m₁ → News h₀ env.locals h news₁ → Q .next { s with heap := h, toks := tk }) :
    wpAny (model prog w) A (pyIter (.ref l)) (fun it s₂ => LoopAtT prog w A h₀ env target body Q E it s₂) E s := by
  have hm := N _ (.head _)
  dsimp only at hm
  have hls : s.heap.IsList l vs.toArray := ⟨_, hm.1, rfl, k, rfl⟩
  have hlt : l < s.heap.objs.size := Heap.lt_size hm.1
  have hI : l ≠ s.heap.objs.size := Nat.ne_of_lt hlt
  refine wpAny_pyIter_list hls ?_
  have W := Walks.list (prog := prog) (w := w) hh s.heap.objs.size l hI vs.toArray
  let J' : Nat → (Str → Option Value) → List (Addr × Obj) → Prop := fun i m₁ news₁ => (∀ p ∈ news₁, p.1 ≠ l) ∧ J (vs.drop i) m₁ news₁
  have hI0 : h₀.get? s.heap.objs.size = none := by
    cases e : h₀.get? s.heap.objs.size with
    | none => rfl
    | some o => exact absurd (Heap.lt_size (F.keep _ _ e)) (Nat.lt_irrefl _)
  refine ⟨_, _, _, _, _, _, m₀, news, J', rfl, W, ?_, ?_, ?_, ⟨⟨_, Heap.get?_push_size _ rfl, rfl, rfl⟩, hls.at fun o e => Heap.get?_push_of_some _ e⟩, F.push _, (fun p hp => ⟨Heap.get?_push_of_some _ (N p (.tail _ hp)).1, (N p (.tail _ hp)).2⟩), ?_, ⟨hne, hj⟩, ?_, ?_⟩
  · intro hq
    rcases List.mem_cons.mp hq with e | hq
    · exact absurd F.ns.lt (e ▸ Nat.lt_irrefl _)
    · exact hm.2.1 (List.mem_singleton.mp hq).symm
  · intro b hb
    rw [List.mem_singleton.mp hb]; exact hI0
  · intro p hp hq
    exact absurd (Heap.lt_size (N p (.tail _ hp)).1) ((List.mem_singleton.mp hq) ▸ Nat.lt_irrefl _)
  · intro i s' v Q' _ hq
    rw [hgo]; exact wpAny_pure hq
  · rintro i v m₁ news₁ s₁ own hin hP ⟨hJl, hJ⟩ hoff hown hget hall hst F₁ N₁
    have hgetv : vs[i]? = some v := by simpa using hP
    have hdr : vs.drop i = v :: vs.drop (i + 1) := by
      have hlt' : i < vs.length := by simpa using hin
      rw [List.drop_eq_getElem_cons hlt']
      congr 1
      rw [List.getElem?_eq_getElem hlt'] at hgetv
      exact Option.some.inj hgetv
    obtain ⟨⟨oI, hoI, _⟩, ⟨ol, hol, _⟩⟩ := hst
    have hap : Apart news₁ own := fun p hp r hr e => by
      rcases List.mem_cons.mp (hown r hr) with h1 | h1
      · exact hoff p hp (List.mem_singleton.mpr (e.trans h1))
      · exact hJl p hp (e.trans (List.mem_singleton.mp h1))
    rw [hdr] at hJ
    refine wpAny_mono (turn v _ m₁ news₁ own s₁ hJ F₁ (fun p hp => N₁ p ((List.mem_append.mp hp).elim (fun q => List.mem_append.mpr (.inr q)) fun q => List.mem_append.mpr (.inl q))) hap) (fun _ s₃ q => ?_) fun _ _ x => x
    refine wpAny_mono q (fun f s₄ r => ?_) fun _ _ x => x
    cases f with
    | next =>
      obtain ⟨h', tk, m₂, news₂, rfl, F₂, N₂, ha, hj₂⟩ := r.out
      refine ⟨rfl, h', tk, m₂, news₂, rfl, F₂, (fun p hp => N₂ p ((List.mem_append.mp hp).elim (fun q => List.mem_append.mpr (.inr q)) fun q => List.mem_append.mpr (.inl q))), fun p hp hq => ?_, fun p hp e => ?_, hj₂⟩
      · exact ha p hp (_, oI) (hall _ (.head _) hI0 _ hoI) (List.mem_singleton.mp hq)
      · exact ha p hp (_, ol) (hall _ (.tail _ (.head _)) hm.2.2 _ hol) e
    | _ => exact absurd r id
  · rintro h' tk m' news' F' N' _ ⟨_, hJ⟩
    refine done m' news' h' tk ?_ F' N'
    simpa using hJ
end
end PartV1
section PartF1
section
local macro_rules | `(tactic| walk_at "calm one") => `(tactic| skip)
theorem calm_F1 : False → False := by
  w_top off
  intro h
  walk1
local macro_rules | `(tactic| walk_at "calm two") => `(tactic| skip)
theorem calm2_F1 : False → False := by
  w_top off
  intro h
  walk1
end
section
variable {prog : Program} {w : World} {mean : ExcName → Option Value} {mg mb : Str → Option Value}
def TrC (prog : Program) (w : World) (mean : ExcName → Option Value) (mg mb : Str → Option Value) (x : Str) (t u : Tok) (sa : Addr) (ts : List PTok) : Prop :=
  ∀ (dp un : Nat) (gd : Option (List Code)) (cn : Str) (cs : Scope) (a : Addr) (ccd : Value) (cl : List (Str × Addr)) (outer : List Env) (A₀ : Around) (base h₀ : Heap) (L : Addr) (m : Str → Option Value) (news nw : List (Addr × Obj)) (s : Shared) (Q E : Value → Shared → Prop),
    Below A₀ base outer h₀ → Fr h₀ L s.heap m → (kTop w.params).In h₀ → News h₀ L s.heap (news ++ nw) → LamSt nw → Apart news nw → CodeHd base 87 83 → Top topProg LZ mean mg mb h₀ → cs.kind = .function →
    x.length ≤ 3000 → dp + 3 < recursionLimit → un + 24 < cLine →
    (∀ l h' tk vs k nw', Fr h₀ L h' m → News h₀ L h' ((l, listOf vs.toArray k) :: (news ++ nw')) → LamSt nw' → Apart news nw' → OwnOff (news ++ nw') [l] → PartsAre sa vs (partsOf ts) → Q (.ref l) { s with heap := h', toks := tk }) →
      wpAny (model prog w) (ktrTop dp un gd cn cs L a ccd cl outer) (call (.ref 88) [.str x t, .ref sa, .str (Str.ofString ".") u]) Q E s
/-- the contract of a def that may make `_translate`'s lambda -/
def CtrL (prog : Program) (w : World) (mean : ExcName → Option Value) (mg mb : Str → Option Value) (f : Addr) (need : Nat) (vs : List Value) (pre : Prop) (R : Tok → Value) : Prop :=
  ∀ (dp un : Nat) (gd : Option (List Code)) (cn : Str) (cs : Scope) (a : Addr) (ccd : Value) (cl : List (Str × Addr)) (outer : List Env) (A₀ : Around) (base h₀ : Heap) (L : Addr) (m : Str → Option Value) (news nw : List (Addr × Obj)) (s : Shared) (Q E : Value → Shared → Prop),
    Below A₀ base outer h₀ → Fr h₀ L s.heap m → (kTop w.params).In h₀ → News h₀ L s.heap (news ++ nw) → LamSt nw → Apart news nw → CodeHd base 87 83 → Top topProg LZ mean mg mb h₀ → cs.kind = .function →
    pre → dp + need < recursionLimit → un + 8 * need < cLine →
    (∀ t h' tk nw', Fr h₀ L h' m → News h₀ L h' (news ++ nw') → LamSt nw' → Apart news nw' → Q (R t) { s with heap := h', toks := tk }) →
      wpAny (model prog w) (ktrTop dp un gd cn cs L a ccd cl outer) (call (.ref f) vs) Q E s
theorem apart5 {p1 p2 p3 p4 p5 : Addr × Obj} {news nw : List (Addr × Obj)} {L : Nat} (hlo : ∀ p ∈ news ++ nw, p.1 < L) (ha : Apart news nw)
    (h1 : @LT.lt Nat _ L p1.1) (h2 : @LT.lt Nat _ L p2.1) (h3 : @LT.lt Nat _ L p3.1) (h4 : @LT.lt Nat _ L p4.1) (h5 : @LT.lt Nat _ L p5.1) : Apart (p1 :: p2 :: p3 :: p4 :: p5 :: news) nw := by
  intro p hp r hr
  have hr' : @LT.lt Nat _ r.1 L := hlo r (List.mem_append_right _ hr)
  have key : @LT.lt Nat _ L p.1 → p.1 ≠ r.1 := fun h e => by rw [e] at h; exact absurd (Nat.lt_trans h hr') (Nat.lt_irrefl _)
  rcases List.mem_cons.mp hp with rfl | hp
  · exact key h1
  rcases List.mem_cons.mp hp with rfl | hp
  · exact key h2
  rcases List.mem_cons.mp hp with rfl | hp
  · exact key h3
  rcases List.mem_cons.mp hp with rfl | hp
  · exact key h4
  rcases List.mem_cons.mp hp with rfl | hp
  · exact key h5
  exact ha p hp r hr
theorem off3 {news nw : List (Addr × Obj)} {L : Nat} (hlo : ∀ p ∈ news ++ nw, p.1 < L) : OwnOff (news ++ nw) [L + 1 + 1 + 1, L + 1 + 1, L + 1] := by
  intro p hp b hb e
  have h := hlo p hp
  simp only [List.mem_cons, List.not_mem_nil, or_false] at hb
  have h' : @LT.lt Nat _ p.1 L := h
  have e' : @Eq Nat p.1 b := e
  rcases hb with rfl | rfl | rfl <;> omega
theorem tr_call5 {ts : List PTok} {x : Str} {t u : Tok} {sa : Addr} (C : TrC prog w mean mg mb x t u sa ts)
    {dp un : Nat} {gd : Option (List Code)} {cn : Str} {cs : Scope} {a : Addr} {ccd : Value} {cl : List (Str × Addr)} {outer : List Env} {A₀ : Around} {base h₀ : Heap} {L : Addr} {m : Str → Option Value} {p1 p2 p3 p4 p5 : Addr × Obj} {news nw : List (Addr × Obj)} {s : Shared} {Q E : Value → Shared → Prop}
    (B : Below A₀ base outer h₀) (F : Fr h₀ L s.heap m) (X : (kTop w.params).In h₀) (N : News h₀ L s.heap (p1 :: p2 :: p3 :: p4 :: p5 :: (news ++ nw))) (hl : LamSt nw) (hap : Apart (p1 :: p2 :: p3 :: p4 :: p5 :: news) nw) (hc : CodeHd base 87 83) (T : Top topProg LZ mean mg mb h₀) (hk : cs.kind = .function)
    (hx : x.length ≤ 3000) (hdp : dp + 3 < recursionLimit) (hun : un + 24 < cLine)
    (h : ∀ l h' tk vs k nw', Fr h₀ L h' m → News h₀ L h' ((l, listOf vs.toArray k) :: p1 :: p2 :: p3 :: p4 :: p5 :: (news ++ nw')) → LamSt nw' → Apart (p1 :: p2 :: p3 :: p4 :: p5 :: news) nw' → OwnOff (p1 :: p2 :: p3 :: p4 :: p5 :: (news ++ nw')) [l] → PartsAre sa vs (partsOf ts) → Q (.ref l) { s with heap := h', toks := tk }) :
      wpAny (model prog w) (ktrTop dp un gd cn cs L a ccd cl outer) (call (.ref 88) [.str x t, .ref sa, .str (Str.ofString ".") u]) Q E s :=
  C dp un gd cn cs a ccd cl outer A₀ base h₀ L m (p1 :: p2 :: p3 :: p4 :: p5 :: news) nw s Q E B F X N hl hap hc T hk hx hdp hun h
end
/-- one part of the glob, taken by the ends so far -/
def stepE (y : Str) (ends : List Int) (p : Option Str) : List Int := match p with
  | none => ((List.range (y.length + 1)).map fun (i : Nat) => (i : Int)).filter fun k => !ends.isEmpty && decide (ends.headD 0 ≤ k)
  | some q => (ends.filter fun (k : Int) => decide (k < (y.length : Int)) && takesS q (Txt.item y k)).map (· + 1)
def endsOf (y : Str) (ps : List (Option Str)) : List Int := ps.foldl (stepE y) [0]
def fitsS (ts : List PTok) (y : Str) : Bool := (endsOf y (partsOf ts)).any fun x => x == (y.length : Int)
/-- the state between two turns of _law_fits' loop -/
def FJ (y : Str) (sa : Addr) (so : Obj) (c : Addr) (on : Obj) (tl : List (Addr × Obj)) (m₀ : Str → Option Value) (ps : List (Option Str)) (vs : List Value) (m : Str → Option Value) (nx : List (Addr × Obj)) : Prop :=
  ∃ ps₁ rest evs e k op oe pv, ps = ps₁ ++ rest ∧ PartsAre sa vs rest ∧ IntsAre evs (endsOf y ps₁) ∧ op.data = .cell pv ∧ oe.data = .cell (some (.ref e)) ∧ m = m₀ ∧
    (@Ne Nat e (c + 1 + 1 + 1) ∧ @Ne Nat e (c + 1 + 1) ∧ @Ne Nat e (c + 1)) ∧
    nx = (e, listOf evs.toArray k) :: (sa, so) :: (c + 1 + 1 + 1, op) :: (c + 1 + 1, oe) :: (c + 1, on) :: tl
theorem fits_iter {prog : Program} {w : World} {A : Around} {E : Value → Shared → Prop} {Q : Flow → Shared → Prop} {s : Shared} {env : Env} {h₀ : Heap} {target : Expr} {body : List Stmt} {l : Addr} {vs : List Value} {k : Nat} {m₀ : Str → Option Value}
    {y : Str} {sa e : Addr} {so op oe on : Obj} {pv : Option Value} {c : Addr} {tl : List (Addr × Obj)} {ps : List (Option Str)} {t0 : Tok} {k0 : Nat}
    (hh : A.handled = none) (F : Fr h₀ env.locals s.heap m₀) (N : News h₀ env.locals s.heap ((l, listOf vs.toArray k) :: (e, listOf #[.int 0 t0] k0) :: (sa, so) :: (c + 1 + 1 + 1, op) :: (c + 1 + 1, oe) :: (c + 1, on) :: tl))
    (hol : OwnOff ((e, listOf #[.int 0 t0] k0) :: (sa, so) :: (c + 1 + 1 + 1, op) :: (c + 1 + 1, oe) :: (c + 1, on) :: tl) [l]) (hP : PartsAre sa vs ps) (hop : op.data = .cell pv) (hoe : oe.data = .cell (some (.ref e)))
    (hn1 : e ≠ c + 1 + 1 + 1) (hn2 : e ≠ c + 1 + 1) (hn3 : e ≠ c + 1) (hgo : ∀ it v, letOwnedTupleGo target it v = pure ())
    (turn : ∀ v rest m₁ news₁ own (s₁ : Shared), FJ y sa so c on tl m₀ ps (v :: rest) m₁ news₁ → Fr h₀ env.locals s₁.heap m₁ → News h₀ env.locals s₁.heap (news₁ ++ own) → Apart news₁ own →
      wpAny (model prog w) A (assign target env v) (fun _ s₃ => wpAny (model prog w) A (execs body env) (VStep h₀ env.locals own s₁ (FJ y sa so c on tl m₀ ps rest)) E s₃) E s₁)
    (done : ∀ m₁ news₁ h tk, FJ y sa so c on tl m₀ ps [] m₁ news₁ → Fr h₀ env.locals h m₁ → News h₀ env.locals h news₁ → Q .next { s with heap := h, toks := tk }) :
    wpAny (model prog w) A (pyIter (.ref l)) (fun it s₂ => LoopAtT prog w A h₀ env target body Q E it s₂) E s :=
  iter_vals (FJ y sa so c on tl m₀ ps) hh F N (fun p hp => hol p hp _ (.head _)) ⟨[], ps, _, e, k0, op, oe, pv, rfl, hP, .cons 0 t0 .nil, hop, hoe, rfl, ⟨hn1, hn2, hn3⟩, rfl⟩ hgo turn done
theorem cells_mem {p1 p2 : Addr × Obj} {c : Addr} {o1 o2 o3 : Obj} {r : List (Addr × Obj)} : ∀ b ∈ [c + 1 + 1 + 1, c + 1 + 1, c + 1], ∃ o, (b, o) ∈ p1 :: p2 :: (c + 1 + 1 + 1, o1) :: (c + 1 + 1, o2) :: (c + 1, o3) :: r := by
  intro b hb
  simp only [List.mem_cons, List.not_mem_nil, or_false] at hb
  rcases hb with rfl | rfl | rfl
  · exact ⟨_, .tail _ (.tail _ (.head _))⟩
  · exact ⟨_, .tail _ (.tail _ (.tail _ (.head _)))⟩
  · exact ⟨_, .tail _ (.tail _ (.tail _ (.tail _ (.head _))))⟩
theorem off_own {own tl more : List (Addr × Obj)} {adr : List Addr} (h : OwnOff tl adr) (ha : Apart own more) (hm : ∀ b ∈ adr, ∃ o, (b, o) ∈ own) : OwnOff (tl ++ more) adr :=
  off_trans (nw := []) (by rw [List.append_nil]; exact h) ha hm
theorem Apart.tail5 {p1 p2 p3 p4 p5 : Addr × Obj} {news nw : List (Addr × Obj)} (h : Apart (p1 :: p2 :: p3 :: p4 :: p5 :: news) nw) : Apart news nw := fun p hp => h p (.tail _ (.tail _ (.tail _ (.tail _ (.tail _ hp)))))
end PartF1
section PartC4
section
local macro_rules | `(tactic| walk_at "calm one") => `(tactic| skip)
theorem calm_C4 : False → False := by
  w_top off
  intro h
  walk1
local macro_rules | `(tactic| walk_at "calm two") => `(tactic| skip)
theorem calm2_C4 : False → False := by
  w_top off
  intro h
  walk1
end

local macro_rules | `(tactic| walk_at "exec While Compare cons nil") => `(tactic| (k_here; refine blk_out ?_))
local macro_rules | `(tactic| walk_at "storeName") => `(tactic| (dsimp only; walk_at "storeName"))
local macro_rules | `(tactic| walk_at "truthy ref") => `(tactic| (k_here; k_dflt (refine' truthy_listS ?k1 ?k2 ?k3 ?_; (case k1 => k_asm); (case k2 => k_mem); (case k3 => first | omega | (simp only [List.length_append, List.length_cons, List.length_nil]; omega)); k_whole)))
local macro_rules | `(tactic| walk_at "And") => `(tactic| ((with_reducible show BmAt _ _ _ ∧ _); refine ⟨bm_at (by assumption) (by k_mem), ?_⟩; try dsimp only [List.nil_append, List.cons_append]))
local macro_rules | `(tactic| walk_at "exec While BoolOp") => `(tactic| (k_here; refine whl_start 100 ?_))
local macro_rules | `(tactic| walk_at "eval Lambda") => `(tactic| (k_here; k_dflt (refine' lam_turn ?F ?N ?T ?C ?hst ?hl ?hq ?hr ?hap ?hof ?hcl ?hpl ?hpc ?hdef ?_; (case F => k_asm); (case N => k_asm); (case T => k_asm); (case C => k_asm); (case hst => exact Below.stays (by assumption)); (case hl => assumption); (case hq => assumption); (case hr => assumption); (case hap => assumption); (case hof => assumption); (case hcl => exact rfl); (case hpl => exact rfl); (case hpc => exact rfl); (case hdef => exact rfl); k_whole); intro f' o' nw' h' tk' F' N' hl' hof' hap' hrf' hc'))
local macro_rules | `(tactic| walk_at "call ref") => `(tactic| (k_here; k_dflt (refine' ctr_call (c_escape _ _) ?k1 ?k2 ?k3 ?k4 ?k5 ?kK ?kp ?kd ?ku ?_; (case k1 => k_asm); (case k2 => k_asm); (case k3 => k_asm); (case k4 => k_asm); (case k5 => k_asm); (case kK => first | exact rfl | assumption); (case kp => first | trivial | assumption | exact rfl | omega); (case kd => ktr_room); (case ku => ktr_units); k_whole); intro t9 h9 tk9 F9 N9; (try dsimp only); (try k_fold)))
section
variable {prog : Program} {w : World} {mean : ExcName → Option Value} {mg mb : Str → Option Value}
set_option maxHeartbeats 4000000 in
theorem c_trans (ts : List PTok) (hok : ts.all PTok.ok = true) (x : Str) (hx : x.cps.toList = txts ts) (t u : Tok) (sa : Addr) : TrC prog w mean mg mb x t u sa ts := by
  intro dp un gd cn cs a ccd cl outer A₀ base h₀ L m news nw s Q E B F X N hlam hap hcode T hk hpre hdp hun hret
  refine wpAny_call ?_
  k_dflt (refine' code_def (binds := [(Str.ofString "pat", Value.str x t), (Str.ofString "STAR", Value.ref sa), (Str.ofString "QUESTION_MARK", Value.str (Str.ofString ".") u)]) ?k1 ?k2 ?k3 ?k4 ?k5 ?kA ?kF ?kK ?k6 ?k7 ?k8 ?k9 ?kB ?_ ?c2 ?c3 ?c4 ?c5; (case kA => exact rfl); (case kF => exact rfl); (case kK => assumption); (case k1 => k_asm); (case k2 => k_asm); (case k3 => k_asm); (case k4 => k_asm); (case k5 => k_asm); (case k6 => k_is); (case k7 => k_is); (case k8 => ktr_room); (case k9 => exact BindsTo.of_eq rfl); (case c5 => decide); (case kB => exact locs rfl); (case c2 => exact rfl); (case c3 => exact rfl); (case c4 => exact rfl); k_whole; intro g' L' h' FG' F' N' B' X' T'; (try dsimp only [List.reverse_cons, List.reverse_nil, List.nil_append, List.cons_append] at F'); (try dsimp only); (try k_fold))
  k_steps
  refine ⟨?_⟩
  try dsimp only
  rename Fr _ _ _ _ => lF
  rename News _ _ _ _ => lN
  have hxl : x.length = (txts ts).length := by rw [← hx]; rfl
  rename (∀ p ∈ news ++ nw, _) => hlr
  rename (_ < _ ∧ AllLt _ (news ++ nw)) => hqr
  have hoff : OwnOff (news ++ nw) [_] := fun p hp b hb => by rw [List.mem_singleton.mp hb]; exact Nat.ne_of_lt (hlr p hp)
  have hqr1 := ltN hqr.1
  obtain ⟨o83, hm83⟩ := lam_83 hlam
  have hr83 := hlr _ (List.mem_append_right _ hm83)
  have hr83n : _ ≠ 83 := Nat.ne_of_gt (ltN hr83)
  have hq83n : _ ≠ 83 := Nat.ne_of_gt (Nat.lt_trans (ltN hr83) hqr1)
  (with_unfolding_all refine' While_C (s := s) (TJ x t sa u _ _ news ts) lF (news_tail lN) ?hJ ?_)
  case hJ => exact tj_intro (done := []) (rest := ts) (vs := []) rfl rfl .nil rfl hlam hoff hap (by intro p hp; simp only [List.mem_cons, List.not_mem_nil, or_false] at hp; rcases hp with rfl | rfl | rfl | rfl | rfl | rfl | rfl <;> rfl)
  clear lF lN hlam hm83 hoff hlr hap
  intro n m₁ news₁ h₁ tk₁ F₁ N₁ hJ
  obtain ⟨done, rest, vs, k, ti, tn, f, nw₁, hts, hn, hP, ⟨rfl, hlam, hoff, hap⟩, rfl⟩ := hJ
  have hvl : vs.length ≤ 3000 := by
    have h1 := hP.length
    have h2 := parts_len done []
    have h3 : (txts ts).length = (txts done).length + (txts rest).length := by rw [hts, txts_append, List.length_append]
    show vs.length ≤ 3000
    have h4 : (partsOf done).length ≤ (txts done).length := by simpa [partsOf] using h2
    omega
  cases rest with
  | nil =>
    have hlt : ¬ (((txts done).length : Int) < (x.length : Int)) := by rw [hxl, hts, List.append_nil]; omega
    (try dsimp only); (try k_fold)
    k_steps
    · have heq := hts
      rw [List.append_nil] at heq
      exact hret _ _ _ vs k _ (by assumption) (cb_drop (by assumption) (by kcj_all)) hlam hap hoff (by rw [heq]; exact hP)
    · exact absurd (by rw [hxl, hts, List.append_nil] : ((txts done).length : Int) = (x.length : Int)) (by assumption)
  | cons tok rest =>
    have hx' : x.cps.toList = txts done ++ (tok.txt ++ txts rest) := by rw [hx, hts, txts_append]; simp [txts]
    have hlen : x.length = (txts done).length + (tok.txt.length + (txts rest).length) := by
      have : x.length = x.cps.toList.length := rfl
      rw [this, hx', List.length_append, List.length_append]
    have hok1 : tok.ok = true := by
      rw [hts, List.all_append, List.all_cons] at hok
      simp only [Bool.and_eq_true] at hok
      exact hok.2.1
    subst hn
    cases tok with
    | star =>
      have hI0 : Txt.item x ((txts done).length : Int) = ⟨#[42]⟩ := item_nat (at_app (by rw [hx']; rfl))
      simp only [PTok.txt, List.length_cons, List.length_nil] at hlen
      clear hx hx' hok hok1
      rcases hP.last with ⟨rfl, hps⟩ | ⟨us, v, qs, pp, rfl, hps, _, hv⟩
      · (try dsimp only); (try k_fold)
        k_steps
        · exact bm_at (by assumption) (by k_mem)
        (try dsimp only); refine' bstep_next ?b1F ?b1N (Nat.lt_succ_self _) (tj_push (by assumption) (by assumption) (by assumption) (p := none) ?b1h hts hP (by rw [partsOf_snoc, hps]; simp [addPart]) rfl ?b1m1 ?b1m2 ?b1m3 ?b1m4 ?b1m5 ?b1m6 ?b1m7 ?b1iv); (case b1F => assumption); (case b1N => first | assumption | exact news_tail (by assumption) | exact news_tail (news_tail (by assumption))); (case b1h => first | exact rfl | simp); (try case b1v => first | exact rfl | exact ⟨_, rfl⟩); (case b1m1 => with_unfolding_all exact rfl); (case b1m2 => with_unfolding_all exact rfl); (case b1m3 => with_unfolding_all exact rfl); (case b1m4 => with_unfolding_all exact rfl); (case b1m5 => with_unfolding_all exact rfl); (case b1m6 => with_unfolding_all exact rfl); (case b1m7 => with_unfolding_all exact rfl); (case b1iv => first | exact rfl | (simp [PTok.txt]; done) | (simp [PTok.txt]; omega))
      · cases pp with
        | none =>
          obtain rfl : v = .ref sa := hv
          (try dsimp only); (try k_fold)
          k_steps
          (try dsimp only); refine' bstep_next ?b2F ?b2N (Nat.lt_succ_self _) (tj_same (by assumption) (by assumption) (by assumption) ?b2h hts hP (by rw [partsOf_snoc, hps]; simp [addPart]) ?b2m1 ?b2m2 ?b2m3 ?b2m4 ?b2m5 ?b2m6 ?b2m7 ?b2iv); (case b2F => assumption); (case b2N => first | assumption | exact news_tail (by assumption) | exact news_tail (news_tail (by assumption))); (case b2h => first | exact rfl | simp); (try case b2v => first | exact rfl | exact ⟨_, rfl⟩); (case b2m1 => with_unfolding_all exact rfl); (case b2m2 => with_unfolding_all exact rfl); (case b2m3 => with_unfolding_all exact rfl); (case b2m4 => with_unfolding_all exact rfl); (case b2m5 => with_unfolding_all exact rfl); (case b2m6 => with_unfolding_all exact rfl); (case b2m7 => with_unfolding_all exact rfl); (case b2iv => first | exact rfl | (simp [PTok.txt]; done) | (simp [PTok.txt]; omega))
        | some y =>
          obtain ⟨ty, rfl⟩ := hv
          (try dsimp only); (try k_fold)
          k_steps
          · exact bm_at (by assumption) (by k_mem)
          (try dsimp only); refine' bstep_next ?b3F ?b3N (Nat.lt_succ_self _) (tj_push (by assumption) (by assumption) (by assumption) (p := none) ?b3h hts hP (by rw [partsOf_snoc, hps]; simp [addPart]) rfl ?b3m1 ?b3m2 ?b3m3 ?b3m4 ?b3m5 ?b3m6 ?b3m7 ?b3iv); (case b3F => assumption); (case b3N => first | assumption | exact news_tail (by assumption) | exact news_tail (news_tail (by assumption))); (case b3h => first | exact rfl | simp); (try case b3v => first | exact rfl | exact ⟨_, rfl⟩); (case b3m1 => with_unfolding_all exact rfl); (case b3m2 => with_unfolding_all exact rfl); (case b3m3 => with_unfolding_all exact rfl); (case b3m4 => with_unfolding_all exact rfl); (case b3m5 => with_unfolding_all exact rfl); (case b3m6 => with_unfolding_all exact rfl); (case b3m7 => with_unfolding_all exact rfl); (case b3iv => first | exact rfl | (simp [PTok.txt]; done) | (simp [PTok.txt]; omega))
    | lit c =>
      have hI0 : Txt.item x ((txts done).length : Int) = ⟨#[c]⟩ := item_nat (at_app (by rw [hx']; rfl))
      simp only [PTok.txt, List.length_cons, List.length_nil] at hlen
      have hc1 : c ≠ 42 := by rintro rfl; simp [PTok.ok] at hok1
      have hc2 : c ≠ 63 := by rintro rfl; simp [PTok.ok] at hok1
      have hc3 : c ≠ 91 := by rintro rfl; simp [PTok.ok] at hok1
      have hd1 : ((⟨#[c]⟩ : Str) == Str.ofString "*") = false := sign_ne hc1
      have hd2 : ((⟨#[c]⟩ : Str) == Str.ofString "?") = false := sign_ne hc2
      have hd3 : ((⟨#[c]⟩ : Str) == Str.ofString "[") = false := sign_ne hc3
      clear hx hx' hok hok1
      (try dsimp only); (try k_fold)
      k_steps
      · exact bm_at (by assumption) (by k_mem)
      (try dsimp only); refine' bstep_next ?b4F ?b4N (Nat.lt_succ_self _) (tj_push (by assumption) (by assumption) (by assumption) (p := some (escX ⟨#[c]⟩)) ?b4h hts hP (by rw [partsOf_snoc]; rfl) ?b4v ?b4m1 ?b4m2 ?b4m3 ?b4m4 ?b4m5 ?b4m6 ?b4m7 ?b4iv); (case b4F => assumption); (case b4N => first | assumption | exact news_tail (by assumption) | exact news_tail (news_tail (by assumption))); (case b4h => first | exact rfl | simp); (try case b4v => first | exact rfl | exact ⟨_, rfl⟩); (case b4m1 => with_unfolding_all exact rfl); (case b4m2 => with_unfolding_all exact rfl); (case b4m3 => with_unfolding_all exact rfl); (case b4m4 => with_unfolding_all exact rfl); (case b4m5 => with_unfolding_all exact rfl); (case b4m6 => with_unfolding_all exact rfl); (case b4m7 => with_unfolding_all exact rfl); (case b4iv => first | exact rfl | (simp [PTok.txt]; done) | (simp [PTok.txt]; omega))
    | box c =>
      have hI0 : Txt.item x ((txts done).length : Int) = ⟨#[91]⟩ := item_nat (at_app (by rw [hx']; rfl))
      have hI1 : Txt.item x ((txts done).length + 1 : Int) = ⟨#[c]⟩ := item_nat (i := (txts done).length + 1) (at_app1 (by rw [hx']; rfl))
      have hI2 : Txt.item x ((txts done).length + 1 + 1 : Int) = ⟨#[93]⟩ := item_nat (i := (txts done).length + 1 + 1) (at_app2 (by rw [hx']; rfl))
      have hSl : Txt.slice x (some ((txts done).length + 1 : Int)) (some ((txts done).length + 1 + 1 : Int)) = ⟨#[c]⟩ := slice_nat (i := (txts done).length + 1) (j := (txts done).length + 1 + 1) (l := [c]) (by omega) (by rw [hlen]; simp [PTok.txt]; omega) (by rw [hx']; simp [PTok.txt])
      simp only [PTok.txt, List.length_cons, List.length_nil] at hlen
      have hcc : c = 42 ∨ c = 63 ∨ c = 91 := by
        simp only [PTok.ok, Bool.or_eq_true, beq_iff_eq] at hok1
        omega
      clear hx hx' hok hok1
      rcases hcc with rfl | rfl | rfl
      · (try dsimp only); (try k_fold)
        k_steps
        · exact bm_at (by assumption) (by k_mem)
        (try dsimp only); refine' bstep_next ?b5F ?b5N (Nat.lt_succ_self _) (tj_push (by assumption) (by assumption) (by assumption) (p := some (boxS 42)) ?b5h hts hP (by rw [partsOf_snoc]; rfl) ?b5v ?b5m1 ?b5m2 ?b5m3 ?b5m4 ?b5m5 ?b5m6 ?b5m7 ?b5iv); (case b5F => assumption); (case b5N => first | assumption | exact news_tail (by assumption) | exact news_tail (news_tail (by assumption))); (case b5h => first | exact rfl | simp); (try case b5v => first | exact rfl | exact ⟨_, rfl⟩); (case b5m1 => with_unfolding_all exact rfl); (case b5m2 => with_unfolding_all exact rfl); (case b5m3 => with_unfolding_all exact rfl); (case b5m4 => with_unfolding_all exact rfl); (case b5m5 => with_unfolding_all exact rfl); (case b5m6 => with_unfolding_all exact rfl); (case b5m7 => with_unfolding_all exact rfl); (case b5iv => first | exact rfl | (simp [PTok.txt]; done) | (simp [PTok.txt]; omega))
      · (try dsimp only); (try k_fold)
        k_steps
        · exact bm_at (by assumption) (by k_mem)
        (try dsimp only); refine' bstep_next ?b6F ?b6N (Nat.lt_succ_self _) (tj_push (by assumption) (by assumption) (by assumption) (p := some (boxS 63)) ?b6h hts hP (by rw [partsOf_snoc]; rfl) ?b6v ?b6m1 ?b6m2 ?b6m3 ?b6m4 ?b6m5 ?b6m6 ?b6m7 ?b6iv); (case b6F => assumption); (case b6N => first | assumption | exact news_tail (by assumption) | exact news_tail (news_tail (by assumption))); (case b6h => first | exact rfl | simp); (try case b6v => first | exact rfl | exact ⟨_, rfl⟩); (case b6m1 => with_unfolding_all exact rfl); (case b6m2 => with_unfolding_all exact rfl); (case b6m3 => with_unfolding_all exact rfl); (case b6m4 => with_unfolding_all exact rfl); (case b6m5 => with_unfolding_all exact rfl); (case b6m6 => with_unfolding_all exact rfl); (case b6m7 => with_unfolding_all exact rfl); (case b6iv => first | exact rfl | (simp [PTok.txt]; done) | (simp [PTok.txt]; omega))
      · (try dsimp only); (try k_fold)
        k_steps
        · exact bm_at (by assumption) (by k_mem)
        (try dsimp only); refine' bstep_next ?b7F ?b7N (Nat.lt_succ_self _) (tj_push (by assumption) (by assumption) (by assumption) (p := some (boxS 91)) ?b7h hts hP (by rw [partsOf_snoc]; rfl) ?b7v ?b7m1 ?b7m2 ?b7m3 ?b7m4 ?b7m5 ?b7m6 ?b7m7 ?b7iv); (case b7F => assumption); (case b7N => first | assumption | exact news_tail (by assumption) | exact news_tail (news_tail (by assumption))); (case b7h => first | exact rfl | simp); (try case b7v => first | exact rfl | exact ⟨_, rfl⟩); (case b7m1 => with_unfolding_all exact rfl); (case b7m2 => with_unfolding_all exact rfl); (case b7m3 => with_unfolding_all exact rfl); (case b7m4 => with_unfolding_all exact rfl); (case b7m5 => with_unfolding_all exact rfl); (case b7m6 => with_unfolding_all exact rfl); (case b7m7 => with_unfolding_all exact rfl); (case b7iv => first | exact rfl | (simp [PTok.txt]; done) | (simp [PTok.txt]; omega))
    | nd =>
      have hI0 : Txt.item x ((txts done).length : Int) = ⟨#[91]⟩ := item_nat (at_app (by rw [hx']; rfl))
      have hI1 : Txt.item x ((txts done).length + 1 : Int) = ⟨#[33]⟩ := item_nat (i := (txts done).length + 1) (at_app1 (by rw [hx']; rfl))
      have hI2 : Txt.item x ((txts done).length + 1 + 1 : Int) = ⟨#[46]⟩ := item_nat (i := (txts done).length + 1 + 1) (at_app2 (by rw [hx']; rfl))
      have hI3 : Txt.item x ((txts done).length + 1 + 1 + 1 : Int) = ⟨#[93]⟩ := item_nat (i := (txts done).length + 1 + 1 + 1) (at_app3 (by rw [hx']; rfl))
      have hSl : Txt.slice x (some ((txts done).length + 1 : Int)) (some ((txts done).length + 1 + 1 + 1 : Int)) = ⟨#[33, 46]⟩ := slice_nat (i := (txts done).length + 1) (j := (txts done).length + 1 + 1 + 1) (l := [33, 46]) (by omega) (by rw [hlen]; simp [PTok.txt]; omega) (by rw [hx']; simp [PTok.txt])
      simp only [PTok.txt, List.length_cons, List.length_nil] at hlen
      clear hx hx' hok hok1
      (try dsimp only); (try k_fold)
      k_steps
      · exact bm_at (by assumption) (by k_mem)
      (try dsimp only); refine' bstep_next ?b8F ?b8N (Nat.lt_succ_self _) (tj_push (by assumption) (by assumption) (by assumption) (p := some ndS) ?b8h hts hP (by rw [partsOf_snoc]; rfl) ?b8v ?b8m1 ?b8m2 ?b8m3 ?b8m4 ?b8m5 ?b8m6 ?b8m7 ?b8iv); (case b8F => assumption); (case b8N => first | assumption | exact news_tail (by assumption) | exact news_tail (news_tail (by assumption))); (case b8h => first | exact rfl | simp); (try case b8v => first | exact rfl | exact ⟨_, rfl⟩); (case b8m1 => with_unfolding_all exact rfl); (case b8m2 => with_unfolding_all exact rfl); (case b8m3 => with_unfolding_all exact rfl); (case b8m4 => with_unfolding_all exact rfl); (case b8m5 => with_unfolding_all exact rfl); (case b8m6 => with_unfolding_all exact rfl); (case b8m7 => with_unfolding_all exact rfl); (case b8iv => first | exact rfl | (simp [PTok.txt]; done) | (simp [PTok.txt]; omega))
end
end PartC4
section PartF2
section
local macro_rules | `(tactic| walk_at "calm one") => `(tactic| skip)
theorem calm_F2 : False → False := by
  w_top off
  intro h
  walk1
local macro_rules | `(tactic| walk_at "calm two") => `(tactic| skip)
theorem calm2_F2 : False → False := by
  w_top off
  intro h
  walk1
end
theorem off1_mem {D : Addr} : ∀ {l : List (Addr × Obj)}, LCg.Off1 D l → ∀ p ∈ l, p.1 ≠ D
  | [], _, _, h => nomatch h
  | _ :: _, x, p, h => by
    rcases List.mem_cons.mp h with rfl | h
    · exact x.1
    · exact off1_mem x.2 p h
theorem endsOf_snoc (y : Str) (ps : List (Option Str)) (p : Option Str) : endsOf y (ps ++ [p]) = stepE y (endsOf y ps) p := by simp [endsOf]
theorem fold_fm (p : Int → Bool) (g : Int → Int) (f : List Int → Int → List Int) (hf : ∀ l k, f l k = if p k = true then l ++ [g k] else l) : ∀ (ks l : List Int), ks.foldl f l = l ++ (ks.filter p).map g
  | [], l => by simp
  | k :: ks, l => by
    rw [List.foldl_cons, fold_fm p g f hf ks, hf]
    cases h : p k <;> simp [h]
theorem rangeKs_zero (n : Nat) : rangeKs 0 ((n : Int) + 1 - 0).toNat = (List.range (n + 1)).map fun (i : Nat) => (i : Int) := by
  have e : ((n : Int) + 1 - 0).toNat = n + 1 := by omega
  rw [e, rangeKs]
  simp
theorem star_nil {y : Str} {f : List Int → Int → List Int} (hf : ∀ l k, f l k = l) : (rangeKs 0 ((y.length : Int) + 1 - 0).toNat).foldl f [] = stepE y [] none := by
  rw [fold_fm (fun _ => false) id f (by intro l k; rw [hf]; simp), stepE]
  have e : ∀ l : List Int, l.filter (fun _ => false) = [] := fun l => by simp
  simp only [List.isEmpty_nil, Bool.not_true, Bool.false_and]
  rw [e, e]; rfl
theorem star_cons {y : Str} {a : Int} {as : List Int} {f : List Int → Int → List Int} (hf : ∀ l k, f l k = if a ≤ k then l ++ [k] else l) : (rangeKs 0 ((y.length : Int) + 1 - 0).toNat).foldl f [] = stepE y (a :: as) none := by
  rw [fold_fm (fun k => decide (a ≤ k)) id f (by intro l k; rw [hf]; simp), stepE, rangeKs_zero]
  simp
theorem part_fold {y q : Str} {ends : List Int} {f : List Int → Int → List Int} (hf : ∀ l k, f l k = if (decide (k < (y.length : Int)) && takesS q (Txt.item y k)) = true then l ++ [k + 1] else l) : ends.foldl f [] = stepE y ends (some q) := by
  rw [fold_fm (fun k => decide (k < (y.length : Int)) && takesS q (Txt.item y k)) (· + 1) f hf, stepE]
  simp
theorem fj_end {h₀ h' : Heap} {L sa c D e : Addr} {so op oe on op₀ oe₀ oo : Obj} {k₀ : Array Value} {kk : Nat} {tl own : List (Addr × Obj)} {m₀ : Str → Option Value} {y : Str} {s₁ : Shared} {tk : Nat} {ps ps₁ rs : List (Option Str)} {p : Option Str} {rest ys : List Value} {es : List Int} {pv : Option Value}
    (F : Fr h₀ L h' m₀) (N : News h₀ L h' ((D, LCg.lst ys) :: (e, oo) :: (sa, so) :: (c + 1 + 1 + 1, op) :: (c + 1 + 1, oe) :: (c + 1, on) :: (tl ++ own)))
    (ha : Apart ((e, listOf k₀ kk) :: (sa, so) :: (c + 1 + 1 + 1, op₀) :: (c + 1 + 1, oe₀) :: (c + 1, on) :: tl) own) (hps : ps = ps₁ ++ p :: rs) (hP : PartsAre sa rest rs) (hI : IntsAre ys es) (hes : es = stepE y (endsOf y ps₁) p)
    (hop : op.data = .cell pv) (hoe : oe.data = .cell (some (.ref D)))
    (hD : e ≠ D ∧ sa ≠ D ∧ c + 1 + 1 + 1 ≠ D ∧ c + 1 + 1 ≠ D ∧ c + 1 ≠ D ∧ LCg.Off1 D (tl ++ own)) :
    VStep h₀ L own s₁ (FJ y sa so c on tl m₀ ps rest) .next { s₁ with heap := h', toks := tk } := by
  obtain ⟨_, _, d1, d2, d3, d4⟩ := hD
  have hoD := off1_mem d4
  refine vstep_next (news₂ := (D, LCg.lst ys) :: (sa, so) :: (c + 1 + 1 + 1, op) :: (c + 1 + 1, oe) :: (c + 1, on) :: tl) F (fun q hq => N q ?_) (fun q hq r hr => ?_) ?_
  · rcases List.mem_cons.mp hq with rfl | hq
    · exact .head _
    · exact .tail _ (.tail _ hq)
  · rcases List.mem_cons.mp hq with rfl | hq
    · exact fun e => hoD r (List.mem_append_right _ hr) e.symm
    rcases List.mem_cons.mp hq with rfl | hq
    · exact ha _ (.tail _ (.head _)) r hr
    rcases List.mem_cons.mp hq with rfl | hq
    · exact ha _ (.tail _ (.tail _ (.head _))) r hr
    rcases List.mem_cons.mp hq with rfl | hq
    · exact ha _ (.tail _ (.tail _ (.tail _ (.head _)))) r hr
    rcases List.mem_cons.mp hq with rfl | hq
    · exact ha _ (.tail _ (.tail _ (.tail _ (.tail _ (.head _))))) r hr
    · exact ha q (.tail _ (.tail _ (.tail _ (.tail _ (.tail _ hq))))) r hr
  · refine ⟨ps₁ ++ [p], rs, ys, D, _, op, oe, pv, by rw [hps]; simp, hP, ?_, hop, hoe, rfl, ⟨fun e => d1 e.symm, fun e => d2 e.symm, fun e => d3 e.symm⟩, rfl⟩
    rw [endsOf_snoc, ← hes]; exact hI
theorem ends_nn (y : Str) : ∀ (ps : List (Option Str)) (es : List Int), (∀ k ∈ es, 0 ≤ k) → ∀ k ∈ ps.foldl (stepE y) es, 0 ≤ k
  | [], _, h => h
  | p :: ps, es, h => ends_nn y ps (stepE y es p) (by
    intro k hk
    cases p with
    | none =>
      obtain ⟨i, _, rfl⟩ := List.mem_map.mp (List.mem_filter.mp hk).1
      exact Int.natCast_nonneg i
    | some q =>
      obtain ⟨i, hi, rfl⟩ := List.mem_map.mp hk
      have := h i (List.mem_filter.mp hi).1
      omega)
theorem endsOf_nn (y : Str) (ps : List (Option Str)) : ∀ k ∈ endsOf y ps, 0 ≤ k := ends_nn y ps [0] (by simp)
def Short (p : Option Str) : Prop := match p with | none => True | some q => q.length ≤ 4
theorem addPart_short {ps : List (Option Str)} (h : ∀ p ∈ ps, Short p) (t : PTok) : ∀ p ∈ addPart ps t, Short p := by
  have one : ∀ z : Option Str, Short z → ∀ p ∈ ps ++ [z], Short p := fun z hz p hp => by
    rcases List.mem_append.mp hp with hp | hp
    · exact h p hp
    · rw [List.mem_singleton.mp hp]; exact hz
  cases t with
  | star =>
    unfold addPart; dsimp only
    split
    · exact h
    · exact one _ trivial
  | lit c => exact one _ (by show (escS c).length ≤ 4; unfold escS; split <;> exact Nat.le_of_ble_eq_true rfl)
  | box c => exact one _ (by show (boxS c).length ≤ 4; unfold boxS; split <;> exact Nat.le_of_ble_eq_true rfl)
  | nd => exact one _ (by show ndS.length ≤ 4; decide)
theorem parts_short : ∀ (ts : List PTok) (ps : List (Option Str)), (∀ p ∈ ps, Short p) → ∀ p ∈ ts.foldl addPart ps, Short p
  | [], _, h => h
  | t :: ts, _, h => parts_short ts _ (addPart_short h t)
theorem partsOf_short {ts : List PTok} {ps₁ rs : List (Option Str)} {q : Str} (h : partsOf ts = ps₁ ++ some q :: rs) : q.length ≤ 4 := parts_short ts [] (by simp) (some q) (by rw [show ts.foldl addPart [] = partsOf ts from rfl, h]; simp)
theorem ends_len (y : Str) : ∀ (ps : List (Option Str)) (es : List Int), es.length ≤ y.length + 1 → (ps.foldl (stepE y) es).length ≤ y.length + 1
  | [], _, h => h
  | p :: ps, es, h => ends_len y ps (stepE y es p) (by
    cases p with
    | none => exact Nat.le_trans (List.length_filter_le _ _) (by simp)
    | some q => simp only [stepE, List.length_map]; exact Nat.le_trans (List.length_filter_le _ _) h)
theorem endsOf_len (y : Str) (ps : List (Option Str)) : (endsOf y ps).length ≤ y.length + 1 := ends_len y ps [0] (by simp)
theorem item_one {y : Str} {k : Int} (h0 : 0 ≤ k) (h1 : k < (y.length : Int)) : (Txt.item y k).length = 1 := by
  obtain ⟨n, rfl⟩ := Int.eq_ofNat_of_zero_le h0
  have hn : n < y.cps.toList.length := by have : y.length = y.cps.toList.length := rfl; omega
  rw [item_nat (List.getElem?_eq_getElem hn)]
  rfl
theorem fold_cong {f g : List Int → Int → List Int} : ∀ {ks : List Int}, (∀ k ∈ ks, ∀ l, f l k = g l k) → ∀ l, ks.foldl f l = ks.foldl g l
  | [], _, _ => rfl
  | k :: ks, h, l => by
    rw [List.foldl_cons, List.foldl_cons, h k (.head _), fold_cong (fun k hk => h k (.tail _ hk))]
theorem part_fold2 {y q : Str} {ends : List Int} (hnn : ∀ k ∈ ends, (0 : Int) ≤ k) {f : List Int → Int → List Int}
    (hf : ∀ l k, f l k = if k < (y.length : Int) ∧ (1 ≤ (Txt.item y k).length ∧ (Txt.item y k).length ≤ 1) ∧ takesS q (Txt.item y k) = true then l ++ [k + 1] else l) : ends.foldl f [] = stepE y ends (some q) := by
  rw [fold_cong (g := fun l k => if (decide (k < (y.length : Int)) && takesS q (Txt.item y k)) = true then l ++ [k + 1] else l) (fun k hk l => ?_)]
  · exact part_fold fun l k => rfl
  · rw [hf]
    by_cases h : k < (y.length : Int)
    · have := item_one (hnn k hk) h
      simp [h, this]
    · simp [h]
end PartF2
section PartC5
section
local macro_rules | `(tactic| walk_at "calm one") => `(tactic| skip)
theorem calm_C5 : False → False := by
  w_top off
  intro h
  walk1
local macro_rules | `(tactic| walk_at "calm two") => `(tactic| skip)
theorem calm2_C5 : False → False := by
  w_top off
  intro h
  walk1
end

local macro_rules | `(tactic| walk_at "exec For") => `(tactic| (k_here; refine blk_out ?_))
local macro_rules | `(tactic| walk_at "pyIter ref") => `(tactic| (k_here; (with_reducible show wpAny _ _ _ (fun _ _ => LoopAtT _ _ _ _ _ _ _ _ _ _ _) _ _); refine blk_out ?_))
local macro_rules | `(tactic| walk_at "call ref") => `(tactic| (k_here; k_dflt (refine' ctr_call (c_takes _ _ _ _) ?k1 ?k2 ?k3 ?k4 ?k5 ?kK ?kp ?kd ?ku ?_; (case k1 => k_asm); (case k2 => k_asm); (case k3 => k_asm); (case k4 => k_asm); (case k5 => k_asm); (case kK => first | exact rfl | assumption); (case kp => first | trivial | assumption | exact rfl | omega); (case kd => ktr_room); (case ku => ktr_units); k_whole); intro t9 h9 tk9 F9 N9; (try dsimp only); (try k_fold)))
local macro_rules | `(tactic| walk_at "call ref") => `(tactic| (k_here; (rename (∀ (t u : Tok) (sa : Addr), TrC _ _ _ _ _ _ t u sa _) => hTr'); k_dflt (refine' tr_call5 (hTr' _ _ _) ?k1 ?k2 ?k3 ?k4 ?k5 ?k6 ?k7 ?k8 ?k9 ?ka ?kb ?kc ?_; (case k1 => k_asm); (case k2 => k_asm); (case k3 => k_asm); (case k4 => k_asm); (case k5 => assumption); (case k6 => exact apart5 (by assumption) (by assumption) (by first | omega | (dsimp only; omega)) (by first | omega | (dsimp only; omega)) (by first | omega | (dsimp only; omega)) (by first | omega | (dsimp only; omega)) (by first | omega | (dsimp only; omega))); (case k7 => assumption); (case k8 => k_asm); (case k9 => exact rfl); (case ka => assumption); (case kb => ktr_room); (case kc => ktr_units); k_whole); intro l9 h9 tk9 vs9 k9 nw9 F9 N9 hl9 ha9 ho9 hP9; (try dsimp only)))
local macro_rules | `(tactic| walk_at "compareOp NotEq ref ref") => `(tactic| (k_here; k_dflt (refine' ne_nil ?k1 ?k2 ?k3 ?k4 ?_; (case k1 => k_asm); (case k2 => k_mem); (case k3 => k_mem); (case k4 => ktr_units); k_whole)))
local macro_rules | `(tactic| walk_at "CompSrcT") => `(tactic| (k_here; (refine LCt.CompSrcT.ledger (by rfl) (by k_asm) (by k_asm) (by k_mem) (by rw [PySem.sizeLine_eq, List.size_toArray]; omega) ?_; intro g'; (refine' kci_list _ (by assumption) (fun k' t' I' oI' C' oC' D' m' ys' l' h' tk' E' hk' hI' hC' hx' F' N' off' ne' => ?_) ?_ ?_); (all_goals (try (have hk0' := (by assumption : ∀ k ∈ endsOf _ _, (0 : Int) ≤ k) _ hk'))); (all_goals (try (simp only [LCg.Off3, and_true] at off'))); (all_goals (try ((show KPfMark → _); intro hMark'))); kcf_last)))
local macro_rules | `(tactic| walk_at "compareOp Is") => `(tactic| (k_here; (with_reducible show wpAny _ _ (compareOp CmpOp.Is (Value.str _ _) (Value.ref _)) _ _ _); refine wpAny_is_other (by rfl) (by intro x; cases x) ?_))
local macro_rules | `(tactic| walk_at "subscriptTail Name Constant ref int") => `(tactic| (k_here; k_dflt (refine' item0 ?k1 ?k2 ?_; (case k1 => k_asm); (case k2 => k_mem); k_whole)))
section
variable {prog : Program} {w : World} {mean : ExcName → Option Value} {mg mb : Str → Option Value}
set_option maxHeartbeats 4000000 in
theorem c_fits (tr : ∀ (x : Str) (t u : Tok) (sa : Addr) (ts : List PTok), ts.all PTok.ok = true → x.cps.toList = txts ts → TrC prog w mean mg mb x t u sa ts) (ts : List PTok) (hok : ts.all PTok.ok = true) (x y : Str) (hx : x.cps.toList = txts ts) (t u : Tok) : CtrL prog w mean mg mb 107 5 [.str x t, .str y u] (x.length ≤ 3000 ∧ y.length ≤ 300) (fun _ => .bool (fitsS ts y)) := by
  intro dp un gd cn cs a ccd cl outer A₀ base h₀ L m news nw s Q E B F X N hlam hap hcode T hk hpre hdp hun hret
  obtain ⟨hp1, hp2⟩ := hpre
  refine wpAny_call ?_
  k_dflt (refine' code_defC (binds := [(Str.ofString "glob", Value.str x t), (Str.ofString "name", Value.str y u)]) ?k1 ?k2 ?k3 ?k4 ?k5 ?kA ?kF ?kK ?k6 ?k7 ?k8 ?k9 ?kB ?kD ?_ ?c2 ?c3 ?c4; (case kA => exact rfl); (case kF => exact rfl); (case kK => assumption); (case k1 => k_asm); (case k2 => k_asm); (case k3 => k_asm); (case k4 => k_asm); (case k5 => k_asm); (case k6 => k_is); (case k7 => k_is); (case k8 => ktr_room); (case k9 => exact BindsTo.of_eq rfl); (case kB => exact rfl); (case kD => decide +kernel); (case c2 => exact rfl); (case c3 => exact rfl); (case c4 => exact rfl); k_whole; intro g' L' h' tk' cells' FG' F' N' Y' B' X' T' l1; (try k_lt l1); k_cells Y'; (try simp only [List.cons_append, List.nil_append] at N'); (try dsimp only); (try k_fold))
  have hTr : ∀ (t u : Tok) (sa : Addr), TrC prog w mean mg mb x t u sa ts := fun t u sa => tr x t u sa ts hok hx
  have hlo := l1
  have hoff := off3 hlo
  k_steps
  refine ⟨?_⟩
  (try dsimp only)
  rename Fr _ _ _ _ => lF
  refine For_invTF lF ?_ (by intro _; rfl)
  k_steps
  refine ⟨?_⟩
  (try dsimp only)
  clear lF
  rename Fr _ _ _ _ => lF
  rename News _ _ _ _ => lN
  rename PartsAre _ _ _ => hP
  rename OwnOff (_ :: _) _ => hol
  rename LamSt _ => hl9
  rename Apart (_ :: _) _ => ha9
  with_unfolding_all refine' fits_iter (y := y) ?hh ?F ?N ?hol ?hP ?hop ?hoe ?hn1 ?hn2 ?hn3 ?hgo ?turn ?done
  case hh => exact rfl
  case F => exact lF
  case N => exact lN
  case hol => exact hol
  case hP => exact hP
  case hop => assumption
  case hoe => assumption
  case hn1 => k_ne
  case hn2 => k_ne
  case hn3 => k_ne
  case hgo => intro it v; rfl
  case done =>
    clear lF lN hol
    rintro m₁ news₁ h₁ tk₁ ⟨ps₁, rest, evs, e, k, op, oe, pv, hps, hP', hI, hop, hoe, rfl, ⟨hn1, hn2, hn3⟩, rfl⟩ F₁ N₁
    cases hP'
    rw [List.append_nil] at hps
    subst hps
    (try dsimp only)
    k_steps
    exact hret 0 _ _ _ (by assumption) (cb_drop (by assumption) (by kcj_all)) hl9 ha9.tail5
  case turn =>
    clear lF lN hol
    rintro v rest m₁ news₁ own s₁ ⟨ps₁, rs, evs, e, k, op, oe, pv, hps, hP', hI, hop, hoe, rfl, ⟨hn1, hn2, hn3⟩, rfl⟩ F₁ N₁ ha₁
    have hoff9 := off_own (off_trans hoff ha9 cells_mem) ha₁ cells_mem
    rcases hP' with _ | ⟨hv, hP'⟩
    rename_i p ps
    cases p with
    | none =>
      obtain rfl : v = .ref _ := hv
      generalize hE : endsOf y ps₁ = es at hI
      cases hI with
      | nil =>
        (try dsimp only [List.cons_append] at N₁)
        k_steps
        (try dsimp only)
        exact fj_end (by assumption) (by assumption) ha₁ hps hP' (by assumption) (by rw [hE]; exact star_nil (by intro l k; simp)) (by assumption) (by assumption) (by assumption)
      | cons a1 t1 hI =>
        (try dsimp only [List.cons_append] at N₁)
        k_steps
        (try dsimp only)
        exact fj_end (by assumption) (by assumption) ha₁ hps hP' (by assumption) (by rw [hE]; exact star_cons (by intro l k; simp)) (by assumption) (by assumption) (by assumption)
    | some q =>
      obtain ⟨tq, rfl⟩ := hv
      have hq4 := partsOf_short hps
      have hnn := endsOf_nn y ps₁
      have hel : evs.length ≤ y.length + 1 := by rw [hI.length]; exact endsOf_len y ps₁
      (try dsimp only [List.cons_append] at N₁)
      k_steps
      (try dsimp only)
      exact fj_end (by assumption) (by assumption) ha₁ hps hP' (by assumption) (part_fold2 hnn (by intro l k; split <;> simp_all)) (by assumption) (by assumption) (by assumption)
end
end PartC5
section PartC6
section
local macro_rules | `(tactic| walk_at "calm one") => `(tactic| skip)
theorem calm_C6 : False → False := by
  w_top off
  intro h
  walk1
local macro_rules | `(tactic| walk_at "calm two") => `(tactic| skip)
theorem calm2_C6 : False → False := by
  w_top off
  intro h
  walk1
end

section
variable {prog : Program} {w : World} {mean : ExcName → Option Value} {mg mb : Str → Option Value}
theorem ctrL_call {f : Addr} {need : Nat} {vs : List Value} {pre : Prop} {R : Tok → Value} (C : CtrL prog w mean mg mb f need vs pre R)
    {dp un : Nat} {gd : Option (List Code)} {cn : Str} {cs : Scope} {a : Addr} {ccd : Value} {cl : List (Str × Addr)} {outer : List Env} {A₀ : Around} {base h₀ : Heap} {L : Addr} {m : Str → Option Value} {news nw : List (Addr × Obj)} {s : Shared} {Q E : Value → Shared → Prop}
    (B : Below A₀ base outer h₀) (F : Fr h₀ L s.heap m) (X : (kTop w.params).In h₀) (N : News h₀ L s.heap (news ++ nw)) (hl : LamSt nw) (hap : Apart news nw) (hc : CodeHd base 87 83) (T : Top topProg LZ mean mg mb h₀) (hk : cs.kind = .function)
    (hp : pre) (hdp : dp + need < recursionLimit) (hun : un + 8 * need < cLine)
    (h : ∀ t h' tk nw', Fr h₀ L h' m → News h₀ L h' (news ++ nw') → LamSt nw' → Apart news nw' → Q (R t) { s with heap := h', toks := tk }) :
      wpAny (model prog w) (ktrTop dp un gd cn cs L a ccd cl outer) (call (.ref f) vs) Q E s :=
  C dp un gd cn cs a ccd cl outer A₀ base h₀ L m news nw s Q E B F X N hl hap hc T hk hp hdp hun h
theorem retL {x y : Bool} {h₀ h' : Heap} {L : Addr} {m : Str → Option Value} {news nw' : List (Addr × Obj)} {s : Shared} {Q : Value → Shared → Prop} {tk : Nat}
    (hret : ∀ (t : Tok) h' tk nw', Fr h₀ L h' m → News h₀ L h' (news ++ nw') → LamSt nw' → Apart news nw' → Q (.bool x) { s with heap := h', toks := tk }) (e : y = x) (F : Fr h₀ L h' m) (N : News h₀ L h' (news ++ nw')) (hl : LamSt nw') (ha : Apart news nw') :
    Q (.bool y) { s with heap := h', toks := tk } := e ▸ hret 0 h' tk nw' F N hl ha
abbrev TrAll (prog : Program) (w : World) (mean : ExcName → Option Value) (mg mb : Str → Option Value) : Prop := ∀ (x : Str) (t u : Tok) (sa : Addr) (ts : List PTok), ts.all PTok.ok = true → x.cps.toList = txts ts → TrC prog w mean mg mb x t u sa ts
end
def namedS (x : Str) : Bool := !figS x && (fitsS [.nd] x || fitsS [.nd, .star, .nd] x)
local macro_rules | `(tactic| walk_at "call ref") => `(tactic| (k_here; k_dflt (refine' ctr_call (c_figures _ _) ?k1 ?k2 ?k3 ?k4 ?k5 ?kK ?kp ?kd ?ku ?_; (case k1 => k_asm); (case k2 => k_asm); (case k3 => k_asm); (case k4 => k_asm); (case k5 => k_asm); (case kK => first | exact rfl | assumption); (case kp => first | trivial | assumption | exact rfl | omega); (case kd => ktr_room); (case ku => ktr_units); k_whole); intro t9 h9 tk9 F9 N9; (try dsimp only); (try k_fold)))
local macro_rules | `(tactic| walk_at "call ref") => `(tactic| (k_here; (rename TrAll _ _ _ _ _ => hTr'); k_dflt ((first | refine' ctrL_call (c_fits hTr' [.nd] rfl (Str.ofString "[!.]") _ (by decide +kernel) _ _) ?k1 ?k2 ?k3 ?k4 ?k5 ?k6 ?k7 ?k8 ?k9 ?ka ?kb ?kc ?_ | refine' ctrL_call (c_fits hTr' [.nd, .star, .nd] rfl (Str.ofString "[!.]*[!.]") _ (by decide +kernel) _ _) ?k1 ?k2 ?k3 ?k4 ?k5 ?k6 ?k7 ?k8 ?k9 ?ka ?kb ?kc ?_); (case k1 => k_asm); (case k2 => k_asm); (case k3 => k_asm); (case k4 => k_asm); (case k5 => assumption); (case k6 => assumption); (case k7 => assumption); (case k8 => k_asm); (case k9 => exact rfl); (case ka => exact ⟨by decide, by omega⟩); (case kb => ktr_room); (case kc => ktr_units); k_whole); intro t9 h9 tk9 nw9 F9 N9 hl9 ha9; (try dsimp only); (try k_fold)))
section
variable {prog : Program} {w : World} {mean : ExcName → Option Value} {mg mb : Str → Option Value}
set_option maxHeartbeats 4000000 in
theorem c_named (tr : TrAll prog w mean mg mb) (x : Str) (t : Tok) : CtrL prog w mean mg mb 119 6 [.str x t] (x.length ≤ 300) (fun _ => .bool (namedS x)) := by
  intro dp un gd cn cs a ccd cl outer A₀ base h₀ L m news nw s Q E B F X N hlam hap hcode T hk hpre hdp hun hret
  refine wpAny_call ?_
  k_dflt (refine' code_def (binds := [(Str.ofString "text", Value.str x t)]) ?k1 ?k2 ?k3 ?k4 ?k5 ?kA ?kF ?kK ?k6 ?k7 ?k8 ?k9 ?kB ?_ ?c2 ?c3 ?c4 ?c5; (case kA => exact rfl); (case kF => exact rfl); (case kK => assumption); (case k1 => k_asm); (case k2 => k_asm); (case k3 => k_asm); (case k4 => k_asm); (case k5 => k_asm); (case k6 => k_is); (case k7 => k_is); (case k8 => ktr_room); (case k9 => exact BindsTo.of_eq rfl); (case c5 => decide); (case kB => exact locs rfl); (case c2 => exact rfl); (case c3 => exact rfl); (case c4 => exact rfl); k_whole; intro g' L' h' FG' F' N' B' X' T'; (try dsimp only [List.reverse_cons, List.reverse_nil, List.nil_append, List.cons_append] at F'); (try dsimp only); (try k_fold))
  k_steps
  all_goals (refine retL (Q := Q) hret ?_ (by assumption) (by assumption) (by assumption) (by assumption); simp_all [namedS])
end
end PartC6
section PartS1
section
local macro_rules | `(tactic| walk_at "calm one") => `(tactic| skip)
theorem calm_S1 : False → False := by
  w_top off
  intro h
  walk1
local macro_rules | `(tactic| walk_at "calm two") => `(tactic| skip)
theorem calm2_S1 : False → False := by
  w_top off
  intro h
  walk1
end
/-- where the first point stands (0 where there is none) -/
def dotAt (x : Str) : Nat := (Builtin.Str.occurrences x (Str.ofString ".") 0 x.length 1).headD 0
def afterDot (x : Str) : Str := Builtin.Str.strSub x (dotAt x + 1) x.length
def beforeDot (x : Str) : Str := Builtin.Str.strSub x 0 (dotAt x)
section
variable {prog : Program} {w : World} {A : Around} {E : Value → Shared → Prop} {s : Shared} {h₀ : Heap} {L : Addr} {m : Str → Option Value} {news : List (Addr × Obj)}
theorem limit_one (x : Str) : limitOf x 1 = 1 := rfl
theorem split_dot {x : Str} {t u v : Tok} {Q : Value → Shared → Prop} (F : Fr h₀ L s.heap m) (N : News h₀ L s.heap news) (hsz : x.length ≤ 100000) (hf : (Builtin.Str.occurrences x (Str.ofString ".") 0 x.length 1).isEmpty = false)
    (h : ∀ D h' tk t1 t2, Fr h₀ L h' m → News h₀ L h' ((D, listOf #[.str (beforeDot x) t1, .str (afterDot x) t2] 0) :: news) → (∀ p ∈ news, p.1 < D) → Q (.ref D) { s with heap := h', toks := tk }) :
    wpAny (model prog w) A (call (.builtin "str.split") [.str x t, .str (Str.ofString ".") u, .int 1 v]) Q E s := by
  have h1 : (decide (x.length < (Str.ofString ".").length) || decide (Builtin.Str.strKind x < Builtin.Str.strKind (Str.ofString "."))) = false := by
    have hl : ¬ x.length < 1 := fun hl => by
      have e : x.cps.toList = [] := by
        have : x.cps.toList.length = 0 := by have : x.length = x.cps.toList.length := rfl; omega
        exact List.length_eq_zero_iff.mp this
      have := StrLaws.found_one x 46
      rw [e] at this
      have h2 : (Builtin.Str.occurrences x ⟨#[46]⟩ 0 x.length 1).isEmpty = false := hf
      rw [h2] at this
      simp at this
    have hk : ¬ Builtin.Str.strKind x < 1 := by unfold Builtin.Str.strKind; split <;> (try split) <;> omega
    have e1 : (Str.ofString ".").length = 1 := by decide +kernel
    have e2 : Builtin.Str.strKind (Str.ofString ".") = 1 := by decide +kernel
    rw [e1, e2, decide_eq_false hl, decide_eq_false hk]; rfl
  have hpb : ∃ a b, a = beforeDot x ∧ b = afterDot x ∧ Builtin.Str.partsBetween x (Builtin.Str.occurrences x (Str.ofString ".") 0 x.length (limitOf x 1)) (Str.ofString ".").length = [a, b] := by
    have hle := StrLaws.occ_length_le x (Str.ofString ".") 0 x.length 1
    rw [limit_one]
    unfold beforeDot afterDot dotAt
    generalize Builtin.Str.occurrences x (Str.ofString ".") 0 x.length 1 = occ at hf hle
    match occ, hf, hle with
    | [i], _, _ => exact ⟨_, _, rfl, rfl, rfl⟩
  obtain ⟨a, b, rfl, rfl, hp⟩ := hpb
  refine call_meets PySem.F.slot_str_split (typeIs_str _ _ _) PySem.F.entry_str_split (PySem.F.args_str_split_3 _ _ _) (meets_str_split_sep_max x (Str.ofString ".") 1 t u v (by decide) h1 (by decide) (by rw [limit_one]; exact hf) (by rw [sizeLine_eq]; omega) (by rw [hp, sizeLine_eq]; exact Nat.le_of_ble_eq_true rfl)) ?_
  rw [hp]
  exact h _ _ _ _ _ (Fr.pushS F _) (News.push F N _) fun p hp => Heap.lt_size (N p hp).1
end
end PartS1
section PartL1
section
local macro_rules | `(tactic| walk_at "calm one") => `(tactic| skip)
theorem calm_L1 : False → False := by
  w_top off
  intro h
  walk1
local macro_rules | `(tactic| walk_at "calm two") => `(tactic| skip)
theorem calm2_L1 : False → False := by
  w_top off
  intro h
  walk1
end
/-- what a row of parts takes, from a place on -/
def RL : List (Option Str) → List Nat → Prop
  | [], l => l = []
  | none :: ps, l => ∃ n, n ≤ l.length ∧ RL ps (l.drop n)
  | some _ :: _, [] => False
  | some q :: ps, c :: l => takesS q ⟨#[c]⟩ = true ∧ RL ps l
def Reach (y : Str) : List (Option Str) → Int → Int → Prop
  | [], e, k => e = k
  | none :: ps, e, k => ∃ e', e ≤ e' ∧ 0 ≤ e' ∧ e' ≤ (y.length : Int) ∧ Reach y ps e' k
  | some q :: ps, e, k => e < (y.length : Int) ∧ takesS q (Txt.item y e) = true ∧ Reach y ps (e + 1) k
theorem range_sorted (n : Nat) : ((List.range n).map fun (i : Nat) => (i : Int)).Pairwise (· ≤ ·) := by
  rw [List.pairwise_map]
  exact List.Pairwise.imp (fun h => by omega) List.pairwise_lt_range
theorem stepE_sorted {y : Str} {es : List Int} (h : es.Pairwise (· ≤ ·)) (p : Option Str) : (stepE y es p).Pairwise (· ≤ ·) := by
  cases p with
  | none => exact (range_sorted _).filter _
  | some q =>
    unfold stepE
    rw [List.pairwise_map]
    exact List.Pairwise.imp (fun h => by omega) (h.filter _)
theorem head_min {es : List Int} (h : es.Pairwise (· ≤ ·)) : ∀ e ∈ es, es.headD 0 ≤ e := by
  intro e he
  cases es with
  | nil => cases he
  | cons a r =>
    rcases List.mem_cons.mp he with rfl | he
    · exact Int.le_refl _
    · exact List.rel_of_pairwise_cons h he
theorem mem_step_none {y : Str} {es : List Int} (h : es.Pairwise (· ≤ ·)) (k : Int) : k ∈ stepE y es none ↔ 0 ≤ k ∧ k ≤ (y.length : Int) ∧ ∃ e ∈ es, e ≤ k := by
  unfold stepE
  simp only [List.mem_filter, List.mem_map, List.mem_range, Bool.and_eq_true, Bool.not_eq_true', decide_eq_true_eq]
  constructor
  · rintro ⟨⟨i, hi, rfl⟩, h1, h2⟩
    refine ⟨Int.natCast_nonneg i, by omega, ?_⟩
    cases es with
    | nil => cases h1
    | cons a r => exact ⟨a, .head _, h2⟩
  · rintro ⟨h0, h1, e, he, hk⟩
    refine ⟨⟨k.toNat, by omega, by omega⟩, ?_, ?_⟩
    · cases es with
      | nil => cases he
      | cons a r => rfl
    · have := head_min h e he
      omega
theorem mem_step_some {y q : Str} {es : List Int} (k : Int) : k ∈ stepE y es (some q) ↔ ∃ e ∈ es, e < (y.length : Int) ∧ takesS q (Txt.item y e) = true ∧ e + 1 = k := by
  unfold stepE
  simp only [List.mem_filter, List.mem_map, Bool.and_eq_true, decide_eq_true_eq]
  constructor
  · rintro ⟨e, ⟨h1, h2, h3⟩, rfl⟩
    exact ⟨e, h1, h2, h3, rfl⟩
  · rintro ⟨e, h1, h2, h3, rfl⟩
    exact ⟨e, ⟨h1, h2, h3⟩, rfl⟩
theorem mem_foldl (y : Str) : ∀ (ps : List (Option Str)) (es : List Int), es.Pairwise (· ≤ ·) → ∀ k, k ∈ ps.foldl (stepE y) es ↔ ∃ e ∈ es, Reach y ps e k
  | [], es, _, k => by
    constructor
    · intro h; exact ⟨k, h, rfl⟩
    · rintro ⟨e, he, rfl⟩; exact he
  | p :: ps, es, hs, k => by
    rw [List.foldl_cons, mem_foldl y ps _ (stepE_sorted hs p) k]
    cases p with
    | none =>
      constructor
      · rintro ⟨e', he', hr⟩
        obtain ⟨h0, h1, e, he, hle⟩ := (mem_step_none hs e').mp he'
        exact ⟨e, he, e', hle, h0, h1, hr⟩
      · rintro ⟨e, he, e', hle, h0, h1, hr⟩
        exact ⟨e', (mem_step_none hs e').mpr ⟨h0, h1, e, he, hle⟩, hr⟩
    | some q =>
      constructor
      · rintro ⟨e', he', hr⟩
        obtain ⟨e, he, h1, h2, rfl⟩ := (mem_step_some e').mp he'
        exact ⟨e, he, h1, h2, hr⟩
      · rintro ⟨e, he, h1, h2, hr⟩
        exact ⟨e + 1, (mem_step_some (e + 1)).mpr ⟨e, he, h1, h2, rfl⟩, hr⟩
theorem len_toList (y : Str) : y.length = y.cps.toList.length := rfl
theorem reach_RL (y : Str) : ∀ (ps : List (Option Str)) (i : Nat), i ≤ y.length → (Reach y ps (i : Int) (y.length : Int) ↔ RL ps (y.cps.toList.drop i))
  | [], i, hi => by
    show (i : Int) = (y.length : Int) ↔ y.cps.toList.drop i = []
    rw [List.drop_eq_nil_iff, ← len_toList]
    omega
  | none :: ps, i, hi => by
    show (∃ e', (i : Int) ≤ e' ∧ 0 ≤ e' ∧ e' ≤ (y.length : Int) ∧ Reach y ps e' (y.length : Int)) ↔ ∃ n, n ≤ (y.cps.toList.drop i).length ∧ RL ps ((y.cps.toList.drop i).drop n)
    have hl : (y.cps.toList.drop i).length = y.length - i := by rw [List.length_drop, ← len_toList]
    constructor
    · rintro ⟨e', h1, h2, h3, hr⟩
      obtain ⟨j, rfl⟩ := Int.eq_ofNat_of_zero_le h2
      refine ⟨j - i, by omega, ?_⟩
      rw [List.drop_drop, show i + (j - i) = j by omega]
      exact (reach_RL y ps j (by omega)).mp hr
    · rintro ⟨n, hn, hr⟩
      rw [List.drop_drop] at hr
      exact ⟨((i + n : Nat) : Int), by omega, by omega, by omega, (reach_RL y ps (i + n) (by omega)).mpr hr⟩
  | some q :: ps, i, hi => by
    show ((i : Int) < (y.length : Int) ∧ takesS q (Txt.item y (i : Int)) = true ∧ Reach y ps ((i : Int) + 1) (y.length : Int)) ↔ _
    by_cases h : i < y.length
    · have h' : i < y.cps.toList.length := h
      rw [List.drop_eq_getElem_cons h']
      show _ ↔ takesS q ⟨#[y.cps.toList[i]]⟩ = true ∧ RL ps (y.cps.toList.drop (i + 1))
      rw [item_nat (List.getElem?_eq_getElem h'), ← reach_RL y ps (i + 1) (by omega)]
      constructor
      · rintro ⟨_, h2, h3⟩; exact ⟨h2, h3⟩
      · rintro ⟨h2, h3⟩; exact ⟨by omega, h2, h3⟩
    · rw [List.drop_eq_nil_of_le (by rw [← len_toList]; omega)]
      constructor
      · rintro ⟨h1, _⟩; omega
      · intro h; exact h.elim
theorem fits_RL (ts : List PTok) (y : Str) : fitsS ts y = true ↔ RL (partsOf ts) y.cps.toList := by
  unfold fitsS endsOf
  rw [List.any_eq_true]
  have h := mem_foldl y (partsOf ts) [0] (by simp) (y.length : Int)
  have h2 := reach_RL y (partsOf ts) 0 (Nat.zero_le _)
  rw [List.drop_zero] at h2
  rw [← h2]
  constructor
  · rintro ⟨x, hx, e⟩
    obtain rfl : x = (y.length : Int) := by simpa using e
    obtain ⟨e, he, hr⟩ := h.mp hx
    obtain rfl := List.mem_singleton.mp he
    exact hr
  · intro hr
    exact ⟨_, h.mpr ⟨0, .head _, hr⟩, by simp⟩
theorem has_one (l : List Nat) (d : Nat) : hasS ⟨l.toArray⟩ ⟨#[d]⟩ = decide (d ∈ l) := by
  unfold hasS
  rw [StrLaws.found_one]
theorem one_eq (c d : Nat) : ((⟨#[d]⟩ : Str) == ⟨#[c]⟩) = (d == c) := by
  by_cases h : d = c
  · subst h; simp
  · rw [sign_ne h, beq_false_of_ne h]
theorem takes_nd (d : Nat) : takesS ndS ⟨#[d]⟩ = (d != 46) := by
  unfold takesS
  rw [if_pos (by decide +kernel), show Txt.slice ndS (some 2) (some (-1)) = ⟨[46].toArray⟩ by decide +kernel, has_one]
  by_cases h : d = 46
  · subst h; rfl
  · rw [decide_eq_false (by simpa using h)]; simp [h]
theorem isSp_91 : isSp 91 = true := by decide +kernel
theorem slice_text (x : Str) (a b : Option Int) : Txt.slice x a b = StrLaws.sliceText x a b := rfl
theorem sl_last {x : Str} {l : List Nat} {c : Nat} (h : x.cps.toList = l ++ [c]) : Txt.slice x (some (-1)) none = ⟨#[c]⟩ := by
  have hl : x.length = l.length + 1 := by rw [len_toList, h]; simp
  rw [slice_text, StrLaws.sliceText_from_neg (by omega) (by omega), h, hl]
  have e1 : ((-1 : Int) + ((l.length + 1 : Nat) : Int)).toNat = l.length := by omega
  rw [e1, List.drop_left]
  have e2 : (((l ++ [c]).length : Nat) : Int) - (-1 + ((l.length + 1 : Nat) : Int)) = 1 := by simp only [List.length_append, List.length_cons, List.length_nil]; omega
  rw [e2]; rfl
theorem sl_init {x : Str} {l : List Nat} {c : Nat} (h : x.cps.toList = l ++ [c]) : Txt.slice x none (some (-1)) = ⟨l.toArray⟩ := by
  have hl : x.length = l.length + 1 := by rw [len_toList, h]; simp
  rw [slice_text, StrLaws.sliceText_to_neg (by omega) (by omega), h, hl]
  have e1 : ((-1 : Int) + ((l.length + 1 : Nat) : Int) - 0).toNat = l.length := by omega
  rw [e1, List.drop_zero, List.take_left]
theorem sl_first {x : Str} {l : List Nat} {c : Nat} (h : x.cps.toList = c :: l) : Txt.slice x none (some 1) = ⟨#[c]⟩ := by
  have hl : x.cps.toList.length = l.length + 1 := by rw [h]; rfl
  rw [slice_text, StrLaws.sliceText_to ⟨by omega, by omega⟩, h]; rfl
theorem sl_nil {x : Str} (h : x.cps.toList = []) (a b : Option Int) : Txt.slice x a b = ⟨#[]⟩ := by
  have hl : (Txt.slice x a b).length ≤ 0 := by
    have := Txt.slice_le x a b
    have h2 : x.length = 0 := by rw [len_toList, h]; rfl
    omega
  apply PySem.Str.ext'
  exact Array.eq_empty_of_size_eq_zero (Nat.le_zero.mp hl)
theorem takes_esc (c d : Nat) : takesS (escS c) ⟨#[d]⟩ = (d == c) := by
  unfold escS
  by_cases h : isSp c = true
  · rw [if_pos h]
    unfold takesS
    have e2 : Txt.slice (⟨#[92, c]⟩ : Str) none (some 2) = ⟨#[92, c]⟩ := by rfl
    have e1 : Txt.slice (⟨#[92, c]⟩ : Str) none (some 1) = ⟨#[92]⟩ := by rfl
    have e3 : Txt.slice (⟨#[92, c]⟩ : Str) (some (-1)) none = ⟨#[c]⟩ := sl_last (l := [92]) rfl
    rw [e1, e2, e3, if_neg, if_neg (by decide), one_eq]
    intro e
    have := eq_of_beq e
    injection this with this
    have := congrArg (fun a => a.getD 0 0) this
    revert this
    exact (by decide : ¬ (92 = 91))
  · rw [if_neg h]
    unfold takesS
    have e2 : (Txt.slice (⟨#[c]⟩ : Str) none (some 2)).length ≤ 1 := Txt.slice_le ⟨#[c]⟩ none (some 2)
    have e1 : Txt.slice (⟨#[c]⟩ : Str) none (some 1) = ⟨#[c]⟩ := by rfl
    have e3 : Txt.slice (⟨#[c]⟩ : Str) (some (-1)) none = ⟨#[c]⟩ := sl_last (l := []) rfl
    have hc : c ≠ 91 := by rintro rfl; exact h isSp_91
    rw [e1, e3, if_neg, if_neg, one_eq]
    · intro e
      have := eq_of_beq e
      injection this with this
      have := congrArg (fun a => a.getD 0 0) this
      exact hc this
    · intro e
      rw [eq_of_beq e] at e2
      exact absurd e2 (by decide)
theorem takes_box {c : Nat} (hc : c = 42 ∨ c = 63 ∨ c = 91) (d : Nat) : takesS (boxS c) ⟨#[d]⟩ = (d == c) := by
  have key : ∀ c, Txt.replace (Txt.slice (boxS c) (some 1) (some (-1))) (Str.ofString "\\") (Str.ofString "") = ⟨[c].toArray⟩ → (Txt.slice (boxS c) none (some 2) == Str.ofString "[^") = false → (Txt.slice (boxS c) none (some 1) == Str.ofString "[") = true → takesS (boxS c) ⟨#[d]⟩ = (d == c) := by
    intro c e1 e2 e3
    unfold takesS
    rw [e1, e2, e3, if_neg Bool.false_ne_true, if_pos rfl, has_one]
    by_cases h : d = c
    · subst h; simp
    · rw [decide_eq_false (by simpa using h), beq_false_of_ne h]
  rcases hc with rfl | rfl | rfl
  · exact key 42 (by decide +kernel) (by decide +kernel) (by decide +kernel)
  · exact key 63 (by decide +kernel) (by decide +kernel) (by decide +kernel)
  · exact key 91 (by decide +kernel) (by decide +kernel) (by decide +kernel)
/-- the sign's item in a glob, as the law writes it -/
def tokOf (c : Nat) : PTok := if c = 42 ∨ c = 63 ∨ c = 91 then .box c else .lit c
def partOf (c : Nat) : Str := if c = 42 ∨ c = 63 ∨ c = 91 then boxS c else escS c
def globToks (x : Str) : List PTok := x.cps.toList.map tokOf
theorem tokOf_ok (c : Nat) : (tokOf c).ok = true := by
  unfold tokOf
  split
  · rename_i h
    rcases h with rfl | rfl | rfl <;> rfl
  · rename_i h
    show (c != 42 && c != 63 && c != 91) = true
    simp only [Bool.and_eq_true, bne_iff_ne]
    omega
theorem globToks_ok (x : Str) : (globToks x).all PTok.ok = true := by
  unfold globToks
  rw [List.all_map, List.all_eq_true]
  intro c _
  exact tokOf_ok c
theorem takes_part (c d : Nat) : takesS (partOf c) ⟨#[d]⟩ = (d == c) := by
  unfold partOf
  split
  · rename_i h; exact takes_box h d
  · exact takes_esc c d
theorem addPart_tok (ps : List (Option Str)) (c : Nat) : addPart ps (tokOf c) = ps ++ [some (partOf c)] := by
  unfold tokOf partOf
  split <;> rfl
theorem foldl_toks : ∀ (l : List Nat) (ps : List (Option Str)), (l.map tokOf).foldl addPart ps = ps ++ l.map fun c => some (partOf c)
  | [], ps => by simp
  | c :: l, ps => by
    rw [List.map_cons, List.foldl_cons, addPart_tok, foldl_toks l]
    simp
theorem RL_word : ∀ (r l : List Nat), RL (r.map fun c => some (partOf c)) l ↔ l = r
  | [], l => Iff.rfl
  | c :: r, [] => by
    show False ↔ _
    simp
  | c :: r, d :: l => by
    show (takesS (partOf c) ⟨#[d]⟩ = true ∧ RL (r.map fun c => some (partOf c)) l) ↔ _
    rw [takes_part, RL_word r l]
    simp
theorem fits_word (x y : Str) : fitsS (globToks x) y = true ↔ y.cps.toList = x.cps.toList := by
  rw [fits_RL]
  unfold partsOf globToks
  rw [foldl_toks, List.nil_append, RL_word]
theorem fits_end (x y : Str) : fitsS (.star :: globToks x) y = true ↔ ∃ n, n ≤ y.cps.toList.length ∧ y.cps.toList.drop n = x.cps.toList := by
  rw [fits_RL]
  have e : partsOf (.star :: globToks x) = none :: x.cps.toList.map fun c => some (partOf c) := by
    unfold partsOf globToks
    rw [List.foldl_cons, show addPart [] .star = [none] from rfl, foldl_toks]
    rfl
  rw [e]
  show (∃ n, n ≤ y.cps.toList.length ∧ RL (x.cps.toList.map fun c => some (partOf c)) (y.cps.toList.drop n)) ↔ _
  constructor
  · rintro ⟨n, hn, h⟩; exact ⟨n, hn, (RL_word _ _).mp h⟩
  · rintro ⟨n, hn, h⟩; exact ⟨n, hn, (RL_word _ _).mpr h⟩
theorem fits_nd (y : Str) : fitsS [.nd] y = true ↔ ∃ c, y.cps.toList = [c] ∧ c ≠ 46 := by
  rw [fits_RL]
  show RL [some ndS] _ ↔ _
  generalize y.cps.toList = l
  match l with
  | [] => exact ⟨fun h => h.elim, fun ⟨c, h, _⟩ => by cases h⟩
  | c :: r =>
    show (takesS ndS ⟨#[c]⟩ = true ∧ r = []) ↔ _
    rw [takes_nd]
    constructor
    · rintro ⟨h, rfl⟩; exact ⟨c, rfl, by simpa using h⟩
    · rintro ⟨d, h, hd⟩
      injection h with h1 h2
      subst h1
      exact ⟨by simpa using hd, h2⟩
theorem fits_ndnd (y : Str) : fitsS [.nd, .star, .nd] y = true ↔ ∃ a m b, y.cps.toList = a :: (m ++ [b]) ∧ a ≠ 46 ∧ b ≠ 46 := by
  rw [fits_RL]
  show RL [some ndS, none, some ndS] _ ↔ _
  generalize y.cps.toList = l
  match l with
  | [] => exact ⟨fun h => h.elim, fun ⟨a, m, b, h, _⟩ => by cases h⟩
  | a :: r =>
    show (takesS ndS ⟨#[a]⟩ = true ∧ ∃ n, n ≤ r.length ∧ RL [some ndS] (r.drop n)) ↔ _
    rw [takes_nd]
    constructor
    · rintro ⟨h, n, hn, hr⟩
      cases hd : r.drop n with
      | nil => rw [hd] at hr; exact hr.elim
      | cons b q =>
        rw [hd] at hr
        obtain ⟨hb, hq⟩ := (show takesS ndS ⟨#[b]⟩ = true ∧ q = [] from hr)
        subst hq
        rw [takes_nd] at hb
        exact ⟨a, r.take n, b, by rw [← hd, List.take_append_drop], by simpa using h, by simpa using hb⟩
    · rintro ⟨a', m, b, h, ha, hb⟩
      injection h with h1 h2
      subst h1
      refine ⟨by simpa using ha, m.length, by rw [h2]; simp, ?_⟩
      rw [h2, List.drop_left]
      show takesS ndS ⟨#[b]⟩ = true ∧ [] = []
      exact ⟨by rw [takes_nd]; simpa using hb, rfl⟩
end PartL1
section PartNS
section
local macro_rules | `(tactic| walk_at "calm one") => `(tactic| skip)
theorem calm_NS : False → False := by
  w_top off
  intro h
  walk1
local macro_rules | `(tactic| walk_at "calm two") => `(tactic| skip)
theorem calm2_NS : False → False := by
  w_top off
  intro h
  walk1
end
section
variable {prog : Program} {w : World} {A : Around} {E : Value → Shared → Prop} {s₁ : Shared} {h₀ : Heap} {L : Addr} {m : Str → Option Value} {news : List (Addr × Obj)}
/-- a list built from a text's signs, each of one code -/
theorem srcC_signs1 {env : Env} {elt : Expr} {x : Str} {scope : Scope} {Q : Value → Shared → Prop} {y : Str} {t : Tok} (f : Nat → Str)
    (hh : A.handled = none) (F : Fr h₀ L s₁.heap m) (N : News h₀ L s₁.heap news)
    (g2 : ∀ C c u s₂ m₂ E', s₂.heap.Ns (compEnv scope C env).locals m₂ → m₂ x = some (.str ⟨#[c]⟩ u) → s₁.toks ≤ s₂.toks →
      wpAny (model prog w) A (eval elt (compEnv scope C env)) (fun r s₃ => Blk (∃ t', r = .str (f c) t' ∧ Keeps s₂ s₃)) E' s₂)
    (g3 : ∀ D (ys : List Value) h' tk, Fr h₀ L h' m → News h₀ L h' news → h'.IsList D ys.toArray → StrsAre ys (y.cps.toList.map f) → Q (.ref D) { s₁ with heap := h', toks := tk }) (hsz : y.length ≤ sizeLine := by size_fits) :
    wpAny (model prog w) A (pyIter (.str y t)) (CompPost prog w A env scope x [] elt Q) E s₁ := by
  unfold CompPost
  refine wpAny_pyIter_str fun o St W hst => ?_
  have up : ∀ (h' : Heap), (∀ b o', b ∉ [s₁.heap.objs.size] → (s₁.heap.push o).get? b = some o' → h'.get? b = some o') → ∀ b o', s₁.heap.get? b = some o' → h'.get? b = some o' :=
    fun h' hk b o' e => hk b o' (old_not_new e) (Heap.get?_push_of_some _ e)
  refine ⟨ItemKind.str.lift (fun _ => true), fun v r => ∃ a, ItemKind.str.is a v ∧ Carried r (PyData.str (f (a.cps.getD 0 0))), s₁.heap.objs.size, [s₁.heap.objs.size], [s₁.heap.objs.size], y.cps.size, SignAt y, St, rfl, W A hh, hsz, hst, ?_, ⟨?_, ?_⟩, ?_⟩
  · intro b hb
    show b < (s₁.heap.push o).objs.size
    rw [Heap.size_push, List.mem_singleton.mp hb]
    exact Nat.lt_succ_self _
  · intro C i v s₃ m₃ E' hP hn hm _ htk
    obtain ⟨c, u, _, rfl⟩ := hP
    rw [ItemKind.lift_is (K := ItemKind.str) (a := ⟨#[c]⟩) ⟨u, rfl⟩]
    rw [List.forIn_nil]
    exact wpAny_pure ⟨rfl, _, _, rfl, fun _ _ e => e⟩
  · intro C i v s₃ m₃ E' hP _ hn hm _ htk
    obtain ⟨c, u, _, rfl⟩ := hP
    refine wpAny_mono (g2 C c u s₃ m₃ E' hn hm htk) (fun r s₄ h₄ => ?_) fun _ _ e => e
    obtain ⟨t', rfl, hk⟩ := h₄.out
    exact ⟨⟨⟨#[c]⟩, ⟨u, rfl⟩, .str _ _⟩, hk⟩
  · intro D h' tk ys vs hnew hlD hplD hlen hP hF hk
    have hc := (areOf_signs hlen hP).paired (fun _ => true) (fun a => PyData.str (f (a.cps.getD 0 0))) _ hF
    rw [filter_allG] at hc
    have hs := hc.strsOf
    unfold signs at hs
    rw [List.map_map] at hs
    exact g3 D ys.toList h' tk (F.keeps (up h' hk)) (N.grown (up h' hk)) (by rw [Array.toArray_toList]; exact hlD) hs
end
theorem join_flat : ∀ l : List Str, (Str.join ⟨#[]⟩ l).cps.toList = l.flatMap (·.cps.toList)
  | [] => rfl
  | [a] => by simp [Str.join]
  | a :: b :: r => by
    show (a ++ ⟨#[]⟩ ++ Str.join ⟨#[]⟩ (b :: r)).cps.toList = _
    rw [PySem.Str.cps_append, PySem.Str.cps_append, Array.toList_append, Array.toList_append, join_flat (b :: r)]
    simp
theorem emptyStr : Str.ofString "" = ⟨#[]⟩ := by decide +kernel
theorem txtJoin (l : List Str) : Txt.join (Str.ofString "") l = ⟨(l.flatMap (·.cps.toList)).toArray⟩ := by
  apply PySem.Str.ext'
  apply Array.toList_inj.mp
  show (Txt.join (Str.ofString "") l).cps.toList = l.flatMap (·.cps.toList)
  rw [← join_flat, emptyStr]
  exact congrArg (fun x : Str => x.cps.toList) (StrLaws.glued_eq_join ⟨#[]⟩ l)
/-- the glob of a text -/
def globS (x : Str) : Str := ⟨(txts (globToks x)).toArray⟩
def boxT (c : Nat) : Str := ⟨(tokOf c).txt.toArray⟩
theorem join_glob (x : Str) : Txt.join (Str.ofString "") (x.cps.toList.map boxT) = globS x := by
  rw [txtJoin]
  unfold globS txts globToks boxT
  rw [List.flatMap_map, List.flatMap_map]
theorem boxT_len (c : Nat) : (boxT c).length ≤ 3 := by
  unfold boxT tokOf
  split <;> exact Nat.le_of_ble_eq_true rfl
theorem sum_box : ∀ l : List Nat, ((l.map boxT).map (·.length)).sum ≤ 3 * l.length
  | [] => Nat.le_refl _
  | c :: l => by
    have h1 := sum_box l
    have h2 := boxT_len c
    simp only [List.map_cons, List.sum_cons, List.length_cons]
    omega
section
variable {prog : Program} {w : World} {A : Around} {E : Value → Shared → Prop} {s : Shared}
theorem call_join_glob {D : Addr} {ys : List Value} {x : Str} {u : Tok} {Q : Value → Shared → Prop} (hl : s.heap.IsList D ys.toArray) (hs : StrsAre ys (x.cps.toList.map boxT)) (hx : x.length ≤ 10000) (h : ∀ t' k, Q (.str (globS x) t') { s with toks := k }) :
    wpAny (model prog w) A (call (.builtin "str.join") [.str (Str.ofString "") u, .ref D]) Q E s := by
  refine join_listW hl hs (by decide +kernel) ?_ ?_
  · have := sum_box x.cps.toList
    rw [List.length_map]
    rw [len_toList] at hx
    omega
  · rw [join_glob]; exact h
end
theorem globS_txts (x : Str) : (globS x).cps.toList = txts (globToks x) := rfl
theorem globS_len (x : Str) : (globS x).length ≤ 3 * x.length := by
  have h := sum_box x.cps.toList
  rw [len_toList, globS_txts, len_toList x]
  refine Nat.le_trans (Nat.le_of_eq ?_) h
  unfold txts globToks
  rw [List.flatMap_map, List.map_map, List.length_flatMap]
  rfl
theorem starGlob (x : Str) : (Str.ofString "*" ++ globS x).cps.toList = txts (.star :: globToks x) := by
  rw [PySem.Str.cps_append, Array.toList_append, globS_txts]
  show [42] ++ _ = _
  rfl
end PartNS
section PartC8
section
local macro_rules | `(tactic| walk_at "calm one") => `(tactic| skip)
theorem calm_C8 : False → False := by
  w_top off
  intro h
  walk1
local macro_rules | `(tactic| walk_at "calm two") => `(tactic| skip)
theorem calm2_C8 : False → False := by
  w_top off
  intro h
  walk1
end

/-- what _law_told hands back -/
def toldS (y x : Str) : Bool :=
  if figS y = true then y == Txt.lower x else if (Txt.slice (Txt.lower x) none (some 1) == Str.ofString ".") = true then fitsS (.star :: globToks (Txt.lower x)) y else fitsS (globToks (Txt.lower x)) y
theorem add_any {prog : Program} {w : World} {A : Around} {E : Value → Shared → Prop} {s : Shared} {x y : Str} {t u : Tok} {Q : Value → Shared → Prop} (hs : x.length + y.length ≤ 100000) (h : ∀ t' k, Q (.str (x ++ y) t') { s with toks := k }) :
    wpAny (model prog w) A (binaryOp .Add (.str x t) (.str y u)) Q E s :=
  KXadd.add (Nat.le_refl _) (Nat.le_refl _) (by omega) fun t' k _ => h t' k
theorem len_lb : (Str.ofString "[").length = 1 := by decide +kernel
theorem len_rb : (Str.ofString "]").length = 1 := by decide +kernel
theorem len_star : (Str.ofString "*").length = 1 := by decide +kernel
theorem len_sign (c : Nat) : (⟨#[c]⟩ : Str).length = 1 := rfl
theorem isGlob (c : Nat) : (!(Builtin.Str.occurrences (Str.ofString "*?[") ⟨#[c]⟩ 0 (Str.ofString "*?[").length 1).isEmpty) = decide (c = 42 ∨ c = 63 ∨ c = 91) := by
  rw [StrLaws.found_one, show (Str.ofString "*?[").cps.toList = [42, 63, 91] by decide +kernel]
  congr 1
  simp
theorem box_yes {c : Nat} (h : (Builtin.Str.occurrences (Str.ofString "*?[") ⟨#[c]⟩ 0 (Str.ofString "*?[").length 1).isEmpty = false) : Str.ofString "[" ++ ⟨#[c]⟩ ++ Str.ofString "]" = boxT c := by
  have h2 := isGlob c
  rw [h] at h2
  have h3 := of_decide_eq_true h2.symm
  unfold boxT tokOf
  rw [if_pos h3]
  rfl
theorem box_no {c : Nat} (h : (Builtin.Str.occurrences (Str.ofString "*?[") ⟨#[c]⟩ 0 (Str.ofString "*?[").length 1).isEmpty = true) : (⟨#[c]⟩ : Str) = boxT c := by
  have h2 := isGlob c
  rw [h] at h2
  have h3 := of_decide_eq_false h2.symm
  unfold boxT tokOf
  rw [if_neg h3]
  rfl
theorem star_toks_ok (x : Str) : (PTok.star :: globToks x).all PTok.ok = true := by
  rw [List.all_cons, globToks_ok]; rfl
local macro_rules | `(tactic| walk_at "call ref") => `(tactic| (k_here; (with_reducible show wpAny _ _ (call (Value.ref 112) _) _ _ _); k_here; k_dflt (refine' ctr_call (c_figures _ _) ?k1 ?k2 ?k3 ?k4 ?k5 ?kK ?kp ?kd ?ku ?_; (case k1 => k_asm); (case k2 => k_asm); (case k3 => k_asm); (case k4 => k_asm); (case k5 => k_asm); (case kK => first | exact rfl | assumption); (case kp => first | trivial | assumption | exact rfl | omega); (case kd => ktr_room); (case ku => ktr_units); k_whole); intro t9 h9 tk9 F9 N9; (try dsimp only); (try k_fold)))
local macro_rules | `(tactic| walk_at "binaryOp Add str str") => `(tactic| (k_here; k_dflt (refine' add_any ?k1 ?_; (case k1 => (first | omega | (simp only [PySem.Str.length_append, len_lb, len_rb, len_star, len_sign]; omega))); k_whole); intro _ _))
local macro_rules | `(tactic| walk_at "pyIter str") => `(tactic| (k_here; (rename Fr _ _ _ _ => F'); (rename News _ _ _ _ => N'); (with_unfolding_all refine' srcC_signs1 boxT ?hh ?F ?N ?g2 ?g3 ?hsz); (case hh => with_unfolding_all rfl); (case F => with_unfolding_all exact F'); (case N => with_unfolding_all exact N'); (case hsz => (rw [sizeLine_eq]; omega)); (case' g3 => intro D' ys' h' tk' F' N' hL' hS'); (case' g2 => intro C' c' u' s' m' E' hn' hx' ht')))
local macro_rules | `(tactic| walk_at "call builtin:str.join") => `(tactic| (k_here; (rename StrsAre _ _ => hS'); (rename Heap.IsList _ _ _ => hL'); k_dflt (refine' call_join_glob hL' hS' ?k1 ?_; (case k1 => omega); k_whole); intro _ _))
local macro_rules | `(tactic| walk_at "last call builtin:str.join") => `(tactic| (k_here; (rename StrsAre _ _ => hS'); (rename Heap.IsList _ _ _ => hL'); k_dflt (refine' call_join_glob hL' hS' ?k1 ?_; (case k1 => omega); k_whole); intro _ _))
local macro_rules | `(tactic| walk_at "call ref") => `(tactic| (k_here; (with_reducible show wpAny _ _ (call (Value.ref 107) [Value.str (globS _) _, _]) _ _ _); (rename TrAll _ _ _ _ _ => hTr'); k_dflt (refine' ctrL_call (c_fits hTr' (globToks _) (globToks_ok _) (globS _) _ (globS_txts _) _ _) ?k1 ?k2 ?k3 ?k4 ?k5 ?k6 ?k7 ?k8 ?k9 ?ka ?kb ?kc ?_; (case k1 => k_asm); (case k2 => k_asm); (case k3 => k_asm); (case k4 => k_asm); (case k5 => assumption); (case k6 => assumption); (case k7 => assumption); (case k8 => k_asm); (case k9 => exact rfl); (case ka => exact ⟨by (first | omega | (simp only [PySem.Str.length_append, len_star]; omega)), by omega⟩); (case kb => ktr_room); (case kc => ktr_units); k_whole); intro t9 h9 tk9 nw9 F9 N9 hl9 ha9; (try dsimp only); (try k_fold)))
local macro_rules | `(tactic| walk_at "call ref") => `(tactic| (k_here; (with_reducible show wpAny _ _ (call (Value.ref 107) [Value.str (Str.ofString "*" ++ globS _) _, _]) _ _ _); (rename TrAll _ _ _ _ _ => hTr'); k_dflt (refine' ctrL_call (c_fits hTr' (PTok.star :: globToks _) (star_toks_ok _) (Str.ofString "*" ++ globS _) _ (starGlob _) _ _) ?k1 ?k2 ?k3 ?k4 ?k5 ?k6 ?k7 ?k8 ?k9 ?ka ?kb ?kc ?_; (case k1 => k_asm); (case k2 => k_asm); (case k3 => k_asm); (case k4 => k_asm); (case k5 => assumption); (case k6 => assumption); (case k7 => assumption); (case k8 => k_asm); (case k9 => exact rfl); (case ka => exact ⟨by (first | omega | (simp only [PySem.Str.length_append, len_star]; omega)), by omega⟩); (case kb => ktr_room); (case kc => ktr_units); k_whole); intro t9 h9 tk9 nw9 F9 N9 hl9 ha9; (try dsimp only); (try k_fold)))
section
variable {prog : Program} {w : World} {mean : ExcName → Option Value} {mg mb : Str → Option Value}
set_option maxHeartbeats 2000000 in
theorem c_told (tr : TrAll prog w mean mg mb) (y x : Str) (t u : Tok) : CtrL prog w mean mg mb 124 6 [.str y t, .str x u] (y.length ≤ 300 ∧ x.length ≤ 100) (fun _ => .bool (toldS y x)) := by
  intro dp un gd cn cs a ccd cl outer A₀ base h₀ L m news nw s Q E B F X N hlam hap hcode T hk hpre hdp hun hret
  obtain ⟨hp1, hp2⟩ := hpre
  have hgl := globS_len (Txt.lower x)
  refine wpAny_call ?_
  k_dflt (refine' code_def (binds := [(Str.ofString "host", Value.str y t), (Str.ofString "text", Value.str x u)]) ?k1 ?k2 ?k3 ?k4 ?k5 ?kA ?kF ?kK ?k6 ?k7 ?k8 ?k9 ?kB ?_ ?c2 ?c3 ?c4 ?c5; (case kA => exact rfl); (case kF => exact rfl); (case kK => assumption); (case k1 => k_asm); (case k2 => k_asm); (case k3 => k_asm); (case k4 => k_asm); (case k5 => k_asm); (case k6 => k_is); (case k7 => k_is); (case k8 => ktr_room); (case k9 => exact BindsTo.of_eq rfl); (case c5 => decide); (case kB => exact locs rfl); (case c2 => exact rfl); (case c3 => exact rfl); (case c4 => exact rfl); k_whole; intro g' L' h' FG' F' N' B' X' T'; (try dsimp only [List.reverse_cons, List.reverse_nil, List.nil_append, List.cons_append] at F'); (try dsimp only); (try k_fold))
  k_steps
  · exact ⟨⟨_, by rw [box_no (by assumption)], _, _, rfl, fun _ _ e => e⟩⟩
  · exact ⟨⟨_, by rw [box_yes (by assumption)], _, _, rfl, fun _ _ e => e⟩⟩
  all_goals (refine retL (Q := Q) hret ?_ (by assumption) (by assumption) (by assumption) (by assumption); simp_all [toldS])
end
end PartC8
section PartL2
open PySem PySem.W PyProof.Rows PySem.Spec PySem.Calls PySem.Sre
section
local macro_rules | `(tactic| walk_at "calm one") => `(tactic| skip)
theorem calm_L2 : False → False := by
  w_top off
  intro h
  walk1
local macro_rules | `(tactic| walk_at "calm two") => `(tactic| skip)
theorem calm2_L2 : False → False := by
  w_top off
  intro h
  walk1
end
def isD (c : Nat) : Bool := decide (48 ≤ c) && decide (c ≤ 57)
/-- a text that ends in a point and figures, a line feed behind them aside -/
def Fig (l : List Nat) : Prop := ∃ a d e, l = a ++ 46 :: (d ++ e) ∧ d ≠ [] ∧ (∀ c ∈ d, isD c = true) ∧ (e = [] ∨ e = [10])
theorem isDigit_eq (c : Nat) : isDigit c = isD c := by
  unfold isDigit isD
  first | rfl | simp
theorem getD_toList (T : Array Nat) (p : Nat) : T.getD p 0 = T.toList.getD p 0 := by
  obtain ⟨l⟩ := T
  simp [Array.getD, List.getD]
  by_cases h : p < l.length
  · simp [h]
  · simp [h]
theorem mem_tw {p : Nat → Bool} {c : Nat} : ∀ {l : List Nat}, c ∈ l.takeWhile p → p c = true
  | [], h => by cases h
  | d :: l, h => by
    rw [List.takeWhile_cons] at h
    split at h
    · rename_i hp
      rcases List.mem_cons.mp h with rfl | h
      · exact hp
      · exact mem_tw h
    · cases h
theorem getD_at {l : List Nat} {p : Nat} (h : p < l.length) : l.getD p 0 = l[p] := by simp [List.getD, h]
theorem dcount_eq (T : Array Nat) : ∀ n p, p + n ≤ T.size → dcount T n p = (((T.toList.drop p).take n).takeWhile isD).length
  | 0, p, _ => by simp [dcount]
  | n + 1, p, h => by
    have hp : p < T.toList.length := by rw [Array.length_toList]; omega
    have e := dcount_eq T n (p + 1) (by omega)
    unfold dcount
    rw [List.drop_eq_getElem_cons hp, List.take_succ_cons, List.takeWhile_cons, isDigit_eq, getD_toList, getD_at hp, e]
    cases isD T.toList[p] with
    | true => simp [Nat.add_comm]
    | false => simp
theorem dk_eq {T : Array Nat} (h : T.size ≤ 1000000) (p : Nat) : dk T p = ((T.toList.drop p).takeWhile isD).length := by
  unfold dk
  rw [Nat.min_eq_right (by omega)]
  by_cases hp : p ≤ T.size
  · rw [dcount_eq T _ _ (by omega), List.take_of_length_le (by rw [List.length_drop, Array.length_toList]; exact Nat.le_refl _)]
  · rw [List.drop_eq_nil_of_le (by rw [Array.length_toList]; omega), show T.size - p = 0 by omega]
    rfl
theorem anyHit_iff (T : Array Nat) : ∀ n t, anyHit T n t = true ↔ ∃ s, t ≤ s ∧ s < t + n ∧ hitAt T s = true
  | 0, t => ⟨fun h => (by cases h), fun ⟨s, h1, h2, _⟩ => (by omega)⟩
  | n + 1, t => by
    unfold anyHit
    rw [Bool.or_eq_true, anyHit_iff T n (t + 1)]
    constructor
    · rintro (h | ⟨s, h1, h2, h3⟩)
      · exact ⟨t, Nat.le_refl _, by omega, h⟩
      · exact ⟨s, by omega, by omega, h3⟩
    · rintro ⟨s, h1, h2, h3⟩
      by_cases e : s = t
      · subst e; exact .inl h3
      · exact .inr ⟨s, by omega, by omega, h3⟩
theorem anyIp_iff {T : Array Nat} (h : T.size ≤ 1000000) : anyIp T = true ↔ Fig T.toList := by
  unfold anyIp
  rw [Bool.and_eq_true, decide_eq_true_eq, anyHit_iff]
  have hlen : T.toList.length = T.size := Array.length_toList
  constructor
  · rintro ⟨_, t, _, _, ht⟩
    unfold hitAt at ht
    simp only [Bool.and_eq_true, decide_eq_true_eq, beq_iff_eq] at ht
    obtain ⟨⟨⟨h1, h2⟩, h3⟩, h4⟩ := ht
    rw [dk_eq h] at h3 h4
    have hp : t < T.toList.length := by rw [hlen]; exact h1
    rw [getD_toList, getD_at hp] at h2
    have hd : T.toList.drop t = 46 :: T.toList.drop (t + 1) := by rw [List.drop_eq_getElem_cons hp, h2]
    have hr : (T.toList.drop (t + 1)).takeWhile isD ++ (T.toList.drop (t + 1)).dropWhile isD = T.toList.drop (t + 1) := List.takeWhile_append_dropWhile
    generalize hdd : (T.toList.drop (t + 1)).takeWhile isD = d at hr h3 h4
    generalize hee : (T.toList.drop (t + 1)).dropWhile isD = e at hr
    have hl : d.length + e.length = T.size - (t + 1) := by
      rw [← List.length_append, hr, List.length_drop, hlen]
    refine ⟨T.toList.take t, d, e, ?_, ?_, ?_, ?_⟩
    · rw [hr, ← hd, List.take_append_drop]
    · rintro rfl; simp at h3
    · intro c hc
      rw [← hdd] at hc
      exact mem_tw hc
    · unfold atEnd at h4
      simp only [Bool.or_eq_true, Bool.and_eq_true, beq_iff_eq] at h4
      rcases h4 with h4 | ⟨h4, h5⟩
      · left
        exact List.length_eq_zero_iff.mp (by omega)
      · right
        have he : e.length = 1 := by omega
        match e, he with
        | [c], _ =>
          have : T.toList.getD (t + 1 + d.length) 0 = c := by
            rw [← List.take_append_drop (t + 1) T.toList, ← hr]
            rw [List.getD_eq_getElem?_getD, List.getElem?_append_right (by simp; omega)]
            rw [List.length_take, Nat.min_eq_left (by omega), show t + 1 + d.length - (t + 1) = d.length by omega]
            simp
          rw [getD_toList, this] at h5
          rw [h5]
  · rintro ⟨a, d, e, hl, hd, hdd, he⟩
    have hsz : T.size = a.length + (1 + (d.length + e.length)) := by rw [← hlen, hl]; simp; omega
    have hdl : 1 ≤ d.length := by cases d with | nil => exact absurd rfl hd | cons _ _ => simp
    have hdr : T.toList.drop (a.length + 1) = d ++ e := by rw [hl, List.drop_append]; simp
    have htw : (d ++ e).takeWhile isD = d := by
      rw [List.takeWhile_append_of_pos hdd]
      rcases he with rfl | rfl
      · simp
      · simp [isD]
    refine ⟨by omega, a.length, Nat.zero_le _, by omega, ?_⟩
    unfold hitAt
    rw [dk_eq h, hdr, htw]
    simp only [Bool.and_eq_true, decide_eq_true_eq, beq_iff_eq]
    refine ⟨⟨⟨by omega, ?_⟩, by omega⟩, ?_⟩
    · rw [getD_toList, hl]; simp
    · unfold atEnd
      simp only [Bool.or_eq_true, Bool.and_eq_true, beq_iff_eq]
      rcases he with rfl | rfl
      · left; simp at hsz; omega
      · right
        refine ⟨by simp at hsz; omega, ?_⟩
        rw [getD_toList, hl, List.getD_eq_getElem?_getD, List.getElem?_append_right (by omega), show a.length + 1 + d.length - a.length = d.length + 1 by omega]
        simp
/-- the last row of a text split at its points -/
theorem join_last : ∀ (rows : List Str), 2 ≤ rows.length → ∃ a, (Str.join (Str.ofString ".") rows).cps.toList = a ++ 46 :: (rows.getD (rows.length - 1) Str.empty).cps.toList
  | [], h => by simp at h
  | [_], h => by simp at h
  | [x, y], _ => ⟨x.cps.toList, by
      show (x ++ Str.ofString "." ++ y).cps.toList = _
      rw [PySem.Str.cps_append, PySem.Str.cps_append, Array.toList_append, Array.toList_append, List.append_assoc]
      rfl⟩
  | x :: y :: z :: r, _ => by
    obtain ⟨a, h⟩ := join_last (y :: z :: r) (by simp)
    refine ⟨x.cps.toList ++ (Str.ofString ".").cps.toList ++ a, ?_⟩
    show (x ++ Str.ofString "." ++ Str.join (Str.ofString ".") (y :: z :: r)).cps.toList = _
    rw [PySem.Str.cps_append, PySem.Str.cps_append, Array.toList_append, Array.toList_append, h]
    rw [List.append_assoc, List.append_assoc, List.append_assoc]
    rfl
theorem last_uniq {c : Nat} : ∀ {a b d e : List Nat}, a ++ c :: d = b ++ c :: e → c ∉ d → c ∉ e → d = e
  | [], [], d, e, h, _, _ => by injection h
  | [], x :: b, d, e, h, hd, _ => by
    injection h with h1 h2
    exact absurd (by rw [h2]; simp) hd
  | x :: a, [], d, e, h, _, he => by
    injection h with h1 h2
    exact absurd (by rw [← h2]; simp) he
  | x :: a, y :: b, d, e, h, hd, he => by
    injection h with h1 h2
    exact last_uniq h2 hd he
theorem ofString_dot : Str.ofString "." = ⟨#[46]⟩ := by decide +kernel
theorem lastR_eq {rows : List Str} (h : 2 ≤ rows.length) : lastR rows = rows.getD (rows.length - 1) Str.empty := by
  unfold lastR
  congr 1
  omega
def Figs (d : List Nat) : Prop := d ≠ [] ∧ ∀ c ∈ d, isD c = true
theorem digit_has (d : Nat) : (Builtin.Str.occurrences (Str.ofString "0123456789") ⟨#[d]⟩ 0 (Str.ofString "0123456789").length 1).isEmpty = !isD d := by
  have h := StrLaws.found_one (Str.ofString "0123456789") d
  have e : (Str.ofString "0123456789").cps.toList = [48, 49, 50, 51, 52, 53, 54, 55, 56, 57] := by decide +kernel
  rw [e] at h
  rw [← Bool.not_not (Builtin.Str.occurrences _ _ _ _ _).isEmpty, h]
  congr 1
  rw [Bool.eq_iff_iff, decide_eq_true_eq]
  unfold isD
  simp only [List.mem_cons, List.not_mem_nil, or_false, Bool.and_eq_true, decide_eq_true_eq]
  omega
theorem figR_iff {rows : List Str} : figR rows = true ↔ 2 ≤ rows.length ∧ Figs (rows.getD (rows.length - 1) Str.empty).cps.toList := by
  unfold figR
  simp only [Bool.and_eq_true, decide_eq_true_eq, bne_iff_ne, List.isEmpty_iff, List.filter_eq_nil_iff]
  constructor
  · rintro ⟨h1, h2, h3⟩
    have h1' : 2 ≤ rows.length := by omega
    refine ⟨h1', ?_⟩
    rw [lastR_eq h1'] at h2 h3
    generalize rows.getD (rows.length - 1) Str.empty = z at h2 h3
    refine ⟨fun e => h2 ?_, fun c hc => ?_⟩
    · apply PySem.Str.ext'
      apply Array.toList_inj.mp
      rw [e]; rfl
    · have := h3 ⟨#[c]⟩ (by unfold signs; exact List.mem_map.mpr ⟨c, hc, rfl⟩)
      rw [digit_has] at this
      simpa using this
  · rintro ⟨h1, h2, h3⟩
    rw [lastR_eq h1]
    generalize rows.getD (rows.length - 1) Str.empty = z at h2 h3
    refine ⟨by omega, ?_, ?_⟩
    · rintro rfl; exact h2 rfl
    · intro a ha
      unfold signs at ha
      obtain ⟨c, hc, rfl⟩ := List.mem_map.mp ha
      rw [digit_has, h3 c hc]; decide
theorem figSplit_iff (x : Str) : figR (Txt.split x (Str.ofString ".")) = true ↔ ∃ a d, x.cps.toList = a ++ 46 :: d ∧ Figs d := by
  have hj := StrLaws.join_split x (Str.ofString ".")
  have hfree : ∀ p ∈ Txt.split x (Str.ofString "."), 46 ∉ p.cps.toList := by rw [ofString_dot]; exact StrLaws.split_free x 46
  generalize Txt.split x (Str.ofString ".") = rows at hj hfree
  have hmem : ∀ (i : Nat), 46 ∉ (rows.getD i Str.empty).cps.toList := fun i => by
    rw [List.getD_eq_getElem?_getD]
    cases e : rows[i]? with
    | none => exact fun h => by cases h
    | some p => exact hfree p (List.mem_of_getElem? e)
  have hd46 : ∀ d, Figs d → 46 ∉ d := fun d hd h => by have := hd.2 46 h; exact absurd this (by decide)
  rw [figR_iff]
  constructor
  · rintro ⟨h1, h2⟩
    obtain ⟨a, ha⟩ := join_last rows h1
    rw [hj] at ha
    exact ⟨a, _, ha, h2⟩
  · rintro ⟨a, d, hl, hd⟩
    have h2 : 2 ≤ rows.length := by
      match rows, hj, hfree with
      | [], hj, _ =>
        have e : x.cps.toList = [] := by rw [← hj]; rfl
        rw [e] at hl
        cases a <;> cases hl
      | [p], hj, hf =>
        have e : p = x := hj
        refine absurd ?_ (hf p (.head _))
        rw [e, hl]; simp
      | _ :: _ :: _, _, _ => simp
    refine ⟨h2, ?_⟩
    obtain ⟨b, hb⟩ := join_last rows h2
    rw [hj, hl] at hb
    rw [← last_uniq hb (hd46 d hd) (hmem _)]
    exact hd
theorem ofString_nl : Str.ofString "\n" = ⟨#[10]⟩ := by decide +kernel
theorem snoc_or (l : List Nat) : l = [] ∨ ∃ m c, l = m ++ [c] := by
  rcases List.eq_nil_or_concat l with h | ⟨m, c, h⟩
  · exact .inl h
  · exact .inr ⟨m, c, by rw [h, List.concat_eq_append]⟩
theorem figS_iff (x : Str) : figS x = true ↔ Fig x.cps.toList := by
  unfold figS
  rw [figSplit_iff]
  unfold baseS
  rcases snoc_or x.cps.toList with h | ⟨m, c, h⟩
  · rw [sl_nil h, if_neg (by rw [ofString_nl]; decide), h]
    constructor
    · rintro ⟨a, d, e, _⟩; cases a <;> cases e
    · rintro ⟨a, d, e, e1, _⟩; cases a <;> cases e1
  · rw [sl_last h, sl_init h, ofString_nl]
    by_cases hc : c = 10
    · subst hc
      rw [if_pos (by decide), h]
      show (∃ a d, m = a ++ 46 :: d ∧ Figs d) ↔ _
      constructor
      · rintro ⟨a, d, rfl, hd⟩
        exact ⟨a, d, [10], by simp, hd.1, hd.2, .inr rfl⟩
      · rintro ⟨a, d, e, e1, h1, h2, h3⟩
        rcases h3 with rfl | rfl
        · rw [List.append_nil] at e1
          obtain ⟨d', c', rfl⟩ := (snoc_or d).resolve_left h1
          rw [show a ++ 46 :: (d' ++ [c']) = (a ++ 46 :: d') ++ [c'] by simp] at e1
          have := List.append_inj_right' e1 rfl
          injection this with this
          have h10 := h2 c' (by simp)
          rw [← this] at h10
          exact absurd h10 (by decide)
        · rw [show a ++ 46 :: (d ++ [10]) = (a ++ 46 :: d) ++ [10] by simp] at e1
          exact ⟨a, d, List.append_inj_left' e1 rfl, h1, h2⟩
    · rw [if_neg (by rw [one_eq]; simpa using hc), h]
      constructor
      · rintro ⟨a, d, e, hd⟩
        exact ⟨a, d, [], by rw [e]; simp, hd.1, hd.2, .inl rfl⟩
      · rintro ⟨a, d, e, e1, h1, h2, h3⟩
        rcases h3 with rfl | rfl
        · exact ⟨a, d, by rw [e1]; simp, h1, h2⟩
        · rw [show a ++ 46 :: (d ++ [10]) = (a ++ 46 :: d) ++ [10] by simp] at e1
          have := List.append_inj_right' e1 rfl
          injection this with this
          exact absurd this hc
theorem fig_eq {x : Str} (h : x.length ≤ 1000000) : anyIp x.cps = figS x := by
  rw [Bool.eq_iff_iff, anyIp_iff h, figS_iff]
end PartL2
section PartL3
section
local macro_rules | `(tactic| walk_at "calm one") => `(tactic| skip)
theorem calm_L3 : False → False := by
  w_top off
  intro h
  walk1
local macro_rules | `(tactic| walk_at "calm two") => `(tactic| skip)
theorem calm2_L3 : False → False := by
  w_top off
  intro h
  walk1
end
def tsDots : List PTok := [.star, .lit 46, .star, .lit 46, .star]
def tsLocal : List PTok := [.star, .lit 46, .lit 108, .lit 111, .lit 99, .lit 97, .lit 108]
theorem RL_none (ps : List (Option Str)) (l : List Nat) : RL (none :: ps) l ↔ ∃ a b, l = a ++ b ∧ RL ps b := by
  show (∃ n, n ≤ l.length ∧ RL ps (l.drop n)) ↔ _
  constructor
  · rintro ⟨n, _, h⟩; exact ⟨l.take n, l.drop n, (List.take_append_drop n l).symm, h⟩
  · rintro ⟨a, b, rfl, h⟩; exact ⟨a.length, by simp, by rw [List.drop_left]; exact h⟩
theorem RL_lit (c : Nat) (ps : List (Option Str)) (l : List Nat) : RL (some (escS c) :: ps) l ↔ ∃ r, l = c :: r ∧ RL ps r := by
  match l with
  | [] => exact ⟨fun h => h.elim, fun ⟨r, h, _⟩ => (by cases h)⟩
  | d :: l =>
    show (takesS (escS c) ⟨#[d]⟩ = true ∧ RL ps l) ↔ _
    rw [takes_esc]
    constructor
    · rintro ⟨h, hr⟩
      obtain rfl : d = c := by simpa using h
      exact ⟨l, rfl, hr⟩
    · rintro ⟨r, h, hr⟩
      injection h with h1 h2
      subst h1; subst h2
      exact ⟨by simp, hr⟩
theorem RL_nil (l : List Nat) : RL [] l ↔ l = [] := Iff.rfl
theorem fits_dots (y : Str) : fitsS tsDots y = true ↔ ∃ a b c, y.cps.toList = a ++ 46 :: (b ++ 46 :: c) := by
  rw [fits_RL]
  show RL [none, some (escS 46), none, some (escS 46), none] _ ↔ _
  simp only [RL_none, RL_lit, RL_nil]
  constructor
  · rintro ⟨a, b, e, r, rfl, b', c', rfl, r', rfl, _⟩
    exact ⟨a, b', r', e⟩
  · rintro ⟨a, b, c, e⟩
    exact ⟨a, _, e, _, rfl, b, _, rfl, c, rfl, c, [], by simp, rfl⟩
theorem fits_local (y : Str) : fitsS tsLocal y = true ↔ ∃ a, y.cps.toList = a ++ [46, 108, 111, 99, 97, 108] := by
  rw [fits_RL]
  show RL [none, some (escS 46), some (escS 108), some (escS 111), some (escS 99), some (escS 97), some (escS 108)] _ ↔ _
  simp only [RL_none, RL_lit, RL_nil]
  constructor
  · rintro ⟨a, b, e, r1, rfl, r2, rfl, r3, rfl, r4, rfl, r5, rfl, r6, rfl, rfl⟩
    exact ⟨a, e⟩
  · rintro ⟨a, e⟩
    exact ⟨a, _, e, _, rfl, _, rfl, _, rfl, _, rfl, _, rfl, _, rfl, rfl⟩
theorem dotStr : Str.ofString "." = ⟨#[46]⟩ := by decide +kernel
theorem dot_found {x : Str} (h : 46 ∈ x.cps.toList) : (Builtin.Str.occurrences x (Str.ofString ".") 0 x.length 1).isEmpty = false := by
  have := StrLaws.found_one x 46
  rw [decide_eq_true h] at this
  rw [dotStr]
  simpa using this
theorem dots_found {x : Str} (h : fitsS tsDots x = true) : (Builtin.Str.occurrences x (Str.ofString ".") 0 x.length 1).isEmpty = false := by
  obtain ⟨a, b, c, e⟩ := (fits_dots x).mp h
  exact dot_found (by rw [e]; simp)
theorem local_found {x : Str} (h : fitsS tsLocal x = true) : (Builtin.Str.occurrences x (Str.ofString ".") 0 x.length 1).isEmpty = false := by
  obtain ⟨a, e⟩ := (fits_local x).mp h
  exact dot_found (by rw [e]; simp)
end PartL3
section PartC7
section
local macro_rules | `(tactic| walk_at "calm one") => `(tactic| skip)
theorem calm_C7 : False → False := by
  w_top off
  intro h
  walk1
local macro_rules | `(tactic| walk_at "calm two") => `(tactic| skip)
theorem calm2_C7 : False → False := by
  w_top off
  intro h
  walk1
end

def lreachS (x : Str) : Str := if (namedS x && (fitsS tsDots x || fitsS tsLocal x)) = true then Str.ofString "." ++ afterDot x else x
local macro_rules | `(tactic| walk_at "call ref") => `(tactic| (k_here; (with_reducible show wpAny _ _ (call (Value.ref 119) _) _ _ _); (rename TrAll _ _ _ _ _ => hTr'); k_dflt (refine' ctrL_call (c_named hTr' _ _) ?k1 ?k2 ?k3 ?k4 ?k5 ?k6 ?k7 ?k8 ?k9 ?ka ?kb ?kc ?_; (case k1 => k_asm); (case k2 => k_asm); (case k3 => k_asm); (case k4 => k_asm); (case k5 => assumption); (case k6 => assumption); (case k7 => assumption); (case k8 => k_asm); (case k9 => exact rfl); (case ka => first | assumption | exact ⟨by decide, by omega⟩); (case kb => ktr_room); (case kc => ktr_units); k_whole); intro t9 h9 tk9 nw9 F9 N9 hl9 ha9; (try dsimp only); (try k_fold)))
local macro_rules | `(tactic| walk_at "call ref") => `(tactic| (k_here; (with_reducible show wpAny _ _ (call (Value.ref 107) [Value.str (Str.ofString "*.*.*") _, _]) _ _ _); (rename TrAll _ _ _ _ _ => hTr'); k_dflt (refine' ctrL_call (c_fits hTr' tsDots rfl (Str.ofString "*.*.*") _ (by decide +kernel) _ _) ?k1 ?k2 ?k3 ?k4 ?k5 ?k6 ?k7 ?k8 ?k9 ?ka ?kb ?kc ?_; (case k1 => k_asm); (case k2 => k_asm); (case k3 => k_asm); (case k4 => k_asm); (case k5 => assumption); (case k6 => assumption); (case k7 => assumption); (case k8 => k_asm); (case k9 => exact rfl); (case ka => first | assumption | exact ⟨by decide, by omega⟩); (case kb => ktr_room); (case kc => ktr_units); k_whole); intro t9 h9 tk9 nw9 F9 N9 hl9 ha9; (try dsimp only); (try k_fold)))
local macro_rules | `(tactic| walk_at "call ref") => `(tactic| (k_here; (with_reducible show wpAny _ _ (call (Value.ref 107) [Value.str (Str.ofString "*.local") _, _]) _ _ _); (rename TrAll _ _ _ _ _ => hTr'); k_dflt (refine' ctrL_call (c_fits hTr' tsLocal rfl (Str.ofString "*.local") _ (by decide +kernel) _ _) ?k1 ?k2 ?k3 ?k4 ?k5 ?k6 ?k7 ?k8 ?k9 ?ka ?kb ?kc ?_; (case k1 => k_asm); (case k2 => k_asm); (case k3 => k_asm); (case k4 => k_asm); (case k5 => assumption); (case k6 => assumption); (case k7 => assumption); (case k8 => k_asm); (case k9 => exact rfl); (case ka => first | assumption | exact ⟨by decide, by omega⟩); (case kb => ktr_room); (case kc => ktr_units); k_whole); intro t9 h9 tk9 nw9 F9 N9 hl9 ha9; (try dsimp only); (try k_fold)))
theorem item1_two {prog : Program} {w : World} {A : Around} {E : Value → Shared → Prop} {s : Shared} {h₀ : Heap} {L : Addr} {news : List (Addr × Obj)} {value slice : Expr} {l : Addr} {v0 v1 : Value} {k : Nat} {u : Tok} {Q : Value → Shared → Prop} (N : News h₀ L s.heap news) (hm : (l, listOf #[v0, v1] k) ∈ news) (h : Q v1 s)
    (hs : subscripted slice false (.ref l) (.int 1 u) = operate [.ref l, .int 1 u] (getItem (.ref l) (.int 1 u)) := by with_unfolding_all rfl) :
    wpAny (model prog w) A (subscriptTail value slice (.ref l) (.int 1 u)) Q E s := by
  have hl : s.heap.IsList l #[v0, v1] := ⟨_, N.get hm, rfl, k, rfl⟩
  exact tail_any hl.typeIs slot_list_getitem.lookup (wpAny_getItem_list hl (by decide) (by decide) (by rfl) h) hs
local macro_rules | `(tactic| walk_at "subscriptTail Call Attribute cons cons Constant ref int") => `(tactic| (k_here; k_dflt (refine' item1_two ?k1 ?k2 ?_; (case k1 => k_asm); (case k2 => k_mem); k_whole)))
local macro_rules | `(tactic| walk_at "subscriptTail") => `(tactic| (k_here; (with_reducible show wpAny _ _ (subscriptTail _ _ (Value.ref _) (Value.int 1 _)) _ _ _); k_dflt (refine' item1_two ?k1 ?k2 ?_; (case k1 => k_asm); (case k2 => k_mem); k_whole)))
theorem afterDot_len (x : Str) : (afterDot x).length ≤ x.length := by
  unfold afterDot
  rw [len_toList, StrLaws.strSub_toList, List.length_take, List.length_drop, ← len_toList]
  omega
theorem add_dot {prog : Program} {w : World} {A : Around} {E : Value → Shared → Prop} {s : Shared} {x : Str} {t u : Tok} {Q : Value → Shared → Prop} (hx : x.length ≤ 300) (h : ∀ t' k, Q (.str (Str.ofString "." ++ afterDot x) t') { s with toks := k }) :
    wpAny (model prog w) A (binaryOp .Add (.str (Str.ofString ".") t) (.str (afterDot x) u)) Q E s :=
  KXadd.add (K := 1) (L := 300) (by decide +kernel) (Nat.le_trans (afterDot_len x) hx) (by omega) fun t' k _ => h t' k
local macro_rules | `(tactic| walk_at "binaryOp Add str str") => `(tactic| (k_here; k_dflt (refine' add_dot ?k1 ?_; (case k1 => assumption); k_whole); intro _ _))
local macro_rules | `(tactic| walk_at "call builtin:str.split") => `(tactic| (k_here; k_dflt (refine' split_dot ?k1 ?k2 ?k3 ?k4 ?_; (case k1 => k_asm); (case k2 => k_asm); (case k3 => omega); (case k4 => first | exact dots_found (by assumption) | exact local_found (by assumption)); k_whole); intro D' h' tk' t1' t2' F' N' l1))
theorem retLS {x y : Str} {t : Tok} {h₀ h' : Heap} {L : Addr} {m : Str → Option Value} {news nw' : List (Addr × Obj)} {s : Shared} {Q : Value → Shared → Prop} {tk : Nat}
    (hret : ∀ (t : Tok) h' tk nw', Fr h₀ L h' m → News h₀ L h' (news ++ nw') → LamSt nw' → Apart news nw' → Q (.str x t) { s with heap := h', toks := tk }) (e : y = x) (F : Fr h₀ L h' m) (hl : LamSt nw') (ha : Apart news nw') (N : News h₀ L h' (news ++ nw')) :
    Q (.str y t) { s with heap := h', toks := tk } := e ▸ hret t h' tk nw' F N hl ha
section
variable {prog : Program} {w : World} {mean : ExcName → Option Value} {mg mb : Str → Option Value}
set_option maxHeartbeats 2000000 in
theorem c_lreach (tr : TrAll prog w mean mg mb) (x : Str) (t : Tok) : CtrL prog w mean mg mb 131 7 [.str x t] (x.length ≤ 300) (fun t => .str (lreachS x) t) := by
  intro dp un gd cn cs a ccd cl outer A₀ base h₀ L m news nw s Q E B F X N hlam hap hcode T hk hpre hdp hun hret
  refine wpAny_call ?_
  k_dflt (refine' code_def (binds := [(Str.ofString "host", Value.str x t)]) ?k1 ?k2 ?k3 ?k4 ?k5 ?kA ?kF ?kK ?k6 ?k7 ?k8 ?k9 ?kB ?_ ?c2 ?c3 ?c4 ?c5; (case kA => exact rfl); (case kF => exact rfl); (case kK => assumption); (case k1 => k_asm); (case k2 => k_asm); (case k3 => k_asm); (case k4 => k_asm); (case k5 => k_asm); (case k6 => k_is); (case k7 => k_is); (case k8 => ktr_room); (case k9 => exact BindsTo.of_eq rfl); (case c5 => decide); (case kB => exact locs rfl); (case c2 => exact rfl); (case c3 => exact rfl); (case c4 => exact rfl); k_whole; intro g' L' h' FG' F' N' B' X' T'; (try dsimp only [List.reverse_cons, List.reverse_nil, List.nil_append, List.cons_append] at F'); (try dsimp only); (try k_fold))
  k_steps
  all_goals (refine retLS (Q := Q) hret ?_ (by assumption) (by assumption) (by assumption) (by first | assumption | exact cb_drop (by assumption) (by kcj_all)); simp_all [lreachS])
end
end PartC7
section PartT1
section
local macro_rules | `(tactic| walk_at "calm one") => `(tactic| skip)
theorem calm_T1 : False → False := by
  w_top off
  intro h
  walk1
local macro_rules | `(tactic| walk_at "calm two") => `(tactic| skip)
theorem calm2_T1 : False → False := by
  w_top off
  intro h
  walk1
end

/-- the state between two turns of _law_text's loop -/
def XJ (l r : Addr) (vs : List Value) (news : List (Addr × Obj)) (rest : List Value) (m : Str → Option Value) (nx : List (Addr × Obj)) : Prop :=
  ∃ dn ns ys sx k f, vs = dn ++ rest ∧ IntsAre rest ns ∧ StrsAre ys sx ∧ (∀ a ∈ sx, a.length ≤ 1) ∧ ys.length = dn.length ∧ nx = (r, listOf ys.toArray k) :: news ∧ m = kstB f [(Str.ofString "script", .ref l), (Str.ofString "signs", .ref r)]
theorem xj_end {l r : Addr} {vs : List Value} {news : List (Addr × Obj)} {v : Value} {rest dn : List Value} {ns : List Int} {ys : List Value} {sx : List Str} {its : Array Value} {x : Str} {t : Tok} {k : Nat} {m : Str → Option Value}
    (h1 : vs = dn ++ v :: rest) (h2 : IntsAre rest ns) (h3 : StrsAre ys sx) (h4 : ∀ a ∈ sx, a.length ≤ 1) (h5 : ys.length = dn.length) (hx : x.length ≤ 1) (hits : its = ys.toArray.push (.str x t))
    (m1 : m (Str.ofString "script") = some (.ref l)) (m2 : m (Str.ofString "signs") = some (.ref r)) : XJ l r vs news rest m ((r, listOf its k) :: news) := by
  refine ⟨dn ++ [v], ns, ys ++ [.str x t], sx ++ [x], k, m, by rw [h1]; simp, h2, kct_snoc h3, ?_, by simp [h5], by rw [hits]; simp, ?_⟩
  · intro a ha
    rcases List.mem_append.mp ha with ha | ha
    · exact h4 a ha
    · rw [List.mem_singleton.mp ha]; exact hx
  · refine (kstB_self ?_).symm
    intro p hp
    simp only [List.mem_cons, List.not_mem_nil, or_false] at hp
    rcases hp with rfl | rfl
    · exact m1
    · exact m2
theorem xj_vstep {h₀ h' : Heap} {L l r : Addr} {vs : List Value} {news own : List (Addr × Obj)} {v : Value} {rest dn : List Value} {ns : List Int} {ys : List Value} {sx : List Str} {its : Array Value} {x : Str} {t : Tok} {k : Nat} {o : Obj} {m : Str → Option Value} {s₁ : Shared} {tk : Nat}
    (F : Fr h₀ L h' m) (N : News h₀ L h' ((r, listOf its k) :: (news ++ own))) (ha : Apart ((r, o) :: news) own) (h1 : vs = dn ++ v :: rest) (h2 : IntsAre rest ns) (h3 : StrsAre ys sx) (h4 : ∀ a ∈ sx, a.length ≤ 1) (h5 : ys.length = dn.length) (hx : x.length ≤ 1) (hits : its = ys.toArray.push (.str x t))
    (m1 : m (Str.ofString "script") = some (.ref l)) (m2 : m (Str.ofString "signs") = some (.ref r)) : VStep h₀ L own s₁ (XJ l r vs news rest) .next { s₁ with heap := h', toks := tk } := by
  refine vstep_next (news₂ := (r, listOf its k) :: news) F N (fun p hp q hq => ?_) (xj_end h1 h2 h3 h4 h5 hx hits m1 m2)
  rcases List.mem_cons.mp hp with rfl | hp
  · exact ha (r, o) (.head _) q hq
  · exact ha p (.tail _ hp) q hq
theorem xj_intro {l r : Addr} {vs : List Value} {news : List (Addr × Obj)} {ns : List Int} {k : Nat} {m : Str → Option Value} (h2 : IntsAre vs ns)
    (m1 : m (Str.ofString "script") = some (.ref l)) (m2 : m (Str.ofString "signs") = some (.ref r)) : XJ l r vs news vs m ((r, listOf #[] k) :: news) := by
  refine ⟨[], ns, [], [], k, m, rfl, h2, .nil, by simp, rfl, rfl, ?_⟩
  refine (kstB_self ?_).symm
  intro p hp
  simp only [List.mem_cons, List.not_mem_nil, or_false] at hp
  rcases hp with rfl | rfl
  · exact m1
  · exact m2
theorem allLt_ne {r : Addr} : ∀ {l : List (Addr × Obj)}, AllLt r l → ∀ p ∈ l, p.1 ≠ r
  | [], _, _, h => nomatch h
  | q :: l, h, p, hp => by
    rcases List.mem_cons.mp hp with rfl | hp
    · exact Nat.ne_of_lt h.1
    · exact allLt_ne h.2 p hp
theorem text_iter {prog : Program} {w : World} {A : Around} {E : Value → Shared → Prop} {Q : Flow → Shared → Prop} {s : Shared} {env : Env} {h₀ : Heap} {target : Expr} {body : List Stmt} {l r : Addr} {vs : List Value} {ns : List Int} {k : Nat} {m₀ : Str → Option Value} {news : List (Addr × Obj)}
    (hh : A.handled = none) (F : Fr h₀ env.locals s.heap m₀) (N : News h₀ env.locals s.heap ((r, listOf #[] 0) :: (l, listOf vs.toArray k) :: news)) (hlr : l < r) (hr : AllLt r news) (hne : ∀ p ∈ news, p.1 ≠ l) (hi : IntsAre vs ns)
    (m1 : m₀ (Str.ofString "script") = some (.ref l)) (m2 : m₀ (Str.ofString "signs") = some (.ref r))
    (hgo : ∀ it v, letOwnedTupleGo target it v = pure ())
    (turn : ∀ v rest m₁ news₁ own (s₁ : Shared), XJ l r vs news (v :: rest) m₁ news₁ → Fr h₀ env.locals s₁.heap m₁ → News h₀ env.locals s₁.heap (news₁ ++ own) → Apart news₁ own →
      wpAny (model prog w) A (assign target env v) (fun _ s₃ => wpAny (model prog w) A (execs body env) (VStep h₀ env.locals own s₁ (XJ l r vs news rest)) E s₃) E s₁)
    (done : ∀ m₁ news₁ h tk, XJ l r vs news [] m₁ news₁ → Fr h₀ env.locals h m₁ → News h₀ env.locals h news₁ → Q .next { s with heap := h, toks := tk }) :
    wpAny (model prog w) A (pyIter (.ref l)) (fun it s₂ => LoopAtT prog w A h₀ env target body Q E it s₂) E s := by
  refine iter_vals (k := k) (news := (r, listOf #[] 0) :: news) (XJ l r vs news) hh F (fun p hp => N p ?_) (fun p hp => ?_) (xj_intro hi m1 m2) hgo turn done
  · rcases List.mem_cons.mp hp with rfl | hp
    · exact .tail _ (.head _)
    · rcases List.mem_cons.mp hp with rfl | hp
      · exact .head _
      · exact .tail _ (.tail _ hp)
  · rcases List.mem_cons.mp hp with rfl | hp
    · exact (Nat.ne_of_lt hlr).symm
    · exact hne p hp
theorem xj_off {r : Addr} {o : Obj} {news own : List (Addr × Obj)} (hr : AllLt r news) (ha : Apart ((r, o) :: news) own) : OwnOff (news ++ own) [r] := by
  intro p hp b hb
  obtain rfl := List.mem_singleton.mp hb
  rcases List.mem_append.mp hp with hp | hp
  · exact allLt_ne hr p hp
  · exact fun e => ha _ (.head _) p hp e.symm
theorem sum_ones : ∀ l : List Str, (∀ a ∈ l, a.length ≤ 1) → (l.map (·.length)).sum ≤ l.length
  | [], _ => Nat.le_refl _
  | c :: l, h => by
    have h1 := sum_ones l fun a ha => h a (.tail _ ha)
    have h2 := h c (.head _)
    simp only [List.map_cons, List.sum_cons, List.length_cons]
    omega
theorem call_join_short {prog : Program} {w : World} {A : Around} {E : Value → Shared → Prop} {s : Shared} {h₀ : Heap} {L : Addr} {news : List (Addr × Obj)} {D : Addr} {ys : List Value} {sx : List Str} {k : Nat} {u : Tok} {Q : Value → Shared → Prop} (N : News h₀ L s.heap news) (hm : (D, listOf ys.toArray k) ∈ news) (hs : StrsAre ys sx) (h1 : ∀ a ∈ sx, a.length ≤ 1) (hy : ys.length ≤ 4)
    (h : ∀ (x : Str) t' k, x.length ≤ 4 → Q (.str x t') { s with toks := k }) :
    wpAny (model prog w) A (call (.builtin "str.join") [.str (Str.ofString "") u, .ref D]) Q E s := by
  have hle : sx.length ≤ 4 := by rw [← hs.length]; exact hy
  have hsum := sum_ones sx h1
  refine join_listW (D := D) (items := ys.toArray) ⟨_, N.get hm, rfl, k, rfl⟩ hs (by decide +kernel) (by omega) fun t' k => h _ t' k ?_
  rw [txtJoin]
  rw [len_toList, List.length_flatMap]
  exact Nat.le_trans hsum hle
theorem add_a {prog : Program} {w : World} {A : Around} {E : Value → Shared → Prop} {s : Shared} {y : Str} {t u : Tok} {Q : Value → Shared → Prop} (hs : y.length ≤ 4) (h : ∀ (x : Str) t' k, x.length ≤ 5 → Q (.str x t') { s with toks := k }) :
    wpAny (model prog w) A (binaryOp .Add (.str (Str.ofString "a") t) (.str y u)) Q E s :=
  KXadd.add (K := 1) (L := 4) (by decide +kernel) hs (by omega) fun t' k hl => h _ t' k (Nat.le_trans hl.2 (Nat.add_le_add (show (Str.ofString "a").length ≤ 1 by decide +kernel) hs))
local macro_rules | `(tactic| walk_at "call builtin:str.join") => `(tactic| (k_here; (rename StrsAre _ _ => hS'); k_dflt (refine' call_join_short ?k0 ?k1 hS' ?k2 ?k3 ?_; (case k0 => k_asm); (case k1 => k_mem); (case k2 => assumption); (case k3 => omega); k_whole); intro x' t' k' hx'))
local macro_rules | `(tactic| walk_at "binaryOp Add str str") => `(tactic| (k_here; k_dflt (refine' add_a ?k0 ?_; (case k0 => assumption); k_whole); intro x' t' k' hx'))
local macro_rules | `(tactic| walk_at "call builtin:list.append") => `(tactic| (k_here; (with_reducible show wpAny _ _ (call (Value.builtin _) [Value.ref _, _]) _ _ _); k_dflt (refine' append_K ?k1 ?k2 ?k3 ?_ ?z; (case k1 => k_asm); (case k2 => k_asm); (case k3 => k_upd); (case z => (rw [sizeLine_eq, List.size_toArray]; omega)); k_whole); intro h' F' N'))
local macro_rules | `(tactic| walk_at "exec For Name Name cons nil") => `(tactic| (k_here; refine blk_out ?_))
local macro_rules | `(tactic| walk_at "pyIter ref") => `(tactic| (k_here; (with_reducible show wpAny _ _ _ (fun _ _ => LoopAtT _ _ _ _ _ _ _ _ _ _ _) _ _); refine blk_out ?_))
local macro_rules | `(tactic| walk_at "storeName") => `(tactic| (dsimp only; walk_at "storeName"))
section
variable {prog : Program} {w : World} {mean : ExcName → Option Value} {mg mb : Str → Option Value}
set_option maxHeartbeats 1000000 in
theorem c_text (dp un : Nat) (gd : Option (List Code)) (cn : Str) (cs : Scope) (a : Addr) (ccd : Value) (cl : List (Str × Addr)) (outer : List Env) (A₀ : Around) (base h₀ : Heap) (L : Addr) (m : Str → Option Value) (news : List (Addr × Obj)) (s : Shared) (Q E : Value → Shared → Prop) (l : Addr) (vs : List Value) (k : Nat) (ns : List Int)
    (B : Below A₀ base outer h₀) (F : Fr h₀ L s.heap m) (X : (kTop w.params).In h₀) (N : News h₀ L s.heap ((l, listOf vs.toArray k) :: news)) (hne : ∀ p ∈ news, p.1 ≠ l) (hi : IntsAre vs ns) (hlen : vs.length ≤ 4) (T : Top topProg LZ mean mg mb h₀) (hk : cs.kind = .function)
    (hdp : dp + 2 < recursionLimit) (hun : un + 16 < cLine)
    (hret : ∀ (x : Str) t h' tk, x.length ≤ 5 → Fr h₀ L h' m → News h₀ L h' news → Q (.str x t) { s with heap := h', toks := tk }) :
      wpAny (model prog w) (ktrTop dp un gd cn cs L a ccd cl outer) (call (.ref 95) [.ref l]) Q E s := by
  refine wpAny_call ?_
  k_dflt (refine' code_def (binds := [(Str.ofString "script", Value.ref l)]) ?k1 ?k2 ?k3 ?k4 ?k5 ?kA ?kF ?kK ?k6 ?k7 ?k8 ?k9 ?kB ?_ ?c2 ?c3 ?c4 ?c5; (case kA => exact rfl); (case kF => exact rfl); (case kK => assumption); (case k1 => k_asm); (case k2 => k_asm); (case k3 => k_asm); (case k4 => k_asm); (case k5 => k_asm); (case k6 => k_is); (case k7 => k_is); (case k8 => ktr_room); (case k9 => exact BindsTo.of_eq rfl); (case c5 => decide); (case kB => exact locs rfl); (case c2 => exact rfl); (case c3 => exact rfl); (case c4 => exact rfl); k_whole; intro g' L' h' FG' F' N' B' X' T'; (try dsimp only [List.reverse_cons, List.reverse_nil, List.nil_append, List.cons_append] at F'); (try dsimp only); (try k_fold))
  k_steps
  refine ⟨?_⟩
  (try dsimp only)
  rename Fr _ _ _ _ => lF
  refine For_invTF lF ?_ (by intro _; rfl)
  k_steps
  refine ⟨?_⟩
  (try dsimp only)
  rename News _ _ _ _ => lN
  rename (_ < _ ∧ AllLt _ _) => hlr
  with_unfolding_all refine' text_iter ?hh ?F ?N ?hlr ?hr ?hne ?hi ?m1 ?m2 ?hgo ?turn ?done
  case hh => exact rfl
  case F => exact lF
  case N => exact lN
  case hlr => exact hlr.1
  case hr => exact hlr.2
  case hne => exact hne
  case hi => exact hi
  case m1 => rfl
  case m2 => rfl
  case hgo => intro it v; rfl
  case done =>
    clear lF lN
    rintro m₁ news₁ h₁ tk₁ ⟨dn, ms, ys, sx, k1, f, hvs, hi1, hs1, hl1, hy1, rfl, rfl⟩ F₁ N₁
    rw [List.append_nil] at hvs
    have hyl : ys.length ≤ 4 := by rw [hy1, ← hvs]; exact hlen
    (try dsimp only)
    k_steps
    exact hret _ _ _ _ (by assumption) (by assumption) (cb_drop (by assumption) (by kcj_all))
  case turn =>
    clear lF lN
    rintro v rest m₁ news₁ own s₁ ⟨dn, ms, ys, sx, k1, f, hvs, hi1, hs1, hl1, hy1, rfl, rfl⟩ F₁ N₁ ha₁
    have hoff := xj_off hlr.2 ha₁
    cases hi1 with
    | cons a1 t1 hi1 =>
    have hyl : ys.length ≤ 4 := by
      have := congrArg List.length hvs
      rw [List.length_append, List.length_cons] at this
      omega
    (try dsimp only [List.cons_append] at N₁)
    k_steps
    · exact xj_vstep (by assumption) (by assumption) ha₁ hvs hi1 hs1 hl1 hy1 (by exact Nat.le_refl 1) rfl rfl rfl
    · exact xj_vstep (by assumption) (by assumption) ha₁ hvs hi1 hs1 hl1 hy1 (by exact Nat.le_refl 1) rfl rfl rfl
end
end PartT1
section PartV2
section
local macro_rules | `(tactic| walk_at "calm one") => `(tactic| skip)
theorem calm_V2 : False → False := by
  w_top off
  intro h
  walk1
local macro_rules | `(tactic| walk_at "calm two") => `(tactic| skip)
theorem calm2_V2 : False → False := by
  w_top off
  intro h
  walk1
end
section
variable {prog : Program} {w : World} {A : Around} {E : Value → Shared → Prop} {s : Shared}
theorem go_tuple {elts : List Expr} {x1} {pos : Pos} {I l : Addr} {i : Nat} {v : Value} {Q : Unit → Shared → Prop} (hit : s.heap.IsListIter I l i) (hQ : Q () s) :
    wpAny (model prog w) A (letOwnedTupleGo (.Tuple elts x1 pos) (.ref I) v) Q E s := by
  cases v with
  | ref T => exact wpAny_letOwnedTupleGo_listiter hit hQ
  | _ => exact wpAny_pure hQ
end
section
variable {prog : Program} {w : World} {A : Around} {E : Value → Shared → Prop} {Q : Flow → Shared → Prop} {s : Shared} {env : Env} {h₀ : Heap}
theorem iter_valsT {target : Expr} {body : List Stmt} {l : Addr} {vs : List Value} {k : Nat} {m₀ : Str → Option Value} {news : List (Addr × Obj)} (J : List Value → (Str → Option Value) → List (Addr × Obj) → Prop)
    (hh : A.handled = none) (F : Fr h₀ env.locals s.heap m₀) (N : News h₀ env.locals s.heap ((l, listOf vs.toArray k) :: news)) (hne : ∀ p ∈ news, p.1 ≠ l) (hj : J vs m₀ news)
    (hgo : (∀ it v, letOwnedTupleGo target it v = pure ()) ∨ ∃ elts x1 pos, target = .Tuple elts x1 pos)
    (turn : ∀ v rest m₁ news₁ own (s₁ : Shared), J (v :: rest) m₁ news₁ → Fr h₀ env.locals s₁.heap m₁ → News h₀ env.locals s₁.heap (news₁ ++ own) → Apart news₁ own →
      wpAny (model prog w) A (assign target env v) (fun _ s₃ => wpAny (model prog w) A (execs body env) (VStep h₀ env.locals own s₁ (J rest)) E s₃) E s₁)
    (done : ∀ m₁ news₁ h tk, J [] m₁ news₁ → Fr h₀ env.locals h m₁ → News h₀ env.locals h news₁ → Q .next { s with heap := h, toks := tk }) :
    wpAny (model prog w) A (pyIter (.ref l)) (fun it s₂ => LoopAtT prog w A h₀ env target body Q E it s₂) E s := by
  have hm := N _ (.head _)
  dsimp only at hm
  have hls : s.heap.IsList l vs.toArray := ⟨_, hm.1, rfl, k, rfl⟩
  have hlt : l < s.heap.objs.size := Heap.lt_size hm.1
  have hI : l ≠ s.heap.objs.size := Nat.ne_of_lt hlt
  refine wpAny_pyIter_list hls ?_
  have W := Walks.list (prog := prog) (w := w) hh s.heap.objs.size l hI vs.toArray
  let J' : Nat → (Str → Option Value) → List (Addr × Obj) → Prop := fun i m₁ news₁ => (∀ p ∈ news₁, p.1 ≠ l) ∧ J (vs.drop i) m₁ news₁
  have hI0 : h₀.get? s.heap.objs.size = none := by
    cases e : h₀.get? s.heap.objs.size with
    | none => rfl
    | some o => exact absurd (Heap.lt_size (F.keep _ _ e)) (Nat.lt_irrefl _)
  refine ⟨_, _, _, _, _, _, m₀, news, J', rfl, W, ?_, ?_, ?_, ⟨⟨_, Heap.get?_push_size _ rfl, rfl, rfl⟩, hls.at fun o e => Heap.get?_push_of_some _ e⟩, F.push _, (fun p hp => ⟨Heap.get?_push_of_some _ (N p (.tail _ hp)).1, (N p (.tail _ hp)).2⟩), ?_, ⟨hne, hj⟩, ?_, ?_⟩
  · intro hq
    rcases List.mem_cons.mp hq with e | hq
    · exact absurd F.ns.lt (e ▸ Nat.lt_irrefl _)
    · exact hm.2.1 (List.mem_singleton.mp hq).symm
  · intro b hb
    rw [List.mem_singleton.mp hb]; exact hI0
  · intro p hp hq
    exact absurd (Heap.lt_size (N p (.tail _ hp)).1) ((List.mem_singleton.mp hq) ▸ Nat.lt_irrefl _)
  · intro i s' v Q' hst hq
    rcases hgo with hgo | ⟨elts, x1, pos, rfl⟩
    · rw [hgo]; exact wpAny_pure hq
    · exact go_tuple hst.1 hq
  · rintro i v m₁ news₁ s₁ own hin hP ⟨hJl, hJ⟩ hoff hown hget hall hst F₁ N₁
    have hgetv : vs[i]? = some v := by simpa using hP
    have hdr : vs.drop i = v :: vs.drop (i + 1) := by
      have hlt' : i < vs.length := by simpa using hin
      rw [List.drop_eq_getElem_cons hlt']
      congr 1
      rw [List.getElem?_eq_getElem hlt'] at hgetv
      exact Option.some.inj hgetv
    obtain ⟨⟨oI, hoI, _⟩, ⟨ol, hol, _⟩⟩ := hst
    have hap : Apart news₁ own := fun p hp r hr e => by
      rcases List.mem_cons.mp (hown r hr) with h1 | h1
      · exact hoff p hp (List.mem_singleton.mpr (e.trans h1))
      · exact hJl p hp (e.trans (List.mem_singleton.mp h1))
    rw [hdr] at hJ
    refine wpAny_mono (turn v _ m₁ news₁ own s₁ hJ F₁ (fun p hp => N₁ p ((List.mem_append.mp hp).elim (fun q => List.mem_append.mpr (.inr q)) fun q => List.mem_append.mpr (.inl q))) hap) (fun _ s₃ q => ?_) fun _ _ x => x
    refine wpAny_mono q (fun f s₄ r => ?_) fun _ _ x => x
    cases f with
    | next =>
      obtain ⟨h', tk, m₂, news₂, rfl, F₂, N₂, ha, hj₂⟩ := r.out
      refine ⟨rfl, h', tk, m₂, news₂, rfl, F₂, (fun p hp => N₂ p ((List.mem_append.mp hp).elim (fun q => List.mem_append.mpr (.inr q)) fun q => List.mem_append.mpr (.inl q))), fun p hp hq => ?_, fun p hp e => ?_, hj₂⟩
      · exact ha p hp (_, oI) (hall _ (.head _) hI0 _ hoI) (List.mem_singleton.mp hq)
      · exact ha p hp (_, ol) (hall _ (.tail _ (.head _)) hm.2.2 _ hol) e
    | _ => exact absurd r id
  · rintro h' tk m' news' F' N' _ ⟨_, hJ⟩
    refine done m' news' h' tk ?_ F' N'
    simpa using hJ
end
end PartV2
section PartLX
section
local macro_rules | `(tactic| walk_at "calm one") => `(tactic| skip)
theorem calm_LX : False → False := by
  w_top off
  intro h
  walk1
local macro_rules | `(tactic| walk_at "calm two") => `(tactic| skip)
theorem calm2_LX : False → False := by
  w_top off
  intro h
  walk1
end
section
variable {prog : Program} {w : World} {mean : ExcName → Option Value} {mg mb : Str → Option Value}
theorem text_call {dp un : Nat} {gd : Option (List Code)} {cn : Str} {cs : Scope} {a : Addr} {ccd : Value} {cl : List (Str × Addr)} {outer : List Env} {A₀ : Around} {base h₀ : Heap} {L : Addr} {m : Str → Option Value} {news : List (Addr × Obj)} {s : Shared} {Q E : Value → Shared → Prop} {l : Addr} {vs : List Value} {k : Nat} {ns : List Int}
    (B : Below A₀ base outer h₀) (F : Fr h₀ L s.heap m) (X : (kTop w.params).In h₀) (N : News h₀ L s.heap ((l, listOf vs.toArray k) :: news)) (hne : ∀ p ∈ news, p.1 ≠ l) (hi : IntsAre vs ns) (hlen : ns.length ≤ 4) (T : Top topProg LZ mean mg mb h₀) (hk : cs.kind = .function)
    (hdp : dp + 2 < recursionLimit) (hun : un + 16 < cLine)
    (hret : ∀ (x : Str) t h' tk, x.length ≤ 5 → Fr h₀ L h' m → News h₀ L h' news → Q (.str x t) { s with heap := h', toks := tk }) :
      wpAny (model prog w) (ktrTop dp un gd cn cs L a ccd cl outer) (call (.ref 95) [.ref l]) Q E s :=
  c_text dp un gd cn cs a ccd cl outer A₀ base h₀ L m news s Q E l vs k ns B F X N hne hi (by rw [hi.length]; exact hlen) T hk hdp hun hret
end
theorem ne_of_two {a b l : Addr} {x y : Obj} (h : a < l ∧ b < l) : ∀ p ∈ [(a, x), (b, y)], p.1 ≠ l := by
  intro p hp
  simp only [List.mem_cons, List.not_mem_nil, or_false] at hp
  rcases hp with rfl | rfl
  · exact Nat.ne_of_lt h.1
  · exact Nat.ne_of_lt h.2
section
variable {prog : Program} {w : World} {A : Around} {E : Value → Shared → Prop} {s : Shared} {h₀ : Heap} {L : Addr} {m : Str → Option Value} {news : List (Addr × Obj)}
theorem add_gen {x y : Str} {t u : Tok} {Q : Value → Shared → Prop} (hx : x.length ≤ 1000) (hy : y.length ≤ 1000) (h : ∀ (z : Str) t' k, z.length ≤ x.length + y.length → Q (.str z t') { s with toks := k }) :
    wpAny (model prog w) A (binaryOp .Add (.str x t) (.str y u)) Q E s :=
  KXadd.add hx hy (by omega) fun t' k hl => h _ t' k hl.2
theorem item_three {value slice : Expr} {l : Addr} {i : Int} {u : Tok} {v0 v1 v2 : Value} {k : Nat} {Q : Value → Shared → Prop} (N : News h₀ L s.heap news) (hm : (l, listOf #[v0, v1, v2] k) ∈ news) (h0 : 0 ≤ i) (h3 : i < 3) (h : ∀ v, v = v0 ∨ v = v1 ∨ v = v2 → Q v s)
    (hs : subscripted slice false (.ref l) (.int i u) = operate [.ref l, .int i u] (getItem (.ref l) (.int i u)) := by with_unfolding_all rfl) :
    wpAny (model prog w) A (subscriptTail value slice (.ref l) (.int i u)) Q E s := by
  have hl : s.heap.IsList l #[v0, v1, v2] := ⟨_, N.get hm, rfl, k, rfl⟩
  have hi : i = 0 ∨ i = 1 ∨ i = 2 := by omega
  rcases hi with rfl | rfl | rfl
  · exact tail_any hl.typeIs slot_list_getitem.lookup (wpAny_getItem_list hl (by decide) (by decide) (by rfl) (h _ (.inl rfl))) hs
  · exact tail_any hl.typeIs slot_list_getitem.lookup (wpAny_getItem_list hl (by decide) (by decide) (by rfl) (h _ (.inr (.inl rfl)))) hs
  · exact tail_any hl.typeIs slot_list_getitem.lookup (wpAny_getItem_list hl (by decide) (by decide) (by rfl) (h _ (.inr (.inr rfl)))) hs
theorem item_ends {value slice : Expr} {l : Addr} {i : Int} {u t0 t1 t2 : Tok} {k : Nat} {Q : Value → Shared → Prop} (N : News h₀ L s.heap news) (hm : (l, listOf #[.str (Str.ofString ".b") t0, .str (Str.ofString ".7") t1, .str (Str.ofString ".b7") t2] k) ∈ news) (h0 : 0 ≤ i) (h3 : i < 3) (h : ∀ (x : Str) t, x.length ≤ 3 → Q (.str x t) s)
    (hs : subscripted slice false (.ref l) (.int i u) = operate [.ref l, .int i u] (getItem (.ref l) (.int i u)) := by with_unfolding_all rfl) :
    wpAny (model prog w) A (subscriptTail value slice (.ref l) (.int i u)) Q E s :=
  item_three N hm h0 h3 (fun v hv => by
    rcases hv with rfl | rfl | rfl
    · exact h _ _ (by decide +kernel)
    · exact h _ _ (by decide +kernel)
    · exact h _ _ (by decide +kernel)) hs
end
theorem range_size (n : Nat) : Builtin.Range.rangeSize 0 (n : Int) 1 = ((n : Nat) : Int) := by
  unfold Builtin.Range.rangeSize
  rw [if_pos (by decide)]
  split <;> omega
theorem range_small {n : Nat} (h : (n : Int) ≤ 1000) : Builtin.Range.small 0 (n : Int) 1 = true := by
  have f : ∀ i : Int, 0 ≤ i → i ≤ 1001 → Builtin.Range.rangeFitsLong i = true := fun i h0 h1 => by
    unfold Builtin.Range.rangeFitsLong
    simp only [Bool.and_eq_true, decide_eq_true_eq]
    constructor <;> omega
  unfold Builtin.Range.small
  rw [range_size, f 0 (by omega) (by omega), f n (by omega) (by omega), f 1 (by omega) (by omega), if_pos (by decide), f (n + (1 - 1)) (by omega) (by omega)]
  simp
/-- a list of texts of at most B signs -/
def Texts (B : Nat) (vs : List Value) : Prop := ∀ v ∈ vs, ∃ z t, v = Value.str z t ∧ z.length ≤ B
theorem Texts.nil {B : Nat} : Texts B [] := fun _ h => by cases h
theorem Texts.snoc {B : Nat} {vs : List Value} {z : Str} {t : Tok} (h : Texts B vs) (hz : z.length ≤ B) : Texts B (vs ++ [.str z t]) := fun v hv => by
  rcases List.mem_append.mp hv with hv | hv
  · exact h v hv
  · exact ⟨z, t, List.mem_singleton.mp hv, hz⟩
theorem Texts.app {B : Nat} {vs us : List Value} (h : Texts B vs) (h' : Texts B us) : Texts B (vs ++ us) := fun v hv => (List.mem_append.mp hv).elim (h v) (h' v)
section
variable {prog : Program} {w : World} {A : Around} {E : Value → Shared → Prop} {s : Shared} {h₀ : Heap} {L : Addr} {m : Str → Option Value} {env : Env} {news : List (Addr × Obj)}
theorem texts_rest {elt : Expr} {x : Str} {scope : Scope} {cl : List (Str × Addr)} {S : List (Addr × Obj) → Prop} {P : Nat → Value → Prop} {Fin : List Value → List (Addr × Obj) → Prop} {n : Nat} (B : Nat) (hS : S news)
    (turn : ∀ i v I oI C oC D m₂ ys h tk (E' : Value → Shared → Prop), i < n → P i v → LCg.NsObj oC m₂ → m₂ x = some v → Fr h₀ L h m → News h₀ L h ((I, oI) :: (C, oC) :: (D, LCg.lst ys) :: news) → LCg.Off3 I C D news → ((@Ne Nat I C) ∧ (@Ne Nat I D) ∧ (@Ne Nat C D)) →
      wpAny (model prog w) A (eval elt (compEnvC scope cl C env)) (fun y s' => Blk (∃ h' tk' z t, s' = { s with heap := h', toks := tk' } ∧ Fr h₀ L h' m ∧ News h₀ L h' ((I, oI) :: (C, oC) :: (D, LCg.lst ys) :: news) ∧ y = .str z t ∧ z.length ≤ B)) E' { s with heap := h, toks := tk })
    (fin : ∀ ys, Texts B ys → ys.length = n → Fin ys news) : LCg.CompRest prog w A h₀ L m env elt x scope cl s S P Fin n 0 [] news := by
  have key : ∀ (j i : Nat) (ys : List Value), i + j = n → Texts B ys → ys.length = i → LCg.CompRest prog w A h₀ L m env elt x scope cl s S P Fin j i ys news := by
    intro j
    induction j with
    | zero =>
      intro i ys hi hy hl
      exact LCg.CompRest.zero (fin ys hy (by omega))
    | succ j ih =>
      intro i ys hi hy hl
      refine LCg.CompRest.succ ?_
      intro v I oI C oC D m₂ h tk E' hv hC hx F N off ne
      refine wpAny_mono (turn i v I oI C oC D m₂ ys h tk E' (by omega) hv hC hx F N off ne) (fun y s₂ hq => ?_) fun _ _ e => e
      obtain ⟨h', tk', z, t, rfl, F', N', rfl, hz⟩ := hq.out
      exact ⟨h', tk', news, rfl, F', N', off, hS, ih (i + 1) _ (by omega) (hy.snoc hz) (by simp [hl])⟩
  exact key n 0 [] (by omega) Texts.nil rfl
theorem texts_range {elt : Expr} {x : Str} {scope : Scope} {cl : List (Str × Addr)} {Q : Value → Shared → Prop} {r : Addr} {b : Int} {t u v : Tok} (B : Nat)
    (hh : A.handled = none) (F : Fr h₀ L s.heap m) (N : News h₀ L s.heap news) (hr : IsRange s.heap r 0 b 1 t u v) (hb : 0 ≤ b ∧ b ≤ 1000)
    (turn : ∀ (k : Int) t I oI C oC D m₂ ys h tk (E' : Value → Shared → Prop), 0 ≤ k → k < b → LCg.NsObj oC m₂ → m₂ x = some (.int k t) → Fr h₀ L h m → News h₀ L h ((I, oI) :: (C, oC) :: (D, LCg.lst ys) :: news) → LCg.Off3 I C D news → ((@Ne Nat I C) ∧ (@Ne Nat I D) ∧ (@Ne Nat C D)) →
      wpAny (model prog w) A (eval elt (compEnvC scope cl C env)) (fun y s' => Blk (∃ h' tk' z t, s' = { s with heap := h', toks := tk' } ∧ Fr h₀ L h' m ∧ News h₀ L h' ((I, oI) :: (C, oC) :: (D, LCg.lst ys) :: news) ∧ y = .str z t ∧ z.length ≤ B)) E' { s with heap := h, toks := tk })
    (fin : ∀ ys D h tk, Texts B ys → ys.length ≤ 1000 → Fr h₀ L h m → News h₀ L h ((D, LCg.lst ys) :: news) → Q (.ref D) { s with heap := h, toks := tk }) :
    LCg.CompSrc prog w A h₀ L m env elt x scope cl (fun s₂ => LCg.FinE h₀ L m s₂ Q) (.ref r) s := by
  obtain ⟨hb0, hb1⟩ := hb
  obtain ⟨n, rfl⟩ := Int.eq_ofNat_of_zero_le hb0
  refine LCg.CompSrc.range (n := n) hh F N hr (range_small hb1) (range_size n) (by rw [sizeLine_eq]; omega) fun g => ?_
  refine texts_rest B trivial ?_ ?_
  · rintro i v I oI C oC D m₂ ys h tk E' hi ⟨t, rfl⟩ hC hx F N off ne
    exact turn _ t I oI C oC D m₂ ys h tk E' (by omega) (by omega) hC hx F N off ne
  · intro ys hy hl D h tk F' N' _
    exact fin ys D h tk hy (by omega) F' N'
end
/-- what a turn of the law's loops leaves -/
def TurnEnd (h₀ : Heap) (L : Addr) (ks own : List (Addr × Obj)) (x : Str) (t : Tok) (s : Shared) (f : Flow) (s₃ : Shared) : Prop :=
  match f with
  | .next => Blk (∃ h' tk m₂ nw', s₃ = { s with heap := h', toks := tk } ∧ Fr h₀ L h' m₂ ∧ News h₀ L h' (ks ++ (own ++ nw')) ∧ LamSt nw' ∧ Apart (ks ++ own) nw' ∧ m₂ (Str.ofString "text") = some (.str x t))
  | _ => False
theorem turn_end {h₀ h' : Heap} {L : Addr} {ks own nw' all : List (Addr × Obj)} {x : Str} {t : Tok} {s : Shared} {tk : Nat} {m₂ : Str → Option Value} (F : Fr h₀ L h' m₂) (hl : LamSt nw') (ha : Apart (ks ++ own) nw') (N : News h₀ L h' all) (hs : ∀ p ∈ ks ++ (own ++ nw'), p ∈ all) (hm : m₂ (Str.ofString "text") = some (.str x t)) :
    TurnEnd h₀ L ks own x t s .next { s with heap := h', toks := tk } := ⟨⟨h', tk, m₂, nw', rfl, F, fun p hp => N p (hs p hp), hl, ha, hm⟩⟩
section
variable {prog : Program} {w : World} {A : Around} {E : Value → Shared → Prop} {Q : Flow → Shared → Prop} {s : Shared} {env : Env} {h₀ : Heap}
theorem loop_ks {target : Expr} {body : List Stmt} {l : Addr} {vs : List Value} {k : Nat} {m₀ : Str → Option Value} {all ks nw₀ : List (Addr × Obj)} {x : Str} {t : Tok} (G : Value → Prop) (hG : ∀ v ∈ vs, G v)
    (hh : A.handled = none) (F : Fr h₀ env.locals s.heap m₀) (N : News h₀ env.locals s.heap all) (hm : (l, listOf vs.toArray k) ∈ all) (hks : ∀ p ∈ ks, p ∈ all) (hnw : ∀ p ∈ nw₀, p ∈ all) (hne : ∀ p ∈ ks ++ nw₀, p.1 ≠ l) (hl₀ : LamSt nw₀) (hap : Apart ks nw₀)
    (hx : m₀ (Str.ofString "text") = some (.str x t)) (hgo : (∀ it v, letOwnedTupleGo target it v = pure ()) ∨ ∃ elts x1 pos, target = .Tuple elts x1 pos)
    (turn : ∀ v f nw own (s₁ : Shared), G v → Fr h₀ env.locals s₁.heap (kstB f [(Str.ofString "text", .str x t)]) → News h₀ env.locals s₁.heap (ks ++ (own ++ nw)) → LamSt nw → Apart (ks ++ own) nw →
      wpAny (model prog w) A (assign target env v) (fun _ s₃ => wpAny (model prog w) A (execs body env) (TurnEnd h₀ env.locals ks own x t s₁) E s₃) E s₁)
    (done : ∀ f nw h tk, LamSt nw → Apart ks nw → Fr h₀ env.locals h (kstB f [(Str.ofString "text", .str x t)]) → News h₀ env.locals h (ks ++ nw) → Q .next { s with heap := h, toks := tk }) :
    wpAny (model prog w) A (pyIter (.ref l)) (fun it s₂ => LoopAtT prog w A h₀ env target body Q E it s₂) E s := by
  refine iter_valsT (k := k) (news := ks ++ nw₀) (fun rest m nx => (∀ v ∈ rest, G v) ∧ m (Str.ofString "text") = some (.str x t) ∧ ∃ nw, nx = ks ++ nw ∧ LamSt nw ∧ Apart ks nw) hh F (fun p hp => N p ?_) hne ⟨hG, hx, nw₀, rfl, hl₀, hap⟩ hgo ?_ ?_
  · rcases List.mem_cons.mp hp with rfl | hp
    · exact hm
    · exact (List.mem_append.mp hp).elim (hks p) (hnw p)
  · rintro v rest m₁ news₁ own s₁ ⟨hG₁, hx₁, nw, rfl, hl, ha⟩ F₁ N₁ ha₁
    have e : m₁ = kstB m₁ [(Str.ofString "text", .str x t)] := (kstB_self (by intro p hp; rw [List.mem_singleton.mp hp]; exact hx₁)).symm
    rw [e] at F₁
    refine wpAny_mono (turn v m₁ nw own s₁ (hG₁ v (.head _)) F₁ (fun p hp => N₁ p ?_) hl ?_) (fun _ s₃ q => wpAny_mono q (fun f s₄ r => ?_) fun _ _ x => x) fun _ _ x => x
    · rcases List.mem_append.mp hp with hp | hp
      · exact List.mem_append_left _ (List.mem_append_left _ hp)
      · rcases List.mem_append.mp hp with hp | hp
        · exact List.mem_append_right _ hp
        · exact List.mem_append_left _ (List.mem_append_right _ hp)
    · intro p hp r hr
      rcases List.mem_append.mp hp with hp | hp
      · exact ha p hp r hr
      · exact fun q => ha₁ r (List.mem_append_right _ hr) p hp q.symm
    · cases f with
      | next =>
        obtain ⟨h', tk, m₂, nw', rfl, F₂, N₂, hl₂, ha₂, hx₂⟩ := r.out
        refine vstep_next (news₂ := ks ++ nw') F₂ (fun p hp => N₂ p ?_) (fun p hp r hr => ?_) ⟨fun v hv => hG₁ v (.tail _ hv), hx₂, nw', rfl, hl₂, fun p hp => ha₂ p (List.mem_append_left _ hp)⟩
        · rcases List.mem_append.mp hp with hp | hp
          · rcases List.mem_append.mp hp with hp | hp
            · exact List.mem_append_left _ hp
            · exact List.mem_append_right _ (List.mem_append_right _ hp)
          · exact List.mem_append_right _ (List.mem_append_left _ hp)
        · rcases List.mem_append.mp hp with hp | hp
          · exact ha₁ p (List.mem_append_left _ hp) r hr
          · exact fun q => ha₂ r (List.mem_append_right _ hr) p hp q.symm
      | _ => exact absurd r id
  · rintro m₁ news₁ h tk ⟨_, hx₁, nw, rfl, hl, ha⟩ F₁ N₁
    have e : m₁ = kstB m₁ [(Str.ofString "text", .str x t)] := (kstB_self (by intro p hp; rw [List.mem_singleton.mp hp]; exact hx₁)).symm
    rw [e] at F₁
    exact done m₁ nw h tk hl ha F₁ N₁
end
/-- a ledger whose tail is the table of nested code -/
inductive LamSplit : List (Addr × Obj) → List (Addr × Obj) → List (Addr × Obj) → Prop
  | base {nw : List (Addr × Obj)} : LamSt nw → LamSplit nw [] nw
  | tail {own nw : List (Addr × Obj)} : LamSt nw → LamSplit (own ++ nw) own nw
  | cons {p : Addr × Obj} {all news nw : List (Addr × Obj)} : LamSplit all news nw → LamSplit (p :: all) (p :: news) nw
theorem LamSplit.eq {all news nw : List (Addr × Obj)} (h : LamSplit all news nw) : all = news ++ nw ∧ LamSt nw := by
  induction h with
  | base h => exact ⟨rfl, h⟩
  | tail h => exact ⟨rfl, h⟩
  | cons _ ih => exact ⟨by rw [ih.1]; rfl, ih.2⟩
theorem apart_nil {nw : List (Addr × Obj)} : Apart [] nw := fun _ h => by cases h
theorem apart_lt {d : Addr} {o : Obj} {news nw : List (Addr × Obj)} (h : AllLt d nw) (ha : Apart news nw) : Apart ((d, o) :: news) nw := fun p hp r hr => by
  rcases List.mem_cons.mp hp with rfl | hp
  · exact fun e => allLt_ne h r hr e.symm
  · exact ha p hp r hr
theorem allLt_app {d : Addr} : ∀ {a b : List (Addr × Obj)}, AllLt d (a ++ b) → AllLt d b
  | [], _, h => h
  | _ :: a, _, h => allLt_app (a := a) h.2
theorem apart_lt2 {d : Addr} {o : Obj} {own news nw : List (Addr × Obj)} (h : AllLt d (own ++ nw)) (ha : Apart news nw) : Apart ((d, o) :: news) nw := apart_lt (allLt_app h) ha
section
variable {prog : Program} {w : World} {mean : ExcName → Option Value} {mg mb : Str → Option Value}
theorem ctrL_callS {f : Addr} {need : Nat} {vs : List Value} {pre : Prop} {R : Tok → Value} (C : CtrL prog w mean mg mb f need vs pre R)
    {dp un : Nat} {gd : Option (List Code)} {cn : Str} {cs : Scope} {a : Addr} {ccd : Value} {cl : List (Str × Addr)} {outer : List Env} {A₀ : Around} {base h₀ : Heap} {L : Addr} {m : Str → Option Value} {all news nw : List (Addr × Obj)} {s : Shared} {Q E : Value → Shared → Prop}
    (B : Below A₀ base outer h₀) (F : Fr h₀ L s.heap m) (X : (kTop w.params).In h₀) (N : News h₀ L s.heap all) (hs : LamSplit all news nw) (hap : Apart news nw) (hc : CodeHd base 87 83) (T : Top topProg LZ mean mg mb h₀) (hk : cs.kind = .function)
    (hp : pre) (hdp : dp + need < recursionLimit) (hun : un + 8 * need < cLine)
    (h : ∀ t h' tk nw', Fr h₀ L h' m → News h₀ L h' (news ++ nw') → LamSt nw' → Apart news nw' → Q (R t) { s with heap := h', toks := tk }) :
      wpAny (model prog w) (ktrTop dp un gd cn cs L a ccd cl outer) (call (.ref f) vs) Q E s := by
  obtain ⟨rfl, hl⟩ := hs.eq
  exact C dp un gd cn cs a ccd cl outer A₀ base h₀ L m news nw s Q E B F X N hl hap hc T hk hp hdp hun h
end
end PartLX
section PartL4
section
local macro_rules | `(tactic| walk_at "calm one") => `(tactic| skip)
theorem calm_L4 : False → False := by
  w_top off
  intro h
  walk1
local macro_rules | `(tactic| walk_at "calm two") => `(tactic| skip)
theorem calm2_L4 : False → False := by
  w_top off
  intro h
  walk1
end
theorem str_eq_iff {x y : Str} : (x == y) = true ↔ x.cps.toList = y.cps.toList := by
  constructor
  · intro h; rw [eq_of_beq h]
  · intro h
    have : x = y := PySem.Str.ext' (Array.toList_inj.mp h)
    rw [this]; simp
theorem item0_iff {x : Str} {c : Nat} {l : List Nat} (h : x.cps.toList = c :: l) : Txt.item x 0 = ⟨#[c]⟩ :=
  item_nat (i := 0) (by rw [h]; rfl)
theorem itemL_iff {x : Str} {c : Nat} {l : List Nat} (h : x.cps.toList = l ++ [c]) : Txt.item x (-1) = ⟨#[c]⟩ := by
  have hl : x.length = l.length + 1 := by rw [len_toList, h]; simp
  have e : Txt.charAt x (-1) = some c := StrLaws.at_neg (by omega) (by omega) (by
    rw [hl]
    rw [show ((-1 : Int) + ((l.length + 1 : Nat) : Int)).toNat = l.length by omega, ← Array.getElem?_toList, h]
    simp)
  unfold Txt.item
  rw [e]; rfl
theorem named_eq {x : Str} (h : x.length ≤ 1000000) : namedS x = hdnS x := by
  unfold namedS hdnS
  rw [fig_eq h]
  cases figS x with
  | true => rfl
  | false =>
    rw [Bool.eq_iff_iff]
    simp only [Bool.not_false, Bool.true_and, Bool.or_eq_true, fits_nd, fits_ndnd, Bool.and_eq_true, Bool.not_eq_true', beq_eq_false_iff_ne]
    match hl : x.cps.toList with
    | [] =>
      have e : x = Str.ofString "" := PySem.Str.ext' (Array.toList_inj.mp (by rw [hl]; rfl))
      constructor
      · rintro (⟨c, h, _⟩ | ⟨a, m, b, h, _⟩) <;> cases h
      · rintro ⟨⟨h, _⟩, _⟩; exact absurd e h
    | [c] =>
      rw [item0_iff hl, itemL_iff (l := []) hl]
      have hne : x ≠ Str.ofString "" := by rintro rfl; cases hl
      constructor
      · rintro (⟨d, h, hd⟩ | ⟨a, m, b, h, _⟩)
        · injection h with h; subst h
          have : (⟨#[c]⟩ : Str) ≠ Str.ofString "." := by rw [dotStr]; intro e; injection e with e; injection e with e; injection e with e; exact hd e
          exact ⟨⟨hne, this⟩, this⟩
        · injection h with _ h
          have := congrArg List.length h
          simp at this
      · rintro ⟨⟨_, h⟩, _⟩
        exact .inl ⟨c, rfl, by rintro rfl; exact h dotStr.symm⟩
    | a :: c :: r =>
      obtain ⟨m, b, hm⟩ := (snoc_or (c :: r)).resolve_left (by simp)
      have hl2 : x.cps.toList = (a :: m) ++ [b] := by rw [hl, hm]; rfl
      rw [item0_iff hl, itemL_iff hl2, hm]
      have hne : x ≠ Str.ofString "" := by rintro rfl; cases hl
      have key : ∀ d : Nat, (⟨#[d]⟩ : Str) ≠ Str.ofString "." ↔ d ≠ 46 := fun d => by
        rw [dotStr]
        constructor
        · rintro h rfl; exact h rfl
        · intro h e; injection e with e; injection e with e; injection e with e; exact h e
      rw [key, key]
      constructor
      · rintro (⟨d, h, _⟩ | ⟨a', m', b', h, h1, h2⟩)
        · injection h with _ h
          have := congrArg List.length h
          simp at this
        · injection h with e1 e2
          subst e1
          have := List.append_inj_right' e2 rfl
          injection this with this
          subst this
          exact ⟨⟨hne, h1⟩, h2⟩
      · rintro ⟨⟨_, h1⟩, h2⟩
        exact .inr ⟨a, m, b, rfl, h1, h2⟩
/-- the first point of a text -/
theorem first_dot {x : Str} (h : 46 ∈ x.cps.toList) : ∃ a b, x.cps.toList = a ++ 46 :: b ∧ 46 ∉ a ∧ Txt.find x (Str.ofString ".") = (a.length : Int) ∧ afterDot x = ⟨b.toArray⟩ := by
  have hf := dot_found h
  rcases StrLaws.occ_head x (Str.ofString ".") 1 (Nat.le_refl 1) with ⟨h0, _⟩ | ⟨i, r, h0, ha, hn⟩
  · rw [h0] at hf; cases hf
  · rw [dotStr] at ha hn
    have hi : x.cps.toList[i]? = some 46 := (StrLaws.subAt_one x 46 i).mp ha
    have hlt : i < x.cps.toList.length := by
      rcases Nat.lt_or_ge i x.cps.toList.length with q | q
      · exact q
      · rw [List.getElem?_eq_none q] at hi; cases hi
    have hg : x.cps.toList[i] = 46 := by rw [List.getElem?_eq_getElem hlt] at hi; exact Option.some.inj hi
    have hsplit : x.cps.toList = x.cps.toList.take i ++ 46 :: x.cps.toList.drop (i + 1) := by
      rw [← hg, ← List.drop_eq_getElem_cons hlt, List.take_append_drop]
    have hlen : (x.cps.toList.take i).length = i := by rw [List.length_take]; omega
    refine ⟨x.cps.toList.take i, x.cps.toList.drop (i + 1), hsplit, ?_, ?_, ?_⟩
    · intro hm
      obtain ⟨j, hj⟩ := List.mem_iff_getElem?.mp hm
      have hji : j < i := by
        rcases Nat.lt_or_ge j i with q | q
        · exact q
        · rw [List.getElem?_eq_none (by rw [hlen]; exact q)] at hj; cases hj
      rw [List.getElem?_take_of_lt hji] at hj
      exact hn j hji ((StrLaws.subAt_one x 46 j).mpr hj)
    · unfold Txt.find
      rw [h0, hlen]
    · unfold afterDot dotAt
      rw [h0]
      apply PySem.Str.ext'
      apply Array.toList_inj.mp
      show (Builtin.Str.strSub x (i + 1) x.length).cps.toList = x.cps.toList.drop (i + 1)
      rw [StrLaws.strSub_toList, List.take_of_length_le]
      rw [List.length_drop, ← len_toList]
      exact Nat.le_refl _
theorem find_none {x : Str} (h : 46 ∉ x.cps.toList) : Txt.find x (Str.ofString ".") = -1 := by
  have hf := StrLaws.found_one x 46
  rw [decide_eq_false h, ← dotStr] at hf
  unfold Txt.find
  cases e : Builtin.Str.occurrences x (Str.ofString ".") 0 x.length 1 with
  | nil => rfl
  | cons i r => rw [e] at hf; cases hf
theorem find_pos (x : Str) : (0 ≤ Txt.find x (Str.ofString ".")) ↔ 46 ∈ x.cps.toList := by
  by_cases h : 46 ∈ x.cps.toList
  · obtain ⟨a, b, _, _, hf, _⟩ := first_dot h
    rw [hf]
    exact ⟨fun _ => h, fun _ => by omega⟩
  · rw [find_none h]
    exact ⟨fun q => by omega, fun q => absurd q h⟩
theorem localStr : (Str.ofString "local").cps.toList = [108, 111, 99, 97, 108] := by decide +kernel
theorem lreach_eq {x : Str} (h : x.length ≤ 1000000) : lreachS x = reachS x := by
  unfold lreachS reachS
  rw [named_eq h]
  by_cases hd : 46 ∈ x.cps.toList
  · obtain ⟨a, b, hl, ha, hf, haft⟩ := first_dot hd
    have hs : Txt.slice x (some (Txt.find x (Str.ofString ".") + 1)) none = afterDot x := by
      rw [hf, haft, slice_text, StrLaws.sliceText_from ⟨by omega, by rw [hl, List.length_append, List.length_cons]; omega⟩]
      have e1 : ((a.length : Int) + 1).toNat = (a ++ [46]).length := by rw [List.length_append]; simp only [List.length_cons, List.length_nil]; omega
      rw [e1]
      have e2 : x.cps.toList = (a ++ [46]) ++ b := by rw [hl]; simp
      rw [e2, List.drop_left, List.take_of_length_le]
      simp
      omega
    rw [if_pos ((find_pos x).mpr hd), hs, haft]
    have hb : (fitsS tsDots x || fitsS tsLocal x) = (decide (0 ≤ Txt.find ⟨b.toArray⟩ (Str.ofString ".")) || ((⟨b.toArray⟩ : Str) == Str.ofString "local")) := by
      rw [Bool.eq_iff_iff]
      simp only [Bool.or_eq_true, decide_eq_true_eq, find_pos, str_eq_iff, localStr, fits_dots, fits_local, hl]
      constructor
      · rintro (⟨a', b', c', e⟩ | ⟨a', e⟩)
        · left
          rcases List.append_eq_append_iff.mp e with ⟨z, h1, h2⟩ | ⟨z, h1, h2⟩
          · cases z with
            | nil =>
              simp at h2
              rw [h2]; simp
            | cons q z =>
              injection h2 with h3 h4
              rw [h4]; simp
          · cases z with
            | nil =>
              simp at h2
              rw [← h2]; simp
            | cons q z =>
              injection h2 with h3 h4
              subst h3
              exact absurd (by rw [h1]; simp) ha
        · rcases List.append_eq_append_iff.mp e with ⟨z, h1, h2⟩ | ⟨z, h1, h2⟩
          · cases z with
            | nil =>
              right
              simpa using h2
            | cons q z =>
              injection h2 with h3 h4
              left
              rw [h4]; simp
          · cases z with
            | nil =>
              right
              simpa using h2.symm
            | cons q z =>
              injection h2 with h3 h4
              subst h3
              exact absurd (by rw [h1]; simp) ha
      · rintro (h1 | h1)
        · left
          obtain ⟨b1, b2, e⟩ := List.append_of_mem h1
          exact ⟨a, b1, b2, by rw [e]⟩
        · right
          exact ⟨a, by rw [h1]⟩
    rw [hb]
  · rw [if_neg (show ¬ 0 ≤ Txt.find x (Str.ofString ".") by rw [find_pos]; exact hd), if_neg]
    intro e
    rw [Bool.and_eq_true, Bool.or_eq_true] at e
    rcases e.2 with e | e
    · obtain ⟨a, b, c, e⟩ := (fits_dots x).mp e
      exact hd (by rw [e]; simp)
    · obtain ⟨a, e⟩ := (fits_local x).mp e
      exact hd (by rw [e]; simp)
theorem starts_dot (r : Str) : Txt.startswith r (Str.ofString ".") = (Txt.slice r none (some 1) == Str.ofString ".") := by
  rw [dotStr]
  match hl : r.cps.toList with
  | [] =>
    rw [sl_nil hl]
    have h0 : r.length = 0 := by rw [len_toList, hl]; rfl
    unfold Txt.startswith
    rw [h0]
    rfl
  | c :: l =>
    rw [sl_first hl, one_eq]
    unfold Txt.startswith
    have hlen : 1 ≤ r.length := by rw [len_toList, hl]; simp
    rw [StrLaws.subAt_eq, hl]
    rw [show decide (0 + (⟨#[46]⟩ : Str).length ≤ r.length) = true from decide_eq_true (by show 0 + 1 ≤ r.length; omega)]
    show (true && ([c] == [46])) = _
    by_cases h : c = 46
    · subst h; rfl
    · rw [beq_false_of_ne h]
      simp [h]
theorem ends_iff (y r : Str) : Txt.endswith y r = true ↔ ∃ n, n ≤ y.cps.toList.length ∧ y.cps.toList.drop n = r.cps.toList := by
  unfold Txt.endswith
  rw [Bool.and_eq_true, decide_eq_true_eq, StrLaws.subAt_eq, beq_iff_eq]
  have hy := len_toList y
  have hr := len_toList r
  constructor
  · rintro ⟨h1, h2⟩
    refine ⟨y.length - r.length, by omega, ?_⟩
    rw [List.take_of_length_le] at h2
    · exact h2
    · rw [List.length_drop]; omega
  · rintro ⟨n, h1, h2⟩
    have h3 := congrArg List.length h2
    rw [List.length_drop] at h3
    have hn : y.length - r.length = n := by omega
    refine ⟨by omega, ?_⟩
    rw [hn, h2, List.take_of_length_le (by omega)]
theorem fig_end {a b : List Nat} (h : Fig b) : Fig (a ++ b) := by
  obtain ⟨c, d, e, h1, h2, h3, h4⟩ := h
  exact ⟨a ++ c, d, e, by rw [h1]; simp, h2, h3, h4⟩
theorem told_eq {z x : Str} (hz : (Txt.lower z).length ≤ 1000000) (hx : (Txt.lower x).length ≤ 1000000) : toldS (Txt.lower z) x = udmS z x := by
  unfold toldS udmS libS
  rw [fig_eq hz, fig_eq hx, starts_dot]
  generalize Txt.lower z = y at hz
  generalize Txt.lower x = r at hx
  cases hA : figS y with
  | true => rfl
  | false =>
    rw [if_neg Bool.false_ne_true]
    cases hB : figS r with
    | false =>
      show _ = if (true && true) = true then _ else _
      rw [if_pos (show (true && true) = true from rfl)]
      by_cases hs : (Txt.slice r none (some 1) == Str.ofString ".") = true
      · rw [if_pos hs, if_pos hs, Bool.eq_iff_iff, fits_end, ends_iff]
      · rw [if_neg hs, if_neg hs, Bool.eq_iff_iff, fits_word, str_eq_iff]
    | true =>
      show _ = if (true && false) = true then _ else _
      rw [if_neg (show ¬ (true && false) = true by decide)]
      have hno : ∀ a, y.cps.toList ≠ a ++ r.cps.toList := fun a e => by
        have h1 := (figS_iff r).mp hB
        have h2 : figS y = true := (figS_iff y).mpr (by rw [e]; exact fig_end h1)
        rw [hA] at h2; cases h2
      have hyr : (y == r) = false := by
        cases q : (y == r) with
        | false => rfl
        | true => exact absurd (str_eq_iff.mp q) (hno [])
      rw [hyr]
      by_cases hs : (Txt.slice r none (some 1) == Str.ofString ".") = true
      · rw [if_pos hs]
        cases q : fitsS (.star :: globToks r) y with
        | false => rfl
        | true =>
          obtain ⟨n, _, h2⟩ := (fits_end r y).mp q
          exact absurd (by rw [← h2, List.take_append_drop]) (hno (y.cps.toList.take n))
      · rw [if_neg hs]
        cases q : fitsS (globToks r) y with
        | false => rfl
        | true => exact absurd ((fits_word r y).mp q) (hno [])
end PartL4
section PartLY
section
local macro_rules | `(tactic| walk_at "calm one") => `(tactic| skip)
theorem calm_LY : False → False := by
  w_top off
  intro h
  walk1
local macro_rules | `(tactic| walk_at "calm two") => `(tactic| skip)
theorem calm2_LY : False → False := by
  w_top off
  intro h
  walk1
end
section
variable {prog : Program} {w : World} {mean : ExcName → Option Value} {mg mb : Str → Option Value}
theorem c_told' (tr : TrAll prog w mean mg mb) (z x : Str) (t u : Tok) : CtrL prog w mean mg mb 124 6 [.str (Txt.lower z) t, .str x u] (z.length ≤ 100 ∧ x.length ≤ 100) (fun _ => .bool (udmS z x)) := by
  intro dp un gd cn cs a ccd cl outer A₀ base h₀ L m news nw s Q E B F X N hlam hap hcode T hk hpre hdp hun hret
  have h1 := len_lower z
  have h2 := len_lower x
  rw [← told_eq (by omega) (by omega)] at hret
  exact c_told tr (Txt.lower z) x t u dp un gd cn cs a ccd cl outer A₀ base h₀ L m news nw s Q E B F X N hlam hap hcode T hk ⟨by omega, hpre.2⟩ hdp hun hret
theorem c_named' (tr : TrAll prog w mean mg mb) (x : Str) (t : Tok) : CtrL prog w mean mg mb 119 6 [.str x t] (x.length ≤ 300) (fun _ => .bool (hdnS x)) := by
  intro dp un gd cn cs a ccd cl outer A₀ base h₀ L m news nw s Q E B F X N hlam hap hcode T hk hpre hdp hun hret
  rw [← named_eq (by omega)] at hret
  exact c_named tr x t dp un gd cn cs a ccd cl outer A₀ base h₀ L m news nw s Q E B F X N hlam hap hcode T hk hpre hdp hun hret
theorem c_lreach' (tr : TrAll prog w mean mg mb) (x : Str) (t : Tok) : CtrL prog w mean mg mb 131 7 [.str x t] (x.length ≤ 300) (fun t => .str (reachS x) t) := by
  intro dp un gd cn cs a ccd cl outer A₀ base h₀ L m news nw s Q E B F X N hlam hap hcode T hk hpre hdp hun hret
  rw [← lreach_eq (by omega)] at hret
  exact c_lreach tr x t dp un gd cn cs a ccd cl outer A₀ base h₀ L m news nw s Q E B F X N hlam hap hcode T hk hpre hdp hun hret
end
theorem trAll {prog : Program} {w : World} {mean : ExcName → Option Value} {mg mb : Str → Option Value} : TrAll prog w mean mg mb := fun x t u sa ts hok hx => c_trans ts hok x hx t u sa
end PartLY
section PartLQ
section
local macro_rules | `(tactic| walk_at "calm one") => `(tactic| skip)
theorem calm_LQ : False → False := by
  w_top off
  intro h
  walk1
local macro_rules | `(tactic| walk_at "calm two") => `(tactic| skip)
theorem calm2_LQ : False → False := by
  w_top off
  intro h
  walk1
end
section
variable {prog : Program} {w : World} {A : Around} {E : Value → Shared → Prop} {s : Shared} {h₀ : Heap} {L : Addr} {m : Str → Option Value} {news : List (Addr × Obj)}
theorem add_two {l b : Addr} {vs ws : List Value} {k k' : Nat} {Q : Value → Shared → Prop} (F : Fr h₀ L s.heap m) (N : News h₀ L s.heap news) (hl : (l, listOf vs.toArray k) ∈ news) (hb : (b, listOf ws.toArray k') ∈ news)
    (hsz : vs.length + ws.length ≤ 10000) (h : ∀ r h', Fr h₀ L h' m → News h₀ L h' ((r, listOf (vs ++ ws).toArray 0) :: news) → (∀ p ∈ news, p.1 < r) → Q (.ref r) { s with heap := h' }) :
    wpAny (model prog w) A (binaryOp .Add (.ref l) (.ref b)) Q E s :=
  add_lists (hsz := by rw [sizeLine_eq]; omega) F N ⟨_, N.get hl, rfl, k, rfl⟩ ⟨_, N.get hb, rfl, k', rfl⟩ fun h' F' N' => h _ h' F' N' fun p hp => Heap.lt_size (N p hp).1
theorem ne_bools {l b : Addr} {p q : Bool} {k k' : Nat} {Q : Value → Shared → Prop} (N : News h₀ L s.heap news) (hl : (l, listOf #[.bool p, .bool q] k) ∈ news) (hb : (b, listOf #[.bool p, .bool q] k') ∈ news) (hu : A.units < cLine) (h : Q (.bool false) s) :
    wpAny (model prog w) A (compareOp .NotEq (.ref l) (.ref b)) Q E s := by
  have hl' : s.heap.IsList l #[.bool p, .bool q] := ⟨_, N.get hl, rfl, k, rfl⟩
  have hb' : s.heap.IsList b #[.bool p, .bool q] := ⟨_, N.get hb, rfl, k', rfl⟩
  refine SeqAt.RcNeAt.lists (e := fun _ => true) hl' hb' rfl hu (fun j h1 _ => ?_) prog w E Q h
  match j, h1 with
  | 0, _ => exact SeqAt.EqAt.same _
  | 1, _ => exact SeqAt.EqAt.same _
theorem ne_two {a b l : Addr} {x y : Obj} (h1 : a ≠ l) (h2 : b ≠ l) : ∀ p ∈ [(a, x)] ++ [(b, y)], p.1 ≠ l := by
  intro p hp
  simp only [List.cons_append, List.nil_append, List.mem_cons, List.not_mem_nil, or_false] at hp
  rcases hp with rfl | rfl
  · exact h1
  · exact h2
theorem apart_one {a b : Addr} {x y : Obj} (h : a ≠ b) : Apart [(a, x)] [(b, y)] := fun p hp r hr => by
  rw [List.mem_singleton.mp hp, List.mem_singleton.mp hr]; exact h
end
theorem texts_all {vs us : List Value} {a b : Str} {t u : Tok} (h1 : Texts 30 vs) (h2 : Texts 30 us) (ha : a.length ≤ 30) (hb : b.length ≤ 30) : ∀ v ∈ vs ++ us ++ [Value.str a t, Value.str b u], ∃ z t, v = Value.str z t ∧ z.length ≤ 30 := by
  intro v hv
  rcases List.mem_append.mp hv with hv | hv
  · rcases List.mem_append.mp hv with hv | hv
    · exact h1 v hv
    · exact h2 v hv
  · simp only [List.mem_cons, List.not_mem_nil, or_false] at hv
    rcases hv with rfl | rfl
    · exact ⟨a, t, rfl, ha⟩
    · exact ⟨b, u, rfl, hb⟩
section
variable {prog : Program} {w : World} {A : Around} {E : Value → Shared → Prop} {Q : Flow → Shared → Prop} {s : Shared} {env : Env} {h₀ : Heap}
theorem loop_rules {target : Expr} {body : List Stmt} {l c : Addr} {o : Obj} {vs : List Value} {k : Nat} {m₀ : Str → Option Value} {all : List (Addr × Obj)} {x : Str} {t : Tok} {dat : Option Value} (hcl : o.data = .cell dat) (hG : ∀ v ∈ vs, ∃ z u, v = Value.str z u ∧ z.length ≤ 30)
    (hh : A.handled = none) (F : Fr h₀ env.locals s.heap m₀) (N : News h₀ env.locals s.heap all) (hm : (l, listOf vs.toArray k) ∈ all) (hcm : (c, o) ∈ all) (h83 : (83, tabObj #[]) ∈ all) (hn1 : c ≠ l) (hn2 : 83 ≠ l) (hn3 : c ≠ 83)
    (hx : m₀ (Str.ofString "text") = some (.str x t)) (hgo : ∀ it v, letOwnedTupleGo target it v = pure ())
    (turn : ∀ z u f nw own (s₁ : Shared), z.length ≤ 30 → o.data = .cell dat → Fr h₀ env.locals s₁.heap (kstB f [(Str.ofString "text", .str x t)]) → News h₀ env.locals s₁.heap ((c, o) :: (own ++ nw)) → LamSt nw → Apart ((c, o) :: own) nw →
      wpAny (model prog w) A (assign target env (.str z u)) (fun _ s₃ => wpAny (model prog w) A (execs body env) (TurnEnd h₀ env.locals [(c, o)] own x t s₁) E s₃) E s₁)
    (done : ∀ f nw h tk, LamSt nw → Apart [(c, o)] nw → Fr h₀ env.locals h (kstB f [(Str.ofString "text", .str x t)]) → News h₀ env.locals h ((c, o) :: nw) → Q .next { s with heap := h, toks := tk }) :
    wpAny (model prog w) A (pyIter (.ref l)) (fun it s₂ => LoopAtT prog w A h₀ env target body Q E it s₂) E s :=
  loop_ks (ks := [(c, o)]) (nw₀ := [(83, tabObj #[])]) (fun v => ∃ z u, v = Value.str z u ∧ z.length ≤ 30) hG hh F N hm (fun p hp => by rw [List.mem_singleton.mp hp]; exact hcm) (fun p hp => by rw [List.mem_singleton.mp hp]; exact h83) (ne_two hn1 hn2) (.inl rfl) (apart_one hn3) hx (.inl hgo)
    (fun v f nw own s₁ ⟨z, u, e, hz⟩ F₁ N₁ hl ha => by subst e; exact turn z u f nw own s₁ hz hcl F₁ N₁ hl ha)
    done
theorem turn_rule {h' : Heap} {L c : Addr} {o : Obj} {own nw' all : List (Addr × Obj)} {x : Str} {t : Tok} {tk : Nat} {m₂ : Str → Option Value} {p : Addr × Obj} (F : Fr h₀ L h' m₂) (hl : LamSt nw') (ha : Apart (p :: (c, o) :: own) nw') (N : News h₀ L h' all) (hs : ∀ p ∈ (c, o) :: (own ++ nw'), p ∈ all) (hm : m₂ (Str.ofString "text") = some (.str x t)) :
    TurnEnd h₀ L [(c, o)] own x t s .next { s with heap := h', toks := tk } := turn_end F hl (fun p hp => ha p (.tail _ hp)) N hs hm
end
end PartLQ
section PartLR
section
local macro_rules | `(tactic| walk_at "calm one") => `(tactic| skip)
theorem calm_LR : False → False := by
  w_top off
  intro h
  walk1
local macro_rules | `(tactic| walk_at "calm two") => `(tactic| skip)
theorem calm2_LR : False → False := by
  w_top off
  intro h
  walk1
end
section
variable {prog : Program} {w : World} {A : Around} {E : Value → Shared → Prop} {s : Shared} {h₀ : Heap} {L : Addr} {m : Str → Option Value} {env : Env}
/-- a comprehension over a text: its signs in their order -/
def StrSrc (prog : Program) (w : World) (A : Around) (h₀ : Heap) (L : Addr) (m : Str → Option Value) (env : Env) (elt : Expr) (x : Str) (scope : Scope) (cl : List (Str × Addr)) (Q : Value → Shared → Prop) (xv : Value) (s₁ : Shared) : Prop :=
  ∃ (y : Str) (t : Tok) (news : List (Addr × Obj)), xv = .str y t ∧ A.handled = none ∧ Fr h₀ L s₁.heap m ∧ News h₀ L s₁.heap news ∧ y.cps.all (· < 128) = true ∧ y.cps.size ≤ sizeLine ∧
    ∀ s₂ : Shared, (∃ h, s₂ = { s₁ with heap := h }) → LCg.CompRest prog w A h₀ L m env elt x scope cl s₂ (fun _ => True) (SignAt y) (LCg.FinE h₀ L m s₂ Q) y.cps.size 0 [] news
theorem ListComp_S {elt iter : Expr} {x : Str} {px : Pos} {scope : Scope} {cl : List (Str × Addr)} {pos : Pos} {Q : Value → Shared → Prop} (F₀ : Fr h₀ L s.heap m)
    (hclos : closureFor scope env = pure cl) (hcell : ∀ y ∈ scope.names, y.2 ≠ .cell) (hkind : scope.kind = .function)
    (hnames : ∀ y ∈ scope.names, y.2 = .local → scope.names.lookup y.1 = some .local) (hx : scope.names.lookup x = some .local)
    (h : wpAny (model prog w) A (eval iter env) (StrSrc prog w A h₀ L m env elt x scope cl Q) E s)
    (hs : ∀ x, foldedSetIterable iter env x = pure x := by intro _; rfl) :
    wpAny (model prog w) A (eval (.ListComp elt [⟨.Name x px, iter, [], 0⟩] scope pos) env) Q E s := by
  rw [eval_ListComp]
  refine wpAny_comprehension_free (use := none) rfl hs hclos hkind hnames (wpAny_mono h (fun xv s₁ h₁ => ?_) fun _ _ e => e)
  obtain ⟨y, t, news, rfl, hh, F, N, ha, hsz, R⟩ := h₁
  refine wpAny_pyIter_ascii ha ?_
  have up : ∀ b o, s₁.heap.get? b = some o → (s₁.heap.push { cls := .type "str_ascii_iterator", data := .fields #[.str y t, .int 0 0] }).get? b = some o := fun b o e => Heap.get?_push_of_some _ e
  have W := Walks.strAscii (prog := prog) (w := w) hh s₁.heap.objs.size y t
  refine LCg.block_U W hsz (fun i h st => by obtain ⟨o, e, _⟩ := st; exact ⟨o, e⟩)
    (fun i g g' o nw st e e' _ _ _ => W.frame i g g' st fun b hb o' e2 => by rw [List.mem_singleton.mp hb] at e2 ⊢; rw [e] at e2; cases e2; exact e')
    hcell hkind hx ⟨_, Heap.get?_push_size _ rfl, rfl, rfl⟩ (fun b hb => ?_)
    (F.keeps up) (N.grown up) (Nat.ne_of_lt F.ns.lt) (next_is_new F) (fun p hp => Nat.ne_of_lt (Heap.lt_size (N p hp).1)) trivial (R _ ⟨_, rfl⟩) ?_
  · rw [List.mem_singleton.mp hb]
    show s₁.heap.objs.size < (s₁.heap.push _).objs.size
    rw [Heap.size_push]; exact Nat.lt_succ_self _
  · intro D C h tk m' ys news' F' N' o1 hn hC₀ hD₀ hCL hDL hCD offC fin
    refine ⟨m', hn, fun h'' hs'' => fin D h'' tk (F'.change hs'' hCL hC₀) (fun p hp => ?_) o1⟩
    refine ⟨hs''.extBut _ _ ?_ (N' p hp).1, (N' p hp).2⟩
    rcases List.mem_cons.mp hp with rfl | hp
    · exact Ne.symm hCD
    · exact offC p hp
theorem StrSrc.two {elt : Expr} {x : Str} {scope : Scope} {cl : List (Str × Addr)} {Q : Value → Shared → Prop} {t : Tok} {news : List (Addr × Obj)} (hh : A.handled = none) (F : Fr h₀ L s.heap m) (N : News h₀ L s.heap news)
    (h : ∀ g, LCg.CompRest prog w A h₀ L m env elt x scope cl { s with heap := g } (fun _ => True) (fun _ v => ∃ c u, v = .str ⟨#[c]⟩ u) (LCg.FinE h₀ L m { s with heap := g } Q) 2 0 [] news) :
    StrSrc prog w A h₀ L m env elt x scope cl Q (.str (Str.ofString "\n.") t) s := by
  refine ⟨_, _, _, rfl, hh, F, N, by decide +kernel, by rw [sizeLine_eq]; decide +kernel, ?_⟩
  rintro s₂ ⟨g, rfl⟩
  rw [show (Str.ofString "\n.").cps.size = 2 by decide +kernel]
  have weak : ∀ (n i : Nat) (ys : List Value) (nw : List (Addr × Obj)), LCg.CompRest prog w A h₀ L m env elt x scope cl { s with heap := g } (fun _ => True) (fun _ v => ∃ c u, v = .str ⟨#[c]⟩ u) (LCg.FinE h₀ L m { s with heap := g } Q) n i ys nw →
      LCg.CompRest prog w A h₀ L m env elt x scope cl { s with heap := g } (fun _ => True) (SignAt (Str.ofString "\n.")) (LCg.FinE h₀ L m { s with heap := g } Q) n i ys nw := by
    intro n
    induction n with
    | zero => exact fun _ _ _ h => h
    | succ n ih =>
      intro i ys nw h
      refine LCg.CompRest.succ ?_
      rintro v I oI C oC D m₂ hp tk E' ⟨c, u, _, rfl⟩ hC hx F N off ne
      refine wpAny_mono (h _ I oI C oC D m₂ hp tk E' ⟨c, u, rfl⟩ hC hx F N off ne) (fun z s₃ q => ?_) fun _ _ e => e
      obtain ⟨h', tk', nw', e, F', N', off', hS, r⟩ := q
      exact ⟨h', tk', nw', e, F', N', off', hS, ih _ _ _ r⟩
  exact weak 2 0 [] news (h g)
end
theorem comp_end2 {h₀ h' : Heap} {L I C D T : Addr} {m : Str → Option Value} {s₁ : Shared} {oI oC oD o : Obj} {rest : Value → List (Addr × Obj) → Prop} {y : Value} {tk : Nat} {news : List (Addr × Obj)}
    (F : Fr h₀ L h' m) (N : News h₀ L h' ((T, o) :: (I, oI) :: (C, oC) :: (D, oD) :: news)) (ne : @Ne Nat T I ∧ @Ne Nat T C ∧ @Ne Nat T D) (off : LCg.Off3 I C D news) (r : rest y ((T, o) :: news)) :
    LCg.CompEnd h₀ L m s₁ I oI C oC D oD (fun _ => True) rest y { s₁ with heap := h', toks := tk } :=
  LCg.CompEnd.intro F N ((T, o) :: news) (fun p hp => by
    rcases List.mem_cons.mp hp with rfl | hp
    · exact .tail _ (.head _)
    · rcases List.mem_cons.mp hp with rfl | hp
      · exact .tail _ (.tail _ (.head _))
      · rcases List.mem_cons.mp hp with rfl | hp
        · exact .tail _ (.tail _ (.tail _ (.head _)))
        · rcases List.mem_cons.mp hp with rfl | hp
          · exact .head _
          · exact .tail _ (.tail _ (.tail _ (.tail _ hp)))) ⟨ne, off⟩ trivial r
abbrev tupO (x : Str) (t : Tok) (y : Str) (u : Tok) : Obj := { cls := .type "tuple", data := .seq #[.str x t, .str y u] }
/-- the law's pairs, made ahead of the loop -/
def Pairs (tups : List (Addr × Obj)) (vs : List Value) : Prop := ∀ v ∈ vs, ∃ a x t y u, v = Value.ref a ∧ (a, tupO x t y u) ∈ tups ∧ x.length ≤ 60 ∧ y.length ≤ 60
theorem pairs5 {a1 a2 a3 a4 a5 : Addr} {x1 x2 x3 x4 x5 y1 y2 y3 y4 y5 : Str} {t1 t2 t3 t4 t5 u1 u2 u3 u4 u5 : Tok}
    (h1 : x1.length ≤ 60 ∧ y1.length ≤ 60) (h2 : x2.length ≤ 60 ∧ y2.length ≤ 60) (h3 : x3.length ≤ 60 ∧ y3.length ≤ 60) (h4 : x4.length ≤ 60 ∧ y4.length ≤ 60) (h5 : x5.length ≤ 60 ∧ y5.length ≤ 60) :
    Pairs [(a5, tupO x5 t5 y5 u5), (a4, tupO x4 t4 y4 u4), (a3, tupO x3 t3 y3 u3), (a2, tupO x2 t2 y2 u2), (a1, tupO x1 t1 y1 u1)] ([Value.ref a1, Value.ref a2, Value.ref a3] ++ [Value.ref a4, Value.ref a5]) := by
  intro v hv
  simp only [List.cons_append, List.nil_append, List.mem_cons, List.not_mem_nil, or_false] at hv
  rcases hv with rfl | rfl | rfl | rfl | rfl
  · exact ⟨_, _, _, _, _, rfl, .tail _ (.tail _ (.tail _ (.tail _ (.head _)))), h1⟩
  · exact ⟨_, _, _, _, _, rfl, .tail _ (.tail _ (.tail _ (.head _))), h2⟩
  · exact ⟨_, _, _, _, _, rfl, .tail _ (.tail _ (.head _)), h3⟩
  · exact ⟨_, _, _, _, _, rfl, .tail _ (.head _), h4⟩
  · exact ⟨_, _, _, _, _, rfl, .head _, h5⟩
section
variable {prog : Program} {w : World} {A : Around} {E : Value → Shared → Prop} {Q : Flow → Shared → Prop} {s : Shared} {env : Env} {h₀ : Heap}
theorem loop_pairs {target : Expr} {body : List Stmt} {l c : Addr} {o : Obj} {vs : List Value} {k : Nat} {m₀ : Str → Option Value} {all tups nw₀ : List (Addr × Obj)} {x : Str} {t : Tok} {dat : Option Value} (hcl : o.data = .cell dat) (hT : Pairs tups vs)
    (hh : A.handled = none) (F : Fr h₀ env.locals s.heap m₀) (N : News h₀ env.locals s.heap all) (hm : (l, listOf vs.toArray k) ∈ all) (hks : ∀ p ∈ tups ++ (c, o) :: nw₀, p ∈ all) (hne : ∀ p ∈ tups ++ (c, o) :: nw₀, p.1 ≠ l) (hl₀ : LamSt nw₀) (hap : Apart (tups ++ [(c, o)]) nw₀)
    (hx : m₀ (Str.ofString "text") = some (.str x t)) (hgo : ∃ elts x1 pos, target = .Tuple elts x1 pos)
    (turn : ∀ a z u y v f nw own (s₁ : Shared), z.length ≤ 60 → y.length ≤ 60 → o.data = .cell dat → Fr h₀ env.locals s₁.heap (kstB f [(Str.ofString "text", .str x t)]) → News h₀ env.locals s₁.heap ((a, tupO z u y v) :: (c, o) :: (own ++ nw)) → LamSt nw → Apart ((a, tupO z u y v) :: (c, o) :: own) nw →
      wpAny (model prog w) A (assign target env (.ref a)) (fun _ s₃ => wpAny (model prog w) A (execs body env) (TurnEnd h₀ env.locals [(a, tupO z u y v), (c, o)] own x t s₁) E s₃) E s₁)
    (done : ∀ f nw h tk, LamSt nw → Apart [(c, o)] nw → o.data = .cell dat → Fr h₀ env.locals h (kstB f [(Str.ofString "text", .str x t)]) → News h₀ env.locals h ((c, o) :: nw) → Q .next { s with heap := h, toks := tk }) :
    wpAny (model prog w) A (pyIter (.ref l)) (fun it s₂ => LoopAtT prog w A h₀ env target body Q E it s₂) E s := by
  refine loop_ks (ks := tups ++ [(c, o)]) (nw₀ := nw₀) (fun v => ∃ a z u y w, v = Value.ref a ∧ (a, tupO z u y w) ∈ tups ∧ z.length ≤ 60 ∧ y.length ≤ 60) hT hh F N hm (fun p hp => hks p ?_) (fun p hp => hks p ?_) (fun p hp => hne p ?_) hl₀ hap hx (.inr hgo) ?_ ?_
  · rcases List.mem_append.mp hp with hp | hp
    · exact List.mem_append_left _ hp
    · rw [List.mem_singleton.mp hp]; exact List.mem_append_right _ (.head _)
  · exact List.mem_append_right _ (.tail _ hp)
  · rw [List.append_assoc] at hp; exact hp
  · rintro v f nw own s₁ ⟨a, z, u, y, q, rfl, hmem, hz, hy⟩ F₁ N₁ hl ha
    refine wpAny_mono (turn a z u y q f nw (tups ++ own) s₁ hz hy hcl F₁ (fun p hp => N₁ p ?_) hl (fun p hp r hr => ha p ?_ r hr)) (fun _ s₃ h₃ => wpAny_mono h₃ (fun fl s₄ h₄ => ?_) fun _ _ e => e) fun _ _ e => e
    · rcases List.mem_cons.mp hp with rfl | hp
      · exact List.mem_append_left _ (List.mem_append_left _ hmem)
      rcases List.mem_cons.mp hp with rfl | hp
      · exact List.mem_append_left _ (List.mem_append_right _ (.head _))
      rcases List.mem_append.mp hp with hp | hp
      · rcases List.mem_append.mp hp with hp | hp
        · exact List.mem_append_left _ (List.mem_append_left _ hp)
        · exact List.mem_append_right _ (List.mem_append_left _ hp)
      · exact List.mem_append_right _ (List.mem_append_right _ hp)
    · rcases List.mem_cons.mp hp with rfl | hp
      · exact List.mem_append_left _ (List.mem_append_left _ hmem)
      rcases List.mem_cons.mp hp with rfl | hp
      · exact List.mem_append_left _ (List.mem_append_right _ (.head _))
      rcases List.mem_append.mp hp with hp | hp
      · exact List.mem_append_left _ (List.mem_append_left _ hp)
      · exact List.mem_append_right _ hp
    · cases fl with
      | next =>
        obtain ⟨h', tk, m₂, nw', rfl, F₂, N₂, hl₂, ha₂, hx₂⟩ := h₄.out
        refine ⟨⟨h', tk, m₂, nw', rfl, F₂, fun p hp => N₂ p ?_, hl₂, fun p hp r hr => ha₂ p ?_ r hr, hx₂⟩⟩
        · show p ∈ (a, tupO z u y q) :: (c, o) :: ((tups ++ own) ++ nw')
          rcases List.mem_append.mp hp with hp | hp
          · rcases List.mem_append.mp hp with hp | hp
            · exact .tail _ (.tail _ (List.mem_append_left _ (List.mem_append_left _ hp)))
            · rw [List.mem_singleton.mp hp]; exact .tail _ (.head _)
          · rcases List.mem_append.mp hp with hp | hp
            · exact .tail _ (.tail _ (List.mem_append_left _ (List.mem_append_right _ hp)))
            · exact .tail _ (.tail _ (List.mem_append_right _ hp))
        · show p ∈ (a, tupO z u y q) :: (c, o) :: (tups ++ own)
          rcases List.mem_append.mp hp with hp | hp
          · rcases List.mem_append.mp hp with hp | hp
            · exact .tail _ (.tail _ (List.mem_append_left _ hp))
            · rw [List.mem_singleton.mp hp]; exact .tail _ (.head _)
          · exact .tail _ (.tail _ (List.mem_append_right _ hp))
      | _ => exact absurd h₄ id
  · intro f nw h tk hl ha F₁ N₁
    refine done f nw h tk hl (fun p hp => ha p (List.mem_append_right _ hp)) hcl F₁ fun p hp => N₁ p ?_
    rcases List.mem_cons.mp hp with rfl | hp
    · exact List.mem_append_left _ (List.mem_append_right _ (.head _))
    · exact List.mem_append_right _ hp
theorem turn_pair {h' : Heap} {L c : Addr} {o : Obj} {own nw' all : List (Addr × Obj)} {x : Str} {t : Tok} {tk : Nat} {m₂ : Str → Option Value} {p : Addr × Obj} (F : Fr h₀ L h' m₂) (hl : LamSt nw') (ha : Apart (p :: (c, o) :: own) nw') (N : News h₀ L h' all) (hs : ∀ q ∈ p :: (c, o) :: (own ++ nw'), q ∈ all) (hm : m₂ (Str.ofString "text") = some (.str x t)) :
    TurnEnd h₀ L [p, (c, o)] own x t s .next { s with heap := h', toks := tk } := turn_end F hl ha N hs hm
theorem ne_same {p : Bool} {Q : Value → Shared → Prop} (h : Q (.bool false) s) : wpAny (model prog w) A (compareOp .NotEq (.bool p) (.bool p)) Q E s :=
  SeqAt.RcNeAt.bool_bool p p prog w E Q (by simpa using h)
end
theorem pairs_in {p1 p2 p3 p4 p5 c : Addr × Obj} {all nw : List (Addr × Obj)} (h1 : p1 ∈ all) (h2 : p2 ∈ all) (h3 : p3 ∈ all) (h4 : p4 ∈ all) (h5 : p5 ∈ all) (hc : c ∈ all) (hn : ∀ p ∈ nw, p ∈ all) : ∀ p ∈ [p1, p2, p3, p4, p5] ++ c :: nw, p ∈ all := by
  intro p hp
  simp only [List.cons_append, List.nil_append, List.mem_cons] at hp
  rcases hp with rfl | rfl | rfl | rfl | rfl | rfl | hp
  · exact h1
  · exact h2
  · exact h3
  · exact h4
  · exact h5
  · exact hc
  · exact hn p hp
end PartLR
section PartLS
section
local macro_rules | `(tactic| walk_at "calm one") => `(tactic| skip)
theorem calm_LS : False → False := by
  w_top off
  intro h
  walk1
local macro_rules | `(tactic| walk_at "calm two") => `(tactic| skip)
theorem calm2_LS : False → False := by
  w_top off
  intro h
  walk1
end
/-- each text and what a function makes of it -/
inductive Mapped (f : Str → Str) : List Value → List Value → Prop
  | nil : Mapped f [] []
  | cons {z : Str} {t u : Tok} {vs ys : List Value} : Mapped f vs ys → Mapped f (.str z t :: vs) (.str (f z) u :: ys)
theorem Mapped.snoc {f : Str → Str} {vs ys : List Value} {z : Str} {t u : Tok} (h : Mapped f vs ys) : Mapped f (vs ++ [.str z t]) (ys ++ [.str (f z) u]) := by
  induction h with
  | nil => exact .cons .nil
  | cons _ ih => exact .cons ih
theorem Mapped.length {f : Str → Str} {vs ys : List Value} (h : Mapped f vs ys) : ys.length = vs.length := by
  induction h with
  | nil => rfl
  | cons _ ih => simp [ih]
theorem Mapped.same {f : Str → Str} : ∀ {vs ys us : List Value}, Mapped f vs ys → Mapped f vs us → ∀ j (h1 : j < ys.length) (h2 : j < us.length), ∃ a t u, ys[j] = .str a t ∧ us[j] = .str a u
  | _, _, _, .nil, _, _, h1, _ => absurd h1 (Nat.not_lt_zero _)
  | _, _, _, .cons h, .cons h', 0, _, _ => ⟨_, _, _, rfl, rfl⟩
  | _, _, _, .cons h, .cons h', j + 1, h1, h2 => h.same h' j (by simpa using h1) (by simpa using h2)
theorem off3_apart {I C D : Addr} {oI oC oD : Obj} {pre nw : List (Addr × Obj)} (h : LCg.Off3 I C D (pre ++ nw)) (ha : Apart pre nw) : Apart ((I, oI) :: (C, oC) :: (D, oD) :: pre) nw := by
  intro p hp r hr
  have q := h.mem r (List.mem_append_right _ hr)
  rcases List.mem_cons.mp hp with rfl | hp
  · exact fun e => q.1 e.symm
  rcases List.mem_cons.mp hp with rfl | hp
  · exact fun e => q.2.1 e.symm
  rcases List.mem_cons.mp hp with rfl | hp
  · exact fun e => q.2.2 e.symm
  · exact ha p hp r hr
theorem apart_off3 {I C D : Addr} {oI oC oD : Obj} {pre nw nw' : List (Addr × Obj)} (h : LCg.Off3 I C D (pre ++ nw)) (ha : Apart ((I, oI) :: (C, oC) :: (D, oD) :: pre) nw') : LCg.Off3 I C D (pre ++ nw') :=
  LCg.Off3.of fun p hp => by
    rcases List.mem_append.mp hp with hp | hp
    · exact h.mem p (List.mem_append_left _ hp)
    · exact ⟨fun e => ha (I, oI) (.head _) p hp e.symm, fun e => ha (C, oC) (.tail _ (.head _)) p hp e.symm, fun e => ha (D, oD) (.tail _ (.tail _ (.head _))) p hp e.symm⟩
section
variable {prog : Program} {w : World} {A : Around} {E : Value → Shared → Prop} {s : Shared} {h₀ : Heap} {L : Addr} {m : Str → Option Value} {env : Env}
theorem map_rest {elt : Expr} {x : Str} {scope : Scope} {cl : List (Str × Addr)} {S : List (Addr × Obj) → Prop} {Fin : List Value → List (Addr × Obj) → Prop} {vs : List Value} {pre nw : List (Addr × Obj)} (f : Str → Str) (hS : ∀ nw, S (pre ++ nw)) (hl : LamSt nw) (ha : Apart pre nw) (hT : ∀ v ∈ vs, ∃ z t, v = Value.str z t ∧ z.length ≤ 60)
    (turn : ∀ z t I oI C oC D m₂ ys h tk nw (E' : Value → Shared → Prop), z.length ≤ 60 → LCg.NsObj oC m₂ → m₂ x = some (.str z t) → Fr h₀ L h m → News h₀ L h ((I, oI) :: (C, oC) :: (D, LCg.lst ys) :: (pre ++ nw)) → LamSt nw → Apart ((I, oI) :: (C, oC) :: (D, LCg.lst ys) :: pre) nw →
      wpAny (model prog w) A (eval elt (compEnvC scope cl C env)) (fun y s' => Blk (∃ h' tk' t' nw', s' = { s with heap := h', toks := tk' } ∧ Fr h₀ L h' m ∧ News h₀ L h' ((I, oI) :: (C, oC) :: (D, LCg.lst ys) :: (pre ++ nw')) ∧ LamSt nw' ∧ Apart ((I, oI) :: (C, oC) :: (D, LCg.lst ys) :: pre) nw' ∧ y = .str (f z) t')) E' { s with heap := h, toks := tk })
    (fin : ∀ ys nw, Mapped f vs ys → LamSt nw → Apart pre nw → Fin ys (pre ++ nw)) : LCg.CompRest prog w A h₀ L m env elt x scope cl s S (fun i v => vs.toArray[i]? = some v) Fin vs.length 0 [] (pre ++ nw) := by
  have key : ∀ (j i : Nat) (ys : List Value) (nw : List (Addr × Obj)), i + j = vs.length → Mapped f (vs.take i) ys → LamSt nw → Apart pre nw → LCg.CompRest prog w A h₀ L m env elt x scope cl s S (fun i v => vs.toArray[i]? = some v) Fin j i ys (pre ++ nw) := by
    intro j
    induction j with
    | zero =>
      intro i ys nw hi hy hl ha
      rw [List.take_of_length_le (by omega)] at hy
      exact LCg.CompRest.zero (fin ys nw hy hl ha)
    | succ j ih =>
      intro i ys nw hi hy hl ha
      refine LCg.CompRest.succ ?_
      intro v I oI C oC D m₂ h tk E' hv hC hx F N off ne
      have hv' : vs[i]? = some v := by simpa using hv
      obtain ⟨z, t, rfl, hz⟩ := hT v (List.mem_of_getElem? hv')
      refine wpAny_mono (turn z t I oI C oC D m₂ ys h tk nw E' hz hC hx F N hl (off3_apart off ha)) (fun y s₂ hq => ?_) fun _ _ e => e
      obtain ⟨h', tk', t', nw', rfl, F', N', hl', ha', rfl⟩ := hq.out
      refine ⟨h', tk', pre ++ nw', rfl, F', N', apart_off3 off ha', hS nw', ih (i + 1) _ nw' (by omega) ?_ hl' fun p hp => ha' p (.tail _ (.tail _ (.tail _ hp)))⟩
      rw [List.take_add_one, hv']
      exact hy.snoc
  exact key vs.length 0 [] nw (by omega) (by simp only [List.take_zero]; exact .nil) hl ha
theorem map_comp {elt : Expr} {x : Str} {scope : Scope} {cl : List (Str × Addr)} {Q : Value → Shared → Prop} {a : Addr} {vs : List Value} {k : Nat} {all pre nw : List (Addr × Obj)} (f : Str → Str)
    (hh : A.handled = none) (F : Fr h₀ L s.heap m) (N : News h₀ L s.heap all) (hs : LamSplit all pre nw) (hm : (a, listOf vs.toArray k) ∈ pre) (ha : Apart pre nw) (hT : ∀ v ∈ vs, ∃ z t, v = Value.str z t ∧ z.length ≤ 60) (hn : vs.length ≤ 1000)
    (turn : ∀ z t I oI C oC D m₂ ys h tk nw (E' : Value → Shared → Prop), z.length ≤ 60 → LCg.NsObj oC m₂ → m₂ x = some (.str z t) → Fr h₀ L h m → News h₀ L h ((I, oI) :: (C, oC) :: (D, LCg.lst ys) :: (pre ++ nw)) → LamSt nw → Apart ((I, oI) :: (C, oC) :: (D, LCg.lst ys) :: pre) nw →
      wpAny (model prog w) A (eval elt (compEnvC scope cl C env)) (fun y s' => Blk (∃ h' tk' t' nw', s' = { s with heap := h', toks := tk' } ∧ Fr h₀ L h' m ∧ News h₀ L h' ((I, oI) :: (C, oC) :: (D, LCg.lst ys) :: (pre ++ nw')) ∧ LamSt nw' ∧ Apart ((I, oI) :: (C, oC) :: (D, LCg.lst ys) :: pre) nw' ∧ y = .str (f z) t')) E' { s with heap := h, toks := tk })
    (fin : ∀ ys D h tk nw', Mapped f vs ys → Fr h₀ L h m → News h₀ L h ((D, LCg.lst ys) :: (pre ++ nw')) → LamSt nw' → Apart ((D, LCg.lst ys) :: pre) nw' → Q (.ref D) { s with heap := h, toks := tk }) :
    LCg.CompSrc prog w A h₀ L m env elt x scope cl (fun s₂ => LCg.FinE h₀ L m s₂ Q) (.ref a) s := by
  obtain ⟨rfl, hl⟩ := hs.eq
  refine LCg.CompSrc.ledger (its := vs.toArray) hh F N (List.mem_append_left _ hm) (by rw [sizeLine_eq, List.size_toArray]; omega) fun g => ?_
  rw [List.size_toArray]
  refine map_rest f (fun nw => .inr ⟨_, List.mem_append_left _ hm, rfl, k, rfl⟩) hl ha hT turn ?_
  intro ys nw' hy hl' ha' D h tk F' N' off
  refine fin ys D h tk nw' hy F' N' hl' fun p hp r hr => ?_
  rcases List.mem_cons.mp hp with rfl | hp
  · exact fun e => off1_mem off r (List.mem_append_right _ hr) e.symm
  · exact ha' p hp r hr
theorem eq_mapped {news : List (Addr × Obj)} {l b : Addr} {f : Str → Str} {vs ys us : List Value} {k k' : Nat} {Q : Value → Shared → Prop} (N : News h₀ L s.heap news) (hl : (l, listOf ys.toArray k) ∈ news) (hb : (b, listOf us.toArray k') ∈ news) (h1 : Mapped f vs ys) (h2 : Mapped f vs us) (hu : A.units < cLine) (h : Q (.bool true) s) :
    wpAny (model prog w) A (compareOp .Eq (.ref l) (.ref b)) Q E s := by
  have hl' : s.heap.IsList l ys.toArray := ⟨_, N.get hl, rfl, k, rfl⟩
  have hb' : s.heap.IsList b us.toArray := ⟨_, N.get hb, rfl, k', rfl⟩
  refine SeqAt.eq_listAt (e := fun _ => true) hl' hb' (by rw [List.size_toArray, List.size_toArray, h1.length, h2.length]) hu (fun j g1 g2 => ?_) ?_
  · have g1' : j < ys.length := by simpa using g1
    have g2' : j < us.length := by simpa using g2
    obtain ⟨a, t, u, e1, e2⟩ := h1.same h2 j g1' g2'
    have e1' : ys.toArray[j] = .str a t := by simpa using e1
    have e2' : us.toArray[j] = .str a u := by simpa using e2
    rw [e1', e2']
    have := SeqAt.EqAt.str_str (A := A.in1) (s := s) a t a u
    simpa using this
  · have : (List.range ys.toArray.size).all (fun _ => true) = true := by simp
    rw [this]; exact h
theorem texts8 {a1 a2 a3 a4 a5 a6 a7 a8 : Str} {t1 t2 t3 t4 t5 t6 t7 t8 : Tok} (h1 : a1.length ≤ 60) (h2 : a2.length ≤ 60) (h3 : a3.length ≤ 60) (h4 : a4.length ≤ 60) (h5 : a5.length ≤ 60) (h6 : a6.length ≤ 60) (h7 : a7.length ≤ 60) (h8 : a8.length ≤ 60) :
    ∀ v ∈ [Value.str a1 t1, .str a2 t2, .str a3 t3, .str a4 t4, .str a5 t5, .str a6 t6, .str a7 t7, .str a8 t8], ∃ z t, v = Value.str z t ∧ z.length ≤ 60 := by
  intro v hv
  simp only [List.mem_cons, List.not_mem_nil, or_false] at hv
  rcases hv with rfl | rfl | rfl | rfl | rfl | rfl | rfl | rfl
  · exact ⟨_, _, rfl, h1⟩
  · exact ⟨_, _, rfl, h2⟩
  · exact ⟨_, _, rfl, h3⟩
  · exact ⟨_, _, rfl, h4⟩
  · exact ⟨_, _, rfl, h5⟩
  · exact ⟨_, _, rfl, h6⟩
  · exact ⟨_, _, rfl, h7⟩
  · exact ⟨_, _, rfl, h8⟩
end
theorem grown_lam {h₀ h : Heap} {L : Addr} {all pre nw : List (Addr × Obj)} (N : News h₀ L h all) (hs : LamSplit all pre nw) : GrownAll [(87, 83)] h := by
  obtain ⟨rfl, hl⟩ := hs.eq
  refine ⟨?_, trivial⟩
  rcases hl with rfl | ⟨c', oc, rfl, _⟩
  · exact GrownAt.of N (List.mem_append_right _ (.head _))
  · exact GrownAt.of N (List.mem_append_right _ (.head _))
end PartLS
section PartLW
section
local macro_rules | `(tactic| walk_at "calm one") => `(tactic| skip)
theorem calm_LW : False → False := by
  w_top off
  intro h
  walk1
local macro_rules | `(tactic| walk_at "calm two") => `(tactic| skip)
theorem calm2_LW : False → False := by
  w_top off
  intro h
  walk1
end

local macro_rules | `(tactic| walk_at "call ref") => `(tactic| (k_here; (with_reducible show wpAny _ _ (call (Value.ref _) _) _ _ _); refine blk_out ?_))
local macro_rules | `(tactic| walk_at "call ref") => `(tactic| (k_here; (with_reducible show wpAny _ _ (call (Value.ref 95) _) _ _ _); (rename (_ < _ ∧ 83 < _) => hlt'); k_dflt (refine' text_call ?k1 ?k2 ?k3 ?k4 ?k5 ?k6 ?k7 ?k8 ?k9 ?ka ?kb ?_; (case k1 => k_asm); (case k2 => k_asm); (case k3 => k_asm); (case k4 => k_asm); (case k5 => exact ne_of_two hlt'); (case k6 => assumption); (case k7 => omega); (case k8 => k_asm); (case k9 => exact rfl); (case ka => ktr_room); (case kb => ktr_units); k_whole); intro x9 t9 h9 tk9 hx9 F9 N9; (try dsimp only); (try k_fold)))
local macro_rules | `(tactic| walk_at "binaryOp Add str str") => `(tactic| (k_here; k_dflt (refine' add_gen ?k0 ?k1 ?_; (case k0 => first | omega | decide +kernel); (case k1 => first | omega | decide +kernel); k_whole); intro x' t' k' hx'))
local macro_rules | `(tactic| walk_at "binaryOp Add str str") => `(tactic| (k_here; (rename (∀ a, a ∈ List.map _ _ → Str.length a ≤ _) => hAll'); (rename (getElem? (List.map _ _) _ = some _) => hIt'); (have hq' := hAll' _ (List.mem_of_getElem? hIt')); clear hIt'; k_dflt (refine' add_gen ?k0 ?k1 ?_; (case k0 => first | omega | decide +kernel); (case k1 => first | omega | decide +kernel); k_whole); intro x' t' k' hx'))
local macro_rules | `(tactic| walk_at "subscriptTail") => `(tactic| (k_here; (try k_fmods); k_dflt (refine' item_ends ?k0 ?k1 ?k2 ?k3 ?_; (case k0 => k_asm); (case k1 => k_mem); (case k2 => omega); (case k3 => omega); k_whole); intro x' t' hx'))
local macro_rules | `(tactic| walk_at "CompSrc") => `(tactic| (k_here; k_dflt (refine' texts_range 30 ?k0 ?k1 ?k2 ?k3 ?k4 ?_ ?_; (case k0 => rfl); (case k1 => k_asm); (case k2 => k_asm); (case k3 => assumption); (case k4 => omega)); k_whole; (focus intro k' t' I' oI' C' oC' D' m' ys' h' tk' E' hk0' hk1' hC' hx' F' N' off' ne'; (try simp only [LCg.Off3, and_true] at off'))))
local macro_rules | `(tactic| walk_at "my split") => `(tactic| ((repeat apply LamSplit.cons); first | exact LamSplit.base (by assumption) | exact LamSplit.tail (by assumption)))
local macro_rules | `(tactic| walk_at "my lt") => `(tactic| first | exact (by assumption : _ ∧ AllLt _ _).2 | exact (by assumption : _ ∧ _ ∧ AllLt _ _).2.2 | exact (by assumption : _ ∧ _ ∧ _ ∧ AllLt _ _).2.2.2 | exact (by assumption : _ ∧ _ ∧ _ ∧ _ ∧ AllLt _ _).2.2.2.2 | exact (by assumption : _ ∧ _ ∧ _ ∧ _ ∧ _ ∧ AllLt _ _).2.2.2.2.2 | exact (by assumption : _ ∧ _ ∧ _ ∧ _ ∧ _ ∧ _ ∧ AllLt _ _).2.2.2.2.2.2 | exact (by assumption : _ ∧ _ ∧ _ ∧ _ ∧ _ ∧ _ ∧ _ ∧ AllLt _ _).2.2.2.2.2.2.2 | exact (by assumption : _ ∧ _ ∧ _ ∧ _ ∧ _ ∧ _ ∧ _ ∧ _ ∧ AllLt _ _).2.2.2.2.2.2.2.2 | exact (by assumption : _ ∧ _ ∧ _ ∧ _ ∧ _ ∧ _ ∧ _ ∧ _ ∧ _ ∧ AllLt _ _).2.2.2.2.2.2.2.2.2 | exact (by assumption : _ ∧ _ ∧ _ ∧ _ ∧ _ ∧ _ ∧ _ ∧ _ ∧ _ ∧ _ ∧ AllLt _ _).2.2.2.2.2.2.2.2.2.2)
local macro_rules | `(tactic| walk_at "my apart") => `(tactic| first | assumption | exact apart_nil | (refine apart_lt2 (by walk_at "my lt") ?_; walk_at "my apart") | (refine apart_lt (by walk_at "my lt") ?_; walk_at "my apart"))
local macro_rules | `(tactic| walk_at "call ref") => `(tactic| (k_here; (with_reducible show wpAny _ _ (call (Value.ref 124) _) _ _ _); k_dflt (refine' ctrL_callS (c_told' trAll _ _ _ _) ?k1 ?k2 ?k3 ?k4 ?k5 ?k6 ?k7 ?k8 ?k9 ?ka ?kb ?kc ?_; (case k1 => k_asm); (case k2 => k_asm); (case k3 => k_asm); (case k4 => k_asm); (case k5 => walk_at "my split"); (case k6 => walk_at "my apart"); (case k7 => assumption); (case k8 => k_asm); (case k9 => exact rfl); (case ka => first | omega | exact ⟨by omega, by omega⟩); (case kb => ktr_room); (case kc => ktr_units); k_whole); intro t9 h9 tk9 nw9 F9 N9 hl9 ha9; (try dsimp only [List.cons_append, List.nil_append] at N9); (try dsimp only); (try k_fold)))
local macro_rules | `(tactic| walk_at "call ref") => `(tactic| (k_here; (with_reducible show wpAny _ _ (call (Value.ref 119) _) _ _ _); k_dflt (refine' ctrL_callS (c_named' trAll _ _) ?k1 ?k2 ?k3 ?k4 ?k5 ?k6 ?k7 ?k8 ?k9 ?ka ?kb ?kc ?_; (case k1 => k_asm); (case k2 => k_asm); (case k3 => k_asm); (case k4 => k_asm); (case k5 => walk_at "my split"); (case k6 => walk_at "my apart"); (case k7 => assumption); (case k8 => k_asm); (case k9 => exact rfl); (case ka => first | omega | exact ⟨by omega, by omega⟩); (case kb => ktr_room); (case kc => ktr_units); k_whole); intro t9 h9 tk9 nw9 F9 N9 hl9 ha9; (try dsimp only [List.cons_append, List.nil_append] at N9); (try dsimp only); (try k_fold)))
local macro_rules | `(tactic| walk_at "call ref") => `(tactic| (k_here; (with_reducible show wpAny _ _ (call (Value.ref 57) _) _ _ _); k_here; k_dflt (refine' ctr_call (c_udm _ _ _ _) ?k1 ?k2 ?k3 ?k4 ?k5 ?kK ?kp ?kd ?ku ?_; (case k1 => k_asm); (case k2 => k_asm); (case k3 => k_asm); (case k4 => k_asm); (case k5 => k_asm); (case kK => first | exact rfl | assumption); (case kp => first | exact True.intro | omega | assumption | exact rfl); (case kd => ktr_room); (case ku => ktr_units); k_whole); intro t9 h9 tk9 F9 N9; (try dsimp only); (try k_fold)))
local macro_rules | `(tactic| walk_at "call ref") => `(tactic| (k_here; (with_reducible show wpAny _ _ (call (Value.ref 43) _) _ _ _); k_here; k_dflt (refine' ctr_call (c_isHDN _ _) ?k1 ?k2 ?k3 ?k4 ?k5 ?kK ?kp ?kd ?ku ?_; (case k1 => k_asm); (case k2 => k_asm); (case k3 => k_asm); (case k4 => k_asm); (case k5 => k_asm); (case kK => first | exact rfl | assumption); (case kp => first | exact True.intro | omega | assumption | exact rfl); (case kd => ktr_room); (case ku => ktr_units); k_whole); intro t9 h9 tk9 F9 N9; (try dsimp only); (try k_fold)))
local macro_rules | `(tactic| walk_at "compareOp NotEq bool bool") => `(tactic| (k_here; refine ne_same ?_))
local macro_rules | `(tactic| walk_at "compareOp NotEq ref ref") => `(tactic| (k_here; k_dflt (refine' ne_bools ?k1 ?k2 ?k3 ?k4 ?_; (case k1 => k_asm); (case k2 => k_mem); (case k3 => k_mem); (case k4 => ktr_units); k_whole)))
local macro_rules | `(tactic| walk_at "binaryOp Add ref ref") => `(tactic| (k_here; k_dflt (refine' add_two ?k1 ?k2 ?k3 ?k4 ?k5 ?_; (case k1 => k_asm); (case k2 => k_asm); (case k3 => k_mem); (case k4 => k_mem); (case k5 => (first | omega | (simp only [List.length_append, List.length_cons, List.length_nil]; omega))); k_whole); intro r' h' F' N' l1; (try k_lt l1)))
local macro_rules | `(tactic| walk_at "call ref") => `(tactic| (k_here; (with_reducible show wpAny _ _ (call (Value.ref 64) _) _ _ _); k_here; k_dflt (refine' ctr_call (c_reach _ _) ?k1 ?k2 ?k3 ?k4 ?k5 ?kK ?kp ?kd ?ku ?_; (case k1 => k_asm); (case k2 => k_asm); (case k3 => k_asm); (case k4 => k_asm); (case k5 => k_asm); (case kK => first | exact rfl | assumption); (case kp => first | exact True.intro | omega | assumption | exact rfl); (case kd => ktr_room); (case ku => ktr_units); k_whole); intro t9 h9 tk9 F9 N9; (try dsimp only); (try k_fold)))
local macro_rules | `(tactic| walk_at "call ref") => `(tactic| (k_here; (with_reducible show wpAny _ _ (call (Value.ref 131) _) _ _ _); k_dflt (refine' ctrL_callS (c_lreach' trAll _ _) ?k1 ?k2 ?k3 ?k4 ?k5 ?k6 ?k7 ?k8 ?k9 ?ka ?kb ?kc ?_; (case k1 => k_asm); (case k2 => k_asm); (case k3 => k_asm); (case k4 => k_asm); (case k5 => walk_at "my split"); (case k6 => walk_at "my apart"); (case k7 => assumption); (case k8 => k_asm); (case k9 => exact rfl); (case ka => first | omega | exact ⟨by omega, by omega⟩); (case kb => ktr_room); (case kc => ktr_units); k_whole); intro t9 h9 tk9 nw9 F9 N9 hl9 ha9; (try dsimp only [List.cons_append, List.nil_append] at N9); (try dsimp only); (try k_fold)))
local macro_rules | `(tactic| walk_at "CompSrc") => `(tactic| (k_here; k_dflt (refine' map_comp reachS ?k0 ?k1 ?k2 ?k3 ?k4 ?k5 ?k6 ?k7 ?_ ?_; (case k0 => rfl); (case k1 => k_asm); (case k2 => k_asm); (case k3 => walk_at "my split"); (case k4 => k_mem); (case k5 => walk_at "my apart"); (case k6 => exact texts8 (by first | omega | decide +kernel) (by first | omega | decide +kernel) (by first | omega | decide +kernel) (by first | omega | decide +kernel) (by first | omega | decide +kernel) (by first | omega | decide +kernel) (by first | omega | decide +kernel) (by first | omega | decide +kernel)); (case k7 => exact Nat.le_of_ble_eq_true rfl)); k_whole; (focus (intro z' t' I' oI' C' oC' D' m' ys' h' tk' nw' E' hz' hC' hx' F' N' hl' ha'; (try dsimp only [List.cons_append, List.nil_append] at N' ha'))); rotate_left; (focus (intro ys' D' h' tk' nw' hM' F' N' hl' ha'; (try dsimp only [List.cons_append, List.nil_append] at N' ha'))); rotate_left))
local macro_rules | `(tactic| walk_at "compareOp Eq ref ref") => `(tactic| (k_here; k_dflt (refine' eq_mapped ?k1 ?k2 ?k3 ?k4 ?k5 ?k6 ?_; (case k1 => k_asm); (case k2 => k_mem); (case k3 => k_mem); (case k4 => assumption); (case k5 => assumption); (case k6 => ktr_units); k_whole)))
local macro_rules | `(tactic| walk_at "GrownAll") => `(tactic| (k_dflt (refine' grown_lam ?k1 ?k2; (case k1 => k_asm); (case k2 => walk_at "my split"))))
local macro_rules | `(tactic| walk_at "eval ListComp") => `(tactic| (k_here; (with_reducible show wpAny _ _ (eval (Expr.ListComp _ [Comprehension.mk _ (Expr.Constant (Const.str _) _ _) _ _] _ _) _) _ _ _); k_dflt (refine ListComp_S (F₀ := by k_asm) (by rfl) (by decide) (by rfl) (by decide) (by rfl) ?_)))
local macro_rules | `(tactic| walk_at "StrSrc") => `(tactic| (k_dflt (refine StrSrc.two (by rfl) (by k_asm) (by k_asm) ?_); intro g'))
local macro_rules | `(tactic| walk_at "CompRest") => `(tactic| (first
  | (refine LCg.CompRest.succ ?_; intro v' I' oI' C' oC' D' m' h' tk' E' hv' hC' hx' F' N' off' ne'; obtain ⟨c', u', e'⟩ := hv'; subst e')
  | refine LCg.CompRest.zero ?_))
local macro_rules | `(tactic| walk_at "CompEnd") => `(tactic| ((try dsimp only); k_dflt (refine' comp_end2 ?F ?N ?ne ?off ?_; (case F => assumption); (case N => assumption); (case ne => exact ⟨by k_ne, by k_ne, by k_ne⟩); (case off => assumption))))
local macro_rules | `(tactic| walk_at "exec For") => `(tactic| (k_here; refine blk_out ?_))
local macro_rules | `(tactic| walk_at "pyIter ref") => `(tactic| (k_here; (with_reducible show wpAny _ _ _ (fun _ _ => LoopAtT _ _ _ _ _ _ _ _ _ _ _) _ _); refine blk_out ?_))
local macro_rules | `(tactic| wrow_close) => `(tactic| (w_end; (show GoodW _ _ _ _ _ (.ok (.ret (.bool true))) _); refine goodW_bool (by with_reducible assumption) (by with_reducible assumption) (raisesW_false ?zc) ?zd; (case zc => wrow_none_raised); (case zd => (refine postW_of (X := true) ?zq ?zr rfl; (case zq => kernel_rfl); (case zr => kernel_rfl))); walk_say "CLOSE mine"))
theorem top_loose {p : Program} {A B : List Str} {m : ExcName → Option Value} {g b : Str → Option Value} {h : Heap} (e : A = B) (T : Top p A m g b h) : Top p B m g b h := e ▸ T
set_option maxHeartbeats 4000000 in
theorem law_holds : PySem.Challenge.rw_rx0038_01.Holds := by
  w_on
  o_law
  refine holds_open (q := qTop) (loose := [Str.ofString "IPV4_RE", Str.ofString "_twin_re_1", Str.ofString "_special_chars_map"]) (Xt := (fun s => xlAt qTop [] s && recOk PySem.Challenge.rw_rx0038_01.row.records s)) (XP := XL qTop []) (Yf := Hook.obs (kmHook kTop (3 :: 35 :: 36 :: 37 :: 39 :: 40 :: 42 :: 43 :: 44 :: 46 :: 47 :: 49 :: 50 :: 51 :: 53 :: 54 :: 56 :: 57 :: 58 :: 60 :: 61 :: 63 :: 64 :: 68 :: 69 :: 71 :: 75 :: 77 :: 78 :: 80 :: 81 :: 82 :: 84 :: 85 :: 87 :: 88 :: 89 :: 91 :: 92 :: 94 :: 95 :: 96 :: 98 :: 99 :: 101 :: 102 :: 103 :: 106 :: 107 :: 108 :: 111 :: 112 :: 113 :: 115 :: 116 :: 118 :: 119 :: 120 :: 123 :: 124 :: 125 :: 127 :: 128 :: 130 :: 131 :: 132 :: 135 :: 136 :: []) kTop_adrs [83])) (Ya := Hook.val (kmHook kTop (3 :: 35 :: 36 :: 37 :: 39 :: 40 :: 42 :: 43 :: 44 :: 46 :: 47 :: 49 :: 50 :: 51 :: 53 :: 54 :: 56 :: 57 :: 58 :: 60 :: 61 :: 63 :: 64 :: 68 :: 69 :: 71 :: 75 :: 77 :: 78 :: 80 :: 81 :: 82 :: 84 :: 85 :: 87 :: 88 :: 89 :: 91 :: 92 :: 94 :: 95 :: 96 :: 98 :: 99 :: 101 :: 102 :: 103 :: 106 :: 107 :: 108 :: 111 :: 112 :: 113 :: 115 :: 116 :: 118 :: 119 :: 120 :: 123 :: 124 :: 125 :: 127 :: 128 :: 130 :: 131 :: 132 :: 135 :: 136 :: []) kTop_adrs [83])) (YP := Hook.says (kmHook kTop (3 :: 35 :: 36 :: 37 :: 39 :: 40 :: 42 :: 43 :: 44 :: 46 :: 47 :: 49 :: 50 :: 51 :: 53 :: 54 :: 56 :: 57 :: 58 :: 60 :: 61 :: 63 :: 64 :: 68 :: 69 :: 71 :: 75 :: 77 :: 78 :: 80 :: 81 :: 82 :: 84 :: 85 :: 87 :: 88 :: 89 :: 91 :: 92 :: 94 :: 95 :: 96 :: 98 :: 99 :: 101 :: 102 :: 103 :: 106 :: 107 :: 108 :: 111 :: 112 :: 113 :: 115 :: 116 :: 118 :: 119 :: 120 :: 123 :: 124 :: 125 :: 127 :: 128 :: 130 :: 131 :: 132 :: 135 :: 136 :: []) kTop_adrs [83])) (N := 3836) ?hl (Hook.of (kmHook kTop (3 :: 35 :: 36 :: 37 :: 39 :: 40 :: 42 :: 43 :: 44 :: 46 :: 47 :: 49 :: 50 :: 51 :: 53 :: 54 :: 56 :: 57 :: 58 :: 60 :: 61 :: 63 :: 64 :: 68 :: 69 :: 71 :: 75 :: 77 :: 78 :: 80 :: 81 :: 82 :: 84 :: 85 :: 87 :: 88 :: 89 :: 91 :: 92 :: 94 :: 95 :: 96 :: 98 :: 99 :: 101 :: 102 :: 103 :: 106 :: 107 :: 108 :: 111 :: 112 :: 113 :: 115 :: 116 :: 118 :: 119 :: 120 :: 123 :: 124 :: 125 :: 127 :: 128 :: 130 :: 131 :: 132 :: 135 :: 136 :: []) kTop_adrs [83])) (Hook.keeps (kmHook kTop (3 :: 35 :: 36 :: 37 :: 39 :: 40 :: 42 :: 43 :: 44 :: 46 :: 47 :: 49 :: 50 :: 51 :: 53 :: 54 :: 56 :: 57 :: 58 :: 60 :: 61 :: 63 :: 64 :: 68 :: 69 :: 71 :: 75 :: 77 :: 78 :: 80 :: 81 :: 82 :: 84 :: 85 :: 87 :: 88 :: 89 :: 91 :: 92 :: 94 :: 95 :: 96 :: 98 :: 99 :: 101 :: 102 :: 103 :: 106 :: 107 :: 108 :: 111 :: 112 :: 113 :: 115 :: 116 :: 118 :: 119 :: 120 :: 123 :: 124 :: 125 :: 127 :: 128 :: 130 :: 131 :: 132 :: 135 :: 136 :: []) kTop_adrs [83])) (fun s e => xl_of s (Bool.and_eq_true_iff.mp e).1) XL.keeps (by rfl) (by rfl) (by rfl) (fun s e => recFacts_of (Bool.and_eq_true_iff.mp e).2) (by rfl) (by first | assumption | decide +kernel) (by decide +kernel) ⟨rfl, rfl, rfl, rfl, rfl, by decide +kernel⟩ ?hw ?hc
  case hl => exact left_top
  case hw => w_witness2
  case hc =>
    w_top off
    k_go0
    with_reducible rename Top topProg _ _ _ _ _ => lT
    have lT2 : Top topProg LZ _ _ _ _ := top_loose (by decide +kernel) lT
    clear lT
    (try (with_reducible rename Ground _ _ _ _ _ _ _ _ _ => gZ; clear gZ))
    (try (with_reducible rename Flt.MathXP _ _ _ => gZ; clear gZ))
    (try (with_reducible rename LooseAre _ _ _ => gZ; clear gZ))
    (try (with_reducible rename Top qTop _ _ _ _ _ => gZ; clear gZ))
    (try (with_reducible rename Tables _ _ _ _ => gZ; clear gZ))
    (try (with_reducible rename TopE _ _ _ _ => gZ; clear gZ))
    (try (with_reducible rename TopW _ _ _ => gZ; clear gZ))
    (try (with_reducible rename OpenRow.wellSaid _ = true => gZ; clear gZ))
    (try (with_reducible rename Well _ _ _ _ => gZ; clear gZ))
    (try (with_reducible rename ReadsAllW _ _ _ _ _ _ => gZ; clear gZ))
    (try (with_reducible rename Heap.CodeRec _ _ _ => gZ; clear gZ))
    (try (with_reducible rename Reads _ _ _ _ => gZ; clear gZ))
    (try (with_reducible rename ReadsAll _ _ _ _ => gZ; clear gZ))
    (all_goals try k_fold)
    k_steps
    · refine ⟨⟨_, _, _, _, rfl, by assumption, by assumption, rfl, by omega⟩⟩
    · refine ⟨⟨_, _, _, _, rfl, by assumption, by assumption, rfl, by omega⟩⟩
    refine ⟨?_⟩
    (try dsimp only)
    rename Fr _ _ _ _ => lF
    refine For_invTF lF ?_ (by intro _; rfl)
    k_steps
    refine ⟨?_⟩
    (try clear lF)
    rename Fr _ _ _ _ => lF
    rename News _ _ _ _ => lN
    dsimp only at lF lN ⊢
    rename (Obj.data _ = Data.cell _) => hcl
    with_reducible rename CellsAre _ _ _ => gX
    clear gX
    with_reducible rename (Obj.data _ = Data.cell (bindC _ _ _ _)) => gR
    clear gR
    have hlen3 : (Str.ofString "7").length = 1 := by decide +kernel
    have hlen4 : (Str.ofString ".local").length = 6 := by decide +kernel
    have hlen5 : (Str.ofString ".Local").length = 6 := by decide +kernel
    have hlen6 : (Str.ofString ".blocal").length = 7 := by decide +kernel
    have hlen7 : (Str.ofString "local").length = 5 := by decide +kernel
    have hlen1 : (Str.ofString ".").length = 1 := by decide +kernel
    have hlen2 : (Str.ofString "b.").length = 2 := by decide +kernel
    with_unfolding_all refine' loop_rules hcl ?hG ?hh ?F ?N ?hm ?hcm ?h83 ?hn1 ?hn2 ?hn3 ?hx ?hgo ?turn ?done
    case hh => exact rfl
    case F => exact lF
    case N => exact lN
    case hm => exact .head _
    case hcm => k_mem
    case h83 => k_mem
    case hG => exact texts_all (by assumption) (by assumption) (by omega) (by omega)
    case hn1 => k_ne
    case hn2 => k_ne
    case hn3 => k_ne
    case hx => rfl
    case hgo => intro it v; rfl
    case turn =>
      clear hcl lN lF
      intro z u f nw own s₁ hz hcl F₁ N₁ hl₁ ha₁
      (try dsimp only)
      k_steps
      (try dsimp only)
      exact turn_rule (by assumption) (by assumption) (by assumption) (by assumption) (fun p hp => .tail _ (.tail _ hp)) rfl
    case done =>
      clear lN lF
      intro f1 nw1 h1 tk1 hl1 ha1 F1 N1
      (try dsimp only)
      k_steps
      refine ⟨?_⟩
      (try dsimp only)
      rename Fr _ _ _ _ => lF
      refine For_invTF lF ?_ (by intro _; rfl)
      k_steps
      refine ⟨?_⟩
      (try clear lF)
      rename Fr _ _ _ _ => lF
      rename News _ _ _ _ => lN
      dsimp only at lF lN ⊢
      rename (_ ∧ _ ∧ _ ∧ _ ∧ _ ∧ _ ∧ _ ∧ _ ∧ _ ∧ AllLt _ _) => hlr
      with_unfolding_all refine' loop_pairs (nw₀ := nw1) hcl (pairs5 ?q1 ?q2 ?q3 ?q4 ?q5) ?hh ?F ?N ?hm (pairs_in ?i1 ?i2 ?i3 ?i4 ?i5 ?i6 ?i7) ?hne ?hl0 ?hap ?hx ?hgo ?turn ?done
      case hh => exact rfl
      case F => exact lF
      case N => exact lN
      case hm => exact .head _
      case i1 => k_mem
      case i2 => k_mem
      case i3 => k_mem
      case i4 => k_mem
      case i5 => k_mem
      case i6 => k_mem
      case i7 => (intro p hp; (iterate 10 (refine List.Mem.tail _ ?_)); exact hp)
      case q1 => constructor <;> (first | omega | (simp only [PySem.Str.length_append, len_sign]; omega))
      case q2 => constructor <;> (first | omega | (simp only [PySem.Str.length_append, len_sign]; omega))
      case q3 => constructor <;> (first | omega | (simp only [PySem.Str.length_append, len_sign]; omega))
      case q4 => constructor <;> (first | omega | (simp only [PySem.Str.length_append, len_sign]; omega))
      case q5 => constructor <;> (first | omega | (simp only [PySem.Str.length_append, len_sign]; omega))
      case hne =>
        obtain ⟨g0, g1, g3, gl, g5, gh, g6, g7, gc, gn⟩ := hlr
        exact allLt_ne (show AllLt _ _ from ⟨g1, g3, g5, g6, g7, gc, gn⟩)
      case hl0 => assumption
      case hap => walk_at "my apart"
      case hx => rfl
      case hgo => exact ⟨_, _, _, rfl⟩
      case turn =>
        clear hcl lN lF
        intro a z u y v f nw own s₁ hz hy hcl F₁ N₁ hl₁ ha₁
        (try dsimp only)
        k_steps
        (try dsimp only)
        exact turn_pair (by assumption) (by assumption) (by assumption) (by assumption) (fun p hp => hp) rfl
      case done =>
        clear lN lF
        intro f2 nw2 h2 tk2 hl2 ha2 hcl F2 N2
        (try dsimp only)
        k_steps
        · exact ⟨⟨_, _, _, _, rfl, by assumption, by assumption, by assumption, by assumption, rfl⟩⟩
        · exact ⟨⟨_, _, _, _, rfl, by assumption, by assumption, by assumption, by assumption, rfl⟩⟩
end PartLW
end Mine
set_option maxRecDepth 100000 in
set_option maxHeartbeats 8000000 in
theorem PySem.Challenge.cw_rx0038_01_holds : PySem.Challenge.rw_rx0038_01.Holds := by
  exact Mine.law_holds
