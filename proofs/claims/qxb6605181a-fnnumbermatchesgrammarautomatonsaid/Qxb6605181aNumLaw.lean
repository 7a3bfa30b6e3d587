namespace NumLaw

def dig (c : UInt8) : Bool := 48 ≤ c && c ≤ 57

/-- the automaton's step: 9 is 'no move' -/
def step (st : Nat) (c : UInt8) : Option Nat :=
  match st with
  | 0 => if c = 45 then some 1 else if c = 48 then some 2 else if dig c then some 3 else none
  | 1 => if c = 48 then some 2 else if dig c then some 3 else none
  | 2 => if c = 46 then some 4 else if c = 101 ∨ c = 69 then some 6 else none
  | 3 => if dig c then some 3 else if c = 46 then some 4 else if c = 101 ∨ c = 69 then some 6 else none
  | 4 => if dig c then some 5 else none
  | 5 => if dig c then some 5 else if c = 101 ∨ c = 69 then some 6 else none
  | 6 => if c = 43 ∨ c = 45 then some 7 else if dig c then some 8 else none
  | 7 => if dig c then some 8 else none
  | 8 => if dig c then some 8 else none
  | _ => none

def acc (st : Nat) : Bool := st == 2 || st == 3 || st == 5 || st == 8

/-- how many bytes the automaton takes from state st, and where it ends -/
def run : Nat → List UInt8 → Nat × Nat
  | st, [] => (0, st)
  | st, c :: t => match step st c with
    | none => (0, st)
    | some st' => ((run st' t).1 + 1, (run st' t).2)

/-- the digits at the head -/
def nd : List UInt8 → Nat
  | [] => 0
  | c :: t => if dig c then nd t + 1 else 0

/-- what the exponent part takes; none: refused -/
def expLen (l : List UInt8) : Option Nat :=
  match l with
  | [] => some 0
  | c :: t => if c = 101 ∨ c = 69 then
      match t with
      | [] => none
      | d :: u => if d = 43 ∨ d = 45 then (if nd u = 0 then none else some (nd u + 2)) else (if nd t = 0 then none else some (nd t + 1))
    else some 0

def fracLen (l : List UInt8) : Option Nat :=
  match l with
  | [] => some 0
  | c :: t => if c = 46 then (if nd t = 0 then none else some (nd t + 1)) else some 0

def intLen (l : List UInt8) : Option Nat :=
  match l with
  | [] => none
  | c :: t => if c = 48 then some 1 else if dig c then some (nd t + 1) else none

def sgnLen (l : List UInt8) : Nat :=
  match l with
  | [] => 0
  | c :: _ => if c = 45 then 1 else 0

def numLen (l : List UInt8) : Option Nat :=
  let a := sgnLen l
  match intLen (l.drop a) with
  | none => none
  | some b => match fracLen (l.drop (a + b)) with
    | none => none
    | some c => match expLen (l.drop (a + b + c)) with
      | none => none
      | some d => some (a + b + c + d)

/-- the run's answer as an option -/
def ans (r : Nat × Nat) : Option Nat := if acc r.2 then some r.1 else none

theorem ans_succ (n st : Nat) : ans (n + 1, st) = (ans (n, st)).map (· + 1) := by
  unfold ans; split <;> simp_all

/-- a state that loops on digits takes the digits -/
theorem run_digits (st : Nat) (h : ∀ c, dig c = true → step st c = some st) : ∀ l, run st l = ((run st (l.drop (nd l))).1 + nd l, (run st (l.drop (nd l))).2)
  | [] => by simp [nd]
  | c :: t => by
    by_cases hc : dig c = true
    · simp only [nd, hc, if_true, List.drop_succ_cons]
      rw [run]
      simp only [h c hc]
      rw [run_digits st h t]
      simp; omega
    · simp [nd, hc]

theorem drop_nd_head : ∀ (l : List UInt8) (c : UInt8) (t : List UInt8), l.drop (nd l) = c :: t → dig c = false
  | [], _, _, h => by simp at h
  | x :: xs, c, t, h => by
    by_cases hx : dig x = true
    · simp only [nd, hx, if_true, List.drop_succ_cons] at h
      exact drop_nd_head xs c t h
    · simp [nd, hx] at h
      rw [← h.1]; simpa using hx

theorem ans_map (r : Nat × Nat) (k : Nat) : ans (r.1 + k, r.2) = (ans r).map (· + k) := by
  unfold ans; split <;> simp_all

theorem st8 : ∀ c, dig c = true → step 8 c = some 8 := by intro c h; simp [step, h]
theorem st3 : ∀ c, dig c = true → step 3 c = some 3 := by intro c h; simp [step, h]
theorem st5 : ∀ c, dig c = true → step 5 c = some 5 := by intro c h; simp [step, h]

theorem run8 (l : List UInt8) : ans (run 8 l) = some (nd l) := by
  rw [run_digits 8 st8, ans_map]
  cases h : l.drop (nd l) with
  | nil => simp [run, ans, acc]
  | cons c t =>
    have := drop_nd_head l c t h
    simp [run, step, this, ans, acc]

/-- behind the digits of the whole part (2 | 3) or of the fraction (5): the exponent -/
theorem run7 (l : List UInt8) : ans (run 7 l) = if nd l = 0 then none else some (nd l) := by
  cases l with
  | nil => simp [run, ans, acc, nd]
  | cons c t =>
    by_cases hc : dig c = true
    · simp only [run, step, hc, if_true, nd]
      rw [ans_map, run8]; simp
    · simp [run, step, hc, ans, acc, nd]

theorem run6 (l : List UInt8) : ans (run 6 l) = match l with
      | [] => none
      | d :: u => if d = 43 ∨ d = 45 then (if nd u = 0 then none else some (nd u + 1)) else (if nd l = 0 then none else some (nd l)) := by
  cases l with
  | nil => simp [run, ans, acc]
  | cons c t =>
    by_cases hs : c = 43 ∨ c = 45
    · simp only [run, step, hs, if_true]
      rw [ans_map, run7]
      split <;> simp
    · by_cases hc : dig c = true
      · simp only [run, step, hs, hc, if_true, if_false, nd]
        rw [ans_map, run8]; simp
      · simp [run, step, hs, hc, ans, acc, nd]

theorem runE (st : Nat) (hacc : acc st = true) (l : List UInt8) (hs : ∀ c t, l = c :: t → step st c = if c = 101 ∨ c = 69 then some 6 else none) :
    ans (run st l) = expLen l := by
  cases l with
  | nil => simp [run, ans, hacc, expLen]
  | cons c t =>
    have := hs c t rfl
    rw [run, this]
    by_cases hc : c = 101 ∨ c = 69
    · simp only [hc, if_true, expLen]
      rw [ans_map, run6]
      cases t with
      | nil => simp
      | cons d u =>
        simp only
        split <;> split <;> simp
    · simp [hc, ans, hacc, expLen]

theorem dig_ne {c : UInt8} {n : UInt8} (h : dig c = true) (hn : dig n = false) : c ≠ n := by
  intro e; subst e; rw [h] at hn; cases hn

theorem run5 (l : List UInt8) : ans (run 5 l) = (expLen (l.drop (nd l))).map (· + nd l) := by
  rw [run_digits 5 st5, ans_map, runE 5 rfl]
  intro c t h
  have := drop_nd_head l c t h
  simp [step, this]

theorem run4 (l : List UInt8) : ans (run 4 l) = if nd l = 0 then none else (expLen (l.drop (nd l))).map (· + nd l) := by
  cases l with
  | nil => simp [run, ans, acc, nd]
  | cons c t =>
    by_cases hc : dig c = true
    · simp only [run, step, hc, if_true, nd]
      rw [ans_map, run5]
      simp [Option.map_map]
      congr 1
    · simp [run, step, hc, ans, acc, nd]

/-- behind the whole part -/
def tailLen (l : List UInt8) : Option Nat :=
  match fracLen l with
  | none => none
  | some c => (expLen (l.drop c)).map (· + c)

theorem runT (st : Nat) (hacc : acc st = true) (l : List UInt8) (hs : ∀ c t, l = c :: t → step st c = if c = 46 then some 4 else if c = 101 ∨ c = 69 then some 6 else none) :
    ans (run st l) = tailLen l := by
  cases l with
  | nil => simp [run, ans, hacc, tailLen, fracLen, expLen]
  | cons c t =>
    by_cases hc : c = 46
    · rw [run, hs c t rfl]
      simp only [hc, if_true]
      rw [ans_map, run4]
      unfold tailLen fracLen
      simp only [if_true]
      by_cases h0 : nd t = 0
      · simp [h0]
      · simp [h0, Option.map_map]
        congr 1
    · rw [runE st hacc (c :: t)]
      · simp [tailLen, fracLen, hc]
      · intro c' t' h
        cases h
        rw [hs c t rfl]; simp [hc]

theorem run3 (l : List UInt8) : ans (run 3 l) = (tailLen (l.drop (nd l))).map (· + nd l) := by
  rw [run_digits 3 st3, ans_map, runT 3 rfl]
  intro c t h
  have := drop_nd_head l c t h
  simp [step, this]

theorem run2 (l : List UInt8) : ans (run 2 l) = tailLen l := by
  rw [runT 2 rfl]
  intro c t h
  simp [step]

theorem run01 (st : Nat) (h0 : acc st = false) (l : List UInt8) (hs : ∀ c t, l = c :: t → step st c = if c = 48 then some 2 else if dig c then some 3 else none) :
    ans (run st l) = match intLen l with
      | none => none
      | some b => (tailLen (l.drop b)).map (· + b) := by
  cases l with
  | nil => simp [run, ans, h0, intLen]
  | cons c t =>
    rw [run, hs c t rfl]
    by_cases hc : c = 48
    · simp only [hc, if_true, intLen]
      rw [ans_map, run2]; simp
    · by_cases hd : dig c = true
      · simp only [hc, hd, if_true, if_false, intLen]
        rw [ans_map, run3]; simp [Option.map_map]; congr 1
      · simp [hc, hd, ans, h0, intLen]

/-- THE LAW -/
theorem num_run (l : List UInt8) : ans (run 0 l) = numLen l := by
  cases l with
  | nil => simp [run, ans, acc, numLen, sgnLen, intLen]
  | cons c t =>
    by_cases hc : c = 45
    · rw [run]
      simp only [step, hc, if_true]
      rw [ans_map, run01 1 rfl t (by intro c t _; simp [step])]
      unfold numLen
      simp only [sgnLen, if_true, List.drop_succ_cons, List.drop_zero]
      cases hi : intLen t with
      | none => simp
      | some b =>
        simp only [tailLen]
        rw [Nat.add_comm 1 b, List.drop_succ_cons]
        cases hf : fracLen (t.drop b) with
        | none => simp
        | some d =>
          simp only []
          rw [show b + 1 + d = (b + d) + 1 from by omega, List.drop_succ_cons]
          simp only [List.drop_drop]
          cases he : expLen (t.drop (b + d)) with
          | none => simp
          | some e => simp; omega
    · rw [run01 0 rfl (c :: t) (by intro c' t' h; cases h; simp [step, hc])]
      unfold numLen
      simp only [sgnLen, hc, if_false, List.drop_zero, Nat.zero_add]
      cases hi : intLen (c :: t) with
      | none => simp
      | some b =>
        simp only [tailLen]
        cases hf : fracLen ((c :: t).drop b) with
        | none => simp
        | some d =>
          simp only [List.drop_drop]
          cases he : expLen ((c :: t).drop (b + d)) with
          | none => simp
          | some e => simp; omega
end NumLaw
